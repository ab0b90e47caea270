import PyProof.Rows.All
import Wide.All
import OpenK.AllK
import Wide.FinOn
import PyProof.FactsAll.str_8
import PyProof.FactsAll.str_3
import Lean
import PySem.Challenge.RW_ij0034_01

open PySem PySem.W PySem.Calls PyProof.Rows
set_option maxRecDepth 100000
set_option maxHeartbeats 8000000
set_option Elab.async false
set_option compiler.extract_closed false

set_option linter.unusedVariables false
set_option autoImplicit false
namespace Mine

section
theorem isList_keeps {h h' : Heap} {l : Addr} {its : Array Value} (hk : ∀ b o, h.get? b = some o → h'.get? b = some o) (hl : h.IsList l its) : h'.IsList l its := by
  obtain ⟨o, ho, r⟩ := hl
  exact ⟨o, hk _ _ ho, r⟩
noncomputable def setO (m : Str → Option Value) (x : Str) (o : Option Value) : Str → Option Value := fun y => if y = x then o else m y
theorem setO_same {m : Str → Option Value} {x : Str} : setO m x (m x) = m := by
  funext y; unfold setO; split <;> simp_all
theorem setO_set {m : Str → Option Value} {x : Str} {o p : Option Value} : (fun y => if y = x then o else setO m x p y) = setO m x o := by
  funext y; unfold setO; split <;> simp_all
section
variable {prog : Program} {w : World} {A : Around} {E : Value → Shared → Prop} {s : Shared} {l : Addr} {vs : List Value} {t u : Tok} {x : Str}
theorem r_len {Q : Value → Shared → Prop} (hl : s.heap.IsList l vs.toArray) (hf : vs.length ≤ 100000) (h : ∀ t k, Q (.int (vs.length : Int) t) { s with toks := k }) :
    wpAny (model prog w) A (call (.builtin "len") [.ref l]) Q E s :=
  call_len_list hl (by simp; omega) (by simpa using h _ _)
theorem r_lenstr {Q : Value → Shared → Prop} (hf : x.length ≤ 100000) (h : ∀ t k, Q (.int (x.cps.toList.length : Int) t) { s with toks := k }) :
    wpAny (model prog w) A (call (.builtin "len") [.str x t]) Q E s :=
  P.len_str (by omega) (by simpa [PySem.Str.length] using h _ _)
theorem r_item {value slice : Expr} {k : Int} {v : Value} {Q : Value → Shared → Prop} (hl : s.heap.IsList l vs.toArray) (h0 : 0 ≤ k) (hf : k < 100000) (hx : vs[k.toNat]? = some v) (h : Q v s)
    (hs : subscripted slice false (.ref l) (.int k u) = operate [.ref l, .int k u] (getItem (.ref l) (.int k u)) := by with_unfolding_all rfl) :
    wpAny (model prog w) A (subscriptTail value slice (.ref l) (.int k u)) Q E s :=
  tail_any hl.typeIs slot_list_getitem.lookup (wpAny_getItem_list hl h0 (by omega) (by simpa using hx) h) hs
theorem item_eq {z : Int} (h0 : 0 ≤ z) (hk : z < (x.cps.toList.length : Int)) : Txt.item x z = ⟨#[x.cps.toList.getD z.toNat 0]⟩ := by
  have hl : x.cps.toList.length = x.length := by simp [PySem.Str.length]
  have hi : seqIndex? z x.length = some z.toNat := by
    have hc : ¬ (z < 0) := by omega
    unfold seqIndex?
    simp only [hc, if_false]
    rw [if_pos]
    simp; omega
  unfold Txt.item Txt.charAt
  rw [hi]
  simp
theorem r_stritem {value slice : Expr} {z : Int} {Q : Value → Shared → Prop} (h0 : 0 ≤ z) (hk : z < (x.cps.toList.length : Int)) (hf : x.length ≤ 100000) (h : ∀ t' tk, Q (.str ⟨#[x.cps.toList.getD z.toNat 0]⟩ t') { s with toks := tk })
    (hs : subscripted slice false (.str x t) (.int z u) = operate [.str x t, .int z u] (getItem (.str x t) (.int z u)) := by with_unfolding_all rfl)
    (ht : ∀ r, letTemporaryGo value (.str x t) r = pure () := by intro _; with_unfolding_all rfl) :
    wpAny (model prog w) A (subscriptTail value slice (.str x t) (.int z u)) Q E s := by
  have hl : x.cps.toList.length = x.length := by simp [PySem.Str.length]
  refine item_str (fitsSsize_of (N := 9223372036854775808) (by omega) (by omega) (Int.le_refl _)) (by omega) (by omega) (fun _ => ?_) hs ht
  have e : Txt.item x z = ⟨#[x.cps.toList.getD z.toNat 0]⟩ := by
    have hi : seqIndex? z x.length = some z.toNat := by
      have hc : ¬ (z < 0) := by omega
      unfold seqIndex?
      simp only [hc, if_false]
      rw [if_pos]
      simp; omega
    unfold Txt.item Txt.charAt
    rw [hi]
    simp
  rw [e]
  exact h _ _
end
theorem pick_from {vs : List Value} {x : Int} (h : 0 ≤ x) : (slicePick vs.toArray (some x) none none).toList = vs.drop x.toNat := by
  have h' : ¬ (x < 0) := by omega
  rw [kms_pick_eq]
  simp only [kms_pick, kms_lo, kms_hi, h', if_false]
  rw [kmk_drop_min]
  have : (vs.length - min x.toNat vs.length) = (vs.drop x.toNat).length := by rw [List.length_drop]; omega
  rw [this, List.take_length]
theorem pick_to {vs : List Value} {y : Int} (h : 0 ≤ y) : (slicePick vs.toArray none (some y) none).toList = vs.take y.toNat := by
  have h' : ¬ (y < 0) := by omega
  rw [kms_pick_eq]
  simp only [kms_pick, kms_lo, kms_hi, h', if_false, List.drop_zero, Nat.sub_zero]
  rw [kmk_take_min]
theorem pick_run {vs : List Value} {x y : Int} (h : 0 ≤ x) (h2 : 0 ≤ y) : (slicePick vs.toArray (some x) (some y) none).toList = (vs.drop x.toNat).take (y.toNat - x.toNat) := by
  have h' : ¬ (x < 0) := by omega
  have h2' : ¬ (y < 0) := by omega
  rw [kms_pick_eq]
  simp only [kms_pick, kms_lo, kms_hi, h', h2', if_false]
  rw [kmk_drop_min]
  apply List.ext_getElem?
  intro i
  simp only [List.getElem?_take, List.getElem?_drop]
  by_cases hi : x.toNat + i < vs.length
  · split <;> split <;> first | rfl | omega
  · rw [List.getElem?_eq_none (by omega)]; simp
section
variable {prog : Program} {w : World} {A : Around} {E : Value → Shared → Prop} {s : Shared} {h₀ : Heap} {L l : Addr} {m : Str → Option Value} {news : List (Addr × Obj)} {value slice : Expr} {vs zs : List Value} {t u : Tok} {x y : Int} {Q : Value → Shared → Prop}
theorem r_slice {vl vu : Value} {lo hi : Option Int} (F : Fr h₀ L s.heap m) (N : News h₀ L s.heap news) (hl : s.heap.IsList l vs.toArray) (pl : IsPart vl lo) (pu : IsPart vu hi) (e : (slicePick vs.toArray lo hi none).toList = zs) (hz : vs.length ≤ 100000)
    (h : ∀ D h', Fr h₀ L h' m → News h₀ L h' ((D, listOf zs.toArray 0) :: news) → (∀ p ∈ news, p.1 < D) → Q (.ref D) { s with heap := h' })
    (hs : subscripted slice false (.ref l) (.ref s.heap.objs.size) = operate [.ref s.heap.objs.size, .ref l] (getItem (.ref l) (.ref s.heap.objs.size)) := by with_unfolding_all rfl) :
    wpAny (model prog w) A (subscriptTail value slice (.ref l) (.ref s.heap.objs.size)) Q E { s with heap := s.heap.push { cls := .type "slice", data := .fields #[vl, vu, .none] } } := by
  have hl2 : (s.heap.push { cls := .type "slice", data := .fields #[vl, vu, .none] }).IsList l vs.toArray := hl.push _
  refine tail_any (T := "list") (Heap.IsList.typeIs (s := { s with heap := s.heap.push { cls := .type "slice", data := .fields #[vl, vu, .none] } }) hl2) slot_list_getitem.lookup
    (wpAny_getItem_list_slice hl2 (Heap.IsSliceOf.new ..) pl pu .none (by simp) ?_ (by rw [sizeLine_eq]; simp; omega)) hs
  have e' : slicePick vs.toArray lo hi none = zs.toArray := by rw [← e, Array.toArray_toList]
  have N1 := News.push (F.push { cls := .type "slice", data := .fields #[vl, vu, .none] }) (N.grown fun _ _ e => Heap.get?_push_of_some _ e) { cls := .type "list", data := .seq (slicePick vs.toArray lo hi none) }
  rw [e'] at N1 ⊢
  exact h _ _ ((F.push _).push _) N1 fun p hp => Nat.lt_of_lt_of_le (Heap.lt_size (N p hp).1) (by rw [Heap.size_push]; exact Nat.le_succ _)
end

theorem pick_toN {vs : List Value} {k : Nat} : (slicePick vs.toArray none (some (k : Int)) none).toList = vs.take k := by
  have := pick_to (vs := vs) (y := (k : Int)) (by omega)
  rwa [Int.toNat_natCast] at this
theorem pick_fromN {vs : List Value} {k : Nat} : (slicePick vs.toArray (some (k : Int)) none none).toList = vs.drop k := by
  have := pick_from (vs := vs) (x := (k : Int)) (by omega)
  rwa [Int.toNat_natCast] at this
theorem pick_runN {vs : List Value} {a b : Nat} {x y : Int} (hx : x = (a : Int)) (hy : y = ((a + b : Nat) : Int)) : (slicePick vs.toArray (some x) (some y) none).toList = (vs.drop a).take b := by
  subst hx hy
  have := pick_run (vs := vs) (x := (a : Int)) (y := ((a + b : Nat) : Int)) (by omega) (by omega)
  rw [Int.toNat_natCast, Int.toNat_natCast] at this
  rw [this]
  congr 1
  omega
theorem map_inj {a b : List Nat} : (a.map Int.ofNat = b.map Int.ofNat) ↔ a = b := by
  constructor
  · intro h
    have := congrArg (List.map Int.toNat) h
    simpa [List.map_map, Function.comp_def] using this
  · intro h; rw [h]

theorem ne_no {a b : List Nat} (h : a = b) : (!decide (a.map Int.ofNat = b.map Int.ofNat)) = false := by rw [decide_eq_true (map_inj.mpr h)]; rfl
theorem ne_yes {a b : List Nat} (h : ¬ a = b) : (!decide (a.map Int.ofNat = b.map Int.ofNat)) = true := by rw [decide_eq_false (fun q => h (map_inj.mp q))]; rfl

end

section
theorem range_up {n : Nat} (h : n ≤ 100000) : Builtin.Range.small 0 (n : Int) 1 = true ∧ Builtin.Range.rangeSize 0 (n : Int) 1 = (n : Int) := by
  constructor
  · exact small_one (by decide) (by decide) (by lia) (by lia)
  · unfold Builtin.Range.rangeSize
    simp
    intro h
    subst h
    rfl
section
variable {prog : Program} {w : World} {A : Around} {E : Value → Shared → Prop} {s : Shared} {env : Env} {h₀ : Heap} {x : Str} {body : List Stmt} {Q : Flow → Shared → Prop}
/-- a for over a range, by what holds between its turns -/
theorem loop_range {r : Addr} {a₀ b₀ : Int} {t₀ u₀ v₀ : Tok} (n : Nat) {m₀ : Str → Option Value} {news : List (Addr × Obj)} (J : Nat → (Str → Option Value) → List (Addr × Obj) → Prop)
    (hh : A.handled = none) (hr : IsRange s.heap r a₀ b₀ 1 t₀ u₀ v₀) (hsmall : Builtin.Range.small a₀ b₀ 1 = true) (hn : Builtin.Range.rangeSize a₀ b₀ 1 = (n : Int)) (F : Fr h₀ env.locals s.heap m₀) (N : News h₀ env.locals s.heap news)
    (hJ : J 0 m₀ news)
    (turn : ∀ i t m₁ news₁ h tk I it, i < n → J i m₁ news₁ → Fr h₀ env.locals h (fun y => if y = x then some (.int (a₀ + (i : Int)) t) else m₁ y) → News h₀ env.locals h ((I, it) :: news₁) →
      wpAny (model prog w) A (execs body env) (UnrPost h₀ env.locals { s with heap := h, toks := tk } I it (J (i + 1)) Q) E { s with heap := h, toks := tk })
    (done : ∀ m₁ news₁ h tk, J n m₁ news₁ → Fr h₀ env.locals h m₁ → News h₀ env.locals h news₁ → Q .next { s with heap := h, toks := tk }) :
    wpAny (model prog w) A (pyIter (.ref r)) (fun it s₂ => LoopAtV prog w A h₀ env x body Q E it s₂) E s := by
  refine iter_rangeUnr hh hr hsmall hn F N fun I hI => ?_
  have all : ∀ k i m news, i + k = n → J i m news → RangeRest prog w A E h₀ env x body Q s I a₀ n k i m news := by
    intro k
    induction k with
    | zero =>
      intro i m news hi hJ
      have e : i = n := by lia
      subst e
      exact RangeRest.zero fun h tk F N => done m news h tk hJ F N
    | succ k ih =>
      intro i m news hi hJ
      refine RangeRest.succ fun t h tk F N => ?_
      refine wpAny_mono (turn i t m news h tk I _ (by lia) hJ F N) (fun f s₂ p => ?_) fun _ _ e => e
      have fin : UnrEnd h₀ env.locals { s with heap := h, toks := tk } I (itR (a₀ + ((i + 1 : Nat) : Int)) ((n : Int) - ((i + 1 : Nat) : Int))) (J (i + 1)) s₂ →
          UnrEnd h₀ env.locals { s with heap := h, toks := tk } I (itR (a₀ + ((i + 1 : Nat) : Int)) ((n : Int) - ((i + 1 : Nat) : Int))) (RangeRest prog w A E h₀ env x body Q s I a₀ n k (i + 1)) s₂ := by
        rintro ⟨h', tk', m', news', e, F', N', o, j⟩
        exact ⟨h', tk', m', news', e, F', N', o, ih (i + 1) m' news' (by lia) j⟩
      cases f with
      | ret v => exact p
      | brk => exact p
      | next => exact fin p
      | cont => exact fin p
  exact all n 0 m₀ news (by lia) hJ

/-- a for over a list of the ledger's -/
theorem loop_list {ax : Addr} {lo : Obj} {vs : List Value} {n : Nat} {m₀ : Str → Option Value} {news : List (Addr × Obj)} (J : Nat → (Str → Option Value) → List (Addr × Obj) → Prop)
    (hh : A.handled = none) (F : Fr h₀ env.locals s.heap m₀) (N : News h₀ env.locals s.heap news) (hm : (ax, lo) ∈ news) (hc : lo.cls = .type "list") (hd : lo.data = .seq vs.toArray n)
    (hJ : J 0 m₀ news)
    (turn : ∀ i v m₁ news₁ h tk I it, vs[i]? = some v → J i m₁ news₁ → (ax, lo) ∈ news₁ → it.cls = .type "list_iterator" → Fr h₀ env.locals h (fun y => if y = x then some v else m₁ y) → News h₀ env.locals h ((I, it) :: news₁) → (∀ p ∈ news, p.1 < I) →
      wpAny (model prog w) A (execs body env) (UnrPost h₀ env.locals { s with heap := h, toks := tk } I it (fun m' n' => (ax, lo) ∈ n' ∧ J (i + 1) m' n') Q) E { s with heap := h, toks := tk })
    (done : ∀ m₁ news₁ h tk, J vs.length m₁ news₁ → (ax, lo) ∈ news₁ → Fr h₀ env.locals h m₁ → News h₀ env.locals h news₁ → Q .next { s with heap := h, toks := tk }) :
    wpAny (model prog w) A (pyIter (.ref ax)) (fun it s₂ => LoopAtV prog w A h₀ env x body Q E it s₂) E s := by
  refine iter_listUnr hh F N hm hc hd fun I hI => ?_
  have all : ∀ (r : List Value) (i : Nat) m news, vs.drop i = r → (ax, lo) ∈ news → J i m news → i ≤ vs.length → ListRest prog w A E h₀ env x body Q s I (ax, lo) r m news := by
    intro r
    induction r with
    | nil =>
      intro i m news hi hmem hJ hle
      have : vs.length ≤ i := List.drop_eq_nil_iff.mp hi
      have e : i = vs.length := by lia
      subst e
      exact ListRest.zero fun h tk F N => done m news h tk hJ hmem F N
    | cons v r ih =>
      intro i m news hi hmem hJ hle
      have hlt : i < vs.length := by
        rcases Nat.lt_or_ge i vs.length with q | q
        · exact q
        · rw [List.drop_eq_nil_of_le q] at hi; cases hi
      have hv : vs[i]? = some v := by
        have := List.drop_eq_getElem_cons hlt
        rw [hi] at this
        injection this with a b
        rw [List.getElem?_eq_getElem hlt, a]
      have hr : vs.drop (i + 1) = r := by
        have := List.drop_eq_getElem_cons hlt
        rw [hi] at this
        injection this with a b
        exact b.symm
      refine ListRest.succ fun it h tk hit F N => ?_
      refine wpAny_mono (turn i v m news h tk I it hv hJ hmem hit F N hI) (fun f s₂ p => ?_) fun _ _ e => e
      have fin : UnrEnd h₀ env.locals { s with heap := h, toks := tk } I it (fun m' n' => (ax, lo) ∈ n' ∧ J (i + 1) m' n') s₂ →
          UnrEnd h₀ env.locals { s with heap := h, toks := tk } I it (fun m' n' => (ax, lo) ∈ n' ∧ ListRest prog w A E h₀ env x body Q s I (ax, lo) r m' n') s₂ := by
        rintro ⟨h', tk', m', news', e, F', N', o, hm', j⟩
        exact ⟨h', tk', m', news', e, F', N', o, hm', ih (i + 1) m' news' hr hm' j hlt⟩
      cases f with
      | ret v => exact p
      | brk => exact p
      | next => exact fin p
      | cont => exact fin p
  exact all vs 0 m₀ news (by simp) hm hJ (Nat.zero_le _)
end

end

section
noncomputable abbrev pw := PySem.Challenge.pw_ij0034_01

/-- a def of the text stands at an address -/
noncomputable def FnAt (h : Heap) (a : Addr) (k : Nat) (dV : Value) : Prop :=
  ∃ name params body ds ret tps scope tscope bind pos oc od osl kV doc pm an cdv ct,
    pw.main.body[k]? = some (.FunctionDef name params body ds ret tps scope tscope bind pos) ∧
    h.get? a = some ⟨oc, od, .func (fnX name name params body scope [] dV kV doc pm an cdv ct), osl⟩ ∧ h.CodeRec cdv name ∧ kV = .none
theorem FnAt.keeps {h h' : Heap} {a : Addr} {k : Nat} {dV : Value} (hk : ∀ b o, h.get? b = some o → h'.get? b = some o) (x : FnAt h a k dV) : FnAt h' a k dV := by
  obtain ⟨name, params, body, ds, ret, tps, scope, tscope, bind, pos, oc, od, osl, kV, doc, pm, an, cdv, ct, h1, h2, h3, h4⟩ := x
  exact ⟨name, params, body, ds, ret, tps, scope, tscope, bind, pos, oc, od, osl, kV, doc, pm, an, cdv, ct, h1, hk _ _ h2, h3.keeps hk, h4⟩

noncomputable def RetQ (R : Result → Shared → Prop) (fl : Flow) (s' : Shared) : Prop := R (.ok (.ret (match fl with | .ret v => v | _ => .none))) s'
/-- what a call leaves: all that stood stands -/
noncomputable def Back (s : Shared) (R : Result → Shared → Prop) (P : Heap → Value → Prop) : Prop :=
  ∀ v h' tk, (∀ b o, s.heap.get? b = some o → h'.get? b = some o) → P h' v → R (.ok (.ret v)) { s with heap := h', toks := tk }

section
variable {prog : Program} {w : World} {A : Around} {s : Shared} {R : Result → Shared → Prop}
theorem enter {k : Nat} {name : Str} {params : Arguments} {body : List Stmt} {ds ret tps} {scope : Scope} {tscope bind pos} {dV : Value} {f : Addr} {args : List Value} (binds : List (Str × Value))
    (hlit : pw.main.body[k]? = some (.FunctionDef name params body ds ret tps scope tscope bind pos)) (hf : FnAt s.heap f k dV) (hlim : s.heap.NoLimit) (hroom : A.depth < recursionLimit)
    (hbind : ∀ doc pm an cdv ct, BindsTo s (fnX name name params body scope [] dV .none doc pm an cdv ct) ⟨args, []⟩ binds) (hloc : ∀ y ∈ binds, scope.names.lookup y.1 = some .local)
    (h : ∀ L h₁ tk cdv, Fr s.heap L h₁ (fun y => binds.reverse.lookup y) → News s.heap L h₁ [] →
      wpAny (model prog w) (A.deeper (envX name scope L f cdv [])) (execs body (envX name scope L f cdv [])) (RetQ R) (fun _ _ => False) { s with heap := h₁, toks := tk })
    (hcell : ∀ x ∈ scope.names, x.2 ≠ .cell) (hco : scope.isCoroutine = false) (hgen : scope.isGenerator = false) (hk : scope.kind = .function) : codeAny (model prog w) A (.call (.ref f) ⟨args, []⟩) R s := by
  obtain ⟨name', params', body', ds', ret', tps', scope', tscope', bind', pos', oc, od, osl, kV, doc, pm, an, cdv, ct, h1, h2, h3, h4⟩ := hf
  rw [hlit] at h1
  cases h1
  subst h4
  refine codeAny_call_def (fd := fnX name name params body scope [] dV .none doc pm an cdv ct) (body := body) (binds := binds) hroom h2 rfl hlim h3 rfl (hbind _ _ _ _ _) hcell hloc (fun h₁ hns hk₁ => ?_) hco hgen hk
  exact wpAny_mono (h _ h₁ _ _ ⟨hns, hk₁, Nat.le_refl _⟩ News.nil) (fun _ _ x => x) (fun _ _ x => x.elim)
end

section
variable {M : Model} {A : Around} {E : Value → Shared → Prop} {s : Shared} {h₀ : Heap} {L a : Addr} {m mg mb : Str → Option Value} {cn : Str} {cs : Scope} {ccd : Value} {cl : List (Str × Addr)}
  {x : Str} {pos : Pos} {v : Value} {Q : Value → Shared → Prop}
theorem nameG (F : Fr h₀ L s.heap m) (hg : h₀.Ns mainGlobals mg) (e : mg x = some v) (h : Q v s)
    (hk : cs.kind = .function := by rfl) (hx : (envX cn cs L a ccd cl).kindOf x = some .globalImplicit := by rfl) (hd : (x == ("__debug__" : Str)) = false := by decide) :
    wpAny M A (eval (.Name x pos) (envX cn cs L a ccd cl)) Q E s := Name_function_global hk hx (loadGlobal_global (env := envX cn cs L a ccd cl) (hg.keeps F.keep) e h) hd
theorem nameGB (F : Fr h₀ L s.heap m) (hg : h₀.Ns mainGlobals mg) (hb : h₀.Ns builtinsNs mb) (e : mg x = none) (hbb : ∀ x : Str, x ≠ "__name__" → mb x = bootBuiltins x) (hv : bootBuiltins x = some v) (hn : x ≠ "__name__") (h : Q v s)
    (hk : cs.kind = .function := by rfl) (hx : (envX cn cs L a ccd cl).kindOf x = some .globalImplicit := by rfl) (hd : (x == ("__debug__" : Str)) = false := by decide) :
    wpAny M A (eval (.Name x pos) (envX cn cs L a ccd cl)) Q E s :=
  Name_function_global hk hx (loadGlobal_builtin (env := envX cn cs L a ccd cl) (hg.keeps F.keep) e (hb.keeps F.keep) ((hbb x hn).trans hv) h) hd
theorem keeps_F {a : Addr} {k : Nat} {dV : Value} (h : Heap) (x : FnAt h a k dV) : ∃ kp, (kp = Keeper.frame ∨ kp = Keeper.machine ∨ kp = Keeper.boundFrame) ∧ Looks M h (keeperOf (.ref a)) kp := by
  obtain ⟨name', params', body', ds', ret', tps', scope', tscope', bind', pos', oc, od, osl, kV, doc, pm, an, cdv, ct, h1, h2, h3, h4⟩ := x
  exact ⟨.frame, .inl rfl, (Looks.ld (part := none) h2).andThen .now⟩
theorem callWith_F {env : Env} {f : Addr} {k : Nat} {dV : Value} {first : List Value} {e : Expr} {rest : List Expr} (_x : FnAt h₀ f k dV) (h : wpAny M A (spliced (backTo pos (starEach (e :: rest) env))) (fun vs s₁ => FnAt s₁.heap f k dV ∧ wpAny M A (call (.ref f) (first ++ vs)) Q E s₁) E s)
    (he : starEach (e :: rest) env = (false, eval e env) :: starEach rest env := by rfl) (hplain : (backTo pos (starEach rest env)).any (·.1) = false := by rfl) :
    wpAny M A (callWith pos (.ref f) first (backTo pos (starEach (e :: rest) env)) []) Q E s := by
  rw [he] at h ⊢
  exact callWith_of (P := fun h => FnAt h f k dV) (by show ((false || (backTo pos (starEach rest env)).any (·.1)) || false) = false; rw [hplain]; rfl) keeps_F (evalArgs_plain h)
end

structure Fns where
  hdr : Addr
  tr : Addr
  esc : Addr
  tra : Addr
  join : Addr
  rows : Addr
  runs : Addr
  at_ : Addr
  takes : Addr
  wide : Addr
  end_ : Addr
  told : Addr
  law : Addr
  hmap : Addr
  smap : Addr
  dflt : Value
  mg : Str → Option Value
  mb : Str → Option Value

noncomputable def usedBuiltins : List Str := ["len", "range", "chr", "max", "bytes", "sum", "object", "isinstance", "str"]
/-- what the top leaves, as far as the law asks it -/
structure Gd (f : Fns) (h : Heap) : Prop where
  g : h.Ns mainGlobals f.mg
  b : h.Ns builtinsNs f.mb
  nolimit : h.NoLimit
  bb : ∀ x : Str, x ≠ "__name__" → f.mb x = bootBuiltins x
  free : ∀ x ∈ usedBuiltins, f.mg x = none
  n_hdr : f.mg "header_encode" = some (.ref f.hdr)
  n_tr : f.mg "translate" = some (.ref f.tr)
  n_esc : f.mg "escape" = some (.ref f.esc)
  n_tra : f.mg "_translate" = some (.ref f.tra)
  n_join : f.mg "_join_translated_parts" = some (.ref f.join)
  n_rows : f.mg "_law_rows" = some (.ref f.rows)
  n_runs : f.mg "_law_runs" = some (.ref f.runs)
  n_at : f.mg "_law_at" = some (.ref f.at_)
  n_takes : f.mg "_law_takes" = some (.ref f.takes)
  n_wide : f.mg "_law_wide" = some (.ref f.wide)
  n_end : f.mg "_law_end" = some (.ref f.end_)
  n_told : f.mg "_law_told" = some (.ref f.told)
  n_hmap : f.mg "_QUOPRI_HEADER_MAP" = some (.ref f.hmap)
  n_smap : f.mg "_special_chars_map" = some (.ref f.smap)
  f_hdr : FnAt h f.hdr 12 f.dflt
  f_tr : FnAt h f.tr 18 .none
  f_esc : FnAt h f.esc 21 .none
  f_tra : FnAt h f.tra 23 .none
  f_join : FnAt h f.join 24 .none
  f_rows : FnAt h f.rows 26 .none
  f_runs : FnAt h f.runs 27 .none
  f_at : FnAt h f.at_ 28 .none
  f_takes : FnAt h f.takes 29 .none
  f_wide : FnAt h f.wide 30 .none
  f_end : FnAt h f.end_ 31 .none
  f_told : FnAt h f.told 32 .none
theorem Gd.keeps {f : Fns} {h h' : Heap} (hk : ∀ b o, h.get? b = some o → h'.get? b = some o) (G : Gd f h) : Gd f h' :=
  ⟨G.g.keeps hk, G.b.keeps hk, G.nolimit.keeps hk, G.bb, G.free, G.n_hdr, G.n_tr, G.n_esc, G.n_tra, G.n_join, G.n_rows, G.n_runs, G.n_at, G.n_takes, G.n_wide, G.n_end, G.n_told, G.n_hmap, G.n_smap,
    G.f_hdr.keeps hk, G.f_tr.keeps hk, G.f_esc.keeps hk, G.f_tra.keeps hk, G.f_join.keeps hk, G.f_rows.keeps hk, G.f_runs.keeps hk, G.f_at.keeps hk, G.f_takes.keeps hk, G.f_wide.keeps hk, G.f_end.keeps hk, G.f_told.keeps hk⟩

end

section
open Builtin
theorem forIn_walk {β : Type} (J : Nat → β → Prop) (n : Nat) (f : Nat → β → Sem (ForInStep β)) (step : ∀ i x, i < n → J i x → ∃ y, f i x = pure (ForInStep.yield y) ∧ J (i + 1) y) :
    ∀ (k i : Nat) (x : β), i + k = n → J i x → ∃ y, forIn (List.range' i k 1) x f = pure y ∧ J n y
  | 0, i, x, h, hx => ⟨x, by rw [List.range'_zero, List.forIn_nil], by
      have e : i = n := by lia
      exact e ▸ hx⟩
  | k + 1, i, x, h, hx => by
    obtain ⟨y, e, hy⟩ := step i x (by lia) hx
    obtain ⟨z, e2, hz⟩ := forIn_walk J n f step k (i + 1) y (by lia) hy
    refine ⟨z, ?_, hz⟩
    rw [List.range'_succ, List.forIn_cons, e]
    exact e2
theorem forIn_then {β γ : Type} (J : Nat → β → Prop) {n : Nat} {f : Nat → β → Sem (ForInStep β)} {x : β} {g : β → Sem γ} {r : γ} (h0 : J 0 x)
    (step : ∀ i x, i < n → J i x → ∃ y, f i x = pure (ForInStep.yield y) ∧ J (i + 1) y) (hg : ∀ y, J n y → g y = pure r) : (forIn (List.range' 0 n 1) x f >>= g) = pure r := by
  obtain ⟨y, e, hy⟩ := forIn_walk J n f step n 0 x (by lia) h0
  rw [e, ← hg y hy]
  rfl
noncomputable def latinJ (b : Array UInt8) (i : Nat) (x : Nat × Array Nat × _codecs.Faults) : Prop := x.1 = i ∧ x.2.1 = ((b.toList.take i).map fun c => c.toNat).toArray
theorem latin_run (id : String) (b : Array UInt8) (hb : b.size ≤ sizeLine) : _codecs.runDecoder id _codecs.latin1Decoder none true b 0 [] = pure ((b.toList.map fun c => c.toNat).toArray, b.size) := by
  unfold _codecs.runDecoder
  dsimp only
  rw [KPc.range_list]
  refine forIn_then (latinJ b) ⟨rfl, by simp⟩ ?_ ?_
  · rintro i ⟨p, out, st⟩ hi ⟨h1, h2⟩
    dsimp only at h1 h2
    subst h1 h2
    refine ⟨(p + 1, (((b.toList.take p).map fun c => c.toNat).toArray ++ [((b.getD p 0).toNat)].toArray, st)), ?_, rfl, ?_⟩
    · rw [if_neg (by simp; lia), if_neg (by lia)]
      rfl
    · have hp : p < b.toList.length := by simpa using hi
      rw [List.take_succ_eq_append_getElem hp, List.map_append]
      simp [Array.getD, hi]
  · rintro ⟨p, out, st⟩ ⟨h1, h2⟩
    dsimp only at h1 h2
    subst h1 h2
    have e3 : b.toList.take b.size = b.toList := List.take_of_length_le (by simp)
    simp only [e3]

section
variable {c : UInt8} {cs : List UInt8} {t : Tok}
theorem latin_road {b : Array UInt8} {id : String} : _codecs.decodeRoad id b (PySem.Str.ofString "latin1") none [] = (_codecs.runDecoder id _codecs.latin1Decoder none true b 0 [] >>= fun r => mkStr ⟨r.1⟩) := by kernel_rfl
noncomputable def latin (b : List UInt8) : Str := ⟨(b.map fun c => c.toNat).toArray⟩
theorem latin_meets_text {b : Array UInt8} (hb : b.size ≤ sizeLine) {t t1 t2 : Tok} {d : Str} :
    Meets («_codecs.decode.text» ⟨[.bytes b t, .str (PySem.Str.ofString "latin1") t1, .none, .str d t2], []⟩) (fun _ R s => R (.ok (.ret (.str (latin b.toList) s.toks))) { s with toks := s.toks + 1 }) := by
  refine .of_wp fun prog w A R s h => ?_
  show wpAny _ _ (Bytes.bytesLike _ (.bytes b t) >>= fun r => _) _ _ s
  refine wpAny_bind (wpAny_of_eq KBd.like_eq ?_)
  refine wpAny_bind (wpAny_of_eq KBd.held_eq ?_)
  show wpAny _ _ (_codecs.decodeRoad _ b (PySem.Str.ofString "latin1") none [] >>= fun v => _) _ _ s
  rw [latin_road, latin_run _ _ hb]
  refine wpAny_bind (wpAny_bind (wpAny_pure ?_))
  exact wpAny_mkStr (wpAny_pure ⟨_, rfl, h⟩) (by simpa [PySem.Str.length] using hb)
theorem latin_entry {u : Tok} : «bytes.decode» ⟨[.bytes (c :: cs).toArray t, .str (PySem.Str.ofString "latin1") u], []⟩ = (mkStr (PySem.Str.ofString "utf-8") >>= fun _ => mkStr (PySem.Str.ofString "latin1") >>= fun e => mkStr (PySem.Str.ofString "bytes.decode") >>= fun d =>
    call (.builtin "_codecs.decode.text") [.bytes (c :: cs).toArray t, e, .none, d] >>= fun v => ret v) := by kernel_rfl
end

end

section
open Builtin
noncomputable def outOf (f : Nat → Str.Mapped) (c : Nat) : List Nat := match f c with
  | .text t => t.cps.toList
  | _ => [c]
noncomputable def flatOf (l : List Str) : List Nat := l.flatMap fun p => p.cps.toList
theorem fold_cps : ∀ (l : List Str) (a : Array Nat), (l.foldl (fun acc p => acc ++ p.cps) a).toList = a.toList ++ flatOf l
  | [], a => by simp [flatOf]
  | p :: l, a => by rw [List.foldl_cons, fold_cps l]; simp [flatOf]
noncomputable def TrOk (f : Nat → Str.Mapped) (x : Str) (Inv : Shared → Prop) (rest : List Nat) (b : List Str × Nat × Bool × List (Nat × Option Nat) × Bool) (s : Shared) : Prop :=
  (∃ pre, pre ++ rest = x.cps.toList ∧ flatOf b.1.reverse = pre.flatMap (outOf f) ∧ b.2.1 ≤ 3 * pre.length) ∧ b.2.2.2.2 = false ∧
  (∀ c a, b.2.2.2.1.lookup c = some a → ∃ d, a = some d ∧ outOf f c = [d]) ∧ Inv s
theorem TrOk.el {f : Nat → Str.Mapped} {x : Str} {Inv : Shared → Prop} {rest : List Nat} (b : List Str × Nat × Bool × List (Nat × Option Nat) × Bool) {s : Shared} {P : List Str × Nat × Bool × List (Nat × Option Nat) × Bool → Prop} (h : TrOk f x Inv rest b s)
    (k : ∀ pieces total fast known pre, pre ++ rest = x.cps.toList → flatOf pieces.reverse = pre.flatMap (outOf f) → total ≤ 3 * pre.length → (∀ c a, known.lookup c = some a → ∃ d, a = some d ∧ outOf f c = [d]) → Inv s → P (pieces, total, fast, known, false)) : P b := by
  obtain ⟨pieces, total, fast, known, afterDrop⟩ := b
  obtain ⟨⟨pre, hpre, hfl, htot⟩, hdrop, hkn, hI⟩ := h
  cases hdrop
  exact k pieces total fast known pre hpre hfl htot hkn hI
theorem flat_snoc (l : List Str) (p : Str) : flatOf (p :: l).reverse = flatOf l.reverse ++ p.cps.toList := by simp [flatOf]
section
variable {prog : Program} {w : World} {A : Around} {E : Value → Shared → Prop} {s : Shared}
theorem translate_wp {x : Str} {t : Tok} {table : Value} {Q : Value → Shared → Prop} (f : Nat → Str.Mapped) (Inv : Shared → Prop)
    (look : ∀ c ∈ x.cps.toList, ∀ (s : Shared) (Q : Str.Mapped → Shared → Prop), Inv s → (∀ s', Inv s' → Q (f c) s') → wpAny (model prog w) A.in1 (Str.tableLookup table c) Q E s)
    (hf : ∀ c ∈ x.cps.toList, f c = .keep ∨ ∃ t, f c = .text t ∧ t.length ≤ 3) (hne : x.length ≠ 0) (hsz : 3 * x.length ≤ 16777216) (hI : Inv s)
    (h : ∀ s', Inv s' → Q (.str ⟨(x.cps.toList.flatMap (outOf f)).toArray⟩ s'.toks) { s' with toks := s'.toks + 1 }) :
    wpAny (model prog w) A (call (.builtin "str.translate") [.str x t, table]) Q E s := by
  refine wpAny_call_entry F.slot_str_translate (typeIs_str s x t) F.entry_str_translate ?_ (F.args_str_translate_2 _ _)
  have hlen : x.cps.toList.length = x.length := by simp [PySem.Str.length]
  unfold «str.translate»
  refine wpAny_bind (wpAny_of_eq (a := (.str x t, x, table)) rfl ?_)
  dsimp only
  rw [if_neg (by simpa using hne)]
  refine wpAny_bind (PySem.MeetsSeq2.wpAny_forIn_array _ (TrOk f x Inv) _ ?_ ?_ _ _ ?_)
  · intro c rest b s hb
    apply TrOk.el b hb
    intro pieces total fast known pre hpre hfl htot hkn hI
    clear hb
    dsimp only
    have hc : c ∈ x.cps.toList := by rw [← hpre]; simp
    have hpl : pre.length + 1 ≤ x.length := by rw [← hlen, ← hpre]; simp
    have hns : ¬ (Str.tooLong total = true) := KPc.short (by lia)
    have next : ∀ (p : Str) (n : Nat) (fast : Bool) (known : List (Nat × Option Nat)) (s : Shared), p.cps.toList = outOf f c → n ≤ 3 → (∀ c a, known.lookup c = some a → ∃ d, a = some d ∧ outOf f c = [d]) → Inv s →
        TrOk f x Inv rest (p :: pieces, total + n, fast, known, false) s := by
      intro p n fast known s hp hn hk hs
      refine ⟨⟨pre ++ [c], by rw [← hpre]; simp, ?_, ?_⟩, rfl, hk, hs⟩
      · dsimp only; rw [flat_snoc, hfl, hp]; simp
      · dsimp only; simp; lia
    have slow : ∀ (Q' : ForInStep (List Str × Nat × Bool × List (Nat × Option Nat) × Bool) → Shared → Prop) (_ : ∀ b s', TrOk f x Inv rest b s' → Q' (.yield b) s') (fast : Bool) (known : List (Nat × Option Nat)) (s : Shared), (∀ c a, known.lookup c = some a → ∃ d, a = some d ∧ outOf f c = [d]) → Inv s →
        wpAny (model prog w) A.in1 (do
          let m ← Str.tableLookup table c
          match m with
          | .keep => pure (ForInStep.yield (({ cps := #[c] } : Str) :: pieces, total + 1, fast, known, false))
          | .drop => pure (ForInStep.yield (pieces, total, fast, known, true))
          | .char d => pure (ForInStep.yield (({ cps := #[d] } : Str) :: pieces, total + 1, fast, known, false))
          | .text t => pure (ForInStep.yield (t :: pieces, total + t.length, fast, known, false)))
          Q' E s := by
      intro Q' hQ fast known s hk hs
      refine wpAny_bind (look c hc s _ hs fun s' hs' => ?_)
      rcases hf c hc with e | ⟨t, e, hl⟩
      · rw [e]
        exact wpAny_pure (hQ _ _ (next _ 1 _ _ _ (by simp [outOf, e]) (by decide) hk hs'))
      · rw [e]
        exact wpAny_pure (hQ _ _ (next _ _ _ _ _ (by simp [outOf, e]) hl hk hs'))
    rw [if_neg hns]
    cases fast with
    | false => exact slow _ (fun _ _ q => q) false known s hkn hI
    | true =>
      rw [if_pos rfl]
      cases hlk : known.lookup c with
      | some a =>
        obtain ⟨d, rfl, hd⟩ := hkn c a hlk
        refine wpAny_bind (wpAny_pure ?_)
        exact wpAny_pure (next _ 1 _ _ _ (by simp [hd]) (by decide) hkn hI)
      | none =>
        refine wpAny_bind (look c hc s _ hI fun s' hI' => ?_)
        have cons : ∀ d, outOf f c = [d] → ∀ c' a, ((c, some d) :: known).lookup c' = some a → ∃ d, a = some d ∧ outOf f c' = [d] := by
          intro d hd c' a hl
          rw [List.lookup_cons] at hl
          split at hl
          · rename_i q
            cases hl
            have : c' = c := by simpa using q
            exact ⟨d, rfl, this ▸ hd⟩
          · exact hkn c' a hl
        rcases hf c hc with e | ⟨t, e, hl⟩
        · rw [e]
          refine wpAny_bind (wpAny_pure ?_)
          exact wpAny_pure (next _ 1 _ _ _ (by simp [outOf, e]) (by decide) (cons c (by simp [outOf, e])) hI')
        · rw [e]
          dsimp only
          by_cases ht : (t.length == 1 && t.cps.all fun x => decide (x < 128)) = true
          · rw [if_pos ht]
            have h1 : t.cps.size = 1 := by simpa [PySem.Str.length] using (Bool.and_eq_true_iff.mp ht).1
            obtain ⟨d, hd⟩ : ∃ d, t.cps = #[d] := by
              obtain ⟨⟨l⟩⟩ := t
              match l, h1 with
              | [d], _ => exact ⟨d, rfl⟩
            have ho : outOf f c = [d] := by simp [outOf, e, hd]
            have h0 : t.cps[0]? = some d := by simp [hd]
            rw [h0]
            refine wpAny_bind (wpAny_pure ?_)
            exact wpAny_pure (next _ 1 _ _ _ (by simp [ho]) (by decide) (cons d ho) hI')
          · rw [if_neg ht]
            refine wpAny_bind (wpAny_pure ?_)
            refine wpAny_bind (wpAny_rule ?_)
            exact slow _ (fun _ _ q => q) false known s' hkn hI'
  · intro b s hb
    apply TrOk.el b hb
    intro pieces total fast known pre hpre hfl htot hkn hI
    clear hb hkn
    dsimp only
    rw [List.append_nil] at hpre
    subst hpre
    rw [if_neg (KPc.short (by lia))]
    have hfold : List.foldl (fun acc (p : Str) => acc ++ p.cps) #[] pieces.reverse = (x.cps.toList.flatMap (outOf f)).toArray := by
      apply Array.ext'
      rw [fold_cps, hfl]; simp
    rw [hfold]
    refine wpAny_bind (wpAny_mkStr ?_ ?_)
    · exact wpAny_pure ⟨_, rfl, h s hI⟩
    · have hle : ∀ (l : List Nat), (∀ c ∈ l, c ∈ x.cps.toList) → (l.flatMap (outOf f)).length ≤ 3 * l.length := by
        intro l
        induction l with
        | nil => intro _; simp
        | cons c l ih =>
          intro hm
          have h1 := ih fun c hc => hm c (List.mem_cons_of_mem _ hc)
          have h2 : (outOf f c).length ≤ 3 := by
            rcases hf c (hm c List.mem_cons_self) with e | ⟨t, e, hl⟩
            · simp [outOf, e]
            · simp only [outOf, e]; simpa [PySem.Str.length] using hl
          rw [List.flatMap_cons, List.length_append, List.length_cons]
          lia
      have := hle x.cps.toList fun _ h => h
      rw [sizeLine_eq]
      show (x.cps.toList.flatMap (outOf f)).toArray.size ≤ _
      rw [List.size_toArray]
      lia
  · refine ⟨⟨[], rfl, rfl, Nat.zero_le _⟩, rfl, ?_, hI⟩
    intro c a hl
    cases hl
end

end

section
open Builtin
noncomputable def Kept (s₀ s : Shared) : Prop := ∃ h' tk, s = { s₀ with heap := h', toks := tk } ∧ ∀ b o, s₀.heap.get? b = some o → h'.get? b = some o
theorem Kept.here {s : Shared} : Kept s s := ⟨s.heap, s.toks, by cases s; rfl, fun _ _ h => h⟩
theorem lookup_exc : isSubtype (.type "KeyError") (.type "LookupError") = pure true := by rw [isSubtype_type]; kernel_rfl
section
variable {prog : Program} {w : World} {A : Around} {E : Value → Shared → Prop} {s : Shared}
theorem look_list {l : Addr} {items : Array Value} {c : Nat} {t : Str} {u : Tok} {Q : Str.Mapped → Shared → Prop} (hl : s.heap.IsList l items) (hc : items[c]? = some (.str t u)) (hfit : c < 2 ^ 63)
    (h : Q (.text t) { s with toks := s.toks + 1 }) : wpAny (model prog w) A (Str.tableLookup (.ref l) c) Q E s := by
  unfold Str.tableLookup
  refine wpAny_bind (wpAny_attempt (wpAny_bind (wpAny_mkInt ?_)))
  refine wpAny_getItem_list (x := .str t u) (k := (c : Int)) (show Heap.IsList s.heap l items from hl) (by lia) (by lia) (by simpa using hc) ?_
  dsimp only
  refine wpAny_bind (wpAny_of_eq (a := none) (by rfl) ?_)
  dsimp only
  refine wpAny_bind (wpAny_of_eq (a := some t) (by rfl) ?_)
  exact wpAny_pure h
theorem look_dict {d : Addr} {f : Int → Option Value} {c : Nat} {t : Str} {u : Tok} {Q : Str.Mapped → Shared → Prop} (hm : s.heap.MapOf (intKind prog w) d f) (hc : f (c : Int) = some (.str t u))
    (h : ∀ tk, Q (.text t) { s with toks := tk }) : wpAny (model prog w) A (Str.tableLookup (.ref d) c) Q E s := by
  unfold Str.tableLookup
  refine wpAny_bind (wpAny_attempt (wpAny_bind (wpAny_mkInt ?_)))
  refine wpAny_getItem_of (knd := intKind prog w) (k := (c : Int)) (by simp [intKind, Value.isInt]) (show Heap.MapOf (intKind prog w) s.heap d f from hm) hc ?_
  dsimp only
  refine wpAny_bind (wpAny_of_eq (a := none) (by rfl) ?_)
  dsimp only
  refine wpAny_bind (wpAny_of_eq (a := some t) (by rfl) ?_)
  exact wpAny_pure (h _)
theorem look_dict_none {d : Addr} {f : Int → Option Value} {c : Nat} {Q : Str.Mapped → Shared → Prop} (hm : s.heap.MapOf (intKind prog w) d f) (hc : f (c : Int) = none) (hd : (d == sysModules) = false) (hh : A.handled = none)
    (h : ∀ h' tk, (∀ b o, s.heap.get? b = some o → h'.get? b = some o) → Q .keep { s with heap := h', toks := tk }) : wpAny (model prog w) A (Str.tableLookup (.ref d) c) Q E s := by
  unfold Str.tableLookup
  refine wpAny_bind (wpAny_attempt (wpAny_bind (wpAny_mkInt ?_)))
  refine wpAny_getItem_missing_of (knd := intKind prog w) (k := (c : Int)) (by simp [intKind, Value.isInt]) hd hh (show Heap.MapOf (intKind prog w) s.heap d f from hm) hc ?_
  intro h' e hx
  dsimp only
  obtain ⟨ob, t, he, hcl, _⟩ := hx.there
  refine wpAny_bind (wpAny_isInstance (T := "KeyError") ⟨ob, he, hcl⟩ lookup_exc ?_)
  rw [if_pos rfl]
  exact wpAny_bind (wpAny_rule (wpAny_pure (h _ _ hx.keeps)))
theorem Kept.step {s₀ s : Shared} (h : Kept s₀ s) {h' : Heap} {tk : Nat} (hk : ∀ b o, s.heap.get? b = some o → h'.get? b = some o) : Kept s₀ { s with heap := h', toks := tk } := by
  obtain ⟨h1, t1, rfl, k1⟩ := h
  exact ⟨h', tk, rfl, fun b o e => hk b o (k1 b o e)⟩
theorem Kept.tok {s₀ s : Shared} (h : Kept s₀ s) {tk : Nat} : Kept s₀ { s with toks := tk } := h.step (h' := s.heap) fun _ _ e => e
theorem translate_list {x : Str} {t : Tok} {l : Addr} {items : Array Value} {Q : Value → Shared → Prop} (hl : s.heap.IsList l items) (g : Nat → List Nat)
    (hg : ∀ c ∈ x.cps.toList, c < 2 ^ 63 ∧ (g c).length ≤ 3 ∧ ∃ u, items[c]? = some (.str ⟨(g c).toArray⟩ u)) (hne : x.length ≠ 0) (hsz : 3 * x.length ≤ 16777216)
    (h : ∀ t' h' tk, (∀ b o, s.heap.get? b = some o → h'.get? b = some o) → Q (.str ⟨(x.cps.toList.flatMap g).toArray⟩ t') { s with heap := h', toks := tk }) :
    wpAny (model prog w) A (call (.builtin "str.translate") [.str x t, .ref l]) Q E s := by
  have ho : ∀ c, outOf (fun c => .text ⟨(g c).toArray⟩) c = g c := fun c => by simp [outOf]
  refine translate_wp (fun c => .text ⟨(g c).toArray⟩) (Kept s) ?_ ?_ hne hsz Kept.here ?_
  · intro c hc s1 Q1 hI hQ
    obtain ⟨h1, h2, u, h3⟩ := hg c hc
    obtain ⟨hp, tk, rfl, hk⟩ := id hI
    exact look_list (isList_keeps hk hl) h3 h1 (hQ _ hI.tok)
  · intro c hc
    exact .inr ⟨_, rfl, by simpa [PySem.Str.length] using (hg c hc).2.1⟩
  · intro s1 hI
    obtain ⟨hp, tk, rfl, hk⟩ := hI
    have e : x.cps.toList.flatMap (outOf fun c => .text ⟨(g c).toArray⟩) = x.cps.toList.flatMap g := by
      congr 1
    rw [e]
    exact h _ _ _ hk
theorem translate_dict {x : Str} {t : Tok} {d : Addr} {f : Int → Option Value} {Q : Value → Shared → Prop} (hm : s.heap.MapOf (intKind prog w) d f) (hd : (d == sysModules) = false) (hh : A.handled = none) (g : Nat → List Nat)
    (hg : ∀ c ∈ x.cps.toList, (g c).length ≤ 3 ∧ ((f (c : Int) = none ∧ g c = [c]) ∨ ∃ u, f (c : Int) = some (.str ⟨(g c).toArray⟩ u))) (hne : x.length ≠ 0) (hsz : 3 * x.length ≤ 16777216)
    (h : ∀ t' h' tk, (∀ b o, s.heap.get? b = some o → h'.get? b = some o) → Q (.str ⟨(x.cps.toList.flatMap g).toArray⟩ t') { s with heap := h', toks := tk }) :
    wpAny (model prog w) A (call (.builtin "str.translate") [.str x t, .ref d]) Q E s := by
  have hm' : ∀ {h' : Heap}, (∀ b o, s.heap.get? b = some o → h'.get? b = some o) → h'.MapOf (intKind prog w) d f := by
    intro h' hk
    obtain ⟨o, es, n, ho, r⟩ := hm
    exact ⟨o, es, n, hk _ _ ho, r⟩
  let F : Nat → Str.Mapped := fun c => if (f (c : Int)).isNone then .keep else .text ⟨(g c).toArray⟩
  have hF : ∀ c ∈ x.cps.toList, outOf F c = g c := by
    intro c hc
    rcases (hg c hc).2 with ⟨h1, h2⟩ | ⟨u, h1⟩
    · simp [outOf, F, h1, h2]
    · simp [outOf, F, h1]
  refine translate_wp F (Kept s) ?_ ?_ hne hsz Kept.here ?_
  · intro c hc s1 Q1 hI hQ
    obtain ⟨hp, tk, rfl, hk⟩ := id hI
    rcases (hg c hc).2 with ⟨h1, h2⟩ | ⟨u, h1⟩
    · have e : F c = .keep := by simp [F, h1]
      rw [e] at hQ
      exact look_dict_none (hm' hk) h1 hd hh fun h' tk hk' => hQ _ (hI.step hk')
    · have e : F c = .text ⟨(g c).toArray⟩ := by simp [F, h1]
      rw [e] at hQ
      exact look_dict (hm' hk) h1 fun tk => hQ _ hI.tok
  · intro c hc
    rcases (hg c hc).2 with ⟨h1, h2⟩ | ⟨u, h1⟩
    · exact .inl (by simp [F, h1])
    · exact .inr ⟨⟨(g c).toArray⟩, by simp [F, h1], by simpa [PySem.Str.length] using (hg c hc).1⟩
  · intro s1 hI
    obtain ⟨hp, tk, rfl, hk⟩ := hI
    have e : ∀ (l : List Nat), (∀ c ∈ l, c ∈ x.cps.toList) → l.flatMap (outOf F) = l.flatMap g := by
      intro l
      induction l with
      | nil => intro _; rfl
      | cons c l ih =>
        intro hm
        rw [List.flatMap_cons, List.flatMap_cons, hF c (hm c List.mem_cons_self), ih fun c hc => hm c (List.mem_cons_of_mem _ hc)]
    rw [e _ fun _ h => h]
    exact h _ _ _ hk
theorem args_decode2 (a b : Value) : argsOk "bytes.decode" ⟨[a, b], []⟩ := by
  unfold argsOk; kernel_rfl
theorem latin_decode {c : UInt8} {cs : List UInt8} {t u : Tok} {Q : Value → Shared → Prop} (hb : (c :: cs).length ≤ 16777216)
    (h : ∀ t' tk, Q (.str (latin (c :: cs)) t') { s with toks := tk }) : wpAny (model prog w) A (call (.builtin "bytes.decode") [.bytes (c :: cs).toArray t, .str (PySem.Str.ofString "latin1") u]) Q E s := by
  refine wpAny_call_entry FB.slot_bytes_decode (typeIs_bytes _ _ _) FB.entry_bytes_decode ?_ (args_decode2 _ _)
  rw [latin_entry]
  refine wpAny_bind (wpAny_mkStr ?_ (by decide))
  refine wpAny_bind (wpAny_mkStr ?_ (by decide))
  refine wpAny_bind (wpAny_mkStr ?_ (by decide))
  refine wpAny_bind (call_function_meets KBd.kind_text KBd.plain_text KBd.entry_text (KBd.args_text _ _ _ _) (latin_meets_text (by rw [sizeLine_eq]; simpa using hb)) ?_)
  exact wpAny_pure ⟨_, rfl, h _ _⟩
end

end

section
theorem slot_md_get : Slot "method_descriptor" "__get__" "method_descriptor.__get__" :=
  .of (owner := "method_descriptor") (n := "__get__") (by rw [typeLookup_type, builtinLookup_eq_fast]; kernel_rfl) (by decide +kernel) (by decide +kernel) (by decide +kernel)
    (by first | exact .inl (by decide +kernel) | exact .inr (by decide +kernel)) (by rw [isSubtype_type]; kernel_rfl)
theorem entry_md_get : entryFor table "method_descriptor.__get__" = some Builtin.«method_descriptor.__get__» := entryFor_of_tree (by kernel_rfl)
theorem args_md_get (a b c : Value) : argsOk "method_descriptor.__get__" ⟨[a, b, c], []⟩ := by unfold argsOk; kernel_rfl
theorem md_set : typeLookup (.type "method_descriptor") "__set__" = pure none := by rw [typeLookup_type, builtinLookup_eq_fast]; kernel_rfl
theorem md_delete : typeLookup (.type "method_descriptor") "__delete__" = pure none := by rw [typeLookup_type, builtinLookup_eq_fast]; kernel_rfl
theorem ty_append : typeOf (.builtin "list.append") = pure (.type "method_descriptor") := by show builtinType _ = _; rw [builtinType_eq_fast]; kernel_rfl
theorem sub_list_list : isSubtype (.type "list") (.type "list") = pure true := by rw [isSubtype_type]; kernel_rfl
theorem list_getattr : typeLookup (.type "list") "__getattr__" = pure none := by rw [typeLookup_type, builtinLookup_eq_fast]; kernel_rfl
theorem entry_list_ga : entryFor table "list.__getattribute__" = some Builtin.«object.__getattribute__» :=
  entryFor_alias (id' := "object.__getattribute__") (by kernel_rfl) (by decide +kernel) (by decide +kernel) (by kernel_rfl)
theorem told_append : Manifest.toldItsClass.contains "list.append" = false := by decide +kernel
noncomputable def bndObj (l : Addr) : Obj := { cls := .type "builtin_function_or_method", data := .fields #[.builtin "list.append", .ref l] }
section
variable {prog : Program} {w : World} {A : Around} {E : Value → Shared → Prop} {s : Shared}
theorem md_get_wp {l : Addr} {xs : Array Value} {Q : Fin → Shared → Prop} (hl : s.heap.IsList l xs)
    (h : ∀ tk, Q (.done (.ret (.ref s.heap.objs.size))) { s with heap := s.heap.push (bndObj l), toks := tk }) :
    wpAny (model prog w) A (Builtin.«method_descriptor.__get__» ⟨[.builtin "list.append", .ref l, .type "list"], []⟩) Q E s := by
  obtain ⟨⟨cL, dL, aL, sL⟩, hL, hLc, nL, hLd⟩ := id hl
  dsimp only at hLc hLd
  subst hLc hLd
  have f1 := told_append
  have f2 := sub_list_list
  unfold Builtin.«method_descriptor.__get__»
  repeat (any_goals (first | assumption | wp_step))
  refine wpAny_of_eq (a := true) (by rw [isSubtype_type]; kernel_rfl) ?_
  repeat (any_goals (first | assumption | wp_step))
  exact h _
theorem oga_wp {l : Addr} {xs : Array Value} {nL : Nat} {sL : Array (Option Value)} {tn : Tok} {Q : Fin → Shared → Prop} (hL : s.heap.get? l = some { cls := .type "list", dict := none, data := .seq xs nL, slots := sL })
    (h : ∀ tk, Q (.done (.ret (.ref s.heap.objs.size))) { s with heap := s.heap.push (bndObj l), toks := tk }) :
    wpAny (model prog w) A (Builtin.«object.__getattribute__» ⟨[.ref l, .str "append" tn], []⟩) Q E s := by
  have hl : s.heap.IsList l xs := ⟨_, hL, rfl, nL, rfl⟩
  have hT : s.TypeIs (.ref l) "list" := hl.typeIs
  have f1 := slot_list_append.lookup
  have f2 := ty_append
  have f3 := slot_md_get.lookup
  have f4 := md_set
  have f5 := md_delete
  unfold Builtin.«object.__getattribute__»
  repeat (any_goals (first | assumption | wp_step))
  refine codeAny_call_builtin slot_md_get.plain entry_md_get (slot_md_get.check _ _ _ _ _ _ _ _ (show typeOf (.builtin "list.append") = _ from ty_append) (args_md_get _ _ _) (md_get_wp hl fun tk => ?_))
  repeat (any_goals (first | assumption | wp_step))
  exact h _
theorem getAttr_append {l : Addr} {xs : Array Value} {nL : Nat} {sL : Array (Option Value)} {Q : Value → Shared → Prop} (hL : s.heap.get? l = some { cls := .type "list", dict := none, data := .seq xs nL, slots := sL })
    (h : ∀ tk, Q (.ref s.heap.objs.size) { s with heap := s.heap.push (bndObj l), toks := tk }) :
    wpAny (model prog w) A (getAttr (.ref l) "append" true) Q E s := by
  have hl : s.heap.IsList l xs := ⟨_, hL, rfl, nL, rfl⟩
  have hT : ∀ tk', ({ s with toks := tk' } : Shared).TypeIs (.ref l) "list" := fun _ => hl.typeIs
  have f3 := F.slot_list_getattribute.lookup
  have f4 := F.slot_list_getattribute.bind (.ref l)
  have f5 := list_getattr
  unfold getAttr getAttrBy
  repeat (any_goals (first | assumption | exact hT _ | wp_step))
  refine codeAny_call_builtin F.slot_list_getattribute.plain entry_list_ga (F.slot_list_getattribute.check _ _ _ _ _ _ _ _ (hT _) (F.args_list_getattribute_2 _ _) (oga_wp (s := { s with toks := s.toks + 1 }) hL fun tk => ?_))
  repeat (any_goals (first | assumption | wp_step))
  exact h _
end

end

section
noncomputable def apSig : Manifest.Signature := ⟨.oneArg, "list.append", "append", .self, [⟨"object", .posOnly, true⟩]⟩
theorem ap_sig : Manifest.signature? "list.append" = some apSig := by kernel_rfl
theorem ap_kind : builtinKind "list.append" = some .method := by decide +kernel
theorem ap_var : Manifest.varargsMethods.contains "list.append" = false := by decide +kernel
theorem sub_list_module : isSubtype (.type "list") (.type "module") = pure false := by rw [isSubtype_type]; kernel_rfl
theorem sub_list_type : isSubtype (.type "list") (.type "type") = pure false := by rw [isSubtype_type]; kernel_rfl
theorem ap_check (l : Addr) (x : Value) : Bind.checkArgs "list.append" { apSig with full := s!"{Bind.lastOf "list"}.{Bind.lastOf "list.append"}" } ⟨[.ref l, x], []⟩ = pure () := by kernel_rfl
section
variable {prog : Program} {w : World} {A : Around} {E : Value → Shared → Prop} {s : Shared}
theorem checkBound_append {l : Addr} {xs : Array Value} {x : Value} {Q : Unit → Shared → Prop} (hl : s.heap.IsList l xs) (h : Q () s) : wpAny (model prog w) A (checkBoundCall "list.append" ⟨[.ref l, x], []⟩) Q E s := by
  obtain ⟨⟨cL, dL, aL, sL⟩, hL, hLc, nL, hLd⟩ := id hl
  dsimp only at hLc hLd
  subst hLc hLd
  have f2 := sub_list_module
  have f3 := sub_list_type
  unfold checkBoundCall
  rw [ap_sig, ap_kind]
  dsimp only
  rw [ap_var]
  repeat (any_goals (first | assumption | (refine wpAny_of_eq (a := ()) (ap_check _ _) ?_) | ((fail_if_success (with_reducible show wpAny _ _ (Bind.checkArgs _ _ _) _ _ _)); wp_step)))

theorem call_bnd {B D : Addr} {its : Array Value} {n : Nat} {x : Value} {Q : Value → Shared → Prop} (hB : s.heap.get? B = some (bndObj D)) (ho : s.heap.get? D = some { cls := .type "list", data := .seq its n })
    (h : ∀ h', Heap.SameBut D s.heap h' → h'.get? D = some { cls := .type "list", data := .seq (its.push x) (n + 1) } → Q .none { s with heap := h' })
    (hsz : its.size ≤ sizeLine := by size_fits) : wpAny (model prog w) A (call (.ref B) [x]) Q E s := by
  have hl : s.heap.IsList D its := ⟨_, ho, rfl, n, rfl⟩
  refine wpAny_call (codeAny_of_tree ?_)
  show wpAny _ _ (callAny (.ref B) _) _ _ _
  simp only [callAny]
  refine wpAny_bind (wpAny_load hB ?_)
  show wpAny _ _ (checkBoundCall "list.append" ⟨[.ref D, x], []⟩ >>= fun _ => again (.builtin "list.append" ⟨[.ref D, x], []⟩)) _ _ _
  refine wpAny_bind (checkBound_append hl ?_)
  refine wpAny_pure ⟨plainId_quiet (by decide +kernel) _, ?_⟩
  refine codeAny_builtin entry_list_append ?_
  show wpAny _ _ (updateSeq D (·.push x) >>= fun _ => ret .none) _ _ s
  refine wpAny_bind ?_
  refine wpAny_updateSeq ho rfl (wpAny_pure (h _ (Heap.SameBut.update ..) ?_))
  rw [Heap.get?_update_self _ ho (by rw [mapSeq_push]; rfl), mapSeq_push]
end

end

section

noncomputable def hexc (n : Nat) : Nat := if n < 10 then 48 + n else 55 + n
noncomputable def safe (o : Nat) : Bool := (Nat.ble 48 o && Nat.ble o 57) || (Nat.ble 65 o && Nat.ble o 90) || (Nat.ble 97 o && Nat.ble o 122) || o == 33 || o == 42 || o == 43 || o == 45 || o == 47
noncomputable def wide (o : Nat) : Bool := !(safe o || o == 32)
noncomputable def enc1 (o : Nat) : List Nat := if safe o then [o] else if o == 32 then [95] else [61, hexc (o / 16), hexc (o % 16)]
noncomputable def enc (l : List Nat) : List Nat := l.flatMap enc1

theorem enc_nil : enc [] = [] := rfl
theorem enc_cons (a : Nat) (l : List Nat) : enc (a :: l) = enc1 a ++ enc l := rfl
theorem enc_append (a b : List Nat) : enc (a ++ b) = enc a ++ enc b := List.flatMap_append

theorem hexc_cases {n : Nat} (h : n < 16) : (48 ≤ hexc n ∧ hexc n ≤ 57) ∨ (65 ≤ hexc n ∧ hexc n ≤ 70) := by
  unfold hexc; split <;> lia
theorem hexc_inj {a b : Nat} (ha : a < 16) (hb : b < 16) (h : hexc a = hexc b) : a = b := by
  unfold hexc at h; split at h <;> split at h <;> lia
theorem safe_iff (o : Nat) : safe o = true ↔ (48 ≤ o ∧ o ≤ 57) ∨ (65 ≤ o ∧ o ≤ 90) ∨ (97 ≤ o ∧ o ≤ 122) ∨ o = 33 ∨ o = 42 ∨ o = 43 ∨ o = 45 ∨ o = 47 := by
  simp only [safe, Bool.or_eq_true, Bool.and_eq_true, Nat.ble_eq, beq_iff_eq, or_assoc]
theorem safe_hexc {n : Nat} (h : n < 16) : safe (hexc n) = true := by
  rw [safe_iff]; have := hexc_cases h; lia
theorem enc1_hexc {n : Nat} (h : n < 16) : enc1 (hexc n) = [hexc n] := by
  unfold enc1; rw [safe_hexc h]; rfl
theorem enc1_safe {a : Nat} (h : safe a = true) : enc1 a = [a] := by unfold enc1; rw [h]; rfl
theorem enc1_cases (a : Nat) : (safe a = true ∧ wide a = false ∧ enc1 a = [a]) ∨ (a = 32 ∧ wide a = false ∧ enc1 a = [95]) ∨ (safe a = false ∧ wide a = true ∧ enc1 a = [61, hexc (a / 16), hexc (a % 16)]) := by
  by_cases h : safe a = true
  · left; exact ⟨h, by simp [wide, h], enc1_safe h⟩
  · by_cases h2 : a = 32
    · right; left; subst h2; exact ⟨rfl, rfl, rfl⟩
    · right; right
      have h' : safe a = false := by simpa using h
      refine ⟨h', ?_, ?_⟩
      · simp [wide, h', h2]
      · simp [enc1, h', h2]
theorem enc1_length (a : Nat) : (enc1 a).length = if wide a then 3 else 1 := by
  rcases enc1_cases a with ⟨_, h, e⟩ | ⟨_, h, e⟩ | ⟨_, h, e⟩ <;> rw [e, h] <;> rfl
theorem enc1_pos (a : Nat) : 0 < (enc1 a).length := by rw [enc1_length]; split <;> lia
theorem enc1_mem {a c : Nat} (ha : a < 256) (h : c ∈ enc1 a) : c ≠ 63 ∧ c ≠ 91 ∧ c < 128 ∧ (c = 42 → a = 42) := by
  have d1 : a / 16 < 16 := by lia
  have d2 : a % 16 < 16 := by lia
  rcases enc1_cases a with ⟨hs, _, e⟩ | ⟨_, _, e⟩ | ⟨_, _, e⟩ <;> rw [e] at h <;> simp only [List.mem_cons, List.not_mem_nil, or_false] at h
  · subst h; rw [safe_iff] at hs; lia
  · subst h; lia
  · have := hexc_cases d1; have := hexc_cases d2; lia
theorem enc_mem {l : List Nat} (hl : ∀ a ∈ l, a < 256) {c : Nat} (h : c ∈ enc l) : c ≠ 63 ∧ c ≠ 91 ∧ c < 128 ∧ (c = 42 → 42 ∈ l) := by
  obtain ⟨a, ha, hc⟩ := List.mem_flatMap.mp h
  have := enc1_mem (hl a ha) hc
  exact ⟨this.1, this.2.1, this.2.2.1, fun e => (this.2.2.2 e) ▸ ha⟩

/-- the first sign of an octet's own text -/
theorem enc1_head {a c : Nat} {r t : List Nat} (hc : (48 ≤ c ∧ c ≤ 57) ∨ (65 ≤ c ∧ c ≤ 70)) : enc1 a ++ r <+: c :: t ↔ a = c ∧ r <+: t := by
  have hs : safe c = true := by rw [safe_iff]; lia
  rcases enc1_cases a with ⟨_, _, e⟩ | ⟨h, _, e⟩ | ⟨h, _, e⟩ <;> rw [e] <;> simp only [List.cons_append, List.nil_append, List.cons_prefix_cons]
  · constructor
    · rintro ⟨h1, _⟩; lia
    · rintro ⟨h1, _⟩; lia
  · constructor
    · rintro ⟨h1, _⟩; lia
    · rintro ⟨h1, _⟩; subst h1; rw [hs] at h; cases h

theorem enc1_prefix {a b : Nat} {r t : List Nat} (ha : a < 256) (hb : b < 256) : enc1 a ++ r <+: enc1 b ++ t ↔ a = b ∧ r <+: t := by
  rcases enc1_cases b with ⟨hb1, _, e⟩ | ⟨hb1, _, e⟩ | ⟨hb1, _, e⟩
  · rcases enc1_cases a with ⟨ha1, _, e'⟩ | ⟨ha1, _, e'⟩ | ⟨ha1, _, e'⟩ <;> rw [e, e'] <;> simp only [List.cons_append, List.nil_append, List.cons_prefix_cons]
    · rw [safe_iff] at hb1
      constructor
      · rintro ⟨h1, _⟩; lia
      · rintro ⟨h1, _⟩; lia
    · rw [safe_iff] at hb1
      constructor
      · rintro ⟨h1, _⟩; lia
      · rintro ⟨h1, _⟩; subst h1; rw [← safe_iff, ha1] at hb1; cases hb1
  · rcases enc1_cases a with ⟨ha1, _, e'⟩ | ⟨ha1, _, e'⟩ | ⟨ha1, _, e'⟩ <;> rw [e, e'] <;> simp only [List.cons_append, List.nil_append, List.cons_prefix_cons]
    · rw [safe_iff] at ha1
      constructor
      · rintro ⟨h1, _⟩; lia
      · rintro ⟨h1, _⟩; lia
    · subst ha1; subst hb1; simp
    · constructor
      · rintro ⟨h1, _⟩; lia
      · rintro ⟨h1, _⟩; subst h1; subst hb1; simp_all
  · rcases enc1_cases a with ⟨ha1, _, e'⟩ | ⟨ha1, _, e'⟩ | ⟨ha1, _, e'⟩ <;> rw [e, e'] <;> simp only [List.cons_append, List.nil_append, List.cons_prefix_cons]
    · constructor
      · rintro ⟨h1, _⟩; subst h1; rw [safe_iff] at ha1; lia
      · rintro ⟨h1, _⟩; subst h1; rw [ha1] at hb1; cases hb1
    · constructor
      · rintro ⟨h1, _⟩; lia
      · rintro ⟨h1, _⟩; subst h1; subst ha1; simp_all
    · constructor
      · rintro ⟨_, h1, h2, h3⟩
        have := hexc_inj (by lia) (by lia) h1
        have := hexc_inj (by lia) (by lia) h2
        exact ⟨by lia, h3⟩
      · rintro ⟨h1, h3⟩; subst h1; exact ⟨trivial, rfl, rfl, h3⟩

theorem enc1_not {a c : Nat} {r t : List Nat} (ha : a < 256) (hc : c = 63) : ¬ enc1 a ++ r <+: c :: t := by
  intro h
  have hm : (enc1 a ++ r).head? = some 63 := by
    have hp := enc1_pos a
    cases q : enc1 a with
    | nil => rw [q] at hp; simp at hp
    | cons x xs => rw [q] at h; simp only [List.cons_append, List.cons_prefix_cons] at h; simp [h.1, hc]
  have hp := enc1_pos a
  cases q : enc1 a with
  | nil => rw [q] at hp; simp at hp
  | cons x xs =>
    rw [q] at hm
    simp at hm
    have := enc1_mem (c := x) ha (by rw [q]; exact List.mem_cons_self)
    lia

/-- the code is a prefix code; what stands behind the row's own text is no text of an octet -/
theorem enc_prefix {S : List Nat} (hS : S = [] ∨ ∃ S', S = 63 :: S') : ∀ (r t : List Nat), (∀ a ∈ r, a < 256) → (∀ a ∈ t, a < 256) → (enc r <+: enc t ++ S ↔ r <+: t)
  | [], t, _, _ => by simp [enc_nil]
  | a :: r, [], hr, _ => by
    simp only [enc_nil, enc_cons, List.nil_append]
    constructor
    · intro h
      rcases hS with rfl | ⟨S', rfl⟩
      · have h1 := enc1_pos a
        have h2 := h.length_le
        rw [List.length_append, List.length_nil] at h2; lia
      · exact absurd h (enc1_not (hr a (by simp)) rfl)
    · intro h; simp at h
  | a :: r, b :: t, hr, ht => by
    simp only [enc_cons, List.append_assoc]
    rw [enc1_prefix (hr a (by simp)) (ht b (by simp)), enc_prefix hS r t (fun x hx => hr x (by simp [hx])) (fun x hx => ht x (by simp [hx]))]
    simp [List.cons_prefix_cons]


end

section

theorem prefix_take {α : Type} {r t : List α} : r <+: t ↔ t.take r.length = r := by
  rw [List.prefix_iff_eq_take]; exact eq_comm

/-- _law_end's answer -/
noncomputable def lend (run row : List Nat) (place : Nat) : Int :=
  if place % 3 > 0 then
    if run.take (([hexc (row.getD (place / 3) 0 / 16), hexc (row.getD (place / 3) 0 % 16)].drop (place % 3 - 1)).length) ≠ ([hexc (row.getD (place / 3) 0 / 16), hexc (row.getD (place / 3) 0 % 16)].drop (place % 3 - 1)).take run.length then -1
    else if run.length < ([hexc (row.getD (place / 3) 0 / 16), hexc (row.getD (place / 3) 0 % 16)].drop (place % 3 - 1)).length then ((place + run.length : Nat) : Int)
    else if (row.drop (place / 3 + 1)).take (run.drop (([hexc (row.getD (place / 3) 0 / 16), hexc (row.getD (place / 3) 0 % 16)].drop (place % 3 - 1)).length)).length ≠ run.drop (([hexc (row.getD (place / 3) 0 / 16), hexc (row.getD (place / 3) 0 % 16)].drop (place % 3 - 1)).length) then -1
    else ((3 * (place / 3 + 1 + (run.drop (([hexc (row.getD (place / 3) 0 / 16), hexc (row.getD (place / 3) 0 % 16)].drop (place % 3 - 1)).length)).length) : Nat) : Int)
  else if (row.drop (place / 3)).take run.length ≠ run then -1
  else ((3 * (place / 3 + run.length) : Nat) : Int)

noncomputable def pos : List Nat → Nat → Nat
  | [], _ => 0
  | b :: row, p => if p < 3 then p else (enc1 b).length + pos row (p - 3)
noncomputable def valid : List Nat → Nat → Prop
  | [], p => p = 0
  | b :: row, p => if p < 3 then (p = 0 ∨ wide b = true) else valid row (p - 3)

theorem lend_shift (run : List Nat) (b : Nat) (row : List Nat) (p : Nat) : lend run (b :: row) (p + 3) = if 0 ≤ lend run row p then lend run row p + 3 else -1 := by
  have e1 : (p + 3) / 3 = p / 3 + 1 := by lia
  have e2 : (p + 3) % 3 = p % 3 := by lia
  have e3 : (b :: row).getD (p / 3 + 1) 0 = row.getD (p / 3) 0 := by simp
  have e4 : (b :: row).drop (p / 3 + 1) = row.drop (p / 3) := by simp
  have e5 : (b :: row).drop (p / 3 + 1 + 1) = row.drop (p / 3 + 1) := by simp
  unfold lend
  rw [e1, e2, e3, e4, e5]
  generalize ([hexc (row.getD (p / 3) 0 / 16), hexc (row.getD (p / 3) 0 % 16)].drop (p % 3 - 1)) = f
  repeat' split
  all_goals first | lia | (simp_all; done) | (exfalso; lia)

theorem pos_3mul : ∀ (row : List Nat) (k : Nat), k ≤ row.length → pos row (3 * k) = (enc (row.take k)).length ∧ valid row (3 * k)
  | [], k, h => by
    have : k = 0 := by simpa using h
    subst this
    exact ⟨rfl, rfl⟩
  | b :: row, 0, _ => ⟨rfl, by simp [valid]⟩
  | b :: row, k + 1, h => by
    have ih := pos_3mul row k (by simpa using h)
    have e : 3 * (k + 1) - 3 = 3 * k := by lia
    have e' : ¬ (3 * (k + 1) < 3) := by lia
    simp only [pos, valid, e', if_false, e, List.take_succ_cons, enc_cons, List.length_append, ih.1, true_and]
    exact ih.2

theorem pos_end (row : List Nat) : pos row (3 * row.length) = (enc row).length ∧ valid row (3 * row.length) := by
  have := pos_3mul row row.length (Nat.le_refl _)
  rwa [List.take_length] at this

theorem pos_zero (row : List Nat) : pos row 0 = 0 ∧ valid row 0 := by
  have := pos_3mul row 0 (Nat.zero_le _)
  simpa [enc] using this

theorem pos_mono : ∀ (row : List Nat) (p p' : Nat), valid row p → valid row p' → p < p' → pos row p < pos row p'
  | [], p, p', h, h', hl => by simp only [valid] at h h'; lia
  | b :: row, p, p', h, h', hl => by
    simp only [pos, valid] at *
    have hb := enc1_length b
    split at h <;> split at h'
    · rename_i h1 h2; simp only [h1, h2, if_true]; exact hl
    · rename_i h1 h2
      simp only [h1, h2, if_true, if_false]
      rcases h with rfl | h
      · have := enc1_pos b; lia
      · rw [h] at hb; simp at hb; lia
    · lia
    · rename_i h1 h2
      simp only [h1, h2, if_false]
      have := pos_mono row _ _ h h' (by lia)
      lia

theorem pos_le (row : List Nat) {p p' : Nat} (h : valid row p) (h' : valid row p') : p ≤ p' ↔ pos row p ≤ pos row p' := by
  constructor
  · intro hl
    rcases Nat.lt_or_ge p p' with q | q
    · exact Nat.le_of_lt (pos_mono row _ _ h h' q)
    · have : p = p' := by lia
      rw [this]; exact Nat.le_refl _
  · intro hl
    rcases Nat.lt_or_ge p' p with q | q
    · have := pos_mono row _ _ h' h q; lia
    · exact q
theorem pos_inj (row : List Nat) {p p' : Nat} (h : valid row p) (h' : valid row p') (e : pos row p = pos row p') : p = p' := by
  have a := (pos_le row h h').mpr (by lia)
  have b := (pos_le row h' h).mpr (by lia)
  lia

theorem pos_bound : ∀ (row : List Nat) (p : Nat), valid row p → pos row p ≤ (enc row).length
  | [], p, h => by simp [pos]
  | b :: row, p, h => by
    simp only [pos, valid, enc_cons, List.length_append] at *
    have hb := enc1_length b
    split at h
    · rename_i h1
      simp only [h1, if_true]
      rcases h with rfl | h
      · lia
      · rw [h] at hb; simp at hb; lia
    · rename_i h1
      simp only [h1, if_false]
      have := pos_bound row _ h
      lia

theorem pos_onto : ∀ (row : List Nat) (q : Nat), q ≤ (enc row).length → ∃ p, valid row p ∧ pos row p = q
  | [], q, h => ⟨0, rfl, by simp [enc] at h; simp [pos, h]⟩
  | b :: row, q, h => by
    have hb := enc1_length b
    simp only [enc_cons, List.length_append] at h
    by_cases hq : q < (enc1 b).length
    · have q3 : q < 3 := by split at hb <;> lia
      refine ⟨q, ?_, ?_⟩
      · simp only [valid, q3, if_true]
        split at hb
        · right; assumption
        · left; lia
      · simp only [pos, q3, if_true]
    · obtain ⟨p, hp, e⟩ := pos_onto row (q - (enc1 b).length) (by lia)
      refine ⟨p + 3, ?_, ?_⟩
      · have : ¬ (p + 3 < 3) := by lia
        simp only [valid, this, if_false, Nat.add_sub_cancel]; exact hp
      · have : ¬ (p + 3 < 3) := by lia
        simp only [pos, this, if_false, Nat.add_sub_cancel, e]; lia

theorem valid_le : ∀ (row : List Nat) (p : Nat), valid row p → p ≤ 3 * row.length
  | [], p, h => by simp only [valid] at h; lia
  | b :: row, p, h => by
    simp only [valid] at h
    split at h
    · simp only [List.length_cons]; lia
    · have := valid_le row _ h; simp only [List.length_cons]; lia

/-- where a run lies by the octets alone, and where its text lies -/
theorem lend_spec : ∀ (row : List Nat) (p : Nat) (run : List Nat), (∀ a ∈ run, a < 256) → (∀ a ∈ row, a < 256) → valid row p →
    (lend run row p = -1 ∧ ¬ enc run <+: (enc row).drop (pos row p)) ∨
    (∃ e : Nat, lend run row p = (e : Int) ∧ valid row e ∧ pos row e = pos row p + (enc run).length ∧ enc run <+: (enc row).drop (pos row p))
  | [], p, run, hr, _, h => by
    simp only [valid] at h; subst h
    cases run with
    | nil => right; exact ⟨0, rfl, rfl, rfl, by simp [enc]⟩
    | cons a r =>
      left
      refine ⟨by simp [lend], ?_⟩
      intro h
      have h1 := enc1_pos a
      have h2 := h.length_le
      rw [enc_cons, List.length_append, enc_nil, List.drop_nil, List.length_nil] at h2; lia
  | b :: row, p, run, hr, ht, h => by
    simp only [valid] at h
    split at h
    · rename_i h3
      have hb : b < 256 := ht b (by simp)
      have ht' : ∀ a ∈ row, a < 256 := fun x hx => ht x (by simp [hx])
      have d1 : b / 16 < 16 := by lia
      have d2 : b % 16 < 16 := by lia
      have c1 := hexc_cases d1
      have c2 := hexc_cases d2
      have key := fun (r : List Nat) (h' : ∀ a ∈ r, a < 256) => enc_prefix (S := []) (.inl rfl) r row h' ht'
      simp only [List.append_nil] at key
      rcases Nat.lt_or_ge 0 p with hp | hp
      · have hw : wide b = true := h.resolve_left (by lia)
        have eb : enc1 b = [61, hexc (b / 16), hexc (b % 16)] := by
          rcases enc1_cases b with ⟨_, q, _⟩ | ⟨_, q, _⟩ | ⟨_, _, e⟩
          · rw [q] at hw; cases hw
          · rw [q] at hw; cases hw
          · exact e
        have fin : ∀ r : List Nat, r <+: row → valid (b :: row) (3 * (0 + 1 + r.length)) ∧ pos (b :: row) (3 * (0 + 1 + r.length)) = 3 + (enc r).length := by
          intro r hpre
          have hl := hpre.length_le
          have := pos_3mul (b :: row) (r.length + 1) (by simp only [List.length_cons]; lia)
          have e3 : 3 * (0 + 1 + r.length) = 3 * (r.length + 1) := by lia
          rw [e3]
          refine ⟨this.2, ?_⟩
          rw [this.1, List.take_succ_cons, enc_cons, List.length_append, eb, prefix_take.mp hpre]
          rfl
        have p12 : p = 1 ∨ p = 2 := by lia
        rcases p12 with rfl | rfl
        · -- behind the sign of equality
          cases run with
          | nil => right; exact ⟨1, by simp [lend], by simp [valid, hw], by simp [enc], by simp [enc]⟩
          | cons x r =>
            cases r with
            | nil =>
              simp only [pos, enc_cons, enc_nil, eb]
              by_cases hx : x = hexc (b / 16)
              · right
                refine ⟨2, ?_, by simp [valid, hw], ?_, ?_⟩
                · simp [lend, hx]
                · subst hx; simp [pos, enc1_hexc d1]
                · simp only [show (1 : Nat) < 3 from by decide, if_true, List.cons_append, List.nil_append, List.drop_succ_cons, List.drop_zero]
                  rw [enc1_head c1]; exact ⟨hx, by simp⟩
              · left
                refine ⟨?_, ?_⟩
                · simp [lend, hx]
                · simp only [show (1 : Nat) < 3 from by decide, if_true, List.cons_append, List.nil_append, List.drop_succ_cons, List.drop_zero]
                  rw [enc1_head c1]; exact fun q => hx q.1
            | cons y r =>
              simp only [pos, enc_cons, eb]
              have main : enc1 x ++ (enc1 y ++ enc r) <+: ([61, hexc (b / 16), hexc (b % 16)] ++ enc row).drop (if 1 < 3 then 1 else List.length [61, hexc (b / 16), hexc (b % 16)] + pos row (1 - 3)) ↔ x = hexc (b / 16) ∧ y = hexc (b % 16) ∧ r <+: row := by
                simp only [show (1 : Nat) < 3 from by decide, if_true, List.cons_append, List.nil_append, List.drop_succ_cons, List.drop_zero]
                rw [enc1_head c1, enc1_head c2, key r fun z hz => hr z (by simp [hz])]
              by_cases hx : x = hexc (b / 16) ∧ y = hexc (b % 16)
              · by_cases hpre : r <+: row
                · right
                  refine ⟨3 * (0 + 1 + r.length), ?_, (fin r hpre).1, ?_, main.mpr ⟨hx.1, hx.2, hpre⟩⟩
                  · have := prefix_take.mp hpre
                    simp [lend, hx.1, hx.2, this, show ¬ (r.length + 1 + 1 < 2) by lia]
                  · have := (fin r hpre).2
                    simp only [pos, eb] at this
                    rw [this, hx.1, hx.2]
                    simp [enc1_hexc d1, enc1_hexc d2]; lia
                · left
                  refine ⟨?_, fun q => hpre (main.mp q).2.2⟩
                  have := fun q => hpre (prefix_take.mpr q)
                  simp [lend, hx.1, hx.2, show ¬ (r.length + 1 + 1 < 2) by lia]
                  intro q; exact (this q).elim
              · left
                refine ⟨?_, fun q => hx ⟨(main.mp q).1, (main.mp q).2.1⟩⟩
                simp [lend]
                intro a1 a2; exact absurd ⟨a1, a2⟩ hx
        · cases run with
          | nil => right; exact ⟨2, by simp [lend], by simp [valid, hw], by simp [enc], by simp [enc]⟩
          | cons y r =>
            simp only [pos, enc_cons, eb]
            have main : enc1 y ++ enc r <+: ([61, hexc (b / 16), hexc (b % 16)] ++ enc row).drop (if 2 < 3 then 2 else List.length [61, hexc (b / 16), hexc (b % 16)] + pos row (2 - 3)) ↔ y = hexc (b % 16) ∧ r <+: row := by
              simp only [show (2 : Nat) < 3 from by decide, if_true, List.cons_append, List.nil_append, List.drop_succ_cons, List.drop_zero]
              rw [enc1_head c2, key r fun z hz => hr z (by simp [hz])]
            by_cases hx : y = hexc (b % 16)
            · by_cases hpre : r <+: row
              · right
                refine ⟨3 * (0 + 1 + r.length), ?_, (fin r hpre).1, ?_, main.mpr ⟨hx, hpre⟩⟩
                · have := prefix_take.mp hpre
                  simp [lend, hx, this]
                · have := (fin r hpre).2
                  simp only [pos, eb] at this
                  rw [this, hx]
                  simp [enc1_hexc d2]; lia
              · left
                refine ⟨?_, fun q => hpre (main.mp q).2⟩
                have := fun q => hpre (prefix_take.mpr q)
                simp [lend, hx]
                intro q; exact (this q).elim
            · left
              refine ⟨?_, fun q => hx (main.mp q).1⟩
              simp [lend, hx]
      · have : p = 0 := by lia
        subst this
        have key' := enc_prefix (S := []) (.inl rfl) run (b :: row) hr ht
        simp only [List.append_nil] at key'
        simp only [pos, show (0 : Nat) < 3 from by decide, if_true, List.drop_zero, Nat.zero_add]
        rw [key']
        by_cases hpre : run <+: b :: row
        · right
          have hl := hpre.length_le
          have := pos_3mul (b :: row) run.length hl
          rw [prefix_take.mp hpre] at this
          refine ⟨3 * (0 + run.length), ?_, by rw [Nat.zero_add]; exact this.2, ?_, hpre⟩
          · have := prefix_take.mp hpre
            simp [lend, this]
          · rw [Nat.zero_add]; exact this.1
        · left
          refine ⟨?_, hpre⟩
          have := fun q => hpre (prefix_take.mpr q)
          simp [lend]
          intro q; exact (this q).elim
    · rename_i h3
      obtain ⟨p', rfl⟩ : ∃ p', p = p' + 3 := ⟨p - 3, by lia⟩
      rw [Nat.add_sub_cancel] at h
      have ih := lend_spec row p' run hr (fun x hx => ht x (by simp [hx])) h
      have n3 : ∀ k, ¬ (k + 3 < 3) := by intro k; lia
      have ed : (enc (b :: row)).drop ((enc1 b).length + pos row p') = (enc row).drop (pos row p') := by
        rw [enc_cons, List.drop_append, List.drop_eq_nil_of_le (by lia), List.nil_append]
        congr 1; lia
      rcases ih with ⟨h1, h2⟩ | ⟨e, h1, h2, h4, h5⟩
      · left
        refine ⟨by rw [lend_shift, h1]; rfl, ?_⟩
        simp only [pos, n3, if_false, Nat.add_sub_cancel, ed]; exact h2
      · right
        refine ⟨e + 3, ?_, ?_, ?_, ?_⟩
        · rw [lend_shift, h1, if_pos (by lia)]; rfl
        · simp only [valid, n3, if_false, Nat.add_sub_cancel]; exact h2
        · simp only [pos, n3, if_false, Nat.add_sub_cancel, h4]; lia
        · simp only [pos, n3, if_false, Nat.add_sub_cancel, ed]; exact h5


end

section

/-- the places that _law_told asks -/
noncomputable def places (row : List Nat) : List Nat := ((List.range row.length).flatMap fun k => (List.range (if wide (row.getD k 0) then 3 else 1)).map fun w => 3 * k + w) ++ [3 * row.length]
theorem mem_places : ∀ (row : List Nat) (p : Nat), p ∈ places row ↔ valid row p
  | [], p => by simp [places, valid]
  | b :: row, p => by
    have ih := mem_places row
    have e : places (b :: row) = (List.range (if wide b then 3 else 1)) ++ (places row).map (· + 3) := by
      unfold places
      rw [List.length_cons, List.range_succ_eq_map, List.flatMap_cons, List.map_append, List.map_flatMap, List.flatMap_map, List.append_assoc]
      congr 1
      · simp
      · congr 1
        · simp only [List.map_map]
          congr 1
          funext k
          simp only [List.getD_cons_succ]
          refine List.map_congr_left fun w _ => ?_
          show 3 * (k + 1) + w = 3 * k + w + 3
          lia
    rw [e, List.mem_append, List.mem_range, List.mem_map, valid]
    by_cases h3 : p < 3
    · rw [if_pos h3]
      cases hw : wide b with
      | true =>
        constructor
        · intro _; right; rfl
        · intro _; left; exact h3
      | false =>
        constructor
        · rintro (h | ⟨q, _, rfl⟩)
          · left; simp at h; lia
          · lia
        · rintro (rfl | h)
          · left; decide
          · cases h
    · rw [if_neg h3]
      constructor
      · rintro (h | ⟨q, hq, rfl⟩)
        · exfalso; cases hw : wide b <;> rw [hw] at h <;> simp at h <;> lia
        · rw [Nat.add_sub_cancel]; exact (ih q).mp hq
      · intro h
        right
        exact ⟨p - 3, (ih _).mpr h, by lia⟩

noncomputable def fits (last : Bool) (run row : List Nat) (b : Nat) : List Nat :=
  (places row).filter fun p => decide (lend run row p = (b : Int)) || (!last && decide (0 ≤ lend run row p) && decide (lend run row p < (b : Int)))
noncomputable def maxN (l : List Nat) : Nat := l.foldl max 0
theorem foldl_max : ∀ (l : List Nat) (a : Nat), (∀ x ∈ l, x ≤ l.foldl max a) ∧ a ≤ l.foldl max a ∧ (l.foldl max a = a ∨ l.foldl max a ∈ l)
  | [], a => by simp
  | y :: l, a => by
    obtain ⟨h1, h2, h3⟩ := foldl_max l (max a y)
    simp only [List.foldl_cons]
    refine ⟨fun x hx => ?_, by lia, ?_⟩
    · rcases List.mem_cons.mp hx with rfl | hx
      · lia
      · exact h1 x hx
    · rcases h3 with h3 | h3
      · by_cases q : a ≤ y
        · right; rw [h3, Nat.max_eq_right q]; exact List.mem_cons_self
        · left; rw [h3]; lia
      · right; exact List.mem_cons_of_mem _ h3
theorem maxN_spec {l : List Nat} (h : l ≠ []) : maxN l ∈ l ∧ ∀ x ∈ l, x ≤ maxN l := by
  obtain ⟨h1, h2, h3⟩ := foldl_max l 0
  refine ⟨?_, h1⟩
  rcases h3 with h3 | h3
  · cases l with
    | nil => exact absurd rfl h
    | cons y l =>
      have := h1 y List.mem_cons_self
      unfold maxN
      rw [h3] at this ⊢
      have : y = 0 := by lia
      subst this
      exact List.mem_cons_self
  · exact h3

noncomputable def toldGo (row r0 : List Nat) : List (List Nat) → Bool → Nat → Bool
  | [], _, b => decide (0 ≤ lend r0 row 0) && decide (lend r0 row 0 ≤ (b : Int))
  | r :: rs, last, b => if fits last r row b = [] then false else toldGo row r0 rs false (maxN (fits last r row b))

/-- the octets' stretches between the stars -/
noncomputable def sp : List (List Nat) → List Nat → List Nat → List (List Nat)
  | done, cur, [] => done ++ [cur]
  | done, cur, a :: l => if a = 42 then sp (done ++ [cur]) [] l else sp done (cur ++ [a]) l
noncomputable def told (octets row : List Nat) : Bool :=
  if row = [] then false else
  match sp [] [] octets with
  | [] => false
  | r0 :: rest => if rest = [] then decide (lend r0 row 0 = ((3 * row.length : Nat) : Int)) else toldGo row r0 rest.reverse true (3 * row.length)

/-- runs laid one behind the other, from a on, not over b -/
noncomputable def chq (E : List Nat) : Nat → List (List Nat) → Nat → Prop
  | a, [], b => a ≤ b
  | a, r :: rs, b => ∃ q, a ≤ q ∧ q ≤ E.length ∧ r <+: E.drop q ∧ chq E (q + r.length) rs b
theorem chq_snoc (E : List Nat) : ∀ (rs : List (List Nat)) (a : Nat) (r : List Nat) (b : Nat),
    chq E a (rs ++ [r]) b ↔ ∃ q, q ≤ E.length ∧ r <+: E.drop q ∧ q + r.length ≤ b ∧ chq E a rs q
  | [], a, r, b => by
    simp only [List.nil_append, chq]
    constructor
    · rintro ⟨q, h1, h2, h3, h4⟩; exact ⟨q, h2, h3, h4, h1⟩
    · rintro ⟨q, h2, h3, h4, h1⟩; exact ⟨q, h1, h2, h3, h4⟩
  | r' :: rs, a, r, b => by
    simp only [List.cons_append, chq]
    constructor
    · rintro ⟨q, h1, h2, h3, h4⟩
      obtain ⟨q', g1, g2, g3, g4⟩ := (chq_snoc E rs _ r b).mp h4
      exact ⟨q', g1, g2, g3, q, h1, h2, h3, g4⟩
    · rintro ⟨q', g1, g2, g3, q, h1, h2, h3, g4⟩
      exact ⟨q, h1, h2, h3, (chq_snoc E rs _ r b).mpr ⟨q', g1, g2, g3, g4⟩⟩
theorem chq_mono_left (E : List Nat) {a a' : Nat} (h : a ≤ a') : ∀ {rs : List (List Nat)} {b : Nat}, chq E a' rs b → chq E a rs b
  | [], _, h' => Nat.le_trans h h'
  | _ :: _, _, ⟨q, h1, h2⟩ => ⟨q, Nat.le_trans h h1, h2⟩
theorem chq_mono_right (E : List Nat) {b b' : Nat} (h : b ≤ b') : ∀ {rs : List (List Nat)} {a : Nat}, chq E a rs b → chq E a rs b'
  | [], _, h' => Nat.le_trans h' h
  | _ :: _, _, ⟨q, h1, h2, h3, h4⟩ => ⟨q, h1, h2, h3, chq_mono_right E h h4⟩
theorem chq_le (E : List Nat) : ∀ {rs : List (List Nat)} {a b : Nat}, chq E a rs b → a ≤ b
  | [], _, _, h => h
  | r :: rs, a, b, ⟨q, h1, h2, h3, h4⟩ => by have := chq_le E h4; lia
theorem chq_filter (E : List Nat) : ∀ {rs : List (List Nat)} {a b : Nat}, a ≤ E.length → (chq E a rs b ↔ chq E a (rs.filter (fun r => r != [])) b)
  | [], a, b, _ => by simp
  | [] :: rs, a, b, ha => by
    simp only [List.filter_cons, bne_self_eq_false, Bool.false_eq_true, if_false, chq]
    rw [← chq_filter E ha]
    constructor
    · rintro ⟨q, h1, h2, h3, h4⟩; exact chq_mono_left E (by simpa using h1) h4
    · intro h; exact ⟨a, Nat.le_refl _, ha, by simp, by simpa using h⟩
  | (x :: r) :: rs, a, b, ha => by
    have e : ((x :: r) != []) = true := rfl
    simp only [List.filter_cons, e, if_true, chq]
    constructor
    · rintro ⟨q, h1, h2, h3, h4⟩
      refine ⟨q, h1, h2, h3, (chq_filter E ?_).mp h4⟩
      have := h3.length_le; rw [List.length_drop] at this; lia
    · rintro ⟨q, h1, h2, h3, h4⟩
      refine ⟨q, h1, h2, h3, (chq_filter E ?_).mpr h4⟩
      have := h3.length_le; rw [List.length_drop] at this; lia

theorem mem_fits {last : Bool} {run row : List Nat} {b p : Nat} : p ∈ fits last run row b ↔ valid row p ∧ (lend run row p = (b : Int) ∨ (last = false ∧ 0 ≤ lend run row p ∧ lend run row p < (b : Int))) := by
  unfold fits
  rw [List.mem_filter, mem_places]
  simp [and_assoc]

noncomputable def Oct (l : List Nat) : Prop := ∀ a ∈ l, a < 256

theorem r0_spec {row r0 : List Nat} (hr : Oct row) (h0 : Oct r0) {b : Nat} (hb : valid row b) :
    (0 ≤ lend r0 row 0 ∧ lend r0 row 0 ≤ (b : Int)) ↔ enc r0 <+: enc row ∧ (enc r0).length ≤ pos row b := by
  have hz := pos_zero row
  rcases lend_spec row 0 r0 h0 hr hz.2 with ⟨h1, h2⟩ | ⟨e, h1, h2, h3, h4⟩
  · rw [hz.1, List.drop_zero] at h2
    constructor
    · rintro ⟨g1, _⟩; lia
    · rintro ⟨g1, _⟩; exact absurd g1 h2
  · rw [hz.1, List.drop_zero] at h4
    rw [hz.1, Nat.zero_add] at h3
    rw [h1]
    constructor
    · rintro ⟨_, g2⟩
      refine ⟨h4, ?_⟩
      rw [← h3]; exact (pos_le row h2 hb).mp (by lia)
    · rintro ⟨_, g2⟩
      have := (pos_le row h2 hb).mpr (by lia)
      lia

theorem toldGo_mid {row r0 : List Nat} (hr : Oct row) (h0 : Oct r0) : ∀ (rs : List (List Nat)) (b : Nat), (∀ r ∈ rs, Oct r) → valid row b →
    (toldGo row r0 rs false b = true ↔ enc r0 <+: enc row ∧ chq (enc row) (enc r0).length ((rs.map enc).reverse) (pos row b))
  | [], b, _, hb => by
    simp only [toldGo, Bool.and_eq_true, decide_eq_true_eq, List.map_nil, List.reverse_nil, chq]
    exact r0_spec hr h0 hb
  | r :: rs, b, hrs, hb => by
    have hro : Oct r := hrs r (by simp)
    simp only [toldGo, List.map_cons, List.reverse_cons, chq_snoc]
    by_cases hf : fits false r row b = []
    · rw [if_pos hf]
      constructor
      · intro h; cases h
      · rintro ⟨_, q, g1, g2, g3, _⟩
        exfalso
        obtain ⟨p, hp, rfl⟩ := pos_onto row q g1
        have : p ∈ fits false r row b := by
          rw [mem_fits]
          refine ⟨hp, ?_⟩
          simp only [true_and]
          rcases lend_spec row p r hro hr hp with ⟨h1, h2⟩ | ⟨e, h1, h2, h3, h4⟩
          · exact absurd g2 h2
          · have := (pos_le row h2 hb).mpr (by lia)
            lia
        rw [hf] at this; cases this
    · rw [if_neg hf]
      obtain ⟨m1, m2⟩ := maxN_spec hf
      generalize maxN (fits false r row b) = m at m1 m2
      have m1' := mem_fits.mp m1
      simp only [true_and] at m1'
      rw [toldGo_mid hr h0 rs m (fun x hx => hrs x (by simp [hx])) m1'.1]
      constructor
      · rintro ⟨h1, h2⟩
        refine ⟨h1, pos row m, pos_bound row m m1'.1, ?_, ?_, h2⟩
        · rcases lend_spec row m r hro hr m1'.1 with ⟨g1, g2⟩ | ⟨e, g1, g2, g3, g4⟩
          · lia
          · exact g4
        · rcases lend_spec row m r hro hr m1'.1 with ⟨g1, g2⟩ | ⟨e, g1, g2, g3, g4⟩
          · lia
          · rw [← g3]; exact (pos_le row g2 hb).mp (by lia)
      · rintro ⟨h1, q, g1, g2, g3, g4⟩
        refine ⟨h1, ?_⟩
        obtain ⟨p, hp, rfl⟩ := pos_onto row q g1
        have : p ∈ fits false r row b := by
          rw [mem_fits]
          refine ⟨hp, ?_⟩
          simp only [true_and]
          rcases lend_spec row p r hro hr hp with ⟨h1, h2⟩ | ⟨e, h1, h2, h3, h4⟩
          · exact absurd g2 h2
          · have := (pos_le row h2 hb).mpr (by lia)
            lia
        exact chq_mono_right _ ((pos_le row hp m1'.1).mp (m2 p this)) g4

theorem toldGo_last {row r0 : List Nat} (hr : Oct row) (h0 : Oct r0) (r : List Nat) (rs : List (List Nat)) (hrs : ∀ x ∈ r :: rs, Oct x) :
    toldGo row r0 (r :: rs) true (3 * row.length) = true ↔ enc r0 <+: enc row ∧ ∃ q, q ≤ (enc row).length ∧ enc r <+: (enc row).drop q ∧ q + (enc r).length = (enc row).length ∧ chq (enc row) (enc r0).length ((rs.map enc).reverse) q := by
  have hro : Oct r := hrs r (by simp)
  obtain ⟨he1, he2⟩ := pos_end row
  have hfit : ∀ p, p ∈ fits true r row (3 * row.length) ↔ valid row p ∧ enc r <+: (enc row).drop (pos row p) ∧ pos row p + (enc r).length = (enc row).length := by
    intro p
    rw [mem_fits]
    constructor
    · rintro ⟨hp, h⟩
      refine ⟨hp, ?_⟩
      rcases lend_spec row p r hro hr hp with ⟨h1, h2⟩ | ⟨e, h1, h2, h3, h4⟩
      · rcases h with h | ⟨h, _⟩
        · lia
        · cases h
      · rcases h with h | ⟨h, _⟩
        · refine ⟨h4, ?_⟩
          have : e = 3 * row.length := by lia
          rw [← h3, this, he1]
        · cases h
    · rintro ⟨hp, g2, g3⟩
      refine ⟨hp, .inl ?_⟩
      rcases lend_spec row p r hro hr hp with ⟨h1, h2⟩ | ⟨e, h1, h2, h3, h4⟩
      · exact absurd g2 h2
      · have := pos_inj row h2 he2 (by lia)
        lia
  rw [toldGo]
  by_cases hf : fits true r row (3 * row.length) = []
  · rw [if_pos hf]
    constructor
    · intro h; cases h
    · rintro ⟨_, q, g1, g2, g3, _⟩
      exfalso
      obtain ⟨p, hp, rfl⟩ := pos_onto row q g1
      have := (hfit p).mpr ⟨hp, g2, g3⟩
      rw [hf] at this; cases this
  · rw [if_neg hf]
    obtain ⟨m1, m2⟩ := maxN_spec hf
    generalize maxN (fits true r row (3 * row.length)) = m at m1 m2
    have m1' := (hfit m).mp m1
    rw [toldGo_mid hr h0 rs m (fun x hx => hrs x (by simp [hx])) m1'.1]
    constructor
    · rintro ⟨h1, h2⟩
      exact ⟨h1, pos row m, pos_bound row m m1'.1, m1'.2.1, m1'.2.2, h2⟩
    · rintro ⟨h1, q, g1, g2, g3, g4⟩
      refine ⟨h1, ?_⟩
      have : q = pos row m := by lia
      rw [← this]; exact g4


end

section

/-! ### the text of the regular expression, and how it is read -/
noncomputable def specials : List Nat := [40, 41, 91, 93, 123, 125, 63, 42, 43, 45, 124, 94, 36, 92, 46, 38, 126, 35, 32, 9, 10, 13, 11, 12]
noncomputable def esc (c : Nat) : List Nat := if specials.contains c then [92, c] else [c]
/-- _translate: a star is none -/
noncomputable def trs : Bool → List Nat → List (Option (List Nat))
  | _, [] => []
  | st, c :: l => if c = 42 then (if st then trs true l else none :: trs true l) else some (if c = 63 then [46] else esc c) :: trs false l
noncomputable def hasStar (ps : List (Option (List Nat))) : Bool := ps.any (· == none)
/-- _join_translated_parts, without its frame -/
noncomputable def jt : Bool → List (Option (List Nat)) → List Nat
  | _, [] => []
  | held, some x :: ps => x ++ jt held ps
  | held, none :: ps => (if held then [41] else []) ++ (if hasStar ps then [40, 63, 62, 46, 42, 63] ++ jt true ps else [46, 42] ++ jt false ps)
noncomputable def tail3 : List Nat := [41, 92, 90]
noncomputable def head4 : List Nat := [40, 63, 115, 58]
noncomputable def stops : List Nat := [40, 41, 42, 43, 63, 91, 93, 123, 125, 124, 94, 36]
/-- _law_runs behind the frame's head -/
noncomputable def prs : Nat → List Nat → Bool → List (List (Option Nat)) → List (Option Nat) → List (List (Option Nat))
  | 0, _, _, _, _ => []
  | n + 1, rest, held, done, cur =>
    if rest.length ≤ 3 then (if held then [] else done ++ [cur])
    else if rest.take 6 = [40, 63, 62, 46, 42, 63] ∧ held = false then prs n (rest.drop 6) true (done ++ [cur]) []
    else if held = true ∧ (rest.take 3 = [41, 46, 42] ∨ rest.take 4 = [41, 40, 63, 62]) then prs n (rest.drop 1) false done cur
    else if rest.take 2 = [46, 42] ∧ held = false then prs n (rest.drop 2) held (done ++ [cur]) []
    else if rest.headD 0 ∈ stops then []
    else if rest.headD 0 = 92 then prs n (rest.drop 2) held done (cur ++ [some (rest.getD 1 0)])
    else prs n (rest.drop 1) held done (cur ++ [if rest.headD 0 = 46 then none else some (rest.headD 0)])

noncomputable def sym (c : Nat) : Option Nat := if c = 63 then none else some c
noncomputable def grp : List (Option Nat) → Bool → List Nat → List (List (Option Nat))
  | cur, _, [] => [cur]
  | cur, st, c :: l => if c = 42 then (if st then grp cur true l else cur :: grp [] true l) else grp (cur ++ [sym c]) false l

theorem stops_specials {c : Nat} (h : specials.contains c = false) : c ∉ stops ∧ c ≠ 92 ∧ c ≠ 46 ∧ c ≠ 40 ∧ c ≠ 41 := by
  have hn : c ∉ specials := by simpa using h
  have sub : ∀ x ∈ stops, x ∈ specials := by decide
  exact ⟨fun q => hn (sub c q), fun q => hn (q ▸ (by decide : 92 ∈ specials)), fun q => hn (q ▸ (by decide : 46 ∈ specials)), fun q => hn (q ▸ (by decide : 40 ∈ specials)), fun q => hn (q ▸ (by decide : 41 ∈ specials))⟩

theorem jt_head (tl : List Nat) (hd : ∀ t, tl ≠ 42 :: t) : ∀ (held st : Bool) (w : List Nat) (t : List Nat), jt held (trs st w) ++ tl ≠ 42 :: t
  | held, st, [], t => hd t
  | held, st, c :: l, t => by
    rw [trs]
    by_cases hc : c = 42
    · rw [if_pos hc]
      cases st with
      | true => exact jt_head tl hd held true l t
      | false =>
        simp only [Bool.false_eq_true, if_false, jt]
        cases held <;> cases hasStar (trs true l) <;> simp
    · rw [if_neg hc]
      simp only [jt]
      by_cases h63 : c = 63
      · rw [if_pos h63]; simp
      · rw [if_neg h63, esc]
        split
        · simp
        · simp [hc]

theorem prs_spec : ∀ (w : List Nat) (n : Nat) (held st : Bool) (done : List (List (Option Nat))) (cur : List (Option Nat)),
    (held = true → hasStar (trs st w) = true) → (st = true → cur = []) → (jt held (trs st w) ++ tail3).length ≤ n →
    prs n (jt held (trs st w) ++ tail3) held done cur = done ++ grp cur st w
  | [], n, held, st, done, cur, hh, hs, hn => by
    cases held with
    | true => exact absurd (hh rfl) (by simp [trs, hasStar])
    | false =>
      simp only [trs, jt, List.nil_append, grp] at *
      cases n with
      | zero => simp [tail3] at hn
      | succ n => simp [prs, tail3]
  | c :: l, n, held, st, done, cur, hh, hs, hn => by
    by_cases hc : c = 42
    · subst hc
      cases st with
      | true =>
        simp only [trs, if_true, grp] at *
        exact prs_spec l n held true done cur hh (fun _ => hs trivial) hn
      | false =>
        simp only [trs, if_true, Bool.false_eq_true, if_false, grp] at *
        have key : ∀ (n : Nat), (jt false (none :: trs true l) ++ tail3).length ≤ n → prs n (jt false (none :: trs true l) ++ tail3) false done cur = done ++ cur :: grp [] true l := by
          intro n hn
          simp only [jt] at *
          cases hst : hasStar (trs true l) with
          | true =>
            rw [hst] at hn
            simp only [Bool.false_eq_true, if_false, if_true, List.nil_append, List.cons_append] at *
            cases n with
            | zero => simp at hn
            | succ n =>
              have ih := prs_spec l n true true (done ++ [cur]) [] (fun _ => hst) (fun _ => rfl) (by simp at hn ⊢; lia)
              simp only [prs]
              rw [if_neg (by simp), if_pos (by simp)]
              simp only [List.drop_succ_cons, List.drop_zero]
              rw [ih]; simp
          | false =>
            rw [hst] at hn
            simp only [Bool.false_eq_true, if_false, if_true, List.nil_append, List.cons_append] at *
            cases n with
            | zero => simp at hn
            | succ n =>
              have ih := prs_spec l n false true (done ++ [cur]) [] (by simp) (fun _ => rfl) (by simp at hn ⊢; lia)
              simp only [prs]
              rw [if_neg (by simp [tail3]), if_neg (by simp), if_neg (by simp), if_pos (by simp)]
              simp only [List.drop_succ_cons, List.drop_zero]
              rw [ih]; simp
        cases held with
        | false => exact key n hn
        | true =>
          have e : jt true (none :: trs true l) ++ tail3 = 41 :: (jt false (none :: trs true l) ++ tail3) := by simp [jt]
          rw [e] at hn ⊢
          cases n with
          | zero => simp at hn
          | succ n =>
            have h2 := key n (by simpa using hn)
            simp only [prs]
            have hl : 3 ≤ (jt false (none :: trs true l) ++ tail3).length := by simp [tail3]
            rw [if_neg (by simp only [List.length_cons]; lia), if_neg (by simp), if_pos (by
              refine ⟨trivial, ?_⟩
              simp only [jt]
              cases hasStar (trs true l)
              · left; simp
              · right; simp)]
            simpa using h2
    · have hnext : ∀ t, jt held (trs false l) ++ tail3 ≠ 42 :: t := jt_head tail3 (by simp [tail3]) held false l
      have hh' : held = true → hasStar (trs false l) = true := by
        intro q
        have := hh q
        simpa [trs, hc, hasStar] using this
      simp only [trs, if_neg hc, jt, List.append_assoc, grp] at *
      have hl : 3 ≤ (jt held (trs false l) ++ tail3).length := by simp [tail3]
      by_cases h63 : c = 63
      · rw [if_pos h63] at *
        cases n with
        | zero => simp at hn
        | succ n =>
          have ih := prs_spec l n held false done (cur ++ [sym c]) hh' (by simp) (by simpa using hn)
          rw [← ih]
          generalize jt held (trs false l) ++ tail3 = R at *
          simp only [prs, List.cons_append, List.nil_append]
          rw [if_neg (by simp only [List.length_cons]; lia), if_neg (by simp), if_neg (by simp), if_neg ?_, if_neg (by simp [stops]), if_neg (by simp)]
          · simp [sym, h63]
          · rintro ⟨h1, _⟩
            cases R with
            | nil => simp at hl
            | cons x t => simp at h1; exact hnext t (by rw [h1])
      · rw [if_neg h63, esc] at *
        cases hsp : specials.contains c with
        | true =>
          rw [hsp] at hn
          simp only [if_true] at *
          cases n with
          | zero => simp at hn
          | succ n =>
            have ih := prs_spec l n held false done (cur ++ [sym c]) hh' (by simp) (by simp at hn ⊢; lia)
            rw [← ih]
            generalize jt held (trs false l) ++ tail3 = R at *
            simp only [prs, List.cons_append, List.nil_append]
            rw [if_neg (by simp only [List.length_cons]; lia), if_neg (by simp), if_neg (by simp), if_neg (by simp), if_neg (by simp [stops]), if_pos (by simp)]
            simp [sym, h63]
        | false =>
          rw [hsp] at hn
          simp only [Bool.false_eq_true, if_false] at *
          obtain ⟨q1, q2, q3, q4, q5⟩ := stops_specials hsp
          cases n with
          | zero => simp at hn
          | succ n =>
            have ih := prs_spec l n held false done (cur ++ [sym c]) hh' (by simp) (by simpa using hn)
            rw [← ih]
            generalize jt held (trs false l) ++ tail3 = R at *
            simp only [prs, List.cons_append, List.nil_append]
            rw [if_neg (by simp only [List.length_cons]; lia), if_neg (by simp [q4]), if_neg (by simp [q5]), if_neg (by simp [q3]), if_neg (by simpa using q1), if_neg (by simpa using q2)]
            simp [sym, h63, q3]

/-! ### the groups of a header word -/
noncomputable def spl : List Nat → List Nat × List (List Nat)
  | [] => ([], [])
  | a :: l => if a = 42 then ([], (spl l).1 :: (spl l).2) else (a :: (spl l).1, (spl l).2)
theorem sp_eq : ∀ (l : List Nat) (done : List (List Nat)) (cur : List Nat), sp done cur l = done ++ ((cur ++ (spl l).1) :: (spl l).2)
  | [], done, cur => by simp [sp, spl]
  | a :: l, done, cur => by
    simp only [sp, spl]
    split
    · rw [sp_eq l]; simp
    · rw [sp_eq l]; simp
theorem spl_oct : ∀ (l : List Nat), Oct l → Oct (spl l).1 ∧ (∀ r ∈ (spl l).2, Oct r) ∧ (42 ∉ (spl l).1)
  | [], _ => by refine ⟨?_, ?_, ?_⟩ <;> simp [spl, Oct]
  | a :: l, h => by
    have ih := spl_oct l fun x hx => h x (by simp [hx])
    simp only [spl]
    split
    · refine ⟨by simp [Oct], fun r hr => ?_, by simp⟩
      rcases List.mem_cons.mp hr with rfl | hr
      · exact ih.1
      · exact ih.2.1 r hr
    · rename_i ha
      refine ⟨fun x hx => ?_, ih.2.1, fun hx => ?_⟩
      · rcases List.mem_cons.mp hx with rfl | hx
        · exact h _ (by simp)
        · exact ih.1 x hx
      · rcases List.mem_cons.mp hx with q | hx
        · exact ha q.symm
        · exact ih.2.2 hx

noncomputable def fin (S : List (Option Nat)) : List (List Nat) → List (List (Option Nat))
  | [] => []
  | [r] => [(enc r).map some ++ S]
  | r :: rs => if r = [] then fin S rs else (enc r).map some :: fin S rs
noncomputable def finF (S : List (Option Nat)) (cur : List (Option Nat)) (r : List Nat) : List (List Nat) → List (List (Option Nat))
  | [] => [cur ++ (enc r).map some ++ S]
  | rs => (cur ++ (enc r).map some) :: fin S rs

theorem grp_plain : ∀ (x : List Nat) (cur : List (Option Nat)) (st : Bool) (w : List Nat), x ≠ [] → (∀ c ∈ x, c ≠ 42 ∧ c ≠ 63) → grp cur st (x ++ w) = grp (cur ++ x.map some) false w
  | [], _, _, _, h, _ => absurd rfl h
  | c :: x, cur, st, w, _, h => by
    have hc := h c (by simp)
    rw [List.cons_append, grp, if_neg hc.1]
    have e : sym c = some c := by rw [sym, if_neg hc.2]
    cases x with
    | nil => simp [e]
    | cons d x =>
      rw [grp_plain (d :: x) (cur ++ [sym c]) false w (by simp) fun y hy => h y (by simp [hy])]
      simp [e]

theorem enc_ne_nil {a : Nat} {l : List Nat} : enc (a :: l) ≠ [] := by
  have h1 := enc1_pos a
  intro h
  have h2 := congrArg List.length h
  rw [enc_cons, List.length_append, List.length_nil] at h2
  lia

theorem grp_enc (S : List Nat) (hS : ∀ cur st, grp cur st S = [cur ++ S.map sym]) : ∀ (l : List Nat), Oct l →
    (∀ cur, grp cur false (enc l ++ S) = finF (S.map sym) cur (spl l).1 (spl l).2) ∧ grp [] true (enc l ++ S) = fin (S.map sym) ((spl l).1 :: (spl l).2)
  | [], _ => by simp [enc, spl, hS, finF, fin]
  | a :: l, h => by
    have ih := grp_enc S hS l fun x hx => h x (by simp [hx])
    by_cases ha : a = 42
    · subst ha
      have e : enc1 42 = [42] := rfl
      simp only [enc_cons, e, spl, if_true, List.cons_append, List.nil_append, grp, Bool.false_eq_true, if_false]
      refine ⟨fun cur => ?_, ?_⟩
      · rw [ih.2]; simp [finF, enc]
      · rw [ih.2]; simp [fin]
    · have hx : ∀ c ∈ enc1 a, c ≠ 42 ∧ c ≠ 63 := fun c hc => by
        have := enc1_mem (h a (by simp)) hc
        exact ⟨fun q => ha (this.2.2.2 q), this.1⟩
      have hne : enc1 a ≠ [] := by
        intro q
        have := enc1_pos a
        rw [q] at this; simp at this
      simp only [enc_cons, spl, if_neg ha, List.append_assoc]
      have one : ∀ cur st, grp cur st (enc1 a ++ (enc l ++ S)) = finF (S.map sym) (cur ++ (enc1 a).map some) (spl l).1 (spl l).2 := by
        intro cur st
        rw [grp_plain _ _ _ _ hne hx, ih.1]
      refine ⟨fun cur => ?_, ?_⟩
      · rw [one]
        cases (spl l).2 with
        | nil => simp [finF, enc_cons]
        | cons r rs => simp [finF, enc_cons]
      · rw [one]
        cases (spl l).2 with
        | nil => simp [finF, fin, enc_cons]
        | cons r rs =>
          have : a :: (spl l).1 ≠ [] := by simp
          simp [finF, fin, enc_cons]


end

section

/-! ### the match -/
noncomputable def okAt (run : List (Option Nat)) (name : List Nat) (a k : Nat) : Bool := match run.getD k none with
  | none => true
  | some c => name.getD (a + k) 0 == c
noncomputable def runAt (run : List (Option Nat)) (name : List Nat) (a : Nat) : Bool := decide (a + run.length ≤ name.length) && (List.range run.length).all (okAt run name a)
noncomputable def findAt (run : List (Option Nat)) (name : List Nat) : Nat → Nat → Nat
  | 0, a => a
  | f + 1, a => if a + run.length ≤ name.length ∧ runAt run name a = false then findAt run name f (a + 1) else a
noncomputable def takes (g0 : List (Option Nat)) (rest : List (List (Option Nat))) (name : List Nat) : Bool :=
  if runAt g0 name 0 = false then false
  else if rest = [] then decide (g0.length = name.length)
  else decide (rest.dropLast.foldl (fun a r => findAt r name (name.length + 1) a + r.length) g0.length + (rest.getLastD []).length ≤ name.length) &&
    runAt (rest.getLastD []) name (name.length - (rest.getLastD []).length)

theorem runAt_nil (name : List Nat) (a : Nat) : runAt [] name a = true ↔ a ≤ name.length := by simp [runAt]
theorem runAt_cons (x : Option Nat) (r : List (Option Nat)) (name : List Nat) (a : Nat) :
    runAt (x :: r) name a = true ↔ a < name.length ∧ (x = none ∨ x = some (name.getD a 0)) ∧ runAt r name (a + 1) = true := by
  unfold runAt
  simp only [List.length_cons, Bool.and_eq_true, decide_eq_true_eq]
  rw [List.range_succ_eq_map, List.all_cons, Bool.and_eq_true, List.all_map]
  have e : (okAt (x :: r) name a ∘ Nat.succ) = okAt r name (a + 1) := by
    funext k
    simp only [Function.comp, okAt, List.getD_cons_succ]
    have : a + Nat.succ k = a + 1 + k := by lia
    rw [this]
  rw [e]
  have e0 : okAt (x :: r) name a 0 = true ↔ (x = none ∨ x = some (name.getD a 0)) := by
    cases x with
    | none => simp [okAt]
    | some c => simp only [okAt, Nat.add_zero, List.getD_cons_zero, beq_iff_eq, reduceCtorEq, false_or, Option.some.injEq]; exact eq_comm
  rw [e0]
  constructor
  · rintro ⟨h1, h2, h3⟩; exact ⟨by lia, h2, by lia, h3⟩
  · rintro ⟨h1, h2, h3, h4⟩; exact ⟨by lia, h2, h4⟩
theorem runAt_append : ∀ (x y : List (Option Nat)) (name : List Nat) (a : Nat), runAt (x ++ y) name a = true ↔ runAt x name a = true ∧ runAt y name (a + x.length) = true
  | [], y, name, a => by
    rw [List.nil_append, runAt_nil, List.length_nil, Nat.add_zero]
    constructor
    · intro h
      refine ⟨?_, h⟩
      unfold runAt at h; simp at h; lia
    · exact fun h => h.2
  | c :: x, y, name, a => by
    rw [List.cons_append, runAt_cons, runAt_cons, runAt_append x y name (a + 1), List.length_cons]
    have : a + 1 + x.length = a + (x.length + 1) := by lia
    rw [this]
    simp only [and_assoc]
theorem runAt_some : ∀ (x name : List Nat) (a : Nat), runAt (x.map some) name a = true ↔ a ≤ name.length ∧ x <+: name.drop a
  | [], name, a => by simp [runAt]
  | c :: x, name, a => by
    rw [List.map_cons, runAt_cons, runAt_some x name (a + 1)]
    by_cases h : a < name.length
    · have e : name.drop a = name.getD a 0 :: name.drop (a + 1) := by
        rw [List.drop_eq_getElem_cons h]
        simp [List.getD_eq_getElem?_getD, h]
      rw [e, List.cons_prefix_cons]
      simp only [Option.some.injEq, reduceCtorEq, false_or]
      constructor
      · rintro ⟨_, h2, h3, h4⟩; exact ⟨by lia, h2, h4⟩
      · rintro ⟨_, h2, h4⟩; exact ⟨h, h2, by lia, h4⟩
    · constructor
      · rintro ⟨h1, _⟩; exact absurd h1 h
      · rintro ⟨_, h2⟩
        rw [List.drop_eq_nil_of_le (by lia)] at h2
        simp at h2

theorem findAt_spec (run : List (Option Nat)) (name : List Nat) : ∀ (f a : Nat), name.length + 1 ≤ f + a →
    (∀ p, a ≤ p → p < findAt run name f a → runAt run name p = false) ∧ a ≤ findAt run name f a ∧
    (runAt run name (findAt run name f a) = true ∨ name.length < findAt run name f a + run.length)
  | 0, a, h => ⟨fun p h1 h2 => absurd h2 (by simp only [findAt]; lia), Nat.le_refl _, .inr (by simp only [findAt]; lia)⟩
  | f + 1, a, h => by
    rw [findAt]
    split
    · rename_i hc
      obtain ⟨h1, h2, h3⟩ := findAt_spec run name f (a + 1) (by lia)
      refine ⟨fun p g1 g2 => ?_, by lia, h3⟩
      rcases Nat.eq_or_lt_of_le g1 with rfl | g
      · exact hc.2
      · exact h1 p g g2
    · rename_i hc
      refine ⟨fun p g1 g2 => by lia, Nat.le_refl _, ?_⟩
      cases q : runAt run name a with
      | true => exact .inl rfl
      | false => right; rw [q] at hc; simp at hc; exact hc
theorem findAt_past (run : List (Option Nat)) (name : List Nat) (f a : Nat) (h : name.length < a + run.length) : findAt run name f a = a := by
  cases f with
  | zero => rfl
  | succ f => rw [findAt, if_neg (by lia)]

/-! ### a header word, matched -/
section
variable {P E S : List Nat}

/-- a run of signs none of which is 63 lies in the word behind its head only within the encoded row -/
theorem run_in (hS : S = [63, 61]) {x : List Nat} (hx : x ≠ []) (hm : ∀ c ∈ x, c ≠ 63) (h3 : x.head? = some 61 → 3 ≤ x.length) (q : Nat) :
    (q ≤ (P ++ E ++ S).length ∧ P.length ≤ q ∧ x <+: (P ++ E ++ S).drop q) ↔ ∃ q', q = P.length + q' ∧ q' ≤ E.length ∧ x <+: E.drop q' := by
  subst hS
  constructor
  · rintro ⟨h1, h2, h⟩
    obtain ⟨q', rfl⟩ : ∃ q', q = P.length + q' := ⟨q - P.length, by lia⟩
    refine ⟨q', rfl, ?_⟩
    have e : (P ++ E ++ [63, 61]).drop (P.length + q') = (E ++ [63, 61]).drop q' := by
      rw [List.append_assoc, List.drop_append, List.drop_eq_nil_of_le (by lia), List.nil_append]
      congr 1; lia
    rw [e] at h
    by_cases hq : q' ≤ E.length
    · refine ⟨hq, ?_⟩
      rw [List.drop_append_of_le_length hq] at h
      rcases Nat.lt_or_ge (E.drop q').length x.length with g | g
      · exfalso
        have h6 : 63 ∈ x := by
          have := List.prefix_iff_eq_take.mp h
          rw [this]
          rw [List.take_append]
          refine List.mem_append_right _ ?_
          obtain ⟨k, hk⟩ : ∃ k, x.length - (E.drop q').length = k + 1 := ⟨x.length - (E.drop q').length - 1, by lia⟩
          rw [hk]
          simp
        exact hm 63 h6 rfl
      · exact List.prefix_of_prefix_length_le h (List.prefix_append _ _) g
    · exfalso
      have hl : q' ≤ E.length + 2 := by simp at h1; lia
      have : q' = E.length + 1 ∨ q' = E.length + 2 := by lia
      rcases this with rfl | rfl
      · have e2 : (E ++ [63, 61]).drop (E.length + 1) = [61] := by
          rw [List.drop_append, List.drop_eq_nil_of_le (by lia), List.nil_append]
          have : E.length + 1 - E.length = 1 := by lia
          rw [this]; rfl
        rw [e2] at h
        cases x with
        | nil => exact hx rfl
        | cons c x =>
          rw [List.cons_prefix_cons] at h
          have g1 := h3 (by simp [h.1])
          have g2 := h.2.length_le
          rw [List.length_cons] at g1
          rw [List.length_nil] at g2
          lia
      · rw [List.drop_eq_nil_of_le (by simp)] at h
        exact hx (List.prefix_nil.mp h)
  · rintro ⟨q', rfl, hq, h⟩
    refine ⟨by simp; lia, by lia, ?_⟩
    have e : (P ++ E ++ [63, 61]).drop (P.length + q') = E.drop q' ++ [63, 61] := by
      rw [List.append_assoc, List.drop_append, List.drop_eq_nil_of_le (by lia), List.nil_append]
      have : P.length + q' - P.length = q' := by lia
      rw [this, List.drop_append_of_le_length hq]
    rw [e]
    exact h.trans (List.prefix_append _ _)

noncomputable def Good (x : List Nat) : Prop := x ≠ [] ∧ (∀ c ∈ x, c ≠ 63) ∧ (x.head? = some 61 → 3 ≤ x.length)

theorem runAt_in (hS : S = [63, 61]) {x : List Nat} (hg : Good x) {q : Nat} (hq : P.length ≤ q) :
    runAt (x.map some) (P ++ E ++ S) q = true ↔ ∃ q', q = P.length + q' ∧ q' ≤ E.length ∧ x <+: E.drop q' := by
  rw [runAt_some, ← run_in hS hg.1 hg.2.1 hg.2.2]
  constructor
  · rintro ⟨h1, h2⟩; exact ⟨h1, hq, h2⟩
  · rintro ⟨h1, _, h2⟩; exact ⟨h1, h2⟩

/-- the left-hand greedy walk over the runs between, and the last one at the end -/
theorem mid_spec (hS : S = [63, 61]) (l : List Nat) (hl : ∀ c ∈ l, c ≠ 63) : ∀ (mids : List (List Nat)) (a : Nat), (∀ x ∈ mids, Good x) → P.length ≤ a →
    ((mids.map fun x => x.map some).foldl (fun a r => findAt r (P ++ E ++ S) ((P ++ E ++ S).length + 1) a + r.length) a + (l.length + 2) ≤ (P ++ E ++ S).length ↔
      ∃ q, P.length + q + l.length = P.length + E.length ∧ chq E (a - P.length) mids q)
  | [], a, _, ha => by
    subst hS
    simp only [List.map_nil, List.foldl_nil, chq, List.length_append, List.length_cons, List.length_nil]
    constructor
    · intro h; exact ⟨E.length - l.length, by lia, by lia⟩
    · rintro ⟨q, h1, h2⟩; lia
  | x :: mids, a, hm, ha => by
    have hx := hm x (by simp)
    simp only [List.map_cons, List.foldl_cons, chq, List.length_map]
    obtain ⟨f1, f2, f3⟩ := findAt_spec (x.map some) (P ++ E ++ S) ((P ++ E ++ S).length + 1) a (by lia)
    generalize hp : findAt (x.map some) (P ++ E ++ S) ((P ++ E ++ S).length + 1) a = p at f1 f2 f3
    rw [mid_spec hS l hl mids (p + x.length) (fun y hy => hm y (by simp [hy])) (by lia)]
    have hlen : (P ++ E ++ S).length = P.length + E.length + 2 := by subst hS; simp; lia
    constructor
    · rintro ⟨q, h1, h2⟩
      rcases f3 with f3 | f3
      · obtain ⟨p', rfl, g1, g2⟩ := (runAt_in hS hx (by lia)).mp f3
        refine ⟨q, h1, p', by lia, g1, g2, ?_⟩
        have : P.length + p' + x.length - P.length = p' + x.length := by lia
        rw [this] at h2; exact h2
      · exfalso
        rw [List.length_map] at f3
        have := chq_le E h2
        lia
    · rintro ⟨q, h1, q', g1, g2, g3, g4⟩
      refine ⟨q, h1, ?_⟩
      have hr : runAt (x.map some) (P ++ E ++ S) (P.length + q') = true := (runAt_in hS hx (by lia)).mpr ⟨q', rfl, g2, g3⟩
      have : p ≤ P.length + q' := by
        rcases Nat.lt_or_ge (P.length + q') p with g | g
        · have := f1 (P.length + q') (by lia) g
          rw [hr] at this; cases this
        · exact g
      exact chq_mono_left E (by lia) g4
end


end

section

noncomputable def word (m : Nat) (l : List Nat) : List Nat := if l = [] then [] else [61, 63, m, 63, 113, 63] ++ enc l ++ [63, 61]
noncomputable def takesG (gs : List (List (Option Nat))) (name : List Nat) : Bool := match gs with
  | [] => false
  | g0 :: rest => takes g0 rest name
noncomputable def pre6 (m : Nat) : List (Option Nat) := [some 61, none, sym m, none, some 113, none]

theorem grp_word {m : Nat} (hm : m ≠ 42) {l : List Nat} (h : Oct l) (hne : l ≠ []) : grp [] false (word m l) = finF [none, some 61] (pre6 m) (spl l).1 (spl l).2 := by
  rw [word, if_neg hne]
  have hS : ∀ cur st, grp cur st [63, 61] = [cur ++ [63, 61].map sym] := by intro cur st; simp [grp]
  have := (grp_enc [63, 61] hS l h).1 (pre6 m)
  rw [show ([63, 61].map sym) = [none, some 61] from rfl] at this
  rw [← this]
  simp [grp, hm, pre6, sym]

theorem runAt_pre {m : Nat} {x : List Nat} (hm : m = 117 ∨ m = 63 ∨ m = 118) : runAt (pre6 m) (61 :: 63 :: 117 :: 63 :: 113 :: 63 :: x) 0 = true ↔ m ≠ 118 := by
  unfold pre6
  simp only [runAt_cons, runAt_nil]
  rcases hm with rfl | rfl | rfl <;> simp [sym]

theorem fin_snoc (S : List (Option Nat)) : ∀ (mids : List (List Nat)) (r : List Nat), fin S (mids ++ [r]) = ((mids.filter (fun r => r != [])).map fun r => (enc r).map some) ++ [(enc r).map some ++ S]
  | [], r => rfl
  | x :: mids, r => by
    rw [List.cons_append]
    have ih := fin_snoc S mids r
    have e : fin S (x :: (mids ++ [r])) = if x = [] then fin S (mids ++ [r]) else (enc x).map some :: fin S (mids ++ [r]) := by
      cases h : mids ++ [r] with
      | nil => simp at h
      | cons y ys => rfl
    rw [e, ih]
    cases x with
    | nil => simp
    | cons a x => simp

theorem filter_enc (mids : List (List Nat)) : (mids.map enc).filter (fun r => r != []) = (mids.filter (fun r => r != [])).map enc := by
  induction mids with
  | nil => rfl
  | cons x mids ih =>
    cases x with
    | nil => simpa [enc] using ih
    | cons a x =>
      have h1 : (enc (a :: x) != []) = true := by simpa using enc_ne_nil
      have h2 : ((a :: x) != []) = true := by simp
      rw [List.map_cons, List.filter_cons, List.filter_cons, h1, h2]
      simp [ih]

theorem chq_filter_ex {E : List Nat} {a : Nat} (h : a ≤ E.length) {rs : List (List Nat)} {n k : Nat} {c : Nat} :
    (∃ q, n + q + k = c ∧ chq E a rs q) ↔ (∃ q, n + q + k = c ∧ chq E a (rs.filter (fun r => r != [])) q) := by
  constructor
  · rintro ⟨q, h1, h2⟩; exact ⟨q, h1, (chq_filter E h).mp h2⟩
  · rintro ⟨q, h1, h2⟩; exact ⟨q, h1, (chq_filter E h).mpr h2⟩

theorem good_enc {r : List Nat} (h : Oct r) (hne : r ≠ []) : Good (enc r) := by
  cases r with
  | nil => exact absurd rfl hne
  | cons a r =>
    refine ⟨enc_ne_nil, fun c hc => (enc_mem h hc).1, ?_⟩
    intro h1
    rw [enc_cons] at *
    rcases enc1_cases a with ⟨hs, _, e⟩ | ⟨_, _, e⟩ | ⟨_, _, e⟩ <;> rw [e] at h1 ⊢
    · simp at h1; subst h1; simp [safe] at hs
    · simp at h1
    · simp

theorem law_eq {octets one : List Nat} {m : Nat} (hm : m = 117 ∨ m = 63 ∨ m = 118) (ho : Oct octets) (hne : octets ≠ []) (h1 : Oct one) :
    takesG (grp [] false (word m octets)) (word 117 one) = (decide (m ≠ 118) && told octets one) := by
  have hm42 : m ≠ 42 := by lia
  rw [grp_word hm42 ho hne]
  obtain ⟨o1, o2, _⟩ := spl_oct octets ho
  by_cases h0 : one = []
  · subst h0
    have e : told octets [] = false := rfl
    rw [e, Bool.and_false]
    have : word 117 [] = [] := rfl
    rw [this]
    have hlen : ∀ y rest, takes (pre6 m ++ y) rest [] = false := by
      intro y rest
      unfold takes
      have : runAt (pre6 m ++ y) [] 0 = false := by
        unfold runAt
        simp [pre6]
      rw [if_pos this]
    cases hsp : (spl octets).2 with
    | nil => simp only [finF, takesG, List.append_assoc]; exact hlen _ _
    | cons r rs => simp only [finF, takesG]; exact hlen _ _
  · have hw : word 117 one = [61, 63, 117, 63, 113, 63] ++ enc one ++ [63, 61] := by rw [word, if_neg h0]
    rw [hw]
    unfold told
    rw [if_neg h0, sp_eq, List.nil_append, List.nil_append]
    dsimp only
    generalize hE : enc one = E
    have hEm : ∀ r : List Nat, Oct r → (enc r <+: E ++ [63, 61] ↔ enc r <+: E) := by
      intro r hr
      rw [← hE, enc_prefix (.inr ⟨_, rfl⟩) r one hr h1]
      have := enc_prefix (S := []) (.inl rfl) r one hr h1
      rw [List.append_nil] at this
      exact this.symm
    have hpre : runAt (pre6 m) ([61, 63, 117, 63, 113, 63] ++ E ++ [63, 61]) 0 = true ↔ m ≠ 118 := by
      rw [List.append_assoc]; exact runAt_pre hm
    have hlen : ([61, 63, 117, 63, 113, 63] ++ E ++ [63, 61]).length = 6 + E.length + 2 := by simp; lia
    have hdrop : ∀ q, q ≤ E.length → ([61, 63, 117, 63, 113, 63] ++ E ++ [63, 61]).drop (6 + q) = E.drop q ++ [63, 61] := by
      intro q hq
      rw [List.append_assoc, List.drop_append, List.drop_eq_nil_of_le (by simp), List.nil_append]
      have : 6 + q - [61, 63, 117, 63, 113, 63].length = q := by simp
      rw [this, List.drop_append_of_le_length hq]
    have htail : runAt [none, some 61] ([61, 63, 117, 63, 113, 63] ++ E ++ [63, 61]) (6 + E.length) = true := by
      rw [runAt_cons, runAt_cons, runAt_nil, hlen]
      refine ⟨by lia, .inl rfl, by lia, .inr ?_, by lia⟩
      have e : 6 + E.length + 1 = ([61, 63, 117, 63, 113, 63] ++ E).length + 1 := by simp; lia
      rw [e, List.getD_eq_getElem?_getD, List.getElem?_append_right (by lia)]
      have : ([61, 63, 117, 63, 113, 63] ++ E).length + 1 - ([61, 63, 117, 63, 113, 63] ++ E).length = 1 := by lia
      rw [this]; rfl
    have p6 : (pre6 m).length = 6 := rfl
    have first : runAt (pre6 m ++ (enc (spl octets).1).map some) ([61, 63, 117, 63, 113, 63] ++ E ++ [63, 61]) 0 = true ↔ m ≠ 118 ∧ enc (spl octets).1 <+: E := by
      rw [runAt_append, hpre, p6, runAt_some, Nat.zero_add]
      have := hdrop 0 (Nat.zero_le _)
      rw [Nat.add_zero] at this
      rw [this, List.drop_zero, hEm _ o1, hlen]
      constructor
      · rintro ⟨a, _, b⟩; exact ⟨a, b⟩
      · rintro ⟨a, b⟩; exact ⟨a, by lia, b⟩
    rcases List.eq_nil_or_concat (spl octets).2 with hsp | ⟨mids, lst, hsp⟩
    · rw [hsp]
      simp only [finF, takesG, takes, if_true]
      have h0' : lend (spl octets).1 one 0 = ((3 * one.length : Nat) : Int) ↔ enc (spl octets).1 <+: E ∧ (enc (spl octets).1).length = E.length := by
        have hz := pos_zero one
        obtain ⟨he1, he2⟩ := pos_end one
        rcases lend_spec one 0 (spl octets).1 o1 h1 hz.2 with ⟨g1, g2⟩ | ⟨e, g1, g2, g3, g4⟩
        · rw [hz.1, List.drop_zero, hE] at g2
          constructor
          · intro h; lia
          · rintro ⟨h, _⟩; exact absurd h g2
        · rw [hz.1, List.drop_zero, hE] at g4
          rw [hz.1, Nat.zero_add] at g3
          rw [← hE, ← he1, g1]
          constructor
          · intro h
            have : e = 3 * one.length := by lia
            rw [← this, g3]; exact ⟨hE ▸ g4, rfl⟩
          · rintro ⟨_, h⟩
            have := pos_inj one g2 he2 (by lia)
            lia
      have hall : runAt (pre6 m ++ (enc (spl octets).1).map some ++ [none, some 61]) ([61, 63, 117, 63, 113, 63] ++ E ++ [63, 61]) 0 = true ∧ (pre6 m ++ (enc (spl octets).1).map some ++ [none, some 61]).length = ([61, 63, 117, 63, 113, 63] ++ E ++ [63, 61]).length ↔ m ≠ 118 ∧ lend (spl octets).1 one 0 = ((3 * one.length : Nat) : Int) := by
        rw [runAt_append, first, h0', hlen]
        have e : (pre6 m ++ (enc (spl octets).1).map some ++ [none, some 61]).length = 6 + (enc (spl octets).1).length + 2 := by simp [pre6]; lia
        have e2 : 0 + (pre6 m ++ (enc (spl octets).1).map some).length = 6 + (enc (spl octets).1).length := by simp [pre6]; lia
        rw [e, e2]
        constructor
        · rintro ⟨⟨⟨a, b⟩, _⟩, c⟩; exact ⟨a, b, by lia⟩
        · rintro ⟨a, b, c⟩
          rw [c]
          exact ⟨⟨⟨a, b⟩, htail⟩, by lia⟩
      rw [Bool.eq_iff_iff]
      rw [Bool.and_eq_true, decide_eq_true_eq, decide_eq_true_eq, ← hall]
      cases hq : runAt (pre6 m ++ (enc (spl octets).1).map some ++ [none, some 61]) ([61, 63, 117, 63, 113, 63] ++ E ++ [63, 61]) 0 <;> simp
    · rw [List.concat_eq_append] at hsp
      rw [hsp] at o2 ⊢
      have hne2 : mids ++ [lst] ≠ [] := by simp
      have e1 : finF [none, some 61] (pre6 m) (spl octets).1 (mids ++ [lst]) = (pre6 m ++ (enc (spl octets).1).map some) :: fin [none, some 61] (mids ++ [lst]) := by
        cases h : mids ++ [lst] with
        | nil => simp at h
        | cons y ys => rfl
      rw [e1, fin_snoc, if_neg hne2]
      simp only [takesG, takes]
      have hlo : Oct lst := o2 lst (by simp)
      have hmo : ∀ r ∈ mids, Oct r := fun r hr => o2 r (by simp [hr])
      rw [List.reverse_append, List.reverse_singleton, List.singleton_append]
      rw [Bool.eq_iff_iff, Bool.and_eq_true, decide_eq_true_eq, toldGo_last h1 o1 lst mids.reverse (by
        intro x hx
        rcases List.mem_cons.mp hx with rfl | hx
        · exact hlo
        · exact hmo x (List.mem_reverse.mp hx)), hE]
      rw [List.map_reverse, List.reverse_reverse]
      have hne3 : ((mids.filter (fun r => r != [])).map fun r => (enc r).map some) ++ [(enc lst).map some ++ [none, some 61]] ≠ [] := by simp
      rw [if_neg hne3, List.dropLast_concat]
      have eL : (((mids.filter (fun r => r != [])).map fun r => (enc r).map some) ++ [(enc lst).map some ++ [none, some 61]]).getLastD [] = (enc lst).map some ++ [none, some 61] := by
        simp
      rw [eL]
      by_cases hf : m ≠ 118 ∧ enc (spl octets).1 <+: E
      · rw [if_neg (by rw [first.mpr hf]; simp)]
        have hle := hf.2.length_le
        have hms := mid_spec (P := [61, 63, 117, 63, 113, 63]) (E := E) (S := [63, 61]) rfl (enc lst) (fun c hc => (enc_mem hlo hc).1) ((mids.filter (fun r => r != [])).map enc) (6 + (enc (spl octets).1).length) (by
          intro x hx
          obtain ⟨r, hr, rfl⟩ := List.mem_map.mp hx
          have := List.mem_filter.mp hr
          exact good_enc (hmo r this.1) (by simpa using this.2)) (by simp)
        rw [List.map_map] at hms
        have e2 : (pre6 m ++ (enc (spl octets).1).map some).length = 6 + (enc (spl octets).1).length := by simp [pre6]; lia
        have e3 : ((enc lst).map some ++ [none, some 61]).length = (enc lst).length + 2 := by simp
        have e4 : 6 + (enc (spl octets).1).length - [61, 63, 117, 63, 113, 63].length = (enc (spl octets).1).length := by simp
        rw [e4, ← filter_enc, ← chq_filter_ex hle] at hms
        rw [e2, e3, Bool.and_eq_true, decide_eq_true_eq]
        have hms' : List.foldl (fun a r => findAt r ([61, 63, 117, 63, 113, 63] ++ E ++ [63, 61]) (([61, 63, 117, 63, 113, 63] ++ E ++ [63, 61]).length + 1) a + r.length) (6 + (enc (spl octets).1).length) (List.map (fun r => List.map some (enc r)) (List.filter (fun r => r != []) mids)) + ((enc lst).length + 2) ≤ ([61, 63, 117, 63, 113, 63] ++ E ++ [63, 61]).length ↔ ∃ q, [61, 63, 117, 63, 113, 63].length + q + (enc lst).length = [61, 63, 117, 63, 113, 63].length + E.length ∧ chq E (enc (spl octets).1).length (mids.map enc) q := hms
        rw [hms']
        have hlast : ∀ q, q + (enc lst).length = E.length → (runAt ((enc lst).map some ++ [none, some 61]) ([61, 63, 117, 63, 113, 63] ++ E ++ [63, 61]) (([61, 63, 117, 63, 113, 63] ++ E ++ [63, 61]).length - ((enc lst).length + 2)) = true ↔ enc lst <+: E.drop q) := by
          intro q hq
          have e5 : ([61, 63, 117, 63, 113, 63] ++ E ++ [63, 61]).length - ((enc lst).length + 2) = 6 + q := by rw [hlen]; lia
          rw [e5, runAt_append, runAt_some, hdrop q (by lia), List.length_map, hlen]
          have e6 : 6 + q + (enc lst).length = 6 + E.length := by lia
          rw [e6]
          constructor
          · rintro ⟨⟨_, a⟩, _⟩
            exact List.prefix_of_prefix_length_le a (List.prefix_append _ _) (by rw [List.length_drop]; lia)
          · intro a
            exact ⟨⟨by lia, a.trans (List.prefix_append _ _)⟩, htail⟩
        have e7 : [61, 63, 117, 63, 113, 63].length = 6 := rfl
        rw [e7]
        constructor
        · rintro ⟨⟨q, g1, g2⟩, g3⟩
          have g1' : q + (enc lst).length = E.length := by lia
          exact ⟨hf.1, hf.2, q, by lia, (hlast q g1').mp g3, g1', g2⟩
        · rintro ⟨_, _, q, g1, g2, g3, g4⟩
          exact ⟨⟨q, by lia, g4⟩, (hlast q g3).mpr g2⟩
      · have : runAt (pre6 m ++ (enc (spl octets).1).map some) ([61, 63, 117, 63, 113, 63] ++ E ++ [63, 61]) 0 = false := by
          cases q : runAt (pre6 m ++ (enc (spl octets).1).map some) ([61, 63, 117, 63, 113, 63] ++ E ++ [63, 61]) 0 with
          | false => rfl
          | true => exact absurd (first.mp q) hf
        rw [if_pos this]
        constructor
        · intro h; cases h
        · rintro ⟨a, b, _⟩; exact absurd ⟨a, b⟩ hf


end

section
theorem noFrag {h : Heap} : Frag.In ([] : Frag) h := by intro a o e; cases e
noncomputable def symStr : Option Nat → Str
  | none => ⟨#[]⟩
  | some c => ⟨#[c]⟩
noncomputable def SymsAre : List Value → List (Option Nat) → Prop
  | [], [] => True
  | v :: vs, x :: xs => (∃ t, v = .str (symStr x) t) ∧ SymsAre vs xs
  | _, _ => False
theorem SymsAre.length : ∀ {vs : List Value} {xs : List (Option Nat)}, SymsAre vs xs → vs.length = xs.length
  | [], [], _ => rfl
  | _ :: _, _ :: _, h => by simp [SymsAre.length h.2]
theorem SymsAre.get : ∀ {vs : List Value} {xs : List (Option Nat)}, SymsAre vs xs → ∀ {i : Nat}, i < xs.length → ∃ t, vs[i]? = some (.str (symStr (xs.getD i none)) t)
  | [], [], _, _, hi => absurd hi (Nat.not_lt_zero _)
  | _ :: _, _ :: _, h, 0, _ => by obtain ⟨t, rfl⟩ := h.1; exact ⟨t, rfl⟩
  | _ :: _, _ :: _, h, i + 1, hi => by
    obtain ⟨t, ht⟩ := SymsAre.get h.2 (i := i) (by simpa using hi)
    exact ⟨t, by simpa using ht⟩


theorem hex_get : ∀ n : Nat, n < 16 → (([48, 49, 50, 51, 52, 53, 54, 55, 56, 57, 65, 66, 67, 68, 69, 70] : List UInt8).getD n 0).toNat = hexc n := by decide
theorem r_hex {prog : Program} {w : World} {A : Around} {E : Value → Shared → Prop} {s : Shared} {value slice : Expr} {t u : Tok} {z : Int} {Q : Value → Shared → Prop} (n : Nat) (hz : z = (n : Int)) (hn : n < 16)
    (h : ∀ t' tk, Q (.int (hexc n : Int) t') { s with toks := tk })
    (hs : subscripted slice false (.bytes #[48, 49, 50, 51, 52, 53, 54, 55, 56, 57, 65, 66, 67, 68, 69, 70] t) (.int z u) = operate [.bytes #[48, 49, 50, 51, 52, 53, 54, 55, 56, 57, 65, 66, 67, 68, 69, 70] t, .int z u] (getItem (.bytes #[48, 49, 50, 51, 52, 53, 54, 55, 56, 57, 65, 66, 67, 68, 69, 70] t) (.int z u)) := by with_unfolding_all rfl)
    (ht : ∀ r, letTemporaryGo value (.bytes #[48, 49, 50, 51, 52, 53, 54, 55, 56, 57, 65, 66, 67, 68, 69, 70] t) r = pure () := by intro _; with_unfolding_all rfl) :
    wpAny (model prog w) A (subscriptTail value slice (.bytes #[48, 49, 50, 51, 52, 53, 54, 55, 56, 57, 65, 66, 67, 68, 69, 70] t) (.int z u)) Q E s := by
  subst hz
  refine KBy.item_N (x := [48, 49, 50, 51, 52, 53, 54, 55, 56, 57, 65, 66, 67, 68, 69, 70]) (by decide) (by lia) (by simp; lia) ?_ hs ht
  have := hex_get n hn
  rw [Int.toNat_natCast, this]
  exact h _ _
theorem ne_lists {prog : Program} {w : World} {A : Around} {E : Value → Shared → Prop} {s : Shared} {a b : Addr} {vs us : List Value} {ns ms : List Nat} {Q : Value → Shared → Prop} (hl : s.heap.IsList a vs.toArray) (hi : IntsAre vs (ns.map Int.ofNat)) (hl' : s.heap.IsList b us.toArray) (hi' : IntsAre us (ms.map Int.ofNat))
    (hu : A.units + 64 < cLine) (h1 : ns = ms → Q (.bool false) s) (h2 : ns ≠ ms → Q (.bool true) s) : wpAny (model prog w) A (compareOp .NotEq (.ref a) (.ref b)) Q E s := by
  refine ne_intsK hl hi hl' hi' hu ?_
  by_cases hc : ns = ms
  · rw [ne_no hc]; exact h1 hc
  · rw [ne_yes hc]; exact h2 hc

end

section
noncomputable def mgOf (b : List (Str × Option Value)) (mg₀ : Str → Option Value) (x : Str) : Option Value := match b.lookup x with | some v => v | none => mg₀ x
theorem mgOf_cons {b : List (Str × Option Value)} {mg₀ : Str → Option Value} {x : Str} {v : Option Value} : (fun y => if y = x then v else mgOf b mg₀ y) = mgOf ((x, v) :: b) mg₀ := by
  funext y
  unfold mgOf
  rw [List.lookup_cons]
  by_cases h : y = x
  · subst h; simp
  · have : (y == x) = false := by simpa using h
    rw [this, if_neg h]
structure Top (h₀ : Heap) (mg₀ : Str → Option Value) (c Pl : Addr) (b : List (Str × Option Value)) (ps : Array Value) (F : List (Addr × (Obj → Prop))) (h : Heap) : Prop where
  main : h.Main (mgOf b mg₀) c Pl ps
  old : ∀ a o, h₀.get? a = some o → a ≠ mainGlobals → h.get? a = some o
  newP : h₀.get? Pl = none
  facts : ∀ p ∈ F, (∃ o, h.get? p.1 = some o ∧ p.2 o) ∧ p.1 ≠ Pl ∧ p.1 ≠ mainGlobals ∧ h₀.get? p.1 = none ∧ p.1 ≠ c ∧ mgOf b mg₀ "__builtins__" ≠ some (.ref p.1)
  nodup : (F.map (·.1)).Nodup

section
variable {h₀ : Heap} {mg₀ : Str → Option Value} {c Pl : Addr} {b : List (Str × Option Value)} {ps : Array Value} {F : List (Addr × (Obj → Prop))} {h h' : Heap}
theorem Heap.Main.mainAt {mg : Str → Option Value} (x : h.Main mg c Pl ps) : ∃ o, h.get? mainGlobals = some o := let ⟨o, _, _, e, _⟩ := x.g; ⟨o, e⟩
theorem Heap.Main.plAt {mg : Str → Option Value} (x : h.Main mg c Pl ps) : ∃ o, h.get? Pl = some o := let ⟨_, _, _, _, _, _, _, _, _, op, _, _, _, _, _, _, _, e, _⟩ := x.code; ⟨op, e⟩
theorem Heap.Main.cAt {mg : Str → Option Value} (x : h.Main mg c Pl ps) : ∃ o, h.get? c = some o := let ⟨o, _, _, _, _, _, _, _, _, _, e, _⟩ := x.code; ⟨o, e⟩
theorem Top.fresh {a : Addr} (X : Top h₀ mg₀ c Pl b ps F h) (e : h.get? a = none) : a ≠ Pl ∧ a ≠ mainGlobals ∧ h₀.get? a = none ∧ (a ≠ c ∧ mgOf b mg₀ "__builtins__" ≠ some (.ref a)) ∧ a ∉ F.map (·.1) := by
  have hm : a ≠ mainGlobals := by rintro rfl; obtain ⟨o, q⟩ := Heap.Main.mainAt X.main; rw [q] at e; cases e
  refine ⟨?_, hm, ?_, ⟨?_, ?_⟩, ?_⟩
  · rintro rfl; obtain ⟨o, q⟩ := Heap.Main.plAt X.main; rw [q] at e; cases e
  · cases q : h₀.get? a with
    | none => rfl
    | some o => rw [X.old a o q hm] at e; cases e
  · rintro rfl; obtain ⟨o, q⟩ := Heap.Main.cAt X.main; rw [q] at e; cases e
  · intro q
    obtain ⟨bm, o, h1, _, _, _, h5, _⟩ := X.main.bmod
    rw [h1] at q
    cases q
    rw [h5] at e; cases e
  · intro hF
    obtain ⟨p, hp, rfl⟩ := List.mem_map.mp hF
    obtain ⟨⟨o, q, _⟩, _⟩ := X.facts p hp
    rw [q] at e; cases e
theorem Top.store {x : Str} {v : Option Value} (X : Top h₀ mg₀ c Pl b ps F h) (hk : ∀ a o, a ≠ mainGlobals → h.get? a = some o → h'.get? a = some o)
    (hns : h'.Ns mainGlobals (fun y => if y = x then v else mgOf b mg₀ y)) (hx : x ≠ "__builtins__") : Top h₀ mg₀ c Pl ((x, v) :: b) ps F h' := by
  refine ⟨⟨mgOf_cons ▸ hns, ?_, X.main.low, ?_⟩, fun a o e hm => hk a o hm (X.old a o e hm), X.newP, fun p hp => ?_, X.nodup⟩
  · exact X.main.code.at2 (fun o e => hk c o (Nat.ne_of_gt X.main.low.1) e) fun o e => hk Pl o (Nat.ne_of_gt X.main.low.2) e
  · obtain ⟨bm, o, h1, h2, h3, h4, h5, r⟩ := X.main.bmod
    refine ⟨bm, o, ?_, h2, h3, h4, hk bm o h3 h5, r⟩
    rw [← mgOf_cons]
    show (if _ then _ else _) = _
    rw [if_neg (Ne.symm hx)]; exact h1
  · obtain ⟨⟨o, q, r⟩, t⟩ := X.facts p hp
    refine ⟨⟨o, hk _ _ t.2.1 q, r⟩, t.1, t.2.1, t.2.2.1, t.2.2.2.1, ?_⟩
    rw [← mgOf_cons]
    show (if _ then _ else _) ≠ _
    rw [if_neg (Ne.symm hx)]; exact t.2.2.2.2
theorem Top.keeps (X : Top h₀ mg₀ c Pl b ps F h) (hk : ∀ a o, h.get? a = some o → h'.get? a = some o) : Top h₀ mg₀ c Pl b ps F h' :=
  ⟨X.main.keeps hk, fun a o e hm => hk a o (X.old a o e hm), X.newP, fun p hp => let ⟨⟨o, q, r⟩, t⟩ := X.facts p hp; ⟨⟨o, hk _ _ q, r⟩, t⟩, X.nodup⟩
theorem Top.more {a : Addr} {Q : Obj → Prop} (X : Top h₀ mg₀ c Pl b ps F h) (hn : a ≠ Pl ∧ a ≠ mainGlobals ∧ h₀.get? a = none ∧ (a ≠ c ∧ mgOf b mg₀ "__builtins__" ≠ some (.ref a)) ∧ a ∉ F.map (·.1)) (e : ∃ o, h.get? a = some o ∧ Q o) :
    Top h₀ mg₀ c Pl b ps ((a, Q) :: F) h := by
  refine ⟨X.main, X.old, X.newP, fun p hp => ?_, List.nodup_cons.mpr ⟨hn.2.2.2.2, X.nodup⟩⟩
  rcases List.mem_cons.mp hp with rfl | hp
  · exact ⟨e, hn.1, hn.2.1, hn.2.2.1, hn.2.2.2.1⟩
  · exact X.facts p hp
/-- one object of the ledger's changes -/
theorem Top.mut {a : Addr} {Q Q' : Obj → Prop} {F₁ F₂ : List (Addr × (Obj → Prop))} (X : Top h₀ mg₀ c Pl b ps (F₁ ++ (a, Q) :: F₂) h) (hk : ∀ d o, d ≠ a → h.get? d = some o → h'.get? d = some o)
    (e : ∃ o, h'.get? a = some o ∧ Q' o) : Top h₀ mg₀ c Pl b ps (F₁ ++ (a, Q') :: F₂) h' := by
  obtain ⟨_, nP, nm, n0, hc', hb⟩ := X.facts (a, Q) (by simp)
  have hc : c ≠ a := Ne.symm hc'
  have hnd := X.nodup
  rw [List.map_append, List.map_cons, List.nodup_append] at hnd
  refine ⟨⟨X.main.g.at fun o e => hk _ o (Ne.symm nm) e, X.main.code.at2 (fun o e => hk c o hc e) fun o e => hk Pl o (Ne.symm nP) e, X.main.low, ?_⟩, fun d o q hm => hk d o (by rintro rfl; rw [n0] at q; cases q) (X.old d o q hm), X.newP, fun p hp => ?_, ?_⟩
  · obtain ⟨bm, o, h1, h2, h3, h4, h5, r⟩ := X.main.bmod
    exact ⟨bm, o, h1, h2, h3, h4, hk bm o (by rintro rfl; exact hb h1) h5, r⟩
  · rcases List.mem_append.mp hp with hp | hp
    · obtain ⟨⟨o, q, r⟩, t⟩ := X.facts p (List.mem_append_left _ hp)
      refine ⟨⟨o, hk _ o ?_ q, r⟩, t⟩
      rintro e'
      exact hnd.2.2 _ (List.mem_map_of_mem hp) _ List.mem_cons_self e'
    · rcases List.mem_cons.mp hp with rfl | hp
      · exact ⟨e, nP, nm, n0, hc', hb⟩
      · obtain ⟨⟨o, q, r⟩, t⟩ := X.facts p (List.mem_append_right _ (List.mem_cons_of_mem _ hp))
        refine ⟨⟨o, hk _ o ?_ q, r⟩, t⟩
        rintro e'
        exact (List.nodup_cons.mp hnd.2.1).1 (List.mem_map.mpr ⟨p, hp, e'⟩)
  · have := X.nodup
    simpa using this
end

section
variable {h₀ : Heap} {mg₀ : Str → Option Value} {c Pl : Addr} {b : List (Str × Option Value)} {ps : Array Value} {F : List (Addr × (Obj → Prop))} {h h' : Heap}
/-- the first object of the ledger is let go -/
theorem Top.drop {a : Addr} {Q : Obj → Prop} (X : Top h₀ mg₀ c Pl b ps ((a, Q) :: F) h) (hk : ∀ d o, d ≠ a → h.get? d = some o → h'.get? d = some o) : Top h₀ mg₀ c Pl b ps F h' := by
  obtain ⟨_, nP, nm, n0, hc', hb⟩ := X.facts (a, Q) (by simp)
  have hnd := X.nodup
  rw [List.map_cons, List.nodup_cons] at hnd
  refine ⟨⟨X.main.g.at fun o e => hk _ o (Ne.symm nm) e, X.main.code.at2 (fun o e => hk c o (Ne.symm hc') e) fun o e => hk Pl o (Ne.symm nP) e, X.main.low, ?_⟩, fun d o q hm => hk d o (by rintro rfl; rw [n0] at q; cases q) (X.old d o q hm), X.newP, fun p hp => ?_, hnd.2⟩
  · obtain ⟨bm, o, h1, h2, h3, h4, h5, r⟩ := X.main.bmod
    exact ⟨bm, o, h1, h2, h3, h4, hk bm o (by rintro rfl; exact hb h1) h5, r⟩
  · obtain ⟨⟨o, q, r⟩, t⟩ := X.facts p (List.mem_cons_of_mem _ hp)
    exact ⟨⟨o, hk _ o (fun e' => hnd.1 (List.mem_map.mpr ⟨p, hp, e'⟩)) q, r⟩, t⟩
end

noncomputable def IsFn (k : Nat) (dV : Value) (c' : Addr) (o : Obj) : Prop :=
  ∃ name params body scope pos doc pm, pw.main.body[k]? = some (.FunctionDef name params body [] none [] scope none name pos) ∧ o = { cls := .type "function", data := .func (defFd name name params body scope mainGlobals dV .none none pm (.ref c') doc) }
noncomputable def IsRec (k : Nat) (c' : Addr) (o : Obj) : Prop :=
  ∀ name params body ds ret tps scope tscope bind pos, pw.main.body[k]? = some (.FunctionDef name params body ds ret tps scope tscope bind pos) → ∀ h : Heap, h.get? c' = some o → h.CodeRec (.ref c') name
theorem fnAt_of {k : Nat} {dV : Value} {a c' : Addr} {o o' : Obj} {h : Heap} (h1 : h.get? a = some o) (f : IsFn k dV c' o) (h2 : h.get? c' = some o') (r : IsRec k c' o') : FnAt h a k dV := by
  obtain ⟨name, params, body, scope, pos, doc, pm, e, rfl⟩ := f
  exact ⟨name, params, body, _, _, _, scope, _, _, pos, _, _, _, .none, doc, pm, none, .ref c', _, e, h1, r _ _ _ _ _ _ _ _ _ _ e h h2, rfl⟩

section
variable {M : Model} {A : Around} {E : Value → Shared → Prop} {s : Shared} {h₀ : Heap} {mg₀ : Str → Option Value} {c Pl Fm : Addr} {b : List (Str × Option Value)} {ps : Array Value} {F : List (Addr × (Obj → Prop))} {Q : Flow → Shared → Prop}
noncomputable def IsDf (n : Nat) (o : Obj) : Prop := ∃ vs : List Value, o = { cls := .type "tuple", data := .seq vs.toArray } ∧ vs.length = n
theorem constVals_length : ∀ {es : List Expr} {vs : List Value}, ConstVals es vs → vs.length = es.length
  | [], [], _ => rfl
  | _ :: _, _ :: _, h => by simp [constVals_length h.2]
  | [], _ :: _, h => h.elim
  | _ :: _, [], h => h.elim
theorem Top.def_ {k : Nat} {name : Str} {params : Arguments} {body : List Stmt} {scope : Scope} {pos : Pos} (X : Top h₀ mg₀ c Pl b ps F s.heap)
    (hlit : pw.main.body[k]? = some (.FunctionDef name params body [] none [] scope none name pos))
    (K : ∀ a c' dV h' tk, Top h₀ mg₀ c Pl ((name, some (.ref a)) :: b) (ps ++ #[rawInt pos.line, rawInt pos.col, .ref c']) ((a, IsFn k dV c') :: (c', IsRec k c') :: F) h' → (params.defaults = [] → dV = .none) ∧ (params.defaults ≠ [] → ∃ T, dV = .ref T ∧ Top h₀ mg₀ c Pl ((name, some (.ref a)) :: b) (ps ++ #[rawInt pos.line, rawInt pos.col, .ref c']) ((T, IsDf params.defaults.length) :: (a, IsFn k dV c') :: (c', IsRec k c') :: F) h') → Q .next { s with heap := h', toks := tk })
    (hkw : params.kwonlyargs = [] := by rfl) (hkd : params.kw_defaults = [] := by rfl) (hconst : ∀ e ∈ params.defaults, e.isPlainConst = true := by decide) (hann0 : annTrees params none (mainEnv pw c Fm) = [] := by rfl)
    (hfree : ∀ x ∈ scope.names, x.2 ≠ .free := by decide) (hloc : pw.main.scope.names.lookup name = some .local := by rfl)
    (hq : qualnameIn { scope := pw.main.scope, locals := mainGlobals, globals := mainGlobals, cells := [] } name name = name := by rfl)
    (hnb : name ≠ "__builtins__" := by decide) (hmod : pw.main.scope.kind = .module := by rfl) (hnf : codeAmong pos ps.toList = none := by rfl) :
    wpAny M A (exec (.FunctionDef name params body [] none [] scope none name pos) (mainEnv pw c Fm)) Q E s := by
  refine wpAny_defStmt1 hkw hkd hconst hann0 hfree hloc hq X.main (fun a c' doc dV vs h' tk hdoc ha hm hf hcv hdf hrec keep => ?_) hnb hmod hnf
  have fa : s.heap.get? a = none := by
    cases e : s.heap.get? a with
    | none => rfl
    | some o => exact absurd (Heap.lt_size e) (Nat.not_lt.mpr ha)
  have fc : s.heap.get? c' = none := by
    cases e : s.heap.get? c' with
    | none => rfl
    | some o => exact absurd (Heap.lt_size e) (Nat.not_lt.mpr hrec.1)
  obtain ⟨c₂, oc, vc, tc, ec, gc, dc, rc⟩ := id hrec.2
  cases ec
  have hne : a ≠ c' := by
    rintro rfl
    rw [hf] at gc
    cases gc
    cases dc
  have nb : ∀ {d : Addr}, mgOf b mg₀ "__builtins__" ≠ some (.ref d) → mgOf ((name, some (.ref a)) :: b) mg₀ "__builtins__" ≠ some (.ref d) := by
    intro d hd
    rw [← mgOf_cons]
    show (if _ then _ else _) ≠ _
    rw [if_neg (Ne.symm hnb)]; exact hd
  obtain ⟨a1, a2, a3, a5, a4⟩ := X.fresh fa
  obtain ⟨c1, c2, c3, c5, c4⟩ := X.fresh fc
  have X' : Top h₀ mg₀ c Pl ((name, some (.ref a)) :: b) (ps ++ #[rawInt pos.line, rawInt pos.col, .ref c']) ((a, IsFn k dV c') :: (c', IsRec k c') :: F) h' := by
    refine ⟨mgOf_cons ▸ hm, fun d o e q => keep d o (by rintro rfl; rw [X.newP] at e; cases e) q (X.old d o e q), X.newP, fun p hp => ?_, ?_⟩
    · rcases List.mem_cons.mp hp with rfl | hp
      · exact ⟨⟨_, hf, name, params, body, scope, pos, doc, _, hlit, rfl⟩, a1, a2, a3, a5.1, nb a5.2⟩
      · rcases List.mem_cons.mp hp with rfl | hp
        · refine ⟨⟨oc, gc, fun name' _ _ _ _ _ _ _ _ _ e h₂ g₂ => ?_⟩, c1, c2, c3, c5.1, nb c5.2⟩
          rw [hlit] at e
          cases e
          exact ⟨c', oc, vc, tc, rfl, g₂, dc, rc⟩
        · obtain ⟨⟨o, q, r⟩, t⟩ := X.facts p hp
          exact ⟨⟨o, keep _ o t.1 t.2.1 q, r⟩, t.1, t.2.1, t.2.2.1, t.2.2.2.1, nb t.2.2.2.2⟩
    · rw [List.map_cons, List.map_cons, List.nodup_cons, List.nodup_cons]
      refine ⟨?_, c4, X.nodup⟩
      intro hm
      rcases List.mem_cons.mp hm with q | q
      · exact hne q
      · exact a4 q
  refine K a c' dV h' tk X' ⟨?_, ?_⟩
  · intro hd
    rcases hdf with q | q
    · exact q.2
    · have : vs = [] := by rw [hd] at hcv; cases vs with | nil => rfl | cons _ _ => exact hcv.elim
      exact absurd this q.1
  · intro hd
    rcases hdf with q | ⟨_, T, rfl, hT, gT⟩
    · have := constVals_length hcv
      rw [q.1] at this
      exact absurd (List.length_eq_zero_iff.mp this.symm) hd
    · refine ⟨T, rfl, X'.more ?_ ⟨_, gT, vs, rfl, constVals_length hcv⟩⟩
      have fT : s.heap.get? T = none := by
        cases e : s.heap.get? T with
        | none => rfl
        | some o => exact absurd (Heap.lt_size e) (Nat.not_lt.mpr hT)
      obtain ⟨t1, t2, t3, t5, t4⟩ := X.fresh fT
      refine ⟨t1, t2, t3, ⟨t5.1, nb t5.2⟩, ?_⟩
      intro hm
      rcases List.mem_cons.mp hm with q | q
      · rw [show T = a from q, hf] at gT; have z := congrArg Obj.data (Option.some.inj gT); cases z
      · rcases List.mem_cons.mp q with q | q
        · rw [show T = c' from q, gc] at gT
          cases gT
          cases dc
        · exact t4 q
end

end

section
section
variable {M : Model} {A : Around} {E : Value → Shared → Prop} {s : Shared} {h₀ : Heap} {mg₀ mb : Str → Option Value} {c Pl Fm : Addr} {b : List (Str × Option Value)} {ps : Array Value} {F : List (Addr × (Obj → Prop))}
  {x : Str} {pos : Pos} {v : Value}
theorem Top.name {Q : Value → Shared → Prop} (X : Top h₀ mg₀ c Pl b ps F s.heap) (e : mgOf b mg₀ x = some v) (h : Q v s) (hd : (x == ("__debug__" : Str)) = false := by decide) : wpAny M A (eval (.Name x pos) (mainEnv pw c Fm)) Q E s :=
  Name_module rfl rfl (loadGlobal_global (env := mainEnv pw c Fm) X.main.g e h) hd
theorem Top.builtin {Q : Value → Shared → Prop} (X : Top h₀ mg₀ c Pl b ps F s.heap) (hb : h₀.Ns builtinsNs mb) (e : mgOf b mg₀ x = none) (hv : mb x = some v) (h : Q v s) (hd : (x == ("__debug__" : Str)) = false := by decide) : wpAny M A (eval (.Name x pos) (mainEnv pw c Fm)) Q E s :=
  Name_module rfl rfl (loadGlobal_builtin (env := mainEnv pw c Fm) X.main.g e (hb.at fun o q => X.old _ o q (by decide)) hv h) hd
theorem Top.assign {Q : Flow → Shared → Prop} {p' : Pos} {value : Expr} (P : Value → Heap → Prop) (X : Top h₀ mg₀ c Pl b ps F s.heap)
    (hval : ∀ Q' : Value → Shared → Prop, (∀ v h' tk, (∀ a o, s.heap.get? a = some o → h'.get? a = some o) → P v h' → Q' v { s with heap := h', toks := tk }) → wpAny M A (eval value (mainEnv pw c Fm)) Q' E s)
    (k : ∀ v h' h'' tk, (∀ a o, s.heap.get? a = some o → h'.get? a = some o) → P v h' → (∀ a o, a ≠ mainGlobals → h'.get? a = some o → h''.get? a = some o) → Top h₀ mg₀ c Pl ((x, some v) :: b) ps F h'' → Q .next { s with heap := h'', toks := tk })
    (hloc : pw.main.scope.names.lookup x = some .local := by rfl) (hnb : x ≠ "__builtins__" := by decide) (hs : swapsWith value (some (.Name x p')) pos.line (mainEnv pw c Fm) = pure false := by rfl) :
    wpAny M A (exec (.Assign [.Name x p'] value pos) (mainEnv pw c Fm)) Q E s := by
  refine wpAny_Assign_Name (hval _ fun v h' tk hk hP => ?_) hs
  have X' := X.keeps hk
  refine wpAny_storeName_local (env := mainEnv pw c Fm) hloc X'.main.g (fun h'' hg hsb => ?_)
  have hk2 : ∀ a o, a ≠ mainGlobals → h'.get? a = some o → h''.get? a = some o := fun a o hne e => (hsb.2 a hne).trans e
  exact k v h' h'' _ hk hP hk2 (X'.store hk2 hg hnb)
theorem Top.assignStr {Q : Flow → Shared → Prop} {p' p2 : Pos} {y : Str} {n : Nat} (X : Top h₀ mg₀ c Pl b ps F s.heap)
    (k : ∀ t h'' tk, (∀ a o, a ≠ mainGlobals → s.heap.get? a = some o → h''.get? a = some o) → Top h₀ mg₀ c Pl ((x, some (.str y t)) :: b) ps F h'' → Q .next { s with heap := h'', toks := tk })
    (hloc : pw.main.scope.names.lookup x = some .local := by rfl) (hnb : x ≠ "__builtins__" := by decide) :
    wpAny M A (exec (.Assign [.Name x p'] (.Constant (.str y) n p2) pos) (mainEnv pw c Fm)) Q E s := by
  refine X.assign (fun v h' => h' = s.heap ∧ ∃ t, v = .str y t) (fun Q' h => wpAny_Constant_str (h _ _ _ (fun _ _ e => e) ⟨rfl, _, rfl⟩)) (fun v h' h'' tk hk hP hk2 X'' => ?_) hloc hnb
  obtain ⟨rfl, t, rfl⟩ := hP
  exact k t h'' tk hk2 X''
end

end

section
open Builtin
theorem enc_digits {t u : Tok} : «str.encode» ⟨[.str (Str.ofString "0123456789") t, .str (Str.ofString "ascii") u], []⟩ = (mkBytes #[48, 49, 50, 51, 52, 53, 54, 55, 56, 57] >>= fun v => ret v) := by kernel_rfl
noncomputable def letters : Array UInt8 := #[97, 98, 99, 100, 101, 102, 103, 104, 105, 106, 107, 108, 109, 110, 111, 112, 113, 114, 115, 116, 117, 118, 119, 120, 121, 122, 65, 66, 67, 68, 69, 70, 71, 72, 73, 74, 75, 76, 77, 78, 79, 80, 81, 82, 83, 84, 85, 86, 87, 88, 89, 90]
theorem enc_letters {t u : Tok} : «str.encode» ⟨[.str (Str.ofString "abcdefghijklmnopqrstuvwxyz" ++ Str.ofString "ABCDEFGHIJKLMNOPQRSTUVWXYZ") t, .str (Str.ofString "ascii") u], []⟩ = (mkBytes letters >>= fun v => ret v) := by kernel_rfl
theorem gives_enc {X : Str} {B : Array UInt8} {t u : Tok} (e : «str.encode» ⟨[.str X t, .str (Str.ofString "ascii") u], []⟩ = (mkBytes B >>= fun v => ret v)) (hB : B.size ≤ sizeLine) :
    Gives («str.encode» ⟨[.str X t, .str (Str.ofString "ascii") u], []⟩) (.bytes B) := by
  rw [e]
  refine .of_wp fun M A E s Q h => ?_
  exact wpAny_bind (wpAny_mkBytes (wpAny_pure ⟨_, rfl, h.2⟩) hB)
theorem Top.encode {prog : Program} {w : World} {A : Around} {E : Value → Shared → Prop} {s : Shared} {h₀ : Heap} {mg₀ : Str → Option Value} {c Pl Fm : Addr} {b : List (Str × Option Value)} {ps : Array Value} {Fs : List (Addr × (Obj → Prop))}
    {x X : Str} {B : Array UInt8} {t : Tok} {n : Nat} {p1 p2 p3 p4 : Pos} {Q : Value → Shared → Prop} (T : Top h₀ mg₀ c Pl b ps Fs s.heap) (hx : mgOf b mg₀ x = some (.str X t))
    (e : ∀ t u, «str.encode» ⟨[.str X t, .str (Str.ofString "ascii") u], []⟩ = (mkBytes B >>= fun v => ret v)) (hB : B.size ≤ sizeLine) (h : ∀ t k, Q (.bytes B t) { s with toks := k })
    (hd : (x == ("__debug__" : Str)) = false := by decide) (hl : (p2.endLine == p4.line) = true := by rfl) :
    wpAny (model prog w) A (eval (.Call (.Attribute (.Name x p1) (Str.ofString "encode") p2) [.Constant (.str (Str.ofString "ascii")) n p3] [] p4) (mainEnv pw c Fm)) Q E s := by
  refine Call_method1 rfl rfl hl (T.name hx ?_ hd)
  refine MethodOnS.str1 F.slot_str_encode F.type_str_encode F.entry_str_encode (wpAny_Constant_str ⟨F.args_str_encode_2 _ _, .bytes B, gives_enc (e _ _) hB, ?_⟩)
  exact ⟨hB, h _ _⟩

end

section
noncomputable def IsTab (g : Nat → Str) (o : Obj) : Prop := o.cls = .type "list" ∧ ∃ vs n, o.data = .seq vs n ∧ vs.size = 256 ∧ ∀ i, i < 256 → ∃ t, vs[i]? = some (.str (g i) t)
theorem IsTab.isList {g : Nat → Str} {o : Obj} {h : Heap} {a : Addr} (x : IsTab g o) (e : h.get? a = some o) : ∃ vs, h.IsList a vs ∧ vs.size = 256 ∧ ∀ i, i < 256 → ∃ t, vs[i]? = some (.str (g i) t) :=
  let ⟨hc, vs, n, hd, r⟩ := x; ⟨vs, ⟨o, e, hc, n, hd⟩, r⟩
theorem IsTab.of {g : Nat → Str} {h : Heap} {a : Addr} {vs : Array Value} (hl : h.IsList a vs) (hs : vs.size = 256) (hg : ∀ i, i < 256 → ∃ t, vs[i]? = some (.str (g i) t)) : ∃ o, h.get? a = some o ∧ IsTab g o :=
  let ⟨o, e, hc, n, hd⟩ := hl; ⟨o, e, hc, vs, n, hd, hs, hg⟩
noncomputable def putTab (g : Nat → Str) (k : Nat) (y : Str) (i : Nat) : Str := if i = k then y else g i
theorem tab_set {g : Nat → Str} {vs : Array Value} {k : Nat} {y : Str} {t : Tok} (hs : vs.size = 256) (hg : ∀ i, i < 256 → ∃ t, vs[i]? = some (.str (g i) t)) :
    (vs.setIfInBounds k (.str y t)).size = 256 ∧ ∀ i, i < 256 → ∃ t', (vs.setIfInBounds k (.str y t))[i]? = some (.str (putTab g k y i) t') := by
  refine ⟨by simpa using hs, fun i hi => ?_⟩
  rw [Array.getElem?_setIfInBounds]
  unfold putTab
  by_cases h : k = i
  · subst h
    rw [if_pos rfl, if_pos (by lia), if_pos rfl]
    exact ⟨t, rfl⟩
  · rw [if_neg h, if_neg (Ne.symm h)]
    exact hg i hi

section
variable {w : World} {A : Around} {E : Value → Shared → Prop} {s : Shared} {h₀ : Heap} {mg₀ mb : Str → Option Value} {c Pl Fm : Addr} {b : List (Str × Option Value)} {ps : Array Value} {F₁ F₂ : List (Addr × (Obj → Prop))}
/-- an item of a table of strs stored -/
theorem Top.setItem {a : Addr} {g : Nat → Str} {k : Nat} {y : Str} {t u : Tok} {Q : Unit → Shared → Prop} (X : Top h₀ mg₀ c Pl b ps (F₁ ++ (a, IsTab g) :: F₂) s.heap) (hk : k < 256)
    (K : ∀ h', Top h₀ mg₀ c Pl b ps (F₁ ++ (a, IsTab (putTab g k y)) :: F₂) h' → Q () { s with heap := h' }) : wpAny (model pw w) A (setItem (.ref a) (.int (k : Int) t) (.str y u)) Q E s := by
  obtain ⟨⟨o, e, x⟩, _⟩ := X.facts (a, IsTab g) (by simp)
  obtain ⟨vs, hl, hs, hg⟩ := x.isList e
  refine wpAny_setItem_list hl (by lia) (by lia) (by lia) fun h' hl' hsb => K h' ?_
  obtain ⟨s1, s2⟩ := tab_set (k := k) (y := y) (t := u) hs hg
  rw [Int.toNat_natCast] at hl'
  exact X.mut (fun d o hd q => (hsb.2 d hd).trans q) (IsTab.of hl' s1 s2)

noncomputable def putAll (g : Nat → Str) : List UInt8 → Nat → Str
  | [] => g
  | c :: r => putAll (putTab g c.toNat ⟨#[c.toNat]⟩) r
theorem putAll_snoc : ∀ (l : List UInt8) (g : Nat → Str) (c : UInt8), putAll g (l ++ [c]) = putTab (putAll g l) c.toNat ⟨#[c.toNat]⟩
  | [], _, _ => rfl
  | _ :: r, _, c => putAll_snoc r _ c

theorem bind_again {x : Str} {v v' : Option Value} : (fun y => if y = x then v' else mgOf ((x, v) :: b) mg₀ y) = mgOf ((x, v') :: b) mg₀ := by
  rw [← mgOf_cons, ← mgOf_cons]
  funext y
  dsimp only
  by_cases h : y = x
  · rw [if_pos h, if_pos h]
  · rw [if_neg h, if_neg h, if_neg h]
theorem Top.rebind {h : Heap} {b' : List (Str × Option Value)} {F : List (Addr × (Obj → Prop))} (X : Top h₀ mg₀ c Pl b ps F h) (e : mgOf b mg₀ = mgOf b' mg₀) : Top h₀ mg₀ c Pl b' ps F h :=
  ⟨e ▸ X.main, X.old, X.newP, e ▸ X.facts, X.nodup⟩

open PySem.W in
theorem Top.loop {a : Addr} {g : Nat → Str} {bs : Array UInt8} {L : Str} {iter : Expr} {p1 p2 p3 p4 p5 p6 p7 p8 p9 : Pos} {Q : Flow → Shared → Prop} (X : Top h₀ mg₀ c Pl b ps (F₁ ++ (a, IsTab g) :: F₂) s.heap)
    (hL : mgOf b mg₀ L = some (.ref a)) (hLc : L ≠ "c") (hiter : ∀ Q' : Value → Shared → Prop, (∀ t tk, Q' (.bytes bs t) { s with toks := tk }) → wpAny (model pw w) A (eval iter (mainEnv pw c Fm)) Q' E s)
    (hchr : mgOf b mg₀ "chr" = none) (hb : h₀.Ns builtinsNs mb) (hv : mb "chr" = some (.builtin "chr")) (hh : A.handled = none)
    (K : ∀ v h' tk, (0 < bs.size → v.isSome = true) → Top h₀ mg₀ c Pl (("c", v) :: b) ps (F₁ ++ (a, IsTab (putAll g bs.toList)) :: F₂) h' → Q .next { s with heap := h', toks := tk })
    (hE : PassesOwn (model pw w) A (mainEnv pw c Fm) E) (hs : ∀ x, foldedSetIterable iter (mainEnv pw c Fm) x = pure x := by intro _; rfl) (hld : (L == ("__debug__" : Str)) = false := by decide)
    (hsw : swapsWith (.Call (.Name "chr" p5) [.Name "c" p6] [] p7) (some (.Subscript (.Name L p2) (.Name "c" p3) p4)) p8.line (mainEnv pw c Fm) = pure false := by rfl) :
    wpAny (model pw w) A (exec (.For (.Name "c" p1) iter [.Assign [.Subscript (.Name L p2) (.Name "c" p3) p4] (.Call (.Name "chr" p5) [.Name "c" p6] [] p7) p8] [] p9) (mainEnv pw c Fm)) Q E s := by
  refine wpAny_For (hiter _ fun t tk => KBw.pyIter_bytes ?_) hs
  have ne0 : ("c" : Str) ≠ "__builtins__" := by decide
  have fresh : s.heap.get? s.heap.objs.size = none := by
    cases e : s.heap.get? s.heap.objs.size with
    | none => rfl
    | some o => exact absurd (Heap.lt_size e) (Nat.lt_irrefl _)
  refine codeAny_forLoop (fun n s' => ∃ i v h' tk, s' = { s with heap := h', toks := tk } ∧ i ≤ bs.size ∧ n = bs.size - i ∧ (0 < i → v.isSome = true) ∧
      Top h₀ mg₀ c Pl (("c", v) :: b) ps ((s.heap.objs.size, fun o => o.cls = .type "bytes_iterator" ∧ o.data = .fields #[.bytes bs t, .int (i : Int) 0]) :: (F₁ ++ (a, IsTab (putAll g (bs.toList.take i))) :: F₂)) h') ?_ bs.size
    ⟨0, mgOf b mg₀ "c", _, _, rfl, Nat.zero_le _, rfl, (fun h => absurd h (Nat.lt_irrefl 0)), ?_⟩
  · rintro n s' ⟨i, v, h', tk', rfl, hi, rfl, hvs, T⟩
    obtain ⟨⟨oi, ei, xi⟩, _⟩ := T.facts _ List.mem_cons_self
    have hit : KBw.IsBytesIter h' s.heap.objs.size bs t i := ⟨oi, ei, xi.1, xi.2⟩
    rcases Nat.lt_or_ge i bs.size with hlt | hge
    · refine KBw.next_item (s := { s with heap := h', toks := tk' }) hit (Array.getElem?_eq_getElem hlt) fun h₁ hit₁ hsb => ?_
      obtain ⟨o₁, e₁, c₁, d₁⟩ := hit₁
      have T₁ := Top.mut (F₁ := []) (Q' := fun o => o.cls = .type "bytes_iterator" ∧ o.data = .fields #[.bytes bs t, .int ((i + 1 : Nat) : Int) 0]) T (fun d o hd q => (hsb.2 d hd).trans q) ⟨o₁, e₁, c₁, d₁⟩
      refine wpAny_assign_Name (wpAny_storeName_local (env := mainEnv pw c Fm) rfl T₁.main.g fun h₂ hn₂ hs₂ => ?_)
      have T₂ := T₁.store (fun d o hd q => (hs₂.2 d hd).trans q) hn₂ ne0
      have T₃ := T₂.rebind (b' := ("c", some (.int ((bs[i]).toNat : Int) tk')) :: b) (by rw [← mgOf_cons, bind_again])
      have hLc' : mgOf (("c", some (.int ((bs[i]).toNat : Int) tk')) :: b) mg₀ L = some (.ref a) := by
        rw [← mgOf_cons]; show (if _ then _ else _) = _; rw [if_neg hLc]; exact hL
      have hch' : mgOf (("c", some (.int ((bs[i]).toNat : Int) tk')) :: b) mg₀ "chr" = none := by
        rw [← mgOf_cons]; show (if _ then _ else _) = _; rw [if_neg (by decide)]; exact hchr
      have hcc : mgOf (("c", some (.int ((bs[i]).toNat : Int) tk')) :: b) mg₀ "c" = some (.int ((bs[i]).toNat : Int) tk') := by
        rw [← mgOf_cons]; show (if _ then _ else _) = _; rw [if_pos rfl]
      have hk := (bs[i]).toNat_lt
      have ei : bs.toList.take (i + 1) = bs.toList.take i ++ [bs[i]] := by
        rw [List.take_succ_eq_append_getElem (by simpa using hlt)]
        simp
      refine wpAny_execs_cons (wpAny_Assign_Subscript ?_ hsw)
      refine wpAny_Call_Name_kw (Top.builtin (s := { s with heap := h₂, toks := tk' + 1 + 1 }) T₃ hb hch' hv ?_)
      refine callWith_builtin1 (Top.name (s := { s with heap := h₂, toks := tk' + 1 + 1 }) T₃ hcc ?_)
      refine PySem.P.chr_of_int (by simp; lia) ?_
      refine Top.name (s := { s with heap := h₂, toks := tk' + 1 + 1 + 1 }) T₃ hLc' ?_ hld
      refine Top.name (s := { s with heap := h₂, toks := tk' + 1 + 1 + 1 }) T₃ hcc ?_
      refine Top.setItem (F₁ := (s.heap.objs.size, fun o => o.cls = .type "bytes_iterator" ∧ o.data = .fields #[.bytes bs t, .int ((i + 1 : Nat) : Int) 0]) :: F₁) (s := { s with heap := h₂, toks := tk' + 1 + 1 + 1 }) T₃ hk fun h₄ T₄ => ?_
      refine wpAny_execs_nil ?_
      refine ⟨bs.size - (i + 1), by lia, i + 1, some (.int ((bs[i]).toNat : Int) tk'), h₄, _, rfl, hlt, rfl, (fun _ => rfl), ?_⟩
      rw [ei, putAll_snoc]
      exact T₄
    · have e : i = bs.size := by lia
      subst e
      refine KBw.next_end (s := { s with heap := h', toks := tk' }) hh hit (by simp) fun h₁ hx => wpAny_execs_nil ?_
      refine K v h₁ tk' hvs ?_
      have T₁ := T.drop (h' := h₁) fun d o hd q => hx d o hd q
      rw [List.take_of_length_le (by simp)] at T₁
      exact T₁
  · have e : s.heap.objs.size = s.heap.objs.size := rfl
    have X' := X.keeps (h' := s.heap.push { cls := .type "bytes_iterator", data := .fields #[.bytes bs t, .int 0 0] }) fun d o q => Heap.get?_push_of_some _ q
    have Y := X'.more (a := s.heap.objs.size) (Q := fun o => o.cls = .type "bytes_iterator" ∧ o.data = .fields #[.bytes bs t, .int ((0 : Nat) : Int) 0]) (X.fresh fresh) ⟨_, Heap.get?_push_size _ rfl, rfl, rfl⟩
    exact Y.rebind (by rw [← mgOf_cons]; funext y; split <;> simp_all)
end

end

section
section
open Builtin Builtin.Str
noncomputable def hexTree (n : Nat) : Sem PySem.Fin := mkStr ⟨#[61, hexc (n / 16), hexc (n % 16)]⟩ >>= fun v => pure (.done (.ret v))
theorem hex_all (t u : Tok) : (List.range 256).map (fun (n : Nat) => percentFormat (.str ⟨#[61, 37, 48, 50, 88]⟩ t) ⟨#[61, 37, 48, 50, 88]⟩ (.int (n : Int) u)) = (List.range 256).map hexTree := by kernel_rfl
end
open PySem.W in
theorem mod_hex {prog : Program} {w : World} {A : Around} {E : Value → Shared → Prop} {s : Shared} {t u : Tok} {Q : Value → Shared → Prop} (n : Nat) (hn : n < 256)
    (h : ∀ t' k, Q (.str ⟨#[61, hexc (n / 16), hexc (n % 16)]⟩ t') { s with toks := k }) : wpAny (model prog w) A (binaryOp .Mod (.str ⟨#[61, 37, 48, 50, 88]⟩ t) (.int (n : Int) u)) Q E s := by
  refine KPc.mod_lit (X := ⟨#[61, 37, 48, 50, 88]⟩) (X' := ⟨#[61, 37, 48, 50, 88]⟩) (n := (n : Int)) rfl ?_ ?_ h
  · have : (n : Int).natAbs = n := rfl
    rw [this]
    exact Nat.lt_of_le_of_lt (Nat.log2_le_self n) (by lia)
  intro _ _
  apply KPc.meets_of
  intro _ _ _ _ _ _ hQ
  rw [KPc.entry_is, List.map_inj_left.mp (hex_all t u) n (List.mem_range.mpr hn)]
  exact wpAny_bind (wpAny_mkStr (wpAny_pure (hQ _ _)) (by show 3 ≤ sizeLine; rw [sizeLine_eq]; decide))

end

section
noncomputable def hexStr (i : Nat) : Str := ⟨#[61, hexc (i / 16), hexc (i % 16)]⟩
theorem paired_tab {P : Nat → Value → Prop} {F : Value → Value → Prop} {g : Nat → Str} : ∀ {vs ys : List Value} (k : Nat), Paired F vs ys → (∀ j v, vs[j]? = some v → P (k + j) v) → (∀ j v y, P j v → F v y → ∃ t, y = .str (g j) t) →
    ∀ i, i < vs.length → ∃ t, ys[i]? = some (.str (g (k + i)) t)
  | [], _, _, _, _, _, i, hi => absurd hi (Nat.not_lt_zero i)
  | v :: vs, y :: ys, k, .cons h h', hP, hF, i, hi => by
    cases i with
    | zero =>
      obtain ⟨t, e⟩ := hF k v y (hP 0 v rfl) h
      exact ⟨t, by rw [e]; rfl⟩
    | succ i =>
      obtain ⟨t, e⟩ := paired_tab (k + 1) h' (fun j v q => by have := hP (j + 1) v q; rwa [show k + 1 + j = k + (j + 1) by lia]) hF i (by simpa using hi)
      exact ⟨t, by simpa [show k + (i + 1) = k + 1 + i by lia] using e⟩
section
variable {w : World} {A : Around} {E : Value → Shared → Prop} {s : Shared} {h₀ : Heap} {mg₀ mb : Str → Option Value} {c Pl Fm : Addr} {b : List (Str × Option Value)} {ps : Array Value} {Fs : List (Addr × (Obj → Prop))}
theorem walks_below {prog : Program} {w : World} {A : Around} {I : Addr} {fp wr : List Addr} {n : Nat} {P : Nat → Value → Prop} {St : Nat → Heap → Prop} (W : Walks prog w A I fp wr n P St) : Walks prog w A I fp wr n (fun i v => i < n ∧ P i v) St where
  sub := W.sub
  frame := W.frame
  item := fun i s Q E hi st hQ => W.item i s Q E hi st fun v h' tk hP => hQ v h' tk ⟨hi, hP⟩
  done := W.done
  self := W.self
noncomputable def compScope : Scope := { kind := .function, names := [(Str.ofString ".0", .local), (Str.ofString "c", .local)], isGenerator := false, isCoroutine := false, more := [] }
theorem Top.comp {n1 n2 : Nat} {p1 p2 p3 p4 p5 p6 p7 p8 : Pos} (X : Top h₀ mg₀ c Pl b ps Fs s.heap) (hh : A.handled = none) (hb : h₀.Ns builtinsNs mb) (hr : mgOf b mg₀ "range" = none) (hv : mb "range" = some (.type "range"))
    (Q' : Value → Shared → Prop) (K : ∀ v h' tk, (∀ a o, s.heap.get? a = some o → h'.get? a = some o) → (∃ a, v = .ref a ∧ s.heap.get? a = none ∧ ∃ o, h'.get? a = some o ∧ IsTab hexStr o) → Q' v { s with heap := h', toks := tk }) :
    wpAny (model pw w) A (eval (.ListComp (.BinOp (.Constant (.str (Str.ofString "=%02X")) n1 p1) .Mod (.Name "c" p2) p3)
      [⟨.Name "c" p4, .Call (.Name "range" p5) [.Constant (.int 256) n2 p6] [] p7, [], 0⟩] compScope p8) (mainEnv pw c Fm)) Q' E s := by
  refine wpAny_ListComp_walk (fun _ => true) (fun v y => ∀ n : Nat, n < 256 → (∃ t, v = .int (n : Int) t) → ∃ u, y = .str (hexStr n) u) (by decide) (by decide) rfl (by decide) rfl ?_
  refine wpAny_Call_Name_kw (Top.builtin X hb hr hv ?_)
  refine callWith_type1 (t := eval (.Constant (.int 256) n2 p6) (mainEnv pw c Fm)) (wpAny_Constant_int ?_)
  refine call_range_1 ?_
  refine wpAny_pyIter_range (IsRange.new ..) (small_one (by decide) (by decide) (by decide) (by decide)) ?_
  rw [show Builtin.Range.rangeSize 0 256 1 = 256 from by decide]
  refine ⟨_, _, _, 256, _, _, rfl, walks_below (Walks.range hh _ 0 1 256), by decide, ?_, ?_, ⟨?_, ?_⟩, ?_⟩
  · exact Heap.get?_push_size _ rfl
  · intro d hd
    simp at hd
    subst hd
    simp [Heap.size_push]
  · intro C i v s₃ m₃ E' hP hn hm hk ht
    exact wpAny_pure ⟨rfl, s₃.heap, s₃.toks, rfl, fun _ _ e => e⟩
  · intro C i v s₃ m₃ E' hP _ hn hm hk ht
    refine wpAny_BinOp (wpAny_Constant_str (wpAny_Name (wpAny_loadName_local (env := compEnv compScope C (mainEnv pw c Fm)) rfl rfl hn hm ?_)))
    obtain ⟨hi, t, rfl⟩ := hP
    have ei : (0 : Int) + (i : Int) * 1 = (i : Int) := by lia
    rw [ei, show Str.ofString "=%02X" = (⟨#[61, 37, 48, 50, 88]⟩ : PySem.Str) from by decide +kernel]
    refine mod_hex i hi fun t' k => ⟨fun n hn e => ?_, _, _, rfl, fun _ _ e => e⟩
    obtain ⟨u, e⟩ := e
    have : (i : Int) = (n : Int) := by injection e
    have : i = n := by lia
    subst this
    exact ⟨t', rfl⟩
  · intro D h' tk ys vs hD hl hpl hlen hP hF hk
    rw [List.filter_eq_self.mpr (fun _ _ => rfl)] at hF
    have hsz : ys.size = 256 := by
      have := hF.length
      rw [hlen] at this
      simpa using this.symm
    have wr : ∀ d o, s.heap.get? d = some o → d ∉ [s.heap.objs.size + 1] := by
      intro d o e hm
      simp at hm
      subst hm
      exact absurd (Heap.lt_size e) (Nat.not_lt.mpr (Nat.le_succ _))
    have up : ∀ d o, s.heap.get? d = some o → h'.get? d = some o := fun d o e => hk d o (by simpa [Heap.size_push] using wr d o e) (Heap.get?_push_of_some _ (Heap.get?_push_of_some _ e))
    refine K _ h' tk up ⟨D, rfl, ?_, IsTab.of hl hsz ?_⟩
    · cases e : s.heap.get? D with
      | none => rfl
      | some o => rw [Heap.get?_push_of_some _ (Heap.get?_push_of_some _ e)] at hD; cases hD
    · intro i hi
      have := paired_tab (P := fun i v => i < 256 ∧ ∃ t, v = .int (0 + (i : Int) * 1) t) (g := hexStr) 0 hF (fun j v q => by
        rw [Nat.zero_add]; exact hP j v q) (fun j v y hp hf => hf j hp.1 (by obtain ⟨t, e⟩ := hp.2; exact ⟨t, by rw [e]; congr 1; lia⟩)) i (by rw [hlen]; exact hi)
      simpa using this
end

end

section
theorem pick_all {vs : Array Value} : (slicePick vs none none none) = vs := by
  have : (slicePick vs.toList.toArray none none none).toList = vs.toList := by
    rw [kms_pick_eq]
    simp [kms_pick, kms_lo, kms_hi]
    exact List.take_of_length_le (by simp)
  rw [Array.toArray_toList] at this
  exact Array.toList_inj.mp this
section
variable {w : World} {A : Around} {E : Value → Shared → Prop} {s : Shared} {h₀ : Heap} {mg₀ mb : Str → Option Value} {c Pl Fm : Addr} {b : List (Str × Option Value)} {ps : Array Value} {F₁ F₂ : List (Addr × (Obj → Prop))}
theorem Top.slice {x : Str} {a : Addr} {g : Nat → Str} {p1 p2 p3 : Pos} (X : Top h₀ mg₀ c Pl b ps (F₁ ++ (a, IsTab g) :: F₂) s.heap) (hx : mgOf b mg₀ x = some (.ref a)) (hd : (x == ("__debug__" : Str)) = false)
    (Q' : Value → Shared → Prop) (K : ∀ v h' tk, (∀ a o, s.heap.get? a = some o → h'.get? a = some o) → (∃ a, v = .ref a ∧ s.heap.get? a = none ∧ ∃ o, h'.get? a = some o ∧ IsTab g o) → Q' v { s with heap := h', toks := tk }) :
    wpAny (model pw w) A (eval (.Subscript (.Name x p1) (.Slice none none none p2) p3) (mainEnv pw c Fm)) Q' E s := by
  obtain ⟨⟨o, e, t⟩, _⟩ := X.facts (a, IsTab g) (by simp)
  obtain ⟨vs, hl, hs, hg⟩ := t.isList e
  refine wpAny_Subscript_Slice (T := "list") slot_list_getitem.lookup (Top.name X hx ?_ hd)
  refine wpAny_Slice ?_
  refine wpAny_pure ?_
  refine wpAny_pure ?_
  refine wpAny_pure ?_
  refine ⟨(hl.push _).typeIs, ?_⟩
  refine wpAny_getItem_list_slice (hl.push _) (Heap.IsSliceOf.new ..) .none .none .none (by simp) ?_ (by rw [hs]; decide)
  rw [pick_all]
  refine K _ _ _ (fun d o q => Heap.get?_push_of_some _ (Heap.get?_push_of_some _ q)) ⟨_, rfl, ?_, _, Heap.get?_push_size _ rfl, rfl, vs, _, rfl, hs, hg⟩
  cases q : s.heap.get? (s.heap.push { cls := .type "slice", data := .fields #[.none, .none, .none] }).objs.size with
  | none => rfl
  | some o =>
    have := Heap.lt_size q
    rw [Heap.size_push] at this
    exact absurd this (Nat.not_lt.mpr (Nat.le_succ _))

/-- a fresh object is bound -/
theorem Top.bindNew {x : Str} {p' pos : Pos} {value : Expr} {P : Obj → Prop} {F : List (Addr × (Obj → Prop))} {Q : Flow → Shared → Prop} (X : Top h₀ mg₀ c Pl b ps F s.heap)
    (hval : ∀ Q' : Value → Shared → Prop, (∀ v h' tk, (∀ a o, s.heap.get? a = some o → h'.get? a = some o) → (∃ a, v = .ref a ∧ s.heap.get? a = none ∧ ∃ o, h'.get? a = some o ∧ P o) → Q' v { s with heap := h', toks := tk }) →
      wpAny (model pw w) A (eval value (mainEnv pw c Fm)) Q' E s)
    (k : ∀ a h'' tk, Top h₀ mg₀ c Pl ((x, some (.ref a)) :: b) ps ((a, P) :: F) h'' → Q .next { s with heap := h'', toks := tk })
    (hloc : pw.main.scope.names.lookup x = some .local := by rfl) (hnb : x ≠ "__builtins__" := by decide) (hs : swapsWith value (some (.Name x p')) pos.line (mainEnv pw c Fm) = pure false := by rfl) :
    wpAny (model pw w) A (exec (.Assign [.Name x p'] value pos) (mainEnv pw c Fm)) Q E s := by
  refine X.assign (fun v h' => ∃ a, v = .ref a ∧ s.heap.get? a = none ∧ ∃ o, h'.get? a = some o ∧ P o) hval (fun v h' h'' tk hk hP hk2 X'' => ?_) hloc hnb hs
  obtain ⟨a, rfl, hn, o, e, p⟩ := hP
  have fr := X.fresh hn
  refine k a h'' tk (X''.more ?_ ⟨o, hk2 a o fr.2.1 e, p⟩)
  refine ⟨fr.1, fr.2.1, fr.2.2.1, ⟨fr.2.2.2.1.1, ?_⟩, fr.2.2.2.2⟩
  rw [← mgOf_cons]
  show (if _ then _ else _) ≠ _
  rw [if_neg (Ne.symm hnb)]; exact fr.2.2.2.1.2

/-- `L[ord(' ')] = '_'` -/
theorem Top.blank {L : Str} {a : Addr} {g : Nat → Str} {n1 n2 : Nat} {p1 p2 p3 p4 p5 p6 p7 : Pos} {Q : Flow → Shared → Prop} (X : Top h₀ mg₀ c Pl b ps (F₁ ++ (a, IsTab g) :: F₂) s.heap) (hL : mgOf b mg₀ L = some (.ref a))
    (hord : mgOf b mg₀ "ord" = none) (hb : h₀.Ns builtinsNs mb) (hv : mb "ord" = some (.builtin "ord"))
    (K : ∀ h' tk, Top h₀ mg₀ c Pl b ps (F₁ ++ (a, IsTab (putTab g 32 (Str.ofString "_"))) :: F₂) h' → Q .next { s with heap := h', toks := tk }) (hld : (L == ("__debug__" : Str)) = false := by decide)
    (hsw : swapsWith (.Constant (.str (Str.ofString "_")) n2 p6) (some (.Subscript (.Name L p1) (.Call (.Name "ord" p2) [.Constant (.str (Str.ofString " ")) n1 p3] [] p4) p5)) p7.line (mainEnv pw c Fm) = pure false := by rfl) :
    wpAny (model pw w) A (exec (.Assign [.Subscript (.Name L p1) (.Call (.Name "ord" p2) [.Constant (.str (Str.ofString " ")) n1 p3] [] p4) p5] (.Constant (.str (Str.ofString "_")) n2 p6) p7) (mainEnv pw c Fm)) Q E s := by
  refine wpAny_Assign_Subscript (wpAny_Constant_str ?_) hsw
  refine Top.name (s := { s with toks := s.toks + 1 }) X hL ?_ hld
  refine wpAny_Call_Name_kw (Top.builtin (s := { s with toks := s.toks + 1 }) X hb hord hv ?_)
  refine callWith_builtin1 (t := eval (.Constant (.str (Str.ofString " ")) n1 p3) (mainEnv pw c Fm)) (wpAny_Constant_str ?_)
  rw [show Str.ofString " " = (⟨#[32]⟩ : PySem.Str) from by decide +kernel]
  refine PySem.P.ord_of_char ?_
  exact Top.setItem (s := { s with toks := s.toks + 1 + 1 + 1 }) (k := 32) X (by decide) fun h' T => K h' _ T
end

end

section
theorem valueAt_stored {K : Type} [DecidableEq K] (kvs : List (K × Value)) (k k' : K) (y : Value) : valueAt (stored kvs k y) k' = if k' = k then some y else valueAt kvs k' := by
  unfold stored
  by_cases ha : kvs.any (fun kv => decide (kv.1 = k)) = true
  · rw [if_pos ha]
    unfold valueAt
    induction kvs with
    | nil => simp at ha
    | cons p r ih =>
      obtain ⟨p1, p2⟩ := p
      by_cases h1 : p1 = k
      · subst h1
        by_cases h2 : k' = p1
        · subst h2; simp
        · have hr : ∀ l : List (K × Value), ((l.map fun kv => if kv.1 = p1 then (kv.1, y) else kv).find? fun kv => decide (kv.1 = k')).map (·.2) = (l.find? fun kv => decide (kv.1 = k')).map (·.2) := by
            intro l
            induction l with
            | nil => rfl
            | cons q l ih2 =>
              obtain ⟨q1, q2⟩ := q
              by_cases e1 : q1 = p1
              · subst e1
                simpa [-List.find?_map, Ne.symm h2] using ih2
              · by_cases e2 : q1 = k'
                · subst e2; simp [-List.find?_map, e1]
                · simpa [-List.find?_map, e1, e2] using ih2
          simpa [-List.find?_map, h2, Ne.symm h2] using hr r
      · have ha' : r.any (fun kv => decide (kv.1 = k)) = true := by simpa [h1] using ha
        have := ih ha'
        by_cases h2 : p1 = k'
        · subst h2; simp [-List.find?_map, h1]
        · simpa [-List.find?_map, h1, h2] using this
  · rw [if_neg ha]
    have hn : ∀ p ∈ kvs, p.1 ≠ k := by
      intro p hp e
      exact ha (List.any_eq_true.mpr ⟨p, hp, by simpa using e⟩)
    unfold valueAt
    induction kvs with
    | nil =>
      by_cases h : k' = k
      · subst h; simp
      · simp [h, Ne.symm h]
    | cons p r ih =>
      obtain ⟨p1, p2⟩ := p
      have h1 : p1 ≠ k := hn _ List.mem_cons_self
      have ih' := ih (by intro q; exact ha (by simp [q])) fun p hp => hn p (List.mem_cons_of_mem _ hp)
      by_cases h2 : p1 = k'
      · subst h2; simp [h1]
      · simpa [h2] using ih'
theorem storedAll_val {K : Type} [DecidableEq K] {FK : Value → K → Prop} {FV : Value → Value → Prop} {l : List Value} {kvs : List (K × Value)} (h : StoredAll FK FV l kvs) :
    ∀ k, (∀ y, valueAt kvs k = some y → ∃ v ∈ l, FK v k ∧ FV v y) ∧ ((∃ v ∈ l, ∀ k', FK v k' → k' = k) → (valueAt kvs k).isSome = true) := by
  induction h with
  | nil => intro k; exact ⟨fun y e => by simp [valueAt] at e, fun ⟨v, hv, _⟩ => by cases hv⟩
  | @snoc l kvs v k₀ y₀ hs hk hv ih =>
    intro k
    rw [valueAt_stored]
    refine ⟨fun y e => ?_, fun ⟨u, hu, hku⟩ => ?_⟩
    · by_cases h : k = k₀
      · rw [if_pos h] at e
        cases e
        exact ⟨v, by simp, h ▸ hk, hv⟩
      · rw [if_neg h] at e
        obtain ⟨u, hu, r⟩ := (ih k).1 y e
        exact ⟨u, List.mem_append_left _ hu, r⟩
    · by_cases h : k = k₀
      · rw [if_pos h]; rfl
      · rw [if_neg h]
        rcases List.mem_append.mp hu with hu | hu
        · exact (ih k).2 ⟨u, hu, hku⟩
        · simp at hu
          subst hu
          exact absurd (hku k₀ hk).symm h
noncomputable def IsMap (w : World) (o : Obj) : Prop := ∃ f : Int → Option Value, (∀ (h : Heap) (a : Addr), h.get? a = some o → h.MapOf (intKind pw w) a f) ∧
  ∀ i : Nat, (specials.contains i = true → ∃ u, f (i : Int) = some (.str ⟨#[92, i]⟩ u)) ∧ (specials.contains i = false → f (i : Int) = none)
noncomputable def dcompScope : Scope := { kind := .function, names := [(Str.ofString ".0", .local), (Str.ofString "i", .local), (Str.ofString "chr", .globalImplicit)], isGenerator := false, isCoroutine := false, more := [] }
noncomputable def spBytes : List UInt8 := [40, 41, 91, 93, 123, 125, 63, 42, 43, 45, 124, 94, 36, 92, 46, 38, 126, 35, 32, 9, 10, 13, 11, 12]
theorem contains_map_toNat (i : Nat) : ∀ l : List UInt8, (l.map (·.toNat)).contains i = l.any (fun c => c.toNat == i)
  | [] => rfl
  | c :: r => by
    rw [List.map_cons, List.contains_cons, List.any_cons, contains_map_toNat i r]
    congr 1
    rw [Bool.eq_iff_iff, beq_iff_eq, beq_iff_eq]
    exact eq_comm
theorem sp_all (i : Nat) : specials.contains i = spBytes.any (fun c => c.toNat == i) := by
  rw [← contains_map_toNat]
  rfl
theorem isMap_of {w : World} {h : Heap} {D : Addr} {kvs : List (Int × Value)} {vs : List Value} (hd : h.DictOf (intKind pw w) D kvs) (hlen : vs.length = spBytes.length)
    (hP : ∀ (j : Nat) (v : Value), vs[j]? = some v → ∃ (c : UInt8) (u : Tok), spBytes[j]? = some c ∧ v = .int (c.toNat : Int) u)
    (hs : StoredAll (fun v k => ∃ u, v = .int k u) (fun v y => ∀ n : Nat, (∃ u, v = .int (n : Int) u) → ∃ t, y = .str ⟨#[92, n]⟩ t) vs kvs) : ∃ o, h.get? D = some o ∧ IsMap w o := by
  have hm := hd.mapOf
  obtain ⟨o, es, ep, ho, h1, h2, h3, h4⟩ := hm
  refine ⟨o, ho, valueAt kvs, fun h' a e => ⟨o, es, ep, e, h1, h2, h3, h4⟩, fun i => ⟨fun hi => ?_, fun hi => ?_⟩⟩
  · rw [sp_all] at hi
    obtain ⟨c, hc, e⟩ := List.any_eq_true.mp hi
    have e : c.toNat = i := by simpa using e
    obtain ⟨j, hj, ej⟩ := List.getElem_of_mem hc
    have hj' : j < vs.length := by lia
    obtain ⟨c', u, e1, e2⟩ := hP j vs[j] (List.getElem?_eq_getElem hj')
    rw [List.getElem?_eq_getElem hj, ej] at e1
    cases e1
    have hsome := (storedAll_val hs (i : Int)).2 ⟨vs[j], List.getElem_mem hj', fun k' ⟨u', e'⟩ => by
      rw [e2] at e'
      injection e' with e' _
      rw [← e', e]⟩
    obtain ⟨y, hy⟩ := Option.isSome_iff_exists.mp hsome
    obtain ⟨v, hv, ⟨u', e'⟩, hF⟩ := (storedAll_val hs (i : Int)).1 y hy
    obtain ⟨t, rfl⟩ := hF i ⟨u', e'⟩
    exact ⟨t, hy⟩
  · cases q : valueAt kvs (i : Int) with
    | none => rfl
    | some y =>
      obtain ⟨v, hv, ⟨u', e'⟩, _⟩ := (storedAll_val hs (i : Int)).1 y q
      obtain ⟨j, hj, ej⟩ := List.getElem_of_mem hv
      obtain ⟨c, u, e1, e2⟩ := hP j v (by rw [List.getElem?_eq_getElem hj, ej])
      rw [e'] at e2
      injection e2 with e2 _
      have e3 : c.toNat = i := by lia
      have : spBytes.any (fun c => c.toNat == i) = true := List.any_eq_true.mpr ⟨c, List.mem_of_getElem? e1, by simpa using e3⟩
      rw [← sp_all, hi] at this
      cases this

section
variable {w : World} {A : Around} {E : Value → Shared → Prop} {s : Shared} {h₀ : Heap} {mg₀ mb : Str → Option Value} {c Pl Fm : Addr} {b : List (Str × Option Value)} {ps : Array Value} {F : List (Addr × (Obj → Prop))}
open PySem.W in
theorem Top.dcomp {n1 n2 : Nat} {p0 p1 p2 p3 p4 p5 p6 p7 p8 : Pos} (X : Top h₀ mg₀ c Pl b ps F s.heap) (hh : A.handled = none) (hb : h₀.Ns builtinsNs mb) (hr : mgOf b mg₀ "chr" = none) (hv : mb "chr" = some (.builtin "chr"))
    (Q' : Value → Shared → Prop) (K : ∀ v h' tk, (∀ a o, s.heap.get? a = some o → h'.get? a = some o) → (∃ a, v = .ref a ∧ s.heap.get? a = none ∧ ∃ o, h'.get? a = some o ∧ IsMap w o) → Q' v { s with heap := h', toks := tk }) :
    wpAny (model pw w) A (eval (.DictComp (.Name "i" p0) (.BinOp (.Constant (.str (Str.ofString "\\")) n1 p1) .Add (.Call (.Name "chr" p2) [.Name "i" p3] [] p4) p5)
      [⟨.Name "i" p6, .Constant (.bytes spBytes) n2 p7, [], 0⟩] dcompScope p8) (mainEnv pw c Fm)) Q' E s := by
  refine wpAny_DictComp_free (cl := []) (intKind pw w) (fun _ => true) (fun v k => ∃ u, v = .int k u) (fun v y => ∀ n : Nat, (∃ u, v = .int (n : Int) u) → ∃ t, y = .str ⟨#[92, n]⟩ t) ?_ (by decide) rfl (by decide) rfl ?_
  · rfl
  rw [show (Const.bytes spBytes) = Const.bytes spBytes from rfl]
  refine Constant_bytes ?_
  refine KBw.pyIter_bytes ?_
  have wr : ∀ d o, s.heap.get? d = some o → d ∉ [s.heap.objs.size] := by
    intro d o e hm
    simp at hm
    subst hm
    exact absurd (Heap.lt_size e) (Nat.lt_irrefl _)
  have up : ∀ s₃ : Shared, (∀ d o, d ∉ [s.heap.objs.size] → (s.heap.push { cls := .type "bytes_iterator", data := .fields #[.bytes spBytes.toArray s.toks, .int 0 0] }).get? d = some o → s₃.heap.get? d = some o) → ∀ d o, s.heap.get? d = some o → s₃.heap.get? d = some o :=
    fun s₃ hk d o e => hk d o (wr d o e) (Heap.get?_push_of_some _ e)
  refine ⟨_, _, _, _, _, _, rfl, KBw.walks hh _ spBytes.toArray s.toks, by decide, ⟨_, Heap.get?_push_size _ rfl, rfl, rfl⟩, ?_, ⟨?_, ?_, ?_⟩, ?_⟩
  · intro d hd
    simp at hd
    subst hd
    simp [Heap.size_push]
  · intro C i v s₃ m₃ E' hP hn hm hk
    exact wpAny_pure ⟨rfl, s₃.heap, s₃.toks, rfl, fun _ _ e => e⟩
  · intro C i v s₃ m₃ E' hP _ hn hm hk
    obtain ⟨c', u, e, rfl⟩ := hP
    exact wpAny_Name (wpAny_loadName_local (env := compEnvC dcompScope [] C (mainEnv pw c Fm)) rfl rfl hn hm ⟨⟨(c'.toNat : Int), by simp [intKind, Value.isInt], u, rfl⟩, _, _, rfl, fun _ _ e => e⟩)
  · intro C i v s₃ m₃ E' hP _ hn hm hk
    obtain ⟨c', u, e, rfl⟩ := hP
    have hlt := c'.toNat_lt
    have X₃ : Top h₀ mg₀ c Pl b ps F s₃.heap := X.keeps (up s₃ hk)
    refine wpAny_BinOp (wpAny_Constant_str ?_)
    refine wpAny_Call_Name_kw (Name_function_global (env := compEnvC dcompScope [] C (mainEnv pw c Fm)) rfl rfl (loadGlobal_builtin (env := compEnvC dcompScope [] C (mainEnv pw c Fm)) X₃.main.g hr (hb.at fun o q => X₃.old _ o q (by decide)) hv ?_) (by decide))
    refine callWith_builtin1 (t := eval (.Name "i" p3) (compEnvC dcompScope [] C (mainEnv pw c Fm))) (wpAny_Name (wpAny_loadName_local (env := compEnvC dcompScope [] C (mainEnv pw c Fm)) rfl rfl hn hm ?_))
    refine PySem.P.chr_of_int (by simp; lia) ?_
    refine add_str (fun t' tk => ⟨fun n ⟨u', e'⟩ => ?_, _, _, rfl, fun _ _ e => e⟩) (by show 1 + 1 ≤ sizeLine; decide)
    injection e' with e' _
    refine ⟨t', ?_⟩
    rw [show Str.ofString "\\" = (⟨#[92]⟩ : PySem.Str) from by decide +kernel, e']
    rfl
  · intro D h' tk kvs vs hD hd hlen hP hs hk
    rw [List.filter_eq_self.mpr (fun _ _ => rfl)] at hs
    refine K _ h' tk (fun d o e => hk d o (wr d o e) (Heap.get?_push_of_some _ e)) ⟨D, rfl, ?_, isMap_of hd hlen (fun j v q => ?_) hs⟩
    · cases e : s.heap.get? D with
      | none => rfl
      | some o => rw [Heap.get?_push_of_some _ e] at hD; cases hD
    · obtain ⟨c', u, e, rfl⟩ := hP j v q
      exact ⟨c', u, by simpa using e, rfl⟩
end

end

section
section
variable {M : Model} {A : Around} {E : Value → Shared → Prop} {s : Shared} {h₀ : Heap} {mg₀ : Str → Option Value} {c Pl Fm : Addr} {b : List (Str × Option Value)} {ps : Array Value} {F : List (Addr × (Obj → Prop))}
theorem Top.del {x : Str} {v : Value} {p1 p2 : Pos} {Q : Flow → Shared → Prop} (X : Top h₀ mg₀ c Pl b ps F s.heap) (e : mgOf b mg₀ x = some v)
    (K : ∀ u h' tk, Top h₀ mg₀ c Pl ((x, u) :: b) ps F h' → Q .next { s with heap := h', toks := tk }) (hloc : pw.main.scope.names.lookup x = some .local := by rfl) (hnb : x ≠ "__builtins__" := by decide) :
    wpAny M A (exec (.Delete [.Name x p1] p2) (mainEnv pw c Fm)) Q E s := by
  refine wpAny_Delete (wpAny_deleteEach_cons (wpAny_delete_Name (wpAny_unbindName_local (env := mainEnv pw c Fm) hloc X.main.g e rfl fun h' u hn hs => wpAny_deleteEach_nil ?_)))
  exact K u h' s.toks (X.store (fun a o ha q => (hs.2 a ha).trans q) hn hnb)
end
section
variable {w : World} {A : Around} {E : Value → Shared → Prop} {s : Shared} {h₀ : Heap} {mg₀ : Str → Option Value} {c Pl Fm : Addr} {b : List (Str × Option Value)} {ps : Array Value} {F : List (Addr × (Obj → Prop))}
/-- `x = y + z` of two strs -/
theorem Top.assignCat {x y z : Str} {u v : Str} {tu tv : Tok} {p' p1 p2 p3 pos : Pos} {Q : Flow → Shared → Prop} (X : Top h₀ mg₀ c Pl b ps F s.heap) (hy : mgOf b mg₀ y = some (.str u tu)) (hz : mgOf b mg₀ z = some (.str v tv)) (hsz : u.length + v.length ≤ sizeLine)
    (k : ∀ t h'' tk, Top h₀ mg₀ c Pl ((x, some (.str (u ++ v) t)) :: b) ps F h'' → Q .next { s with heap := h'', toks := tk })
    (hloc : pw.main.scope.names.lookup x = some .local := by rfl) (hnb : x ≠ "__builtins__" := by decide) (hdy : (y == ("__debug__" : Str)) = false := by decide) (hdz : (z == ("__debug__" : Str)) = false := by decide) :
    wpAny (model pw w) A (exec (.Assign [.Name x p'] (.BinOp (.Name y p1) .Add (.Name z p2) p3) pos) (mainEnv pw c Fm)) Q E s := by
  refine X.assign (fun w' h' => h' = s.heap ∧ ∃ t, w' = .str (u ++ v) t) (fun Q' h => ?_) (fun w' h' h'' tk hk hP hk2 X'' => ?_) hloc hnb
  · refine wpAny_BinOp (Top.name X hy (Top.name X hz ?_ hdz) hdy)
    exact add_str (fun t' tk => h _ _ _ (fun _ _ e => e) ⟨rfl, t', rfl⟩) hsz
  · obtain ⟨rfl, t, rfl⟩ := hP
    exact k t h'' tk X''
end

end

section
noncomputable def sreCode : List Nat := [14, 14, 4, 1, 1, 9, 0, 64, 0, 1342177280, 0, 0, 0, 0, 0, 17, 0, 13, 11, 9, 0, 64, 0, 1342177280, 0, 0, 0, 0, 0, 17, 1, 1]
theorem words_loop {f : Value → Array Nat → Sem (ForInStep (Array Nat))} (hf : ∀ (n : Nat) t acc, n < 2 ^ 32 → f (.int (n : Int) t) acc = pure (.yield (acc.push n))) :
    ∀ (ns : List Nat) (vs : List Value) (acc : Array Nat), IntsAre vs (ns.map Int.ofNat) → (∀ n ∈ ns, n < 2 ^ 32) → forIn vs acc f = (pure (acc ++ ns.toArray) : Sem (Array Nat))
  | [], [], acc, _, _ => by simp
  | n :: ns, v :: vs, acc, h, hb => by
    cases h
    rename_i t h'
    rw [List.forIn_cons, show Int.ofNat n = (n : Int) from rfl, hf n t acc (hb n List.mem_cons_self)]
    show (forIn vs (acc.push n) f) = _
    rw [words_loop hf ns vs _ h' fun m hm => hb m (List.mem_cons_of_mem _ hm)]
    simp
  | [], _ :: _, _, h, _ => nomatch h
  | _ :: _, [], _, h, _ => nomatch h
theorem words_arr {vs : List Value} (hi : IntsAre vs (sreCode.map Int.ofNat)) {f : Value → Array Nat → Sem (ForInStep (Array Nat))} (hf : ∀ (n : Nat) t acc, n < 2 ^ 32 → f (.int (n : Int) t) acc = pure (.yield (acc.push n))) :
    (forIn ((some vs.toArray).getD #[]) #[] f : Sem (Array Nat)) = pure sreCode.toArray := by
  show (forIn vs.toArray #[] f : Sem (Array Nat)) = _
  rw [← Array.forIn_toList]
  rw [words_loop hf sreCode vs #[] hi (by decide)]
  simp
open Builtin Builtin.Re in
theorem sre_named {a b c d e f : Value} : reNamed "_sre.compile" "compile" ["pattern", "flags", "code", "groups", "groupindex", "indexgroup"] 6 [a, b, c, d, e, f] [] = pure [some a, some b, some c, some d, some e, some f] := by kernel_rfl
open Builtin Builtin.Re in
theorem sre_entry {prog : Program} {w : World} {A : Around} {E : Value → Shared → Prop} {s : Shared} {L D T : Addr} {t1 t2 t3 : Tok} {vs : List Value} {oD oT : Obj} {Q : Fin → Shared → Prop}
    (hl : s.heap.IsList L vs.toArray) (hi : IntsAre vs (sreCode.map Int.ofNat)) (hD : s.heap.get? D = some oD) (hDc : oD.cls = .type "dict") (hDd : oD.data = .dict #[]) (hDs : (D == sysModules) = false) (hT : s.heap.get? T = some oT) (hTc : oT.cls = .type "tuple")
    (h : ∀ v h' tk, (∀ a o, s.heap.get? a = some o → h'.get? a = some o) → Q (.done (.ret v)) { s with heap := h', toks := tk }) :
    wpAny (model prog w) A («_sre.compile» ⟨[.str (Str.ofString "([&~|])") t1, .int 32 t2, .ref L, .int 1 t3, .ref D, .ref T], []⟩) Q E s := by
  obtain ⟨cD, dD, aD, sD⟩ := oD
  dsimp only at hDc hDd
  subst hDc hDd
  have hTL : s.TypeIs (.ref L) "list" := hl.typeIs
  have hTD : s.TypeIs (.ref D) "dict" := ⟨_, hD, rfl⟩
  have hTT : s.TypeIs (.ref T) "tuple" := ⟨_, hT, hTc⟩
  have f1 : isSubtype (.type "list") (.type "list") = pure true := by rw [isSubtype_type]; kernel_rfl
  have f2 : isSubtype (.type "dict") (.type "dict") = pure true := by rw [isSubtype_type]; kernel_rfl
  have f3 : isSubtype (.type "tuple") (.type "tuple") = pure true := by rw [isSubtype_type]; kernel_rfl
  obtain ⟨⟨cL, dL, aL, sL⟩, hL, hLc, nL, hLd⟩ := id hl
  dsimp only at hLc hLd
  subst hLc hLd
  unfold «_sre.compile»
  dsimp only
  refine wpAny_bind (wpAny_of_eq sre_named ?_)
  dsimp only
  repeat (any_goals (first | assumption | ((fail_if_success (with_reducible show wpAny _ _ (forIn _ _ _) _ _ _)); wp_step)))
  refine wpAny_of_eq (words_arr hi ?hf) ?_
  case hf =>
    intro n t acc hn
    rw [show asInt? (Value.int (n : Int) t) = pure (some (n : Int)) from rfl, pure_bind]
    dsimp only
    rw [if_neg (by omega), if_neg (by omega), if_neg (by omega)]
    rfl
  repeat (any_goals (first | assumption | wp_step))
  exact h _ _ _ fun a o e => Heap.get?_push_of_some _ (Heap.get?_push_of_some _ e)

end

section
theorem lk_module_compile : typeLookup (.type "module") "compile" = pure none := by rw [typeLookup_type, builtinLookup_eq_fast]; kernel_rfl
theorem handed_compile : handedOut (.builtin "_sre.compile") = pure (.builtin "_sre.compile") := by kernel_rfl
section
variable {prog : Program} {w : World} {A : Around} {E : Value → Shared → Prop} {s : Shared} {env : Env}
theorem call_modfn {o : Expr} {name : Str} {id : String} {apos pos : Pos} {args : List Expr} {Mo D : Addr} {md : Str → Option Value} {Q : Value → Shared → Prop}
    (hbase : attributeBase o name env (eval o env) = eval o env)
    (hfew : ((backTo pos (starEach args env)).all (fun x => !x.1) && (backToKw pos (keywordEach [] env)).all (fun x => x.1.isSome)
      && decide (args.length + ([] : List Keyword).length + (if ([] : List Keyword).isEmpty then 0 else 1) < 30)) = true)
    (hline : (apos.endLine == pos.line) = true) (hm : Flt.IsCMod s.heap Mo D md) (hnm : typeLookup (.type "module") name = pure none) (hv : md name = some (.builtin id)) (hh : handedOut (.builtin id) = pure (.builtin id))
    (ho : ∀ Q' : Value → Shared → Prop, Q' (.ref Mo) s → wpAny (model prog w) A (eval o env) Q' E s)
    (h : wpAny (model prog w) A (callWith pos (.builtin id) [] (backTo pos (starEach args env)) []) Q E { s with toks := s.toks + 1 }) :
    wpAny (model prog w) A (eval (.Call (.Attribute o name apos) args [] pos) env) Q E s := by
  obtain ⟨hp, g, d, tk, os⟩ := s
  rw [arm_eval_Call, hbase]
  refine wpAny_bind (ho _ ?_)
  refine wpAny_bind (wpAny_standAt ?_)
  have hform : methodCallForm (args.length + ([] : List Keyword).length) (backTo pos (starEach args env)) (backToKw pos (keywordEach [] env)) = true := hfew
  have hpos : methodCallPos true o env apos pos = pure pos := by unfold methodCallPos; simp [hline]
  unfold methodCall
  rw [hform]
  refine wpAny_bind (wpAny_holding (Flt.getMethod_module (h := hp) (g := g) (d := d) (t := tk) (os := os) hm hnm hv hh ?_))
  exact wpAny_bind (wpAny_of_eq hpos h)
end

end

section
theorem sre_kind : builtinKind "_sre.compile" = none := by decide +kernel
theorem sre_plain : plainId "_sre.compile" = true := by decide +kernel
theorem sre_for : entryFor table "_sre.compile" = some Builtin.«_sre.compile» := entryFor_of_tree (by kernel_rfl)
theorem sre_args (a b c d e f : Value) : argsOk "_sre.compile" ⟨[a, b, c, d, e, f], []⟩ := by unfold argsOk; kernel_rfl
inductive IntLits : List Expr → List Int → Prop
  | nil : IntLits [] []
  | cons {i : Int} {k : Nat} {p : Pos} {r : List Expr} {l : List Int} : IntLits r l → IntLits (.Constant (.int i) k p :: r) (i :: l)
section
variable {M : Model} {A : Around} {E : Value → Shared → Prop} {env : Env}
theorem ints_spliced {pos : Pos} {es : List Expr} {ns : List Int} (e : IntLits es ns) : ∀ (s : Shared) (Q : List Value → Shared → Prop), (∀ vs tk, IntsAre vs ns → Q vs { s with toks := tk }) →
    wpAny M A (spliced (backTo pos (starEach es env))) Q E s := by
  induction e with
  | nil => intro s Q h; exact spliced_nil (h [] s.toks .nil)
  | @cons i k p r l _ ih => intro s Q h; exact spliced_cons (x := eval (.Constant (.int i) k p) env) (wpAny_Constant_int (ih _ _ fun vs tk hvs => h _ tk (by constructor; exact hvs)))
end
section
variable {w : World} {A : Around} {E : Value → Shared → Prop} {s : Shared} {h₀ : Heap} {mg₀ md : Str → Option Value} {c Pl Fm Mo Dm : Addr} {b : List (Str × Option Value)} {ps : Array Value} {F : List (Addr × (Obj → Prop))}
theorem Top.sre {elts : List Expr} {n1 n2 n3 n4 n5 n6 : Nat} {p0 p1 p2 p3 p4 p5 p6 p7 p8 p9 pa pb pc : Pos} {Q : Flow → Shared → Prop} (X : Top h₀ mg₀ c Pl b ps F s.heap) (hm : Flt.IsCMod h₀ Mo Dm md) (hne : Mo ≠ mainGlobals ∧ Dm ≠ mainGlobals)
    (hv : md (Str.ofString "compile") = some (.builtin "_sre.compile")) (hx : mgOf b mg₀ "_sre" = some (.ref Mo)) (hes : IntLits elts (sreCode.map Int.ofNat)) (hlow : sysModules < s.heap.objs.size)
    (k : ∀ v h'' tk, Top h₀ mg₀ c Pl (("_twin_re_1", some v) :: b) ps F h'' → Q .next { s with heap := h'', toks := tk }) (hline : (p2.endLine == pa.line) = true := by rfl)
    (hs : swapsWith (.Call (.Attribute (.Name "_sre" p1) (Str.ofString "compile") p2) [.Constant (.str (Str.ofString "([&~|])")) n1 p3, .Constant (.int 32) n2 p4, .List elts p5, .Constant (.int 1) n3 p6, .Dict [] [] p7, .Tuple [.Constant .none n4 p8, .Constant .none n5 p9] n6 pb] [] pa) (some (.Name "_twin_re_1" p0)) pc.line (mainEnv pw c Fm) = pure false := by rfl) :
    wpAny (model pw w) A (exec (.Assign [.Name "_twin_re_1" p0] (.Call (.Attribute (.Name "_sre" p1) (Str.ofString "compile") p2) [.Constant (.str (Str.ofString "([&~|])")) n1 p3, .Constant (.int 32) n2 p4, .List elts p5, .Constant (.int 1) n3 p6, .Dict [] [] p7,
      .Tuple [.Constant .none n4 p8, .Constant .none n5 p9] n6 pb] [] pa) pc) (mainEnv pw c Fm)) Q E s := by
  refine X.assign (fun _ _ => True) (fun Q' K => ?_) (fun v h' h'' tk _ _ _ X'' => k v h'' tk X'') rfl (by decide) hs
  have hm' : Flt.IsCMod s.heap Mo Dm md := ⟨X.old _ _ hm.1 hne.1, hm.2.at fun o e => X.old _ o e hne.2⟩
  refine call_modfn rfl rfl hline hm' lk_module_compile hv handed_compile (fun Q'' h => Top.name X hx h) ?_
  refine Calls.callWith_builtin rfl (Calls.evalArgs_plain ?_)
  refine spliced_cons (x := eval (.Constant (.str (Str.ofString "([&~|])")) n1 p3) (mainEnv pw c Fm)) (wpAny_Constant_str ?_)
  refine spliced_cons (x := eval (.Constant (.int 32) n2 p4) (mainEnv pw c Fm)) (wpAny_Constant_int ?_)
  refine spliced_cons (x := eval (.List elts p5) (mainEnv pw c Fm)) (wpAny_List_spliced (ints_spliced hes _ _ fun vs tk hvs => ⟨?_, ?_⟩))
  · rw [hvs.length]; decide
  refine spliced_cons (x := eval (.Constant (.int 1) n3 p6) (mainEnv pw c Fm)) (wpAny_Constant_int ?_)
  refine spliced_cons (x := eval (.Dict [] [] p7) (mainEnv pw c Fm)) (wpAny_Dict_empty ?_)
  refine spliced_cons (x := eval (.Tuple [.Constant .none n4 p8, .Constant .none n5 p9] n6 pb) (mainEnv pw c Fm)) (wpAny_Tuple_spliced (spliced_cons (x := eval (.Constant .none n4 p8) (mainEnv pw c Fm)) (wpAny_Constant_none (spliced_cons (x := eval (.Constant .none n5 p9) (mainEnv pw c Fm)) (wpAny_Constant_none (spliced_nil ⟨by decide, ?_⟩))))))
  refine spliced_nil ?_
  refine call_function_tree sre_kind sre_plain sre_for (sre_args _ _ _ _ _ _) ?_
  refine sre_entry (vs := vs) (oD := { cls := .type "dict", data := .dict #[] }) (oT := { cls := .type "tuple", data := .seq [Value.none, Value.none].toArray }) ?hl hvs ?hD ?c1 ?c2 ?c3 ?hT ?c4 fun v h' tk' hk => K v h' tk' (fun a o e => hk a o (Heap.get?_push_of_some _ (Heap.get?_push_of_some _ (Heap.get?_push_of_some _ e)))) trivial
  case c1 => rfl
  case c2 => rfl
  case c4 => rfl
  case hT => exact Heap.get?_push_size _ rfl
  case hD => exact Heap.get?_push_of_some _ (Heap.get?_push_size _ rfl)
  case hl => exact ⟨_, Heap.get?_push_of_some _ (Heap.get?_push_of_some _ (Heap.get?_push_size _ rfl)), rfl, _, rfl⟩
  case c3 =>
    refine beq_eq_false_iff_ne.mpr fun e => ?_
    have e' : s.heap.objs.size + 1 = sysModules := by rw [← e]; simp only [Heap.size_push]
    exact absurd (Nat.lt_succ_of_lt hlow) (e' ▸ Nat.lt_irrefl _)
end

end

section
noncomputable def safeBytes : Array UInt8 := (#[45, 33, 42, 43, 47] ++ letters) ++ #[48, 49, 50, 51, 52, 53, 54, 55, 56, 57]
section
variable {w : World} {A : Around} {E : Value → Shared → Prop} {s : Shared} {h₀ : Heap} {mg₀ : Str → Option Value} {c Pl Fm : Addr} {b : List (Str × Option Value)} {ps : Array Value} {F : List (Addr × (Obj → Prop))}
open PySem.W in
theorem Top.iter9 {t1 t2 : Tok} {n1 n2 n3 : Nat} {p1 p2 p3 p4 p5 p6 p7 p8 p9 pa pb : Pos} (X : Top h₀ mg₀ c Pl b ps F s.heap) (hl : mgOf b mg₀ "ascii_letters" = some (.str (Str.ofString "abcdefghijklmnopqrstuvwxyz" ++ Str.ofString "ABCDEFGHIJKLMNOPQRSTUVWXYZ") t1))
    (hd : mgOf b mg₀ "digits" = some (.str (Str.ofString "0123456789") t2)) (hl1 : (p3.endLine == p5.line) = true) (hl2 : (p8.endLine == pa.line) = true)
    (Q' : Value → Shared → Prop) (K : ∀ t tk, Q' (.bytes safeBytes t) { s with toks := tk }) :
    wpAny (model pw w) A (eval (.BinOp (.BinOp (.Constant (.bytes [45, 33, 42, 43, 47]) n1 p1) .Add (.Call (.Attribute (.Name "ascii_letters" p2) (Str.ofString "encode") p3) [.Constant (.str (Str.ofString "ascii")) n2 p4] [] p5) p6)
      .Add (.Call (.Attribute (.Name "digits" p7) (Str.ofString "encode") p8) [.Constant (.str (Str.ofString "ascii")) n3 p9] [] pa) pb) (mainEnv pw c Fm)) Q' E s := by
  refine wpAny_BinOp (wpAny_BinOp (Constant_bytes ?_))
  refine Top.encode (s := { s with toks := s.toks + 1 }) X hl (fun _ _ => enc_letters) (by decide) (fun t k => ?_) (by decide) hl1
  refine KBy.add_bytes (by decide) fun t' k' => ?_
  refine Top.encode (s := { s with toks := k' }) X hd (fun _ _ => enc_digits) (by decide) (fun t k => ?_) (by decide) hl2
  exact KBy.add_bytes (by decide) fun t' k' => K t' k'
end

end

section
noncomputable def stAt (k : Nat) : Stmt := pw.main.body.getD k (.Pass default)
section
variable {M : Model} {A : Around} {E : Value → Shared → Prop} {s : Shared} {env : Env} {Q : Flow → Shared → Prop}
theorem at_k {k : Nat} (h : pw.main.body[k]? = some (stAt k)) (H : wpAny M A (exec (stAt k) env) (fun f s' => match f with | .next => wpAny M A (execs (pw.main.body.drop (k + 1)) env) Q E s' | f => Q f s') E s) :
    wpAny M A (execs (pw.main.body.drop k) env) Q E s := by
  have e : pw.main.body.drop k = stAt k :: pw.main.body.drop (k + 1) := by
    obtain ⟨hk, e⟩ := List.getElem?_eq_some_iff.mp h
    rw [← e]
    exact List.drop_eq_getElem_cons hk
  rw [e]
  exact wpAny_execs_cons H
end
noncomputable def topKeys : List Str := ["law", "_law_told", "_law_end", "_law_wide", "_law_takes", "_law_at", "_law_runs", "_law_rows", "__name__", "_join_translated_parts", "_translate", "__name__", "escape", "_special_chars_map", "__name__", "translate", "_twin_re_1",
  "__name__", "c", "c", "_QUOPRI_BODY_ENCODE_MAP", "header_encode", "c", "c", "__name__", "digits", "ascii_letters", "ascii_uppercase", "ascii_lowercase", "_QUOPRI_BODY_MAP", "_QUOPRI_HEADER_MAP", "_QUOPRI_MAP"]
noncomputable def hdrTab : Nat → Str := putTab (putAll hexStr safeBytes.toList) 32 (Str.ofString "_")
structure Left (w : World) (h₀ : Heap) (mg₀ : Str → Option Value) (f : Fns) (h : Heap) : Prop where
  gd : Gd f h
  old : ∀ a o, h₀.get? a = some o → a ≠ mainGlobals → h.get? a = some o
  keys : ∀ x v, f.mg x = some v → x ∈ topKeys ∨ mg₀ x = some v
  out : ∀ x, x ∉ topKeys → f.mg x = mg₀ x
  bmod : ∃ Pl, h.BuiltinsAt f.mg Pl
  hmap : ∃ o, h.get? f.hmap = some o ∧ IsTab hdrTab o
  smap : ∃ o, h.get? f.smap = some o ∧ IsMap w o
  lawd : ∃ c' o o', h.get? f.law = some o ∧ IsFn 33 .none c' o ∧ h.get? c' = some o' ∧ IsRec 33 c' o'
  n_law : f.mg "law" = some (.ref f.law)
  dfl : ∃ T, f.dflt = .ref T ∧ ∃ o, h.get? T = some o ∧ IsDf 1 o
  smap_ne : (f.smap == sysModules) = false
section
variable {h₀ : Heap} {mg₀ : Str → Option Value} {c Pl : Addr} {b : List (Str × Option Value)} {ps : Array Value} {F : List (Addr × (Obj → Prop))} {h : Heap}
theorem get_of {p : Addr × (Obj → Prop)} (X : Top h₀ mg₀ c Pl b ps F h) (hp : p ∈ F) : ∃ o, h.get? p.1 = some o ∧ p.2 o := (X.facts p hp).1
theorem fn_of {a c' : Addr} {k : Nat} {dV : Value} (X : Top h₀ mg₀ c Pl b ps F h) (h1 : (a, IsFn k dV c') ∈ F) (h2 : (c', IsRec k c') ∈ F) : FnAt h a k dV := by
  obtain ⟨o, e, q⟩ := get_of X h1
  obtain ⟨o', e', q'⟩ := get_of X h2
  exact fnAt_of e q e' q'
theorem mgOf_out {x : Str} (hx : x ∉ b.map (·.1)) : mgOf b mg₀ x = mg₀ x := by
  unfold mgOf
  have : b.lookup x = none := by
    induction b with
    | nil => rfl
    | cons p r ih =>
      rw [List.map_cons, List.mem_cons, not_or] at hx
      rw [List.lookup_cons]
      have : (x == p.1) = false := by simpa using hx.1
      rw [this]
      exact ih hx.2
  rw [this]
theorem mgOf_keys {x : Str} {v : Value} (hv : mgOf b mg₀ x = some v) : x ∈ b.map (·.1) ∨ mg₀ x = some v := by
  by_cases hx : x ∈ b.map (·.1)
  · exact .inl hx
  · rw [mgOf_out hx] at hv
    exact .inr hv
theorem named (_ : Top h₀ mg₀ c Pl b ps F h) : ∃ mg, mg = mgOf b mg₀ := ⟨_, rfl⟩
theorem outs (_ : Top h₀ mg₀ c Pl b ps F h) (e : b.map (·.1) = topKeys) : (∀ x, x ∉ topKeys → mgOf b mg₀ x = mg₀ x) ∧ (∀ x v, mgOf b mg₀ x = some v → x ∈ topKeys ∨ mg₀ x = some v) :=
  ⟨fun _ hx => mgOf_out (e ▸ hx), fun _ _ hv => e ▸ mgOf_keys hv⟩
end
section
variable {w : World} {A : Around} {E : Value → Shared → Prop} {h₀ : Heap} {mg₀ mb md : Str → Option Value} {c Pl Fm Mo Dm : Addr} {Q : Flow → Shared → Prop}
structure Before (h₀ : Heap) (mg₀ mb md : Str → Option Value) (Mo Dm : Addr) : Prop where
  b : h₀.Ns builtinsNs mb
  bb : ∀ x : Str, x ≠ "__name__" → mb x = bootBuiltins x
  r : mg₀ "range" = none
  ch : mg₀ "chr" = none
  o : mg₀ "ord" = none
  sre : mg₀ "_sre" = some (.ref Mo)
  mod : Flt.IsCMod h₀ Mo Dm md
  ne : Mo ≠ mainGlobals ∧ Dm ≠ mainGlobals
  cmp : md (Str.ofString "compile") = some (.builtin "_sre.compile")
  free : ∀ x ∈ usedBuiltins, mg₀ x = none
  nolimit : h₀.NoLimit
  sm : ∃ o, h₀.get? sysModules = some o
theorem bb_of (B : Before h₀ mg₀ mb md Mo Dm) {x : Str} {v : Value} (h : bootBuiltins x = some v) (hn : x ≠ "__name__") : mb x = some v := (B.bb x hn).trans h
theorem b_range (B : Before h₀ mg₀ mb md Mo Dm) : mb "range" = some (.type "range") := bb_of B (by decide +kernel) (by decide)
theorem b_chr (B : Before h₀ mg₀ mb md Mo Dm) : mb "chr" = some (.builtin "chr") := bb_of B (by decide +kernel) (by decide)
theorem b_ord (B : Before h₀ mg₀ mb md Mo Dm) : mb "ord" = some (.builtin "ord") := bb_of B (by decide +kernel) (by decide)
noncomputable def paramsAt (k : Nat) : Arguments := match stAt k with | .FunctionDef _ p _ _ _ _ _ _ _ _ => p | _ => default
noncomputable def bodyAt (k : Nat) : List Stmt := match stAt k with | .FunctionDef _ _ b _ _ _ _ _ _ _ => b | _ => []
noncomputable def scopeAt (k : Nat) : Scope := match stAt k with | .FunctionDef _ _ _ _ _ _ sc _ _ _ => sc | _ => default
section
variable {s : Shared} {b : List (Str × Option Value)} {ps : Array Value} {F : List (Addr × (Obj → Prop))}
theorem Top.defN (k : Nat) {name : Str} {pos : Pos} (X : Top h₀ mg₀ c Pl b ps F s.heap)
    (K : ∀ a c' h' tk, Top h₀ mg₀ c Pl ((name, some (.ref a)) :: b) (ps ++ #[rawInt pos.line, rawInt pos.col, .ref c']) ((a, IsFn k .none c') :: (c', IsRec k c') :: F) h' → Q .next { s with heap := h', toks := tk })
    (hlit : pw.main.body[k]? = some (.FunctionDef name (paramsAt k) (bodyAt k) [] none [] (scopeAt k) none name pos) := by rfl) (hd : (paramsAt k).defaults = [] := by rfl)
    (hkw : (paramsAt k).kwonlyargs = [] := by rfl) (hkd : (paramsAt k).kw_defaults = [] := by rfl) (hconst : ∀ e ∈ (paramsAt k).defaults, e.isPlainConst = true := by decide) (hann0 : annTrees (paramsAt k) none (mainEnv pw c Fm) = [] := by rfl)
    (hfree : ∀ x ∈ (scopeAt k).names, x.2 ≠ .free := by decide) (hloc : pw.main.scope.names.lookup name = some .local := by rfl)
    (hq : qualnameIn { scope := pw.main.scope, locals := mainGlobals, globals := mainGlobals, cells := [] } name name = name := by rfl)
    (hnb : name ≠ "__builtins__" := by decide) (hmod : pw.main.scope.kind = .module := by rfl) (hnf : codeAmong pos ps.toList = none := by kernel_rfl) :
    wpAny (model pw w) A (exec (.FunctionDef name (paramsAt k) (bodyAt k) [] none [] (scopeAt k) none name pos) (mainEnv pw c Fm)) Q E s :=
  Top.def_ X hlit (fun a c' dV h' tk X' q => by
    obtain rfl := q.1 hd
    exact K a c' h' tk X') hkw hkd hconst hann0 hfree hloc hq hnb hmod hnf
theorem Top.defD (k : Nat) {name : Str} {pos : Pos} (X : Top h₀ mg₀ c Pl b ps F s.heap)
    (K : ∀ a c' T h' tk, Top h₀ mg₀ c Pl ((name, some (.ref a)) :: b) (ps ++ #[rawInt pos.line, rawInt pos.col, .ref c']) ((T, IsDf (paramsAt k).defaults.length) :: (a, IsFn k (.ref T) c') :: (c', IsRec k c') :: F) h' → Q .next { s with heap := h', toks := tk })
    (hlit : pw.main.body[k]? = some (.FunctionDef name (paramsAt k) (bodyAt k) [] none [] (scopeAt k) none name pos) := by rfl) (hd : (paramsAt k).defaults ≠ [] := by decide)
    (hkw : (paramsAt k).kwonlyargs = [] := by rfl) (hkd : (paramsAt k).kw_defaults = [] := by rfl) (hconst : ∀ e ∈ (paramsAt k).defaults, e.isPlainConst = true := by decide) (hann0 : annTrees (paramsAt k) none (mainEnv pw c Fm) = [] := by rfl)
    (hfree : ∀ x ∈ (scopeAt k).names, x.2 ≠ .free := by decide) (hloc : pw.main.scope.names.lookup name = some .local := by rfl)
    (hq : qualnameIn { scope := pw.main.scope, locals := mainGlobals, globals := mainGlobals, cells := [] } name name = name := by rfl)
    (hnb : name ≠ "__builtins__" := by decide) (hmod : pw.main.scope.kind = .module := by rfl) (hnf : codeAmong pos ps.toList = none := by kernel_rfl) :
    wpAny (model pw w) A (exec (.FunctionDef name (paramsAt k) (bodyAt k) [] none [] (scopeAt k) none name pos) (mainEnv pw c Fm)) Q E s :=
  Top.def_ X hlit (fun a c' dV h' tk X' q => by
    obtain ⟨T, rfl, X''⟩ := q.2 hd
    exact K a c' T h' tk X'') hkw hkd hconst hann0 hfree hloc hq hnb hmod hnf
end
open PySem.W in
theorem chain1 {s : Shared} (K : ∀ f h' tk, Left w h₀ mg₀ f h' → Q .next { s with heap := h', toks := tk }) (B : Before h₀ mg₀ mb md Mo Dm) (X : Top h₀ mg₀ c Pl [] #[] [] s.heap) (hh : A.handled = none) (hE : PassesOwn (model pw w) A (mainEnv pw c Fm) E)
    : wpAny (model pw w) A (execs (pw.main.body.drop 1) (mainEnv pw c Fm)) Q E s := by
  refine at_k (k := 1) rfl ?_
  refine Top.bindNew X (fun Q' K => Top.comp X hh B.b B.r (b_range B) Q' K) fun a1 h' tk X1 => ?_
  refine at_k (k := 2) rfl ?_
  refine Top.bindNew (s := ⟨h', s.gens, s.drawn, tk, s.os⟩) X1 (fun Q' K => Top.slice (F₁ := []) (a := a1) X1 rfl (by decide) Q' K) fun a2 h' tk X2 => ?_
  clear X1
  refine at_k (k := 3) rfl ?_
  refine Top.bindNew (s := ⟨h', s.gens, s.drawn, tk, s.os⟩) X2 (fun Q' K => Top.slice (F₁ := [_]) (a := a1) X2 rfl (by decide) Q' K) fun a3 h' tk X3 => ?_
  clear X2
  refine at_k (k := 4) rfl ?_
  refine Top.assignStr (s := ⟨h', s.gens, s.drawn, tk, s.os⟩) X3 fun t4 h' tk _ X4 => ?_
  clear X3
  refine at_k (k := 5) rfl ?_
  refine Top.assignStr (s := ⟨h', s.gens, s.drawn, tk, s.os⟩) X4 fun t5 h' tk _ X5 => ?_
  clear X4
  refine at_k (k := 6) rfl ?_
  refine Top.assignCat (s := ⟨h', s.gens, s.drawn, tk, s.os⟩) X5 (y := "ascii_lowercase") (z := "ascii_uppercase") rfl rfl (by decide) fun t6 h' tk X6 => ?_
  clear X5
  refine at_k (k := 7) rfl ?_
  refine Top.assignStr (s := ⟨h', s.gens, s.drawn, tk, s.os⟩) X6 fun t7 h' tk _ X7 => ?_
  clear X6
  refine at_k (k := 8) rfl ?_
  refine Top.assignStr (s := ⟨h', s.gens, s.drawn, tk, s.os⟩) X7 fun t8 h' tk _ X8 => ?_
  clear X7
  refine at_k (k := 9) rfl ?_
  refine Top.loop (s := ⟨h', s.gens, s.drawn, tk, s.os⟩) (F₁ := [_]) (a := a2) (bs := safeBytes) X8 rfl (by decide) (fun Q' K => Top.iter9 (s := ⟨h', s.gens, s.drawn, tk, s.os⟩) (t1 := t6) (t2 := t7) X8 rfl rfl rfl rfl Q' K) B.ch B.b (b_chr B) hh (fun v9 h' tk _ X9 => ?_) hE
  clear X8
  dsimp only [List.cons_append, List.nil_append] at X9
  refine at_k (k := 10) rfl ?_
  refine Top.blank (s := ⟨h', s.gens, s.drawn, tk, s.os⟩) (F₁ := [_]) (a := a2) X9 rfl B.o B.b (b_ord B) (fun h' tk X10 => ?_)
  clear X9
  dsimp only [List.cons_append, List.nil_append] at X10
  refine at_k (k := 11) rfl ?_
  refine Top.loop (s := ⟨h', s.gens, s.drawn, tk, s.os⟩) (F₁ := []) (a := a3) X10 rfl (by decide) (fun Q' K => Constant_bytes (K _ _)) B.ch B.b (b_chr B) hh (fun v11 h' tk _ X11 => ?_) hE
  clear X10
  dsimp only [List.cons_append, List.nil_append] at X11
  refine at_k (k := 12) rfl ?_
  refine Top.defD (s := ⟨h', s.gens, s.drawn, tk, s.os⟩) 12 X11 (fun a12 c12 T12 h' tk X12 => ?_)
  clear X11
  refine at_k (k := 13) rfl ?_
  refine Top.bindNew (s := ⟨h', s.gens, s.drawn, tk, s.os⟩) X12 (fun Q' K => Top.slice (s := ⟨h', s.gens, s.drawn, tk, s.os⟩) (F₁ := [_, _, _]) (a := a3) X12 rfl (by decide) Q' K) fun a13 h' tk X13 => ?_
  clear X12
  refine at_k (k := 14) rfl ?_
  refine Top.loop (s := ⟨h', s.gens, s.drawn, tk, s.os⟩) (F₁ := []) (a := a13) X13 rfl (by decide) (fun Q' K => Constant_bytes (K _ _)) B.ch B.b (b_chr B) hh (fun v14 h' tk h14 X14 => ?_) hE
  clear X13
  dsimp only [List.cons_append, List.nil_append] at X14
  obtain ⟨v14, rfl⟩ := Option.isSome_iff_exists.mp (h14 (by decide))
  refine at_k (k := 15) rfl ?_
  refine Top.del (s := ⟨h', s.gens, s.drawn, tk, s.os⟩) X14 rfl (fun v15 h' tk X15 => ?_)
  clear X14
  refine at_k (k := 16) rfl ?_
  refine Top.assignStr (s := ⟨h', s.gens, s.drawn, tk, s.os⟩) X15 fun t16 h' tk _ X16 => ?_
  clear X15
  refine at_k (k := 17) rfl ?_
  refine Top.sre (s := ⟨h', s.gens, s.drawn, tk, s.os⟩) X16 B.mod B.ne B.cmp B.sre ?hes17 (Nat.lt_trans (by decide) X16.main.g.lt) (fun v17 h' tk X17 => ?_)
  case hes17 => repeat (first | exact IntLits.nil | refine IntLits.cons ?_)
  clear X16
  refine at_k (k := 18) rfl ?_
  refine Top.defN (s := ⟨h', s.gens, s.drawn, tk, s.os⟩) 18 X17 (fun a18 c18 h' tk X18 => ?_)
  clear X17
  refine at_k (k := 19) rfl ?_
  refine Top.assignStr (s := ⟨h', s.gens, s.drawn, tk, s.os⟩) X18 fun t19 h' tk _ X19 => ?_
  clear X18
  refine at_k (k := 20) rfl ?_
  refine Top.bindNew (s := ⟨h', s.gens, s.drawn, tk, s.os⟩) X19 (fun Q' K => Top.dcomp (s := ⟨h', s.gens, s.drawn, tk, s.os⟩) X19 hh B.b B.ch (b_chr B) Q' K) fun a20 h' tk X20 => ?_
  clear X19
  refine at_k (k := 21) rfl ?_
  refine Top.defN (s := ⟨h', s.gens, s.drawn, tk, s.os⟩) 21 X20 (fun a21 c21 h' tk X21 => ?_)
  clear X20
  refine at_k (k := 22) rfl ?_
  refine Top.assignStr (s := ⟨h', s.gens, s.drawn, tk, s.os⟩) X21 fun t22 h' tk _ X22 => ?_
  clear X21
  refine at_k (k := 23) rfl ?_
  refine Top.defN (s := ⟨h', s.gens, s.drawn, tk, s.os⟩) 23 X22 (fun a23 c23 h' tk X23 => ?_)
  clear X22
  refine at_k (k := 24) rfl ?_
  refine Top.defN (s := ⟨h', s.gens, s.drawn, tk, s.os⟩) 24 X23 (fun a24 c24 h' tk X24 => ?_)
  clear X23
  refine at_k (k := 25) rfl ?_
  refine Top.assignStr (s := ⟨h', s.gens, s.drawn, tk, s.os⟩) X24 fun t25 h' tk _ X25 => ?_
  clear X24
  refine at_k (k := 26) rfl ?_
  refine Top.defN (s := ⟨h', s.gens, s.drawn, tk, s.os⟩) 26 X25 (fun a26 c26 h' tk X26 => ?_)
  clear X25
  refine at_k (k := 27) rfl ?_
  refine Top.defN (s := ⟨h', s.gens, s.drawn, tk, s.os⟩) 27 X26 (fun a27 c27 h' tk X27 => ?_)
  clear X26
  refine at_k (k := 28) rfl ?_
  refine Top.defN (s := ⟨h', s.gens, s.drawn, tk, s.os⟩) 28 X27 (fun a28 c28 h' tk X28 => ?_)
  clear X27
  refine at_k (k := 29) rfl ?_
  refine Top.defN (s := ⟨h', s.gens, s.drawn, tk, s.os⟩) 29 X28 (fun a29 c29 h' tk X29 => ?_)
  clear X28
  refine at_k (k := 30) rfl ?_
  refine Top.defN (s := ⟨h', s.gens, s.drawn, tk, s.os⟩) 30 X29 (fun a30 c30 h' tk X30 => ?_)
  clear X29
  refine at_k (k := 31) rfl ?_
  refine Top.defN (s := ⟨h', s.gens, s.drawn, tk, s.os⟩) 31 X30 (fun a31 c31 h' tk X31 => ?_)
  clear X30
  refine at_k (k := 32) rfl ?_
  refine Top.defN (s := ⟨h', s.gens, s.drawn, tk, s.os⟩) 32 X31 (fun a32 c32 h' tk X32 => ?_)
  clear X31
  refine at_k (k := 33) rfl ?_
  refine Top.defN (s := ⟨h', s.gens, s.drawn, tk, s.os⟩) 33 X32 (fun a33 c33 h' tk X33 => ?_)
  clear X32
  refine wpAny_execs_nil ?_
  obtain ⟨mg, hmg⟩ := named X33
  obtain ⟨hk, hk2⟩ := outs X33 (by kernel_rfl)
  rw [← hmg] at hk hk2
  have hM := X33.main
  rw [← hmg] at hM
  refine K { hdr := a12, tr := a18, esc := a21, tra := a23, join := a24, rows := a26, runs := a27, at_ := a28, takes := a29, wide := a30, end_ := a31, told := a32, law := a33, hmap := a2, smap := a20, dflt := .ref T12, mg := mg, mb := mb } h' tk ?_
  refine ⟨⟨hM.g, B.b.at fun o e => X33.old _ o e (by decide), B.nolimit.at fun o e => X33.old _ o e (by decide), B.bb, ?_, by rw [hmg]; kernel_rfl, by rw [hmg]; kernel_rfl, by rw [hmg]; kernel_rfl, by rw [hmg]; kernel_rfl, by rw [hmg]; kernel_rfl, by rw [hmg]; kernel_rfl, by rw [hmg]; kernel_rfl, by rw [hmg]; kernel_rfl, by rw [hmg]; kernel_rfl, by rw [hmg]; kernel_rfl, by rw [hmg]; kernel_rfl, by rw [hmg]; kernel_rfl, by rw [hmg]; kernel_rfl, by rw [hmg]; kernel_rfl,
    fn_of X33 (c' := c12) (by repeat (first | exact List.mem_cons_self | apply List.mem_cons_of_mem)) (by repeat (first | exact List.mem_cons_self | apply List.mem_cons_of_mem)), fn_of X33 (c' := c18) (by repeat (first | exact List.mem_cons_self | apply List.mem_cons_of_mem)) (by repeat (first | exact List.mem_cons_self | apply List.mem_cons_of_mem)), fn_of X33 (c' := c21) (by repeat (first | exact List.mem_cons_self | apply List.mem_cons_of_mem)) (by repeat (first | exact List.mem_cons_self | apply List.mem_cons_of_mem)), fn_of X33 (c' := c23) (by repeat (first | exact List.mem_cons_self | apply List.mem_cons_of_mem)) (by repeat (first | exact List.mem_cons_self | apply List.mem_cons_of_mem)), fn_of X33 (c' := c24) (by repeat (first | exact List.mem_cons_self | apply List.mem_cons_of_mem)) (by repeat (first | exact List.mem_cons_self | apply List.mem_cons_of_mem)), fn_of X33 (c' := c26) (by repeat (first | exact List.mem_cons_self | apply List.mem_cons_of_mem)) (by repeat (first | exact List.mem_cons_self | apply List.mem_cons_of_mem)), fn_of X33 (c' := c27) (by repeat (first | exact List.mem_cons_self | apply List.mem_cons_of_mem)) (by repeat (first | exact List.mem_cons_self | apply List.mem_cons_of_mem)), fn_of X33 (c' := c28) (by repeat (first | exact List.mem_cons_self | apply List.mem_cons_of_mem)) (by repeat (first | exact List.mem_cons_self | apply List.mem_cons_of_mem)), fn_of X33 (c' := c29) (by repeat (first | exact List.mem_cons_self | apply List.mem_cons_of_mem)) (by repeat (first | exact List.mem_cons_self | apply List.mem_cons_of_mem)), fn_of X33 (c' := c30) (by repeat (first | exact List.mem_cons_self | apply List.mem_cons_of_mem)) (by repeat (first | exact List.mem_cons_self | apply List.mem_cons_of_mem)), fn_of X33 (c' := c31) (by repeat (first | exact List.mem_cons_self | apply List.mem_cons_of_mem)) (by repeat (first | exact List.mem_cons_self | apply List.mem_cons_of_mem)), fn_of X33 (c' := c32) (by repeat (first | exact List.mem_cons_self | apply List.mem_cons_of_mem)) (by repeat (first | exact List.mem_cons_self | apply List.mem_cons_of_mem))⟩, X33.old, hk2, hk, ⟨_, hM.bmod⟩, get_of X33 (p := (a2, IsTab hdrTab)) (by repeat (first | exact List.mem_cons_self | apply List.mem_cons_of_mem)), get_of X33 (p := (a20, IsMap w)) (by repeat (first | exact List.mem_cons_self | apply List.mem_cons_of_mem)), ?_, by rw [hmg]; kernel_rfl, ⟨T12, rfl, get_of X33 (p := (T12, IsDf 1)) (by repeat (first | exact List.mem_cons_self | apply List.mem_cons_of_mem))⟩, ?_⟩
  · intro x hx
    refine (hk x ?_).trans (B.free x hx)
    have : ∀ x ∈ usedBuiltins, x ∉ topKeys := by decide +kernel
    exact this x hx
  · obtain ⟨o, e, q⟩ := get_of X33 (p := (a33, IsFn 33 Value.none c33)) (by repeat (first | exact List.mem_cons_self | apply List.mem_cons_of_mem))
    obtain ⟨o', e', q'⟩ := get_of X33 (p := (c33, IsRec 33 c33)) (by repeat (first | exact List.mem_cons_self | apply List.mem_cons_of_mem))
    exact ⟨c33, o, o', e, q, e', q'⟩
  · obtain ⟨o, e⟩ := B.sm
    have := (X33.facts (a20, IsMap w) (by repeat (first | exact List.mem_cons_self | apply List.mem_cons_of_mem))).2.2.2.1
    refine beq_eq_false_iff_ne.mpr ?_
    rintro rfl
    rw [e] at this
    cases this
end

end

section
noncomputable def openLook (s : Shared) := (s.heap.isNs mainGlobals && (s.heap.isNs builtinsNs && (s.heap.isNs cStatics && (s.heap.isNs 11 && (s.gens.size == 0 && (s.heap.accountedOkI (importedModules pw.main.body) && (namesBound pw s.heap && (s.heap.bmainOk && ((Str.ofString "ord" :: usedBuiltins).all (fun x => (s.heap.nsMap mainGlobals x).isNone) && (s.heap.nsMap cStatics "sys.recursionlimit").isNone && s.heap.isNs sysModules)))))))),
  s.heap.bltView, s.heap.nsMap mainGlobals "_sre", s.heap.get? 12, s.heap.nsMap 11 (Str.ofString "compile"))
noncomputable def openSeenW : World → Prop := fun w => (fencedOpening treeTable pw w 3000).map openLook = some (true, bltViewBooted, some (.ref 12), some { cls := .type "module", dict := some 11, data := .plain }, some (.builtin "_sre.compile"))
theorem open_seen : ∀ w, openSeenW w := by
  intro w
  unfold openSeenW
  kernel_rfl
structure Opened (s : Shared) : Prop where
  g : s.heap.isNs mainGlobals = true
  b : s.heap.isNs builtinsNs = true
  c : s.heap.isNs cStatics = true
  d : s.heap.isNs 11 = true
  gens : s.gens = #[]
  acc : s.heap.accountedOkI (importedModules pw.main.body) = true
  bound : namesBound pw s.heap = true
  bmain : s.heap.bmainOk = true
  free : ∀ x ∈ (Str.ofString "ord" :: usedBuiltins), s.heap.nsMap mainGlobals x = none
  lim : s.heap.nsMap cStatics "sys.recursionlimit" = none
  sm : s.heap.isNs sysModules = true
  blt : s.heap.bltView = bltViewBooted
  sre : s.heap.nsMap mainGlobals "_sre" = some (.ref 12)
  mod : s.heap.get? 12 = some { cls := .type "module", dict := some 11, data := .plain }
  cmp : s.heap.nsMap 11 (Str.ofString "compile") = some (.builtin "_sre.compile")
theorem opened_of {s : Shared} (e : openLook s = (true, bltViewBooted, some (.ref 12), some { cls := .type "module", dict := some 11, data := .plain }, some (.builtin "_sre.compile"))) : Opened s := by
  have e1 : (_ && _) = true := congrArg Prod.fst e
  simp only [Bool.and_eq_true, List.all_eq_true, Option.isNone_iff_eq_none] at e1
  obtain ⟨a1, a2, a3, a4, a5, a6, a7, a8, ⟨a9, a10⟩, a11⟩ := e1
  exact ⟨a1, a2, a3, a4, Array.eq_empty_of_size_eq_zero (beq_iff_eq.mp a5), a6, a7, a8, a9, a10, a11, congrArg (fun x => x.2.1) e, congrArg (fun x => x.2.2.1) e, congrArg (fun x => x.2.2.2.1) e, congrArg (fun x => x.2.2.2.2) e⟩
section
variable {w : World} {s₀ : Shared}
theorem Opened.before (O : Opened s₀) : Before s₀.heap (s₀.heap.nsMap mainGlobals) (s₀.heap.nsMap builtinsNs) (s₀.heap.nsMap 11) 12 11 where
  b := .of_isNs O.b
  bb := fun x hx => Heap.of_bltView O.b O.blt x hx
  r := O.free _ (by decide +kernel)
  ch := O.free _ (by decide +kernel)
  o := O.free _ (by decide +kernel)
  sre := O.sre
  mod := ⟨O.mod, .of_isNs O.d⟩
  ne := by decide
  cmp := O.cmp
  free := fun x hx => O.free x (List.mem_cons_of_mem _ hx)
  nolimit := ⟨_, .of_isNs O.c, O.lim⟩
  sm := let ⟨o, _, _, e, _⟩ := Heap.Ns.of_isNs O.sm; ⟨o, e⟩
theorem stub_wp (O : Opened s₀) : wpAny (model pw w) callerA (topStub pw).cur (fun fin s' => (∃ f, fin = .done f) ∧ (∃ f h' tk, s' = { s₀ with heap := h', toks := tk } ∧ Left w s₀.heap (s₀.heap.nsMap mainGlobals) f h')) (fun _ _ => False) s₀ := by
  have hg : s₀.heap.Ns mainGlobals (s₀.heap.nsMap mainGlobals) := .of_isNs O.g
  obtain ⟨bm, ob, b1, b2, b3, b4, b5, b6⟩ := Heap.bmainOk_spec O.bmain
  have nbm : bm ≠ mainGlobals := by
    rintro rfl
    obtain ⟨o, es, ep, e, d, _⟩ := hg
    rw [b3] at e
    cases e
    rw [b6] at d
    cases d
  show wpAny _ _ (moduleCode pw.main >>= fun code => newBodyFrame code mainNs mainNs >>= fun frame => _) _ _ _
  refine wpAny_bind (wpAny_moduleCode fun c Pl h₁ tk₁ hk₁ hc hPl hcode => ?_)
  unfold newBodyFrame
  refine wpAny_bind (wpAny_bind (wpAny_nsGet (show Heap.Ns h₁ mainGlobals _ from hg.keeps hk₁) (wpAny_alloc ?_)))
  generalize hob : ({ cls := .type "frame", slots := _ } : Obj) = ob'
  clear hob
  have hk₂ : ∀ b o, s₀.heap.get? b = some o → (h₁.push ob').get? b = some o := fun b o e => Heap.get?_push_of_some _ (hk₁ b o e)
  have newP : s₀.heap.get? Pl = none := by
    cases e : s₀.heap.get? Pl with
    | none => rfl
    | some o => exact absurd (Heap.lt_size e) (Nat.not_lt.mpr hPl)
  have X : Top s₀.heap (s₀.heap.nsMap mainGlobals) c Pl [] #[] [] (h₁.push ob') :=
    ⟨⟨hg.keeps hk₂, hcode.push _, ⟨Nat.lt_of_lt_of_le hg.lt hc, Nat.lt_of_lt_of_le hg.lt hPl⟩, ⟨bm, ob, b1, b2, nbm, (by rintro rfl; rw [newP] at b3; cases b3), hk₂ _ _ b3, b4, b5, b6⟩⟩, fun a o e _ => hk₂ a o e, newP, fun p hp => (nomatch hp), List.nodup_nil⟩
  refine wpAny_bind (wpAny_run (codeAny_body rfl rfl ?_))
  rw [show behindTheImports pw = pw.main.body.drop 1 from by kernel_rfl]
  refine wpAny_mono (chain1 (s := ⟨h₁.push ob', s₀.gens, s₀.drawn, tk₁, s₀.os⟩) (E := fun _ _ => False) (Q := fun fl s' => ∃ f h' tk, s' = { s₀ with heap := h', toks := tk } ∧ Left w s₀.heap (s₀.heap.nsMap mainGlobals) f h') (fun f h' tk L => ⟨f, h', tk, rfl, L⟩) O.before X rfl PassesOwn.never) (fun fl s' q => ?_) fun _ _ x => x.elim
  exact wpAny_pure ⟨⟨_, rfl⟩, q⟩
end

end

section
theorem runN_life_running {den : Code → Sem Fin} {prog : Program} {w : World} : ∀ {n : Nat} {s : Shared} {t : Thread} {s' : Shared} {t' : Thread}, runN den prog w n s t = .running s' t' → s'.heap.life = s.heap.life
  | 0, s, t, s', t', h => by simp only [runN, Run.running.injEq] at h; rw [h.1]
  | n + 1, s, t, s', t', h => by
    simp only [runN] at h
    cases hs : step den prog w s t with
    | go s₁ t₁ => rw [hs] at h; exact (runN_life_running h).trans (step_life den prog w s s₁ t t₁ hs)
    | halt o s₁ => rw [hs] at h; cases h

/-- what a wp says of a thread of the caller's: it comes to its last leaf -/
theorem ran_of_wp {prog : Program} {w : World} {t : Sem Fin} {s : Shared} {P : Shared → Prop} (hz : s.asleep) (hP : ∀ s', P s' → s'.gens = #[])
    (h : wpAny (model prog w) callerA t (fun fin s' => (∃ f, fin = .done f) ∧ P s') (fun _ _ => False) s) :
    ∃ n s₁ p f, schedN (denote table) prog w n (.single s ⟨t, .builtin "claim.caller" {}, default, []⟩) = .running (.single s₁ ⟨.pure (.done f), .builtin "claim.caller" {}, p, []⟩) ∧ P s₁ ∧ s₁.heap.life = s.heap.life := by
  have h1 := h ⟨.builtin "claim.caller" {}, none, none, [], none⟩ default caller_in
  obtain ⟨n, s', σ, p', leaf, hr, hf, hl⟩ := wp_reaches (M := model prog w) (c := .builtin "claim.caller" {}) h1
  have h2 : wpAny (model prog w) callerA t (fun fin s' => ∃ f, fin = .done f ∧ (True ∧ leftWithCleanup s'.gens = false)) (fun _ s' => True ∧ leftWithCleanup s'.gens = false) s :=
    wpAny_mono h (fun fin s' ⟨⟨f, e⟩, x⟩ => ⟨f, e, trivial, leftWithCleanup_false_of_bare (by rw [hP _ x]; intro g hg; simp at hg)⟩) fun _ _ x => x.elim
  obtain ⟨k, r, sk, hk, _⟩ := (wp_iff_halts (M := model prog w) t (fun _ _ => True) default s).mp (wp_of_wpAny_done (R := fun _ s' => True ∧ leftWithCleanup s'.gens = false) caller_in h2 default)
  obtain ⟨sk', hk1, _, hc⟩ := runNI_real (model prog w).den prog w hk (outcomeOf_ends r)
  have hne : ∀ j s₂, runN (model prog w).den prog w j s ⟨t, .builtin "claim.caller" {}, default, []⟩ ≠ .halted (.unsupported "lifetime:generator-with-cleanup-left-suspended") s₂ := by
    intro j s₂ hj
    have a := runN_mono (model prog w).den prog w k j s _ _ sk' hk1
    have b := runN_mono (model prog w).den prog w j k s _ _ s₂ hj
    rw [Nat.add_comm, b] at a
    injection a with a1 _
    have := outcomeOf_ends r
    rw [← a1] at this
    exact absurd this (by simp [Outcome.ends])
  rcases hl with ⟨a, rfl, ⟨f, rfl⟩, x⟩ | ⟨e, _, x⟩
  · have e := Shared.eq_of_forget_eq hf (hP _ x)
    subst e
    exact ⟨n, σ, p', f, (schedN_eq_runN (model prog w).den prog w s _ hz ⟨hc, hne⟩ n).trans (congrArg Run.lift hr), x, runN_life_running hr⟩
  · exact x.elim

end

section
noncomputable def defParts : Option Stmt → Option (Arguments × List Stmt × Scope)
  | some (Stmt.FunctionDef _ a b _ _ _ s _ _ _) => some (a, b, s)
  | _ => none
noncomputable def defHead : Option Stmt → Str × List Expr × List Arg × List (Option Expr)
  | some (Stmt.FunctionDef n a _ _ _ _ _ _ _ _) => (n, a.defaults, a.kwonlyargs, a.kw_defaults)
  | _ => ("", [], [], [])
theorem isNs_of {h : Heap} {a : Addr} {m : Str → Option Value} (hn : h.Ns a m) : h.isNs a = true := by
  obtain ⟨o, es, ep, e, d, k, _⟩ := hn
  unfold Heap.isNs
  rw [e]
  dsimp only
  rw [d]
  dsimp only
  rw [Array.all_eq_true]
  intro i hi
  obtain ⟨x, t, q⟩ := k es[i] (Array.getElem_mem hi)
  rw [q]
structure Law0 (w : World) (f : Fns) (h : Heap) : Prop where
  gd : Gd f h
  hmap : ∃ o, h.get? f.hmap = some o ∧ IsTab hdrTab o
  smap : ∃ o, h.get? f.smap = some o ∧ IsMap w o
  n_law : f.mg "law" = some (.ref f.law)
  f_law : FnAt h f.law 33 .none
  dfl : ∃ T, f.dflt = .ref T ∧ ∃ o, h.get? T = some o ∧ IsDf 1 o
  smap_ne : (f.smap == sysModules) = false
theorem Law0.keeps {w : World} {f : Fns} {h h' : Heap} (L : Law0 w f h) (hk : ∀ b o, h.get? b = some o → h'.get? b = some o) : Law0 w f h' :=
  ⟨L.gd.keeps hk, let ⟨o, e, q⟩ := L.hmap; ⟨o, hk _ _ e, q⟩, let ⟨o, e, q⟩ := L.smap; ⟨o, hk _ _ e, q⟩, L.n_law, L.f_law.keeps hk, let ⟨T, a, o, e, q⟩ := L.dfl; ⟨T, a, o, hk _ _ e, q⟩, L.smap_ne⟩
theorem Left.law0 {w : World} {h₀ h : Heap} {mg₀ : Str → Option Value} {f : Fns} (L : Left w h₀ mg₀ f h) : Law0 w f h :=
  ⟨L.gd, L.hmap, L.smap, L.n_law, let ⟨_, _, _, a, b, c, d⟩ := L.lawd; fnAt_of a b c d, L.dfl, L.smap_ne⟩
noncomputable def LawCall : Prop := ∀ (w : World) (s : Shared) (f : Fns) (l : Addr) (vs : List Value) (ns : List Int), Law0 w f s.heap → s.gens = #[] → s.heap.IsList l vs.toArray → IntsAre vs ns → ns.length ≤ 63 →
  ∀ Q : Value → Shared → Prop, (∀ h' tk, (∀ b o, s.heap.get? b = some o → h'.get? b = some o) → Q (.bool true) { s with heap := h', toks := tk }) → wpAny (model pw w) callerA (call (.ref f.law) [.ref l]) Q (fun _ _ => False) s

section
open PySem.W
variable {w : World} {s₀ s₁ : Shared}
theorem law_pinned {h : Heap} {f : Fns} (hg : ∀ n, globalOf h n = f.mg n) (n_law : f.mg "law" = some (.ref f.law)) {c' : Addr} {o : Obj} (ho : h.get? f.law = some o) (hf : IsFn 33 .none c' o) : isTheDefsW pw h "law" := by
  obtain ⟨name, params, body, scope, pos, doc, pm, e, rfl⟩ := hf
  have e1 : pw.theDef "law" = defParts (pw.main.body[33]?) := by kernel_rfl
  have e2 : defHead (pw.main.body[33]?) = (Str.ofString "law", [], [], []) := by kernel_rfl
  rw [e] at e1 e2
  obtain ⟨e3, e4⟩ := Prod.mk.inj (show (name, params.defaults, params.kwonlyargs, params.kw_defaults) = (Str.ofString "law", [], [], []) from e2)
  obtain ⟨e5, e6⟩ := Prod.mk.inj e4
  obtain ⟨e7, e8⟩ := Prod.mk.inj e6
  replace e1 : pw.theDef "law" = some (params, body, scope) := e1
  subst e3
  refine ⟨f.law, _, _, params, body, scope, (hg _).trans n_law, ho, rfl, e1, rfl, rfl, rfl, rfl, rfl, rfl, rfl, rfl, .inl ⟨e5, rfl⟩, [], ?_, .inl ⟨rfl, rfl⟩⟩
  rw [e7, e8]
  rfl
theorem top_ran (O : Opened s₀) (hz : s₀.asleep) : ∃ s₁ f, TopRan pw w s₀ s₁ ∧ s₁.asleep ∧ s₁.gens = #[] ∧ s₁.heap.isNs mainGlobals = true ∧ (∀ n, globalOf s₁.heap n = f.mg n) ∧ Left w s₀.heap (s₀.heap.nsMap mainGlobals) f s₁.heap := by
  obtain ⟨n, s₁, p, fl, hrun, ⟨f, h', tk, rfl, L⟩, hlife⟩ := ran_of_wp (P := fun s' => ∃ f h' tk, s' = { s₀ with heap := h', toks := tk } ∧ Left w s₀.heap (s₀.heap.nsMap mainGlobals) f h') hz
    (fun s' ⟨_, _, _, e, _⟩ => by rw [e]; exact O.gens) (stub_wp O)
  have hgl : ∀ n, globalOf h' n = f.mg n := fun n => Claim2Try.globalOf_of_ns L.gd.g n
  have hgl0 : ∀ n, globalOf s₀.heap n = s₀.heap.nsMap mainGlobals n := fun n => Pin.globalOf_eq O.g n
  have hst : ∀ key, staticOf h' key = staticOf s₀.heap key := by
    intro key
    obtain ⟨o, es, ep, ho, _⟩ := Heap.Ns.of_isNs O.c
    have := L.old _ _ ho (by decide)
    unfold staticOf
    rw [ho, this]
  have hbl : ∀ key, builtinOf h' key = builtinOf s₀.heap key := by
    intro key
    obtain ⟨o, es, ep, ho, _⟩ := Heap.Ns.of_isNs O.b
    have := L.old _ _ ho (by decide)
    unfold builtinOf
    rw [ho, this]
  have bnames : ∀ x ∈ topKeys, x ∈ pw.boundNames := by decide +kernel
  have lnames : ∀ x ∈ laidNames, x ∉ topKeys := by decide +kernel
  refine ⟨_, f, ⟨⟨n, _, hrun, rfl⟩, hlife, rfl, ?_, ?_, ?_, Pin.keysAreStrs_of_ns L.gd.g, ?_, ?_, ?_, ?_, ?_⟩, Shared.asleep_of_life hlife hz, O.gens, ?_, hgl, L⟩
  · exact fun b o hb hn => L.old b o hb fun e => hn (.inl e)
  · have A := Heap.accountedI_of_ok O.acc
    intro key v hv
    have := A key v ((hst key).symm.trans hv)
    simp only [hst]
    exact this
  · exact fun key => .inl (hst key)
  · exact fun x hx => (hbl x).trans ((Pin.builtinOf_eq O.b x).trans (Heap.of_bltView O.b O.blt x hx))
  · obtain ⟨Pl, bm, o, b1, b2, b3, b4, b5, b6, b7, b8⟩ := L.bmod
    exact ⟨bm, o, (hgl _).trans b1, b5, b6, b7⟩
  · intro g hg
    rw [show ({ s₀ with heap := h', toks := tk } : Shared).gens = #[] from O.gens] at hg
    simp at hg
  · intro x v hx
    rcases L.keys x v ((hgl x).symm.trans hx) with q | q
    · exact .inr (bnames x q)
    · exact names_of_bound O.bound x v ((hgl0 x).trans q)
  · intro x hx
    exact (hgl x).trans ((L.out x (lnames x hx)).trans (hgl0 x).symm)
  · exact isNs_of L.gd.g
end

end

section
theorem gm_translate {M : Model} {A : Around} {E : Value → Shared → Prop} {s : Shared} {x : Str} {t : Tok} {pl : Sem Bool} {Q : Value × List Value → Shared → Prop} (h : Q (.builtin "str.translate", [.str x t]) s) :
    wpAny M A (getMethod (.str x t) "translate" pl) Q E s :=
  getMethod_builtin (typeIs_str _ _ _) F.plainAttrs_str F.slot_str_translate F.type_str_translate (fun _ e => nomatch e) h

end

section
noncomputable def Stop (P : Prop) : Prop := P
noncomputable def WEnd (h₀ : Heap) (L : Addr) (s : Shared) (J : Nat → (Str → Option Value) → List (Addr × Obj) → Prop) (n : Nat) (s₂ : Shared) : Prop :=
  ∃ n' h' tk' m' news', n' < n ∧ s₂ = { s with heap := h', toks := tk' } ∧ Fr h₀ L h' m' ∧ News h₀ L h' news' ∧ J n' m' news'
noncomputable def WStep (h₀ : Heap) (L : Addr) (s : Shared) (J : Nat → (Str → Option Value) → List (Addr × Obj) → Prop) (Q : Flow → Shared → Prop) (n : Nat) (f : Flow) (s₂ : Shared) : Prop := match f with
  | .ret v => Q (.ret v) s₂
  | .brk => Q .next s₂
  | _ => WEnd h₀ L s J n s₂
section
variable {prog : Program} {w : World} {A : Around} {E : Value → Shared → Prop} {Q : Flow → Shared → Prop} {s : Shared} {env : Env} {h₀ : Heap} {L : Addr}
theorem loop_while {test : Expr} {body : List Stmt} {pos : Pos} {m : Str → Option Value} {news : List (Addr × Obj)} (J : Nat → (Str → Option Value) → List (Addr × Obj) → Prop) {n₀ : Nat}
    (F : Fr h₀ L s.heap m) (N : News h₀ L s.heap news) (hJ : J n₀ m news)
    (turn : ∀ n m₁ news₁ h₁ tk₁, J n m₁ news₁ → Fr h₀ L h₁ m₁ → News h₀ L h₁ news₁ →
      wpAny (model prog w) A (isTrue test env (eval test env)) (fun b s₂ =>
        if b = true then wpAny (model prog w) A (execs body env) (WStep h₀ L s J Q n) E s₂ else Q .next s₂) E { s with heap := h₁, toks := tk₁ })
    (hE : PassesOwn (model prog w) A env E := by passes_own) :
    wpAny (model prog w) A (exec (.While test body [] pos) env) Q E s := by
  refine wpAny_While (codeAny_whileLoop (fun n s' => ∃ h₁ tk₁ m₁ news₁, s' = { s with heap := h₁, toks := tk₁ } ∧ Fr h₀ L h₁ m₁ ∧ News h₀ L h₁ news₁ ∧ J n m₁ news₁) ?_ n₀ ⟨s.heap, s.toks, m, news, rfl, F, N, hJ⟩)
  rintro n s' ⟨h₁, tk₁, m₁, news₁, rfl, F₁, N₁, J₁⟩
  refine wpAny_mono (turn n m₁ news₁ h₁ tk₁ J₁ F₁ N₁) (fun b s₂ h₂ => ?_) hE
  cases b with
  | false =>
    simp only [Bool.false_eq_true, if_false] at h₂ ⊢
    exact wpAny_execs_nil h₂
  | true =>
    simp only [if_true] at h₂ ⊢
    refine wpAny_mono h₂ (fun f s₃ h₃ => ?_) hE
    cases f with
    | next =>
      obtain ⟨n', h', tk, m₂, news₂, hn, rfl, F₂, N₂, J₂⟩ := h₃
      exact ⟨n', hn, h', tk, m₂, news₂, rfl, F₂, N₂, J₂⟩
    | cont =>
      obtain ⟨n', h', tk, m₂, news₂, hn, rfl, F₂, N₂, J₂⟩ := h₃
      exact ⟨n', hn, h', tk, m₂, news₂, rfl, F₂, N₂, J₂⟩
    | brk => exact h₃
    | ret v => exact h₃
theorem WEnd.intro {J : Nat → (Str → Option Value) → List (Addr × Obj) → Prop} {n n' tk' : Nat} {h' : Heap} {m' : Str → Option Value} {news' all : List (Addr × Obj)} (hn : n' < n) (F : Fr h₀ L h' m') (N : News h₀ L h' all)
    (sub : ∀ p ∈ news', p ∈ all) (j : J n' m' news') : WEnd h₀ L s J n { s with heap := h', toks := tk' } := ⟨n', h', tk', m', news', hn, rfl, F, fun p hp => N p (sub p hp), j⟩
theorem WEnd.same {J : Nat → (Str → Option Value) → List (Addr × Obj) → Prop} {n n' tk' : Nat} {h' : Heap} {m' : Str → Option Value} {news' : List (Addr × Obj)} (F : Fr h₀ L h' m') (N : News h₀ L h' news') (hn : n' < n)
    (j : J n' m' news') : WEnd h₀ L s J n { s with heap := h', toks := tk' } := ⟨n', h', tk', m', news', hn, rfl, F, N, j⟩
noncomputable def XQ (h₀ : Heap) (L : Addr) (s : Shared) (X : (Str → Option Value) → List (Addr × Obj) → Prop) (Q : Flow → Shared → Prop) (f : Flow) (s₂ : Shared) : Prop := match f with
  | .next => ∃ m news h' tk, s₂ = { s with heap := h', toks := tk } ∧ Fr h₀ L h' m ∧ News h₀ L h' news ∧ X m news
  | f => Q f s₂
theorem XQ.intro {X : (Str → Option Value) → List (Addr × Obj) → Prop} {m : Str → Option Value} {news : List (Addr × Obj)} {h' : Heap} {tk : Nat} (F : Fr h₀ L h' m) (N : News h₀ L h' news) (x : X m news) : XQ h₀ L s X Q .next { s with heap := h', toks := tk } :=
  ⟨m, news, h', tk, rfl, F, N, x⟩
/-- a while, and what holds behind it said once -/
theorem loop_whileX {test : Expr} {body : List Stmt} {pos : Pos} {m : Str → Option Value} {news : List (Addr × Obj)} (J : Nat → (Str → Option Value) → List (Addr × Obj) → Prop) (X : (Str → Option Value) → List (Addr × Obj) → Prop) {n₀ : Nat}
    (F : Fr h₀ L s.heap m) (N : News h₀ L s.heap news) (hJ : J n₀ m news)
    (turn : ∀ n m₁ news₁ h₁ tk₁, J n m₁ news₁ → Fr h₀ L h₁ m₁ → News h₀ L h₁ news₁ →
      wpAny (model prog w) A (isTrue test env (eval test env)) (fun b s₂ =>
        if b = true then wpAny (model prog w) A (execs body env) (WStep h₀ L s J (XQ h₀ L s X Q) n) E s₂ else XQ h₀ L s X Q .next s₂) E { s with heap := h₁, toks := tk₁ })
    (rest : ∀ m₁ news₁ h₁ tk₁, X m₁ news₁ → Fr h₀ L h₁ m₁ → News h₀ L h₁ news₁ → Q .next { s with heap := h₁, toks := tk₁ })
    (hE : PassesOwn (model prog w) A env E := by passes_own) :
    wpAny (model prog w) A (exec (.While test body [] pos) env) Q E s := by
  refine wpAny_mono (loop_while (Q := XQ h₀ L s X Q) J F N hJ turn hE) (fun fl s' q => ?_) fun _ _ e => e
  cases fl with
  | next =>
    obtain ⟨m₁, news₁, h₁, tk₁, rfl, F₁, N₁, x⟩ := q
    exact rest m₁ news₁ h₁ tk₁ x F₁ N₁
  | cont => exact q
  | brk => exact q
  | ret v => exact q
end

end

section
noncomputable def BndOf (B D : Addr) : Prop := B ≠ D
section
variable {M : Model} {A : Around} {E : Value → Shared → Prop} {s : Shared} {pos : Pos} {Q : Value → Shared → Prop}
theorem keeps_B {B D : Addr} (h : Heap) (x : h.get? B = some (bndObj D)) : ∃ kp, (kp = Keeper.frame ∨ kp = Keeper.machine ∨ kp = Keeper.boundFrame) ∧ Looks M h (keeperOf (.ref B)) kp :=
  ⟨.machine, .inr (.inl rfl), (Looks.ld (part := none) x).andThen .now⟩
theorem callWith_B {env : Env} {B D : Addr} {first : List Value} {e : Expr} {rest : List Expr} (_x : BndOf B D) (h : wpAny M A (spliced (backTo pos (starEach (e :: rest) env))) (fun vs s₁ => s₁.heap.get? B = some (bndObj D) ∧ wpAny M A (call (.ref B) (first ++ vs)) Q E s₁) E s)
    (he : starEach (e :: rest) env = (false, eval e env) :: starEach rest env := by rfl) (hplain : (backTo pos (starEach rest env)).any (·.1) = false := by rfl) :
    wpAny M A (callWith pos (.ref B) first (backTo pos (starEach (e :: rest) env)) []) Q E s := by
  rw [he] at h ⊢
  exact callWith_of (P := fun h => h.get? B = some (bndObj D)) (by show ((false || (backTo pos (starEach rest env)).any (·.1)) || false) = false; rw [hplain]; rfl) keeps_B (evalArgs_plain h)
end
section
variable {prog : Program} {w : World} {A : Around} {E : Value → Shared → Prop} {s : Shared} {h₀ : Heap} {L : Addr} {m : Str → Option Value} {news : List (Addr × Obj)} {Q : Value → Shared → Prop}
theorem r_getAttr {l : Addr} {xs : Array Value} {n : Nat} (F : Fr h₀ L s.heap m) (N : News h₀ L s.heap news) (hm : (l, listOf xs n) ∈ news)
    (h : ∀ B h' tk, Fr h₀ L h' m → News h₀ L h' ((B, bndObj l) :: news) → BndOf B l → (∀ p ∈ news, p.1 ≠ B) → Q (.ref B) { s with heap := h', toks := tk }) :
    wpAny (model prog w) A (getAttr (.ref l) "append" true) Q E s := by
  refine getAttr_append (N.get hm) fun tk => h _ _ _ (F.push _) (News.push F N _ rfl) ?_ fun p hp => Nat.ne_of_lt (Heap.lt_size (N p hp).1)
  exact Nat.ne_of_gt (Heap.lt_size (N.get hm))
theorem r_bnd {B D : Addr} {its : List Value} {n : Nat} {x : Value} {rest : List (Addr × Obj)} (F : Fr h₀ L s.heap m) (N : News h₀ L s.heap ((D, listOf its.toArray n) :: (B, bndObj D) :: rest)) (hBD : BndOf B D) (hap : ∀ p ∈ rest, p.1 ≠ D)
    (h : ∀ h', Fr h₀ L h' m → News h₀ L h' ((D, listOf (its ++ [x]).toArray (n + 1)) :: (B, bndObj D) :: rest) → Q .none { s with heap := h' }) (hsz : its.length ≤ 100000) :
    wpAny (model prog w) A (call (.ref B) [x]) Q E s := by
  refine call_bnd (N.get (.tail _ (.head _))) (N.get (.head _)) (fun h' hs ho' => ?_) (by rw [sizeLine_eq]; simp; lia)
  refine h h' (F.change hs (N _ (.head _)).2.1 (N _ (.head _)).2.2) ?_
  have e : its.toArray.push x = (its ++ [x]).toArray := by simp
  rw [← e]
  refine N.setHead (fun p hp => ?_) hs ho'
  rcases List.mem_cons.mp hp with rfl | hp
  · exact hBD
  · exact hap p hp
end

end

section
noncomputable def PartsAre (S : Addr) : List Value → List (Option (List Nat)) → Prop
  | [], [] => True
  | v :: vs, p :: ps => (match p with | none => v = .ref S | some x => ∃ t, v = .str ⟨x.toArray⟩ t) ∧ PartsAre S vs ps
  | _, _ => False
theorem PartsAre.length {S : Addr} : ∀ {vs : List Value} {ps : List (Option (List Nat))}, PartsAre S vs ps → vs.length = ps.length
  | [], [], _ => rfl
  | _ :: _, _ :: _, h => by simp [PartsAre.length h.2]
  | [], _ :: _, h => h.elim
  | _ :: _, [], h => h.elim
theorem PartsAre.snoc {S : Addr} {v : Value} {p : Option (List Nat)} (hv : match p with | none => v = .ref S | some x => ∃ t, v = .str ⟨x.toArray⟩ t) : ∀ {vs : List Value} {ps : List (Option (List Nat))}, PartsAre S vs ps → PartsAre S (vs ++ [v]) (ps ++ [p])
  | [], [], _ => ⟨hv, trivial⟩
  | _ :: _, _ :: _, h => ⟨h.1, PartsAre.snoc hv h.2⟩
  | [], _ :: _, h => h.elim
  | _ :: _, [], h => h.elim
theorem PartsAre.get {S : Addr} : ∀ {vs : List Value} {ps : List (Option (List Nat))}, PartsAre S vs ps → ∀ {i : Nat} {p : Option (List Nat)}, ps[i]? = some p → ∃ v, vs[i]? = some v ∧ (match p with | none => v = .ref S | some x => ∃ t, v = .str ⟨x.toArray⟩ t)
  | [], [], _, i, p, e => by simp at e
  | v :: _, _ :: _, h, 0, p, e => by cases e; exact ⟨v, rfl, h.1⟩
  | _ :: _, _ :: _, h, i + 1, p, e => by
    obtain ⟨v, a, b⟩ := PartsAre.get h.2 (i := i) (by simpa using e)
    exact ⟨v, by simpa using a, b⟩
  | [], _ :: _, h, _, _, _ => h.elim
  | _ :: _, [], h, _, _, _ => h.elim
noncomputable def endsStar (ps : List (Option (List Nat))) : Bool := ps.getLast? == some none
theorem endsStar_snoc (ps : List (Option (List Nat))) (p : Option (List Nat)) : endsStar (ps ++ [p]) = (p == none) := by
  simp only [endsStar, List.getLast?_append, List.getLast?_singleton]
  cases p <;> rfl
/-- the state of _translate between the turns -/
noncomputable def TraAt (S : Addr) (codes : List Nat) (i : Nat) (vs : List Value) : Prop := ∃ done, PartsAre S vs done ∧ done ++ trs (endsStar done) (codes.drop i) = trs false codes
theorem TraAt.start {S : Addr} {codes : List Nat} : TraAt S codes 0 [] := ⟨[], trivial, rfl⟩
theorem drop_at {codes : List Nat} {i : Nat} (h : i < codes.length) : codes.drop i = codes.getD i 0 :: codes.drop (i + 1) := by
  rw [List.drop_eq_getElem_cons h, List.getD_eq_getElem?_getD, List.getElem?_eq_getElem h]; rfl
theorem TraAt.skip {S : Addr} {codes : List Nat} {i : Nat} {vs : List Value} (x : TraAt S codes i vs) (h : i < codes.length) (hc : codes.getD i 0 = 42) (hl : vs ≠ []) (he : vs.getLast? = some (.ref S)) : TraAt S codes (i + 1) vs := by
  obtain ⟨done, p, e⟩ := x
  refine ⟨done, p, ?_⟩
  rw [drop_at h, hc] at e
  have hs : endsStar done = true := by
    have hlen := p.length
    have : vs.getLast? = vs[vs.length - 1]? := List.getLast?_eq_getElem?
    rw [this] at he
    have hv : vs.length ≠ 0 := fun q => hl (List.length_eq_zero_iff.mp q)
    obtain ⟨q, hq⟩ : ∃ q, done[done.length - 1]? = some q := ⟨_, List.getElem?_eq_getElem (by omega)⟩
    obtain ⟨v, hv1, hv2⟩ := p.get hq
    rw [← hlen, he] at hv1
    cases hv1
    cases q with
    | none =>
      have : done.getLast? = some none := by rw [List.getLast?_eq_getElem?, hq]
      simp [endsStar, this]
    | some x => obtain ⟨t, ht⟩ := hv2; cases ht
  rw [hs] at e ⊢
  simpa [trs] using e
theorem TraAt.star {S : Addr} {codes : List Nat} {i : Nat} {vs : List Value} (x : TraAt S codes i vs) (h : i < codes.length) (hc : codes.getD i 0 = 42) (he : vs.getLast? ≠ some (.ref S)) : TraAt S codes (i + 1) (vs ++ [.ref S]) := by
  obtain ⟨done, p, e⟩ := x
  refine ⟨done ++ [none], p.snoc (p := none) rfl, ?_⟩
  rw [drop_at h, hc] at e
  have hs : endsStar done = false := by
    cases q : endsStar done with
    | false => rfl
    | true =>
      exfalso
      have q' : done.getLast? = some none := by simpa [endsStar] using q
      rw [List.getLast?_eq_getElem?] at q'
      obtain ⟨v, hv1, hv2⟩ := p.get q'
      apply he
      rw [List.getLast?_eq_getElem?, p.length, hv1, hv2]
  rw [hs] at e
  rw [endsStar_snoc]
  rw [← e]
  simp [trs]
theorem TraAt.put {S : Addr} {codes : List Nat} {i : Nat} {vs : List Value} {y : List Nat} {t : Tok} (x : TraAt S codes i vs) (h : i < codes.length) (hc : codes.getD i 0 ≠ 42) (hy : y = if codes.getD i 0 = 63 then [46] else esc (codes.getD i 0)) :
    TraAt S codes (i + 1) (vs ++ [.str ⟨y.toArray⟩ t]) := by
  obtain ⟨done, p, e⟩ := x
  refine ⟨done ++ [some y], p.snoc (p := some y) ⟨t, rfl⟩, ?_⟩
  rw [drop_at h] at e
  rw [endsStar_snoc]
  rw [← e, hy]
  generalize codes.getD i 0 = c at hc
  simp [trs, hc]
theorem TraAt.done {S : Addr} {codes : List Nat} {i : Nat} {vs : List Value} (x : TraAt S codes i vs) (h : codes.length ≤ i) : PartsAre S vs (trs false codes) := by
  obtain ⟨done, p, e⟩ := x
  rw [List.drop_eq_nil_of_le h] at e
  simp only [trs, List.append_nil] at e
  rwa [e] at p
theorem TraAt.last {S : Addr} {codes : List Nat} {i : Nat} {vs : List Value} {v : Value} (x : TraAt S codes i vs) (e : vs.getLast? = some v) : v = .ref S ∨ ∃ y t, v = .str y t := by
  obtain ⟨done, p, _⟩ := x
  rw [List.getLast?_eq_getElem?, p.length] at e
  have hlt : done.length - 1 < done.length := by
    rcases Nat.eq_zero_or_pos done.length with q | q
    · have : vs.length = 0 := by rw [p.length, q]
      rw [List.length_eq_zero_iff.mp this] at e
      simp at e
    · omega
  obtain ⟨v', a, b⟩ := p.get (List.getElem?_eq_getElem hlt)
  rw [e] at a
  cases a
  cases q : done[done.length - 1] with
  | none => rw [q] at b; exact .inl b
  | some y => rw [q] at b; obtain ⟨t, b⟩ := b; exact .inr ⟨_, t, b⟩
theorem one_eq {c d : Nat} {X Y : Str} (hX : X = ⟨#[c]⟩) (hY : Y = ⟨#[d]⟩) : (X == Y) = decide (c = d) := by
  subst hX hY
  rw [Bool.eq_iff_iff]
  simp

end

section
noncomputable def RunObjs {α : Type} (P : List Value → α → Prop) : List (Addr × Obj) → List Value → List α → Prop
  | [], [], [] => True
  | p :: os, v :: vs, r :: rs => v = .ref p.1 ∧ (∃ us k, p.2 = listOf us.toArray k ∧ P us r) ∧ RunObjs P os vs rs
  | _, _, _ => False
theorem RunObjs.snoc {α : Type} {P : List Value → α → Prop} {a : Addr} {us : List Value} {k : Nat} {r : α} (h : P us r) : ∀ {os : List (Addr × Obj)} {vs : List Value} {rs : List α}, RunObjs P os vs rs → RunObjs P (os ++ [(a, listOf us.toArray k)]) (vs ++ [.ref a]) (rs ++ [r])
  | [], [], [], _ => ⟨rfl, ⟨us, k, rfl, h⟩, trivial⟩
  | _ :: _, _ :: _, _ :: _, x => ⟨x.1, x.2.1, RunObjs.snoc h x.2.2⟩
  | [], [], _ :: _, x => x.elim
  | [], _ :: _, _, x => x.elim
  | _ :: _, [], _, x => x.elim
  | _ :: _, _ :: _, [], x => x.elim
theorem RunObjs.length {α : Type} {P : List Value → α → Prop} : ∀ {os : List (Addr × Obj)} {vs : List Value} {rs : List α}, RunObjs P os vs rs → os.length = rs.length ∧ vs.length = rs.length
  | [], [], [], _ => ⟨rfl, rfl⟩
  | _ :: _, _ :: _, _ :: _, x => by have := RunObjs.length x.2.2; simp [this.1, this.2]
  | [], [], _ :: _, x => x.elim
  | [], _ :: _, _, x => x.elim
  | _ :: _, [], _, x => x.elim
  | _ :: _, _ :: _, [], x => x.elim
theorem RunObjs.get {α : Type} {P : List Value → α → Prop} : ∀ {os : List (Addr × Obj)} {vs : List Value} {rs : List α}, RunObjs P os vs rs → ∀ {i : Nat} {r : α}, rs[i]? = some r → ∃ a us k, vs[i]? = some (.ref a) ∧ (a, listOf us.toArray k) ∈ os ∧ P us r
  | [], [], [], _, i, r, e => by simp at e
  | p :: _, _ :: _, _ :: _, x, 0, r, e => by
    obtain ⟨h1, ⟨us, k, h2, h3⟩, _⟩ := x
    cases e
    exact ⟨p.1, us, k, by rw [h1]; rfl, by rw [← h2]; exact List.mem_cons_self, h3⟩
  | _ :: _, _ :: _, _ :: _, x, i + 1, r, e => by
    obtain ⟨a, us, k, h1, h2, h3⟩ := RunObjs.get x.2.2 (i := i) (by simpa using e)
    exact ⟨a, us, k, by simpa using h1, List.mem_cons_of_mem _ h2, h3⟩
  | [], [], _ :: _, x, _, _, _ => x.elim
  | [], _ :: _, _, x, _, _, _ => x.elim
  | _ :: _, [], _, x, _, _, _ => x.elim
  | _ :: _, _ :: _, [], x, _, _, _ => x.elim
theorem SymsAre.snoc {c : Option Nat} {t : Tok} : ∀ {vs : List Value} {xs : List (Option Nat)}, SymsAre vs xs → SymsAre (vs ++ [.str (symStr c) t]) (xs ++ [c])
  | [], [], _ => ⟨⟨t, rfl⟩, trivial⟩
  | _ :: _, _ :: _, h => ⟨h.1, SymsAre.snoc h.2⟩
  | [], _ :: _, h => h.elim
  | _ :: _, [], h => h.elim
section
variable {prog : Program} {w : World} {A : Around} {E : Value → Shared → Prop} {s : Shared} {h₀ : Heap} {L : Addr} {m : Str → Option Value} {news : List (Addr × Obj)} {Q : Value → Shared → Prop}
/-- an append to a list of the ledger; the others are named anew -/
theorem r_append {D : Addr} {its : List Value} {n : Nat} {x : Value} (others : List (Addr × Obj)) (F : Fr h₀ L s.heap m) (N : News h₀ L s.heap news) (hm : (D, listOf its.toArray n) ∈ news) (hsub : ∀ p ∈ others, p ∈ news ∧ p.1 ≠ D)
    (h : ∀ h', Fr h₀ L h' m → News h₀ L h' ((D, listOf (its ++ [x]).toArray (n + 1)) :: others) → Q .none { s with heap := h' }) (hsz : its.length ≤ 100000) :
    wpAny (model prog w) A (call (.builtin "list.append") [.ref D, x]) Q E s := by
  refine append_at (N.get hm) (fun h' hs ho' => h h' (F.change hs (N _ hm).2.1 (N _ hm).2.2) fun p hp => ?_) (by rw [sizeLine_eq]; simp; lia)
  rcases List.mem_cons.mp hp with rfl | hp
  · have e : its.toArray.push x = (its ++ [x]).toArray := by simp
    exact ⟨by rw [← e]; exact ho', (N _ hm).2⟩
  · obtain ⟨h1, h2⟩ := hsub p hp
    exact ⟨(hs.2 _ h2).trans (N p h1).1, (N p h1).2⟩
end
theorem prs_more {n : Nat} {rest : List Nat} {held : Bool} {done : List (List (Option Nat))} {cur : List (Option Nat)} (h : 3 < rest.length) : prs (n + 1) rest held done cur =
    if rest.take 6 = [40, 63, 62, 46, 42, 63] ∧ held = false then prs n (rest.drop 6) true (done ++ [cur]) []
    else if held = true ∧ (rest.take 3 = [41, 46, 42] ∨ rest.take 4 = [41, 40, 63, 62]) then prs n (rest.drop 1) false done cur
    else if rest.take 2 = [46, 42] ∧ held = false then prs n (rest.drop 2) held (done ++ [cur]) []
    else if rest.headD 0 ∈ stops then []
    else if rest.headD 0 = 92 then prs n (rest.drop 2) held done (cur ++ [some (rest.getD 1 0)])
    else prs n (rest.drop 1) held done (cur ++ [if rest.headD 0 = 46 then none else some (rest.headD 0)]) := by
  rw [prs, if_neg (by lia)]
theorem prs_end {n : Nat} {rest : List Nat} {held : Bool} {done : List (List (Option Nat))} {cur : List (Option Nat)} (hn : 0 < n) (h : rest.length ≤ 3) : prs n rest held done cur = if held then [] else done ++ [cur] := by
  obtain ⟨k, rfl⟩ : ∃ k, n = k + 1 := ⟨n - 1, by lia⟩
  rw [prs, if_pos h]
open PySem.Builtin PySem.Builtin.Str in
theorem slice_hi {l : Option Int} {b len : Nat} (h : len ≤ b) : strSliceIndices l (some (b : Int)) 1 len = strSliceIndices l (some (len : Int)) 1 len := by
  have a : ¬ ((len : Int) < 0) := by lia
  have c : ¬ ((b : Int) < 0) := by lia
  have e : min (b : Int) (len : Int) = (len : Int) := by lia
  simp [strSliceIndices, a, c, e]
theorem slice_run (T : Str) {a k : Nat} (ha : a ≤ T.cps.toList.length) : Txt.slice T (some (a : Int)) (some ((a : Int) + (k : Int))) = ⟨((T.cps.toList.drop a).take k).toArray⟩ := by
  have hl : T.cps.toList.length = T.length := by simp [PySem.Str.length]
  show StrLaws.sliceText T _ _ = _
  rcases Nat.lt_or_ge T.length (a + k) with q | q
  · have e : StrLaws.sliceText T (some (a : Int)) (some ((a : Int) + (k : Int))) = StrLaws.sliceText T (some (a : Int)) (some (T.length : Int)) := by
      unfold StrLaws.sliceText
      rw [show ((a : Int) + (k : Int)) = ((a + k : Nat) : Int) from by lia, slice_hi (by lia)]
    rw [e, StrLaws.sliceText_nat T (by lia) (Nat.le_refl _)]
    congr 2
    rw [List.take_of_length_le (by rw [List.length_drop]; lia), List.take_of_length_le (by rw [List.length_drop]; lia)]
  · rw [show ((a : Int) + (k : Int)) = ((a + k : Nat) : Int) from by lia, StrLaws.sliceText_nat T (by lia) q]
    congr 3
    lia
theorem slice_is (T : Str) {a k : Nat} {z : Int} {lit : List Nat} {Y : Str} (ha : a ≤ T.cps.toList.length) (hz : z = (a : Int) + (k : Int)) (hY : Y = ⟨lit.toArray⟩) : (Txt.slice T (some (a : Int)) (some z) == Y) = decide ((T.cps.toList.drop a).take k = lit) := by
  subst hz hY
  rw [slice_run T ha, Bool.eq_iff_iff]
  simp
theorem allLt_ne {d : Addr} : ∀ {l : List (Addr × Obj)}, AllLt d l → ∀ p ∈ l, p.1 ≠ d
  | [], _, p, hp => nomatch hp
  | q :: r, h, p, hp => by
    rcases List.mem_cons.mp hp with rfl | hp
    · exact Nat.ne_of_lt h.1
    · exact allLt_ne h.2 p hp
theorem heads {rest : List Nat} {k : Nat} {x : Nat} {l : List Nat} (h : rest.take (k + 1) = x :: l) : rest.headD 0 = x := by
  cases rest with
  | nil => simp at h
  | cons a r => simp at h; exact h.1
theorem headD_drop {l : List Nat} {i : Nat} (h : i < l.length) : (l.drop i).headD 0 = l.getD i 0 := by
  rw [List.drop_eq_getElem_cons h, List.getD_eq_getElem?_getD, List.getElem?_eq_getElem h]; rfl
theorem getD_drop {l : List Nat} {i k : Nat} : (l.drop i).getD k 0 = l.getD (i + k) 0 := by
  simp [List.getD_eq_getElem?_getD]
theorem mem_swap {α : Type} {a b p : α} {l : List α} (h : p ∈ a :: b :: l) : p ∈ b :: a :: l := by
  simp only [List.mem_cons] at h ⊢
  rcases h with h | h | h
  · exact .inr (.inl h)
  · exact .inl h
  · exact .inr (.inr h)
theorem runs_other {R0 C : Addr} {o1 : Obj} {o2 : Obj} {objs : List (Addr × Obj)} (hRC : R0 ≠ C) (hoff : ∀ p ∈ objs, p.1 ≠ R0 ∧ p.1 ≠ C) : ∀ p ∈ (R0, o1) :: objs, p ∈ (R0, o1) :: (C, o2) :: objs ∧ p.1 ≠ C := by
  intro p hp
  rcases List.mem_cons.mp hp with rfl | hp
  · exact ⟨List.mem_cons_self, hRC⟩
  · exact ⟨List.mem_cons_of_mem _ (List.mem_cons_of_mem _ hp), (hoff p hp).2⟩
theorem runs_push {R0 C D : Addr} {o1 o2 o3 : Obj} {objs : List (Addr × Obj)} (hD : R0 < D) (hRC : R0 ≠ C) (hoff : ∀ p ∈ objs, p.1 ≠ R0 ∧ p.1 ≠ C) : ∀ p ∈ (D, o3) :: (objs ++ [(C, o2)]), p ∈ (D, o3) :: (R0, o1) :: (C, o2) :: objs ∧ p.1 ≠ R0 := by
  intro p hp
  rcases List.mem_cons.mp hp with rfl | hp
  · exact ⟨List.mem_cons_self, Nat.ne_of_gt hD⟩
  · rcases List.mem_append.mp hp with hp | hp
    · exact ⟨by simp [hp], (hoff p hp).1⟩
    · obtain rfl := List.mem_singleton.mp hp
      exact ⟨by simp, Ne.symm hRC⟩
theorem runs_off {R0 C D : Addr} {o2 : Obj} {objs : List (Addr × Obj)} (hRC : R0 ≠ C) (hCD : C < D) (hoD : AllLt D objs) (hoff : ∀ p ∈ objs, p.1 ≠ R0 ∧ p.1 ≠ C) : ∀ p ∈ objs ++ [(C, o2)], p.1 ≠ R0 ∧ p.1 ≠ D := by
  intro p hp
  rcases List.mem_append.mp hp with hp | hp
  · exact ⟨(hoff p hp).1, allLt_ne hoD p hp⟩
  · obtain rfl := List.mem_singleton.mp hp
    exact ⟨Ne.symm hRC, Nat.ne_of_lt hCD⟩
theorem lia1 {n a k l : Nat} (h : n + a = l) (hk : a + k ≤ l) : n - k + (a + k) = l := by lia
theorem lia2 {n a k l : Nat} (h : n + a = l) (hk : a + k ≤ l) (hp : 0 < k) : n - k < n := by lia
theorem lia3 {l : List Nat} {a k f : Nat} {rest : List Nat} (hr : l.drop a = rest) (hf : rest.length + 1 ≤ f + 1) (hk : k ≤ rest.length) (hp : 0 < k) : (l.drop (a + k)).length + 1 ≤ f := by
  rw [← List.drop_drop, hr, List.length_drop]; lia
theorem news_swap {h₀ h : Heap} {L : Addr} {a b : Addr × Obj} {l : List (Addr × Obj)} (N : News h₀ L h (a :: b :: l)) : News h₀ L h (b :: a :: l) := fun p hp => N p (mem_swap hp)

end

section
noncomputable def RunsOff (R0 C : Addr) (objs : List (Addr × Obj)) : Prop := R0 ≠ C ∧ ∀ p ∈ objs, p.1 ≠ R0 ∧ p.1 ≠ C
section
variable {prog : Program} {w : World} {A : Around} {E : Value → Shared → Prop} {s : Shared} {h₀ : Heap} {L : Addr} {m : Str → Option Value} {Q : Value → Shared → Prop}
theorem r_curApp {R0 C : Addr} {o1 : Obj} {cvs : List Value} {cn : Nat} {x : Value} {objs : List (Addr × Obj)} (hM : RunsOff R0 C objs) (F : Fr h₀ L s.heap m) (N : News h₀ L s.heap ((R0, o1) :: (C, listOf cvs.toArray cn) :: objs))
    (h : ∀ h', Fr h₀ L h' m → News h₀ L h' ((R0, o1) :: (C, listOf (cvs ++ [x]).toArray (cn + 1)) :: objs) → Q .none { s with heap := h' }) (hsz : cvs.length ≤ 100000) :
    wpAny (model prog w) A (call (.builtin "list.append") [.ref C, x]) Q E s :=
  r_append ((R0, o1) :: objs) F N (List.mem_cons_of_mem _ List.mem_cons_self) (runs_other hM.1 hM.2) (fun h' F' N' => h h' F' (news_swap N')) hsz
theorem r_runPush {R0 C D : Addr} {rvs : List Value} {rn : Nat} {o2 : Obj} {objs : List (Addr × Obj)} (hM : RunsOff R0 C objs) (hD : R0 < D ∧ C < D ∧ AllLt D objs) (F : Fr h₀ L s.heap m)
    (N : News h₀ L s.heap ((D, listOf #[] 0) :: (R0, listOf rvs.toArray rn) :: (C, o2) :: objs))
    (h : ∀ h', Fr h₀ L h' m → News h₀ L h' ((R0, listOf (rvs ++ [Value.ref D]).toArray (rn + 1)) :: (D, listOf #[] 0) :: (objs ++ [(C, o2)])) → RunsOff R0 D (objs ++ [(C, o2)]) → Q .none { s with heap := h' }) (hsz : rvs.length ≤ 100000) :
    wpAny (model prog w) A (call (.builtin "list.append") [Value.ref R0, Value.ref D]) Q E s :=
  r_append ((D, listOf #[] 0) :: (objs ++ [(C, o2)])) F N (List.mem_cons_of_mem _ List.mem_cons_self) (runs_push hD.1 hM.1 hM.2) (fun h' F' N' => h h' F' N' ⟨Nat.ne_of_lt hD.1, runs_off hM.1 hD.2.1 hD.2.2 hM.2⟩) hsz
end

end

section
noncomputable def ChMark : Prop := True
noncomputable def whileBody : Stmt → List Stmt
  | .While _ b _ _ => b
  | _ => []
noncomputable def ifElse : Stmt → List Stmt
  | .If _ _ o _ => o
  | _ => []
noncomputable def hdS (l : List Stmt) : Stmt := l.headD (.Pass ⟨0, 0, 0, 0⟩)
noncomputable def defBody : Option Stmt → List Stmt
  | some (.FunctionDef _ _ b _ _ _ _ _ _ _) => b
  | _ => []
noncomputable def defScope : Option Stmt → Scope
  | some (.FunctionDef _ _ _ _ _ _ sc _ _ _) => sc
  | _ => { kind := .function, names := [], isGenerator := false, isCoroutine := false, more := [] }
noncomputable def runsChars : Stmt := hdS (ifElse (hdS (ifElse (hdS (ifElse (hdS (whileBody (hdS ((defBody (pw.main.body[27]?)).drop 4)))))))))
noncomputable def runsScope : Scope := defScope (pw.main.body[27]?)

end

section
noncomputable def NoBr (x : Str) (i : Int) : Prop := (Txt.item x i == Str.ofString "[") = false
theorem NoBr.absurd {x : Str} {i : Int} (h : NoBr x i) (e : (Txt.item x i == Str.ofString "[") = true) : False := by
  rw [NoBr] at h
  rw [h] at e
  cases e
section
variable {prog : Program} {w : World} {A : Around} {E : Value → Shared → Prop} {s : Shared} {l : Addr} {vs : List Value} {u : Tok}
theorem r_last {value slice : Expr} {v : Value} {Q : Value → Shared → Prop} (hl : s.heap.IsList l vs.toArray) (hf : vs.length ≤ 100000) (hx : vs.getLast? = some v) (h : Q v s)
    (hs : subscripted slice false (.ref l) (.int (-1) u) = operate [.ref l, .int (-1) u] (getItem (.ref l) (.int (-1) u)) := by with_unfolding_all rfl) :
    wpAny (model prog w) A (subscriptTail value slice (.ref l) (.int (-1) u)) Q E s := by
  have hne : vs.length ≠ 0 := by
    intro q
    rw [List.length_eq_zero_iff.mp q] at hx
    cases hx
  refine tail_any hl.typeIs slot_list_getitem.lookup (wpAny_getItem_list_neg hl (by decide) (by simp; lia) (by decide) ?_ h) hs
  rw [List.getLast?_eq_getElem?] at hx
  have : ((-1 : Int) + (vs.toArray.size : Int)).toNat = vs.length - 1 := by simp; lia
  rw [this]
  simpa using hx
end
/-- what a call leaves to a walk: the frame and the ledger -/
theorem back_frame {s : Shared} {h₀ : Heap} {L : Addr} {m : Str → Option Value} {news : List (Addr × Obj)} {Q : Value → Shared → Prop} {E : Value → Shared → Prop} {P : Heap → Value → Prop} (F : Fr h₀ L s.heap m) (N : News h₀ L s.heap news)
    (h : ∀ v h' tk, Fr h₀ L h' m → News h₀ L h' news → (∀ b o, s.heap.get? b = some o → h'.get? b = some o) → P h' v → Q v { s with heap := h', toks := tk }) :
    Back s (fun r s' => match r with | .ok (.ret v) => Q v s' | .ok _ => False | .error e => E e s') P :=
  fun v h' tk hk hp => h v h' tk (F.keeps hk) (N.grown hk) hk hp

end

section
section
variable {prog : Program} {w : World} {M : Model} {A : Around} {E : Value → Shared → Prop} {s : Shared} {h₀ : Heap} {L a : Addr} {m : Str → Option Value} {cn : Str} {cs : Scope} {ccd : Value} {cl : List (Str × Addr)} {f : Fns}
  {x : Str} {pos : Pos} {v : Value} {Q : Value → Shared → Prop} {news : List (Addr × Obj)} {c : Addr} {o : Obj} {env : Env}
theorem nmL (hk : cs.kind = .function) (hx : (envX cn cs L a ccd cl).kindOf x = some .local) (F : Fr h₀ L s.heap m) (hv : m x = some v) (h : Q v s) (hd : (x == ("__debug__" : Str)) = false := by decide) : wpAny M A (eval (.Name x pos) (envX cn cs L a ccd cl)) Q E s := nameX_L F hv h hk hx hd
theorem nmC (hk : cs.kind = .function) (hx : (envX cn cs L a ccd cl).kindOf x = some .cell) (hc : cl.lookup x = some c) (N : News h₀ L s.heap news) (hm : (c, o) ∈ news) (hd : o.data = .cell (some v)) (h : Q v s) (hb : (x == ("__debug__" : Str)) = false := by decide) :
    wpAny M A (eval (.Name x pos) (envX cn cs L a ccd cl)) Q E s := nameX_C N hc hm hd h hk hx hb
theorem nmG (hk : cs.kind = .function) (hx : (envX cn cs L a ccd cl).kindOf x = some .globalImplicit) (F : Fr h₀ L s.heap m) (G : Gd f h₀) (e : f.mg x = some v) (h : Q v s) (hd : (x == ("__debug__" : Str)) = false := by decide) :
    wpAny M A (eval (.Name x pos) (envX cn cs L a ccd cl)) Q E s := nameG F G.g e h hk hx hd
theorem nmB (hk : cs.kind = .function) (hx : (envX cn cs L a ccd cl).kindOf x = some .globalImplicit) (F : Fr h₀ L s.heap m) (G : Gd f h₀) (e : x ∈ usedBuiltins) (hv : bootBuiltins x = some v) (hn : x ≠ "__name__") (h : Q v s) (hd : (x == ("__debug__" : Str)) = false := by decide) :
    wpAny M A (eval (.Name x pos) (envX cn cs L a ccd cl)) Q E s := nameGB F G.g G.b (G.free _ e) G.bb hv hn h hk hx hd
theorem isl_keep {l : Addr} {its : Array Value} (F : Fr h₀ L s.heap m) (hl : h₀.IsList l its) : s.heap.IsList l its := isList_keeps F.keep hl
theorem andF {h h' : Heap} {k : Nat} {dV : Value} {P : Prop} (F : Fr h L h' m) (x : FnAt h a k dV) (p : P) : FnAt h' a k dV ∧ P := ⟨FnAt.keeps F.keep x, p⟩
theorem andB {h h' : Heap} {B D : Addr} {P : Prop} (N : News h L h' news) (hm : (B, bndObj D) ∈ news) (p : P) : h'.get? B = some (bndObj D) ∧ P := ⟨N.get hm, p⟩
theorem ldL {Q : Value → Shared → Prop} (hk : env.scope.kind = .function) (hx : env.kindOf x = some .local) (F : Fr h₀ env.locals s.heap m) (hv : m x = some v) (h : Q v s) : wpAny M A (loadName env x) Q E s := wpAny_loadName_local hk hx F.ns hv h
theorem isNotS {t : Tok} (h : Q (.bool true) s) : wpAny M A (compareOp .IsNot (.str x t) (.ref a)) Q E s := wpAny_isNot_other (by rfl) (by intro x; cases x) h
theorem isS {t : Tok} (h : Q (.bool false) s) : wpAny M A (compareOp .Is (.str x t) (.ref a)) Q E s := wpAny_is_other (by rfl) (by intro x; cases x) h
theorem jNo {y : Str} {i : Int} {p q : Pos} {e : Expr} {r : List Stmt} {Q : Flow → Shared → Prop} (h : NoBr y i) (d : (Txt.item y i == Str.ofString "[") = true) : wpAny M A (execs (Stmt.Assign [Expr.Name (Str.ofString "j") p] e q :: r) env) Q E s := (NoBr.absurd h d).elim
theorem bndA {B D : Addr} {its : List Value} {n : Nat} {y : Value} (F : Fr h₀ L s.heap m) (N : News h₀ L s.heap [(D, listOf its.toArray n), (B, bndObj D)]) (hBD : BndOf B D)
    (hsz : its.length ≤ 100000) (h : ∀ h', Fr h₀ L h' m → News h₀ L h' [(D, listOf (its ++ [y]).toArray (n + 1)), (B, bndObj D)] → Q .none { s with heap := h' }) :
    wpAny (model prog w) A (call (.ref B) [y]) Q E s := r_bnd F N hBD (fun p hp => (nomatch hp)) h hsz
theorem lastA {l : Addr} {vs : List Value} {u : Tok} {value slice : Expr} (N : News h₀ L s.heap news) {n : Nat} (hm : (l, listOf (vs ++ [v]).toArray n) ∈ news) (hf : vs.length + 1 ≤ 100000) (h : Q v s)
    (hs : subscripted slice false (.ref l) (.int (-1) u) = operate [.ref l, .int (-1) u] (getItem (.ref l) (.int (-1) u)) := by with_unfolding_all rfl) :
    wpAny (model prog w) A (subscriptTail value slice (.ref l) (.int (-1) u)) Q E s := r_last (News.isList N hm) (by rw [List.length_append, List.length_singleton]; exact hf) List.getLast?_concat h hs
theorem pushA {R0 C D : Addr} {rvs : List Value} {y : Value} {rn : Nat} {o2 : Obj} {objs : List (Addr × Obj)} (hM : RunsOff R0 C objs) (hD : R0 < D ∧ C < D ∧ AllLt D objs) (F : Fr h₀ L s.heap m)
    (N : News h₀ L s.heap ((D, listOf #[] 0) :: (R0, listOf (rvs ++ [y]).toArray rn) :: (C, o2) :: objs)) (hsz : rvs.length + 1 ≤ 100000)
    (h : ∀ h', Fr h₀ L h' m → News h₀ L h' ((R0, listOf ((rvs ++ [y]) ++ [Value.ref D]).toArray (rn + 1)) :: (D, listOf #[] 0) :: (objs ++ [(C, o2)])) → RunsOff R0 D (objs ++ [(C, o2)]) → Q .none { s with heap := h' }) :
    wpAny (model prog w) A (call (.builtin "list.append") [Value.ref R0, Value.ref D]) Q E s := r_runPush hM hD F N h (by rw [List.length_append, List.length_singleton]; exact hsz)
end
section
variable {M : Model} {A : Around} {E : Value → Shared → Prop} {s : Shared} {env : Env} {Q : Flow → Shared → Prop} {V : Value → Shared → Prop}
theorem sFor {a b c d e} (h : wpAny M A (exec (.For a b c d e) env) Q E s) : wpAny M A (exec (.For a b c d e) env) Q E s := h
theorem sWhile {a b c d} (h : wpAny M A (exec (.While a b c d) env) Q E s) : wpAny M A (exec (.While a b c d) env) Q E s := h
theorem sIter {a} (h : wpAny M A (pyIter a) V E s) : wpAny M A (pyIter a) V E s := h
theorem sSlice {a b c d e f g} (h : wpAny M A (subscriptTail a (.Slice b c d e) (.ref f) g) V E s) : wpAny M A (subscriptTail a (.Slice b c d e) (.ref f) g) V E s := h
theorem sCmp {a b c} (h : wpAny M A (compareOp a (.ref b) (.ref c)) V E s) : wpAny M A (compareOp a (.ref b) (.ref c)) V E s := h
theorem sBytes {a b c d e} (h : wpAny M A (subscriptTail a b (.bytes c d) e) V E s) : wpAny M A (subscriptTail a b (.bytes c d) e) V E s := h
theorem sIn {a b c d e g} (_ : ChMark) (h : wpAny M A (exec (.If (.Compare a [.In] b c) d e g) env) Q E s) : wpAny M A (exec (.If (.Compare a [.In] b c) d e g) env) Q E s := h
theorem sRet {R f} (h : RetQ R f s) : RetQ R f s := h
theorem sStep {a b c d e f g} (h : WStep a b c d e f g s) : WStep a b c d e f g s := h
theorem sStop {P} (h : Stop P) : Stop P := h
theorem sXQ {a b c d e f} (h : XQ a b c d e f s) : XQ a b c d e f s := h
theorem sPost {a b c d e f g i} (h : UnrPost a b c d e f g i s) : UnrPost a b c d e f g i s := h
theorem sEnd {a b c d e f} (h : UnrEnd a b c d e f s) : UnrEnd a b c d e f s := h
end

end

section
/-- the runs stand in a heap -/
noncomputable def RunsHere {α : Type} (P : List Value → α → Prop) (h : Heap) (vr : List Value) (gs : List α) : Prop := vr.length = gs.length ∧ ∀ (i : Nat) (r : α), gs[i]? = some r → ∃ (a : Addr) (us : List Value), vr[i]? = some (Value.ref a) ∧ h.IsList a us.toArray ∧ P us r
theorem RunsHere.keeps {α : Type} {P : List Value → α → Prop} {h h' : Heap} {vr : List Value} {gs : List α} (x : RunsHere P h vr gs) (hk : ∀ b o, h.get? b = some o → h'.get? b = some o) : RunsHere P h' vr gs :=
  ⟨x.1, fun i r e => let ⟨a, us, h1, h2, h3⟩ := x.2 i r e; ⟨a, us, h1, isList_keeps hk h2, h3⟩⟩
theorem RunObjs.here {α : Type} {P : List Value → α → Prop} {h : Heap} {os : List (Addr × Obj)} {vs : List Value} {rs : List α} (x : RunObjs P os vs rs) (ho : ∀ p ∈ os, h.get? p.1 = some p.2) : RunsHere P h vs rs :=
  ⟨x.length.2, fun i r e => let ⟨a, us, k, h1, h2, h3⟩ := x.get e; ⟨a, us, h1, ⟨_, ho _ h2, rfl, k, rfl⟩, h3⟩⟩
theorem pick_mid {vs : List Value} : (slicePick vs.toArray (some 1) (some (-1)) none).toList = (vs.drop 1).dropLast := by
  rw [kms_pick_eq]
  simp only [kms_pick, kms_lo, kms_hi]
  rw [List.dropLast_eq_take, List.length_drop]
  cases vs with
  | nil => simp
  | cons v vs => simp
theorem findAt_more {run : List (Option Nat)} {name : List Nat} {f a : Nat} (h : a + run.length ≤ name.length) (hf : runAt run name a = false) : findAt run name (f + 1) a = findAt run name f (a + 1) := by
  rw [findAt, if_pos ⟨h, hf⟩]
theorem findAt_stop {run : List (Option Nat)} {name : List Nat} {f a : Nat} (h : ¬ (a + run.length ≤ name.length ∧ runAt run name a = false)) : findAt run name f a = a := by
  cases f with
  | zero => rfl
  | succ f => rw [findAt, if_neg h]
theorem findAt_le {run : List (Option Nat)} {name : List Nat} : ∀ {f a : Nat}, findAt run name f a ≤ max a (name.length + 1)
  | 0, a => by simp only [findAt]; omega
  | f + 1, a => by
    rw [findAt]
    split
    · have := @findAt_le run name f (a + 1)
      omega
    · omega
theorem mid_get {vs : List Value} {i : Nat} {v : Value} (h : ((vs.drop 1).dropLast)[i]? = some v) : vs[i + 1]? = some v ∧ i + 2 < vs.length := by
  have hi : i < ((vs.drop 1).dropLast).length := by
    rcases Nat.lt_or_ge i ((vs.drop 1).dropLast).length with q | q
    · exact q
    · rw [List.getElem?_eq_none q] at h; cases h
  rw [List.length_dropLast, List.length_drop] at hi
  rw [List.getElem?_dropLast, List.getElem?_drop] at h
  split at h
  · refine ⟨by rw [Nat.add_comm]; exact h, by omega⟩
  · cases h
theorem takes_fold_succ {rest : List (List (Option Nat))} {i : Nat} {r : List (Option Nat)} {a0 : Nat} {nm : List Nat} (h : rest[i]? = some r) (hi : i + 1 < rest.length) :
    (rest.dropLast.take (i + 1)).foldl (fun a r => findAt r nm (nm.length + 1) a + r.length) a0 = findAt r nm (nm.length + 1) ((rest.dropLast.take i).foldl (fun a r => findAt r nm (nm.length + 1) a + r.length) a0) + r.length := by
  have hd : i < rest.dropLast.length := by simp; omega
  rw [List.take_succ_eq_append_getElem hd, List.foldl_append]
  have : rest.dropLast[i] = r := by
    rw [List.getElem_dropLast]
    rw [List.getElem?_eq_getElem (by omega)] at h
    exact Option.some.inj h
  rw [this]
  rfl
theorem fold_bound {nm : List Nat} : ∀ (l : List (List (Option Nat))) (a0 : Nat), l.foldl (fun a r => findAt r nm (nm.length + 1) a + r.length) a0 ≤ max a0 (nm.length + 1) + (l.map (·.length)).sum
  | [], a0 => by simp; omega
  | r :: l, a0 => by
    rw [List.foldl_cons, List.map_cons, List.sum_cons]
    have h1 := @findAt_le r nm (nm.length + 1) a0
    have h2 := fold_bound (nm := nm) l (findAt r nm (nm.length + 1) a0 + r.length)
    omega
theorem sum_take {α : Type} (f : α → Nat) : ∀ (l : List α) (k : Nat), ((l.take k).map f).sum ≤ (l.map f).sum
  | [], k => by simp
  | a :: l, 0 => by simp
  | a :: l, k + 1 => by
    rw [List.take_succ_cons, List.map_cons, List.map_cons, List.sum_cons, List.sum_cons]
    exact Nat.add_le_add_left (sum_take f l k) _
theorem le_sum {α : Type} (f : α → Nat) : ∀ {l : List α} {i : Nat} {r : α}, l[i]? = some r → f r ≤ (l.map f).sum
  | [], _, _, e => by simp at e
  | a :: l, 0, _, e => by cases e; simp
  | a :: l, i + 1, r, e => by
    have := le_sum f (l := l) (i := i) (r := r) (by simpa using e)
    rw [List.map_cons, List.sum_cons]
    omega
theorem at_bound {rest : List (List (Option Nat))} {nm : List Nat} {g i : Nat} (hs : g + (rest.map (·.length)).sum ≤ 400) (hn : nm.length ≤ 400) : (rest.dropLast.take i).foldl (fun a r => findAt r nm (nm.length + 1) a + r.length) g ≤ 850 := by
  have h1 := fold_bound (nm := nm) (rest.dropLast.take i) g
  have h2 := sum_take (fun r : List (Option Nat) => r.length) rest.dropLast i
  have h3 := sum_take (fun r : List (Option Nat) => r.length) rest (rest.length - 1)
  rw [← List.dropLast_eq_take] at h3
  have e : ∀ l : List (List (Option Nat)), (l.map (·.length)).sum = (l.map (fun r => r.length)).sum := fun _ => rfl
  omega

end

section
open PyProof.Rows in
theorem enterC {prog : Program} {w : World} {A : Around} {s : Shared} {R : Result → Shared → Prop} {k : Nat} {name : Str} {params : Arguments} {body : List Stmt} {ds ret tps} {scope : Scope} {tscope bind pos} {dV : Value} {f : Addr} {args : List Value} (binds : List (Str × Value))
    {cn : Str} {cv : Value} {mm : Str → Option Value}
    (hlit : pw.main.body[k]? = some (.FunctionDef name params body ds ret tps scope tscope bind pos)) (hf : FnAt s.heap f k dV) (hlim : s.heap.NoLimit) (hroom : A.depth < recursionLimit)
    (hbind : ∀ doc pm an cdv ct, bindArgs (fnX name name params body scope [] dV .none doc pm an cdv ct) ⟨args, []⟩ = pure binds)
    (hkind : ∀ n, ∀ x ∈ binds, scope.names.lookup x.1 = some .local ∨ (scope.names.lookup x.1 = some .cell ∧ ((cellsFrom n scope.names []).lookup x.1).isSome = true))
    (hnd : ((cellsFrom 0 scope.names []).map (·.1)).Nodup)
    (hcf : ∀ n, cellsFrom n scope.names [] = [(cn, n)])
    (hmm : ∀ (L : Addr) (cdv : Value), bindL (envX name scope L f cdv (cellsFrom (L + 1) scope.names [])).kindOf binds (fun _ => none) = mm)
    (hcv : ∀ (L : Addr) (cdv : Value), bindC (envX name scope L f cdv (cellsFrom (L + 1) scope.names [])).kindOf binds (fun _ => none) cn = some cv)
    (h : ∀ L h₁ tk cdv oc, Fr s.heap L h₁ mm → News s.heap L h₁ [(L + 1, oc)] → oc.data = .cell (some cv) →
      wpAny (model prog w) (A.deeper (envX name scope L f cdv [(cn, L + 1)])) (execs body (envX name scope L f cdv [(cn, L + 1)])) (RetQ R) (fun _ _ => False) { s with heap := h₁, toks := tk })
    (hco : scope.isCoroutine = false) (hgen : scope.isGenerator = false) (hk : scope.kind = .function) : codeAny (model prog w) A (.call (.ref f) ⟨args, []⟩) R s := by
  obtain ⟨name', params', body', ds', ret', tps', scope', tscope', bind', pos', oc, od, osl, kV, doc, pm, an, cdv, ct, h1, h2, h3, h4⟩ := hf
  rw [hlit] at h1
  cases h1
  subst h4
  refine codeAny_call_cells (fd := fnX name name params body scope [] dV .none doc pm an cdv ct) hroom h2 rfl hlim h3 rfl (hbind _ _ _ _ _) rfl (hkind _) (fun s₁ X => ?_) hco hgen hk
  obtain ⟨h₁, tk, rfl, _⟩ := X.done
  have hcell := X.cell cn (s.heap.objs.size + 1) (by show (cellsFrom (s.heap.objs.size + 1) scope.names []).lookup cn = _; rw [hcf]; simp)
  have hab := X.above cn (s.heap.objs.size + 1) (by show (_ : Str × Addr) ∈ cellsFrom (s.heap.objs.size + 1) scope.names []; rw [hcf]; exact List.mem_singleton.mpr rfl)
  obtain ⟨o, ho, hd⟩ := hcell
  have hd' : o.data = .cell (some cv) := hd.trans (congrArg Data.cell (hcv s.heap.objs.size cdv))
  have z := h s.heap.objs.size h₁ tk cdv o (by
      refine ⟨?_, X.toInCall.keep, X.toInCall.fresh⟩
      have := X.toInCall.ns
      rw [← hmm s.heap.objs.size cdv]
      exact this) (fun p hp => by
      rw [List.mem_singleton.mp hp]
      exact ⟨ho, Nat.ne_of_gt hab, Heap.get?_none_of_le (Nat.le_succ _)⟩) hd'
  have e : callEnvC (fnX name name params body scope [] dV .none doc pm an cdv ct) s.heap.objs.size f = envX name scope s.heap.objs.size f cdv [(cn, s.heap.objs.size + 1)] := by
    show envX name scope s.heap.objs.size f cdv (cellsFrom (s.heap.objs.size + 1) scope.names []) = _
    rw [hcf]
  rw [e]
  exact wpAny_mono z (fun _ _ x => x) (fun _ _ x => x.elim)

section
variable {prog : Program} {w : World} {A : Around} {E : Value → Shared → Prop} {s : Shared} {env : Env} {h₀ : Heap} {x : Str} {body : List Stmt} {Q : Flow → Shared → Prop}
/-- a for over a list of the base's -/
theorem loop_base {ax : Addr} {vs : List Value} {m₀ : Str → Option Value} {news : List (Addr × Obj)} (J : Nat → (Str → Option Value) → List (Addr × Obj) → Prop)
    (hh : A.handled = none) (F : Fr h₀ env.locals s.heap m₀) (N : News h₀ env.locals s.heap news) (hl₀ : h₀.IsList ax vs.toArray) (hJ : J 0 m₀ news)
    (turn : ∀ i v m₁ news₁ h tk I it, vs[i]? = some v → J i m₁ news₁ → it.cls = .type "list_iterator" → (∀ p ∈ news₁, p.1 ≠ I) → Fr h₀ env.locals h (fun y => if y = x then some v else m₁ y) → News h₀ env.locals h ((I, it) :: news₁) →
      wpAny (model prog w) A (execs body env) (UnrPost h₀ env.locals { s with heap := h, toks := tk } I it (J (i + 1)) Q) E { s with heap := h, toks := tk })
    (done : ∀ m₁ news₁ h tk, J vs.length m₁ news₁ → Fr h₀ env.locals h m₁ → News h₀ env.locals h news₁ → Q .next { s with heap := h, toks := tk }) :
    wpAny (model prog w) A (pyIter (.ref ax)) (fun it s₂ => LoopAtV prog w A h₀ env x body Q E it s₂) E s := by
  have hl := isList_keeps F.keep hl₀
  have hax₀ : ∃ o, h₀.get? ax = some o := let ⟨o, e, _⟩ := hl₀; ⟨o, e⟩
  have hlt₀ : ax < h₀.objs.size := let ⟨o, e⟩ := hax₀; Heap.lt_size e
  have hlt : ax < s.heap.objs.size := let ⟨o, e, _⟩ := hl; Heap.lt_size e
  have hne : ax ≠ s.heap.objs.size := Nat.ne_of_lt hlt
  refine wpAny_pyIter_list hl ?_
  have W := Walks.list (prog := prog) (w := w) hh s.heap.objs.size ax hne vs.toArray
  have hnew := next_is_new F
  have hlen : vs.toArray.size = vs.length := by simp
  rw [hlen] at W
  refine ⟨_, _, _, vs.length, _, _, m₀, news, J, rfl, W, ?_, ?_, ?_, ⟨⟨_, Heap.get?_push_size _ rfl, rfl, rfl⟩, hl.at fun o e => Heap.get?_push_of_some _ e⟩, F.push _, (fun p hp => ⟨Heap.get?_push_of_some _ (N p hp).1, (N p hp).2⟩), hJ, ?_, ?_⟩
  · intro hmm
    rcases List.mem_cons.mp hmm with e | hmm
    · exact absurd F.ns.lt (e ▸ Nat.lt_irrefl _)
    · have : env.locals = ax := List.mem_singleton.mp hmm
      exact absurd (Nat.lt_of_lt_of_le hlt₀ F.above) (this ▸ Nat.lt_irrefl _)
  · intro b hb
    rw [List.mem_singleton.mp hb]
    exact hnew
  · intro p hp hI
    exact absurd (Heap.lt_size (N p hp).1) ((List.mem_singleton.mp hI) ▸ Nat.lt_irrefl _)
  · rintro i v m₁ news₁ s₁ own ⟨hh', tk', rfl⟩ hin hP hJ₁ hoff hown hget hall hst F₁ N₁
    obtain ⟨it, hit, hic, hid⟩ := hst.1
    have hmemI := hall s.heap.objs.size (List.mem_cons_self ..) hnew _ hit
    have N₂ : News h₀ env.locals hh' ((s.heap.objs.size, it) :: news₁) := fun p hp => by
      rcases List.mem_cons.mp hp with rfl | hp
      · exact N₁ _ (List.mem_append_left _ hmemI)
      · exact N₁ _ (List.mem_append_right _ hp)
    refine wpAny_mono (turn i v m₁ news₁ hh' tk' _ it (by simpa using hP) hJ₁ hic (fun p hp e => hoff p hp (List.mem_singleton.mpr e)) F₁ N₂) (fun f s₂ p => ?_) fun _ _ e => e
    have fin : UnrEnd h₀ env.locals { s with heap := hh', toks := tk' } s.heap.objs.size it (J (i + 1)) s₂ →
        LoopStepU h₀ env.locals [s.heap.objs.size] own (J (i + 1)) { s with heap := hh', toks := tk' } .next s₂ := by
      rintro ⟨h', tk, m', news', e, F', N', ho, r⟩
      refine ⟨rfl, h', tk, m', news', e, F', fun p hp => ?_, fun p hp hI => ho p hp (List.mem_singleton.mp hI), r⟩
      rcases List.mem_append.mp hp with hp | hp
      · have h2 : hh'.get? p.1 = some p.2 := hget p hp
        rcases List.mem_cons.mp (hown p hp) with h1 | h1
        · have h3 : p = (s.heap.objs.size, it) := by
            rw [h1, hit] at h2
            exact Prod.ext h1 (Option.some.inj h2).symm
          rw [h3]; exact N' _ (List.mem_cons_self ..)
        · have h1' : p.1 = ax := List.mem_singleton.mp h1
          obtain ⟨o, e0⟩ := hax₀
          have := (N₁ p (List.mem_append_left _ hp)).2.2
          rw [h1', e0] at this
          cases this
      · exact N' _ (List.mem_cons_of_mem _ hp)
    cases f with
    | ret v => exact .ret p
    | brk => exact .brk p
    | next => exact .next (fin p)
    | cont => exact .cont (fin p)
  · rintro h' tk m' news' F' N' _ hJ'
    exact done m' news' h' tk hJ' F' N'
end
section
variable {prog : Program} {w : World} {A : Around} {E : Value → Shared → Prop} {s : Shared} {env : Env} {h₀ : Heap} {x : Str} {body : List Stmt} {Q : Flow → Shared → Prop}
/-- a for over a range of any step -/
theorem loop_step {r : Addr} {a₀ b₀ c : Int} {t₀ u₀ v₀ : Tok} {n : Nat} {m₀ : Str → Option Value} {news : List (Addr × Obj)} (J : Nat → (Str → Option Value) → List (Addr × Obj) → Prop)
    (hh : A.handled = none) (hr : IsRange s.heap r a₀ b₀ c t₀ u₀ v₀) (hsmall : Builtin.Range.small a₀ b₀ c = true) (hn : Builtin.Range.rangeSize a₀ b₀ c = (n : Int)) (F : Fr h₀ env.locals s.heap m₀) (N : News h₀ env.locals s.heap news)
    (hJ : J 0 m₀ news)
    (turn : ∀ i t m₁ news₁ h tk I it, i < n → J i m₁ news₁ → it.cls = .type "range_iterator" → (∀ p ∈ news₁, p.1 ≠ I) → Fr h₀ env.locals h (fun y => if y = x then some (.int (a₀ + (i : Int) * c) t) else m₁ y) → News h₀ env.locals h ((I, it) :: news₁) →
      wpAny (model prog w) A (execs body env) (UnrPost h₀ env.locals { s with heap := h, toks := tk } I it (J (i + 1)) Q) E { s with heap := h, toks := tk })
    (done : ∀ m₁ news₁ h tk, J n m₁ news₁ → Fr h₀ env.locals h m₁ → News h₀ env.locals h news₁ → Q .next { s with heap := h, toks := tk }) :
    wpAny (model prog w) A (pyIter (.ref r)) (fun it s₂ => LoopAtV prog w A h₀ env x body Q E it s₂) E s := by
  refine wpAny_pyIter_range hr hsmall ?_
  have W : Walks prog w A s.heap.objs.size [s.heap.objs.size] [s.heap.objs.size] n (fun i v => i < n ∧ ∃ t, v = .int (a₀ + i * c) t)
      (fun i h => IsRangeIter h s.heap.objs.size (a₀ + (i : Nat) * c) ((n : Int) - (i : Nat)) c) := (Walks.range hh _ a₀ c n).bound
  have hnew := next_is_new F
  refine ⟨_, _, _, n, _, _, m₀, news, J, rfl, W, ?_, ?_, ?_, (by show IsRangeIter _ _ _ _ _; rw [hn]; simpa using Heap.get?_push_size _ rfl), F.push _, (fun p hp => ⟨Heap.get?_push_of_some _ (N p hp).1, (N p hp).2⟩), hJ, ?_, ?_⟩
  · intro hm
    exact absurd F.ns.lt ((List.mem_singleton.mp hm) ▸ Nat.lt_irrefl _)
  · intro b hb
    rw [List.mem_singleton.mp hb]
    exact hnew
  · intro p hp hI
    exact absurd (Heap.lt_size (N p hp).1) ((List.mem_singleton.mp hI) ▸ Nat.lt_irrefl _)
  · rintro i v m₁ news₁ s₁ own ⟨hh', tk', rfl⟩ hin ⟨_, t, rfl⟩ hJ₁ hoff hown hget hall hst F₁ N₁
    obtain ⟨ob, hob⟩ : ∃ ob : Obj, ob = { cls := .type "range_iterator", data := .fields #[rawInt (a₀ + ((i + 1 : Nat) : Int) * c), rawInt ((n : Int) - ((i + 1 : Nat) : Int)), rawInt c] } := ⟨_, rfl⟩
    have hit : hh'.get? s.heap.objs.size = some ob := by rw [hob]; exact hst
    have hmemI := hall s.heap.objs.size (List.mem_singleton.mpr rfl) hnew _ hit
    have N₂ : News h₀ env.locals hh' ((s.heap.objs.size, ob) :: news₁) := fun p hp => by
      rcases List.mem_cons.mp hp with rfl | hp
      · exact N₁ _ (List.mem_append_left _ hmemI)
      · exact N₁ _ (List.mem_append_right _ hp)
    refine wpAny_mono (turn i t m₁ news₁ hh' tk' _ ob hin hJ₁ (by rw [hob]) (fun p hp e => hoff p hp (List.mem_singleton.mpr e)) F₁ N₂) (fun f s₂ p => ?_) fun _ _ e => e
    have fin : UnrEnd h₀ env.locals { s with heap := hh', toks := tk' } s.heap.objs.size ob (J (i + 1)) s₂ →
        LoopStepU h₀ env.locals [s.heap.objs.size] own (J (i + 1)) { s with heap := hh', toks := tk' } .next s₂ := by
      rintro ⟨h', tk, m', news', e, F', N', ho, r⟩
      refine ⟨rfl, h', tk, m', news', e, F', fun p hp => ?_, fun p hp hI => ho p hp (List.mem_singleton.mp hI), r⟩
      rcases List.mem_append.mp hp with hp | hp
      · have h2 : hh'.get? p.1 = some p.2 := hget p hp
        have h1 : p.1 = s.heap.objs.size := List.mem_singleton.mp (hown p hp)
        have h3 : p = (s.heap.objs.size, ob) := by
          rw [h1, hit] at h2
          exact Prod.ext h1 (Option.some.inj h2).symm
        rw [h3]; exact N' _ (List.mem_cons_self ..)
      · exact N' _ (List.mem_cons_of_mem _ hp)
    cases f with
    | ret v => exact .ret p
    | brk => exact .brk p
    | next => exact .next (fin p)
    | cont => exact .cont (fin p)
  · rintro h' tk m' news' F' N' _ hJ'
    exact done m' news' h' tk hJ' F' N'
theorem range_down {n : Nat} (h : n ≤ 100000) : Builtin.Range.small (n : Int) 0 (-1) = true ∧ Builtin.Range.rangeSize (n : Int) 0 (-1) = (n : Int) := by
  have e : Builtin.Range.rangeSize (n : Int) 0 (-1) = (n : Int) := by
    unfold Builtin.Range.rangeSize
    rw [if_neg (by decide)]
    split
    · rw [show -(-1 : Int) = 1 by decide, Int.ediv_one]; lia
    · lia
  refine ⟨?_, e⟩
  unfold Builtin.Range.small
  rw [e]
  simp only [Builtin.Range.rangeFitsLong, Bool.and_eq_true, Bool.or_eq_true, decide_eq_true_eq, beq_iff_eq, show ¬ ((-1 : Int) > 0) by decide, if_false]
  lia
end

end

section
noncomputable def IntsP (vs : List Value) (r : List Nat) : Prop := IntsAre vs (r.map Int.ofNat)
theorem IntsP.snoc {vs : List Value} {r : List Nat} {a : Nat} {t : Tok} (h : IntsP vs r) : IntsP (vs ++ [.int (a : Int) t]) (r ++ [a]) := by
  unfold IntsP
  rw [List.map_append]
  exact IntsAre.append h (.cons _ _ .nil)
theorem ints_at : ∀ {vs : List Value} {ns : List Int}, IntsAre vs ns → ∀ {i : Nat} {v : Value}, vs[i]? = some v → ∃ n t, ns[i]? = some n ∧ v = .int n t
  | _, _, .nil, i, v, e => by simp at e
  | _, _, .cons n t h, 0, v, e => by cases e; exact ⟨n, t, rfl, rfl⟩
  | _, _, .cons n t h, i + 1, v, e => by
    obtain ⟨n, t, h1, h2⟩ := ints_at h (i := i) (by simpa using e)
    exact ⟨n, t, by simpa using h1, h2⟩
theorem intsP_at {vs : List Value} {r : List Nat} (h : IntsP vs r) {i : Nat} {v : Value} (e : vs[i]? = some v) : ∃ a t, r[i]? = some a ∧ v = .int (a : Nat) t := by
  obtain ⟨n, t, h1, h2⟩ := ints_at h e
  rw [List.getElem?_map] at h1
  obtain ⟨a, ha, rfl⟩ := Option.map_eq_some_iff.mp h1
  exact ⟨a, t, ha, h2⟩
theorem intsP_get {vs : List Value} {r : List Nat} (h : IntsP vs r) {i : Nat} (hi : i < r.length) : ∃ t, vs[i]? = some (.int ((r.getD i 0 : Nat) : Int) t) := by
  have hl := h.length
  rw [List.length_map] at hl
  obtain ⟨a, t, h1, h2⟩ := intsP_at h (List.getElem?_eq_getElem (show i < vs.length by lia))
  refine ⟨t, ?_⟩
  rw [List.getElem?_eq_getElem (by lia), h2, List.getD_eq_getElem?_getD, h1]
  rfl
theorem RunsOff.sub {R0 C : Addr} {a b : List (Addr × Obj)} (h : RunsOff R0 C a) (hs : ∀ p ∈ b, p ∈ a) : RunsOff R0 C b := ⟨h.1, fun p hp => h.2 p (hs p hp)⟩
theorem mem_rot {α : Type} {i a b c p : α} {l : List α} (h : p ∈ a :: b :: (l ++ [c] ++ [i])) : p ∈ i :: a :: b :: (l ++ [c]) := by
  simp only [List.mem_cons, List.mem_append, List.not_mem_nil, or_false] at h ⊢
  rcases h with h | h | (h | h) | h
  · exact .inr (.inl h)
  · exact .inr (.inr (.inl h))
  · exact .inr (.inr (.inr (.inl h)))
  · exact .inr (.inr (.inr (.inr h)))
  · exact .inl h
theorem mem_back {α : Type} {i a b c p : α} {l : List α} (h : p ∈ i :: a :: b :: (l ++ [c])) : p ∈ a :: b :: (l ++ [c] ++ [i]) := by
  simp only [List.mem_cons, List.mem_append, List.not_mem_nil, or_false] at h ⊢
  rcases h with h | h | h | h | h
  · exact .inr (.inr (.inr h))
  · exact .inl h
  · exact .inr (.inl h)
  · exact .inr (.inr (.inl (.inl h)))
  · exact .inr (.inr (.inl (.inr h)))
theorem mem_push {α : Type} {i a b c d p : α} {l : List α} (h : p ∈ i :: a :: b :: (l ++ [d] ++ [c])) : p ∈ a :: b :: ((l ++ [c] ++ [i]) ++ [d]) := by
  simp only [List.mem_cons, List.mem_append, List.not_mem_nil, or_false] at h ⊢
  rcases h with h | h | h | (h | h) | h
  · exact .inr (.inr (.inl (.inr h)))
  · exact .inl h
  · exact .inr (.inl h)
  · exact .inr (.inr (.inl (.inl (.inl h))))
  · exact .inr (.inr (.inr h))
  · exact .inr (.inr (.inl (.inl (.inr h))))
theorem mem_pushT {α : Type} {i c d p : α} {l : List α} (h : p ∈ l ++ [d] ++ [c]) : p ∈ (l ++ [c] ++ [i]) ++ [d] := by
  simp only [List.mem_append, List.mem_cons, List.not_mem_nil, or_false] at h ⊢
  rcases h with (h | h) | h
  · exact .inl (.inl (.inl h))
  · exact .inr h
  · exact .inl (.inl (.inr h))
/-- the state of _law_told between the octets -/
noncomputable def ToldSt (octets : List Nat) (R0 : Addr) (cell : Addr × Obj) (i : Nat) (m : Str → Option Value) (news : List (Addr × Obj)) : Prop :=
  ∃ objs rvs cvs C rn cn done cur, news = (R0, listOf (rvs ++ [.ref C]).toArray rn) :: (C, listOf cvs.toArray cn) :: (objs ++ [cell]) ∧ RunsOff R0 C (objs ++ [cell]) ∧ RunObjs IntsP objs rvs done ∧ IntsP cvs cur ∧
    m "runs" = some (.ref R0) ∧ sp done cur (octets.drop i) = sp [] [] octets ∧ rvs.length ≤ i ∧ cvs.length ≤ i
theorem RunsOff.rot {R0 C : Addr} {cell I : Addr × Obj} {objs : List (Addr × Obj)} (h : RunsOff R0 C (objs ++ [cell])) (h1 : R0 ≠ I.1) (h2 : C ≠ I.1) : RunsOff R0 C (objs ++ [cell] ++ [I]) := by
  refine ⟨h.1, fun p hp => ?_⟩
  rcases List.mem_append.mp hp with hp | hp
  · exact h.2 p hp
  · rw [List.mem_singleton.mp hp]; exact ⟨Ne.symm h1, Ne.symm h2⟩
theorem drop_got {α : Type} {l : List α} {i : Nat} {a : α} (h : l[i]? = some a) : l.drop i = a :: l.drop (i + 1) := by
  rcases Nat.lt_or_ge i l.length with q | q
  · rw [List.drop_eq_getElem_cons q]
    rw [List.getElem?_eq_getElem q] at h
    cases h
    rfl
  · rw [List.getElem?_eq_none q] at h; cases h
theorem sp_star {done all : List (List Nat)} {cur octets : List Nat} {i : Nat} (h : octets[i]? = some 42) (e : sp done cur (octets.drop i) = all) : sp (done ++ [cur]) [] (octets.drop (i + 1)) = all := by
  rw [drop_got h] at e
  rw [← e, sp, if_pos rfl]
theorem sp_other {done all : List (List Nat)} {cur octets : List Nat} {i a : Nat} (h : octets[i]? = some a) (ha : a ≠ 42) (e : sp done cur (octets.drop i) = all) : sp done (cur ++ [a]) (octets.drop (i + 1)) = all := by
  rw [drop_got h] at e
  rw [← e, sp, if_neg ha]
section
variable {octets : List Nat} {R0 C I : Addr} {cell : Addr × Obj} {it : Obj} {i a : Nat} {m m' : Str → Option Value} {objs tl : List (Addr × Obj)} {rvs cvs : List Value} {rn cn : Nat} {done : List (List Nat)} {cur : List Nat} {h₀ h' : Heap} {L : Addr} {s₁ : Shared} {tk : Nat}
theorem told_star {D : Addr} (F : Fr h₀ L h' m') (N : News h₀ L h' ((R0, listOf (rvs ++ [Value.ref C] ++ [Value.ref D]).toArray (rn + 1)) :: (D, listOf #[] 0) :: (tl ++ [(C, listOf cvs.toArray cn)])))
    (htl : objs ++ [cell] ++ [(I, it)] = tl) (hM : RunsOff R0 D (tl ++ [(C, listOf cvs.toArray cn)])) (hD : R0 < D ∧ C < D ∧ AllLt D tl) (hRO : RunObjs IntsP objs rvs done) (hC : IntsP cvs cur)
    (mr : m' "runs" = some (.ref R0)) (hsp : sp done cur (octets.drop i) = sp [] [] octets) (hoa : octets[i]? = some 42) (hrl : rvs.length ≤ i) (hR0I : R0 ≠ I) (hCI : C ≠ I) (hoff : ∀ p ∈ objs ++ [cell], p.1 ≠ I) :
    UnrEnd h₀ L s₁ I it (ToldSt octets R0 cell (i + 1)) { s₁ with heap := h', toks := tk } := by
  subst htl
  refine UnrEnd.intro F N ((R0, listOf (rvs ++ [Value.ref C] ++ [Value.ref D]).toArray (rn + 1)) :: (D, listOf #[] 0) :: (objs ++ [(C, listOf cvs.toArray cn)] ++ [cell])) (fun p hp => mem_push hp) (fun p hp => ?_)
    ⟨objs ++ [(C, listOf cvs.toArray cn)], rvs ++ [.ref C], [], D, _, 0, done ++ [cur], [], rfl, hM.sub fun p hp => mem_pushT hp, RunObjs.snoc hC hRO, .nil, mr, sp_star hoa hsp, by simp; exact hrl, Nat.zero_le _⟩
  have hID : I ≠ D := allLt_ne hD.2.2 (I, it) (List.mem_append_right _ (List.mem_singleton.mpr rfl))
  rcases List.mem_cons.mp hp with rfl | hp
  · exact hR0I
  · rcases List.mem_cons.mp hp with rfl | hp
    · exact Ne.symm hID
    · rcases List.mem_append.mp hp with hp | hp
      · rcases List.mem_append.mp hp with hp | hp
        · exact hoff p (List.mem_append_left _ hp)
        · rw [List.mem_singleton.mp hp]; exact hCI
      · exact hoff p (List.mem_append_right _ hp)
theorem told_other {ta : Tok} (F : Fr h₀ L h' m') (N : News h₀ L h' ((R0, listOf (rvs ++ [Value.ref C]).toArray rn) :: (C, listOf (cvs ++ [Value.int (a : Nat) ta]).toArray (cn + 1)) :: tl))
    (htl : objs ++ [cell] ++ [(I, it)] = tl) (hM : RunsOff R0 C (objs ++ [cell])) (hRO : RunObjs IntsP objs rvs done) (hC : IntsP cvs cur)
    (mr : m' "runs" = some (.ref R0)) (hsp : sp done cur (octets.drop i) = sp [] [] octets) (hoa : octets[i]? = some a) (ha : a ≠ 42) (hrl : rvs.length ≤ i) (hcl : cvs.length ≤ i) (hR0I : R0 ≠ I) (hCI : C ≠ I) (hoff : ∀ p ∈ objs ++ [cell], p.1 ≠ I) :
    UnrEnd h₀ L s₁ I it (ToldSt octets R0 cell (i + 1)) { s₁ with heap := h', toks := tk } := by
  subst htl
  refine UnrEnd.intro F N ((R0, listOf (rvs ++ [Value.ref C]).toArray rn) :: (C, listOf (cvs ++ [Value.int (a : Nat) ta]).toArray (cn + 1)) :: (objs ++ [cell])) (fun p hp => mem_back hp) (fun p hp => ?_)
    ⟨objs, rvs, _, C, rn, _, done, _, rfl, hM, hRO, hC.snoc, mr, sp_other hoa ha hsp, by lia, by simp; lia⟩
  rcases List.mem_cons.mp hp with rfl | hp
  · exact hR0I
  · rcases List.mem_cons.mp hp with rfl | hp
    · exact hCI
    · exact hoff p hp
end
theorem sp_len : ∀ (l : List Nat) (done : List (List Nat)) (cur : List Nat), (sp done cur l).length ≤ done.length + 1 + l.length
  | [], done, cur => by simp [sp]
  | a :: l, done, cur => by
    rw [sp]
    split
    · have := sp_len l (done ++ [cur]) []
      simp at this ⊢
      lia
    · have := sp_len l done (cur ++ [a])
      simp at this ⊢
      lia
theorem sp_mem : ∀ (l : List Nat) (done : List (List Nat)) (cur : List Nat) (B : Nat), (∀ r ∈ done, r.length ≤ B) → cur.length + l.length ≤ B → ∀ r ∈ sp done cur l, r.length ≤ B
  | [], done, cur, B, hd, hc, r, hr => by
    rcases List.mem_append.mp hr with hr | hr
    · exact hd r hr
    · rw [List.mem_singleton.mp hr]; exact hc
  | a :: l, done, cur, B, hd, hc, r, hr => by
    rw [List.length_cons] at hc
    rw [sp] at hr
    split at hr
    · refine sp_mem l (done ++ [cur]) [] B (fun r hr => ?_) (by simp; lia) r hr
      rcases List.mem_append.mp hr with hr | hr
      · exact hd r hr
      · rw [List.mem_singleton.mp hr]; lia
    · exact sp_mem l done (cur ++ [a]) B hd (by simp; lia) r hr
/-- the runs are laid -/
theorem told_all {octets : List Nat} {R0 : Addr} {cell : Addr × Obj} {m : Str → Option Value} {news : List (Addr × Obj)} {n : Nat} (hn : n = octets.length) (h : ToldSt octets R0 cell n m news) :
    ∃ (vrs : List Value) (rn : Nat) (tl : List (Addr × Obj)), (∀ p ∈ (R0, listOf vrs.toArray rn) :: tl, p ∈ news) ∧ cell ∈ tl ∧ vrs.length = (sp [] [] octets).length ∧ vrs.length ≤ octets.length + 1 ∧ m "runs" = some (.ref R0) ∧
      ∀ (k : Nat) (r : List Nat), (sp [] [] octets)[k]? = some r → r.length ≤ octets.length ∧ ∃ (a : Addr) (us : List Value) (n : Nat), vrs[k]? = some (Value.ref a) ∧ (a, listOf us.toArray n) ∈ tl ∧ IntsP us r := by
  obtain ⟨objs, rvs, cvs, C, rn, cn, done, cur, rfl, hM, hRO, hC, mr, hsp, hrl, hcl⟩ := h
  subst hn
  rw [List.drop_length, sp] at hsp
  have hR2 := RunObjs.snoc (a := C) (k := cn) hC hRO
  rw [hsp] at hR2
  have hl := hR2.length.2
  have hsl := sp_len octets [] []
  refine ⟨rvs ++ [.ref C], rn, (objs ++ [(C, listOf cvs.toArray cn)]) ++ [cell], ?_, List.mem_append_right _ (List.mem_singleton.mpr rfl), hl, by rw [hl]; simpa [Nat.add_comm] using hsl, mr, fun k r hk => ⟨?_, ?_⟩⟩
  · intro p hp
    simp only [List.mem_cons, List.mem_append, List.not_mem_nil, or_false] at hp ⊢
    rcases hp with hp | (hp | hp) | hp
    · exact .inl hp
    · exact .inr (.inr (.inl hp))
    · exact .inr (.inl hp)
    · exact .inr (.inr (.inr hp))
  · exact sp_mem octets [] [] _ (fun r hr => nomatch hr) (by simp) r (List.mem_of_getElem? hk)
  · obtain ⟨a, us, k', h1, h2, h3⟩ := hR2.get hk
    exact ⟨a, us, k', h1, List.mem_append_left _ h2, h3⟩
theorem told_one {octets row r0 : List Nat} (h : row ≠ []) (e : sp [] [] octets = [r0]) : told octets row = decide (lend r0 row 0 = ((3 * row.length : Nat) : Int)) := by
  unfold told
  rw [if_neg h, e]
  rfl
theorem told_more {octets row r0 : List Nat} {rest : List (List Nat)} (h : row ≠ []) (e : sp [] [] octets = r0 :: rest) (hr : rest ≠ []) : told octets row = toldGo row r0 rest.reverse true (3 * row.length) := by
  unfold told
  rw [if_neg h, e]
  exact if_neg hr
theorem places_ints (row : List Nat) : ((List.range row.length).flatMap fun (k : Nat) => (List.range (if wide (row.getD k 0) = true then 3 else 1)).map fun (j : Nat) => 3 * (k : Int) + (j : Int)) ++ [((3 * row.length : Nat) : Int)] = (places row).map Int.ofNat := by
  unfold places
  rw [List.map_append, List.map_flatMap]
  congr 1
  congr 1
  funext k
  rw [List.map_map]
  rfl
theorem places_len (row : List Nat) : (places row).length ≤ 3 * row.length + 1 := by
  unfold places
  rw [List.length_append, List.length_singleton]
  have : ∀ l : List Nat, (l.flatMap fun k => (List.range (if wide (row.getD k 0) = true then 3 else 1)).map fun w => 3 * k + w).length ≤ 3 * l.length := by
    intro l
    induction l with
    | nil => simp
    | cons a l ih =>
      rw [List.flatMap_cons, List.length_append, List.length_map, List.length_range, List.length_cons]
      split <;> lia
  have := this (List.range row.length)
  rw [List.length_range] at this
  lia
noncomputable def prd (last : Bool) (run row : List Nat) (b p : Nat) : Bool := decide (lend run row p = (b : Int)) || (!last && decide (0 ≤ lend run row p) && decide (lend run row p < (b : Int)))
theorem fits_prd (last : Bool) (run row : List Nat) (b : Nat) : fits last run row b = (places row).filter (prd last run row b) := rfl
theorem take_filter {f : Nat → Bool} {l : List Nat} {j p : Nat} (h : l[j]? = some p) : (l.take (j + 1)).filter f = (l.take j).filter f ++ (if f p then [p] else []) := by
  have hj : j < l.length := by
    rcases Nat.lt_or_ge j l.length with q | q
    · exact q
    · rw [List.getElem?_eq_none q] at h; cases h
  rw [List.take_succ_eq_append_getElem hj, List.filter_append]
  rw [List.getElem?_eq_getElem hj] at h
  cases h
  congr 1
  rw [List.filter_cons, List.filter_nil]
theorem place_ok {row : List Nat} {p j : Nat} (h : (places row)[j]? = some p) : p ≤ 3 * row.length ∧ (0 < p % 3 → p / 3 < row.length) := by
  have hv := (mem_places row p).mp (List.mem_of_getElem? h)
  have hl := valid_le row p hv
  exact ⟨hl, fun q => by lia⟩
theorem max_is {l : List Nat} {M : Int} (h1 : M ∈ l.map Int.ofNat) (h2 : ∀ a, a ∈ l.map Int.ofNat → a ≤ M) : M = ((maxN l : Nat) : Int) := by
  obtain ⟨n, hn, rfl⟩ := List.mem_map.mp h1
  have hne : l ≠ [] := fun q => by rw [q] at hn; cases hn
  obtain ⟨a1, a2⟩ := maxN_spec hne
  have b1 := a2 n hn
  have b2 := h2 _ (List.mem_map_of_mem a1)
  have b3 : (maxN l : Int) ≤ (n : Int) := b2
  show (n : Int) = _
  lia
/-- the state of _law_told between the runs, from the last -/
noncomputable def ToldK (octets row r0 : List Nat) (rest : List (List Nat)) (R0 P : Addr) (led : List (Addr × Obj)) (i : Nat) (m : Str → Option Value) (news : List (Addr × Obj)) : Prop :=
  ∃ b, toldGo row r0 (rest.reverse.drop i) (decide (i = 0)) b = told octets row ∧ b ≤ 3 * row.length ∧ (∃ t, m "bound" = some (.int (b : Int) t)) ∧ m "runs" = some (.ref R0) ∧ m "places" = some (.ref P) ∧ news = led
/-- the state between the places -/
noncomputable def ToldF (row r : List Nat) (last : Bool) (b : Nat) (R0 P Fi : Addr) (k : Nat) (led : List (Addr × Obj)) (j : Nat) (m : Str → Option Value) (news : List (Addr × Obj)) : Prop :=
  ∃ zs zn, news = (Fi, listOf (List.toArray zs) zn) :: led ∧ IntsP zs (((places row).take j).filter (prd last r row b)) ∧ zs.length ≤ j ∧ m "fits" = some (.ref Fi) ∧ (∃ t, m "bound" = some (.int (b : Int) t)) ∧ (∃ t, m "k" = some (.int (k : Int) t)) ∧
    m "runs" = some (.ref R0) ∧ m "places" = some (.ref P)
theorem maxN_le {last : Bool} {run row : List Nat} {b : Nat} : maxN (fits last run row b) ≤ 3 * row.length := by
  by_cases h : fits last run row b = []
  · rw [h]; exact Nat.zero_le _
  · have := (maxN_spec h).1
    rw [fits_prd] at this
    exact valid_le row _ ((mem_places row _).mp (List.mem_filter.mp this).1)
section
variable {prog : Program} {w : World} {A : Around} {E : Value → Shared → Prop} {s s₁ : Shared} {h₀ h' : Heap} {L Fi I2 P R0 : Addr} {it2 lo : Obj} {led all : List (Addr × Obj)} {zs : List Value} {zn : Nat} {m m' : Str → Option Value} {row r : List Nat} {last : Bool} {b k j p tk : Nat}
theorem r_fitApp {x : Value} {Q : Value → Shared → Prop} (hlt : AllLt Fi led) (hI2 : Fi < I2) (F : Fr h₀ L s.heap m) (N : News h₀ L s.heap ((I2, it2) :: (Fi, listOf zs.toArray zn) :: led))
    (h : ∀ h', Fr h₀ L h' m → News h₀ L h' ((Fi, listOf (zs ++ [x]).toArray (zn + 1)) :: (I2, it2) :: led) → Q .none { s with heap := h' }) (hsz : zs.length ≤ 100000) :
    wpAny (model prog w) A (call (.builtin "list.append") [.ref Fi, x]) Q E s :=
  r_append ((I2, it2) :: led) F N (List.mem_cons_of_mem _ List.mem_cons_self) (fun p hp => by
    rcases List.mem_cons.mp hp with rfl | hp
    · exact ⟨List.mem_cons_self, Nat.ne_of_gt hI2⟩
    · exact ⟨List.mem_cons_of_mem _ (List.mem_cons_of_mem _ hp), allLt_ne hlt p hp⟩) h hsz
theorem told_fit (F : Fr h₀ L h' m') (N : News h₀ L h' all) (hs : ∀ p ∈ (I2, it2) :: (Fi, listOf zs.toArray zn) :: led, p ∈ all) (hFi : Fi < I2) (hL : ∀ p ∈ led, p.1 < I2) (hP : (P, lo) ∈ led)
    (hzs : IntsP zs (((places row).take (j + 1)).filter (prd last r row b))) (hl : zs.length ≤ j + 1) (mf : m' "fits" = some (.ref Fi)) (mb : ∃ t, m' "bound" = some (.int (b : Int) t)) (mk : ∃ t, m' "k" = some (.int (k : Int) t))
    (mr : m' "runs" = some (.ref R0)) (mp : m' "places" = some (.ref P)) :
    UnrEnd h₀ L s₁ I2 it2 (fun m' n' => (P, lo) ∈ n' ∧ ToldF row r last b R0 P Fi k led (j + 1) m' n') { s₁ with heap := h', toks := tk } :=
  UnrEnd.intro F N ((Fi, listOf zs.toArray zn) :: led) hs (fun p hp => by
    rcases List.mem_cons.mp hp with rfl | hp
    · exact Nat.ne_of_lt hFi
    · exact Nat.ne_of_lt (hL p hp)) ⟨List.mem_cons_of_mem _ hP, zs, zn, rfl, hzs, hl, mf, mb, mk, mr, mp⟩
theorem fit_yes {tp : Tok} (hzs : IntsP zs (((places row).take j).filter (prd last r row b))) (hp : (places row)[j]? = some p) (h : prd last r row b p = true) : IntsP (zs ++ [.int (p : Int) tp]) (((places row).take (j + 1)).filter (prd last r row b)) := by
  rw [take_filter hp, if_pos h]; exact hzs.snoc
theorem fit_no (hzs : IntsP zs (((places row).take j).filter (prd last r row b))) (hp : (places row)[j]? = some p) (h : prd last r row b p = false) : IntsP zs (((places row).take (j + 1)).filter (prd last r row b)) := by
  rw [take_filter hp, h, if_neg (by decide), List.append_nil]; exact hzs
theorem mem_two {α : Type} {a b p : α} {l : List α} (h : p ∈ a :: b :: l) : p ∈ b :: a :: l := by
  rcases List.mem_cons.mp h with rfl | h
  · exact List.mem_cons_of_mem _ List.mem_cons_self
  · rcases List.mem_cons.mp h with rfl | h
    · exact List.mem_cons_self
    · exact List.mem_cons_of_mem _ (List.mem_cons_of_mem _ h)
theorem prd_eq (h : lend r row p = (b : Int)) : prd last r row b p = true := by simp [prd, h]
theorem prd_in (hl : last = false) (h1 : 0 ≤ lend r row p) (h2 : lend r row p < (b : Int)) : prd last r row b p = true := by simp [prd, hl, h1, h2]
theorem prd_no (h : lend r row p ≠ (b : Int)) (h2 : ¬ (last = false ∧ 0 ≤ lend r row p ∧ lend r row p < (b : Int))) : prd last r row b p = false := by
  rw [prd, decide_eq_false h, Bool.false_or, Bool.and_assoc]
  rw [← Bool.not_eq_true]
  intro q
  simp only [Bool.and_eq_true, Bool.not_eq_true', decide_eq_true_eq] at q
  exact h2 q
end

end

section
section
variable {prog : Program} {w : World} {A : Around} {E : Value → Shared → Prop} {s : Shared} {env : Env} {h₀ : Heap} {scope : Scope} {x y : Str} {elt : Expr} {Q : Flow → Shared → Prop} {m : Str → Option Value} {news : List (Addr × Obj)} {D : Addr} {vs : List Value}
/-- an assigned comprehension over a list: what its element gives of each item -/
theorem compA_list {n : Nat} (F : Value → Value → Prop) (hh : A.handled = none) (Fr₀ : Fr h₀ env.locals s.heap m) (N : News h₀ env.locals s.heap news) (hD : (D, listOf vs.toArray n) ∈ news) (hsz : vs.length ≤ 100000)
    (helt : ∀ C v s₃ m₃ E', v ∈ vs → s₃.heap.Ns C m₃ → m₃ x = some v → wpAny (model prog w) A (eval elt (compEnv scope C env)) (fun y s₄ => Stop (F v y ∧ Keeps s₃ s₄)) E' s₃)
    (fin : ∀ D' h' tk ys k, Paired F vs ys → Fr h₀ env.locals h' (fun z => if z = y then some (.ref D') else m z) → News h₀ env.locals h' ((D', listOf (List.toArray ys) k) :: news) → (∀ p ∈ news, p.1 ≠ D') → Q .next { s with heap := h', toks := tk }) :
    wpAny (model prog w) A (pyIter (.ref D)) (CompPostA prog w A env scope x y [] elt Q) E s := by
  have hl : s.heap.IsList D vs.toArray := ⟨_, N.get hD, rfl, n, rfl⟩
  have hlt : D < s.heap.objs.size := Heap.lt_size (N.get hD)
  have hne : D ≠ s.heap.objs.size := Nat.ne_of_lt hlt
  refine wpAny_pyIter_list hl ?_
  have hsize : vs.toArray.size = vs.length := by simp
  refine ⟨fun _ => true, F, s.heap.objs.size, _, _, vs.toArray.size, _, _, m, rfl, Walks.list hh s.heap.objs.size D hne vs.toArray, by rw [hsize, sizeLine_eq]; lia, ⟨⟨_, Heap.get?_push_size _ rfl, rfl, rfl⟩, hl.at fun o e => Heap.get?_push_of_some _ e⟩, fun b hb => ?_,
    fun hm => absurd Fr₀.ns.lt ((List.mem_singleton.mp hm) ▸ Nat.lt_irrefl _), (Fr₀.push _).ns, ⟨fun C i v s₃ m₃ E' hP hns hx hk ht => ?_, fun C i v s₃ m₃ E' hP _ hns hx hk ht => ?_⟩, fun D' h' tk ys vs' hD' _ hpl hlen hget hF hns hk => ?_⟩
  · show b < (s.heap.push _).objs.size
    rw [Heap.size_push]
    rcases List.mem_cons.mp hb with rfl | hb
    · exact Nat.lt_succ_self _
    · rw [List.mem_singleton.mp hb]; exact Nat.lt_succ_of_lt hlt
  · exact wpAny_pure ⟨rfl, _, _, rfl, fun _ _ e => e⟩
  · exact wpAny_mono (helt C v s₃ m₃ E' (List.mem_of_getElem? (by simpa using hP)) hns hx) (fun _ _ q => q) fun _ _ e => e
  · have hvs : vs' = vs := by
      apply List.ext_getElem?
      intro i
      rcases Nat.lt_or_ge i vs'.length with q | q
      · have := hget i _ (List.getElem?_eq_getElem q)
        rw [List.getElem?_eq_getElem q, ← this]; simp
      · rw [List.getElem?_eq_none q, List.getElem?_eq_none (by lia)]
    subst hvs
    rw [List.filter_eq_self.mpr (fun _ _ => rfl)] at hF
    have hDn : s.heap.get? D' = none := by
      cases e : s.heap.get? D' with
      | none => rfl
      | some o => have e2 : (s.heap.push { cls := .type "list_iterator", data := .fields #[.ref D, .int 0 0] }).get? D' = some o := Heap.get?_push_of_some _ e; rw [hD'] at e2; cases e2
    obtain ⟨k, hob⟩ := hpl
    have keep : ∀ b o, b ≠ env.locals → s.heap.get? b = some o → h'.get? b = some o := fun b o hb e => hk b o hb (fun q => by
      have := Heap.lt_size e
      rw [List.mem_singleton.mp q] at this
      exact Nat.lt_irrefl _ this) (Heap.get?_push_of_some _ e)
    refine fin D' h' tk ys.toList k hF ⟨hns, fun b o e => keep b o (fun q => ?_) (Fr₀.keep b o e), Fr₀.above⟩ (fun p hp => ?_) (fun p hp q => by have := (N p hp).1; rw [q, hDn] at this; cases this)
    · have := Heap.lt_size e
      rw [q] at this
      exact Nat.lt_irrefl _ (Nat.lt_of_lt_of_le this Fr₀.above)
    · rcases List.mem_cons.mp hp with rfl | hp
      · refine ⟨by rw [hob, Array.toArray_toList], fun q => ?_, ?_⟩
        · obtain ⟨oL, _, _, hoL, _⟩ := Fr₀.ns
          rw [← q] at hoL
          have hoL' : s.heap.get? D' = some oL := hoL
          rw [hDn] at hoL'; cases hoL'
        · cases e : h₀.get? D' with
          | none => rfl
          | some o => have := Fr₀.keep _ _ e; rw [hDn] at this; cases this
      · exact ⟨keep _ _ (N p hp).2.1 (N p hp).1, (N p hp).2⟩
end
section
variable {M : Model} {A : Around} {E : Value → Shared → Prop} {s : Shared} {C : Addr} {m : Str → Option Value} {sc : Scope} {env : Env} {x : Str} {pos : Pos} {v : Value} {Q : Value → Shared → Prop}
theorem nameD_L (hn : s.heap.Ns C m) (hv : m x = some v) (h : Q v s) (hk : (compEnv sc C env).scope.kind = .function) (hx : (compEnv sc C env).kindOf x = some .local) (hd : (x == ("__debug__" : Str)) = false) :
    wpAny M A (eval (.Name x pos) (compEnv sc C env)) Q E s := wpAny_Name (wpAny_loadName_local hk hx hn hv h) hd
end

end

section
-- a list comprehension of two generators over ranges (the second's length hangs on the first's number)
section
variable {prog : Program} {w : World} {A : Around} {E : Value → Shared → Prop} {R : Result → Shared → Prop} {s : Shared} {env : Env}
open LCg

theorem compTurn_out (elt t1 i1 t2 i2 : Expr) (scope : Scope) (pos : Pos) (it acc : Value) (env : Env) :
    compTurn (.ListComp elt [⟨t1, i1, [], 0⟩, ⟨t2, i2, [], 0⟩] scope pos) 0 it acc env = (standAt i1.pos >>= fun _ => pyNext it >>= fun r => match r with
      | none => pure (.done .next)
      | some v => letOwnedTupleGo t1 it v >>= fun _ => assign t1 env v >>= fun _ =>
        eval i2 env >>= fun x => standAt i2.pos >>= fun _ => foldedSetIterable i2 env x >>= fun x => holding [x] (pyIter x) >>= fun it2 => runOwn (.compStart (.ListComp elt [⟨t1, i1, [], 0⟩, ⟨t2, i2, [], 0⟩] scope pos) 1 it2 acc env) env >>= fun _ =>
          again (.compLoop (.ListComp elt [⟨t1, i1, [], 0⟩, ⟨t2, i2, [], 0⟩] scope pos) 0 it acc env)) := by rfl
theorem compTurn_in (elt t1 i1 t2 i2 : Expr) (scope : Scope) (pos : Pos) (it acc : Value) (env : Env) :
    compTurn (.ListComp elt [⟨t1, i1, [], 0⟩, ⟨t2, i2, [], 0⟩] scope pos) 1 it acc env = (standAt i2.pos >>= fun _ => pyNext it >>= fun r => match r with
      | none => pure (.done .next)
      | some v => letOwnedTupleGo t2 it v >>= fun _ => assign t2 env v >>= fun _ =>
        (eval elt env >>= fun x => call (.builtin "list.append") [acc, x] >>= fun _ => pure ()) >>= fun _ =>
          again (.compLoop (.ListComp elt [⟨t1, i1, [], 0⟩, ⟨t2, i2, [], 0⟩] scope pos) 1 it acc env)) := by rfl

noncomputable abbrev two (elt : Expr) (x1 : Str) (p1 : Pos) (i1 : Expr) (x2 : Str) (p2 : Pos) (i2 : Expr) (scope : Scope) (pos : Pos) : Expr := .ListComp elt [⟨.Name x1 p1, i1, [], 0⟩, ⟨.Name x2 p2, i2, [], 0⟩] scope pos
variable {elt i1 i2 : Expr} {x1 x2 : Str} {p1 p2 pos : Pos} {scope : Scope} {it acc : Value}
theorem in_loop (I : Nat → Shared → Prop)
    (turn : ∀ n s, I n s → wpAny (model prog w) A (pyNext it) (fun r s₁ => match r with
      | none => R (.ok .next) s₁
      | some v => wpAny (model prog w) A (assign (.Name x2 p2) env v) (fun _ s₂ => wpAny (model prog w) A (eval elt env) (fun x s₃ =>
          wpAny (model prog w) A (call (.builtin "list.append") [acc, x]) (fun _ s₄ => ∃ m, m < n ∧ I m s₄) (notedBy (model prog w) A env fun e s' => R (.error e) s') s₃)
          (notedBy (model prog w) A env fun e s' => R (.error e) s') s₂) (notedBy (model prog w) A env fun e s' => R (.error e) s') s₁) (notedBy (model prog w) A env fun e s' => R (.error e) s') s)
    (n : Nat) (h : I n s) : codeAny (model prog w) A (.compLoop (two elt x1 p1 i1 x2 p2 i2 scope pos) 1 it acc env) R s := by
  refine codeAny_loop rfl I (fun n s hI => ?_) n h
  show wpAny _ A ((compTurn (two elt x1 p1 i1 x2 p2 i2 scope pos) 1 it acc env).onRaise (fun x => do noteFrame x env; theTreesLotGoes x)) _ _ s
  refine wpAny_noted ?_
  rw [compTurn_in]
  refine wpAny_bind (wpAny_standAt (wpAny_bind (wpAny_mono (turn n s hI) (fun r s₁ h₁ => ?_) fun _ _ h' => h')))
  cases r with
  | none => exact wpAny_pure h₁
  | some v =>
    refine wpAny_bind (wpAny_of_eq (a := ()) rfl ?_)
    exact wpAny_bind (wpAny_mono h₁ (fun _ s₂ h₂ => wpAny_bind (wpAny_bind (wpAny_mono h₂ (fun x s₃ h₃ => wpAny_bind (wpAny_mono h₃
      (fun _ s₄ h₄ => wpAny_pure (wpAny_pure ⟨rfl, h₄⟩)) fun _ _ h' => h')) fun _ _ h' => h'))) fun _ _ h' => h')
theorem out_loop (I : Nat → Shared → Prop) (hs : ∀ x, foldedSetIterable i2 env x = pure x)
    (turn : ∀ n s, I n s → wpAny (model prog w) A (pyNext it) (fun r s₁ => match r with
      | none => R (.ok .next) s₁
      | some v => wpAny (model prog w) A (assign (.Name x1 p1) env v) (fun _ s₂ => wpAny (model prog w) A (eval i2 env) (fun x s₃ =>
          wpAny (model prog w) A (pyIter x) (fun it2 s₄ => codeAny (model prog w) A (.compStart (two elt x1 p1 i1 x2 p2 i2 scope pos) 1 it2 acc env) (fun r s' => match r with | .ok _ => ∃ m, m < n ∧ I m s' | .error e => False) s₄) (notedBy (model prog w) A env fun e s' => R (.error e) s') s₃)
          (notedBy (model prog w) A env fun e s' => R (.error e) s') s₂) (notedBy (model prog w) A env fun e s' => R (.error e) s') s₁) (notedBy (model prog w) A env fun e s' => R (.error e) s') s)
    (n : Nat) (h : I n s) : codeAny (model prog w) A (.compLoop (two elt x1 p1 i1 x2 p2 i2 scope pos) 0 it acc env) R s := by
  refine codeAny_loop rfl I (fun n s hI => ?_) n h
  show wpAny _ A ((compTurn (two elt x1 p1 i1 x2 p2 i2 scope pos) 0 it acc env).onRaise (fun x => do noteFrame x env; theTreesLotGoes x)) _ _ s
  refine wpAny_noted ?_
  rw [compTurn_out]
  refine wpAny_bind (wpAny_standAt (wpAny_bind (wpAny_mono (turn n s hI) (fun r s₁ h₁ => ?_) fun _ _ h' => h')))
  cases r with
  | none => exact wpAny_pure h₁
  | some v =>
    refine wpAny_bind (wpAny_of_eq (a := ()) rfl ?_)
    refine wpAny_bind (wpAny_mono h₁ (fun _ s₂ h₂ => wpAny_bind (wpAny_mono h₂ (fun x s₃ h₃ => wpAny_bind (wpAny_standAt (wpAny_bind (wpAny_of_eq (hs x) (wpAny_bind (wpAny_holding (wpAny_mono h₃ (fun it2 s₄ h₄ => ?_) fun _ _ h' => h'))))))) fun _ _ h' => h')) fun _ _ h' => h')
    refine wpAny_bind (wpAny_runOwn (codeAny_mono h₄ fun r s' hr => ?_))
    cases r with
    | ok f => exact wpAny_pure ⟨rfl, hr⟩
    | error e => exact hr.elim
theorem start_in (h0 : codeAny (model prog w) A (.compLoop (two elt x1 p1 i1 x2 p2 i2 scope pos) 1 it acc env) R s)
    (h : wpAny (model prog w) A (pyIter it) (fun it' s' => codeAny (model prog w) A (.compLoop (two elt x1 p1 i1 x2 p2 i2 scope pos) 1 it' acc env) R s') (notedBy (model prog w) A env fun x s' => R (.error x) s') s) :
    codeAny (model prog w) A (.compStart (two elt x1 p1 i1 x2 p2 i2 scope pos) 1 it acc env) R s := by
  refine codeAny_of_tree ?_
  show wpAny _ _ ((compStart (two elt x1 p1 i1 x2 p2 i2 scope pos) 1 it acc env).onRaise (fun x => do noteFrame x env; standAt theWindowsPlace)) _ _ s
  refine wpAny_notedAt ?_
  unfold compStart
  show wpAny _ _ (ask >>= _) _ _ s
  refine wpAny_bind (wpAny_askSetting (wpAny_ite ?_))
  split
  · first
      | exact wpAny_bind (wpAny_pure (wpAny_pure (And.intro rfl h0)))
      | exact wpAny_pure (And.intro rfl h0)
  · first
      | exact wpAny_bind (wpAny_rule (wpAny_bind (wpAny_standAt (wpAny_bind (wpAny_mono h (fun it' s' h' => wpAny_pure (And.intro rfl h')) fun _ _ x => x)))))
      | (refine wpAny_bind (wpAny_rule ?_); show wpAny _ _ (standAt i2.pos >>= _) _ _ s; exact wpAny_bind (wpAny_standAt (wpAny_bind (wpAny_mono h (fun it' s' h' => wpAny_pure (And.intro rfl h')) fun _ _ x => x))))

/-- what an expression of the comprehension's gives: its value, and the frame and the ledger as they were -/
noncomputable def Gives (base : Heap) (C : Addr) (m : Str → Option Value) (news : List (Addr × Obj)) (P : Heap → Value → Prop) (s : Shared) (v : Value) (s' : Shared) : Prop :=
  ∃ h' tk', s' = { s with heap := h', toks := tk' } ∧ P h' v ∧ Fr base C h' m ∧ News base C h' news
theorem in_turns {base : Heap} {I1 I2 D : Addr} {o1 : Obj} {n2 : Nat} {vi : Value} {m1 : Str → Option Value} {ys0 : List Value} {zs0 : List Int} (f : Nat → Int)
    (hh : A.handled = none) (hx : env.kindOf x2 = some .local) (hp : (env.scope.kind == .class || (env.scope.kind == .module && env.locals != env.globals)) = false) (hne : x1 ≠ x2)
    (hI2D : I2 ≠ D) (hI21 : I2 ≠ I1) (hD1 : D ≠ I1) (F : Fr base env.locals s.heap m1) (hm : m1 x1 = some vi) (N : News base env.locals s.heap [(I2, itR 0 n2), (D, lst ys0), (I1, o1)])
    (hys : IntsAre ys0 zs0) (hsz : ys0.length + n2 ≤ 100000)
    (helt : ∀ j u h tk m' E' news, j < n2 → m' x1 = some vi → m' x2 = some (.int (j : Nat) u) → Fr base env.locals h m' → News base env.locals h news →
      wpAny (model prog w) A (eval elt env) (Gives base env.locals m' news (fun _ v => ∃ z, v = .int (f j) z) { s with heap := h, toks := tk }) E' { s with heap := h, toks := tk })
    (hR : ∀ h tk m' ys, Fr base env.locals h m' → News base env.locals h [(D, lst ys), (I1, o1)] → IntsAre ys (zs0 ++ (List.range n2).map f) → R (.ok .next) { s with heap := h, toks := tk }) :
    codeAny (model prog w) A (.compLoop (two elt x1 p1 i1 x2 p2 i2 scope pos) 1 (.ref I2) (.ref D) env) R s := by
  refine in_loop (fun k s' => ∃ h tk m' j ys, s' = { s with heap := h, toks := tk } ∧ j ≤ n2 ∧ k = n2 + 1 - j ∧ Fr base env.locals h m' ∧ m' x1 = some vi ∧
    News base env.locals h [(I2, itR ((j : Nat) : Int) ((n2 : Int) - (j : Nat))), (D, lst ys), (I1, o1)] ∧ IntsAre ys (zs0 ++ (List.range j).map f) ∧ ys.length = ys0.length + j) ?_ (n2 + 1)
    ⟨s.heap, s.toks, m1, 0, ys0, rfl, Nat.zero_le _, rfl, F, hm, by simpa using N, by simpa using hys, rfl⟩
  rintro k s' ⟨h, tk, m', j, ys, rfl, hj, rfl, F', hm', N', hys', hyl⟩
  have gI := (N' _ (List.mem_cons_self))
  have gD := (N' _ (List.mem_cons_of_mem _ List.mem_cons_self))
  by_cases hlt : j < n2
  · refine wpAny_pyNext_range_item (x := ((j : Nat) : Int)) (left := (n2 : Int) - (j : Nat)) (step := 1) gI.1 (by lia) fun h₁ hit₁ hs₁ => ?_
    have F₁ := F'.change hs₁ gI.2.1 gI.2.2
    have N₁ : News base env.locals h₁ [(I2, itR (((j + 1 : Nat) : Nat) : Int) ((n2 : Int) - (j + 1 : Nat))), (D, lst ys), (I1, o1)] := by
      refine N'.setHead (fun p hp => ?_) hs₁ ?_
      · rcases List.mem_cons.mp hp with rfl | hp
        · exact Ne.symm hI2D
        · rw [List.mem_singleton.mp hp]; exact Ne.symm hI21
      · rw [show ((j + 1 : Nat) : Int) = (j : Int) + 1 by lia, show (n2 : Int) - ((j : Int) + 1) = (n2 : Int) - (j : Nat) - 1 by lia]
        exact hit₁
    refine wpAny_assign_Name (wpAny_storeName_local hx F₁.ns (fun h₂ hn₂ hs₂ => ?_) hp)
    have F₂ := F₁.set hn₂ hs₂
    have N₂ := N₁.set hs₂
    refine wpAny_mono (helt j _ h₂ _ _ _ _ hlt (by rw [if_neg hne]; exact hm') (if_pos rfl) F₂ N₂) (fun v s₃ q => ?_) fun _ _ e => e
    obtain ⟨h₃, tk₃, rfl, ⟨z, rfl⟩, F₃, N₃⟩ := q
    have gD₃ := (N₃ _ (List.mem_cons_of_mem _ List.mem_cons_self))
    refine append_at (hsz := by rw [List.size_toArray]; exact Nat.le_trans (by lia) (Nat.le_of_ble_eq_true rfl : 100000 ≤ sizeLine)) gD₃.1 fun h₄ hs₄ hD₄ => ?_
    refine ⟨n2 + 1 - (j + 1), by lia, h₄, tk₃, _, j + 1, ys ++ [.int (f j) z], rfl, hlt, rfl, F₃.change hs₄ gD₃.2.1 gD₃.2.2, by show (if _ then _ else _) = _; rw [if_neg hne]; exact hm', ?_, ?_, by simp; lia⟩
    · refine N₃.setSecond hI2D (fun p hp => ?_) hs₄ (hD₄.trans (congrArg some (lst_snoc ys _)))
      rw [List.mem_singleton.mp hp]; exact Ne.symm hD1
    · rw [List.range_succ, List.map_append, ← List.append_assoc]
      exact IntsAre.append hys' (.cons _ _ .nil)
  · obtain rfl : j = n2 := Nat.le_antisymm hj (Nat.not_lt.mp hlt)
    refine wpAny_pyNext_range_end hh gI.1 (by lia) fun h₁ hs₁ => ?_
    refine hR h₁ tk m' ys ⟨F'.ns.extBut hs₁ (Ne.symm gI.2.1), fun b o e => hs₁ b o (fun q => by rw [q, gI.2.2] at e; cases e) (F'.keep b o e), F'.above⟩ (fun p hp => ?_) hys'
    have z := N' p (List.mem_cons_of_mem _ hp)
    refine ⟨hs₁ _ _ ?_ z.1, z.2⟩
    rcases List.mem_cons.mp hp with rfl | hp
    · exact Ne.symm hI2D
    · rw [List.mem_singleton.mp hp]; exact Ne.symm hI21
noncomputable def OutI (base : Heap) (C D I1 : Addr) (n1 : Nat) (n2 : Nat → Nat) (f : Nat → Nat → Int) (B : Nat) (s : Shared) (k : Nat) (s' : Shared) : Prop :=
  ∃ h tk m' i ys, s' = { s with heap := h, toks := tk } ∧ i ≤ n1 ∧ k = n1 + 1 - i ∧ Fr base C h m' ∧
    News base C h [(D, lst ys), (I1, itR ((i : Nat) : Int) ((n1 : Int) - (i : Nat)))] ∧ IntsAre ys ((List.range i).flatMap fun k => (List.range (n2 k)).map (f k)) ∧ ys.length ≤ B * i
theorem out_turns {base : Heap} {I1 D : Addr} {n1 : Nat} (n2 : Nat → Nat) (f : Nat → Nat → Int) (B : Nat)
    (hh : A.handled = none) (hx : env.kindOf x1 = some .local) (hx2 : env.kindOf x2 = some .local) (hp : (env.scope.kind == .class || (env.scope.kind == .module && env.locals != env.globals)) = false) (hne : x1 ≠ x2)
    (hs : ∀ x, foldedSetIterable i2 env x = pure x) (hI1D : I1 ≠ D) {m0 : Str → Option Value} (F : Fr base env.locals s.heap m0) (N : News base env.locals s.heap [(D, lst []), (I1, itR 0 n1)])
    (hB : ∀ k, n2 k ≤ B) (hBs : B * n1 ≤ 100000)
    (hi2 : ∀ k t h tk m' E' news, k < n1 → m' x1 = some (.int (k : Nat) t) → Fr base env.locals h m' → News base env.locals h news →
      wpAny (model prog w) A (eval i2 env) (Gives base env.locals m' news (fun h v => ∃ r t u z, v = .ref r ∧ IsRange h r 0 (n2 k : Nat) 1 t u z) { s with heap := h, toks := tk }) E' { s with heap := h, toks := tk })
    (helt : ∀ k j t u h tk m' E' news, k < n1 → j < n2 k → m' x1 = some (.int (k : Nat) t) → m' x2 = some (.int (j : Nat) u) → Fr base env.locals h m' → News base env.locals h news →
      wpAny (model prog w) A (eval elt env) (Gives base env.locals m' news (fun _ v => ∃ z, v = .int (f k j) z) { s with heap := h, toks := tk }) E' { s with heap := h, toks := tk })
    (hR : ∀ h tk m' ys, Fr base env.locals h m' → News base env.locals h [(D, lst ys)] → IntsAre ys ((List.range n1).flatMap fun k => (List.range (n2 k)).map (f k)) → R (.ok .next) { s with heap := h, toks := tk }) :
    codeAny (model prog w) A (.compLoop (two elt x1 p1 i1 x2 p2 i2 scope pos) 0 (.ref I1) (.ref D) env) R s := by
  refine out_loop (OutI base env.locals D I1 n1 n2 f B s) hs ?_ (n1 + 1)
    ⟨s.heap, s.toks, m0, 0, [], rfl, Nat.zero_le _, rfl, F, by simpa using N, .nil, by simp⟩
  rintro k s' ⟨h, tk, m', i, ys, rfl, hi, rfl, F', N', hys', hyl⟩
  have gD := (N' _ (List.mem_cons_self))
  have gI := (N' _ (List.mem_cons_of_mem _ List.mem_cons_self))
  by_cases hlt : i < n1
  · refine wpAny_pyNext_range_item (x := ((i : Nat) : Int)) (left := (n1 : Int) - (i : Nat)) (step := 1) gI.1 (by lia) fun h₁ hit₁ hs₁ => ?_
    have F₁ := F'.change hs₁ gI.2.1 gI.2.2
    have N₁ : News base env.locals h₁ [(D, lst ys), (I1, itR (((i + 1 : Nat) : Nat) : Int) ((n1 : Int) - (i + 1 : Nat)))] := by
      refine N'.setSecond (Ne.symm hI1D) (fun p hp => nomatch hp) hs₁ ?_
      rw [show ((i + 1 : Nat) : Int) = (i : Int) + 1 by lia, show (n1 : Int) - ((i : Int) + 1) = (n1 : Int) - (i : Nat) - 1 by lia]
      exact hit₁
    refine wpAny_assign_Name (wpAny_storeName_local hx F₁.ns (fun h₂ hn₂ hs₂ => ?_) hp)
    have F₂ := F₁.set hn₂ hs₂
    have N₂ := N₁.set hs₂
    refine wpAny_mono (hi2 i _ h₂ _ _ _ _ hlt (if_pos rfl) F₂ N₂) (fun v s₃ q => ?_) fun _ _ e => e
    obtain ⟨h₃, tk₃, rfl, ⟨r, tr, ur, zr, rfl, hr⟩, F₃, N₃⟩ := q
    have hb := hB i
    have hi1 : B * (i + 1) ≤ B * n1 := Nat.mul_le_mul_left B hlt
    rw [Nat.mul_succ] at hi1
    have hru := range_up (n := n2 i) (by lia)
    refine wpAny_pyIter_range hr hru.1 ?_
    rw [hru.2]
    have F₄ := F₃.push (itR 0 (n2 i : Nat))
    have N₄ := News.push F₃ N₃ (itR 0 (n2 i : Nat))
    have hgrow : ∀ p ∈ [(D, lst ys), (I1, itR (((i + 1 : Nat) : Nat) : Int) ((n1 : Int) - (i + 1 : Nat)))], p.1 ≠ h₃.objs.size := fun p hp => Nat.ne_of_lt (Heap.lt_size (N₃ p hp).1)
    have hI2D : h₃.objs.size ≠ D := Ne.symm (hgrow _ List.mem_cons_self)
    have hI21 : h₃.objs.size ≠ I1 := Ne.symm (hgrow _ (List.mem_cons_of_mem _ List.mem_cons_self))
    have loop : ∀ s' : Shared, s' = { s with heap := h₃.push (itR 0 (n2 i : Nat)), toks := tk₃ } → codeAny (model prog w) A (.compLoop (two elt x1 p1 i1 x2 p2 i2 scope pos) 1 (.ref h₃.objs.size) (.ref D) env)
        (fun r s' => match r with | .ok _ => ∃ m, m < n1 + 1 - i ∧ OutI base env.locals D I1 n1 n2 f B s m s' | .error e => False) s' := by
      rintro s' rfl
      refine in_turns (n2 := n2 i) (vi := .int (i : Nat) _) (o1 := itR (((i + 1 : Nat) : Nat) : Int) ((n1 : Int) - (i + 1 : Nat))) (f i) hh hx2 hp hne hI2D hI21 (Ne.symm hI1D) F₄ (if_pos rfl) N₄ hys' (by lia)
        (fun j u h tk m' E' news hj e1 e2 F N => helt i j _ u h tk m' E' news hlt hj e1 e2 F N) fun h tk m'' ys' F'' N'' hy => ?_
      refine ⟨n1 + 1 - (i + 1), by lia, h, tk, m'', i + 1, ys', rfl, hlt, rfl, F'', N'', ?_, ?_⟩
      · rw [List.range_succ, List.flatMap_append]
        simpa using hy
      · have e1 := hy.length
        have e2 := hys'.length
        rw [List.length_append, List.length_map, List.length_range] at e1
        rw [Nat.mul_succ]
        lia
    refine start_in (loop _ rfl) (wpAny_pyIter_rangeiter (it := h₃.objs.size) (x := 0) (left := (n2 i : Nat)) (step := 1) (N₄ _ List.mem_cons_self).1 (loop _ rfl))
  · obtain rfl : i = n1 := Nat.le_antisymm hi (Nat.not_lt.mp hlt)
    refine wpAny_pyNext_range_end hh gI.1 (by lia) fun h₁ hs₁ => ?_
    refine hR h₁ tk m' ys ⟨F'.ns.extBut hs₁ (Ne.symm gI.2.1), fun b o e => hs₁ b o (fun q => by rw [q, gI.2.2] at e; cases e) (F'.keep b o e), F'.above⟩ (fun p hp => ?_) hys'
    have z := N' p (by rw [List.mem_singleton.mp hp]; exact List.mem_cons_self)
    refine ⟨hs₁ _ _ ?_ z.1, z.2⟩
    rw [List.mem_singleton.mp hp]; exact Ne.symm hI1D

theorem listComp2 {cl : List (Str × Addr)} {m : Str → Option Value} {news : List (Addr × Obj)} {h₀ : Heap} {L : Addr} {Q : Value → Shared → Prop} (n2 : Nat → Nat) (f : Nat → Nat → Int) (B : Nat) (_F₀ : Fr h₀ L s.heap m) (_N₀ : News h₀ L s.heap news)
    (hh : A.handled = none) (hclos : closureFor scope env = pure cl) (hcell : ∀ y ∈ scope.names, y.2 ≠ .cell) (hkind : scope.kind = .function)
    (hnames : ∀ y ∈ scope.names, y.2 = .local → scope.names.lookup y.1 = some .local) (hx1 : scope.names.lookup x1 = some .local) (hx2 : scope.names.lookup x2 = some .local) (hne : x1 ≠ x2)
    (hs1 : ∀ x, foldedSetIterable i1 env x = pure x) (hs2 : ∀ C x, foldedSetIterable i2 (compEnvC scope cl C env) x = pure x) (hB : ∀ k, n2 k ≤ B)
    (h : wpAny (model prog w) A (eval i1 env) (fun xv s₁ => Stop (∃ r t u z n1, xv = .ref r ∧ IsRange s₁.heap r 0 (n1 : Nat) 1 t u z ∧ n1 ≤ 100000 ∧ B * n1 ≤ 100000 ∧ Fr h₀ L s₁.heap m ∧ News h₀ L s₁.heap news ∧
      (∀ C k t h tk m' E' news', k < n1 → m' x1 = some (.int (k : Nat) t) → Fr s₁.heap C h m' → News s₁.heap C h news' →
        wpAny (model prog w) A (eval i2 (compEnvC scope cl C env)) (fun v s' => Stop (Gives s₁.heap C m' news' (fun h v => ∃ r t u z, v = .ref r ∧ IsRange h r 0 (n2 k : Nat) 1 t u z) { s₁ with heap := h, toks := tk } v s')) E' { s₁ with heap := h, toks := tk }) ∧
      (∀ C k j t u h tk m' E' news', k < n1 → j < n2 k → m' x1 = some (.int (k : Nat) t) → m' x2 = some (.int (j : Nat) u) → Fr s₁.heap C h m' → News s₁.heap C h news' →
        wpAny (model prog w) A (eval elt (compEnvC scope cl C env)) (fun v s' => Stop (Gives s₁.heap C m' news' (fun _ v => ∃ z, v = .int (f k j) z) { s₁ with heap := h, toks := tk } v s')) E' { s₁ with heap := h, toks := tk }) ∧
      (∀ D h' tk ys, Fr h₀ L h' m → News h₀ L h' ((D, lst ys) :: news) → (∀ p ∈ news, p.1 < D) → IntsAre ys ((List.range n1).flatMap fun k => (List.range (n2 k)).map (f k)) → Q (.ref D) { s₁ with heap := h', toks := tk }))) E s) :
    wpAny (model prog w) A (eval (two elt x1 p1 i1 x2 p2 i2 scope pos) env) Q E s := by
  rw [eval_ListComp]
  refine wpAny_comprehension_free (use := none) rfl hs1 hclos hkind hnames (wpAny_mono h (fun xv s₁ h₁ => ?_) fun _ _ e => e)
  obtain ⟨r, t, u, z, n1, rfl, hr, hn1, hBn, F, N, hi2, helt, hQ⟩ := h₁
  have hru := range_up (n := n1) hn1
  refine wpAny_pyIter_range hr hru.1 ?_
  rw [hru.2]
  refine wpAny_newObj_type (wpAny_newFunctionEnv hcell (by intro y hy; simp at hy) (fun h₁ hns₁ hsb₁ => ?_) hkind)
  dsimp only at hns₁ hsb₁ ⊢
  generalize hI : s₁.heap.objs.size = I1
  generalize hH1 : s₁.heap.push { cls := .type "range_iterator", data := .fields #[rawInt 0, rawInt (n1 : Nat), rawInt 1] } = H1 at hns₁ hsb₁ ⊢
  have z1 : H1.objs.size = I1 + 1 := by rw [← hH1, Heap.size_push, hI]
  generalize hD : H1.objs.size = D at hns₁ hsb₁ ⊢
  generalize hH2 : H1.push { cls := .type "list", dict := none, data := .seq ([] : List Value).toArray } = H2 at hns₁ hsb₁ ⊢
  have z2 : H2.objs.size = D + 1 := by rw [← hH2, Heap.size_push, hD]
  generalize hC : H2.objs.size = C at hns₁ hsb₁ ⊢
  have hlt1 : I1 < D := by lia
  have hlt2 : D < C := by lia
  have up1 : ∀ b o, s₁.heap.get? b = some o → H1.get? b = some o := fun b o e => hH1 ▸ Heap.get?_push_of_some _ e
  have up2 : ∀ b o, H1.get? b = some o → H2.get? b = some o := fun b o e => hH2 ▸ Heap.get?_push_of_some _ e
  have up3 : ∀ b o, b < C → H2.get? b = some o → h₁.get? b = some o := fun b o hb e => hsb₁.extBut b o (Nat.ne_of_lt hb) (Heap.get?_push_of_some _ e)
  have ltI : ∀ {b o}, s₁.heap.get? b = some o → b < I1 := fun e => hI ▸ Heap.lt_size e
  have fresh : ∀ a, I1 ≤ a → s₁.heap.get? a = none := fun a ha => Heap.get?_none_of_le (by rw [hI]; exact ha)
  have gI : H1.get? I1 = some (itR 0 n1) := by rw [← hH1, ← hI]; exact Heap.get?_push_size _ rfl
  have gD : H2.get? D = some (lst []) := by rw [← hH2, ← hD]; exact Heap.get?_push_size _ rfl
  have FC : Fr s₁.heap C h₁ _ := ⟨hns₁, fun b o e => up3 b o (Nat.lt_trans (ltI e) (Nat.lt_trans hlt1 hlt2)) (up2 _ _ (up1 _ _ e)), by rw [hI]; lia⟩
  have NC : News s₁.heap C h₁ [(D, lst []), (I1, itR 0 n1)] := by
    intro p hp
    rcases List.mem_cons.mp hp with rfl | hp
    · exact ⟨up3 _ _ hlt2 gD, Nat.ne_of_lt hlt2, fresh _ (Nat.le_of_lt hlt1)⟩
    · rw [List.mem_singleton.mp hp]
      exact ⟨up3 _ _ (Nat.lt_trans hlt1 hlt2) (up2 _ _ gI), Nat.ne_of_lt (Nat.lt_trans hlt1 hlt2), fresh _ (Nat.le_refl _)⟩
  have loop : ∀ s₃ : Shared, (∃ tk, s₃ = { s₁ with heap := h₁, toks := tk }) →
      codeAny (model prog w) A (.compLoop (two elt x1 p1 i1 x2 p2 i2 scope pos) 0 (.ref I1) (.ref D) (compEnvC scope cl C env)) (compPost (model prog w) A E none Q (.ref D) C) s₃ := by
    rintro s₃ ⟨tk, rfl⟩
    refine out_turns (env := compEnvC scope cl C env) (base := s₁.heap) (n1 := n1) n2 f B hh (lookup_relabel_local hx1) (lookup_relabel_local hx2) (by simp [compEnvC, relabel, hkind]) hne (hs2 C) (Nat.ne_of_lt hlt1) FC NC hB hBn
      (fun k t h tk m' E' news' a b c d => hi2 C k t h tk m' E' news' a b c d) (fun k j t u h tk m' E' news' a b c d e g => helt C k j t u h tk m' E' news' a b c d e g) fun h tk' m' ys F' N' hys => ?_
    refine ⟨m', F'.ns, fun h'' hs'' => ?_⟩
    have hkC : ∀ b o, s₁.heap.get? b = some o → h''.get? b = some o := fun b o e => hs''.extBut b o (Nat.ne_of_lt (Nat.lt_trans (ltI e) (Nat.lt_trans hlt1 hlt2))) (F'.keep b o e)
    have gN := N' _ List.mem_cons_self
    refine hQ D h'' tk' ys (F.keeps hkC) (fun p hp => ?_) (fun p hp => ?_) hys
    · rcases List.mem_cons.mp hp with rfl | hp
      · refine ⟨hs''.extBut _ _ gN.2.1 gN.1, ?_, ?_⟩
        · have q := F.ns.lt
          rw [hI] at q
          exact Ne.symm (Nat.ne_of_lt (Nat.lt_trans q hlt1))
        · cases q : h₀.get? D with
          | none => rfl
          | some o => have := F.keep _ _ q; rw [gN.2.2] at this; cases this
      · exact N.grown hkC p hp
    · exact Nat.lt_trans (ltI (N p hp).1) hlt1
  exact codeAny_compStart_list (loop _ ⟨_, rfl⟩) (wpAny_pyIter_rangeiter (it := I1) (x := 0) (left := (n1 : Nat)) (step := 1) (NC _ (List.mem_cons_of_mem _ List.mem_cons_self)).1 (loop _ ⟨_, rfl⟩))
end
section
variable {M : Model} {A : Around} {E : Value → Shared → Prop} {s : Shared} {h₀ : Heap} {C c : Addr} {m mg mb : Str → Option Value} {sc : Scope} {cl : List (Str × Addr)} {env : Env} {x : Str} {pos : Pos} {v : Value} {Q : Value → Shared → Prop}
theorem nameE_L (F : Fr h₀ C s.heap m) (hv : m x = some v) (h : Q v s) (hk : (compEnvC sc cl C env).scope.kind = .function) (hx : (compEnvC sc cl C env).kindOf x = some .local) (hd : (x == ("__debug__" : Str)) = false) :
    wpAny M A (eval (.Name x pos) (compEnvC sc cl C env)) Q E s := wpAny_Name (wpAny_loadName_local hk hx F.ns hv h) hd
theorem nameE_C (F : Fr h₀ C s.heap m) (hc : cl.lookup x = some c) (hv : h₀.IsCell c (some v)) (h : Q v s) (hk : (compEnvC sc cl C env).scope.kind = .function) (hx : (compEnvC sc cl C env).kindOf x = some .cell) (hd : (x == ("__debug__" : Str)) = false) :
    wpAny M A (eval (.Name x pos) (compEnvC sc cl C env)) Q E s := wpAny_Name (wpAny_loadName_cell hk hx hc (hv.keeps F.keep) h) hd
theorem nameE_G (F : Fr h₀ C s.heap m) (hg : h₀.Ns mainGlobals mg) (e : mg x = some v) (h : Q v s) (heg : env.globals = mainGlobals) (hk : (compEnvC sc cl C env).scope.kind = .function) (hx : (compEnvC sc cl C env).kindOf x = some .globalImplicit) (hd : (x == ("__debug__" : Str)) = false) :
    wpAny M A (eval (.Name x pos) (compEnvC sc cl C env)) Q E s := Name_function_global hk hx (loadGlobal_global (env := compEnvC sc cl C env) (by show s.heap.Ns env.globals mg; rw [heg]; exact hg.keeps F.keep) e h) hd
theorem nameE_B (F : Fr h₀ C s.heap m) (hg : h₀.Ns mainGlobals mg) (hb : h₀.Ns builtinsNs mb) (e : mg x = none) (hbb : ∀ x : Str, x ≠ "__name__" → mb x = bootBuiltins x) (hv : bootBuiltins x = some v) (hn : x ≠ "__name__") (h : Q v s)
    (heg : env.globals = mainGlobals) (heb : env.builtins = builtinsNs) (hk : (compEnvC sc cl C env).scope.kind = .function) (hx : (compEnvC sc cl C env).kindOf x = some .globalImplicit) (hd : (x == ("__debug__" : Str)) = false) :
    wpAny M A (eval (.Name x pos) (compEnvC sc cl C env)) Q E s :=
  Name_function_global hk hx (loadGlobal_builtin (env := compEnvC sc cl C env) (by show s.heap.Ns env.globals mg; rw [heg]; exact hg.keeps F.keep) e (by show s.heap.Ns env.builtins mb; rw [heb]; exact hb.keeps F.keep) ((hbb x hn).trans hv) h) hd
end

end

section
/-- what a while's body may end in, its own words apart -/
structure WB (h₀ : Heap) (L : Addr) (s : Shared) (J : Nat → (Str → Option Value) → List (Addr × Obj) → Prop) (Q : Flow → Shared → Prop) (n : Nat) (Q' : Flow → Shared → Prop) : Prop where
  fin : ∀ {s₂}, WEnd h₀ L s J n s₂ → Q' .next s₂
  cont : ∀ {s₂}, WEnd h₀ L s J n s₂ → Q' .cont s₂
  brk : ∀ {s₂}, Q .next s₂ → Q' .brk s₂
  ret : ∀ {v s₂}, Q (.ret v) s₂ → Q' (.ret v) s₂
theorem gen_while {prog : Program} {w : World} {A : Around} {E : Value → Shared → Prop} {C : Sem Bool} {body : List Stmt} {env : Env} {h₀ : Heap} {L : Addr} {s s₁ : Shared} {J : Nat → (Str → Option Value) → List (Addr × Obj) → Prop} {Q : Flow → Shared → Prop} {n : Nat}
    (h : ∀ Q', WB h₀ L s J Q n Q' → wpAny (model prog w) A C (fun b s₂ => if b = true then wpAny (model prog w) A (execs body env) Q' E s₂ else Q' .brk s₂) E s₁) :
    wpAny (model prog w) A C (fun b s₂ => if b = true then wpAny (model prog w) A (execs body env) (WStep h₀ L s J Q n) E s₂ else Q .next s₂) E s₁ := h (WStep h₀ L s J Q n) ⟨fun x => x, fun x => x, fun x => x, fun x => x⟩
/-- the same of a for's body -/
structure UB (h₀ : Heap) (L : Addr) (s₁ : Shared) (I : Addr) (it : Obj) (rest : (Str → Option Value) → List (Addr × Obj) → Prop) (Q Q' : Flow → Shared → Prop) : Prop where
  fin : ∀ {s₂}, UnrEnd h₀ L s₁ I it rest s₂ → Q' .next s₂
  cont : ∀ {s₂}, UnrEnd h₀ L s₁ I it rest s₂ → Q' .cont s₂
  brk : ∀ {s₂}, Q .next s₂ → Q' .brk s₂
  ret : ∀ {v s₂}, Q (.ret v) s₂ → Q' (.ret v) s₂
theorem gen_unr {prog : Program} {w : World} {A : Around} {E : Value → Shared → Prop} {body : List Stmt} {env : Env} {h₀ : Heap} {L I : Addr} {it : Obj} {s s₁ : Shared} {rest : (Str → Option Value) → List (Addr × Obj) → Prop} {Q : Flow → Shared → Prop}
    (h : ∀ Q', UB h₀ L s₁ I it rest Q Q' → wpAny (model prog w) A (execs body env) Q' E s) : wpAny (model prog w) A (execs body env) (UnrPost h₀ L s₁ I it rest Q) E s := h (UnrPost h₀ L s₁ I it rest Q) ⟨fun x => x, fun x => x, fun x => x, fun x => x⟩

end

section
noncomputable def flatS (ys : List Str) : List Nat := ys.flatMap fun y => y.cps.toList
theorem flatS_snoc (ys : List Str) (y : Str) : flatS (ys ++ [y]) = flatS ys ++ y.cps.toList := by simp [flatS]
noncomputable def NoDbl : List (Option (List Nat)) → Prop
  | none :: none :: _ => False
  | _ :: ps => NoDbl ps
  | [] => True
theorem trs_head (l : List Nat) : ∀ r, trs true l ≠ none :: r := by
  induction l with
  | nil => intro r h; cases h
  | cons c l ih =>
    intro r h
    unfold trs at h
    split at h
    · exact ih r (by simpa using h)
    · cases h
theorem noDbl_trs : ∀ (l : List Nat) (st : Bool), NoDbl (trs st l)
  | [], _ => trivial
  | c :: l, st => by
    unfold trs
    split
    · split
      · exact noDbl_trs l true
      · have h1 := trs_head l
        have h2 := noDbl_trs l true
        cases q : trs true l with
        | nil => trivial
        | cons p r =>
          cases p with
          | none => exact absurd q (h1 r)
          | some x => rw [q] at h2; exact h2
    · exact noDbl_trs l false
theorem noDbl_at : ∀ {ps : List (Option (List Nat))} {i : Nat}, NoDbl ps → ps[i]? = some none → ps[i + 1]? ≠ some none
  | none :: none :: _, _, h, _ => h.elim
  | [none], 0, _, _ => by simp
  | none :: some x :: ps, 0, _, _ => by simp
  | none :: some x :: ps, i + 1, h, e => by
    have := noDbl_at (ps := some x :: ps) (i := i) h (by simpa using e)
    simpa using this
  | [none], i + 1, _, e => by simp at e
  | some x :: ps, 0, _, e => by simp at e
  | some x :: ps, i + 1, h, e => by
    have := noDbl_at (ps := ps) (i := i) (by cases ps <;> exact h) (by simpa using e)
    simpa using this
  | [], _, _, e => by simp at e
theorem drop_some {ps : List (Option (List Nat))} {i : Nat} {p : Option (List Nat)} (e : ps[i]? = some p) : ps.drop i = p :: ps.drop (i + 1) := by
  obtain ⟨h, e⟩ := List.getElem?_eq_some_iff.mp e
  rw [List.drop_eq_getElem_cons h, e]
/-- the state of the join between the turns -/
noncomputable def JAt (ps : List (Option (List Nat))) (i : Nat) (ys : List Str) : Prop := flatS ys ++ jt false (ps.drop i) = jt false ps
theorem JAt.start {ps : List (Option (List Nat))} : JAt ps 0 [] := rfl
theorem JAt.put {ps : List (Option (List Nat))} {i : Nat} {ys : List Str} {x : List Nat} (h : JAt ps i ys) (e : ps[i]? = some (some x)) : JAt ps (i + 1) (ys ++ [⟨x.toArray⟩]) := by
  unfold JAt at *
  rw [drop_some e] at h
  rw [flatS_snoc, ← h]
  simp [jt]
theorem JAt.len {ps : List (Option (List Nat))} {i : Nat} {ys : List Str} (h : JAt ps i ys) : (flatS ys).length ≤ (jt false ps).length := by
  rw [← show _ = jt false ps from h]; simp
theorem hasStar_cons (p : Option (List Nat)) (ps : List (Option (List Nat))) : hasStar (p :: ps) = (p == none || hasStar ps) := rfl
/-- the inner loop -/
noncomputable def IAt (ps : List (Option (List Nat))) (i j : Nat) (ys : List Str) : Prop := (∀ h, jt h (ps.drop i) = flatS ys ++ jt h (ps.drop j)) ∧ hasStar (ps.drop i) = hasStar (ps.drop j)
theorem IAt.start {ps : List (Option (List Nat))} {i : Nat} : IAt ps i i [] := ⟨fun _ => rfl, rfl⟩
theorem IAt.put {ps : List (Option (List Nat))} {i j : Nat} {ys : List Str} {x : List Nat} (h : IAt ps i j ys) (e : ps[j]? = some (some x)) : IAt ps i (j + 1) (ys ++ [⟨x.toArray⟩]) := by
  refine ⟨fun b => ?_, ?_⟩
  · rw [h.1 b, drop_some e, flatS_snoc]; simp [jt]
  · rw [h.2, drop_some e, hasStar_cons]; rfl
theorem JAt.lone {ps : List (Option (List Nat))} {i : Nat} {ys : List Str} {Y : Str} (h : JAt ps i ys) (e : ps[i]? = some none) (hn : i + 1 = ps.length) (hY : Y.cps.toList = [46, 42]) : JAt ps (i + 1) (ys ++ [Y]) := by
  unfold JAt at *
  rw [drop_some e, List.drop_eq_nil_of_le (by lia)] at h
  rw [flatS_snoc, ← h, List.drop_eq_nil_of_le (by lia), hY]
  simp [jt, hasStar]
theorem JAt.last {ps : List (Option (List Nat))} {i : Nat} {ys zs : List Str} {Y Z : Str} (h : JAt ps i ys) (e : ps[i]? = some none) (k : IAt ps (i + 1) ps.length zs) (hY : Y.cps.toList = [46, 42]) (hZ : Z.cps.toList = flatS zs) : JAt ps ps.length (ys ++ [Y] ++ [Z]) := by
  unfold JAt at *
  have hs : hasStar (ps.drop (i + 1)) = false := by rw [k.2, List.drop_length]; rfl
  rw [drop_some e] at h
  simp only [jt, hs] at h
  rw [k.1 false, List.drop_length] at h
  rw [flatS_snoc, flatS_snoc, ← h, List.drop_length, hY, hZ]
  simp [jt]
theorem JAt.held {ps : List (Option (List Nat))} {i j : Nat} {ys zs : List Str} {Y : Str} (h : JAt ps i ys) (e : ps[i]? = some none) (k : IAt ps (i + 1) j zs) (ej : ps[j]? = some none) (hY : Y.cps.toList = [40, 63, 62, 46, 42, 63] ++ flatS zs ++ [41]) : JAt ps j (ys ++ [Y]) := by
  unfold JAt at *
  have hs : hasStar (ps.drop (i + 1)) = true := by rw [k.2, drop_some ej]; rfl
  rw [drop_some e] at h
  simp only [jt, hs, if_true] at h
  rw [k.1 true, drop_some ej] at h
  rw [flatS_snoc, ← h, drop_some ej, hY]
  simp [jt]
theorem JAt.inner {ps : List (Option (List Nat))} {i j : Nat} {ys zs : List Str} (h : JAt ps i ys) (e : ps[i]? = some none) (k : IAt ps (i + 1) j zs) : (flatS zs).length ≤ (jt false ps).length := by
  have z : ∀ b, (flatS zs).length ≤ (jt b (ps.drop (i + 1))).length := fun b => by rw [k.1 b]; simp
  unfold JAt at *
  rw [drop_some e] at h
  rw [← h, List.length_append]
  have z1 := z true
  have z2 := z false
  have : (jt false (none :: ps.drop (i + 1))).length = (if hasStar (ps.drop (i + 1)) = true then 6 + (jt true (ps.drop (i + 1))).length else 2 + (jt false (ps.drop (i + 1))).length) := by
    simp only [jt]
    cases hasStar (ps.drop (i + 1)) <;> simp <;> lia
  rw [this]
  split <;> lia
theorem JAt.done {ps : List (Option (List Nat))} {i : Nat} {ys : List Str} (h : JAt ps i ys) (hi : ps.length ≤ i) : flatS ys = jt false ps := by
  unfold JAt at h
  rw [List.drop_eq_nil_of_le hi] at h
  simpa [jt] using h
theorem strsAre_snoc {y : Str} {t : Tok} : ∀ {vs : List Value} {ys : List Str}, StrsAre vs ys → StrsAre (vs ++ [.str y t]) (ys ++ [y])
  | _, _, .nil => .cons _ _ .nil
  | _, _, .cons _ _ h => .cons _ _ (strsAre_snoc h)

end

section
theorem join_empty : ∀ ys : List Str, (Str.join (Str.ofString "") ys).cps.toList = flatS ys
  | [] => rfl
  | [y] => by simp [Str.join, flatS]
  | y :: z :: r => by
    have ih := join_empty (z :: r)
    show (y ++ Str.ofString "" ++ Str.join (Str.ofString "") (z :: r)).cps.toList = _
    have e : Str.ofString "" = (⟨#[]⟩ : PySem.Str) := by decide +kernel
    have : (y ++ Str.ofString "" ++ Str.join (Str.ofString "") (z :: r)).cps = y.cps ++ #[] ++ (Str.join (Str.ofString "") (z :: r)).cps := by rw [e]; rfl
    rw [this]
    simp only [Array.toList_append, ih, flatS, List.flatMap_cons]
    simp
theorem tjoin_empty (ys : List Str) : (Txt.join (Str.ofString "") ys).cps.toList = flatS ys := by
  have h := join_closes (ys := ys) (rfl : Str.ofString "" = Str.ofString "")
  rw [eq_of_beq h]
  exact join_empty ys
theorem sum_flatS : ∀ ys : List Str, (ys.map (·.length)).sum = (flatS ys).length
  | [] => rfl
  | y :: r => by
    rw [List.map_cons, List.sum_cons, sum_flatS r]
    simp [flatS, PySem.Str.length]
theorem r_join {prog : Program} {w : World} {A : Around} {E : Value → Shared → Prop} {s : Shared} {l : Addr} {vs : List Value} {ys : List Str} {t : Tok} {Q : Value → Shared → Prop} (hl : s.heap.IsList l vs.toArray) (hs : StrsAre vs ys)
    (hz : (flatS ys).length ≤ 100000) (hn : ys.length ≤ 100000) (h : ∀ (Y : Str) t' k, Y.cps.toList = flatS ys → Y.length = (flatS ys).length → Q (.str Y t') { s with toks := k }) :
    wpAny (model prog w) A (call (.builtin "str.join") [.str (Str.ofString "") t, .ref l]) Q E s := by
  refine join_listC (ys := ys) hl (by simpa using hs) (by decide) (by rw [sum_flatS]; lia) fun t' k => h _ t' k (tjoin_empty ys) ?_
  rw [← tjoin_empty ys]
  simp [PySem.Str.length]
theorem StrsAre.len : ∀ {vs : List Value} {ys : List Str}, StrsAre vs ys → vs.length = ys.length
  | _, _, .nil => rfl
  | _, _, .cons _ _ h => by simp [StrsAre.len h]

end

section
/-- _join_translated_parts between the turns -/
structure JS (ps : List (Option (List Nat))) (nI : Nat) (I S l' B' : Addr) (C : Nat → Nat → Prop) (m : Str → Option Value) (news : List (Addr × Obj)) : Prop where
  ex : ∃ i vs ys cnt, C i vs.length ∧ (∃ z t, m "i" = some (.int z t) ∧ z = (i : Int)) ∧ (∃ t, m "n" = some (.int (nI : Int) t)) ∧ m "add" = some (.ref B') ∧ m "res" = some (.ref l') ∧
    m "inp" = some (.ref I) ∧ m "STAR" = some (.ref S) ∧ news = [(l', listOf (List.toArray vs) cnt), (B', bndObj l')] ∧ StrsAre vs ys ∧ JAt ps i ys
theorem JS.el {ps : List (Option (List Nat))} {nI : Nat} {I S l' B' : Addr} {C : Nat → Nat → Prop} {m : Str → Option Value} {news : List (Addr × Obj)} {P : Prop} {G : List (Addr × Obj) → Prop} (h : JS ps nI I S l' B' C m news) (N : G news)
    (k : ∀ i vs ys cnt ti tn, C i (List.length vs) → m "i" = some (.int (i : Int) ti) → m "n" = some (.int (nI : Int) tn) → m "add" = some (.ref B') → m "res" = some (.ref l') → m "inp" = some (.ref I) → m "STAR" = some (.ref S) → StrsAre vs ys → JAt ps i ys →
      G [(l', listOf (List.toArray vs) cnt), (B', bndObj l')] → P) : P := by
  obtain ⟨i, vs, ys, cnt, c, ⟨z, ti, mi, rfl⟩, ⟨tn, mn⟩, a, b, c', d, rfl, e, f⟩ := h.ex
  exact k i vs ys cnt ti tn c mi mn a b c' d e f N
theorem JS.mk' {ps : List (Option (List Nat))} {nI : Nat} {I S l' B' : Addr} {C : Nat → Nat → Prop} {m : Str → Option Value} (i : Nat) {vs : List Value} {ys : List Str} {cnt : Nat} {z : Int} {ti tn : Tok} (c : C i vs.length) (hz : z = (i : Int))
    (mi : m "i" = some (.int z ti)) (mn : m "n" = some (.int (nI : Int) tn)) (a : m "add" = some (.ref B')) (b : m "res" = some (.ref l')) (c' : m "inp" = some (.ref I)) (d : m "STAR" = some (.ref S)) (e : StrsAre vs ys) (f : JAt ps i ys) :
    JS ps nI I S l' B' C m [(l', listOf vs.toArray cnt), (B', bndObj l')] := ⟨i, vs, ys, cnt, c, ⟨z, ti, mi, hz⟩, ⟨tn, mn⟩, a, b, c', d, rfl, e, f⟩
/-- the same while a stretch is taken -/
structure JF (ps : List (Option (List Nat))) (nI : Nat) (I S l' B' fx : Addr) (i cnt : Nat) (vs : List Value) (C : Nat → Nat → Prop) (m : Str → Option Value) (news : List (Addr × Obj)) : Prop where
  ex : ∃ j zvs zs zc, C j zvs.length ∧ (∃ z t, m "i" = some (.int z t) ∧ z = (j : Int)) ∧ (∃ t, m "n" = some (.int (nI : Int) t)) ∧ m "add" = some (.ref B') ∧ m "res" = some (.ref l') ∧
    m "inp" = some (.ref I) ∧ m "STAR" = some (.ref S) ∧ m "fixed" = some (.ref fx) ∧ news = [(fx, listOf (List.toArray zvs) zc), (l', listOf vs.toArray cnt), (B', bndObj l')] ∧ StrsAre zvs zs ∧ IAt ps (i + 1) j zs
theorem JF.el {ps : List (Option (List Nat))} {nI : Nat} {I S l' B' fx : Addr} {i cnt : Nat} {vs : List Value} {C : Nat → Nat → Prop} {m : Str → Option Value} {news : List (Addr × Obj)} {P : Prop} {G : List (Addr × Obj) → Prop} (h : JF ps nI I S l' B' fx i cnt vs C m news) (N : G news)
    (k : ∀ j zvs zs zc tj tn, C j (List.length zvs) → m "i" = some (.int (j : Int) tj) → m "n" = some (.int (nI : Int) tn) → m "add" = some (.ref B') → m "res" = some (.ref l') → m "inp" = some (.ref I) → m "STAR" = some (.ref S) → m "fixed" = some (.ref fx) → StrsAre zvs zs → IAt ps (i + 1) j zs →
      G [(fx, listOf (List.toArray zvs) zc), (l', listOf vs.toArray cnt), (B', bndObj l')] → P) : P := by
  obtain ⟨j, zvs, zs, zc, c, ⟨z, ti, mi, rfl⟩, ⟨tn, mn⟩, a, b, c', d, g, rfl, e, f⟩ := h.ex
  exact k j zvs zs zc ti tn c mi mn a b c' d g e f N
theorem JF.mk' {ps : List (Option (List Nat))} {nI : Nat} {I S l' B' fx : Addr} {i cnt : Nat} {vs : List Value} {C : Nat → Nat → Prop} {m : Str → Option Value} (j : Nat) {zvs : List Value} {zs : List Str} {zc : Nat} {z : Int} {tj tn : Tok} (c : C j zvs.length) (hz : z = (j : Int))
    (mi : m "i" = some (.int z tj)) (mn : m "n" = some (.int (nI : Int) tn)) (a : m "add" = some (.ref B')) (b : m "res" = some (.ref l')) (c' : m "inp" = some (.ref I)) (d : m "STAR" = some (.ref S)) (g : m "fixed" = some (.ref fx)) (e : StrsAre zvs zs) (f : IAt ps (i + 1) j zs) :
    JF ps nI I S l' B' fx i cnt vs C m [(fx, listOf zvs.toArray zc), (l', listOf vs.toArray cnt), (B', bndObj l')] := ⟨j, zvs, zs, zc, c, ⟨z, tj, mi, hz⟩, ⟨tn, mn⟩, a, b, c', d, g, rfl, e, f⟩
/-- an item of the parts -/
theorem PartsAre.at_none {S : Addr} {vs : List Value} {ps : List (Option (List Nat))} (h : PartsAre S vs ps) {i : Nat} (hp : ps[i]? = some none) : vs[i]? = some (.ref S) := by
  obtain ⟨v, hv, rfl⟩ := h.get hp
  exact hv
theorem PartsAre.at_some {S : Addr} {vs : List Value} {ps : List (Option (List Nat))} (h : PartsAre S vs ps) {i : Nat} {y : List Nat} (hp : ps[i]? = some (some y)) {P : Prop} (k : ∀ t, vs[i]? = some (.str ⟨y.toArray⟩ t) → P) : P := by
  obtain ⟨v, hv, t, rfl⟩ := h.get hp
  exact k t hv
theorem part_at {ps : List (Option (List Nat))} {i : Nat} (hi : i < ps.length) {P : Prop} (hn : ps[i]? = some none → P) (hs : ∀ y, ps[i]? = some (some y) → P) : P := by
  cases e : ps[i] with
  | none => exact hn (by rw [List.getElem?_eq_getElem hi, e])
  | some y => exact hs y (by rw [List.getElem?_eq_getElem hi, e])

end

section
/-- ints of the rows' numbers -/
noncomputable def SmallIs (ys : List Value) : Prop := ∀ y ∈ ys, ∃ m u, y = Value.int m u ∧ 0 ≤ m ∧ m < 1000000
theorem paired_small {vs ys : List Value} (h : Paired (fun v y => ∃ n t m u, v = Value.int n t ∧ y = Value.int m u ∧ 0 ≤ m ∧ m < 1000000) vs ys) : SmallIs ys ∧ ys.length = vs.length := by
  induction h with
  | nil => exact ⟨fun y hy => (nomatch hy), rfl⟩
  | cons a _ ih =>
    obtain ⟨n, t, m, u, _, e, h1, h2⟩ := a
    refine ⟨fun y hy => ?_, by simp [ih.2]⟩
    rcases List.mem_cons.mp hy with rfl | hy
    · exact ⟨m, u, e, h1, h2⟩
    · exact ih.1 y hy
theorem mod_small (n : Int) : 0 ≤ n.fmod (10 ^ Int.toNat 6) ∧ n.fmod (10 ^ Int.toNat 6) < 1000000 := by
  rw [show (10 : Int) ^ Int.toNat 6 = 1000000 by decide, Int.fmod_eq_emod_of_nonneg _ (by decide)]
  omega
section
variable {prog : Program} {w : World} {A : Around} {E : Value → Shared → Prop} {s : Shared} {env : Env} {h₀ : Heap} {L : Addr}
/-- an if whose ways meet -/
theorem if_join {test : Expr} {body orelse : List Stmt} {pos : Pos} {Q : Flow → Shared → Prop} (X : (Str → Option Value) → List (Addr × Obj) → Prop)
    (h : wpAny (model prog w) A (exec (.If test body orelse pos) env) (XQ h₀ L s X Q) E s)
    (rest : ∀ m news h tk, X m news → Fr h₀ L h m → News h₀ L h news → Q .next { s with heap := h, toks := tk }) :
    wpAny (model prog w) A (exec (.If test body orelse pos) env) Q E s := by
  refine wpAny_mono h (fun fl s' q => ?_) fun _ _ e => e
  cases fl with
  | next =>
    obtain ⟨m, news, h', tk, rfl, F, N, x⟩ := q
    exact rest m news h' tk x F N
  | cont => exact q
  | brk => exact q
  | ret v => exact q
end
/-- what stands behind the rows' if -/
noncomputable def NumsAt (m : Str → Option Value) (news : List (Addr × Obj)) : Prop := ∃ Dn ys nk, news = [(Dn, listOf (List.toArray ys) nk)] ∧ m "numbers" = some (.ref Dn) ∧ SmallIs ys ∧ 3 ≤ ys.length ∧ ys.length ≤ 8
noncomputable def RowsSt (lo lr : Addr) (dn : Addr × Obj) (i : Nat) (m : Str → Option Value) (news : List (Addr × Obj)) : Prop :=
  ∃ vo ko vr kr octets row, news = (lr, listOf (List.toArray vr) kr) :: (lo, listOf (List.toArray vo) ko) :: [dn] ∧ IntsP vo octets ∧ IntsP vr row ∧ Oct octets ∧ Oct row ∧ octets.length = i ∧ row.length ≤ i ∧ m "octets" = some (.ref lo) ∧ m "row" = some (.ref lr)
theorem small_snoc {ys : List Value} {t u v : Tok} (h : SmallIs ys) : SmallIs (ys ++ [Value.int 0 t, Value.int 34 u, Value.int 34 v]) := by
  intro y hy
  rcases List.mem_append.mp hy with hy | hy
  · exact h y hy
  · simp only [List.mem_cons, List.not_mem_nil, or_false] at hy
    rcases hy with rfl | rfl | rfl
    · exact ⟨0, t, rfl, by decide, by decide⟩
    · exact ⟨34, u, rfl, by decide, by decide⟩
    · exact ⟨34, v, rfl, by decide, by decide⟩
theorem find_small : ∀ o : Nat, o < 256 → (-1 : Int) ≤ Txt.find (Str.ofString "0123456789ABCDEF") ⟨#[o]⟩ ∧ Txt.find (Str.ofString "0123456789ABCDEF") ⟨#[o]⟩ ≤ 15 := by decide +kernel
theorem octet_small {x : Int} : ∃ o : Nat, o < 256 ∧ ([42, 42, 65, 51, 68, 61, 170, 163, 211, 58, 103, 32, 95, 63, 91, (x.fdiv 16).fmod 256] : List Int).getD (x.fmod 16).toNat 0 = (o : Int) := by
  have h : ∀ y ∈ ([42, 42, 65, 51, 68, 61, 170, 163, 211, 58, 103, 32, 95, 63, 91, (x.fdiv 16).fmod 256] : List Int), 0 ≤ y ∧ y < 256 := by
    have : 0 ≤ (x.fdiv 16).fmod 256 ∧ (x.fdiv 16).fmod 256 < 256 := by rw [Int.fmod_eq_emod_of_nonneg _ (by decide)]; omega
    intro y hy
    simp only [List.mem_cons, List.not_mem_nil, or_false] at hy
    omega
  rw [List.getD_eq_getElem?_getD]
  cases e : ([42, 42, 65, 51, 68, 61, 170, 163, 211, 58, 103, 32, 95, 63, 91, (x.fdiv 16).fmod 256] : List Int)[(x.fmod 16).toNat]? with
  | none => exact ⟨0, by decide, rfl⟩
  | some y =>
    have := h y (List.mem_of_getElem? e)
    exact ⟨y.toNat, by omega, by simp; omega⟩
section
variable {prog : Program} {w : World} {A : Around} {E : Value → Shared → Prop} {s : Shared} {env : Env} {h₀ : Heap} {L : Addr}
/-- a statement whose ways meet -/
theorem execs_join {st : Stmt} {tail : List Stmt} {Q : Flow → Shared → Prop} (X : (Str → Option Value) → List (Addr × Obj) → Prop)
    (h : wpAny (model prog w) A (exec st env) (XQ h₀ L s X (fun _ _ => False)) E s)
    (rest : ∀ m news h tk, X m news → Fr h₀ L h m → News h₀ L h news → wpAny (model prog w) A (execs tail env) Q E { s with heap := h, toks := tk }) :
    wpAny (model prog w) A (execs (st :: tail) env) Q E s := by
  refine wpAny_execs_cons (wpAny_mono h (fun fl s' q => ?_) fun _ _ e => e)
  cases fl with
  | next =>
    obtain ⟨m, news, h', tk, rfl, F, N, x⟩ := q
    exact rest m news h' tk x F N
  | cont => exact q.elim
  | brk => exact q.elim
  | ret v => exact q.elim
end
noncomputable def OneOct (us : List Value) : Prop := ∃ r, IntsP us r ∧ Oct r ∧ r.length ≤ 1
theorem oneOct {o : Nat} {z : Int} {t : Tok} (h : z = (o : Int)) (ho : o < 256) : OneOct [Value.int z t] :=
  ⟨[o], by rw [h]; exact .cons _ _ .nil, fun a ha => by rw [List.mem_singleton.mp ha]; exact ho, Nat.le_refl _⟩
theorem noOct : OneOct [] := ⟨[], .nil, fun a ha => (nomatch ha), Nat.zero_le _⟩
/-- what stands behind the ways' making -/
noncomputable def WaysAt (led : List (Addr × Obj)) (lo lr : Addr) (o : Nat) (x : Int) (m : Str → Option Value) (news : List (Addr × Obj)) : Prop :=
  ∃ W wvs wn new, news = led ++ ((W, listOf (List.toArray wvs) wn) :: new) ∧ m "ways" = some (.ref W) ∧ (∃ t, m "octet" = some (.int (o : Int) t)) ∧ (∃ t, m "x" = some (.int x t)) ∧ m "octets" = some (.ref lo) ∧ m "row" = some (.ref lr) ∧ wvs.length = 8 ∧
    (∀ p ∈ (W, listOf (List.toArray wvs) wn) :: new, lr < p.1 ∧ lo < p.1) ∧ ∀ k, k < 8 → ∃ (a : Addr) (us : List Value) (n : Nat), wvs[k]? = some (.ref a) ∧ (a, listOf us.toArray n) ∈ new ∧ OneOct us
theorem ways_mk {h₀ h' : Heap} {L lo lr W a1 a2 a3 a4 a5 a6 a7 a8 D : Addr} {s : Shared} {tk : Nat} {o : Nat} {x : Int} {m' : Str → Option Value} {u1 u2 u3 u4 u5 u6 u7 u8 : List Value} {dob : Obj} {led : List (Addr × Obj)}
    (F : Fr h₀ L h' m') (N : News h₀ L h' ((W, listOf #[.ref a1, .ref a2, .ref a3, .ref a4, .ref a5, .ref a6, .ref a7, .ref a8] 0) :: (a8, listOf u8.toArray 0) :: (a7, listOf u7.toArray 0) :: (a6, listOf u6.toArray 0) :: (a5, listOf u5.toArray 0) :: (a4, listOf u4.toArray 0) :: (a3, listOf u3.toArray 0) :: (a2, listOf u2.toArray 0) :: (a1, listOf u1.toArray 0) :: (D, dob) :: led))
    (o1 : OneOct u1) (o2 : OneOct u2) (o3 : OneOct u3) (o4 : OneOct u4) (o5 : OneOct u5) (o6 : OneOct u6) (o7 : OneOct u7) (o8 : OneOct u8) (hD : lr < D ∧ lo < D) (h1 : D < a1) (h2 : a1 < a2) (h3 : a2 < a3) (h4 : a3 < a4) (h5 : a4 < a5) (h6 : a5 < a6) (h7 : a6 < a7) (h8 : a7 < a8) (hW : a8 < W)
    (mw : m' "ways" = some (.ref W)) (mo : ∃ t, m' "octet" = some (.int (o : Int) t)) (mx : ∃ t, m' "x" = some (.int x t)) (ms : m' "octets" = some (.ref lo)) (mr : m' "row" = some (.ref lr)) :
    XQ h₀ L s (WaysAt led lo lr o x) (fun _ _ => False) .next { s with heap := h', toks := tk } := by
  refine XQ.intro F (news := led ++ ((W, listOf (List.toArray [.ref a1, .ref a2, .ref a3, .ref a4, .ref a5, .ref a6, .ref a7, .ref a8]) 0) :: [(a8, listOf u8.toArray 0), (a7, listOf u7.toArray 0), (a6, listOf u6.toArray 0), (a5, listOf u5.toArray 0), (a4, listOf u4.toArray 0), (a3, listOf u3.toArray 0), (a2, listOf u2.toArray 0), (a1, listOf u1.toArray 0)])) (fun p hp => N p ?_) ⟨W, _, 0, _, rfl, mw, mo, mx, ms, mr, rfl, ?_, ?_⟩
  · simp only [List.mem_append, List.mem_cons, List.not_mem_nil, or_false] at hp ⊢
    rcases hp with hp | hp | hp | hp | hp | hp | hp | hp | hp | hp <;> simp only [hp, true_or, or_true]
  · intro p hp
    simp only [List.mem_cons, List.not_mem_nil, or_false] at hp
    have up : ∀ {b c : Addr}, (lr < b ∧ lo < b) → b < c → lr < c ∧ lo < c := fun h k => ⟨Nat.lt_trans h.1 k, Nat.lt_trans h.2 k⟩
    have c1 := up hD h1
    have c2 := up c1 h2
    have c3 := up c2 h3
    have c4 := up c3 h4
    have c5 := up c4 h5
    have c6 := up c5 h6
    have c7 := up c6 h7
    have c8 := up c7 h8
    rcases hp with rfl | rfl | rfl | rfl | rfl | rfl | rfl | rfl | rfl
    · exact up c8 hW
    · exact c8
    · exact c7
    · exact c6
    · exact c5
    · exact c4
    · exact c3
    · exact c2
    · exact c1
  · intro k hk
    match k, hk with
    | 0, _ => exact ⟨a1, u1, 0, rfl, by simp, o1⟩
    | 1, _ => exact ⟨a2, u2, 0, rfl, by simp, o2⟩
    | 2, _ => exact ⟨a3, u3, 0, rfl, by simp, o3⟩
    | 3, _ => exact ⟨a4, u4, 0, rfl, by simp, o4⟩
    | 4, _ => exact ⟨a5, u5, 0, rfl, by simp, o5⟩
    | 5, _ => exact ⟨a6, u6, 0, rfl, by simp, o6⟩
    | 6, _ => exact ⟨a7, u7, 0, rfl, by simp, o7⟩
    | 7, _ => exact ⟨a8, u8, 0, rfl, by simp, o8⟩
    | k + 8, hk => omega
theorem oct_mod {x : Int} {t : Tok} : OneOct [Value.int (x.fmod 256) t] :=
  oneOct (o := (x.fmod 256).toNat) (by rw [Int.fmod_eq_emod_of_nonneg _ (by decide)]; omega) (by rw [Int.fmod_eq_emod_of_nonneg _ (by decide)]; omega)
theorem oct_find {z : Int} {t : Tok} (h : 0 ≤ z) (h2 : z ≤ 15) : OneOct [Value.int (160 + z) t] := oneOct (o := (160 + z).toNat) (by omega) (by omega)
section
variable {prog : Program} {w : World} {A : Around} {E : Value → Shared → Prop} {s : Shared} {h₀ : Heap} {L lo lr Dn I a : Addr} {it dno : Obj} {vo vr us : List Value} {ko kr n : Nat} {new : List (Addr × Obj)} {m : Str → Option Value} {Q : Value → Shared → Prop}
theorem rows_app {v : Value} (F : Fr h₀ L s.heap m) (N : News h₀ L s.heap ([(I, it), (lr, listOf vr.toArray kr), (lo, listOf vo.toArray ko), (Dn, dno)] ++ new)) (h1 : lo < lr) (h2 : Dn < lo) (h3 : lo < I) (hnew : ∀ p ∈ new, lr < p.1 ∧ lo < p.1)
    (h : ∀ h', Fr h₀ L h' m → News h₀ L h' ((lr, listOf vr.toArray kr) :: (lo, listOf (vo ++ [v]).toArray (ko + 1)) :: (Dn, dno) :: (I, it) :: new) → Q .none { s with heap := h' }) (hsz : vo.length ≤ 100000) :
    wpAny (model prog w) A (call (.builtin "list.append") [.ref lo, v]) Q E s :=
  r_append ((lr, listOf vr.toArray kr) :: (Dn, dno) :: (I, it) :: new) F N (by simp) (fun p hp => by
    simp only [List.mem_cons] at hp
    refine ⟨by simp only [List.cons_append, List.nil_append, List.mem_cons]; rcases hp with hp | hp | hp | hp <;> simp only [hp, true_or, or_true], ?_⟩
    rcases hp with rfl | rfl | rfl | hp
    · exact Nat.ne_of_gt h1
    · exact Nat.ne_of_lt h2
    · exact Nat.ne_of_gt h3
    · exact Nat.ne_of_gt (hnew p hp).2) (fun h' F' N' => h h' F' (news_swap N')) hsz
theorem rows_ext {row : List Nat} (F : Fr h₀ L s.heap m) (N : News h₀ L s.heap ((lr, listOf vr.toArray kr) :: (lo, listOf vo.toArray ko) :: (Dn, dno) :: (I, it) :: new)) (h1 : lo < lr) (h2 : Dn < lr) (h3 : lr < I) (hnew : ∀ p ∈ new, lr < p.1 ∧ lo < p.1)
    (ha : (a, listOf us.toArray n) ∈ new) (hu : OneOct us) (hr : IntsP vr row) (hro : Oct row)
    (h : ∀ h' vr' kr' row', Fr h₀ L h' m → News h₀ L h' ((lr, listOf (List.toArray vr') kr') :: (lo, listOf vo.toArray ko) :: (Dn, dno) :: (I, it) :: new) → IntsP vr' row' → Oct row' → row'.length ≤ row.length + 1 → Q .none { s with heap := h' }) (hsz : row.length ≤ 1000) :
    wpAny (model prog w) A (call (.builtin "list.extend") [.ref lr, .ref a]) Q E s := by
  obtain ⟨r, hi, hor, hrl⟩ := hu
  refine extend_in_ints (own := []) (its2 := us.toArray) (n2 := n) F N (fun p hp => (nomatch hp)) (fun p hp => ?_) (N.get (by simp [ha])) hr (show IntsAre us _ from hi) (fun h' n' F' N' hi' => ?_) ?_
  · simp only [List.mem_cons] at hp
    rcases hp with rfl | rfl | rfl | hp
    · exact Nat.ne_of_lt h1
    · exact Nat.ne_of_lt h2
    · exact Nat.ne_of_gt h3
    · exact Nat.ne_of_gt (hnew p hp).1
  · refine h h' _ n' (row ++ r) F' N' ?_ (fun b hb => ?_) (by simp; exact hrl)
    · unfold IntsP; rw [List.map_append]; exact hi'
    · rcases List.mem_append.mp hb with hb | hb
      · exact hro b hb
      · exact hor b hb
  · have e1 := hr.length
    have e2 := hi.length
    rw [List.length_map] at e1 e2
    rw [List.size_toArray, sizeLine_eq]
    omega
end

end

section
/-- what _law_rows gives -/
noncomputable def RowsOut (h₀ h' : Heap) (v : Value) : Prop := ∃ T lo lr octets row vo vr ko kr, v = .ref T ∧ h'.get? T = some { cls := .type "tuple", data := .seq #[.ref lo, .ref lr] 0 } ∧ h'.get? lo = some (listOf (List.toArray vo) ko) ∧ h'.get? lr = some (listOf (List.toArray vr) kr) ∧ IntsP vo octets ∧ IntsP vr row ∧ Oct octets ∧ Oct row ∧
      octets ≠ [] ∧ octets.length ≤ 10 ∧ row.length ≤ 10 ∧ h₀.get? T = none ∧ h₀.get? lo = none ∧ h₀.get? lr = none
theorem rows_out {h₀ h' : Heap} {L T lo lr Dn : Addr} {vo vr ys : List Value} {ko kr nk : Nat} {octets row : List Nat} (N : News h₀ L h' ((T, { cls := .type "tuple", data := .seq #[.ref lo, .ref lr] 0 }) :: (lr, listOf vr.toArray kr) :: (lo, listOf vo.toArray ko) :: [(Dn, listOf ys.toArray nk)]))
    (ho : IntsP vo octets) (hr : IntsP vr row) (oo : Oct octets) (orr : Oct row) (hol : octets.length = ys.length) (hrl : row.length ≤ ys.length) (hy3 : 3 ≤ ys.length) (hy8 : ys.length ≤ 8) : RowsOut h₀ h' (.ref T) :=
  ⟨T, lo, lr, octets, row, vo, vr, ko, kr, rfl, N.get List.mem_cons_self, N.get (List.mem_cons_of_mem _ (List.mem_cons_of_mem _ List.mem_cons_self)), N.get (List.mem_cons_of_mem _ List.mem_cons_self), ho, hr, oo, orr, fun q => by rw [q] at hol; simp at hol; omega, by omega, by omega,
    (N _ List.mem_cons_self).2.2, (N _ (List.mem_cons_of_mem _ (List.mem_cons_of_mem _ List.mem_cons_self))).2.2, (N _ (List.mem_cons_of_mem _ List.mem_cons_self)).2.2⟩
section
variable {prog : Program} {w : World} {A : Around} {E : Value → Shared → Prop} {s : Shared} {env : Env} {h₀ : Heap} {L : Addr}
theorem if_joinG {test : Expr} {body orelse : List Stmt} {pos : Pos} {Q : Flow → Shared → Prop}
    (h : ∀ Q' : Flow → Shared → Prop, (∀ {m Dn ys nk h' tk}, Fr h₀ L h' m → News h₀ L h' [(Dn, listOf (List.toArray ys) nk)] → m "numbers" = some (.ref Dn) → SmallIs ys → 3 ≤ ys.length → ys.length ≤ 8 → Q' .next { s with heap := h', toks := tk }) → wpAny (model prog w) A (exec (.If test body orelse pos) env) Q' E s)
    (rest : ∀ (m : Str → Option Value) (Dn : Addr) (ys : List Value) (nk : Nat) (h : Heap) (tk : Nat), m "numbers" = some (.ref Dn) → SmallIs ys → 3 ≤ ys.length → ys.length ≤ 8 → Fr h₀ L h m → News h₀ L h [(Dn, listOf (List.toArray ys) nk)] → Q .next { s with heap := h, toks := tk }) :
    wpAny (model prog w) A (exec (.If test body orelse pos) env) Q E s :=
  if_join (h₀ := h₀) (L := L) NumsAt (h _ fun F N a b c d => XQ.intro F N ⟨_, _, _, rfl, a, b, c, d⟩) fun m news h tk ⟨Dn, ys, nk, e, a, b, c, d⟩ F N => by
    subst e
    exact rest m Dn ys nk h tk a b c d F N
theorem execs_joinG {st : Stmt} {tail : List Stmt} {Q : Flow → Shared → Prop} (X : (Str → Option Value) → List (Addr × Obj) → Prop)
    (h : ∀ Q' : Flow → Shared → Prop, (∀ {s'}, XQ h₀ L s X (fun _ _ => False) .next s' → Q' .next s') → wpAny (model prog w) A (exec st env) Q' E s)
    (rest : ∀ m news h tk, X m news → Fr h₀ L h m → News h₀ L h news → wpAny (model prog w) A (execs tail env) Q E { s with heap := h, toks := tk }) :
    wpAny (model prog w) A (execs (st :: tail) env) Q E s := execs_join (h₀ := h₀) (L := L) X (h _ fun x => x) rest
end
theorem WaysAt.el {led : List (Addr × Obj)} {lo lr : Addr} {o : Nat} {x : Int} {m : Str → Option Value} {news : List (Addr × Obj)} {P : Prop} {G : List (Addr × Obj) → Prop} (h : WaysAt led lo lr o x m news) (N : G news)
    (k : ∀ W wvs wn new t5 t6 a us n, m "ways" = some (.ref W) → m "octet" = some (.int (o : Int) t5) → m "x" = some (.int x t6) → m "octets" = some (.ref lo) → m "row" = some (.ref lr) → List.length wvs = 8 → 0 ≤ (x.fdiv 16).fmod 8 → (x.fdiv 16).fmod 8 < 8 →
      (∀ p ∈ (W, listOf (List.toArray wvs) wn) :: new, lr < p.1 ∧ lo < p.1) → wvs[((x.fdiv 16).fmod 8).toNat]? = some (.ref a) → (a, listOf (List.toArray us) n) ∈ new → OneOct us → G (led ++ ((W, listOf (List.toArray wvs) wn) :: new)) → P) : P := by
  obtain ⟨W, wvs, wn, new, rfl, mw, ⟨t5, mo5⟩, ⟨t6, mx5⟩, ms5, mr5, hwl, hnew, hpick⟩ := h
  have hq : 0 ≤ (x.fdiv 16).fmod 8 ∧ (x.fdiv 16).fmod 8 < 8 := by rw [Int.fmod_eq_emod_of_nonneg _ (by decide)]; omega
  obtain ⟨a, us, n, hpk, hain, hone⟩ := hpick ((x.fdiv 16).fmod 8).toNat (by omega)
  exact k W wvs wn new t5 t6 a us n mw mo5 mx5 ms5 mr5 hwl hq.1 hq.2 hnew hpk hain hone N
section
variable {prog : Program} {w : World} {A : Around} {E : Value → Shared → Prop} {s : Shared} {env : Env} {h₀ : Heap} {x : Str} {body : List Stmt} {Q : Flow → Shared → Prop}
noncomputable def REnd (h₀ : Heap) (L : Addr) (s₁ : Shared) (I : Addr) (it : Obj) (lo lr Dn : Addr) (ys : List Value) (nk i : Nat) : Shared → Prop :=
  UnrEnd h₀ L s₁ I it fun m' n' => (Dn, listOf (List.toArray ys) nk) ∈ n' ∧ RowsSt lo lr (Dn, listOf (List.toArray ys) nk) (i + 1) m' n'
theorem rows_next {L I lo lr Dn : Addr} {it : Obj} {ys vo vr' : List Value} {nk ko kr' i o tk : Nat} {octets row row' : List Nat} {new : List (Addr × Obj)} {m' : Str → Option Value} {h' : Heap} {s₁ : Shared} {t5 : Tok}
    (F : Fr h₀ L h' m') (N : News h₀ L h' ((lr, listOf vr'.toArray kr') :: (lo, listOf (vo ++ [Value.int (o : Int) t5]).toArray (ko + 1)) :: (Dn, listOf ys.toArray nk) :: (I, it) :: new)) (h1 : lr < I) (h2 : lo < I) (h3 : Dn < I)
    (ho : IntsP vo octets) (hr : IntsP vr' row') (oo : Oct octets) (ho256 : o < 256) (orr : Oct row') (hol : octets.length = i) (hl : row'.length ≤ row.length + 1) (hrl : row.length ≤ i) (mo : m' "octets" = some (.ref lo)) (mr : m' "row" = some (.ref lr)) :
    REnd h₀ L s₁ I it lo lr Dn ys nk i { s₁ with heap := h', toks := tk } := by
  refine UnrEnd.intro F N [(lr, listOf vr'.toArray kr'), (lo, listOf (vo ++ [Value.int (o : Int) t5]).toArray (ko + 1)), (Dn, listOf ys.toArray nk)] (fun p hp => ?_) (fun p hp => ?_)
    ⟨by simp, _, _, _, _, octets ++ [o], row', rfl, ho.snoc, hr, fun b hb => ?_, orr, by simp [hol], by omega, mo, mr⟩
  · simp only [List.mem_cons, List.not_mem_nil, or_false] at hp ⊢
    rcases hp with hp | hp | hp | hp <;> simp only [hp, true_or, or_true]
  · simp only [List.mem_cons, List.not_mem_nil, or_false] at hp
    rcases hp with rfl | rfl | rfl
    · exact Nat.ne_of_lt h1
    · exact Nat.ne_of_lt h2
    · exact Nat.ne_of_lt h3
  · rcases List.mem_append.mp hb with hb | hb
    · exact oo b hb
    · rw [List.mem_singleton.mp hb]; exact ho256
theorem rows_loop {lo lr Dn : Addr} {ys : List Value} {nk : Nat} {m₀ : Str → Option Value} (hh : A.handled = none) (F : Fr h₀ env.locals s.heap m₀) (N : News h₀ env.locals s.heap [(lr, listOf #[] 0), (lo, listOf #[] 0), (Dn, listOf ys.toArray nk)]) (hsm : SmallIs ys)
    (mo₀ : m₀ "octets" = some (.ref lo)) (mr₀ : m₀ "row" = some (.ref lr))
    (turn : ∀ (Q' : Flow → Shared → Prop) (i : Nat) (z : Int) (tz : Tok) (m : Str → Option Value) (h : Heap) (tk : Nat) (I : Addr) (it : Obj) (vo vr : List Value) (ko kr : Nat) (octets row : List Nat), i < ys.length → 0 ≤ z → z < 1000000 → IntsP vo octets → IntsP vr row → Oct octets → Oct row → octets.length = i → row.length ≤ i → vo.length = i →
      m "octets" = some (.ref lo) → m "row" = some (.ref lr) → it.cls = .type "list_iterator" → lr < I → lo < I → Dn < I → Fr h₀ env.locals h (fun y => if y = x then some (.int z tz) else m y) → News h₀ env.locals h ((I, it) :: (lr, listOf vr.toArray kr) :: (lo, listOf vo.toArray ko) :: [(Dn, listOf ys.toArray nk)]) →
      (∀ {s₂}, REnd h₀ env.locals { s with heap := h, toks := tk } I it lo lr Dn ys nk i s₂ → Q' .next s₂) → wpAny (model prog w) A (execs body env) Q' E { s with heap := h, toks := tk })
    (done : ∀ (m : Str → Option Value) (h : Heap) (tk : Nat) (vo vr : List Value) (ko kr : Nat) (octets row : List Nat), IntsP vo octets → IntsP vr row → Oct octets → Oct row → octets.length = ys.length → row.length ≤ ys.length → m "octets" = some (.ref lo) → m "row" = some (.ref lr) → Fr h₀ env.locals h m →
      News h₀ env.locals h ((lr, listOf vr.toArray kr) :: (lo, listOf vo.toArray ko) :: [(Dn, listOf ys.toArray nk)]) → Q .next { s with heap := h, toks := tk }) :
    wpAny (model prog w) A (pyIter (.ref Dn)) (fun it s₂ => LoopAtV prog w A h₀ env x body Q E it s₂) E s := by
  refine loop_list (J := RowsSt lo lr (Dn, listOf (List.toArray ys) nk)) hh F N (List.mem_cons_of_mem _ (List.mem_cons_of_mem _ List.mem_cons_self)) rfl rfl ⟨[], 0, [], 0, [], [], rfl, .nil, .nil, fun _ h => (nomatch h), fun _ h => (nomatch h), rfl, Nat.le_refl _, mo₀, mr₀⟩ ?_ ?_
  · rintro i v m₂ news₂ h₂ tk₂ I it hv2 ⟨vo, ko, vr, kr, octets, row, rfl, ho, hr, oo, orr, hol, hrl, mo, mr⟩ hm₂ hit F₂ N₂ hI
    obtain ⟨z, tz, rfl, hx0, hx1⟩ := hsm v (List.mem_of_getElem? hv2)
    have hvol := ho.length
    rw [List.length_map] at hvol
    have hil : i < ys.length := by
      rcases Nat.lt_or_ge i ys.length with q | q
      · exact q
      · rw [List.getElem?_eq_none q] at hv2; cases hv2
    refine turn _ i z tz m₂ h₂ tk₂ I it vo vr ko kr octets row hil hx0 hx1 ho hr oo orr hol hrl (by omega) mo mr hit (hI _ List.mem_cons_self) (hI _ (List.mem_cons_of_mem _ List.mem_cons_self)) (hI _ (List.mem_cons_of_mem _ (List.mem_cons_of_mem _ List.mem_cons_self))) F₂ N₂ fun e => e
  · rintro m₂ news₂ h₂ tk₂ ⟨vo, ko, vr, kr, octets, row, rfl, ho, hr, oo, orr, hol, hrl, mo, mr⟩ hm₂ F₂ N₂
    exact done m₂ h₂ tk₂ vo vr ko kr octets row ho hr oo orr hol hrl mo mr F₂ N₂
end

end

section
/-- the translation between the turns -/
structure TS (x : Str) (t u : Tok) (S l' B' : Addr) (n : Nat) (m : Str → Option Value) (news : List (Addr × Obj)) : Prop where
  ex : ∃ i vs cnt, n + i = x.cps.toList.length ∧ (∃ z t, m "i" = some (.int z t) ∧ z = (i : Int)) ∧ (∃ t, m "n" = some (.int (x.cps.toList.length : Int) t)) ∧ m "add" = some (.ref B') ∧ m "res" = some (.ref l') ∧
      m "pat" = some (.str x t) ∧ m "STAR" = some (.ref S) ∧ m "QUESTION_MARK" = some (.str (Str.ofString ".") u) ∧ news = [(l', listOf (List.toArray vs) cnt), (B', bndObj l')] ∧ vs.length ≤ i ∧ TraAt S x.cps.toList i vs
theorem TS.el {x : Str} {t u : Tok} {S l' B' : Addr} {n : Nat} {m : Str → Option Value} {news : List (Addr × Obj)} {P : Prop} {G : List (Addr × Obj) → Prop} (h : TS x t u S l' B' n m news) (N : G news)
    (k : ∀ i vs cnt ti tn, n + i = x.cps.toList.length → m "i" = some (.int (i : Int) ti) → m "n" = some (.int (x.cps.toList.length : Int) tn) → m "add" = some (.ref B') → m "res" = some (.ref l') → m "pat" = some (.str x t) → m "STAR" = some (.ref S) →
      m "QUESTION_MARK" = some (.str (Str.ofString ".") u) → List.length vs ≤ i → TraAt S x.cps.toList i vs → G [(l', listOf (List.toArray vs) cnt), (B', bndObj l')] → P) : P := by
  obtain ⟨i, vs, cnt, hni, ⟨z, ti, mi, rfl⟩, ⟨tn, mn⟩, madd, mres, mpat, mstar, mq, rfl, hvi, hT⟩ := h.ex
  exact k i vs cnt ti tn hni mi mn madd mres mpat mstar mq hvi hT N
theorem TS.go {x : Str} {t u : Tok} {S l' B' : Addr} {n : Nat} {m : Str → Option Value} {h₀ h' : Heap} {L : Addr} {s : Shared} {tk i : Nat} {vs : List Value} {cnt : Nat} {z : Int} {ti tn : Tok} (F : Fr h₀ L h' m) (N : News h₀ L h' [(l', listOf (List.toArray vs) cnt), (B', bndObj l')])
    (hni : n + i = x.cps.toList.length) (hi : i < x.cps.toList.length) (hz : z = (i : Int) + 1) (hv : vs.length ≤ i + 1) (hT : TraAt S x.cps.toList (i + 1) vs)
    (mi : m "i" = some (.int z ti)) (mn : m "n" = some (.int (x.cps.toList.length : Int) tn)) (madd : m "add" = some (.ref B')) (mres : m "res" = some (.ref l')) (mpat : m "pat" = some (.str x t)) (mstar : m "STAR" = some (.ref S)) (mq : m "QUESTION_MARK" = some (.str (Str.ofString ".") u)) :
    WEnd h₀ L s (TS x t u S l' B') n { s with heap := h', toks := tk } :=
  WEnd.same (n' := n - 1) F N (by omega) ⟨i + 1, vs, cnt, by omega, ⟨z, ti, mi, by omega⟩, ⟨tn, mn⟩, madd, mres, mpat, mstar, mq, rfl, hv, hT⟩
theorem snoc_le1 {vs : List Value} {v : Value} {i : Nat} (h : vs.length ≤ i) : (vs ++ [v]).length ≤ i + 1 := by simp; omega

end

section
open Builtin
theorem ob_sub : isSubtype (.type "object") (.type "object") = pure true := by rw [isSubtype_type]; kernel_rfl
theorem ob_made : Bind.madeBy (.type "object") = pure (some "object.__new__") := by kernel_rfl
theorem ob_init : Slot "object" "__init__" "object.__init__" :=
  .of (owner := "object") (n := "__init__") (by rw [typeLookup_type, builtinLookup_eq_fast]; kernel_rfl) (by decide +kernel) (by decide +kernel) (by decide +kernel)
    (by first | exact .inl (by decide +kernel) | exact .inr (by decide +kernel)) (by rw [isSubtype_type]; kernel_rfl)
theorem ob_mro : mroOf (.type "object") = pure [.type "object"] := by kernel_rfl
theorem ob_called : TypeCalled "object" "object.__new__" "object.__init__" :=
  ⟨by decide +kernel, by decide +kernel, ⟨_, _, ob_mro⟩, ob_made, by decide +kernel, ob_sub, ob_init⟩
theorem ob_new : entryFor table "object.__new__" = some Builtin.«object.__new__» := entryFor_of_tree (by kernel_rfl)
theorem ob_has : typeHasDict (.type "object") = false := by kernel_rfl
theorem ob_refuses : (Manifest.find? "object").elim false (fun b => b.mro.any fun t => (Manifest.find? t).elim false (·.noNew)) = false := by decide +kernel
theorem ob_dies : diesByItsTypesDel "object" = false := by decide +kernel
theorem ob_here : Bind.madeHere "object.__new__" (.type "object") = pure () := by kernel_rfl
theorem ob_istype : isType (.type "object") = pure true := by kernel_rfl
noncomputable def plainObj : Obj := { cls := .type "object", data := .plain }
theorem new_meets : Meets («object.__new__» ⟨[.type "object"], []⟩) (fun _ R s => R (.ok (.ret (.ref s.heap.objs.size))) { s with heap := s.heap.push plainObj }) := by
  refine .of_wp fun prog w A R s h => ?_
  have f1 := ob_has
  have f2 := ob_refuses
  have f3 := ob_dies
  have f4 := ob_here
  have f5 := ob_istype
  unfold «object.__new__»
  repeat (any_goals (first | assumption | wp_step))
  exact ⟨_, rfl, h⟩
theorem init_meets (obj : Value) : Meets («object.__init__» ⟨[obj], []⟩) (fun _ R s => R (.ok (.ret .none)) s) :=
  .of_wp fun _ _ _ _ _ h => wpAny_pure ⟨_, rfl, h⟩
theorem object_call {prog : Program} {w : World} {A : Around} {E : Value → Shared → Prop} {s : Shared} {Q : Value → Shared → Prop} (h : Q (.ref s.heap.objs.size) { s with heap := s.heap.push plainObj }) :
    wpAny (model prog w) A (call (.type "object") []) Q E s := by
  refine callType_meets (Q₁ := fun obj s₁ => s₁.TypeIs obj "object" ∧ Q obj s₁) ob_called (by kernel_rfl) (by kernel_rfl) ob_new F.entry_object_init new_meets ?_ fun obj s₁ hq => ⟨hq.1, by unfold argsOk; kernel_rfl, _, init_meets obj, ?_⟩
  · exact ⟨⟨_, Heap.get?_push_size _ rfl, rfl⟩, h⟩
  · exact ⟨rfl, hq.2⟩
theorem r_object {prog : Program} {w : World} {A : Around} {E : Value → Shared → Prop} {s : Shared} {h₀ : Heap} {L : Addr} {m : Str → Option Value} {news : List (Addr × Obj)} {Q : Value → Shared → Prop} (F : Fr h₀ L s.heap m) (N : News h₀ L s.heap news)
    (h : ∀ O h', Fr h₀ L h' m → News h₀ L h' ((O, plainObj) :: news) → Q (.ref O) { s with heap := h' }) : wpAny (model prog w) A (call (.type "object") []) Q E s :=
  object_call (h _ _ (F.push _) (News.push F N _ rfl))

end

section
/-- _law_runs between the turns -/
structure RSt (T : Str) (t : Tok) (RES : List (List (Option Nat))) (R0 : Addr) (n : Nat) (m : Str → Option Value) (news : List (Addr × Obj)) : Prop where
  ex : ∃ at_ fuel held done cur objs rvs cvs C rn cn, n + at_ = T.length ∧ 4 ≤ at_ ∧ (T.cps.toList.drop at_).length + 1 ≤ fuel ∧ prs fuel (T.cps.toList.drop at_) held done cur = RES ∧
      (∃ z t, m "at" = some (.int z t) ∧ z = (at_ : Int)) ∧ m "held" = some (.bool held) ∧ m "runs" = some (.ref R0) ∧ m "text" = some (.str T t) ∧ news = (R0, listOf (List.toArray (rvs ++ [Value.ref C])) rn) :: (C, listOf (List.toArray cvs) cn) :: objs ∧
      RunsOff R0 C objs ∧ RunObjs SymsAre objs rvs done ∧ SymsAre cvs cur ∧ cvs.length ≤ at_ ∧ rvs.length ≤ at_
theorem RSt.el {T : Str} {t : Tok} {RES : List (List (Option Nat))} {R0 : Addr} {n : Nat} {m : Str → Option Value} {news : List (Addr × Obj)} {P : Prop} {G : List (Addr × Obj) → Prop} (h : RSt T t RES R0 n m news) (N : G news)
    (k : ∀ at_ fuel rest held done cur objs rvs cvs C rn cn ta, n + at_ = T.length → 4 ≤ at_ → T.cps.toList.drop at_ = rest → rest.length + 1 ≤ fuel + 1 → prs (fuel + 1) rest held done cur = RES →
      m "at" = some (.int (at_ : Int) ta) → m "held" = some (.bool held) → m "runs" = some (.ref R0) → m "text" = some (.str T t) → RunsOff R0 C objs → RunObjs SymsAre objs rvs done → SymsAre cvs cur → List.length cvs ≤ at_ → List.length rvs ≤ at_ →
      G ((R0, listOf (List.toArray (rvs ++ [Value.ref C])) rn) :: (C, listOf (List.toArray cvs) cn) :: objs) → P) : P := by
  obtain ⟨at_, fuel, held, done, cur, objs, rvs, cvs, C, rn, cn, a1, a2, a3, a4, ⟨z, ta, a5, rfl⟩, a6, a7, a8, rfl, a9, a10, a11, a12, a13⟩ := h.ex
  obtain ⟨fuel, rfl⟩ : ∃ k, fuel = k + 1 := ⟨fuel - 1, by omega⟩
  exact k at_ fuel _ held done cur objs rvs cvs C rn cn ta a1 a2 rfl a3 a4 a5 a6 a7 a8 a9 a10 a11 a12 a13 N
theorem RSt.mk' {T : Str} {t : Tok} {RES : List (List (Option Nat))} {R0 : Addr} {n : Nat} {m : Str → Option Value} {at_ fuel : Nat} {held : Bool} {done : List (List (Option Nat))} {cur : List (Option Nat)} {objs : List (Addr × Obj)} {rvs cvs : List Value} {C : Addr} {rn cn : Nat} {z : Int} {ta : Tok}
    (hn : n + at_ = T.length) (h4 : 4 ≤ at_) (hfu : (T.cps.toList.drop at_).length + 1 ≤ fuel) (hprs : prs fuel (T.cps.toList.drop at_) held done cur = RES) (ma : m "at" = some (.int z ta)) (hz : z = (at_ : Int)) (mh : m "held" = some (.bool held)) (mr : m "runs" = some (.ref R0)) (mt : m "text" = some (.str T t))
    (hM : RunsOff R0 C objs) (hRO : RunObjs SymsAre objs rvs done) (hSA : SymsAre cvs cur) (hcl : cvs.length ≤ at_) (hrl : rvs.length ≤ at_) : RSt T t RES R0 n m ((R0, listOf (List.toArray (rvs ++ [Value.ref C])) rn) :: (C, listOf (List.toArray cvs) cn) :: objs) :=
  ⟨at_, fuel, held, done, cur, objs, rvs, cvs, C, rn, cn, hn, h4, hfu, hprs, ⟨z, ta, ma, hz⟩, mh, mr, mt, rfl, hM, hRO, hSA, hcl, hrl⟩
theorem RSt.go {T : Str} {t : Tok} {RES : List (List (Option Nat))} {R0 : Addr} {n : Nat} {m : Str → Option Value} {at_ fuel : Nat} {rest : List Nat} {held : Bool} {done : List (List (Option Nat))} {cur : List (Option Nat)} {objs : List (Addr × Obj)} {rvs cvs : List Value} {C : Addr} {rn cn : Nat} {z : Int} {ta : Tok}
    {h₀ h' : Heap} {L : Addr} {s : Shared} {tk : Nat} (k : Nat) (F : Fr h₀ L h' m) (N : News h₀ L h' ((R0, listOf (rvs ++ [Value.ref C]).toArray rn) :: (C, listOf cvs.toArray cn) :: objs))
    (hn : n + at_ = T.length) (hrl2 : rest.length = T.length - at_) (hk : 0 < k) (h4 : 4 ≤ at_) (hrest : T.cps.toList.drop at_ = rest) (hfu : rest.length + 1 ≤ fuel + 1) (hkr : k ≤ rest.length) (hprs : prs fuel (rest.drop k) held done cur = RES)
    (ma : m "at" = some (.int z ta)) (hz : z = ((at_ + k : Nat) : Int)) (mh : m "held" = some (.bool held)) (mr : m "runs" = some (.ref R0)) (mt : m "text" = some (.str T t)) (hM : RunsOff R0 C objs) (hRO : RunObjs SymsAre objs rvs done) (hSA : SymsAre cvs cur) (hcl : cvs.length ≤ at_ + k) (hrl : rvs.length ≤ at_ + k) :
    WEnd h₀ L s (RSt T t RES R0) n { s with heap := h', toks := tk } :=
  have hle : at_ + k ≤ T.length := by omega
  WEnd.same (n' := n - k) F N (lia2 hn hle hk) (RSt.mk' (lia1 hn hle) (Nat.le_trans h4 (Nat.le_add_right _ _)) (lia3 hrest hfu hkr hk) (by rw [← List.drop_drop, hrest]; exact hprs) ma hz mh mr mt hM hRO hSA hcl hrl)
theorem take_is {r lit : List Nat} {k : Nat} (h : r.take k = lit) (hk : lit.length = k) : k ≤ r.length := by
  have := congrArg List.length h
  simp at this
  omega
theorem lia4 {a b : Nat} (h : a = b + 4) : a - 4 + 4 = a := by omega
theorem snoc_le {vs : List Value} {v : Value} {a k : Nat} (h : vs.length ≤ a) (hk : 0 < k) : (vs ++ [v]).length ≤ a + k := by
  simp; omega
/-- what stands behind its loop -/
structure RFin (RES : List (List (Option Nat))) (R0 : Addr) (m : Str → Option Value) (news : List (Addr × Obj)) : Prop where
  ex : ∃ held done cur objs rvs cvs C rn cn, (if held then [] else done ++ [cur]) = RES ∧ m "held" = some (.bool held) ∧ m "runs" = some (.ref R0) ∧ news = (R0, listOf (List.toArray (rvs ++ [Value.ref C])) rn) :: (C, listOf (List.toArray cvs) cn) :: objs ∧
      RunObjs SymsAre objs rvs done ∧ SymsAre cvs cur
theorem RFin.mk' {RES : List (List (Option Nat))} {R0 : Addr} {m : Str → Option Value} {held : Bool} {done : List (List (Option Nat))} {cur : List (Option Nat)} {objs : List (Addr × Obj)} {rvs cvs : List Value} {C : Addr} {rn cn : Nat} (he : (if held then [] else done ++ [cur]) = RES) (mh : m "held" = some (.bool held))
    (mr : m "runs" = some (.ref R0)) (hRO : RunObjs SymsAre objs rvs done) (hSA : SymsAre cvs cur) : RFin RES R0 m ((R0, listOf (List.toArray (rvs ++ [Value.ref C])) rn) :: (C, listOf (List.toArray cvs) cn) :: objs) := ⟨held, done, cur, objs, rvs, cvs, C, rn, cn, he, mh, mr, rfl, hRO, hSA⟩
theorem RFin.el {RES : List (List (Option Nat))} {R0 : Addr} {m : Str → Option Value} {news : List (Addr × Obj)} {P : Prop} {G : List (Addr × Obj) → Prop} (h : RFin RES R0 m news) (N : G news)
    (k1 : ∀ done cur objs rvs cvs C rn cn, done ++ [cur] = RES → m "held" = some (.bool false) → m "runs" = some (.ref R0) → RunObjs SymsAre objs rvs done → SymsAre cvs cur → G ((R0, listOf (List.toArray (rvs ++ [Value.ref C])) rn) :: (C, listOf (List.toArray cvs) cn) :: objs) → P)
    (k2 : ∀ led, [] = RES → m "held" = some (.bool true) → m "runs" = some (.ref R0) → G led → P) : P := by
  obtain ⟨held, done, cur, objs, rvs, cvs, C, rn, cn, a1, a2, a3, rfl, a4, a5⟩ := h.ex
  cases held with
  | false => exact k1 done cur objs rvs cvs C rn cn a1 a2 a3 a4 a5 N
  | true => exact k2 _ a1 a2 a3 N
theorem runs_back {h₀ h' : Heap} {L R0 C : Addr} {rvs cvs : List Value} {rn cn : Nat} {objs : List (Addr × Obj)} {done RES : List (List (Option Nat))} {cur : List (Option Nat)} (N : News h₀ L h' ((R0, listOf (rvs ++ [Value.ref C]).toArray rn) :: (C, listOf cvs.toArray cn) :: objs)) (hRO : RunObjs SymsAre objs rvs done) (hSA : SymsAre cvs cur)
    (he : done ++ [cur] = RES) : ∃ a vs n objs, Value.ref R0 = .ref a ∧ h₀.get? a = none ∧ h'.get? a = some (listOf (List.toArray vs) n) ∧ RunObjs SymsAre objs vs RES ∧ ∀ p ∈ objs, h'.get? p.1 = some p.2 ∧ h₀.get? p.1 = none := by
  refine ⟨R0, rvs ++ [Value.ref C], rn, objs ++ [(C, listOf cvs.toArray cn)], rfl, (N _ List.mem_cons_self).2.2, N.get List.mem_cons_self, he ▸ RunObjs.snoc hSA hRO, fun p hp => ?_⟩
  have hp' : p ∈ (R0, listOf (rvs ++ [Value.ref C]).toArray rn) :: (C, listOf cvs.toArray cn) :: objs := by
    rcases List.mem_append.mp hp with hp | hp
    · simp [hp]
    · simp at hp; simp [hp]
  exact ⟨(N p hp').1, (N p hp').2.2⟩
theorem runs_none {h₀ h' : Heap} {L Z : Addr} {rest : List (Addr × Obj)} {n : Nat} {RES : List (List (Option Nat))} (N : News h₀ L h' ((Z, listOf #[] n) :: rest)) (he : [] = RES) :
    ∃ a vs n objs, Value.ref Z = .ref a ∧ h₀.get? a = none ∧ h'.get? a = some (listOf (List.toArray vs) n) ∧ RunObjs SymsAre objs vs RES ∧ ∀ p ∈ objs, h'.get? p.1 = some p.2 ∧ h₀.get? p.1 = none :=
  ⟨Z, [], n, [], rfl, (N _ List.mem_cons_self).2.2, N.get List.mem_cons_self, he ▸ trivial, fun p hp => (nomatch hp)⟩

end

section
section
variable {prog : Program} {w : World} {A : Around} {E : Value → Shared → Prop} {s : Shared} {env : Env} {h₀ : Heap} {x : Str} {body : List Stmt} {Q : Flow → Shared → Prop}
theorem told_eq {a b : Addr} {vs : List Value} {r : List Nat} {n : Nat} {led : List (Addr × Obj)} {h₀ : Heap} {L : Addr} {Q : Value → Shared → Prop} (hl : s.heap.IsList a vs.toArray) (hi : IntsAre vs (r.map Int.ofNat)) (N : News h₀ L s.heap ((b, listOf #[] n) :: led)) (hu : A.units + 64 < cLine)
    (h1 : r = [] → Q (.bool true) s) (h2 : r ≠ [] → Q (.bool false) s) : wpAny (model prog w) A (compareOp .Eq (.ref a) (.ref b)) Q E s := by
  refine eq_intsK hl hi (News.isList N List.mem_cons_self) (us := []) (ms := []) .nil hu ?_
  cases r with
  | nil => exact h1 rfl
  | cons a r => exact h2 (fun q => nomatch q)
theorem told_loop1 {lo R0 C₀ : Addr} {cell : Addr × Obj} {vo : List Value} {octets : List Nat} {m₀ : Str → Option Value} {news : List (Addr × Obj)} (hh : A.handled = none) (F : Fr h₀ env.locals s.heap m₀) (N : News h₀ env.locals s.heap news)
    (hs : ∀ p ∈ (R0, listOf ([] ++ [Value.ref C₀]).toArray 0) :: (C₀, listOf ([] : List Value).toArray 0) :: ([] ++ [cell]), p ∈ news)
    (hlo : h₀.IsList lo vo.toArray) (hvo : IntsAre vo (octets.map Int.ofNat)) (hn : octets.length ≤ 100) (hRC : R0 ≠ C₀) (hRL : R0 ≠ cell.1) (hCL : cell.1 ≠ C₀) (mr₀ : m₀ "runs" = some (.ref R0))
    (turn : ∀ (i a : Nat) (ta : Tok) (m₁ : Str → Option Value) (h : Heap) (tk : Nat) (I : Addr) (it : Obj) (objs : List (Addr × Obj)) (rvs cvs : List Value) (C : Addr) (rn cn : Nat) (done : List (List Nat)) (cur : List Nat) (tl : List (Addr × Obj)), octets[i]? = some a → i < octets.length → it.cls = .type "list_iterator" → R0 ≠ I → C ≠ I → (∀ p ∈ objs ++ [cell], p.1 ≠ I) → objs ++ [cell] ++ [(I, it)] = tl → RunsOff R0 C (objs ++ [cell]) → RunsOff R0 C tl →
      RunObjs IntsP objs rvs done → IntsP cvs cur → m₁ "runs" = some (.ref R0) → sp done cur (octets.drop i) = sp [] [] octets → rvs.length ≤ i → cvs.length ≤ i → Fr h₀ env.locals h (fun y => if y = x then some (.int (a : Int) ta) else m₁ y) →
      News h₀ env.locals h ((R0, listOf (rvs ++ [Value.ref C]).toArray rn) :: (C, listOf cvs.toArray cn) :: tl) →
      wpAny (model prog w) A (execs body env) (UnrPost h₀ env.locals { s with heap := h, toks := tk } I it (ToldSt octets R0 cell (i + 1)) Q) E { s with heap := h, toks := tk })
    (done : ∀ (m₁ : Str → Option Value) (h : Heap) (tk : Nat) (vrs : List Value) (rn : Nat) (tl : List (Addr × Obj)) (r0 : List Nat) (rest : List (List Nat)) (a0 : Addr) (us0 : List Value) (k0 : Nat), sp [] [] octets = r0 :: rest → cell ∈ tl → vrs.length = rest.length + 1 → vrs.length ≤ octets.length + 1 → m₁ "runs" = some (.ref R0) →
      (∀ (k : Nat) (r : List Nat), (r0 :: rest)[k]? = some r → r.length ≤ octets.length ∧ ∃ (a : Addr) (us : List Value) (n : Nat), vrs[k]? = some (Value.ref a) ∧ (a, listOf us.toArray n) ∈ tl ∧ IntsP us r) →
      r0.length ≤ octets.length → vrs[0]? = some (.ref a0) → (a0, listOf us0.toArray k0) ∈ tl → IntsP us0 r0 → Fr h₀ env.locals h m₁ → News h₀ env.locals h ((R0, listOf vrs.toArray rn) :: tl) → Q .next { s with heap := h, toks := tk }) :
    wpAny (model prog w) A (pyIter (.ref lo)) (fun it s₂ => LoopAtV prog w A h₀ env x body Q E it s₂) E s := by
  have hvl : vo.length = octets.length := by rw [hvo.length, List.length_map]
  refine loop_base (ToldSt octets R0 cell) hh F (fun p hp => N p (hs p hp)) hlo ⟨[], [], [], C₀, 0, 0, [], [], rfl, ⟨hRC, fun p hp => by rw [List.mem_singleton.mp hp]; exact ⟨Ne.symm hRL, hCL⟩⟩, trivial, .nil, mr₀, rfl, Nat.zero_le _, Nat.zero_le _⟩ ?_ ?_
  · rintro i v m₁ news₁ h₁ tk₁ I it hv ⟨objs, rvs, cvs, C, rn, cn, done, cur, rfl, hM, hRO, hC, mr, hsp, hrl, hcl⟩ hit hoff F₁ N₁
    obtain ⟨a, ta, hoa, rfl⟩ := intsP_at (r := octets) hvo hv
    have hil : i < octets.length := by
      rcases Nat.lt_or_ge i octets.length with q | q
      · exact q
      · rw [List.getElem?_eq_none q] at hoa; cases hoa
    have hR0I : R0 ≠ I := hoff _ List.mem_cons_self
    have hCI : C ≠ I := hoff _ (List.mem_cons_of_mem _ List.mem_cons_self)
    exact turn i a ta m₁ h₁ tk₁ I it objs rvs cvs C rn cn done cur _ hoa hil hit hR0I hCI (fun p hp => hoff p (List.mem_cons_of_mem _ (List.mem_cons_of_mem _ hp))) rfl hM (RunsOff.rot (I := (I, it)) hM hR0I hCI) hRO hC mr hsp hrl hcl F₁ fun p hp => N₁ p (mem_rot hp)
  · rintro m₁ news₁ h₁ tk₁ hSt F₁ N₁
    obtain ⟨vrs, rn, tl, hsub, hcm, hvl, hvl2, mr, hget⟩ := told_all hvl hSt
    obtain ⟨r0, rest, hRES⟩ : ∃ r0 rest, sp [] [] octets = r0 :: rest := by
      rw [sp_eq]; exact ⟨_, _, rfl⟩
    rw [hRES] at hvl hget
    obtain ⟨hr0l, a0, us0, k0, hv0, hm0, hI0⟩ := hget 0 r0 rfl
    exact done m₁ h₁ tk₁ vrs rn tl r0 rest a0 us0 k0 hRES hcm hvl hvl2 mr hget hr0l hv0 hm0 hI0 F₁ fun p hp => N₁ p (hsub p hp)
theorem told_loop2 {R0 P r : Addr} {octets row r0 : List Nat} {rest : List (List Nat)} {vrs : List Value} {led tl : List (Addr × Obj)} {c : Int} {t₀ u₀ v₀ : Tok} {m₀ : Str → Option Value} {tb₀ : Tok} (hh : A.handled = none)
    (hr : IsRange s.heap r c 0 (-1) t₀ u₀ v₀) (hc : c = ((rest.length : Nat) : Int)) (hrl : rest.length ≤ 100000) (hx : x = Str.ofString "k") (F : Fr h₀ env.locals s.heap m₀) (N : News h₀ env.locals s.heap led)
    (hget : ∀ (k : Nat) (r : List Nat), (r0 :: rest)[k]? = some r → r.length ≤ octets.length ∧ ∃ (a : Addr) (us : List Value) (n : Nat), vrs[k]? = some (Value.ref a) ∧ (a, listOf us.toArray n) ∈ tl ∧ IntsP us r)
    (hres : toldGo row r0 rest.reverse true (3 * row.length) = told octets row) (mb₀ : m₀ "bound" = some (.int ((3 * row.length : Nat) : Int) tb₀)) (mr₀ : m₀ "runs" = some (.ref R0)) (mp₀ : m₀ "places" = some (.ref P))
    (turn : ∀ (i b kk : Nat) (r : List Nat) (a : Addr) (us : List Value) (n : Nat) (tb tk : Tok) (m : Str → Option Value) (h : Heap) (tk₁ : Nat) (I : Addr) (it : Obj), i < rest.length → rest.reverse[i]? = some r → toldGo row r0 (r :: rest.reverse.drop (i + 1)) (decide (i = 0)) b = told octets row → b ≤ 3 * row.length → kk = rest.length - i → r.length ≤ octets.length → vrs[kk]? = some (.ref a) →
      (a, listOf us.toArray n) ∈ tl → IntsP us r → it.cls = .type "range_iterator" → (∀ p ∈ led, p.1 ≠ I) → m "k" = some (.int ((kk : Nat) : Int) tk) → m "bound" = some (.int ((b : Nat) : Int) tb) → m "runs" = some (.ref R0) → m "places" = some (.ref P) → Fr h₀ env.locals h m → News h₀ env.locals h ((I, it) :: led) →
      wpAny (model prog w) A (execs body env) (UnrPost h₀ env.locals { s with heap := h, toks := tk₁ } I it (ToldK octets row r0 rest R0 P led (i + 1)) Q) E { s with heap := h, toks := tk₁ })
    (done : ∀ (b : Nat) (tb : Tok) (m : Str → Option Value) (h : Heap) (tk : Nat), toldGo row r0 [] (decide (rest.length = 0)) b = told octets row → m "bound" = some (.int ((b : Nat) : Int) tb) → m "runs" = some (.ref R0) → m "places" = some (.ref P) → Fr h₀ env.locals h m → News h₀ env.locals h led → Q .next { s with heap := h, toks := tk }) :
    wpAny (model prog w) A (pyIter (.ref r)) (fun it s₂ => LoopAtV prog w A h₀ env x body Q E it s₂) E s := by
  subst hx
  subst hc
  have hrd := range_down hrl
  refine loop_step (J := ToldK octets row r0 rest R0 P led) hh hr hrd.1 hrd.2 F N ⟨3 * row.length, hres, Nat.le_refl _, ⟨tb₀, mb₀⟩, mr₀, mp₀, rfl⟩ ?_ ?_
  · rintro i ti m₁ news₁ h₁ tk₁ I it hi ⟨b, hgo, hb, ⟨tb2, mb⟩, mr2, mp, rfl⟩ hit hoff F₁ N₁
    obtain ⟨r, hri⟩ : ∃ r, rest.reverse[i]? = some r := ⟨_, List.getElem?_eq_getElem (by rw [List.length_reverse]; exact hi)⟩
    have hrk : (r0 :: rest)[rest.length - i]? = some r := by
      rw [List.getElem?_reverse hi] at hri
      rw [show rest.length - i = (rest.length - 1 - i) + 1 by omega, List.getElem?_cons_succ]
      exact hri
    obtain ⟨hrl, ak, usk, nk, hvk, hmk, hIk⟩ := hget _ r hrk
    rw [drop_got hri] at hgo
    exact turn i b _ r ak usk nk tb2 ti (fun y => if y = Str.ofString "k" then some (.int (((rest.length : Nat) : Int) + (i : Int) * -1) ti) else m₁ y) h₁ tk₁ I it hi hri hgo hb rfl hrl hvk hmk hIk hit hoff (congrArg (fun z => some (Value.int z ti)) (by omega)) mb mr2 mp F₁ N₁
  · rintro m₁ news₁ h₁ tk₁ ⟨b, hgo, hb, ⟨tb2, mb⟩, mr2, mp, rfl⟩ F₁ N₁
    rw [List.drop_eq_nil_of_le (by rw [List.length_reverse]; exact Nat.le_refl _)] at hgo
    exact done b tb2 m₁ h₁ tk₁ hgo mb mr2 mp F₁ N₁
theorem told_next {L I R0 P : Addr} {it : Obj} {octets row r0 r : List Nat} {rest : List (List Nat)} {led rs : List (Addr × Obj)} {i b : Nat} {last : Bool} {m : Str → Option Value} {h' : Heap} {tb : Tok} {s₁ : Shared} {tk : Nat} {bz : Int}
    (F : Fr h₀ L h' m) (N : News h₀ L h' rs) (hsub : ∀ p ∈ (I, it) :: led, p ∈ rs) (hoff : ∀ p ∈ led, p.1 ≠ I) (hgo : toldGo row r0 (rest.reverse.drop (i + 1)) false (maxN (fits last r row b)) = told octets row)
    (hbz : bz = ((maxN (fits last r row b) : Nat) : Int)) (mb : m "bound" = some (.int bz tb)) (mr : m "runs" = some (.ref R0)) (mp : m "places" = some (.ref P)) : UnrEnd h₀ L s₁ I it (ToldK octets row r0 rest R0 P led (i + 1)) { s₁ with heap := h', toks := tk } := by
  subst hbz
  exact UnrEnd.intro F N led hsub hoff ⟨_, by simpa using hgo, maxN_le, ⟨_, mb⟩, mr, mp, rfl⟩
theorem told_loop3 {P R0 Fi : Addr} {row r : List Nat} {last : Bool} {b k n : Nat} {us : List Value} {led : List (Addr × Obj)} {m₀ : Str → Option Value} {tb₀ tk₀ : Tok} (hh : A.handled = none) (F : Fr h₀ env.locals s.heap m₀)
    (N : News h₀ env.locals s.heap ((Fi, listOf #[] 0) :: led)) (hm : (P, listOf us.toArray n) ∈ led) (hus : IntsAre us ((places row).map Int.ofNat)) (mf₀ : m₀ "fits" = some (.ref Fi)) (mb₀ : m₀ "bound" = some (.int ((b : Nat) : Int) tb₀)) (mk₀ : m₀ "k" = some (.int ((k : Nat) : Int) tk₀))
    (mr₀ : m₀ "runs" = some (.ref R0)) (mp₀ : m₀ "places" = some (.ref P))
    (turn : ∀ (j p : Nat) (tp : Tok) (zs : List Value) (zn : Nat) (tb tk : Tok) (m : Str → Option Value) (h : Heap) (tk₁ : Nat) (I : Addr) (it : Obj), (places row)[j]? = some p → p ≤ 3 * row.length → (0 < p % 3 → p / 3 < row.length) → j < (places row).length → Fi < I → (∀ q ∈ led, q.1 < I) → it.cls = .type "list_iterator" →
      IntsP zs (((places row).take j).filter (prd last r row b)) → zs.length ≤ j → m "fits" = some (.ref Fi) → m "bound" = some (.int ((b : Nat) : Int) tb) → m "k" = some (.int ((k : Nat) : Int) tk) → m "runs" = some (.ref R0) → m "places" = some (.ref P) →
      Fr h₀ env.locals h (fun y => if y = x then some (.int ((p : Nat) : Int) tp) else m y) → News h₀ env.locals h ((I, it) :: (Fi, listOf zs.toArray zn) :: led) →
      wpAny (model prog w) A (execs body env) (UnrPost h₀ env.locals { s with heap := h, toks := tk₁ } I it (fun m' n' => (P, listOf us.toArray n) ∈ n' ∧ ToldF row r last b R0 P Fi k led (j + 1) m' n') Q) E { s with heap := h, toks := tk₁ })
    (done : ∀ (zs : List Value) (zn : Nat) (tb tk : Tok) (m : Str → Option Value) (h : Heap) (tk₁ : Nat), IntsAre zs ((fits last r row b).map Int.ofNat) → zs.length ≤ us.length → m "fits" = some (.ref Fi) → m "bound" = some (.int ((b : Nat) : Int) tb) → m "k" = some (.int ((k : Nat) : Int) tk) → m "runs" = some (.ref R0) → m "places" = some (.ref P) →
      Fr h₀ env.locals h m → News h₀ env.locals h ((Fi, listOf zs.toArray zn) :: led) → Q .next { s with heap := h, toks := tk₁ }) :
    wpAny (model prog w) A (pyIter (.ref P)) (fun it s₂ => LoopAtV prog w A h₀ env x body Q E it s₂) E s := by
  have husl := hus.length
  rw [List.length_map] at husl
  refine loop_list (J := ToldF row r last b R0 P Fi k led) hh F N (List.mem_cons_of_mem _ hm) rfl rfl ⟨[], 0, rfl, .nil, Nat.le_refl _, mf₀, ⟨tb₀, mb₀⟩, ⟨tk₀, mk₀⟩, mr₀, mp₀⟩ ?_ ?_
  · rintro j v m₂ news₂ h₂ tk₂ I2 it2 hv2 ⟨zs, zn, rfl, hzs, hzl, mf, ⟨tb3, mb3⟩, ⟨tk3, mk3⟩, mr3, mp3⟩ hm₂ hit2 F₂ N₂ hI2
    obtain ⟨p, tp, hp, rfl⟩ := intsP_at (r := places row) hus hv2
    obtain ⟨hp1, hp2⟩ := place_ok hp
    have hjl : j < (places row).length := by
      rcases Nat.lt_or_ge j (places row).length with q | q
      · exact q
      · rw [List.getElem?_eq_none q] at hp; cases hp
    exact turn j p tp zs zn tb3 tk3 m₂ h₂ tk₂ I2 it2 hp hp1 hp2 hjl (hI2 _ List.mem_cons_self) (fun p hp => hI2 p (List.mem_cons_of_mem _ hp)) hit2 hzs hzl mf mb3 mk3 mr3 mp3 F₂ N₂
  · rintro m₂ news₂ h₂ tk₂ ⟨zs, zn, rfl, hzs, hzl, mf, ⟨tb3, mb3⟩, ⟨tk3, mk3⟩, mr3, mp3⟩ hm₂ F₂ N₂
    rw [husl, List.take_length, ← fits_prd] at hzs
    exact done zs zn tb3 tk3 m₂ h₂ tk₂ hzs hzl mf mb3 mk3 mr3 mp3 F₂ N₂
end
theorem told_oneV {octets row r0 : List Nat} {vr : List Value} (h : row ≠ []) (hs : sp [] [] octets = [r0]) (hvrl : vr.length = row.length) : Value.bool (lend r0 row 0 == 3 * ((vr.length : Nat) : Int)) = .bool (told octets row) := by
  rw [told_one h hs]
  refine congrArg Value.bool ?_
  rw [Bool.eq_iff_iff, beq_iff_eq, decide_eq_true_eq, hvrl]
  omega
theorem told_mem {h₀ h : Heap} {L R0 : Addr} {m : Str → Option Value} {t : Tok} {n : Nat} {P : Prop} (F : Fr h₀ L h m) (mb : m "bound" = some (.int ((n : Nat) : Int) t)) (mr : m "runs" = some (.ref R0))
    (k : ∀ (m5 : Str → Option Value) (tb : Tok), Fr h₀ L h m5 → m5 "bound" = some (.int ((n : Nat) : Int) tb) → m5 "runs" = some (.ref R0) → P) : P := k m t F mb mr
section
variable {M : Model} {A : Around} {E : Value → Shared → Prop} {s : Shared} {h₀ : Heap} {C c : Addr} {m : Str → Option Value} {sc : Scope} {cl : List (Str × Addr)} {env : Env} {x : Str} {pos : Pos} {v : Value} {Q : Value → Shared → Prop} {f : Fns}
theorem neL (hk : (compEnvC sc cl C env).scope.kind = .function) (hx : (compEnvC sc cl C env).kindOf x = some .local) (hd : (x == ("__debug__" : Str)) = false) (F : Fr h₀ C s.heap m) (hv : m x = some v) (h : Q v s) : wpAny M A (eval (.Name x pos) (compEnvC sc cl C env)) Q E s := nameE_L F hv h hk hx hd
theorem neC (hk : (compEnvC sc cl C env).scope.kind = .function) (hx : (compEnvC sc cl C env).kindOf x = some .cell) (hd : (x == ("__debug__" : Str)) = false) (hc : cl.lookup x = some c) (F : Fr h₀ C s.heap m) (hv : h₀.IsCell c (some v)) (h : Q v s) : wpAny M A (eval (.Name x pos) (compEnvC sc cl C env)) Q E s := nameE_C F hc hv h hk hx hd
theorem neG (hk : (compEnvC sc cl C env).scope.kind = .function) (hx : (compEnvC sc cl C env).kindOf x = some .globalImplicit) (hd : (x == ("__debug__" : Str)) = false) (heg : env.globals = mainGlobals) (F : Fr h₀ C s.heap m) (G : Gd f h₀) (e : f.mg x = some v) (h : Q v s) : wpAny M A (eval (.Name x pos) (compEnvC sc cl C env)) Q E s := nameE_G F G.g e h heg hk hx hd
theorem neB (hk : (compEnvC sc cl C env).scope.kind = .function) (hx : (compEnvC sc cl C env).kindOf x = some .globalImplicit) (hd : (x == ("__debug__" : Str)) = false) (heg : env.globals = mainGlobals) (heb : env.builtins = builtinsNs) (F : Fr h₀ C s.heap m) (G : Gd f h₀) (e : x ∈ usedBuiltins) (hv : bootBuiltins x = some v) (hn : x ≠ "__name__") (h : Q v s) : wpAny M A (eval (.Name x pos) (compEnvC sc cl C env)) Q E s := nameE_B F G.g G.b (G.free _ e) G.bb hv hn h heg heb hk hx hd
end

end

section
open PySem.W in
theorem ints_of {R : WRecords} {cl : Str → Option Addr} {h : Heap} : ∀ {vs : List Value} {ds : List WData} {as : List Addr}, ReadsAllW R cl h vs ds as → (∀ d ∈ ds, ∃ i, d = .int i) → ∃ ns, IntsAre vs ns ∧ ns.length = ds.length
  | [], _, _, .nil, _ => ⟨[], .nil, rfl⟩
  | v :: vs, d :: ds, _, .cons h1 h2, hd => by
    obtain ⟨ns, hi, hl⟩ := ints_of h2 fun d hd' => hd d (List.mem_cons_of_mem _ hd')
    obtain ⟨i, rfl⟩ := hd d List.mem_cons_self
    cases h1 with
    | int i t => exact ⟨i :: ns, .cons _ _ hi, by simp [hl]⟩
open PySem.W in
theorem law_args {args : List WData} (hpre : PySem.Challenge.rw_ij0034_01.row.toRowW.claim.pre args = true) : ∃ ds, args = [.list ds] ∧ (∀ d ∈ ds, ∃ i, d = .int i) ∧ ds.length ≤ 63 := by
  obtain ⟨h1, h2⟩ := pre_splitW hpre
  obtain ⟨d, r, rfl, hd, hr⟩ := hasAllW_cons h1
  obtain rfl := hasAllW_nil hr
  obtain ⟨ds, rfl, hi⟩ := hasW_list hd
  refine ⟨ds, rfl, fun d hd => hasW_int (hasItemsW_at hi d hd), ?_⟩
  have h3 : (match (match WTm.value [] (.not (.lt (.lit (.int 63)) (.len (.arg 0)))) { args := [.list ds] } with
    | some (.bool false) => some (WData.bool false)
    | some (.bool true) => some (.bool true)
    | _ => none) with
    | some (.bool true) => true
    | _ => false) = true := h2
  have h4 : WTm.value [] (.not (.lt (.lit (.int 63)) (.len (.arg 0)))) { args := [.list ds] } = some (.bool (!decide ((63 : Int) < (ds.length : Int)))) := by
    simp [WTm.value, less?]
    first | done | rfl
  rw [h4] at h3
  by_cases q : (63 : Int) < (ds.length : Int)
  · rw [decide_eq_true q] at h3
    cases h3
  · omega
open PySem.W in
theorem law_post (ds : List WData) : PySem.Challenge.rw_ij0034_01.row.toRowW.claim.post [.list ds] (.bool true) [.list ds] = true := by
  show (WShape.has [] (.bool true) .bool && WTm.holds [] (.eq .res (.lit (.bool true))) { args := [.list ds], res := some (.bool true), after := [.list ds] }) = true
  simp [WShape.has, WShape.arms, WTm.holds, WTm.value, same]
section
open PySem.W
noncomputable abbrev rwL := PySem.Challenge.rw_ij0034_01
theorem said1 : rwL.row.wellSaid = true := by decide +kernel
theorem law_said : rwL.wellSaid = true := by
  unfold OpenLaw.wellSaid
  rw [said1]
  decide +kernel
end
open PySem.W in
theorem holds_of (C : LawCall) : PySem.Challenge.rw_ij0034_01.Holds := by
  refine holds_law law_said fun said => ?_
  have hw : PySem.Challenge.rw_ij0034_01.row.toRowW.promised := ⟨[.list [.int 3]], by decide +kernel, by decide +kernel⟩
  have after : ∀ w, ∃ s s₀, AfterRun (opening pw) w s ∧ fenceModules? pw s = some s₀ ∧ Opened s₀ ∧ s₀.asleep := by
    intro w
    have h := open_seen w
    unfold openSeenW at h
    rw [← table_eq_tree] at h
    obtain ⟨s₀, h2, e⟩ := Option.map_eq_some_iff.mp h
    obtain ⟨s, h4, h5⟩ := Option.bind_eq_some_iff.mp h2
    have A := AfterImport.of_importEnds h4
    exact ⟨s, s₀, A, h5, opened_of e, Shared.asleep_of_life (fence_lifeW h5) A.life⟩
  refine ⟨said, hw, ⟨⟨rfl, rfl, rfl, rfl, rfl, by decide +kernel⟩, by decide +kernel, rfl⟩, hw.witness, fun w => ⟨?_, fun s' hs' => ?_⟩⟩
  · obtain ⟨s, _, A, _⟩ := after w
    exact ⟨s, A⟩
  · obtain ⟨s, s₀, A, hf, O, hz₀⟩ := after w
    obtain rfl : s' = s := AfterImport.unique hs' A
    obtain ⟨s₁, f, T, hz, hgens, hg, hgl, L⟩ := top_ran (w := w) O hz₀
    obtain ⟨c', o, o', l1, l2, l3, l4⟩ := L.lawd
    refine ⟨s₀, hf, O.gens, s₁, T, fun n hn => ?_, fun x hx => (nomatch hx), fun x hx => (nomatch hx), ?_⟩
    · have hn : n ∈ [PySem.Challenge.rw_ij0034_01.row.name] := hn
      obtain rfl := List.mem_singleton.mp hn
      exact law_pinned hgl L.n_law l1 l2
    · refine ClaimW.callFrom_of_specG (c := PySem.Challenge.rw_ij0034_01.row.toRowW.claim) (tree := fun vs => do match ← nsGet mainNs PySem.Challenge.rw_ij0034_01.row.name with
        | some f => do ret (← PySem.call f vs)
        | none => unsupported "claim.caller:no-such-global") hz hgens fun args hpre hlay ord hord => ?_
      obtain ⟨⟨vs, s₂⟩, hlaid⟩ := Option.isSome_iff_exists.mp (layAllW_isSome (R := []) (cl := classAt s₁.heap) (P := w.params) (ord := ord) (fun c hc => (nomatch hc)) args _ s₁ (pre_splitW hpre).1)
      have keeps := layAllW_keeps _ _ _ hlaid
      have hal := layAllW_rest _ _ _ hlaid
      obtain ⟨as, hrd, hin, hold⟩ := reads_layAllW hord _ _ _ hlaid hlay s₂.heap (fun _ _ e => e)
      have Ld : Laid [] w s₁ s₂ args vs as := ⟨⟨ord, hord, hlaid⟩, hrd, hin, hold, keeps, hal.1.trans hgens, hal.2.2.1⟩
      obtain ⟨ds, rfl, hints, hlen⟩ := law_args hpre
      refine ⟨vs, s₂, hlaid, ?_⟩
      have hrd' := hrd
      cases hrd' with
      | cons q1 q2 =>
        cases q2
        cases q1 with
        | list e1 e2 e3 e4 =>
          rename_i a o vs n bs
          obtain ⟨ns, hns, hnl⟩ := ints_of e4 hints
          have L₂ := L.law0.keeps keeps
          refine wpAny_bind (wpAny_nsGet (L₂.gd.g) ?_)
          rw [show f.mg PySem.Challenge.rw_ij0034_01.row.name = some (.ref f.law) from L₂.n_law]
          refine wpAny_bind (wpAny_mono (C w s₂ f a vs.toList ns L₂ (hal.1.trans hgens) ⟨o, e1, e2, n, by rw [Array.toArray_toList]; exact e3⟩ hns (by omega) (fun v s' => v = .bool true ∧ ∃ h' tk, s' = { s₂ with heap := h', toks := tk } ∧ ∀ b o, s₂.heap.get? b = some o → h'.get? b = some o) (fun h' tk hk => ⟨rfl, h', tk, rfl, hk⟩)) (fun v s' q => ?_) fun _ _ x => x.elim)
          obtain ⟨rfl, h', tk, rfl, hk⟩ := q
          have g : GoodWG PySem.Challenge.rw_ij0034_01.row.toRowW.claim (classAt s₁.heap) (ExcName.means s₁.heap) [.list ds] s₂ (.ok (.ret (.bool true))) { s₂ with heap := h', toks := tk } :=
            ⟨.inl ⟨_, .bool true, [], rfl, fun _ => rfl, .bool _, law_post ds, fun _ => ⟨List.nodup_nil, fun a ha => (nomatch ha)⟩⟩, .of_keep hk, rfl, .of_eq (hal.1.trans hgens)⟩
          have z := GoodWG.laid (c := PySem.Challenge.rw_ij0034_01.row.toRowW.claim) rfl rfl (ident_freeW (r := PySem.Challenge.rw_ij0034_01.row.toRowW) rfl rfl rfl) Ld g
          exact wpAny_pure ⟨_, rfl, z.1, z.2.1, z.2.2, fun q => (by cases q)⟩

end

local macro_rules | `(tactic| kat_tups) => `(tactic| (first
  | (k_unfold; (try dsimp only))
  | ((fail_if_success (with_reducible (first | refine sFor ?_ | refine sWhile ?_ | refine sIter ?_ | refine sSlice ?_ | refine sCmp ?_ | refine sBytes ?_ | refine sRet ?_ | refine sStep ?_ | refine sStop ?_ | refine sIn (by assumption) ?_ | refine sXQ ?_ | refine sPost ?_ | refine sEnd ?_))); first
    | (k_end; wrow_close) | walk1 | (dsimp only; walk1) | (leave1; walk_say "STEP leave1"; try dsimp only))))
local macro_rules | `(tactic| tb_start) => `(tactic| (repeat' kat_tups))
local macro_rules | `(tactic| walk_at "eval Name") => `(tactic| (k_here; k_dflt ((first
  | refine' nmL rfl rfl (by assumption) (by first | rfl | assumption) ?_
  | refine' nmG rfl rfl (by assumption) (by assumption) (by with_reducible assumption) ?_
  | refine' nmB rfl rfl (by assumption) (by assumption) (by decide) (by boot_fast) (by decide) ?_
  | refine' nmC rfl rfl rfl (by with_reducible assumption) (by k_mem) (by assumption) ?_); k_whole)))
local macro_rules | `(tactic| walk_at "callWith ref") => `(tactic| (k_here; k_dflt ((first | refine' callWith_B (by assumption) ?_ | refine' callWith_F (by assumption) ?_); k_whole)))
local macro_rules | `(tactic| walk_at "And") => `(tactic| ((first | refine andF (by assumption) (by assumption) ?_ | refine andB (by k_asm) (by k_mem) ?_); try dsimp only [List.nil_append, List.cons_append]))
local macro_rules | `(tactic| walk_at "isl") => `(tactic| first | exact isl_keep (by assumption) (by assumption) | exact News.isList (by k_asm) (by k_mem))
local macro_rules | `(tactic| walk_at "small") => `(tactic| first | exact Nat.le_trans (by assumption) (by decide) | lia)
local macro_rules | `(tactic| walk_at "call builtin:len") => `(tactic| (k_here; (first
  | ((with_reducible show wpAny _ _ (call _ [Value.ref _]) _ _ _); k_dflt (refine' r_len (by walk_at "isl") (by walk_at "small") ?_))
  | ((with_reducible show wpAny _ _ (call _ [Value.str _ _]) _ _ _); k_dflt (refine' r_lenstr (by walk_at "small") ?_))); intro _ _))
local macro_rules | `(tactic| walk_at "subscriptTail") => `(tactic| (k_here; (with_reducible show wpAny _ _ (subscriptTail _ _ (Value.ref _) (Value.int _ _)) _ _ _); k_dflt (refine' r_item (by walk_at "isl") (by lia) (by lia) (by first | assumption | (simp only [Int.toNat_natCast]; assumption)) ?_; k_whole)))
local macro_rules | `(tactic| walk_at "subscriptTail") => `(tactic| (k_here; (with_reducible show wpAny _ _ (subscriptTail _ _ (Value.str _ _) (Value.int _ _)) _ _ _); k_dflt (refine' r_stritem (by lia) (by lia) (by walk_at "small") ?_; k_whole); intro _ _))
local macro_rules | `(tactic| walk_at "getMethod str") => `(tactic| refine gm_translate ?_)
local macro_rules | `(tactic| walk_at "getAttr ref") => `(tactic| (k_here; k_dflt (refine' r_getAttr (by assumption) (by assumption) (by k_mem) ?_); intro _ _ _ _ _ _ _))
local macro_rules | `(tactic| walk_at "unpackItems ref") => `(tactic| (k_here; k_dflt (refine' unpackItemsN_ (by k_asm) (by k_asm) (by kun_tup) (by assumption) rfl ?_; k_whole); intro _ _ _; try k_sweep))
local macro_rules | `(tactic| walk_at "call ref") => `(tactic| (k_here; k_dflt (with_reducible refine' bndA (by assumption) (by assumption) (by assumption) (by lia) ?_); intro _ _ _))
local macro_rules | `(tactic| walk_at "execs cons") => `(tactic| with_reducible exact jNo (by assumption) (by assumption))
local macro_rules | `(tactic| walk_at "compareOp IsNot ref ref") => `(tactic| (k_here; refine wpAny_isNot_ref_self ?_))
local macro_rules | `(tactic| walk_at "compareOp Is ref ref") => `(tactic| (k_here; refine wpAny_is_ref_self ?_))
local macro_rules | `(tactic| walk_at "compareOp IsNot str ref") => `(tactic| (k_here; refine isNotS ?_))
local macro_rules | `(tactic| walk_at "compareOp Is str ref") => `(tactic| (k_here; refine isS ?_))
local macro_rules | `(tactic| walk_at "loadName") => `(tactic| (k_here; k_dflt (refine' ldL rfl rfl (by assumption) (by first | rfl | assumption) ?_)))
local macro_rules | `(tactic| walk_at "subscriptTail") => `(tactic| (k_here; (with_reducible show wpAny _ _ (subscriptTail _ _ (Value.ref _) (Value.int (-1) _)) _ _ _); k_dflt (refine' lastA (by assumption) (by k_mem) (by lia) ?_; k_whole)))
local macro_rules | `(tactic| walk_at "call builtin:list.append") => `(tactic| (k_here; k_dflt (refine' r_curApp (by with_reducible assumption) (by assumption) (by with_reducible assumption) ?_ (by omega)); intro _ _ _))
local macro_rules | `(tactic| walk_at "call builtin:list.append") => `(tactic| (k_here; (with_reducible show wpAny _ _ (call _ [_, Value.ref _]) _ _ _); k_dflt (refine' pushA (by with_reducible assumption) (by with_reducible assumption) (by assumption) (by with_reducible assumption) (by omega) ?_); intro _ _ _ _))

section
theorem esc_walk {f : Fns} {w : World} {A : Around} {s : Shared} {R : Result → Shared → Prop} {c : Nat} {t : Tok} (L0 : Law0 w f s.heap) (hA : A.handled = none) (hd : A.depth < recursionLimit)
    (hR : Back s R fun _ v => ∃ t, v = .str ⟨(esc c).toArray⟩ t) :
    codeAny (model pw w) A (.call (.ref f.esc) ⟨[.str ⟨#[c]⟩ t], []⟩) R s := by
  have KX : Frag.In ([] : Frag) s.heap := noFrag
  have G := L0.gd
  have n1 := G.n_smap
  refine' enter [(Str.ofString "pattern", .str ⟨#[c]⟩ t)] rfl G.f_esc G.nolimit hd (by intros; exact BindsTo.of_eq (by rfl)) (locs rfl) ?_ (by decide) rfl rfl rfl
  intro L' h' tk' cd' F' N'
  tb_start
  obtain ⟨o, ho, m, hm, hs⟩ := L0.smap
  refine translate_dict (s := ⟨h', s.gens, s.drawn, tk', s.os⟩) (hm _ _ (Fr.keep (by assumption) _ _ ho)) L0.smap_ne hA esc ?hg (by simp [PySem.Str.length]) (by simp [PySem.Str.length]) ?_
  case hg =>
    intro x hx
    obtain rfl : x = c := by simpa using hx
    obtain ⟨q1, q2⟩ := hs x
    unfold esc
    cases q : specials.contains x with
    | true =>
      rw [if_pos rfl]
      exact ⟨by simp, .inr (q1 q)⟩
    | false =>
      rw [if_neg (by simp)]
      exact ⟨by simp, .inl ⟨q2 q, rfl⟩⟩
  intro t2 h2 tk2 hk2
  dsimp only [RetQ]
  exact hR _ _ _ (fun b o e => hk2 b o (Fr.keep F' b o e)) ⟨_, congrArg (fun x => Value.str x _) (by simp)⟩

end

section
theorem esc_call {f : Fns} {w : World} {A : Around} {E : Value → Shared → Prop} {s : Shared} {h₀ : Heap} {L : Addr} {m : Str → Option Value} {news : List (Addr × Obj)} {X : Str} {c : Nat} {t : Tok} {Q : Value → Shared → Prop}
    (L0 : Law0 w f h₀) (F : Fr h₀ L s.heap m) (N : News h₀ L s.heap news) (hA : A.handled = none) (hd : A.depth < recursionLimit) (hX : X = ⟨#[c]⟩)
    (h : ∀ h' t tk, Fr h₀ L h' m → News h₀ L h' news → Q (.str ⟨(esc c).toArray⟩ t) { s with heap := h', toks := tk }) : wpAny (model pw w) A (call (.ref f.esc) [.str X t]) Q E s := by
  subst hX
  refine wpAny_call (esc_walk (L0.keeps F.keep) hA hd (back_frame F N fun v h' tk F' N' _ hp => ?_))
  obtain ⟨t, rfl⟩ := hp
  exact h _ _ _ F' N'

end

section
theorem end_walk {f : Fns} {w : World} {A : Around} {s : Shared} {R : Result → Shared → Prop} {lr lo : Addr} {vr vo : List Value} {run row : List Nat} {pl : Nat} {t : Tok}
    (G : Gd f s.heap) (hA : A.handled = none) (hd : A.depth < recursionLimit) (hu : A.units + 200 < cLine)
    (hlr : s.heap.IsList lr vr.toArray) (hvr : IntsAre vr (run.map Int.ofNat)) (hlo : s.heap.IsList lo vo.toArray) (hvo : IntsAre vo (row.map Int.ofNat)) (hrow : Oct row) (hn1 : run.length ≤ 1000) (hn2 : row.length ≤ 1000) (hpl : pl ≤ 3 * row.length) (hin : 0 < pl % 3 → pl / 3 < row.length)
    (hR : Back s R fun _ v => ∃ t, v = .int (lend run row pl) t) :
    codeAny (model pw w) A (.call (.ref f.end_) ⟨[.ref lr, .ref lo, .int (pl : Int) t], []⟩) R s := by
  have KX : Frag.In ([] : Frag) s.heap := noFrag
  refine' enter [(Str.ofString "run", .ref lr), (Str.ofString "row", .ref lo), (Str.ofString "place", .int (pl : Int) t)] rfl G.f_end G.nolimit hd (by intros; exact BindsTo.of_eq (by rfl)) (locs rfl) ?_ (by decide) rfl rfl rfl
  intro L' h' tk' cd' F' N'
  have hvl : vr.length = run.length := by rw [hvr.length, List.length_map]
  have hol : vo.length = row.length := by rw [hvo.length, List.length_map]
  have hvl1 : vr.length ≤ 1000 := by lia
  have hP : (pl : Int).fdiv 3 = ((pl / 3 : Nat) : Int) := by rw [Int.fdiv_eq_ediv_of_nonneg _ (by decide)]; lia
  have hW : (pl : Int).fmod 3 = ((pl % 3 : Nat) : Int) := by rw [Int.fmod_eq_emod_of_nonneg _ (by decide)]; lia
  tb_start
  · rename_i hpos _
    have hpos' : 0 < pl % 3 := by rw [hW] at hpos; lia
    have hin' := hin hpos'
    have hg : ((List.map Int.ofNat row).getD ((pl : Int).fdiv 3).toNat 0) = ((row.getD (pl / 3) 0 : Nat) : Int) := by
      rw [hP, Int.toNat_natCast]
      simp [List.getD_eq_getElem?_getD, hin']
    have hrb : row.getD (pl / 3) 0 < 256 := by
      rw [List.getD_eq_getElem?_getD, List.getElem?_eq_getElem hin']
      exact hrow _ (List.getElem_mem hin')
    have hg1 : (((row.getD (pl / 3) 0 : Nat) : Int)).fdiv 16 = ((row.getD (pl / 3) 0 / 16 : Nat) : Int) := by rw [Int.fdiv_eq_ediv_of_nonneg _ (by decide)]; lia
    have hg2 : (((row.getD (pl / 3) 0 : Nat) : Int)).fmod 16 = ((row.getD (pl / 3) 0 % 16 : Nat) : Int) := by rw [Int.fmod_eq_emod_of_nonneg _ (by decide)]; lia
    refine r_hex (row.getD (pl / 3) 0 / 16) (by rw [hg, hg1]) (by lia) fun t1 tk1 => ?_
    tb_start
    refine r_hex (row.getD (pl / 3) 0 % 16) (by rw [hg, hg2]) (by lia) fun t2 tk2 => ?_
    tb_start
    have hfr : IntsAre [Value.int (hexc (row.getD (pl / 3) 0 / 16) : Int) t1, Value.int (hexc (row.getD (pl / 3) 0 % 16) : Int) t2] ([hexc (row.getD (pl / 3) 0 / 16), hexc (row.getD (pl / 3) 0 % 16)].map Int.ofNat) := .cons _ _ (.cons _ _ .nil)
    have hfr2 := hfr.drop (pl % 3 - 1)
    rw [← List.map_drop] at hfr2
    have hfl : ([hexc (row.getD (pl / 3) 0 / 16), hexc (row.getD (pl / 3) 0 % 16)].drop (pl % 3 - 1)).length = 3 - pl % 3 := by simp; lia
    generalize hfg : [hexc (row.getD (pl / 3) 0 / 16), hexc (row.getD (pl / 3) 0 % 16)].drop (pl % 3 - 1) = figs at hfr2 hfl
    refine r_slice (zs := List.drop (pl % 3 - 1) [Value.int (hexc (row.getD (pl / 3) 0 / 16) : Int) t1, Value.int (hexc (row.getD (pl / 3) 0 % 16) : Int) t2]) (by assumption) (by assumption) (News.isList (by assumption) (by k_mem)) (IsPart.int _ _) IsPart.none ?e (by simp) ?_
    case e =>
      have := pick_from (vs := [Value.int (hexc (row.getD (pl / 3) 0 / 16) : Int) t1, Value.int (hexc (row.getD (pl / 3) 0 % 16) : Int) t2]) (x := (pl : Int).fmod 3 - 1) (by lia)
      rw [this]
      congr 1
      lia
    intro D hD FD ND lD
    generalize List.drop (pl % 3 - 1) [Value.int (hexc (row.getD (pl / 3) 0 / 16) : Int) t1, Value.int (hexc (row.getD (pl / 3) 0 % 16) : Int) t2] = zs at hfr2 ND
    have hzl : zs.length = 3 - pl % 3 := by rw [hfr2.length, List.length_map, hfl]
    have hzl3 : zs.length ≤ 3 := by rw [hzl]; exact Nat.sub_le _ _
    tb_start
    refine r_slice (zs := vr.take zs.length) (by assumption) (by assumption) (isList_keeps (Fr.keep (by assumption)) hlr) IsPart.none (IsPart.int _ _) pick_toN (by lia) ?_
    intro D2 hD2 FD2 ND2 lD2
    tb_start
    refine r_slice (zs := zs.take vr.length) (by assumption) (by assumption) (News.isList (by assumption) (by k_mem)) IsPart.none (IsPart.int _ _) pick_toN (by lia) ?_
    intro D3 hD3 FD3 ND3 lD3
    tb_start
    have i2 : IntsAre (vr.take zs.length) ((run.take figs.length).map Int.ofNat) := by
      have := hvr.take zs.length
      rw [← List.map_take] at this
      have e : zs.length = figs.length := by lia
      rwa [e] at this ⊢
    have i3 : IntsAre (zs.take vr.length) ((figs.take run.length).map Int.ofNat) := by
      have := hfr2.take vr.length
      rw [← List.map_take] at this
      have e : vr.length = run.length := by rw [hvr.length, List.length_map]
      rwa [e] at this ⊢
    have hlen : lend run row pl = if run.take figs.length ≠ figs.take run.length then -1 else if run.length < figs.length then ((pl + run.length : Nat) : Int)
        else if (row.drop (pl / 3 + 1)).take (run.drop figs.length).length ≠ run.drop figs.length then -1 else ((3 * (pl / 3 + 1 + (run.drop figs.length).length) : Nat) : Int) := by
      unfold lend
      rw [if_pos hpos', hfg]
    refine ne_lists (News.isList (by assumption) (by k_mem)) i2 (News.isList (by assumption) (by k_mem)) i3 (by show A.units + 3 + 64 < cLine; lia) (fun hc => ?_) (fun hc => ?_)
    · rw [if_neg (by simp [hc])] at hlen
      by_cases hlt : run.length < figs.length
      · rw [if_pos hlt] at hlen
        tb_start
        dsimp only [RetQ]
        refine hR _ _ _ (Fr.keep (by assumption)) ⟨_, congrArg (fun z => Value.int z _) ?_⟩
        rw [hlen]; lia
      · rw [if_neg hlt] at hlen
        tb_start
        refine r_slice (zs := vr.drop zs.length) (by assumption) (by assumption) (isList_keeps (Fr.keep (by assumption)) hlr) (IsPart.int _ _) IsPart.none pick_fromN (by lia) ?_
        intro D4 hD4 FD4 ND4 lD4
        have i4 : IntsAre (vr.drop zs.length) ((run.drop figs.length).map Int.ofNat) := by
          have := hvr.drop zs.length
          rw [← List.map_drop] at this
          have e : zs.length = figs.length := by lia
          rwa [e] at this ⊢
        have l4 : (vr.drop zs.length).length = (run.drop figs.length).length := by rw [i4.length, List.length_map]
        have l4' : (vr.drop zs.length).length ≤ 1000 := by rw [List.length_drop]; lia
        generalize vr.drop zs.length = vr4 at ND4 i4 l4 l4'
        generalize hr4 : run.drop figs.length = run4 at i4 l4 hlen
        tb_start
        refine r_slice (zs := (vo.drop (pl / 3 + 1)).take vr4.length) (by assumption) (by assumption) (isList_keeps (Fr.keep (by assumption)) hlo) (IsPart.int _ _) (IsPart.int _ _) (pick_runN (a := pl / 3 + 1) (b := vr4.length) (by lia) (by lia)) (by lia) ?_
        intro D5 hD5 FD5 ND5 lD5
        tb_start
        have i5 : IntsAre ((vo.drop (pl / 3 + 1)).take vr4.length) (((row.drop (pl / 3 + 1)).take run4.length).map Int.ofNat) := by
          have := (hvo.drop (pl / 3 + 1)).take vr4.length
          rw [← List.map_drop, ← List.map_take] at this
          rwa [l4] at this ⊢
        refine ne_lists (News.isList (by assumption) (by k_mem)) i5 (News.isList (by assumption) (by k_mem)) i4 (by show A.units + 3 + 64 < cLine; lia) (fun hc5 => ?_) (fun hc5 => ?_)
        · rw [if_neg (by simp [hc5])] at hlen
          tb_start
          dsimp only [RetQ]
          refine hR _ _ _ (Fr.keep (by assumption)) ⟨_, congrArg (fun z => Value.int z _) ?_⟩
          rw [hlen]; lia
        · rw [if_pos hc5] at hlen
          tb_start
          dsimp only [RetQ]
          refine hR _ _ _ (Fr.keep (by assumption)) ⟨_, congrArg (fun z => Value.int z _) hlen.symm⟩
    · rw [if_pos hc] at hlen
      tb_start
      dsimp only [RetQ]
      refine hR _ _ _ (Fr.keep (by assumption)) ⟨_, congrArg (fun z => Value.int z _) hlen.symm⟩
  · have hz0 : ¬ (pl % 3 > 0) := by
      intro q
      have q1 : 0 < (pl : Int).fmod 3 := by lia
      first | contradiction | lia
    have hlen : lend run row pl = if (row.drop (pl / 3)).take run.length ≠ run then -1 else ((3 * (pl / 3 + run.length) : Nat) : Int) := by
      unfold lend
      rw [if_neg hz0]
    refine r_slice (zs := (vo.drop (pl / 3)).take vr.length) (by assumption) (by assumption) (isList_keeps (Fr.keep (by assumption)) hlo) (IsPart.int _ _) (IsPart.int _ _) (pick_runN (a := pl / 3) (b := vr.length) (by lia) (by lia)) (by lia) ?_
    intro D5 hD5 FD5 ND5 lD5
    tb_start
    have i5 : IntsAre ((vo.drop (pl / 3)).take vr.length) (((row.drop (pl / 3)).take run.length).map Int.ofNat) := by
      have := (hvo.drop (pl / 3)).take vr.length
      rw [← List.map_drop, ← List.map_take] at this
      rwa [hvl] at this ⊢
    refine ne_lists (News.isList (by assumption) (by k_mem)) i5 (isList_keeps (Fr.keep (by assumption)) hlr) hvr (by show A.units + 3 + 64 < cLine; lia) (fun hc5 => ?_) (fun hc5 => ?_)
    · rw [if_neg (by simp [hc5])] at hlen
      tb_start
      dsimp only [RetQ]
      refine hR _ _ _ (Fr.keep (by assumption)) ⟨_, congrArg (fun z => Value.int z _) ?_⟩
      rw [hlen]; lia
    · rw [if_pos hc5] at hlen
      tb_start
      dsimp only [RetQ]
      refine hR _ _ _ (Fr.keep (by assumption)) ⟨_, congrArg (fun z => Value.int z _) hlen.symm⟩

end

section
theorem end_call {f : Fns} {w : World} {A : Around} {E : Value → Shared → Prop} {s : Shared} {h₀ : Heap} {L lr lo : Addr} {m : Str → Option Value} {news : List (Addr × Obj)} {vr vo : List Value} {run row : List Nat} {pl : Nat} {z : Int} {t : Tok} {Q : Value → Shared → Prop}
    (G : Gd f h₀) (F : Fr h₀ L s.heap m) (N : News h₀ L s.heap news) (hA : A.handled = none) (hd : A.depth < recursionLimit) (hu : A.units + 200 < cLine)
    (hlr : s.heap.IsList lr vr.toArray) (hvr : IntsAre vr (run.map Int.ofNat)) (hlo : s.heap.IsList lo vo.toArray) (hvo : IntsAre vo (row.map Int.ofNat)) (hrow : Oct row) (hn1 : run.length ≤ 1000) (hn2 : row.length ≤ 1000) (hpl : pl ≤ 3 * row.length) (hin : 0 < pl % 3 → pl / 3 < row.length) (hz : z = (pl : Int))
    (h : ∀ h' t tk, Fr h₀ L h' m → News h₀ L h' news → Q (.int (lend run row pl) t) { s with heap := h', toks := tk }) : wpAny (model pw w) A (call (.ref f.end_) [.ref lr, .ref lo, .int z t]) Q E s := by
  subst hz
  refine wpAny_call (end_walk (G.keeps F.keep) hA hd hu hlr hvr hlo hvo hrow hn1 hn2 hpl hin (back_frame F N fun v h' tk F' N' _ hp => ?_))
  obtain ⟨t, rfl⟩ := hp
  exact h _ _ _ F' N'

end

section
local macro_rules | `(tactic| walk_at "eval Name") => `(tactic| ((with_reducible show wpAny _ _ (eval (Expr.Name _ _) (compEnv _ _ _)) _ _ _); k_dflt (refine' nameD_L ?F ?hv ?_ ?x1 ?x2 ?x3; (case x1 => rfl); (case x2 => rfl); (case x3 => rfl); (case F => assumption); (case hv => assumption))))
theorem rows_walk {f : Fns} {w : World} {A : Around} {s : Shared} {R : Result → Shared → Prop} {l : Addr} {vs : List Value} {ns : List Int} (L0 : Law0 w f s.heap) (hA : A.handled = none) (hd : A.depth + 8 < recursionLimit)
    (hl : s.heap.IsList l vs.toArray) (hv : IntsAre vs ns) (hn : ns.length ≤ 63)
    (hR : Back s R fun h' v => ∃ T lo lr octets row vo vr ko kr, v = .ref T ∧ h'.get? T = some { cls := .type "tuple", data := .seq #[.ref lo, .ref lr] 0 } ∧ h'.get? lo = some (listOf (List.toArray vo) ko) ∧ h'.get? lr = some (listOf (List.toArray vr) kr) ∧ IntsP vo octets ∧ IntsP vr row ∧ Oct octets ∧ Oct row ∧
      octets ≠ [] ∧ octets.length ≤ 10 ∧ row.length ≤ 10 ∧ s.heap.get? T = none ∧ s.heap.get? lo = none ∧ s.heap.get? lr = none) :
    codeAny (model pw w) A (.call (.ref f.rows) ⟨[.ref l], []⟩) R s := by
  have KX : Frag.In ([] : Frag) s.heap := noFrag
  have G := L0.gd
  refine' enter [(Str.ofString "script", .ref l)] rfl G.f_rows G.nolimit (by lia) (by intros; exact BindsTo.of_eq (by rfl)) (locs rfl) ?_ (by decide) rfl rfl rfl
  intro L' h' tk' cd' F' N'
  have hvl := hv.length
  tb_start
  refine r_slice (zs := vs.take 5) (by assumption) (by assumption) (isList_keeps (Fr.keep (by assumption)) hl) IsPart.none (IsPart.int _ _) (pick_to (by decide)) (by lia) ?_
  intro D hD FD ND lD
  have hv5 : IntsAre (vs.take 5) (ns.take 5) := hv.take 5
  have hl5 : (ns.take 5).length ≤ 5 := by rw [List.length_take]; lia
  generalize vs.take 5 = vs5 at hv5 ND
  generalize ns.take 5 = ns5 at hv5 hl5
  refine compA_list (fun v y => ∃ n t m u, v = .int n t ∧ y = .int m u ∧ 0 ≤ m ∧ m < 1000000) hA (by assumption) ND List.mem_cons_self (by rw [hv5.length]; lia) ?_ ?_
  · intro C v s₃ m₃ E' hm hns hx
    obtain ⟨i, hi⟩ := List.getElem?_of_mem hm
    obtain ⟨n, t, _, rfl⟩ := ints_at hv5 hi
    tb_start
    exact ⟨⟨n, t, _, _, rfl, rfl, mod_small n⟩, _, _, rfl, fun _ _ e => e⟩
  · intro D' h' tk ys k hF Fy Ny hne
    obtain ⟨hsm, hyl⟩ := paired_small hF
    have hyl5 : ys.length ≤ 5 := by rw [hyl, hv5.length]; exact hl5
    clear hF hyl
    dsimp only
    kat_tups
    refine if_joinG (h₀ := s.heap) (L := L') (fun Q' hX => ?_) ?_
    · tb_start
      · rename Fr _ _ _ _ => F5
        rename News _ _ _ _ => N5
        exact hX F5 (fun p hp => N5 p (by rw [List.mem_singleton.mp hp]; exact List.mem_cons_self)) rfl (small_snoc hsm) (by simp) (by simp; lia)
      · exact hX Fy (fun p hp => Ny p (by rw [List.mem_singleton.mp hp]; exact List.mem_cons_self)) rfl hsm (by lia) (by lia)
    · clear Fy Ny hne hsm hyl5 ND lD hv5 hl5 hvl
      intro m6 Dn ys nk h6 tk6 mn hsm hy3 hy8 F6 N6
      dsimp only
      tb_start
      rename_i lo _ hlo _ lr _ hlr _ F7 N7
      (with_unfolding_all refine' For_invVF F7 ?k1 ?k2 ?_); (case k1 => exact rfl); (case k2 => exact rfl)
      tb_start
      refine rows_loop hA F7 N7 hsm rfl rfl ?_ ?_
      · clear F7 N7
        intro Q' i x tx m₂ h₂ tk₂ I it vo vr ko kr octets row hil hx0 hx1 ho hr oo orr hol hrl hvol mo mr hit hI1 hI2 hI3 F₂ N₂ hQ
        tb_start
        rename_i hlD _ _ _ _
        obtain ⟨o, ho256, hoz⟩ := octet_small (x := x)
        generalize ([42, 42, 65, 51, 68, 61, 170, 163, 211, 58, 103, 32, 95, 63, 91, (x.fdiv 16).fmod 256] : List Int).getD (x.fmod 16).toNat 0 = z at *
        subst hoz
        refine PySem.P.chr_of_int (by simp; lia) ?_
        rw [Int.toNat_natCast]
        have hf1 := (find_small o ho256).1
        have hf2 := (find_small o ho256).2
        iterate 4 (try kat_tups)
        refine execs_joinG (h₀ := s.heap) (L := L') (WaysAt [(I, it), (lr, listOf vr.toArray kr), (lo, listOf vo.toArray ko), (Dn, listOf ys.toArray nk)] lo lr o x) (fun Q' hX => ?_) ?_
        · tb_start
          all_goals
            rename_i e1 _ _ e2 _ _ e3 hc _ _ e4 _ _ e5 _ _ e6 _ _ e7 _ _ e8 _ _ eW _ F9 N9
            refine hX (ways_mk F9 N9 ?_ (oneOct rfl ho256) noOct ?_ (oneOct (o := 163) rfl (by decide)) (oneOct (o := 58) rfl (by decide)) (oneOct (o := 103) rfl (by decide)) oct_mod ⟨hlD.2.1, hlD.2.2.1⟩ e1.1 e2.1 e3.1 e4.1 e5.1 e6.1 e7.1 e8.1 eW.1 rfl ⟨_, rfl⟩ ⟨_, rfl⟩ mo mr)
            · first
              | exact oneOct (o := 170) rfl (by decide)
              | exact oneOct rfl ho256
            · first
              | exact oneOct rfl ho256
              | exact oct_find hc hf2
        · intro m5 news5 h5 tk5 hW F5 N0
          refine WaysAt.el hW N0 fun W wvs wn new t5 t6 a us n mw mo5 mx5 ms5 mr5 hwl hq1 hq2 hnew hpk hain hone N5 => ?_
          clear hW N0
          tb_start
          refine rows_app (by assumption) (by assumption) hlr.1 hlo hI2 hnew (fun h7 F7 N7 => ?_) (by lia)
          tb_start
          refine rows_ext (by assumption) (by assumption) hlr.1 hlr.2 hI1 hnew (List.mem_cons_of_mem _ hain) hone hr orr (fun h8 vr' kr' row' F8 N8 hr8 or8 hl8 => ?_) (by lia)
          tb_start
          exact hQ (rows_next F8 N8 hI1 hI2 hI3 ho hr8 oo ho256 or8 hol hl8 hrl ms5 mr5)
      · clear F7 N7
        intro m₂ h₂ tk₂ vo vr ko kr octets row ho hr oo orr hol hrl mo mr F₂ N₂
        dsimp only
        tb_start
        rename_i F9 N9 _
        dsimp only [RetQ]
        exact hR _ _ _ (Fr.keep (by assumption)) (rows_out N9 ho hr oo orr hol hrl hy3 hy8)

end

section
theorem hdr_tab : ∀ c, c < 256 → hdrTab c = ⟨(enc1 c).toArray⟩ := by decide +kernel
theorem word_str {m : Nat} {l : List Nat} {X : Str} (hX : X.cps.toList = enc l) (hl : l ≠ []) : Str.empty ++ Str.ofString "=?" ++ (⟨#[m]⟩ : PySem.Str) ++ Str.ofString "?q?" ++ X ++ Str.ofString "?=" = ⟨(word m l).toArray⟩ := by
  rw [show Str.ofString "=?" = (⟨#[61, 63]⟩ : PySem.Str) from by decide +kernel, show Str.ofString "?q?" = (⟨#[63, 113, 63]⟩ : PySem.Str) from by decide +kernel, show Str.ofString "?=" = (⟨#[63, 61]⟩ : PySem.Str) from by decide +kernel]
  obtain ⟨X⟩ := X
  have hX : X.toList = enc l := hX
  show (⟨#[] ++ #[61, 63] ++ #[m] ++ #[63, 113, 63] ++ X ++ #[63, 61]⟩ : PySem.Str) = _
  congr 1
  apply Array.ext'
  rw [word, if_neg hl]
  simp [hX]
theorem hdr_walk {f : Fns} {w : World} {A : Around} {s : Shared} {R : Result → Shared → Prop} {bs : List UInt8} {m : Nat} {t u : Tok} (L0 : Law0 w f s.heap) (hA : A.handled = none) (hd : A.depth < recursionLimit) (hn : bs.length ≤ 100)
    (hR : Back s R fun _ v => ∃ t, v = .str ⟨(word m (bs.map (·.toNat))).toArray⟩ t) :
    codeAny (model pw w) A (.call (.ref f.hdr) ⟨[.bytes bs.toArray t, .str ⟨#[m]⟩ u], []⟩) R s := by
  have KX : Frag.In ([] : Frag) s.heap := noFrag
  have G := L0.gd
  have n1 := G.n_hmap
  refine' enter [(Str.ofString "header_bytes", .bytes bs.toArray t), (Str.ofString "charset", .str ⟨#[m]⟩ u)] rfl G.f_hdr G.nolimit hd ?k9 ?kB ?_ ?c5 ?c2 ?c3 ?c4
  case k9 =>
    intro doc pm an cdv ct
    obtain ⟨T, e, o, ho, vs, rfl, hv⟩ := L0.dfl
    obtain ⟨v, rfl⟩ := List.length_eq_one_iff.mp hv
    exact BindsTo.of_defaults (T := T) (by exact e) ho rfl rfl rfl
  case kB => exact locs rfl
  case c5 => decide
  case c2 => exact rfl
  case c3 => exact rfl
  case c4 => exact rfl
  intro L' h' tk' cd' F' N'
  cases bs with
  | nil =>
    tb_start
    dsimp only [RetQ]
    exact hR _ _ _ (Fr.keep (by assumption)) ⟨_, rfl⟩
  | cons c cs =>
    tb_start
    · refine latin_decode (by simp only [List.length_cons] at hn ⊢; lia) fun t1 tk1 => ?_
      tb_start
      obtain ⟨o, ho, hc, vs, n, hdt, hsz, hg⟩ := L0.hmap
      refine translate_list (s := ⟨h', s.gens, s.drawn, _, s.os⟩) (items := vs) ⟨o, Fr.keep (by assumption) _ _ ho, hc, n, hdt⟩ enc1 ?hg (by simp [latin, PySem.Str.length]) (by simp [latin, PySem.Str.length] at hn ⊢; lia) ?_
      case hg =>
        intro x hx
        have hx' : x < 256 := by
          simp only [latin, List.mem_map] at hx
          obtain ⟨b, _, rfl⟩ := hx
          exact b.toNat_lt
        refine ⟨by lia, by rw [enc1_length]; split <;> lia, ?_⟩
        obtain ⟨u, hu⟩ := hg x hx'
        exact ⟨u, by rw [hu, hdr_tab x hx']⟩
      intro t2 h2 tk2 hk2
      have hen : (latin (c :: cs)).cps.toList.flatMap enc1 = enc ((c :: cs).map (·.toNat)) := by simp [latin, enc]
      rw [hen]
      have hlen : ∀ l : List Nat, (enc l).length ≤ 3 * l.length := by
        intro l
        induction l with
        | nil => simp [enc_nil]
        | cons a l ih => rw [enc_cons, List.length_append, enc1_length]; simp only [List.length_cons]; split <;> lia
      have hXl : (⟨(enc ((c :: cs).map (·.toNat))).toArray⟩ : PySem.Str).length ≤ 300 := by
        have := hlen ((c :: cs).map (·.toNat))
        simp only [List.length_map] at this
        simp only [PySem.Str.length, List.size_toArray]
        lia
      have hX : (⟨(enc ((c :: cs).map (·.toNat))).toArray⟩ : PySem.Str).cps.toList = enc ((c :: cs).map (·.toNat)) := rfl
      generalize (⟨(enc ((c :: cs).map (·.toNat))).toArray⟩ : PySem.Str) = X at hXl hX
      have F2 := Fr.keeps F' hk2
      have N2 := N'.grown hk2
      tb_start
      dsimp only [RetQ]
      exact hR _ _ _ (Fr.keep (by assumption)) ⟨_, congrArg (fun x => Value.str x _) (word_str hX (by simp))⟩
    · exfalso
      have : ((c :: cs).toArray.size : Int) = 0 := by assumption
      simp at this
      lia

end

section
theorem tra_walk {f : Fns} {w : World} {A : Around} {s : Shared} {R : Result → Shared → Prop} {S : Addr} {so : Obj} {x : Str} {t u : Tok} (L0 : Law0 w f s.heap) (hA : A.handled = none) (hd : A.depth + 5 < recursionLimit)
    (hS : s.heap.get? S = some so) (hx : ∀ c ∈ x.cps.toList, c ≠ 91) (hl : x.length ≤ 1000)
    (hR : Back s R fun h' v => ∃ a vs n, v = .ref a ∧ s.heap.get? a = none ∧ h'.get? a = some (listOf vs.toArray n) ∧ PartsAre S vs (trs false x.cps.toList)) :
    codeAny (model pw w) A (.call (.ref f.tra) ⟨[.str x t, .ref S, .str (Str.ofString ".") u], []⟩) R s := by
  have KX : Frag.In ([] : Frag) s.heap := noFrag
  have G := L0.gd
  have n1 := G.n_esc
  have f1 := G.f_esc
  have hnl2 : x.cps.toList.length = x.length := by simp [PySem.Str.length]
  refine' enter [(Str.ofString "pat", .str x t), (Str.ofString "STAR", .ref S), (Str.ofString "QUESTION_MARK", .str (Str.ofString ".") u)] rfl G.f_tra G.nolimit (by omega) (by intros; exact BindsTo.of_eq (by rfl)) (locs rfl) ?_ (by decide) rfl rfl rfl
  intro L' h' tk' cd' F' N'
  tb_start
  rename_i l' _ _ _ _ B' _ _ hB _ _ _ _ _ _ _ _ _ _ F2 N2
  refine loop_while (n₀ := x.cps.toList.length) (TS x t u S l' B') F2 (fun p hp => N2 p (by simp at hp ⊢; rcases hp with rfl | rfl <;> simp))
    ⟨0, [], 0, rfl, ⟨_, _, rfl, rfl⟩, ⟨_, rfl⟩, rfl, rfl, rfl, rfl, rfl, rfl, Nat.le_refl _, TraAt.start⟩ ?_
  clear F2 N2
  intro n m₁ news₁ h₁ tk₁ hJ F₁ N₀
  refine gen_while fun Q' hQ => ?_
  refine TS.el hJ N₀ fun i vs cnt ti tn hni mi mn madd mres mpat mstar mq hvi hT N₁ => ?_
  clear hJ N₀
  by_cases hi : i < x.cps.toList.length
  · have hit : Txt.item x (i : Int) = ⟨#[x.cps.toList.getD i 0]⟩ := by
      have := item_eq (x := x) (z := (i : Int)) (by omega) (by omega)
      rwa [Int.toNat_natCast] at this
    have hne : x.cps.toList.getD i 0 ≠ 91 := by
      rw [List.getD_eq_getElem?_getD, List.getElem?_eq_getElem hi]
      exact hx _ (List.getElem_mem hi)
    have nb : NoBr x (i : Int) := by
      unfold NoBr
      rw [hit, show Str.ofString "[" = (⟨#[91]⟩ : PySem.Str) from by decide +kernel]
      simpa using hne
    have e42 : (Txt.item x (i : Int) == Str.ofString "*") = decide (x.cps.toList.getD i 0 = 42) := one_eq hit (by decide +kernel)
    have e63 : (Txt.item x (i : Int) == Str.ofString "?") = decide (x.cps.toList.getD i 0 = 63) := one_eq hit (by decide +kernel)
    tb_start
    all_goals first | exact News.get (by assumption) (by simp) | skip
    · have h1 : (Txt.item x (i : Int) == Str.ofString "*") = true := by assumption
      have h2 : vs.isEmpty = true := by assumption
      rw [e42] at h1
      rename Fr _ _ _ _ => F5; rename News _ _ _ _ => N5
      exact hQ.fin (TS.go F5 N5 hni hi rfl (snoc_le1 hvi) (hT.star hi (of_decide_eq_true h1) (by rw [List.isEmpty_iff.mp h2]; simp)) rfl mn madd mres mpat mstar mq)
    · have h1 : (Txt.item x (i : Int) == Str.ofString "*") = true := by assumption
      rw [e42] at h1
      have hv : ∃ v, vs.getLast? = some v := by
        cases q : vs.getLast? with
        | some v => exact ⟨v, rfl⟩
        | none =>
          exfalso
          rw [List.getLast?_eq_none_iff] at q
          simp_all
      obtain ⟨v, hv⟩ := hv
      refine r_last (News.isList (by assumption) (by k_mem)) (by omega) hv ?_
      rcases hT.last hv with rfl | ⟨y, ty, rfl⟩
      · tb_start
        refine wpAny_isNot_ref_self ?_
        tb_start
        rename Fr _ _ _ _ => F5; rename News _ _ _ _ => N5
        exact hQ.fin (TS.go F5 N5 hni hi rfl (Nat.le_succ_of_le hvi) (hT.skip hi (of_decide_eq_true h1) (fun q => by rw [q] at hv; cases hv) hv) rfl mn madd mres mpat mstar mq)
      · tb_start
        all_goals first | exact News.get (by assumption) (by simp) | skip
        rename Fr _ _ _ _ => F5; rename News _ _ _ _ => N5
        exact hQ.fin (TS.go F5 N5 hni hi rfl (snoc_le1 hvi) (hT.star hi (of_decide_eq_true h1) (by rw [hv]; simp)) rfl mn madd mres mpat mstar mq)
    · have h1 : (Txt.item x (i : Int) == Str.ofString "?") = true := by assumption
      have h2 : (Txt.item x (i : Int) == Str.ofString "*") = false := by first | assumption | (simp only [Bool.not_eq_true] at *; assumption)
      rw [e63] at h1
      rw [e42] at h2
      rename Fr _ _ _ _ => F5; rename News _ _ _ _ => N5
      exact hQ.fin (TS.go F5 N5 hni hi rfl (snoc_le1 hvi) (hT.put (y := [46]) hi (of_decide_eq_false h2) (by rw [if_pos (of_decide_eq_true h1)])) rfl mn madd mres mpat mstar mq)
    · refine esc_call L0 (by assumption) (by assumption) hA (by show A.depth + 1 < _; omega) hit fun h4 t4 tk4 F4 N4 => ?_
      have h1 : (Txt.item x (i : Int) == Str.ofString "?") = false := by first | assumption | (simp only [Bool.not_eq_true] at *; assumption)
      have h2 : (Txt.item x (i : Int) == Str.ofString "*") = false := by first | assumption | (simp only [Bool.not_eq_true] at *; assumption)
      rw [e63] at h1
      rw [e42] at h2
      tb_start
      all_goals first | exact News.get (by assumption) (by simp) | skip
      rename Fr _ _ _ _ => F5; rename News _ _ _ _ => N5
      exact hQ.fin (TS.go F5 N5 hni hi rfl (snoc_le1 hvi) (hT.put hi (of_decide_eq_false h2) (by rw [if_neg (of_decide_eq_false h1)])) rfl mn madd mres mpat mstar mq)
  · tb_start
    refine hQ.brk ?_
    tb_start
    dsimp only [RetQ]
    exact hR _ _ _ (Fr.keep (by assumption)) ⟨l', vs, cnt, rfl, (N₁ (l', listOf vs.toArray cnt) (by simp)).2.2, N₁.get (by simp), hT.done (by omega)⟩

end

section
theorem frame_str {l : List Nat} {X : Str} (hX : X.cps.toList = l) : Str.empty ++ Str.ofString "(?s:" ++ X ++ Str.ofString ")\\Z" = ⟨(head4 ++ l ++ tail3).toArray⟩ := by
  rw [show Str.ofString "(?s:" = (⟨#[40, 63, 115, 58]⟩ : PySem.Str) from by decide +kernel, show Str.ofString ")\\Z" = (⟨#[41, 92, 90]⟩ : PySem.Str) from by decide +kernel]
  obtain ⟨X⟩ := X
  have hX : X.toList = l := hX
  show (⟨#[] ++ #[40, 63, 115, 58] ++ X ++ #[41, 92, 90]⟩ : PySem.Str) = _
  congr 1
  apply Array.ext'
  simp [head4, tail3, hX]
theorem held_str {l : List Nat} {X : Str} (hX : X.cps.toList = l) : (Str.empty ++ Str.ofString "(?>.*?" ++ X ++ Str.ofString ")").cps.toList = [40, 63, 62, 46, 42, 63] ++ l ++ [41] := by
  rw [show Str.ofString "(?>.*?" = (⟨#[40, 63, 62, 46, 42, 63]⟩ : PySem.Str) from by decide +kernel, show Str.ofString ")" = (⟨#[41]⟩ : PySem.Str) from by decide +kernel]
  obtain ⟨X⟩ := X
  have hX : X.toList = l := hX
  show (#[] ++ #[40, 63, 62, 46, 42, 63] ++ X ++ #[41]).toList = _
  simp [hX]
theorem join_walk {f : Fns} {w : World} {A : Around} {s : Shared} {R : Result → Shared → Prop} {I S : Addr} {so : Obj} {vsI : List Value} {ps : List (Option (List Nat))} (L0 : Law0 w f s.heap) (hA : A.handled = none) (hd : A.depth + 5 < recursionLimit)
    (hS : s.heap.get? S = some so) (hI : s.heap.IsList I vsI.toArray) (hP : PartsAre S vsI ps) (hN : NoDbl ps) (hl : ps.length ≤ 1000) (hj : (jt false ps).length ≤ 10000)
    (hR : Back s R fun h' v => ∃ t, v = .str ⟨(head4 ++ jt false ps ++ tail3).toArray⟩ t) :
    codeAny (model pw w) A (.call (.ref f.join) ⟨[.ref I, .ref S], []⟩) R s := by
  have KX : Frag.In ([] : Frag) s.heap := noFrag
  have G := L0.gd
  have hIl := hP.length
  refine' enter [(Str.ofString "inp", .ref I), (Str.ofString "STAR", .ref S)] rfl G.f_join G.nolimit (by lia) (by intros; exact BindsTo.of_eq (by rfl)) (locs rfl) ?_ (by decide) rfl rfl rfl
  intro L' h' tk' cd' F' N'
  tb_start
  rename_i l' _ _ _ _ B' _ _ hB _ _ _ _ _ _ _ _ _ _ F2 N2
  have hlen0 : News s.heap L' _ [(l', listOf (List.toArray ([] : List Value)) 0), (B', bndObj l')] := fun p hp => N2 p (by simp at hp ⊢; rcases hp with rfl | rfl <;> simp)
  clear N2
  refine loop_whileX (n₀ := ps.length) (fun n => JS ps vsI.length I S l' B' fun i v => n + i = ps.length ∧ v ≤ i)
    (JS ps vsI.length I S l' B' fun i v => i ≤ ps.length ∧ (i < ps.length → ps[i]? = some none) ∧ v ≤ 2 * i)
    F2 hlen0 (JS.mk' 0 ⟨rfl, Nat.le_refl _⟩ rfl rfl rfl rfl rfl rfl rfl .nil JAt.start) ?_ ?_
  · clear F2 hlen0
    intro n m₁ news₁ h₁ tk₁ hJS F₁ N₀
    refine gen_while fun Q' hQ => ?_
    refine JS.el hJS N₀ fun i vs ys cnt ti tn hc mi mn madd mres minp mstar hys hJ N₁ => ?_
    clear hJS N₀
    by_cases hi : i < ps.length
    · refine part_at hi (fun hp => ?_) fun y hp => ?_
      · have hv := hP.at_none hp
        tb_start
        refine wpAny_isNot_ref_self ?_
        tb_start
        exact hQ.brk (XQ.intro F₁ N₁ (JS.mk' i ⟨Nat.le_of_lt hi, fun _ => hp, Nat.le_trans hc.2 (Nat.le_mul_of_pos_left _ (by decide))⟩ rfl mi mn madd mres minp mstar hys hJ))
      · refine hP.at_some hp fun ty hv => ?_
        tb_start
        all_goals first | exact News.get (by assumption) (by simp) | skip
        refine hQ.fin (WEnd.same (n' := n - 1) (by assumption) (by assumption) (by lia) ?_)
        exact JS.mk' (i + 1) ⟨by lia, by simp; lia⟩ (by lia) rfl mn madd mres minp mstar (strsAre_snoc hys) (hJ.put hp)
    · tb_start
      exact hQ.brk (XQ.intro F₁ N₁ (JS.mk' i ⟨by lia, fun q => absurd q hi, by lia⟩ rfl mi mn madd mres minp mstar hys hJ))
  · clear F2 hlen0
    intro m₁ news₁ h₁ tk₁ hJS F₁ N₀
    refine JS.el hJS N₀ fun i vs ys cnt ti tn hc mi mn madd mres minp mstar hys hJ N₁ => ?_
    clear hJS N₀
    dsimp only
    tb_start
    refine loop_whileX (n₀ := ps.length - i) (fun n => JS ps vsI.length I S l' B' fun i v => n + i = ps.length ∧ (i < ps.length → ps[i]? = some none) ∧ v ≤ 2 * i)
      (JS ps vsI.length I S l' B' fun i v => i = ps.length ∧ v ≤ 2 * i)
      F₁ N₁ (JS.mk' i ⟨by lia, hc.2⟩ rfl mi mn madd mres minp mstar hys hJ) ?_ ?_ PassesOwn.never
    · clear F₁ N₁ hc mi mn madd mres minp mstar hys hJ
      intro n m₁ news₁ h₁ tk₁ hJS F₁ N₀
      refine gen_while fun Q' hQ => ?_
      refine JS.el hJS N₀ fun i vs ys cnt ti tn hc mi mn madd mres minp mstar hys hJ N₁ => ?_
      clear hJS N₀
      by_cases hi : i < ps.length
      · have hp := hc.2.1 hi
        have hv := hP.at_none hp
        by_cases hi2 : i + 1 = ps.length
        · tb_start
          refine wpAny_is_ref_self ?_
          tb_start
          · exact News.get (by assumption) (by simp)
          · refine hQ.brk (XQ.intro (by assumption) (by assumption) ?_)
            exact JS.mk' (i + 1) ⟨hi2, by simp; lia⟩ (by lia) rfl mn madd mres minp mstar (strsAre_snoc hys) (hJ.lone hp hi2 (by decide +kernel))
          · exfalso; lia
        · refine part_at (i := i + 1) (by lia) (fun hp2 => absurd hp2 (noDbl_at hN hp)) fun y hp2 => ?_
          refine hP.at_some hp2 fun t2 hv2 => ?_
          tb_start
          refine wpAny_is_ref_self ?_
          tb_start
          · exfalso; lia
          · exfalso; lia
          rename_i _ _ _ fx _ hlt _ F3 N3
          refine loop_whileX (n₀ := ps.length - (i + 1)) (fun n => JF ps vsI.length I S l' B' fx i cnt vs fun j v => n + j = ps.length ∧ i + 1 ≤ j ∧ v ≤ j)
            (JF ps vsI.length I S l' B' fx i cnt vs fun j v => j ≤ ps.length ∧ i + 1 ≤ j ∧ (j < ps.length → ps[j]? = some none) ∧ v ≤ j)
            F3 N3 (JF.mk' (zvs := []) (i + 1) ⟨by lia, Nat.le_refl _, Nat.zero_le _⟩ (by lia) rfl mn madd mres minp mstar rfl .nil IAt.start) ?_ ?_ PassesOwn.never
          · clear F3 N3
            intro n₂ m₂ news₂ h₂ tk₂ hJF F₂ N₀
            refine gen_while fun Q' hQ => ?_
            refine JF.el hJF N₀ fun j zvs zs zc tj tn2 hc2 mj mn2 madd2 mres2 minp2 mstar2 mfix hzs hIA N₂ => ?_
            clear hJF N₀
            by_cases hjl : j < ps.length
            · refine part_at hjl (fun hpj => ?_) fun yj hpj => ?_
              · have hvj := hP.at_none hpj
                tb_start
                refine wpAny_isNot_ref_self ?_
                tb_start
                exact hQ.brk (XQ.intro F₂ N₂ (JF.mk' j ⟨Nat.le_of_lt hjl, hc2.2.1, fun _ => hpj, hc2.2.2⟩ rfl mj mn2 madd2 mres2 minp2 mstar2 mfix hzs hIA))
              · refine hP.at_some hpj fun ty hvj => ?_
                have hc3 := hc2.2.2
                tb_start
                refine hQ.fin (WEnd.same (n' := n₂ - 1) (by assumption) (by assumption) (by lia) ?_)
                exact JF.mk' (zs := zs ++ [⟨yj.toArray⟩]) (j + 1) ⟨by lia, by lia, by simp; lia⟩ (by lia) rfl mn2 madd2 mres2 minp2 mstar2 mfix (by simpa using strsAre_snoc (t := ty) (y := ⟨yj.toArray⟩) hzs) (hIA.put hpj)
            · tb_start
              exact hQ.brk (XQ.intro F₂ N₂ (JF.mk' j ⟨by lia, hc2.2.1, fun q => absurd q hjl, hc2.2.2⟩ rfl mj mn2 madd2 mres2 minp2 mstar2 mfix hzs hIA))
          · clear F3 N3
            intro m₂ news₂ h₂ tk₂ hJF F₂ N₀
            refine JF.el hJF N₀ fun j zvs zs zc tj tn2 hc2 mj mn2 madd2 mres2 minp2 mstar2 mfix hzs hIA N₂ => ?_
            clear hJF N₀
            have hzl := hc2.2.2.2
            dsimp only
            tb_start
            have hin := hJ.inner hp hIA
            have hzl2 := StrsAre.len hzs
            refine r_join (News.isList (by assumption) (by k_mem)) hzs (by lia) (by lia) fun Z tz kz hZ hZl => ?_
            have hZl' : Z.length ≤ 10000 := by lia
            have N₂' : News s.heap L' h₂ [(l', listOf vs.toArray cnt), (B', bndObj l')] := fun p hp => N₂ p (List.mem_cons_of_mem _ hp)
            clear N₂
            by_cases hjn : j = ps.length
            · have hst : j < ps.length → ps[j]? = some none := fun q => absurd q (by lia)
              tb_start
              all_goals first | exact News.get (by assumption) (by simp) | (exfalso; lia) | skip
              refine r_bnd (by assumption) (by assumption) hB (by intro p hp; cases hp) (fun h5 F5 N5 => ?_) (by simp; lia)
              tb_start
              refine hQ.fin (WEnd.same (n' := 0) (by assumption) (by assumption) (by lia) ?_)
              exact JS.mk' (ys := ys ++ [Str.ofString ".*"] ++ [Z]) j ⟨by lia, hst, by simp; lia⟩ rfl mj mn2 madd2 mres2 minp2 mstar2 (strsAre_snoc (strsAre_snoc hys)) (hjn ▸ hJ.last hp (hjn ▸ hIA) (by decide +kernel) hZ)
            · have hpj := hc2.2.2.1 (by lia)
              tb_start
              all_goals first | exact News.get (by assumption) (by simp) | (exfalso; lia) | skip
              refine hQ.fin (WEnd.same (n' := ps.length - j) (by assumption) (by assumption) (by lia) ?_)
              exact JS.mk' j ⟨by lia, hc2.2.2.1, by simp; lia⟩ rfl mj mn2 madd2 mres2 minp2 mstar2 (strsAre_snoc hys) (hJ.held hp hIA hpj (held_str hZ))
      · tb_start
        exact hQ.brk (XQ.intro F₁ N₁ (JS.mk' i ⟨by lia, hc.2.2⟩ rfl mi mn madd mres minp mstar hys hJ))
    · clear F₁ N₁ hc mi mn madd mres minp mstar hys hJ
      intro m₁ news₁ h₁ tk₁ hJS F₁ N₀
      refine JS.el hJS N₀ fun i vs ys cnt ti tn hc mi mn madd mres minp mstar hys hJ N₁ => ?_
      clear hJS N₀
      have hci := hc.1
      dsimp only
      tb_start
      have hlen := hJ.len
      have hvl2 := StrsAre.len hys
      refine r_join (News.isList (by assumption) (by k_mem)) hys (by lia) (by lia) fun Z tz kz hZ hZl => ?_
      have hZl' : Z.length ≤ 10000 := by lia
      tb_start
      dsimp only [RetQ]
      refine hR _ _ _ (Fr.keep (by assumption)) ⟨_, congrArg (fun x => Value.str x _) ?_⟩
      rw [hJ.done (Nat.le_of_eq hci.symm)] at hZ
      exact frame_str hZ

end

section
/-- the text of translate -/
noncomputable def trText (codes : List Nat) : List Nat := head4 ++ jt false (trs false codes) ++ tail3
theorem jt_len : ∀ (ps : List (Option (List Nat))) (h : Bool), (jt h ps).length ≤ 7 * ps.length + (ps.flatMap fun p => p.getD []).length
  | [], _ => by simp [jt]
  | some x :: ps, h => by
    have := jt_len ps h
    simp only [jt, List.length_append, List.flatMap_cons, List.length_cons, Option.getD_some]
    lia
  | none :: ps, h => by
    have h1 := jt_len ps true
    have h2 := jt_len ps false
    have e : (none :: ps : List (Option (List Nat))).flatMap (fun p => p.getD []) = ps.flatMap fun p => p.getD [] := by simp
    rw [e]
    generalize (ps.flatMap fun p => p.getD []).length = z at *
    simp only [jt, List.length_cons, List.length_append]
    split <;> split <;> simp only [List.length_append, List.length_cons, List.length_nil] <;> lia
theorem trs_len : ∀ (l : List Nat) (st : Bool), (trs st l).length ≤ l.length ∧ ((trs st l).flatMap fun p => p.getD []).length ≤ 2 * l.length
  | [], _ => by simp [trs]
  | c :: l, st => by
    have h1 := trs_len l true
    have h2 := trs_len l false
    unfold trs
    split
    · split
      · simp only [List.length_cons]; lia
      · simp only [List.length_cons, List.flatMap_cons, Option.getD_none, List.nil_append]; lia
    · have : (if c = 63 then [46] else esc c).length ≤ 2 := by
        unfold esc
        split
        · simp
        · split <;> simp
      simp only [List.length_cons, List.flatMap_cons, Option.getD_some, List.length_append]; lia
theorem jt_trs_len (l : List Nat) : (jt false (trs false l)).length ≤ 9 * l.length := by
  have h1 := jt_len (trs false l) false
  have h2 := trs_len l false
  lia
theorem fresh_of {h₀ h : Heap} {L : Addr} {m : Str → Option Value} {a : Addr} (F : Fr h₀ L h m) (e : h.get? a = none) : h₀.get? a = none := by
  cases q : h₀.get? a with
  | none => rfl
  | some o => rw [F.keep a o q] at e; cases e
section
variable {f : Fns} {w : World} {A : Around} {E : Value → Shared → Prop} {s : Shared} {h₀ : Heap} {L : Addr} {m : Str → Option Value} {news : List (Addr × Obj)} {Q : Value → Shared → Prop}
theorem tra_call {S : Addr} {so : Obj} {x : Str} {t u : Tok} (L0 : Law0 w f h₀) (F : Fr h₀ L s.heap m) (N : News h₀ L s.heap news) (hA : A.handled = none) (hd : A.depth + 5 < recursionLimit)
    (hS : s.heap.get? S = some so) (hx : ∀ c ∈ x.cps.toList, c ≠ 91) (hl : x.length ≤ 1000)
    (h : ∀ a vs n h' tk, Fr h₀ L h' m → News h₀ L h' ((a, listOf vs.toArray n) :: news) → PartsAre S vs (trs false x.cps.toList) → Q (.ref a) { s with heap := h', toks := tk }) :
    wpAny (model pw w) A (call (.ref f.tra) [.str x t, .ref S, .str (Str.ofString ".") u]) Q E s := by
  refine wpAny_call (tra_walk (L0.keeps F.keep) hA hd hS hx hl (back_frame F N fun v h' tk F' N' _ hp => ?_))
  obtain ⟨a, vs, n, rfl, hn, ho, hP⟩ := hp
  exact h a vs n h' tk F' (N'.more F' ho (by intro es n e; cases e) (fresh_of F hn)) hP
theorem join_call {I S : Addr} {so : Obj} {vsI : List Value} {ps : List (Option (List Nat))} (L0 : Law0 w f h₀) (F : Fr h₀ L s.heap m) (N : News h₀ L s.heap news) (hA : A.handled = none) (hd : A.depth + 5 < recursionLimit)
    (hS : s.heap.get? S = some so) (hI : s.heap.IsList I vsI.toArray) (hP : PartsAre S vsI ps) (hN : NoDbl ps) (hl : ps.length ≤ 1000) (hj : (jt false ps).length ≤ 10000)
    (h : ∀ t h' tk, Fr h₀ L h' m → News h₀ L h' news → Q (.str ⟨(head4 ++ jt false ps ++ tail3).toArray⟩ t) { s with heap := h', toks := tk }) :
    wpAny (model pw w) A (call (.ref f.join) [.ref I, .ref S]) Q E s := by
  refine wpAny_call (join_walk (L0.keeps F.keep) hA hd hS hI hP hN hl hj (back_frame F N fun v h' tk F' N' _ hp => ?_))
  obtain ⟨t, rfl⟩ := hp
  exact h t h' tk F' N'
end
theorem tr_walk {f : Fns} {w : World} {A : Around} {s : Shared} {R : Result → Shared → Prop} {x : Str} {t : Tok} (L0 : Law0 w f s.heap) (hA : A.handled = none) (hd : A.depth + 20 < recursionLimit)
    (hx : ∀ c ∈ x.cps.toList, c ≠ 91) (hl : x.length ≤ 1000)
    (hR : Back s R fun _ v => ∃ t, v = .str ⟨(trText x.cps.toList).toArray⟩ t) :
    codeAny (model pw w) A (.call (.ref f.tr) ⟨[.str x t], []⟩) R s := by
  have KX : Frag.In ([] : Frag) s.heap := noFrag
  have G := L0.gd
  have n1 := G.n_tra
  have n2 := G.n_join
  have f1 := G.f_tra
  have f2 := G.f_join
  refine' enter [(Str.ofString "pat", .str x t)] rfl G.f_tr G.nolimit (by lia) (by intros; exact BindsTo.of_eq (by rfl)) (locs rfl) ?_ (by decide) rfl rfl rfl
  intro L' h' tk' cd' F' N'
  have hnl : x.cps.toList.length = x.length := by simp [PySem.Str.length]
  have hjl := jt_trs_len x.cps.toList
  have htl := (trs_len x.cps.toList false).1
  tb_start
  refine r_object (by assumption) (by assumption) fun O h1 F1 N1 => ?_
  tb_start
  refine tra_call L0 (by assumption) (by assumption) hA (by show A.depth + 1 + 5 < _; lia) (News.get (by assumption) (List.mem_cons_self)) hx hl fun a vs n h2 tk2 F2 N2 hP => ?_
  tb_start
  refine join_call (I := a) L0 (by assumption) (by assumption) hA (by show A.depth + 1 + 5 < _; lia) (News.get (by assumption) (List.mem_cons_of_mem _ List.mem_cons_self)) (News.isList (by assumption) (by k_mem)) hP (noDbl_trs _ _) (by lia) (by lia) fun t3 h3 tk3 F3 N3 => ?_
  dsimp only [RetQ]
  exact hR _ _ _ (Fr.keep (by assumption)) ⟨_, rfl⟩

end

section
theorem chars_walk {w : World} {A : Around} {s : Shared} {h₀ : Heap} {L' a : Addr} {cd' : Value} {Q : Flow → Shared → Prop} {T : Str} {t ta : Tok} {at_ : Nat} {rest : List Nat} {m : Str → Option Value} {R0 C : Addr} {rvs cvs : List Value} {rn cn : Nat} {objs : List (Addr × Obj)}
    (hrest : T.cps.toList.drop at_ = rest) (hlong : 3 < rest.length) (hl : T.length ≤ 10000) (ma : m "at" = some (.int (at_ : Int) ta)) (mr : m "runs" = some (.ref R0)) (mt : m "text" = some (.str T t)) (hM : RunsOff R0 C objs) (hcl : cvs.length ≤ 10000)
    (hrl : rvs.length ≤ 10000) (F : Fr h₀ L' s.heap m) (N : News h₀ L' s.heap ((R0, listOf (rvs ++ [Value.ref C]).toArray rn) :: (C, listOf cvs.toArray cn) :: objs))
    (hret : rest.headD 0 ∈ stops → ∀ h' tk Z, Fr h₀ L' h' m → News h₀ L' h' [(Z, listOf #[] 0)] → Q (.ret (.ref Z)) { s with heap := h', toks := tk })
    (hbs : rest.headD 0 ∉ stops → rest.headD 0 = 92 → ∀ h' tk t2 t3, Fr h₀ L' h' (fun y => if y = Str.ofString "at" then some (.int ((at_ : Int) + 2) t2) else m y) → News h₀ L' h' ((R0, listOf (rvs ++ [Value.ref C]).toArray rn) :: (C, listOf (cvs ++ [Value.str (symStr (some (rest.getD 1 0))) t3]).toArray (cn + 1)) :: objs) →
      Q .next { s with heap := h', toks := tk })
    (hone : rest.headD 0 ∉ stops → rest.headD 0 ≠ 92 → ∀ h' tk t2 t3, Fr h₀ L' h' (fun y => if y = Str.ofString "at" then some (.int ((at_ : Int) + 1) t2) else m y) → News h₀ L' h' ((R0, listOf (rvs ++ [Value.ref C]).toArray rn) :: (C, listOf (cvs ++ [Value.str (symStr (if rest.headD 0 = 46 then none else some (rest.headD 0))) t3]).toArray (cn + 1)) :: objs) →
      Q .next { s with heap := h', toks := tk }) :
    wpAny (model pw w) A (exec runsChars (envX (Str.ofString "_law_runs") runsScope L' a cd' [])) Q (fun _ _ => False) s := by
  have KX : Frag.In ([] : Frag) h₀ := noFrag
  have hTl : T.cps.toList.length = T.length := by simp [PySem.Str.length]
  have hrl2 : rest.length = T.length - at_ := by rw [← hrest, List.length_drop, hTl]
  have hitem : Txt.item T (at_ : Int) = ⟨#[rest.headD 0]⟩ := by
    have := item_eq (x := T) (z := (at_ : Int)) (by omega) (by omega)
    rw [this, Int.toNat_natCast, ← hrest, headD_drop (by omega)]
  have hcin : (!(Builtin.Str.occurrences (Str.ofString "()*+?[]{}|^$") (Txt.item T (at_ : Int)) 0 (Str.ofString "()*+?[]{}|^$").length 1).isEmpty) = decide (rest.headD 0 ∈ stops) := by
    rw [hitem, StrLaws.found_one]
    rfl
  have hit1 : Txt.item T ((at_ : Int) + 1) = symStr (some (rest.getD 1 0)) := by
    have := item_eq (x := T) (z := (at_ : Int) + 1) (by omega) (by omega)
    rw [this, show ((at_ : Int) + 1).toNat = at_ + 1 from rfl, ← hrest, getD_drop]
    rfl
  have qb : (Txt.item T (at_ : Int) == Str.ofString "\\") = decide (rest.headD 0 = 92) := one_eq hitem (by decide +kernel)
  have qd : (Txt.item T (at_ : Int) == Str.ofString ".") = decide (rest.headD 0 = 46) := one_eq hitem (by decide +kernel)
  obtain ⟨hp, g, d, tk, os⟩ := s
  show wpAny (model pw w) A (exec (Stmt.If _ _ _ _) (envX _ { kind := _, names := _, isGenerator := _, isCoroutine := _, more := _ } _ _ _ _)) _ _ _
  by_cases cs : rest.headD 0 ∈ stops
  · rw [decide_eq_true cs] at hcin
    tb_start
    rename News _ _ _ _ => N5
    exact hret cs _ _ _ (by assumption) (fun p hp => N5 p (by rw [List.mem_singleton.mp hp]; exact List.mem_cons_self))
  · rw [decide_eq_false cs] at hcin
    by_cases cb : rest.headD 0 = 92
    · rw [decide_eq_true cb] at qb
      tb_start
      rename News _ _ _ _ => N5
      rw [hit1] at N5
      exact hbs cs cb _ _ _ _ (by assumption) N5
    · rw [decide_eq_false cb] at qb
      have hone' := hone cs cb
      by_cases ce : rest.headD 0 = 46
      · rw [decide_eq_true ce] at qd
        rw [if_pos ce] at hone'
        tb_start
        rename News _ _ _ _ => N5
        rw [show Str.ofString "" = symStr none from by decide +kernel] at N5
        exact hone' _ _ _ _ (by assumption) N5
      · rw [decide_eq_false ce] at qd
        rw [if_neg ce] at hone'
        tb_start
        rename News _ _ _ _ => N5
        rw [show Txt.item T (at_ : Int) = symStr (some (rest.headD 0)) from hitem] at N5
        exact hone' _ _ _ _ (by assumption) N5

end

section
theorem runs_walk {f : Fns} {w : World} {A : Around} {s : Shared} {R : Result → Shared → Prop} {T : Str} {t : Tok} {body : List Nat} {RES : List (List (Option Nat))} (L0 : Law0 w f s.heap) (hA : A.handled = none) (hd : A.depth + 5 < recursionLimit)
    (hT : T.cps.toList = head4 ++ (body ++ tail3)) (hl : T.length ≤ 10000) (hres : prs ((body ++ tail3).length + 1) (body ++ tail3) false [] [] = RES)
    (hR : Back s R fun h' v => ∃ a vs n objs, v = .ref a ∧ s.heap.get? a = none ∧ h'.get? a = some (listOf vs.toArray n) ∧ RunObjs SymsAre objs vs RES ∧ ∀ p ∈ objs, h'.get? p.1 = some p.2 ∧ s.heap.get? p.1 = none) :
    codeAny (model pw w) A (.call (.ref f.runs) ⟨[.str T t], []⟩) R s := by
  have KX : Frag.In ([] : Frag) s.heap := noFrag
  have G := L0.gd
  refine' enter [(Str.ofString "text", .str T t)] rfl G.f_runs G.nolimit (by omega) (by intros; exact BindsTo.of_eq (by rfl)) (locs rfl) ?_ (by decide) rfl rfl rfl
  intro L' h' tk' cd' F' N'
  have hTl : T.cps.toList.length = T.length := by simp [PySem.Str.length]
  have hTl2 : T.length = (body ++ tail3).length + 4 := by rw [← hTl, hT]; simp [head4]
  have hb3 : 3 ≤ (body ++ tail3).length := by simp [tail3]
  have e1 : (Txt.slice T none (some 4) != Str.ofString "(?s:") = false := by
    have : Txt.slice T none (some 4) = Str.ofString "(?s:" := by
      show StrLaws.sliceText T none (some 4) = _
      rw [StrLaws.sliceText_to (by omega), hT, show Str.ofString "(?s:" = (⟨#[40, 63, 115, 58]⟩ : PySem.Str) from by decide +kernel]
      rfl
    rw [this]
    simp
  have e2 : (Txt.slice T (some (-3)) none != Str.ofString ")\\Z") = false := by
    have : Txt.slice T (some (-3)) none = Str.ofString ")\\Z" := by
      show StrLaws.sliceText T (some (-3)) none = _
      rw [StrLaws.sliceText_neg_lo T none (by decide) (by omega), StrLaws.sliceText_from (by omega), show Str.ofString ")\\Z" = (⟨#[41, 92, 90]⟩ : PySem.Str) from by decide +kernel]
      have q1 : ((-3 : Int) + (T.length : Int)).toNat = (head4 ++ body).length := by rw [hTl2]; simp [head4, tail3]; omega
      have q2 : ((T.cps.toList.length : Int) - ((-3 : Int) + (T.length : Int))).toNat = 3 := by omega
      rw [q1, q2, hT, ← List.append_assoc, List.drop_left]
      rfl
    rw [this]
    simp
  tb_start
  rename_i _ _ _ _ _ _ _ _ _ C _ _ R0 _ hlt _ _ _ F2 N2
  refine loop_whileX (n₀ := T.length - 4) (RSt T t RES R0) (RFin RES R0)
    (by exact F2) (by exact N2) ?_ ?_ ?_ PassesOwn.never
  · exact RSt.mk' (at_ := 4) (done := []) (cur := []) (rvs := []) (cvs := []) (lia4 hTl2) (Nat.le_refl _) (Nat.le_refl _) (by rw [hT]; exact hres) rfl rfl rfl rfl rfl ⟨Nat.ne_of_gt hlt, fun p hp => (nomatch hp)⟩ trivial trivial (Nat.zero_le _) (Nat.zero_le _)
  · clear F2 N2
    intro n m₁ news₁ h₁ tk₁ hJ F₁ N₀
    refine gen_while fun Q' hQ => ?_
    refine RSt.el hJ N₀ fun at_ fuel rest held done cur objs rvs cvs C rn cn ta hn h4 hrest hfu hprs ma mh mr mt hM hRO hSA hcl hrl N₁ => ?_
    clear hJ N₀
    have hrl2 : rest.length = T.length - at_ := by rw [← hrest, List.length_drop, hTl]
    clear hTl2 hb3
    by_cases hlong : 3 < rest.length
    · rw [prs_more hlong] at hprs
      have q6 := slice_is T (a := at_) (k := 6) (z := (at_ : Int) + 6) (lit := [40, 63, 62, 46, 42, 63]) (Y := Str.ofString "(?>.*?") (by omega) rfl (by decide +kernel)
      have q3 := slice_is T (a := at_) (k := 3) (z := (at_ : Int) + 3) (lit := [41, 46, 42]) (Y := Str.ofString ").*") (by omega) rfl (by decide +kernel)
      have q4 := slice_is T (a := at_) (k := 4) (z := (at_ : Int) + 4) (lit := [41, 40, 63, 62]) (Y := Str.ofString ")(?>") (by omega) rfl (by decide +kernel)
      have q2 := slice_is T (a := at_) (k := 2) (z := (at_ : Int) + 2) (lit := [46, 42]) (Y := Str.ofString ".*") (by omega) rfl (by decide +kernel)
      rw [hrest] at q6 q3 q4 q2
      have hmk : ChMark := trivial
      cases held with
      | false =>
        by_cases c6 : rest.take 6 = [40, 63, 62, 46, 42, 63]
        · rw [decide_eq_true c6] at q6
          rw [if_pos ⟨c6, rfl⟩] at hprs
          tb_start
          rename Fr _ _ _ _ => F5; rename News _ _ _ _ => N5
          exact hQ.fin (RSt.go 6 F5 N5 hn hrl2 (by decide) h4 hrest hfu (take_is c6 rfl) hprs rfl rfl rfl mr mt (by assumption) (RunObjs.snoc hSA hRO) trivial (Nat.zero_le _) (snoc_le hrl (by decide)))
        · rw [decide_eq_false c6] at q6
          rw [if_neg (fun q => c6 q.1), if_neg (by simp)] at hprs
          by_cases c2 : rest.take 2 = [46, 42]
          · rw [decide_eq_true c2] at q2
            rw [if_pos ⟨c2, rfl⟩] at hprs
            tb_start
            rename Fr _ _ _ _ => F5; rename News _ _ _ _ => N5
            exact hQ.fin (RSt.go 2 F5 N5 hn hrl2 (by decide) h4 hrest hfu (Nat.le_trans (by decide) hlong) hprs rfl rfl mh mr mt (by assumption) (RunObjs.snoc hSA hRO) trivial (Nat.zero_le _) (snoc_le hrl (by decide)))
          · rw [decide_eq_false c2] at q2
            rw [if_neg (fun q => c2 q.1)] at hprs
            tb_start
            all_goals
              refine chars_walk (rvs := rvs) (cvs := cvs) (rn := rn) (cn := cn) (objs := objs) hrest hlong hl ma mr mt hM (by omega) (by omega) (by assumption) (by assumption) ?_ ?_ ?_
              · intro cs h5 tk5 Z F5 N5
                rw [if_pos cs] at hprs
                exact hQ.ret (hR _ _ _ (Fr.keep (by assumption)) (runs_none N5 hprs))
              · intro cs cb h5 tk5 t2 t3 F5 N5
                rw [if_neg cs, if_pos cb] at hprs
                dsimp only
                tb_start
                exact hQ.fin (RSt.go 2 F5 N5 hn hrl2 (by decide) h4 hrest hfu (Nat.le_trans (by decide) hlong) hprs rfl rfl mh mr mt hM hRO (SymsAre.snoc hSA) (snoc_le hcl (by decide)) (Nat.le_add_right_of_le hrl))
              · intro cs cb h5 tk5 t2 t3 F5 N5
                rw [if_neg cs, if_neg cb] at hprs
                dsimp only
                tb_start
                exact hQ.fin (RSt.go 1 F5 N5 hn hrl2 (by decide) h4 hrest hfu (Nat.le_trans (by decide) hlong) hprs rfl rfl mh mr mt hM hRO (SymsAre.snoc hSA) (snoc_le hcl (by decide)) (Nat.le_add_right_of_le hrl))
      | true =>
        rw [if_neg (by simp)] at hprs
        by_cases c3 : rest.take 3 = [41, 46, 42]
        · rw [decide_eq_true c3] at q3
          have hh := heads c3
          have c6 : rest.take 6 ≠ [40, 63, 62, 46, 42, 63] := fun q => by rw [heads q] at hh; cases hh
          rw [decide_eq_false c6] at q6
          rw [if_pos ⟨rfl, .inl c3⟩] at hprs
          tb_start
          rename Fr _ _ _ _ => F5; rename News _ _ _ _ => N5
          exact hQ.fin (RSt.go 1 F5 N5 hn hrl2 (by decide) h4 hrest hfu (Nat.le_trans (by decide) hlong) hprs rfl rfl rfl mr mt hM hRO hSA (Nat.le_add_right_of_le hcl) (Nat.le_add_right_of_le hrl))
        · rw [decide_eq_false c3] at q3
          by_cases c4 : rest.take 4 = [41, 40, 63, 62]
          · rw [decide_eq_true c4] at q4
            have hh := heads c4
            have c6 : rest.take 6 ≠ [40, 63, 62, 46, 42, 63] := fun q => by rw [heads q] at hh; cases hh
            rw [decide_eq_false c6] at q6
            rw [if_pos ⟨rfl, .inr c4⟩] at hprs
            tb_start
            rename Fr _ _ _ _ => F5; rename News _ _ _ _ => N5
            exact hQ.fin (RSt.go 1 F5 N5 hn hrl2 (by decide) h4 hrest hfu (Nat.le_trans (by decide) hlong) hprs rfl rfl rfl mr mt hM hRO hSA (Nat.le_add_right_of_le hcl) (Nat.le_add_right_of_le hrl))
          · rw [decide_eq_false c4] at q4
            rw [if_neg (by simp [c3, c4]), if_neg (by simp)] at hprs
            clear q6 q2
            tb_start
            all_goals
              refine chars_walk (rvs := rvs) (cvs := cvs) (rn := rn) (cn := cn) (objs := objs) hrest hlong hl ma mr mt hM (by omega) (by omega) (by assumption) (by assumption) ?_ ?_ ?_
              · intro cs h5 tk5 Z F5 N5
                rw [if_pos cs] at hprs
                exact hQ.ret (hR _ _ _ (Fr.keep (by assumption)) (runs_none N5 hprs))
              · intro cs cb h5 tk5 t2 t3 F5 N5
                rw [if_neg cs, if_pos cb] at hprs
                dsimp only
                tb_start
                exact hQ.fin (RSt.go 2 F5 N5 hn hrl2 (by decide) h4 hrest hfu (Nat.le_trans (by decide) hlong) hprs rfl rfl mh mr mt hM hRO (SymsAre.snoc hSA) (snoc_le hcl (by decide)) (Nat.le_add_right_of_le hrl))
              · intro cs cb h5 tk5 t2 t3 F5 N5
                rw [if_neg cs, if_neg cb] at hprs
                dsimp only
                tb_start
                exact hQ.fin (RSt.go 1 F5 N5 hn hrl2 (by decide) h4 hrest hfu (Nat.le_trans (by decide) hlong) hprs rfl rfl mh mr mt hM hRO (SymsAre.snoc hSA) (snoc_le hcl (by decide)) (Nat.le_add_right_of_le hrl))
    · tb_start
      rw [prs_end (by omega) (by omega)] at hprs
      exact hQ.brk (XQ.intro F₁ N₁ (RFin.mk' hprs mh mr hRO hSA))
  · clear F2 N2
    intro m₁ news₁ h₁ tk₁ hJ F₁ N₀
    refine RFin.el hJ N₀ (fun done cur objs rvs cvs C rn cn he mh mr hRO hSA N₁ => ?_) (fun led he mh mr N₁ => ?_)
    · clear hJ N₀
      dsimp only
      tb_start
      dsimp only [RetQ]
      exact hR _ _ _ (Fr.keep (by assumption)) (runs_back N₁ hRO hSA he)
    · clear hJ N₀
      dsimp only
      tb_start
      dsimp only [RetQ]
      rename News _ _ _ _ => N5
      exact hR _ _ _ (Fr.keep (by assumption)) (runs_none N5 he)

end

section
theorem at_walk {f : Fns} {w : World} {A : Around} {s : Shared} {R : Result → Shared → Prop} {l : Addr} {vs : List Value} {run : List (Option Nat)} {nm : Str} {a : Nat} {t u : Tok}
    (G : Gd f s.heap) (hA : A.handled = none) (hd : A.depth < recursionLimit)
    (hl : s.heap.IsList l vs.toArray) (hv : SymsAre vs run) (hrl : run.length ≤ 1000) (hnl : nm.length ≤ 1000) (ha : a ≤ 1000)
    (hR : Back s R fun _ v => v = .bool (runAt run nm.cps.toList a)) :
    codeAny (model pw w) A (.call (.ref f.at_) ⟨[.ref l, .str nm t, .int (a : Int) u], []⟩) R s := by
  have KX : Frag.In ([] : Frag) s.heap := noFrag
  have hvl := hv.length
  have hnl2 : nm.cps.toList.length = nm.length := by simp [PySem.Str.length]
  refine' enter [(Str.ofString "run", .ref l), (Str.ofString "name", .str nm t), (Str.ofString "at", .int (a : Int) u)] rfl G.f_at G.nolimit hd ?k9 ?kB ?_ ?c5 ?c2 ?c3 ?c4
  case k9 => intros; exact BindsTo.of_eq (by rfl)
  case kB => exact locs rfl
  case c5 => decide
  case c2 => exact rfl
  case c3 => exact rfl
  case c4 => exact rfl
  intro L' h' tk' cd' F' N'
  tb_start
  · dsimp only [RetQ]
    refine hR _ _ _ (Fr.keep (by assumption)) ?_
    have : ¬ (a + run.length ≤ nm.cps.toList.length) := by lia
    have e : decide (a + run.length ≤ nm.cps.toList.length) = false := decide_eq_false this
    rw [runAt, e]; rfl
  · rename_i hle
    have hle' : a + run.length ≤ nm.cps.toList.length := by lia
    (rename Fr _ _ _ _ => lF'); (with_unfolding_all refine' For_invVF lF' ?k1 ?k2 ?_); (case k1 => exact rfl); (case k2 => exact rfl)
    tb_start
    obtain ⟨hsm, hsz⟩ := range_up (n := run.length) (by lia)
    with_reducible rename IsRange _ _ _ _ _ _ _ _ => hr
    rw [hvl] at hr
    refine' loop_range run.length (fun i m news => (∃ ou, m = setO (fun y => List.lookup y [(Str.ofString "run", Value.ref l), (Str.ofString "name", Value.str nm t), (Str.ofString "at", Value.int (a : Int) u)].reverse) (Str.ofString "k") ou) ∧ news = [] ∧ ∀ j, j < i → okAt run nm.cps.toList a j = true)
      ?hh ?hr ?hsm ?hsz ?hF ?hN ?init ?turn ?done
    case hh => exact hA
    case hsm => exact hsm
    case hsz => exact hsz
    case hr => exact hr
    case hF => assumption
    case hN => assumption
    case init => exact ⟨⟨_, setO_same.symm⟩, rfl, fun j hj => absurd hj (Nat.not_lt_zero _)⟩
    case done =>
      rintro m₁ news₁ h₁ tk₁ ⟨⟨ou, rfl⟩, rfl, hj⟩ F₁ N₁
      tb_start
      dsimp only [RetQ]
      refine hR _ _ _ (Fr.keep (by assumption)) ?_
      rw [runAt, decide_eq_true hle', Bool.true_and]
      refine congrArg Value.bool (List.all_eq_true.mpr fun j hjm => hj j (by simpa using hjm)).symm
    case turn =>
      rintro i t₁ m₁ news₁ h₁ tk₁ I it hi ⟨⟨ou, rfl⟩, rfl, hj⟩ F₁ N₁
      rw [setO_set, Int.zero_add] at F₁
      obtain ⟨ti, hti⟩ := hv.get hi
      have hitem : Txt.item nm ((a : Int) + (i : Int)) = ⟨#[nm.cps.toList.getD (a + i) 0]⟩ := by
        have := item_eq (x := nm) (z := (a : Int) + (i : Int)) (by lia) (by lia)
        rw [this]
        have e : ((a : Int) + (i : Int)).toNat = a + i := by lia
        rw [e]
      tb_start
      all_goals (dsimp only [UnrPost, RetQ]; try rw [hitem] at *)
      · rename_i hne _ hne2
        refine hR _ _ _ (Fr.keep (by assumption)) ?_
        have hok : okAt run nm.cps.toList a i = false := by
          unfold okAt
          cases hx : run.getD i none with
          | none => rw [hx] at hne; exact absurd hne (by decide)
          | some c =>
            rw [hx] at hne2
            dsimp only
            by_cases q : nm.cps.toList.getD (a + i) 0 = c
            · rw [q] at hne2; exact absurd hne2 (by simp [symStr])
            · simpa using q
        have hall : (List.range run.length).all (okAt run nm.cps.toList a) = false := by
          rw [List.all_eq_false]
          exact ⟨i, by simpa using hi, by simp [hok]⟩
        rw [runAt, hall, Bool.and_false]
      · rename_i hne _ hne2
        refine UnrEnd.intro (by assumption) (by assumption) [] (fun p hp => hp) (fun p hp => nomatch hp) ⟨⟨_, rfl⟩, rfl, fun j hj' => ?_⟩
        rcases Nat.lt_or_eq_of_le (Nat.le_of_lt_succ hj') with q | rfl
        · exact hj j q
        · unfold okAt
          cases hx : run.getD j none with
          | none => rfl
          | some c =>
            rw [hx] at hne2
            have q : nm.cps.toList.getD (a + j) 0 = c := by
              have e := eq_of_beq (show (symStr (some c) == (⟨#[nm.cps.toList.getD (a + j) 0]⟩ : Str)) = true by simpa [bne] using hne2)
              simp only [symStr, PySem.Str.mk.injEq, Array.mk.injEq, List.cons.injEq, and_true] at e
              exact e.symm
            simpa using q
      · rename_i hne
        refine UnrEnd.intro (by assumption) (by assumption) [] (fun p hp => hp) (fun p hp => nomatch hp) ⟨⟨_, rfl⟩, rfl, fun j hj' => ?_⟩
        rcases Nat.lt_or_eq_of_le (Nat.le_of_lt_succ hj') with q | rfl
        · exact hj j q
        · unfold okAt
          cases hx : run.getD j none with
          | none => rfl
          | some c =>
            rw [hx] at hne
            have e := eq_of_beq (show (symStr (some c) == Str.ofString "") = true by simpa [bne] using hne)
            have e2 := congrArg (fun x : Str => x.length) e
            have e3 : (symStr (some c)).length = 1 := rfl
            have e4 : (Str.ofString "").length = 0 := by decide
            lia

end

section
theorem at_call {f : Fns} {w : World} {A : Around} {E : Value → Shared → Prop} {s : Shared} {h₀ : Heap} {L l : Addr} {m : Str → Option Value} {news : List (Addr × Obj)} {vs : List Value} {run : List (Option Nat)} {nm : Str} {a : Nat} {z : Int} {t u : Tok} {Q : Value → Shared → Prop}
    (L0 : Law0 w f h₀) (F : Fr h₀ L s.heap m) (N : News h₀ L s.heap news) (hA : A.handled = none) (hd : A.depth < recursionLimit) (hl : s.heap.IsList l vs.toArray) (hv : SymsAre vs run) (hrl : run.length ≤ 1000) (hnl : nm.length ≤ 1000) (ha : a ≤ 1000) (hz : z = (a : Int))
    (h : ∀ h' tk, Fr h₀ L h' m → News h₀ L h' news → Q (.bool (runAt run nm.cps.toList a)) { s with heap := h', toks := tk }) : wpAny (model pw w) A (call (.ref f.at_) [.ref l, .str nm t, .int z u]) Q E s := by
  subst hz
  refine wpAny_call (at_walk (L0.gd.keeps F.keep) hA hd hl hv hrl hnl ha (back_frame F N fun v h' tk F' N' _ hp => ?_))
  rw [hp]
  exact h _ _ F' N'
theorem takes_walk {f : Fns} {w : World} {A : Around} {s : Shared} {R : Result → Shared → Prop} {l : Addr} {vr : List Value} {g0 : List (Option Nat)} {rest : List (List (Option Nat))} {nm : Str} {t : Tok}
    (L0 : Law0 w f s.heap) (hA : A.handled = none) (hd : A.depth + 5 < recursionLimit) (hl : s.heap.IsList l vr.toArray) (hv : RunsHere SymsAre s.heap vr (g0 :: rest)) (hsz : g0.length + (rest.map (·.length)).sum ≤ 400) (hgl : rest.length ≤ 400) (hnl : nm.length ≤ 400)
    (hR : Back s R fun _ v => v = .bool (takes g0 rest nm.cps.toList)) :
    codeAny (model pw w) A (.call (.ref f.takes) ⟨[.ref l, .str nm t], []⟩) R s := by
  have KX : Frag.In ([] : Frag) s.heap := noFrag
  have G := L0.gd
  have n1 := G.n_at
  have f1 := G.f_at
  have hvl := hv.1
  have hnl2 : nm.cps.toList.length = nm.length := by simp [PySem.Str.length]
  obtain ⟨a0, us0, h0a, h0l, h0s⟩ := hv.2 0 g0 rfl
  have hu0 := h0s.length
  refine' enter [(Str.ofString "runs", .ref l), (Str.ofString "name", .str nm t)] rfl G.f_takes G.nolimit (by lia) (by intros; exact BindsTo.of_eq (by rfl)) (locs rfl) ?_ (by decide) rfl rfl rfl
  intro L' h' tk' cd' F' N'
  tb_start
  refine at_call (a := 0) L0 (by assumption) (by assumption) hA (by show A.depth + 1 < _; lia) (isList_keeps (Fr.keep (by assumption)) h0l) h0s (by lia) (by lia) (by lia) rfl fun h1 tk1 F1 N1 => ?_
  cases c0 : runAt g0 nm.cps.toList 0 with
  | false =>
    tb_start
    dsimp only [RetQ]
    refine hR _ _ _ (Fr.keep (by assumption)) ?_
    rw [takes, if_pos c0]
  | true =>
    have hne : vr.length = rest.length + 1 := by rw [hvl]; rfl
    by_cases hr : rest = []
    · subst hr
      tb_start
      · dsimp only [RetQ]
        refine hR _ _ _ (Fr.keep (by assumption)) ?_
        rw [takes, if_neg (by rw [c0]; simp), if_pos rfl, hu0]
        congr 1
        rw [Bool.eq_iff_iff, beq_iff_eq, decide_eq_true_eq]
        lia
      · exfalso
        simp at hne
        lia
    · have hr2 : 0 < rest.length := List.length_pos_iff.mpr hr
      tb_start
      · exfalso; lia
      · (rename Fr _ _ _ _ => lF'); (with_unfolding_all refine' For_invVF lF' ?k1 ?k2 ?_); (case k1 => exact rfl); (case k2 => exact rfl)
        tb_start
        refine r_slice (zs := (vr.drop 1).dropLast) (by assumption) (by assumption) (isList_keeps (Fr.keep (by assumption)) hl) (IsPart.int _ _) (IsPart.int _ _) pick_mid (by lia) ?_
        intro D hD FD ND lD
        have hmidl : ((vr.drop 1).dropLast).length = rest.dropLast.length := by simp; lia
        refine' loop_list (vs := (vr.drop 1).dropLast) (fun i m _ => (∃ z t, m (Str.ofString "at") = some (.int z t) ∧ z = (((rest.dropLast.take i).foldl (fun a r => findAt r nm.cps.toList (nm.cps.toList.length + 1) a + r.length) g0.length : Nat) : Int)) ∧ m (Str.ofString "runs") = some (.ref l) ∧ m (Str.ofString "name") = some (.str nm t))
          ?hh FD ND List.mem_cons_self rfl rfl ?init ?turn ?done
        case hh => exact hA
        case init => exact ⟨⟨_, _, rfl, by simp [hu0]⟩, rfl, rfl⟩
        case done =>
          rintro m₁ news₁ h₁ tk₁ ⟨⟨z, tz, mz, rfl⟩, mr, mn⟩ hm₁ F₁ N₁
          dsimp only
          rw [hmidl, List.take_length] at mz
          generalize hAT : rest.dropLast.foldl (fun a r => findAt r nm.cps.toList (nm.cps.toList.length + 1) a + r.length) g0.length = AT at mz
          have hget : (g0 :: rest)[rest.length]? = some (rest.getLastD []) := by
            rw [List.getLastD_eq_getLast?, List.getLast?_eq_getElem?]
            obtain ⟨k, hk⟩ : ∃ k, rest.length = k + 1 := ⟨rest.length - 1, by lia⟩
            rw [hk, List.getElem?_cons_succ]
            simp only [Nat.add_sub_cancel]
            rw [List.getElem?_eq_getElem (by lia)]
            rfl
          obtain ⟨aL, usL, hLa, hLl, hLs⟩ := hv.2 rest.length (rest.getLastD []) hget
          have hLu := hLs.length
          have hL4 : (rest.getLastD []).length ≤ 400 := by
            have := le_sum (fun r : List (Option Nat) => r.length) hget
            rw [List.map_cons, List.sum_cons] at this
            have e : (rest.map (fun r => r.length)).sum = (rest.map (·.length)).sum := rfl
            lia
          have hvlast : vr.getLast? = some (.ref aL) := by rw [List.getLast?_eq_getElem?, hne, Nat.add_sub_cancel]; exact hLa
          tb_start
          refine r_last (isList_keeps (Fr.keep F₁) hl) (by lia) hvlast ?_
          have htk : takes g0 rest nm.cps.toList = (decide (AT + (rest.getLastD []).length ≤ nm.cps.toList.length) && runAt (rest.getLastD []) nm.cps.toList (nm.cps.toList.length - (rest.getLastD []).length)) := by
            rw [takes, if_neg (by rw [c0]; simp), if_neg hr, hAT]
          by_cases hle : AT + (rest.getLastD []).length ≤ nm.cps.toList.length
          · rw [decide_eq_true hle, Bool.true_and] at htk
            tb_start
            refine r_last (isList_keeps (Fr.keep (by assumption)) hl) (by lia) hvlast ?_
            tb_start
            refine at_call (a := nm.cps.toList.length - (rest.getLastD []).length) L0 (by assumption) (by assumption) hA (by show A.depth + 1 < _; lia) (isList_keeps (Fr.keep (by assumption)) hLl) hLs (by lia) (by lia) (by lia) (by lia) fun h3 tk3 F3 N3 => ?_
            tb_start
            dsimp only [RetQ]
            refine hR _ _ _ (Fr.keep (by assumption)) ?_
            rw [htk]
          · rw [decide_eq_false hle, Bool.false_and] at htk
            tb_start
            dsimp only [RetQ]
            refine hR _ _ _ (Fr.keep (by assumption)) ?_
            rw [htk]
            exact congrArg Value.bool (decide_eq_false (by lia))
        case turn =>
          clear FD ND
          intro i v m₁ news₁ h₁ tk₁ I it hv1 hJ hm₁ hit F₁ N₁ hI₁
          refine gen_unr fun Q' hQ => ?_
          obtain ⟨⟨z, tz, mz, rfl⟩, mr, mn⟩ := hJ
          obtain ⟨hvi, hvil⟩ := mid_get hv1
          obtain ⟨r, hri⟩ : ∃ r, rest[i]? = some r := ⟨_, List.getElem?_eq_getElem (by lia)⟩
          obtain ⟨a, us, ha1, hal, has⟩ := hv.2 (i + 1) r (by simpa using hri)
          rw [hvi] at ha1
          cases ha1
          have hus := has.length
          generalize hAT : (rest.dropLast.take i).foldl (fun a r => findAt r nm.cps.toList (nm.cps.toList.length + 1) a + r.length) g0.length = AT at mz
          have hATl : AT ≤ 850 := hAT ▸ at_bound hsz (by lia)
          have hrl : r.length ≤ 400 := by
            have := le_sum (fun r : List (Option Nat) => r.length) hri
            have e : (rest.map (fun r => r.length)).sum = (rest.map (·.length)).sum := rfl
            lia
          tb_start
          refine loop_whileX (n₀ := nm.cps.toList.length + 1 - AT) (fun n m news => ∃ a' fuel, n = nm.cps.toList.length + 1 - a' ∧ findAt r nm.cps.toList fuel a' = findAt r nm.cps.toList (nm.cps.toList.length + 1) AT ∧ nm.cps.toList.length < a' + fuel ∧ a' ≤ 900 ∧ (∃ z t, m (Str.ofString "at") = some (.int z t) ∧ z = (a' : Int)) ∧
              m (Str.ofString "runs") = some (.ref l) ∧ m (Str.ofString "name") = some (.str nm t) ∧ m (Str.ofString "run") = some (.ref a) ∧ news = (I, it) :: news₁)
            (fun m news => (∃ z t, m (Str.ofString "at") = some (.int z t) ∧ z = ((findAt r nm.cps.toList (nm.cps.toList.length + 1) AT : Nat) : Int)) ∧ m (Str.ofString "runs") = some (.ref l) ∧ m (Str.ofString "name") = some (.str nm t) ∧ m (Str.ofString "run") = some (.ref a) ∧ news = (I, it) :: news₁)
            (by exact F₁) (by exact N₁) ?_ ?_ ?_ PassesOwn.never
          · exact ⟨AT, _, rfl, rfl, by lia, by lia, ⟨_, tz, mz, rfl⟩, mr, mn, rfl, rfl⟩
          · clear F₁ N₁
            intro n m₂ news₂ h₂ tk₂ hJ F₂ N₂
            refine gen_while fun Q'' hQ2 => ?_
            obtain ⟨a', fuel, hn, hfi, hfu, ha9, ⟨z, ta, ma, rfl⟩, mr2, mn2, mrun, rfl⟩ := hJ
            by_cases hfit : a' + r.length ≤ nm.cps.toList.length
            · tb_start
              refine at_call (a := a') L0 (by assumption) (by assumption) hA (by show A.depth + 1 < _; lia) (isList_keeps (Fr.keep (by assumption)) hal) has (by lia) (by lia) (by lia) rfl fun h3 tk3 F3 N3 => ?_
              cases cR : runAt r nm.cps.toList a' with
              | false =>
                tb_start
                refine hQ2.fin (WEnd.same (n' := nm.cps.toList.length + 1 - (a' + 1)) (by assumption) (by assumption) (by lia) ?_)
                obtain ⟨fuel, rfl⟩ : ∃ k, fuel = k + 1 := ⟨fuel - 1, by lia⟩
                exact ⟨a' + 1, fuel, rfl, by rw [← hfi, findAt_more hfit cR], by lia, by lia, ⟨_, _, rfl, rfl⟩, mr2, mn2, mrun, rfl⟩
              | true =>
                tb_start
                refine hQ2.brk (XQ.intro (by assumption) (by assumption) ?_)
                exact ⟨⟨_, _, ma, by rw [← hfi, findAt_stop (fun q => by rw [cR] at q; exact absurd q.2 (by simp))]⟩, mr2, mn2, mrun, rfl⟩
            · tb_start
              refine hQ2.brk (XQ.intro (by assumption) (by assumption) ?_)
              exact ⟨⟨_, _, ma, by rw [← hfi, findAt_stop (fun q => hfit q.1)]⟩, mr2, mn2, mrun, rfl⟩
          · clear F₁ N₁
            rintro m₂ news₂ h₂ tk₂ ⟨⟨z, ta, ma, rfl⟩, mr2, mn2, mrun, rfl⟩ F₂ N₂
            dsimp only
            have hDI : D ≠ I := Nat.ne_of_lt (hI₁ _ List.mem_cons_self)
            tb_start
            refine hQ.fin (UnrEnd.intro (by assumption) (by assumption) [(D, listOf (vr.drop 1).dropLast.toArray 0)] ?_ ?_ ?_)
            · intro p hp
              rcases List.mem_cons.mp hp with rfl | hp
              · exact List.mem_cons_self
              · rw [List.mem_singleton.mp hp]
                exact List.mem_cons_of_mem _ hm₁
            · intro p hp
              rw [List.mem_singleton.mp hp]
              exact hDI
            · refine ⟨List.mem_cons_self, ⟨_, _, rfl, ?_⟩, mr2, mn2⟩
              rw [takes_fold_succ hri (by lia), hAT, hus]
              rfl

end

section
theorem wide_is {o : Nat} {b : Bool} (h : b = true ↔ ¬ ((48 ≤ o ∧ o ≤ 57) ∨ (65 ≤ o ∧ o ≤ 90) ∨ (97 ≤ o ∧ o ≤ 122) ∨ o = 33 ∨ o = 42 ∨ o = 43 ∨ o = 45 ∨ o = 47) ∧ o ≠ 32) : b = wide o := by
  rw [Bool.eq_iff_iff, h, ← safe_iff]
  simp [wide]
theorem wide_in {o : Nat} (h1 : ¬ (48 ≤ (o : Int) ∧ (o : Int) ≤ 57)) (h2 : ¬ (65 ≤ (o : Int) ∧ (o : Int) ≤ 90)) (h3 : ¬ (97 ≤ (o : Int) ∧ (o : Int) ≤ 122)) : (!([32, 33, 42, 43, 45, 47] : List Int).any fun x => x == (o : Int)) = wide o := by
  refine wide_is ?_
  simp [List.any]
  lia
theorem wide_at {o : Nat} {a b : Int} (h1 : a ≤ (o : Int)) (h2 : (o : Int) ≤ b) (h : (a = 48 ∧ b = 57) ∨ (a = 65 ∧ b = 90) ∨ (a = 97 ∧ b = 122)) : (!decide ((o : Int) ≤ b)) = wide o := by
  rw [decide_eq_true h2]
  refine wide_is ⟨fun q => (by cases q), fun q => absurd ?_ q.1⟩
  lia
theorem wide_walk {f : Fns} {w : World} {A : Around} {s : Shared} {R : Result → Shared → Prop} {o : Nat} {t : Tok} (G : Gd f s.heap) (hd : A.depth < recursionLimit)
    (hR : Back s R fun _ v => v = .bool (wide o)) :
    codeAny (model pw w) A (.call (.ref f.wide) ⟨[.int (o : Int) t], []⟩) R s := by
  have KX : Frag.In ([] : Frag) s.heap := noFrag
  refine' enter [(Str.ofString "octet", .int (o : Int) t)] rfl G.f_wide G.nolimit hd (by intros; exact BindsTo.of_eq (by rfl)) (locs rfl) ?_ (by decide) rfl rfl rfl
  intro L' h' tk' cd' F' N'
  tb_start
  all_goals
    dsimp only [RetQ]
    refine hR _ _ _ (Fr.keep (by assumption)) (congrArg Value.bool ?_)
    first
    | exact wide_at (a := 48) (by assumption) (by assumption) (.inl ⟨rfl, rfl⟩)
    | exact wide_at (a := 65) (by assumption) (by assumption) (.inr (.inl ⟨rfl, rfl⟩))
    | exact wide_at (a := 97) (by assumption) (by assumption) (.inr (.inr ⟨rfl, rfl⟩))
    | (refine wide_in (fun q => ?_) (fun q => ?_) (fun q => ?_) <;> first
        | exact absurd q.1 (by assumption)
        | exact absurd q.2 (by assumption)
        | exact absurd (Int.le_trans (by decide : (65 : Int) ≤ 97) q.1) (by assumption)
        | exact absurd (Int.le_trans (by decide : (48 : Int) ≤ 97) q.1) (by assumption)
        | exact absurd (Int.le_trans (by decide : (48 : Int) ≤ 65) q.1) (by assumption))

end

section
theorem wide_call {f : Fns} {w : World} {A : Around} {E : Value → Shared → Prop} {s : Shared} {h₀ : Heap} {L : Addr} {m : Str → Option Value} {news : List (Addr × Obj)} {o : Nat} {t : Tok} {Q : Value → Shared → Prop}
    (G : Gd f h₀) (F : Fr h₀ L s.heap m) (N : News h₀ L s.heap news) (hd : A.depth < recursionLimit)
    (h : ∀ h' tk, Fr h₀ L h' m → News h₀ L h' news → Q (.bool (wide o)) { s with heap := h', toks := tk }) : wpAny (model pw w) A (call (.ref f.wide) [.int (o : Int) t]) Q E s := by
  refine wpAny_call (wide_walk (G.keeps F.keep) hd (back_frame F N fun v h' tk F' N' _ hp => ?_))
  rw [hp]
  exact h _ _ F' N'

end

section
local macro_rules | `(tactic| walk_at "eval Name") => `(tactic| ((with_reducible show wpAny _ _ (eval (Expr.Name _ _) (compEnvC _ _ _ _)) _ _ _); k_dflt (first
  | refine' neL rfl rfl rfl (by assumption) (by assumption) ?_
  | refine' neC rfl rfl rfl rfl (by assumption) (by assumption) ?_
  | refine' neG rfl rfl rfl rfl (by assumption) (by assumption) (by with_reducible assumption) ?_
  | refine' neB rfl rfl rfl rfl rfl (by assumption) (by assumption) (by decide) (by boot_fast) (by decide) ?_)))
local macro_rules | `(tactic| k_mem) => `(tactic| assumption)
theorem told_walk {f : Fns} {w : World} {A : Around} {s : Shared} {R : Result → Shared → Prop} {lo lr : Addr} {vo vr : List Value} {octets row : List Nat} (L0 : Law0 w f s.heap) (hA : A.handled = none) (hd : A.depth + 8 < recursionLimit) (hu : A.units + 400 < cLine)
    (hlo : s.heap.IsList lo vo.toArray) (hvo : IntsAre vo (octets.map Int.ofNat)) (hlr : s.heap.IsList lr vr.toArray) (hvr : IntsAre vr (row.map Int.ofNat)) (ho : Oct octets) (hr : Oct row) (hn1 : octets.length ≤ 100) (hn2 : row.length ≤ 100)
    (hR : Back s R fun _ v => v = .bool (told octets row)) :
    codeAny (model pw w) A (.call (.ref f.told) ⟨[.ref lo, .ref lr], []⟩) R s := by
  have KX : Frag.In ([] : Frag) s.heap := noFrag
  have G := L0.gd
  have n1 := G.n_end
  have n2 := G.n_wide
  have f1 := G.f_end
  have f2 := G.f_wide
  refine' enterC [(Str.ofString "octets", .ref lo), (Str.ofString "row", .ref lr)] (cn := Str.ofString "row") (cv := .ref lr) (mm := fun y => if y = Str.ofString "octets" then some (.ref lo) else none) rfl G.f_told G.nolimit (by lia) ?k9 ?kB ?kD ?kF ?kM ?kV ?_ ?c2 ?c3 ?c4
  case k9 => intros; rfl
  case kB =>
    intro n x hx
    rcases List.mem_cons.mp hx with rfl | hx
    · exact .inl rfl
    · rw [List.mem_singleton.mp hx]
      exact .inr ⟨rfl, rfl⟩
  case kD => decide
  case kF => intro n; rfl
  case kM => intros; rfl
  case kV => intros; rfl
  case c2 => exact rfl
  case c3 => exact rfl
  case c4 => exact rfl
  intro L' h' tk' cd' oc F' N' hoc
  tb_start
  refine told_eq (isList_keeps (Fr.keep (by assumption)) hlr) hvr (by assumption) (by show A.units + 3 + 64 < cLine; lia) (fun hrow => ?_) (fun hrow => ?_)
  · tb_start
    dsimp only
    tb_start
    dsimp only [RetQ]
    exact hR _ _ _ (Fr.keep (by assumption)) (by rw [told, if_pos hrow])
  · tb_start
    rename_i C _ hltC R0 _ hlt _ F1 N1
    (with_unfolding_all refine' For_invVF F1 ?k1 ?k2 ?_); (case k1 => exact rfl); (case k2 => exact rfl)
    tb_start
    refine' told_loop1 (cell := (L' + 1, oc)) hA (by assumption) N1 (fun p hp => ?hs) hlo hvo hn1 (Nat.ne_of_gt hlt.1) (Nat.ne_of_gt hlt.2.2) (Nat.ne_of_lt hltC.2) rfl ?turn ?done
    case hs =>
      simp only [List.mem_cons, List.nil_append, List.not_mem_nil, or_false] at hp ⊢
      rcases hp with hp | hp | hp
      · exact .inl hp
      · exact .inr (.inl hp)
      · exact .inr (.inr (.inr hp))
    case turn =>
      clear N1 F1 hltC hlt
      intro i a ta m₁ h₁ tk₁ I it objs rvs cvs C rn cn done cur tl hoa hil hit hR0I hCI hoff' htl hM hM2 hRO hC mr hsp hrl hcl F₁ N₂
      refine gen_unr fun Q' hQ => ?_
      tb_start
      · rename_i h42 _ D _ _ _ hAl _ F5 N5 hM5
        have h42' : a = 42 := by lia
        exact hQ.fin (told_star F5 N5 htl hM5 hAl hRO hC mr hsp (h42' ▸ hoa) hrl hR0I hCI hoff')
      · rename_i h42 _ _ F5 N5
        exact hQ.fin (told_other F5 N5 htl hM hRO hC mr hsp hoa (fun q => h42 (by rw [q]; rfl)) hrl hcl hR0I hCI hoff')
    case done =>
      clear N1 F1 hltC hlt
      intro m₁ h₁ tk₁ vrs rn tl r0 rest a0 us0 k0 hRES hcm hvl hvl2 mr hget hr0l hv0 hm0 hI0 F₁ N₂
      have hvrl : vr.length = row.length := by rw [hvr.length, List.length_map]
      dsimp only
      tb_start
      · rename_i h1
        have hre : rest = [] := List.length_eq_zero_iff.mp (by lia)
        refine end_call (run := r0) (pl := 0) G (by assumption) (by assumption) hA (by show A.depth + 1 < _; lia) (by show A.units + 3 + 200 < _; lia) (News.isList (by assumption) (List.mem_cons_of_mem _ hm0)) hI0 (isList_keeps (Fr.keep (by assumption)) hlr) hvr hr (by lia) (by lia) (Nat.zero_le _) (fun q => absurd q (by decide)) rfl fun h3 t3 tk3 F3 N3 => ?_
        tb_start
        dsimp only [RetQ]
        exact hR _ _ _ (Fr.keep (by assumption)) (told_oneV hrow (hre ▸ hRES) hvrl)
      · rename_i F5 N5 _ _ _ h1
        have hre : rest ≠ [] := fun q => h1 (by rw [q] at hvl; rw [hvl]; rfl)
        have hvrP : IntsP vr row := hvr
        refine told_mem F5 (by rw [hvrl]; rfl) mr fun m5 tb F6 mb5 mr5 => ?_
        clear F5
        refine listComp2 (cl := [(Str.ofString "row", L' + 1)]) (n2 := fun k => if wide (row.getD k 0) then 3 else 1) (f := fun k j => 3 * (k : Int) + (j : Int)) (B := 3) F6 N5 hA ?hclos ?hcell rfl ?hnames rfl rfl ?hne ?hs1 ?hs2 ?hB ?h
        case hclos => rfl
        case hcell => decide
        case hnames => decide
        case hne => decide
        case hs1 => intro _; rfl
        case hs2 => intro _ _; rfl
        case hB => intro k; split <;> lia
        case h =>
          tb_start
          rename_i _ _ _ _ _ _ _ H7 tk7 tr ur zr hr7 F7 N7 _
          refine ⟨_, tr, ur, zr, row.length, rfl, by simpa using hr7, by lia, by lia, F7, N7, ?_, ?_, ?_⟩
          · intro C k t h tk m' E' news' hk hm Fc Nc
            dsimp only at Fc Nc ⊢
            have G7 : Gd f H7 := G.keeps F7.keep
            have f27 := G7.f_wide
            have hl7 := isList_keeps F7.keep hlr
            have hc7 : H7.IsCell (L' + 1) (some (.ref lr)) := ⟨oc, (N7 _ (List.mem_cons_of_mem _ hcm)).1, hoc⟩
            have hg : (row.map Int.ofNat).getD (k : Int).toNat 0 = ((row.getD k 0 : Nat) : Int) := by
              rw [Int.toNat_natCast]
              simp [List.getD_eq_getElem?_getD, hk]
            tb_start
            rw [hg]
            refine wide_call G7 Fc Nc (by show A.depth + 1 < _; lia) fun h3 tk3 F3 N3 => ?_
            cases hw : wide (row.getD k 0) with
            | true =>
              tb_start
              rename_i hr9 F9 N9 _
              exact ⟨_, _, rfl, ⟨_, _, _, _, rfl, by rw [hw]; exact hr9⟩, F9, N9⟩
            | false =>
              tb_start
              rename_i hr9 F9 N9 _
              exact ⟨_, _, rfl, ⟨_, _, _, _, rfl, by rw [hw]; exact hr9⟩, F9, N9⟩
          · intro C k j t u h tk m' E' news' hk hj hm hm2 Fc Nc
            dsimp only at Fc Nc ⊢
            tb_start
            exact ⟨_, _, rfl, ⟨_, rfl⟩, Fc, Nc⟩
          · intro D h8 tk8 ys F8 N8 lD hys
            tb_start
            rename_i l9 H9 F9 N9 hl9
            have hpl := places_len row
            refine kmk_add_ints (vs := ys) (ws := [Value.int ((3 * row.length : Nat) : Int) tb]) F9 N9 (News.isList N9 (List.mem_cons_of_mem _ List.mem_cons_self)) (News.isList N9 List.mem_cons_self) hys (.cons _ _ .nil) (fun P us h10 F10 N10 lP hus => ?_) (by have e := congrArg List.length (places_ints row); rw [List.length_append, List.length_map] at e; rw [e, sizeLine_eq]; lia)
            rw [places_ints] at hus
            have N11 : News s.heap L' h10 ((P, listOf us.toArray 0) :: (R0, listOf vrs.toArray rn) :: tl) := fun p hp => N10 p (by
              rcases List.mem_cons.mp hp with rfl | hp
              · exact List.mem_cons_self
              · exact List.mem_cons_of_mem _ (List.mem_cons_of_mem _ (List.mem_cons_of_mem _ hp)))
            clear N10 F9 N9 hl9
            tb_start
            rename Fr _ _ _ _ => F12
            (with_unfolding_all refine' For_invVF F12 ?k1 ?k2 ?_); (case k1 => exact rfl); (case k2 => exact rfl)
            tb_start
            rename_i hr13 F13 N13 _
            refine' told_loop2 (P := P) hA hr13 ?kc ?kl rfl F13 N13 hget (told_more hrow hRES hre).symm mb5 mr5 rfl ?kturn ?kdone
            case kc => rw [hvl]; lia
            case kl => lia
            case kturn =>
              clear F13 N13 hr13
              intro i b kk r ak usk nk tb2 tk6 m₁ h₁ tk₁ I it hi hri hgo hb hkk hrl hvk hmk hIk hit hoff mk6 mb6 mr6 mp6 F6 N₁
              refine gen_unr fun Q' hQ => ?_
              tb_start
              rename_i Fi _ _ _ hlFi _ F7 N7
              (with_unfolding_all refine' For_invVF F7 ?k1 ?k2 ?_); (case k1 => exact rfl); (case k2 => exact rfl)
              tb_start
              refine' told_loop3 (row := row) (r := r) (last := decide (i = 0)) hA F7 N7 (List.mem_cons_of_mem _ List.mem_cons_self) hus rfl mb6 mk6 mr6 mp6 ?jturn ?jdone
              case jturn =>
                clear F7 N7
                intro j p tp zs zn tb3 tk3 m₂ h₂ tk₂ I2 it2 hp hp1 hp2 hjl hFi2 hLed hit2 hzs hzl mf mb3 mk3 mr3 mp3 F₂ N₂
                refine gen_unr fun Q'' hQ2 => ?_
                have hAl : AllLt Fi ((I, it) :: (P, listOf us.toArray 0) :: (R0, listOf vrs.toArray rn) :: tl) := hlFi
                tb_start
                refine end_call (run := r) (pl := p) G (by assumption) (by assumption) hA (by show A.depth + 1 < _; lia) (by show A.units + 3 + 200 < _; lia) (News.isList (by assumption) (List.mem_cons_of_mem _ (List.mem_cons_of_mem _ (List.mem_cons_of_mem _ (List.mem_cons_of_mem _ (List.mem_cons_of_mem _ hmk)))))) hIk (isList_keeps (Fr.keep (by assumption)) hlr) hvrP hr (by lia) (by lia) hp1 hp2 rfl fun h3 t3 tk3 F3 N3 => ?_
                have hPm : (P, listOf us.toArray 0) ∈ (I, it) :: (P, listOf us.toArray 0) :: (R0, listOf vrs.toArray rn) :: tl := List.mem_cons_of_mem _ List.mem_cons_self
                generalize hE : lend r row p = e
                tb_start
                · rename_i hc
                  refine r_fitApp hAl hFi2 (by assumption) (by assumption) (fun h5 F5 N5 => ?_) (by lia)
                  tb_start
                  exact hQ2.fin (told_fit F5 N5 (fun p hp => mem_two hp) hFi2 hLed hPm (fit_yes hzs hp (prd_eq (hE.trans hc))) (by simp; exact hzl) mf ⟨_, mb3⟩ ⟨_, mk3⟩ mr3 mp3)
                · rename_i hc1 hc2 hc3 hc4
                  refine r_fitApp hAl hFi2 (by assumption) (by assumption) (fun h5 F5 N5 => ?_) (by lia)
                  tb_start
                  exact hQ2.fin (told_fit F5 N5 (fun p hp => mem_two hp) hFi2 hLed hPm (fit_yes hzs hp (prd_in (decide_eq_false (by lia)) (hE ▸ hc3) (hE ▸ hc4))) (by simp; exact hzl) mf ⟨_, mb3⟩ ⟨_, mk3⟩ mr3 mp3)
                all_goals
                  rename Fr _ _ _ _ => F5
                  rename News _ _ _ _ => N5
                  refine hQ2.fin (told_fit F5 N5 (fun p hp => hp) hFi2 hLed hPm (fit_no hzs hp (prd_no (fun q => ?_) (fun q => ?_))) (Nat.le_succ_of_le hzl) mf ⟨_, mb3⟩ ⟨_, mk3⟩ mr3 mp3)
                  · rw [hE] at q; contradiction
                  · obtain ⟨q1, q2, q3⟩ := q
                    rw [hE] at q2 q3
                    have q4 := of_decide_eq_false q1
                    first | lia | contradiction
              case jdone =>
                clear F7 N7
                intro zs zn tb3 tk3 m₂ h₂ tk₂ hzs hzl mf mb3 mk3 mr3 mp3 F₂ N₂
                rw [toldGo] at hgo
                dsimp only
                tb_start
                rename_i lE _ F5 N5 hlE
                refine told_eq (News.isList N5 (List.mem_cons_of_mem _ List.mem_cons_self)) hzs N5 (by show A.units + 3 + 64 < cLine; lia) (fun hf => ?_) (fun hf => ?_)
                · rw [if_pos hf] at hgo
                  tb_start
                  exact hQ.ret (hR _ _ _ (Fr.keep (by assumption)) (congrArg Value.bool hgo))
                · rw [if_neg hf] at hgo
                  tb_start
                  refine kso_max (by assumption) (by assumption) (News.isList (by assumption) (List.mem_cons_of_mem _ List.mem_cons_self)) hzs (by rw [List.length_map]; exact List.length_pos_iff.mpr hf) hA (fun h6 M tM tk7 F6 N6 hM1 hM2 => ?_)
                  tb_start
                  rename Fr _ _ _ _ => F8
                  rename News _ _ _ _ => N8
                  exact hQ.fin (told_next F8 N8 (fun p hp => List.mem_cons_of_mem _ (List.mem_cons_of_mem _ hp)) (fun p hp => hoff p hp) hgo (max_is hM1 hM2) rfl mr3 mp3)
            case kdone =>
              clear F13 N13 hr13
              intro b tb2 m₁ h₁ tk₁ hgo mb mr2 mp F₁ N₁
              dsimp only
              tb_start
              refine end_call (run := r0) (pl := 0) G (by assumption) (by assumption) hA (by show A.depth + 1 < _; lia) (by show A.units + 3 + 200 < _; lia) (News.isList (by assumption) (List.mem_cons_of_mem _ (List.mem_cons_of_mem _ hm0))) hI0 (isList_keeps (Fr.keep (by assumption)) hlr) hvrP hr (by lia) (by lia) (Nat.zero_le _) (fun q => absurd q (by decide)) rfl fun h3 t3 tk3 F3 N3 => ?_
              rw [toldGo] at hgo
              tb_start
              · rename_i hc
                dsimp only [RetQ]
                exact hR _ _ _ (Fr.keep (by assumption)) (by rw [← hgo, decide_eq_true hc, Bool.true_and])
              · rename_i hc
                dsimp only [RetQ]
                exact hR _ _ _ (Fr.keep (by assumption)) (by rw [← hgo, decide_eq_false hc, Bool.false_and])

end

section
theorem bytes_back {l : List Nat} (h : Oct l) : ((l.map Int.ofNat).map fun n => n.toNat.toUInt8).map (fun c => c.toNat) = l := by
  rw [List.map_map, List.map_map]
  conv => rhs; rw [← List.map_id l]
  refine List.map_congr_left fun a ha => ?_
  have := h a ha
  show (a : Int).toNat % 256 = a
  lia
theorem oct_range {l : List Nat} (h : Oct l) : ∀ n ∈ l.map Int.ofNat, 0 ≤ n ∧ n < 256 := by
  intro n hn
  obtain ⟨a, ha, rfl⟩ := List.mem_map.mp hn
  have := h a ha
  constructor
  · exact Int.natCast_nonneg a
  · show (a : Int) < 256
    lia
section
variable {f : Fns} {w : World} {A : Around} {E : Value → Shared → Prop} {s : Shared} {h₀ : Heap} {L : Addr} {m : Str → Option Value} {news : List (Addr × Obj)} {Q : Value → Shared → Prop}
theorem ne_frame {h : Heap} {a : Addr} (F : Fr h₀ L h m) (e : h.get? a = none) : a ≠ L := fun q => by
  obtain ⟨o, _, _, ho, _⟩ := F.ns
  rw [← q, e] at ho
  cases ho
theorem rows_call {l : Addr} {vs : List Value} {ns : List Int} (L0 : Law0 w f h₀) (F : Fr h₀ L s.heap m) (N : News h₀ L s.heap news) (hA : A.handled = none) (hd : A.depth + 8 < recursionLimit)
    (hl : s.heap.IsList l vs.toArray) (hv : IntsAre vs ns) (hn : ns.length ≤ 63)
    (h : ∀ h' tk T lo lr octets row vo vr ko kr, Fr h₀ L h' m → News h₀ L h' ((T, { cls := .type "tuple", data := .seq #[.ref lo, .ref lr] 0 }) :: (lo, listOf (List.toArray vo) ko) :: (lr, listOf (List.toArray vr) kr) :: news) → IntsP vo octets → IntsP vr row → Oct octets → Oct row →
      octets ≠ [] → octets.length ≤ 10 → row.length ≤ 10 → Q (.ref T) { s with heap := h', toks := tk }) :
    wpAny (model pw w) A (call (.ref f.rows) [.ref l]) Q E s := by
  refine wpAny_call (rows_walk (L0.keeps F.keep) hA hd hl hv hn fun v h' tk hk hp => ?_)
  obtain ⟨T, lo, lr, octets, row, vo, vr, ko, kr, rfl, gT, go, gr, a1, a2, a3, a4, a5, a6, a7, fT, fo, fr⟩ := hp
  refine h h' tk T lo lr octets row vo vr ko kr (F.keeps hk) (fun p hp => ?_) a1 a2 a3 a4 a5 a6 a7
  rcases List.mem_cons.mp hp with rfl | hp
  · exact ⟨gT, ne_frame F fT, fresh_of F fT⟩
  · rcases List.mem_cons.mp hp with rfl | hp
    · exact ⟨go, ne_frame F fo, fresh_of F fo⟩
    · rcases List.mem_cons.mp hp with rfl | hp
      · exact ⟨gr, ne_frame F fr, fresh_of F fr⟩
      · exact N.grown hk p hp
theorem hdr_call {l : List Nat} {k : Nat} {t u : Tok} {X : Str} (L0 : Law0 w f h₀) (F : Fr h₀ L s.heap m) (N : News h₀ L s.heap news) (hA : A.handled = none) (hd : A.depth < recursionLimit) (ho : Oct l) (hn : l.length ≤ 100) (hX : X = ⟨#[k]⟩)
    (h : ∀ h' t tk, Fr h₀ L h' m → News h₀ L h' news → Q (.str ⟨(word k l).toArray⟩ t) { s with heap := h', toks := tk }) :
    wpAny (model pw w) A (call (.ref f.hdr) [.bytes ((l.map Int.ofNat).map fun n => n.toNat.toUInt8).toArray t, .str X u]) Q E s := by
  subst hX
  refine wpAny_call (hdr_walk (L0.keeps F.keep) hA hd (by simpa using hn) (back_frame F N fun v h' tk F' N' _ hp => ?_))
  obtain ⟨t, rfl⟩ := hp
  rw [bytes_back ho]
  exact h _ _ _ F' N'
theorem tr_call {x : Str} {t : Tok} (L0 : Law0 w f h₀) (F : Fr h₀ L s.heap m) (N : News h₀ L s.heap news) (hA : A.handled = none) (hd : A.depth + 20 < recursionLimit)
    (hx : ∀ c ∈ x.cps.toList, c ≠ 91) (hl : x.length ≤ 1000)
    (h : ∀ h' t tk, Fr h₀ L h' m → News h₀ L h' news → Q (.str ⟨(trText x.cps.toList).toArray⟩ t) { s with heap := h', toks := tk }) : wpAny (model pw w) A (call (.ref f.tr) [.str x t]) Q E s := by
  refine wpAny_call (tr_walk (L0.keeps F.keep) hA hd hx hl (back_frame F N fun v h' tk F' N' _ hp => ?_))
  obtain ⟨t, rfl⟩ := hp
  exact h _ _ _ F' N'
theorem runs_call {x : List Nat} {t : Tok} (L0 : Law0 w f h₀) (F : Fr h₀ L s.heap m) (N : News h₀ L s.heap news) (hA : A.handled = none) (hd : A.depth + 5 < recursionLimit) (hl : x.length ≤ 1000)
    (h : ∀ h' tk a vs n objs, Fr h₀ L h' m → News h₀ L h' ((a, listOf (List.toArray vs) n) :: (objs ++ news)) → RunObjs SymsAre objs vs (grp [] false x) → Q (.ref a) { s with heap := h', toks := tk }) :
    wpAny (model pw w) A (call (.ref f.runs) [.str ⟨(trText x).toArray⟩ t]) Q E s := by
  have hjl := jt_trs_len x
  refine wpAny_call (runs_walk (T := ⟨(trText x).toArray⟩) (body := jt false (trs false x)) (RES := grp [] false x) (L0.keeps F.keep) hA hd (by simp [trText]) (by simp [PySem.Str.length, trText, head4, tail3]; lia) ?_ fun v h' tk hk hp => ?_)
  · have := prs_spec x ((jt false (trs false x) ++ tail3).length + 1) false false [] [] (fun q => by cases q) (fun q => by cases q) (Nat.le_succ _)
    simpa using this
  · obtain ⟨a, vs, n, objs, rfl, e1, e2, e3, e4⟩ := hp
    refine h h' tk a vs n objs (F.keeps hk) (fun p hp => ?_) e3
    rcases List.mem_cons.mp hp with rfl | hp
    · exact ⟨e2, ne_frame F e1, fresh_of F e1⟩
    · rcases List.mem_append.mp hp with hp | hp
      · exact ⟨(e4 p hp).1, ne_frame F (e4 p hp).2, fresh_of F (e4 p hp).2⟩
      · exact N.grown hk p hp
theorem takes_call {B : Bool} {l : Addr} {vr : List Value} {g0 : List (Option Nat)} {rest : List (List (Option Nat))} {nm : Str} {t : Tok}
    (L0 : Law0 w f h₀) (F : Fr h₀ L s.heap m) (N : News h₀ L s.heap news) (hA : A.handled = none) (hd : A.depth + 5 < recursionLimit) (hl : s.heap.IsList l vr.toArray) (hv : RunsHere SymsAre s.heap vr (g0 :: rest)) (hsz : g0.length + (rest.map (·.length)).sum ≤ 400) (hgl : rest.length ≤ 400) (hnl : nm.length ≤ 400) (hB : takes g0 rest nm.cps.toList = B)
    (h : ∀ h' tk, Fr h₀ L h' m → News h₀ L h' news → Q (.bool B) { s with heap := h', toks := tk }) : wpAny (model pw w) A (call (.ref f.takes) [.ref l, .str nm t]) Q E s := by
  refine wpAny_call (takes_walk (L0.keeps F.keep) hA hd hl hv hsz hgl hnl (back_frame F N fun v h' tk F' N' _ hp => ?_))
  rw [hp, hB]
  exact h _ _ F' N'
theorem told_call {lo lr : Addr} {vo vr : List Value} {octets row : List Nat} (L0 : Law0 w f h₀) (F : Fr h₀ L s.heap m) (N : News h₀ L s.heap news) (hA : A.handled = none) (hd : A.depth + 8 < recursionLimit) (hu : A.units + 400 < cLine)
    (hlo : s.heap.IsList lo vo.toArray) (hvo : IntsP vo octets) (hlr : s.heap.IsList lr vr.toArray) (hvr : IntsP vr row) (ho : Oct octets) (hr : Oct row) (hn1 : octets.length ≤ 100) (hn2 : row.length ≤ 100)
    (h : ∀ h' tk, Fr h₀ L h' m → News h₀ L h' news → Q (.bool (told octets row)) { s with heap := h', toks := tk }) : wpAny (model pw w) A (call (.ref f.told) [.ref lo, .ref lr]) Q E s := by
  refine wpAny_call (told_walk (L0.keeps F.keep) hA hd hu hlo hvo hlr hvr ho hr hn1 hn2 (back_frame F N fun v h' tk F' N' _ hp => ?_))
  rw [hp]
  exact h _ _ F' N'
end
theorem grp_len : ∀ (l : List Nat) (cur : List (Option Nat)) (st : Bool), ((grp cur st l).map (·.length)).sum ≤ cur.length + l.length ∧ (grp cur st l).length ≤ l.length + 1
  | [], cur, st => by simp [grp]
  | c :: l, cur, st => by
    rw [grp]
    split
    · split
      · have := grp_len l cur true
        rw [List.length_cons]
        lia
      · have := grp_len l [] true
        rw [List.map_cons, List.sum_cons, List.length_cons, List.length_cons]
        simp only [List.length_nil] at this
        lia
    · have := grp_len l (cur ++ [sym c]) false
      rw [List.length_append, List.length_singleton] at this
      rw [List.length_cons]
      lia
theorem grp_ne : ∀ (l : List Nat) (cur : List (Option Nat)) (st : Bool), ∃ g0 rest, grp cur st l = g0 :: rest
  | [], cur, st => ⟨cur, [], rfl⟩
  | c :: l, cur, st => by
    rw [grp]
    split
    · split
      · exact grp_ne l cur true
      · exact ⟨_, _, rfl⟩
    · exact grp_ne l _ false
theorem enc_len (l : List Nat) : (enc l).length ≤ 3 * l.length := by
  induction l with
  | nil => simp [enc_nil]
  | cons a l ih =>
    rw [enc_cons, List.length_append, enc1_length, List.length_cons]
    split <;> lia
theorem word_len (k : Nat) (l : List Nat) : (word k l).length ≤ 8 + 3 * l.length := by
  unfold word
  have := enc_len l
  split
  · simp
  · simp only [List.length_append, List.length_cons, List.length_nil]; lia
theorem word_91 {k : Nat} {l : List Nat} (hk : k ≠ 91) (h : Oct l) : ∀ c ∈ word k l, c ≠ 91 := by
  intro c hc
  unfold word at hc
  split at hc
  · cases hc
  · simp only [List.mem_append, List.mem_cons, List.not_mem_nil, or_false] at hc
    rcases hc with (hc | hc) | hc
    · lia
    · exact (enc_mem h hc).2.1
    · lia
theorem mark_ok {z : Int} (h : 0 ≤ z ∧ z < 4) : (Str.ofString "uu?v").cps.toList.getD z.toNat 0 = 117 ∨ (Str.ofString "uu?v").cps.toList.getD z.toNat 0 = 63 ∨ (Str.ofString "uu?v").cps.toList.getD z.toNat 0 = 118 := by
  rw [show (Str.ofString "uu?v").cps.toList = [117, 117, 63, 118] by decide +kernel]
  have : z.toNat = 0 ∨ z.toNat = 1 ∨ z.toNat = 2 ∨ z.toNat = 3 := by lia
  rcases this with e | e | e | e <;> rw [e] <;> decide
/-- one of the law's three rows -/
noncomputable def OneRow (led : List (Addr × Obj)) (v : Value) (one : List Nat) : Prop := ∃ b vb kb, v = .ref b ∧ (b, listOf (List.toArray vb) kb) ∈ led ∧ IntsP vb one ∧ Oct one ∧ one.length ≤ 10
/-- the law's state between the rows -/
noncomputable def LawSt (a lo : Addr) (mk : Nat) (led : List (Addr × Obj)) (_ : Nat) (m : Str → Option Value) (news : List (Addr × Obj)) : Prop :=
  m "runs" = some (.ref a) ∧ (∃ tm, m "mark" = some (.str ⟨#[mk]⟩ tm)) ∧ m "octets" = some (.ref lo) ∧ news = led
theorem one_rows {led : List (Addr × Obj)} {lo lr D : Addr} {vo vr : List Value} {ko kr kd i : Nat} {octets row : List Nat} {v : Value} (h : ([.ref lr, .ref D, .ref lo] : List Value)[i]? = some v) (hlo : (lo, listOf vo.toArray ko) ∈ led) (hlr : (lr, listOf vr.toArray kr) ∈ led) (hD : (D, listOf (vr.drop 1).toArray kd) ∈ led)
    (ho : IntsP vo octets) (hr : IntsP vr row) (oo : Oct octets) (orr : Oct row) (hol : octets.length ≤ 10) (hrl : row.length ≤ 10) : ∃ one, OneRow led v one := by
  match i, h with
  | 0, h => cases h; exact ⟨row, _, _, _, rfl, hlr, hr, orr, hrl⟩
  | 1, h =>
    cases h
    refine ⟨row.drop 1, _, _, _, rfl, hD, ?_, fun b hb => orr b (List.mem_of_mem_drop hb), by rw [List.length_drop]; lia⟩
    unfold IntsP
    rw [List.map_drop]
    exact IntsAre.drop hr 1
  | 2, h => cases h; exact ⟨octets, _, _, _, rfl, hlo, ho, oo, hol⟩
  | i + 3, h => cases h
noncomputable def LawMid (a lo b : Addr) (mk : Nat) (wd : List Nat) (led : List (Addr × Obj)) (m : Str → Option Value) (news : List (Addr × Obj)) : Prop :=
  m "runs" = some (.ref a) ∧ (∃ tm, m "mark" = some (.str ⟨#[mk]⟩ tm)) ∧ m "octets" = some (.ref lo) ∧ m "one" = some (.ref b) ∧ (∃ t, m "word" = some (.str ⟨wd.toArray⟩ t)) ∧ news = led
theorem word_cps {k : Nat} {l : List Nat} : (⟨(word k l).toArray⟩ : PySem.Str).cps.toList = word k l := rfl
theorem word_cl {one : List Nat} (h : one ≠ []) : (⟨(word 117 one).toArray⟩ : PySem.Str).cps.toList.length = (enc one).length + 8 := by
  show (word 117 one).length = _
  rw [word, if_neg h]
  simp only [List.length_append, List.length_cons, List.length_nil]
  lia
theorem word_head {one : List Nat} (h : one ≠ []) : (Txt.slice ⟨(word 117 one).toArray⟩ none (some 6) != Str.ofString "=?u?q?") = false := by
  have : Txt.slice ⟨(word 117 one).toArray⟩ none (some 6) = Str.ofString "=?u?q?" := by
    show StrLaws.sliceText ⟨(word 117 one).toArray⟩ none (some 6) = _
    rw [StrLaws.sliceText_to (by rw [word_cl h]; lia), word_cps, word, if_neg h, show Str.ofString "=?u?q?" = (⟨#[61, 63, 117, 63, 113, 63]⟩ : PySem.Str) from by decide +kernel]
    simp
  rw [this]
  simp
theorem word_tail {one : List Nat} (h : one ≠ []) : (Txt.slice ⟨(word 117 one).toArray⟩ (some (-2)) none != Str.ofString "?=") = false := by
  have hl : (⟨(word 117 one).toArray⟩ : PySem.Str).length = (enc one).length + 8 := by
    show (word 117 one).toArray.size = _
    rw [List.size_toArray, word, if_neg h]
    simp only [List.length_append, List.length_cons, List.length_nil]
    lia
  have : Txt.slice ⟨(word 117 one).toArray⟩ (some (-2)) none = Str.ofString "?=" := by
    show StrLaws.sliceText ⟨(word 117 one).toArray⟩ (some (-2)) none = _
    rw [StrLaws.sliceText_neg_lo _ none (by decide) (by rw [hl]; lia), StrLaws.sliceText_from (by rw [word_cl h, hl]; lia), show Str.ofString "?=" = (⟨#[63, 61]⟩ : PySem.Str) from by decide +kernel, word_cps, hl]
    have e1 : ((-2 : Int) + (((enc one).length + 8 : Nat) : Int)).toNat = ([61, 63, 117, 63, 113, 63] ++ enc one).length := by simp; lia
    rw [e1, word, if_neg h, List.drop_left]
    have e2 : (((([61, 63, 117, 63, 113, 63] ++ enc one) ++ [63, 61]).length : Int) - ((-2 : Int) + (((enc one).length + 8 : Nat) : Int))).toNat = 2 := by simp; lia
    rw [e2]
    rfl
  rw [this]
  simp
theorem mark_v {k : Nat} : ((⟨#[k]⟩ : PySem.Str) != Str.ofString "v") = decide (k ≠ 118) := by
  rw [show Str.ofString "v" = (⟨#[118]⟩ : PySem.Str) from by decide +kernel, Bool.eq_iff_iff]
  simp
section
variable {prog : Program} {w : World} {A : Around} {E : Value → Shared → Prop} {s : Shared}
theorem ne_none {a b : Addr} {vs : List Value} {r : List Nat} {n : Nat} {led : List (Addr × Obj)} {h₀ : Heap} {L : Addr} {Q : Value → Shared → Prop} (hl : s.heap.IsList a vs.toArray) (hi : IntsAre vs (r.map Int.ofNat)) (N : News h₀ L s.heap ((b, listOf #[] n) :: led)) (hu : A.units + 64 < cLine)
    (h1 : r = [] → Q (.bool false) s) (h2 : r ≠ [] → Q (.bool true) s) : wpAny (model prog w) A (compareOp .NotEq (.ref a) (.ref b)) Q E s := by
  refine ne_intsK hl hi (News.isList N List.mem_cons_self) (us := []) (ms := []) .nil hu ?_
  cases r with
  | nil => exact h1 rfl
  | cons a r => exact h2 (fun q => nomatch q)
end
theorem mid_none {a lo b : Addr} {mk : Nat} {one : List Nat} {led : List (Addr × Obj)} {m : Str → Option Value} {h₀ h' : Heap} {L : Addr} {s : Shared} {tk : Nat} {all : List (Addr × Obj)} {tm t : Tok} (F : Fr h₀ L h' m) (N : News h₀ L h' all) (hs : ∀ p ∈ led, p ∈ all)
    (mrun : m "runs" = some (.ref a)) (mmark : m "mark" = some (.str ⟨#[mk]⟩ tm)) (moct : m "octets" = some (.ref lo)) (mone : m "one" = some (.ref b)) (mw : m "word" = some (.str ⟨(word 117 one).toArray⟩ t)) :
    XQ h₀ L s (LawMid a lo b mk (word 117 one) led) (fun _ _ => False) .next { s with heap := h', toks := tk } := XQ.intro F (fun p hp => N p (hs p hp)) ⟨mrun, ⟨tm, mmark⟩, moct, mone, ⟨t, mw⟩, rfl⟩
theorem LawMid.el {a lo b : Addr} {mk : Nat} {wd : List Nat} {led news : List (Addr × Obj)} {m : Str → Option Value} {P : Prop} {G : List (Addr × Obj) → Prop} (h : LawMid a lo b mk wd led m news) (N : G news)
    (k : ∀ tm t, m "runs" = some (.ref a) → m "mark" = some (.str ⟨#[mk]⟩ tm) → m "octets" = some (.ref lo) → m "one" = some (.ref b) → m "word" = some (.str ⟨wd.toArray⟩ t) → G led → P) : P := by
  obtain ⟨a1, ⟨tm, a2⟩, a3, a4, ⟨t, a5⟩, rfl⟩ := h
  exact k tm t a1 a2 a3 a4 a5 N

end

section
theorem law_walk {f : Fns} {w : World} {A : Around} {s : Shared} {R : Result → Shared → Prop} {l : Addr} {vs : List Value} {ns : List Int} (L0 : Law0 w f s.heap) (hA : A.handled = none) (hd : A.depth + 40 < recursionLimit) (hu : A.units + 1000 < cLine)
    (hl : s.heap.IsList l vs.toArray) (hv : IntsAre vs ns) (hn : ns.length ≤ 63)
    (hR : Back s R fun _ v => v = .bool true) :
    codeAny (model pw w) A (.call (.ref f.law) ⟨[.ref l], []⟩) R s := by
  have KX : Frag.In ([] : Frag) s.heap := noFrag
  have G := L0.gd
  have n1 := G.n_rows
  have f1 := G.f_rows
  have n2 := G.n_runs
  have f2 := G.f_runs
  have n3 := G.n_tr
  have f3 := G.f_tr
  have n4 := G.n_hdr
  have f4 := G.f_hdr
  have n5 := G.n_takes
  have f5 := G.f_takes
  have n6 := G.n_told
  have f6 := G.f_told
  have hvl := hv.length
  refine' enter [(Str.ofString "script", .ref l)] rfl L0.f_law G.nolimit (by lia) (by intros; exact BindsTo.of_eq (by rfl)) (locs rfl) ?_ (by decide) rfl rfl rfl
  intro L' h' tk' cd' F' N'
  tb_start
  refine rows_call L0 (by assumption) (by assumption) hA (by show A.depth + 1 + 8 < _; lia) (isList_keeps (Fr.keep (by assumption)) hl) hv hn (fun h1 tk1 T lo lr octets row vo vr ko kr F1 N1 ho hr oo orr hne hol hrl => ?_)
  have hvol := ho.length
  have hvrl := hr.length
  rw [List.length_map] at hvol hvrl
  tb_start
  refine unpackN_ F1 N1 (News.isTup N1 List.mem_cons_self) hA rfl rfl fun h2 F2 N2 => ?_
  tb_start
  refine r_slice (zs := vs.take 5) (by assumption) (by assumption) (isList_keeps (Fr.keep (by assumption)) hl) IsPart.none (IsPart.int _ _) (pick_to (by decide)) (by lia) ?_
  intro D hD FD ND lD
  have hv5 : IntsAre (vs.take 5) (ns.take 5) := hv.take 5
  have hl5 : (ns.take 5).length ≤ 5 := by rw [List.length_take]; lia
  generalize vs.take 5 = vs5 at hv5 ND
  generalize ns.take 5 = ns5 at hv5 hl5
  have hq : 0 ≤ ns5.sum.fmod 4 ∧ ns5.sum.fmod 4 < 4 := by rw [Int.fmod_eq_emod_of_nonneg _ (by decide)]; lia
  have h4 : (Str.ofString "uu?v").cps.toList = [117, 117, 63, 118] := by decide +kernel
  have h4l : (Str.ofString "uu?v").cps.toList.length = 4 := by rw [h4]; rfl
  have h4m : (Str.ofString "uu?v").length = 4 := by decide +kernel
  tb_start
  refine sumK hA (by assumption) (by assumption) (News.isList (by assumption) List.mem_cons_self) hv5 (fun h3 t3 tk3 F3 N3 => ?_)
  tb_start
  have hm := mark_ok hq
  clear hv5 hl5 hq h4 h4l h4m
  generalize (Str.ofString "uu?v").cps.toList.getD (ns5.sum.fmod 4).toNat 0 = mk at *
  refine bytes_K (by assumption) (by assumption) (News.isList (by assumption) (List.mem_cons_of_mem _ (List.mem_cons_of_mem _ List.mem_cons_self))) ho (oct_range oo) (by rw [sizeLine_eq]; lia) hA (fun h4 t4 k4 F4 N4 _ => ?_)
  tb_start
  refine hdr_call L0 (by assumption) (by assumption) hA (by show A.depth + 1 < _; lia) oo (by lia) rfl (fun h5 t5 k5 F5 N5 => ?_)
  have hwl := word_len mk octets
  tb_start
  refine tr_call L0 (by assumption) (by assumption) hA (by show A.depth + 1 + 20 < _; lia) (word_91 (by lia) oo) (by simp [PySem.Str.length]; lia) (fun h6 t6 k6 F6 N6 => ?_)
  tb_start
  refine runs_call (x := word mk octets) L0 (by assumption) (by assumption) hA (by show A.depth + 1 + 5 < _; lia) (by lia) (fun h7 k7 a vr7 n7 objs F7 N7 hRO => ?_)
  tb_start
  have hgl := grp_len (word mk octets) [] false
  obtain ⟨g0, grest, hg⟩ := grp_ne (word mk octets) [] false
  have hvr7 : vr7.length = grest.length + 1 := by rw [hRO.length.2, hg]; rfl
  refine PySem.SeqAt.eq_list_lengthsAt (News.isList (by assumption) (List.mem_cons_of_mem _ List.mem_cons_self)) (News.isList (by assumption) List.mem_cons_self) (by simp [hvr7]) (by show A.units + 3 < cLine; lia) ?_
  tb_start
  rename Fr _ _ _ _ => F8
  rename News _ _ _ _ => N8
  (with_unfolding_all refine' For_invVF F8 ?k1 ?k2 ?_); (case k1 => exact rfl); (case k2 => exact rfl)
  tb_start
  refine r_slice (zs := vr.drop 1) (by assumption) (by assumption) (News.isList (by assumption) (List.mem_cons_of_mem _ (List.mem_cons_of_mem _ (List.mem_append_right _ (List.mem_cons_of_mem _ (List.mem_cons_of_mem _ (List.mem_cons_of_mem _ List.mem_cons_self))))))) (IsPart.int _ _) IsPart.none (pick_from (by decide)) (by lia) ?_
  intro D9 h9 F9 N9 lD9
  tb_start
  rename_i Lst _ F10 N10 _
  obtain ⟨led, N11, hmL, hmA, hmo, hmr, hmD, hmO⟩ : ∃ led, News s.heap L' _ led ∧ (Lst, listOf (List.toArray [Value.ref lr, .ref D9, .ref lo]) 0) ∈ led ∧ (a, listOf vr7.toArray n7) ∈ led ∧ (lo, listOf vo.toArray ko) ∈ led ∧ (lr, listOf vr.toArray kr) ∈ led ∧ (D9, listOf (List.drop 1 vr).toArray 0) ∈ led ∧ ∀ p ∈ objs, p ∈ led :=
    ⟨_, N10, List.mem_cons_self, by simp, by simp, by simp, by simp, fun p hp => by simp [hp]⟩
  clear N10 lD9 lD
  refine' loop_list (J := LawSt a lo mk led) hA F10 N11 hmL rfl rfl ?jinit ?jturn ?jdone
  case jinit => exact ⟨rfl, ⟨_, rfl⟩, rfl, rfl⟩
  case jturn =>
    clear F10 N11
    intro i v m₁ news₁ h₁ tk₁ I it hv1 hJ hm₁ hit F₁ N₁ hI
    refine gen_unr fun Q' hQ => ?_
    obtain ⟨mrun, ⟨tm, mmark⟩, moct, rfl⟩ := hJ
    obtain ⟨one, b, vb, kb, rfl, hmb, hib, hob, hlb⟩ := one_rows hv1 hmo hmr hmD ho hr oo orr hol hrl
    have hbl := hib.length
    rw [List.length_map] at hbl
    tb_start
    refine bytes_K (by assumption) (by assumption) (News.isList (by assumption) (List.mem_cons_of_mem _ hmb)) hib (oct_range hob) (by rw [sizeLine_eq]; lia) hA (fun h4 t4 k4 F4 N4 _ => ?_)
    tb_start
    refine hdr_call (k := 117) L0 (by assumption) (by assumption) hA (by show A.depth + 1 < _; lia) hob (by lia) (by decide) (fun h5 t5 k5 F5 N5 => ?_)
    have hwl := word_len 117 one
    iterate 2 (try kat_tups)
    refine execs_joinG (h₀ := s.heap) (L := L') (LawMid a lo b mk (word 117 one) ((I, it) :: news₁)) (fun Q'' hX => ?_) ?_
    · tb_start
      rename News _ _ _ _ => N6
      refine ne_none (News.isList N6 (List.mem_cons_of_mem _ (List.mem_cons_of_mem _ hmb))) hib N6 (by show A.units + 3 + 64 < cLine; lia) (fun hone => ?_) (fun hone => ?_)
      · tb_start
        rename Fr _ _ _ _ => F6
        exact hX (mid_none F6 N6 (fun p hp => List.mem_cons_of_mem _ hp) mrun mmark moct rfl (by rw [hone]; rfl))
      · have e1 := word_head hone
        have e2 := word_tail hone
        tb_start
        rename Fr _ _ _ _ => F6
        rename News _ _ _ _ => N6
        exact hX (mid_none F6 N6 (fun p hp => List.mem_cons_of_mem _ hp) mrun mmark moct rfl rfl)
    · intro m6 news6 h6 tk6 hM F6 N0
      refine LawMid.el hM N0 fun tm6 tw6 mrun6 mmark6 moct6 mone6 mw6 N6 => ?_
      clear hM N0
      have hRH := hRO.here (h := h6) (fun p hp => N6.get (List.mem_cons_of_mem _ (hmO p hp)))
      rw [hg] at hRH
      have hsz := hgl.1
      rw [hg, List.map_cons, List.sum_cons, List.length_nil] at hsz
      have hgl2 := hgl.2
      rw [hg, List.length_cons] at hgl2
      have hlaw := law_eq hm oo hne hob
      rw [hg] at hlaw
      have hlaw' : takes g0 grest (⟨(word 117 one).toArray⟩ : PySem.Str).cps.toList = (decide (mk ≠ 118) && told octets one) := hlaw
      have hmv := mark_v (k := mk)
      clear hlaw
      tb_start
      by_cases h118 : mk = 118
      · rw [decide_eq_false (not_not_intro h118)] at hmv hlaw'
        rw [Bool.false_and] at hlaw'
        refine takes_call L0 (by assumption) (by assumption) hA (by show A.depth + 1 + 5 < _; lia) (News.isList (by assumption) (List.mem_cons_of_mem _ hmA)) hRH (by lia) (by lia) (by show (word 117 one).toArray.size ≤ _; rw [List.size_toArray]; lia) hlaw' (fun h7 k7 F7 N7 => ?_)
        clear hlaw' hRH
        tb_start
        · rename_i hx
          rw [hmv] at hx
          cases hx
        · rename Fr _ _ _ _ => FX
          rename News _ _ _ _ => NX
          exact hQ.fin (UnrEnd.intro FX NX news₁ (fun p hp => hp) (fun p hp => Nat.ne_of_lt (hI p hp)) ⟨hmL, mrun6, ⟨_, mmark6⟩, moct6, rfl⟩)
      · rw [decide_eq_true h118] at hmv hlaw'
        rw [Bool.true_and] at hlaw'
        refine takes_call L0 (by assumption) (by assumption) hA (by show A.depth + 1 + 5 < _; lia) (News.isList (by assumption) (List.mem_cons_of_mem _ hmA)) hRH (by lia) (by lia) (by show (word 117 one).toArray.size ≤ _; rw [List.size_toArray]; lia) hlaw' (fun h7 k7 F7 N7 => ?_)
        clear hlaw' hRH
        tb_start
        refine told_call L0 (by assumption) (by assumption) hA (by show A.depth + 1 + 8 < _; lia) (by show A.units + 3 + 400 < _; lia) (News.isList (by assumption) (List.mem_cons_of_mem _ hmo)) ho (News.isList (by assumption) (List.mem_cons_of_mem _ hmb)) hib oo hob (by lia) (by lia) (fun h8 k8 F8 N8 => ?_)
        generalize told octets one = B
        tb_start
        · rename_i hx
          rw [bne_self_eq_false] at hx
          cases hx
        · rename Fr _ _ _ _ => FX
          rename News _ _ _ _ => NX
          exact hQ.fin (UnrEnd.intro FX NX news₁ (fun p hp => hp) (fun p hp => Nat.ne_of_lt (hI p hp)) ⟨hmL, mrun6, ⟨_, mmark6⟩, moct6, rfl⟩)
  case jdone =>
    rintro m₁ news₁ h₁ tk₁ ⟨mrun, ⟨tm, mmark⟩, moct, rfl⟩ hm₁ F₁ N₁
    dsimp only
    tb_start
    dsimp only [RetQ]
    exact hR _ _ _ (Fr.keep (by assumption)) rfl
theorem law_call : LawCall := by
  intro w s f l vs ns L0 _ hl hv hn Q h
  refine wpAny_call (law_walk L0 rfl (by decide +kernel) (by decide +kernel) hl hv hn fun v h' tk hk hp => ?_)
  rw [hp]
  exact h h' tk hk
theorem holds : PySem.Challenge.rw_ij0034_01.Holds := holds_of law_call

end

end Mine
theorem PySem.Challenge.cw_ij0034_01_holds : PySem.Challenge.rw_ij0034_01.Holds :=
  Mine.holds
