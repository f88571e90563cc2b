import PyProof.Rows.All
import Wide.All
import OpenK.AllK
import Wide.FinOn
import PySem.Challenge.RW_co0038_01
set_option Elab.async false
set_option maxRecDepth 100000
section
set_option maxRecDepth 100000
namespace Mine
open PySem PySem.W PySem.Calls PySem.Spec PyProof.Rows PySem.W.KBw
section
variable {prog : Program} {w : World} {A : Around} {E : Value → Shared → Prop} {s : Shared} {b : Array UInt8} {t : Tok} {J : Addr} {i : Nat}
theorem call_next1 {c : UInt8} {Q : Value → Shared → Prop} (hit : IsBytesIter s.heap J b t i) (hx : b[i]? = some c)
    (hQ : ∀ h', IsBytesIter h' J b t (i + 1) → Heap.SameBut J s.heap h' → Q (.int (c.toNat : Int) s.toks) { s with heap := h', toks := s.toks + 1 }) :
    wpAny (model prog w) A (call (.builtin "next") [.ref J]) Q E s := by
  obtain ⟨o, ho, hc, hd⟩ := id hit
  refine call_function_entry (by decide +kernel) (by decide +kernel) kdk_entry_next (kdk_args_next _) ?_
  unfold Builtin.«next»
  refine wpAny_bind (m := someArgs "next" 1 2 _) (wpAny_of_eq (a := [Value.ref J]) (by first | rfl | kernel_rfl!) ?_)
  dsimp only
  refine wpAny_bind (wpAny_specialOf (name := PySem.Str.ofString "__next__") (iter_typeIs hit) slot_next.lookup ?_)
  refine wpAny_ite_split (fun hab => absurd hab (by decide)) (fun _ => ?_)
  refine wpAny_bind (wpAny_callSpecial?_slot (name := PySem.Str.ofString "__next__") (iter_typeIs hit) slot_next
    (wpAny_call_entry slot_next (iter_typeIs hit) entry_next ?_ (args_next _)))
  show wpAny _ _ (field (.ref J) 0 >>= _) _ _ s
  refine wpAny_bind (wpAny_field ho hd (x := .bytes b t) rfl ?_)
  show wpAny _ _ (if (Value.bytes b t == Value.none) = true then _ else _) _ _ s
  rw [if_neg (show ¬ ((Value.bytes b t == Value.none) = true) from Bool.false_ne_true)]
  show wpAny _ _ (field (.ref J) 1 >>= _) _ _ s
  refine wpAny_bind (wpAny_field ho hd (x := .int i 0) rfl ?_)
  refine wpAny_bind (wpAny_of_eq (a := b) rfl ?_)
  simp only [Int.toNat_natCast, hx]
  refine wpAny_bind (wpAny_setField ho hd (by simp) (wpAny_bind (wpAny_mkInt (wpAny_pure ⟨_, rfl, wpAny_pure ⟨_, rfl, hQ _ ?_ (Heap.SameBut.update ..)⟩⟩))))
  exact ⟨_, Heap.get?_update_self _ ho (Obj.isFreed_of_fields (Obj.data_mapFields hd _)), (Obj.cls_mapFields ..).trans hc, by
    rw [Obj.data_mapFields hd]; simp [rawInt]⟩
theorem call_next2_item {c : UInt8} {dflt : Value} {Q : Value → Shared → Prop} (hit : IsBytesIter s.heap J b t i) (hx : b[i]? = some c)
    (hQ : ∀ h', IsBytesIter h' J b t (i + 1) → Heap.SameBut J s.heap h' → Q (.int (c.toNat : Int) s.toks) { s with heap := h', toks := s.toks + 1 }) :
    wpAny (model prog w) A (call (.builtin "next") [.ref J, dflt]) Q E s := by
  refine call_function_entry (by decide +kernel) (by decide +kernel) kdk_entry_next (kdk_args_next2 _ _) ?_
  unfold Builtin.«next»
  refine wpAny_bind (m := someArgs "next" 1 2 _) (wpAny_of_eq (a := [Value.ref J, dflt]) (by first | rfl | kernel_rfl!) ?_)
  dsimp only
  refine wpAny_bind (wpAny_specialOf (name := PySem.Str.ofString "__next__") (iter_typeIs hit) slot_next.lookup ?_)
  refine wpAny_ite_split (fun hab => absurd hab (by decide)) (fun _ => ?_)
  refine wpAny_bind (next_item hit hx fun h' hit' hs => ?_)
  exact wpAny_pure ⟨_, rfl, hQ h' hit' hs⟩
theorem call_next2_end {dflt : Value} {Q : Value → Shared → Prop} (hh : A.handled = none) (hit : IsBytesIter s.heap J b t i) (hx : b[i]? = none)
    (hQ : ∀ h', Heap.ExtBut J s.heap h' → Q dflt { s with heap := h' }) :
    wpAny (model prog w) A (call (.builtin "next") [.ref J, dflt]) Q E s := by
  refine call_function_entry (by decide +kernel) (by decide +kernel) kdk_entry_next (kdk_args_next2 _ _) ?_
  unfold Builtin.«next»
  refine wpAny_bind (m := someArgs "next" 1 2 _) (wpAny_of_eq (a := [Value.ref J, dflt]) (by first | rfl | kernel_rfl!) ?_)
  dsimp only
  refine wpAny_bind (wpAny_specialOf (name := PySem.Str.ofString "__next__") (iter_typeIs hit) slot_next.lookup ?_)
  refine wpAny_ite_split (fun hab => absurd hab (by decide)) (fun _ => ?_)
  refine wpAny_bind (next_end hh hit hx fun h' hs => ?_)
  exact wpAny_pure ⟨_, rfl, hQ h' hs⟩
theorem call_iter_bytes {Q : Value → Shared → Prop}
    (hQ : Q (.ref s.heap.objs.size) { s with heap := s.heap.push { cls := .type "bytes_iterator", data := .fields #[.bytes b t, .int 0 0] } }) :
    wpAny (model prog w) A (call (.builtin "iter") [.bytes b t]) Q E s := by
  refine call_function_entry (by decide +kernel) (by decide +kernel) kdk_entry_iter (kdk_args_iter _) ?_
  unfold Builtin.«iter»
  refine wpAny_bind (m := someArgs "iter" 1 2 _) (wpAny_of_eq (a := [Value.bytes b t]) (by first | rfl | kernel_rfl!) ?_)
  show wpAny _ _ (pyIter (.bytes b t) >>= _) _ _ _
  refine wpAny_bind (pyIter_bytes ?_)
  exact wpAny_pure ⟨_, rfl, hQ⟩
end
end Mine
end
section
set_option maxRecDepth 100000
namespace Mine
open PySem PySem.W PySem.Calls PySem.Spec PyProof.Rows PySem.W.KBw
/-- what the element's names need of the heap -/
structure Glb (mg mb : Str → Option Value) (Cd J : Addr) (h : Heap) : Prop where
  g : h.Ns mainGlobals mg
  b : h.Ns builtinsNs mb
  cell : h.IsCell Cd (some (.ref J))
theorem Glb.at {mg mb : Str → Option Value} {Cd J : Addr} {h h' : Heap} {fp : Addr → Prop} (X : Glb mg mb Cd J h) (h1 : fp mainGlobals) (h2 : fp builtinsNs) (h3 : fp Cd)
    (hk : ∀ x, fp x → ∀ o, h.get? x = some o → h'.get? x = some o) : Glb mg mb Cd J h' :=
  ⟨X.g.at fun o e => hk _ h1 o e, X.b.at fun o e => hk _ h2 o e, let ⟨o, ho, hd⟩ := X.cell; ⟨o, hk _ h3 o ho, hd⟩⟩
section
variable {prog : Program} {w : World} {A : Around} {E : Value → Shared → Prop} {s : Shared} {b : Array UInt8} {t : Tok} {J Cd : Addr} {mg mb : Str → Option Value}
theorem elt_step {scope : Scope} {cl : List (Str × Addr)} {C : Addr} {code : Value} {env : Env} {p1 p2 p3 : Pos} {i : Nat} {c : UInt8} {Q : Value → Shared → Prop}
    (hg : env.globals = mainGlobals) (hk : scope.kind = .function) (hx1 : (genEnv scope cl C code builtinsNs env).kindOf (PySem.Str.ofString "next") = some .globalImplicit)
    (hx2 : (genEnv scope cl C code builtinsNs env).kindOf (PySem.Str.ofString "data_iter") = some .free) (hc : cl.lookup (PySem.Str.ofString "data_iter") = some Cd)
    (G : Glb mg mb Cd J s.heap) (hm : mg (PySem.Str.ofString "next") = none) (hv : mb (PySem.Str.ofString "next") = some (.builtin "next"))
    (hit : IsBytesIter s.heap J b t i) (hx : b[i]? = some c)
    (hQ : ∀ h', IsBytesIter h' J b t (i + 1) → Heap.SameBut J s.heap h' → Q (.int (c.toNat : Int) s.toks) { s with heap := h', toks := s.toks + 1 }) :
    wpAny (model prog w) A (eval (.Call (.Name (PySem.Str.ofString "next") p1) [.Name (PySem.Str.ofString "data_iter") p2] [] p3) (genEnv scope cl C code builtinsNs env)) Q E s := by
  refine Call_name1 rfl ?_
  refine Name_function_global hk hx1 (loadGlobal_builtin (env := genEnv scope cl C code builtinsNs env) (show s.heap.Ns env.globals mg from hg ▸ G.g) hm G.b hv ?_) (by decide)
  refine callWith_builtin1 ?_
  refine ldFreeG hc G.cell ?_ hk hx2
  exact call_next1 hit hx hQ
/-- the generator's protocol: n octets from place p on -/
def bProto (C I J : Addr) (b : Array UInt8) (t : Tok) (p n : Nat) (fp : Addr → Prop) : Protocol := fun m s₀ v s kap =>
  (∃ c u, b[p + (n - 1 - m)]? = some c ∧ v = .int (c.toNat : Int) u) ∧ GenSince C [I, J] s₀ s ∧ IsBytesIter s.heap J b t (p + (n - 1 - m) + 1) ∧
    ∀ s'' : Shared, (∀ x, fp x → ∀ o, s.heap.get? x = some o → s''.heap.get? x = some o) → kap (.send .none) s''
def bEnd (C I J : Addr) (b : Array UInt8) (t : Tok) (p n : Nat) : Nat → Shared → Shared → Prop := fun k s₀ s₁ => k = 0 ∧ GenSince C [I, J] s₀ s₁ ∧ IsBytesIter s₁.heap J b t (p + n)
theorem seg_loop {x : Str} {px p1 p2 p3 : Pos} {iter : Expr} {scope : Scope} {pos : Pos} {I C : Addr} {p n : Nat} {fp : Addr → Prop} {cl : List (Str × Addr)} {code : Value} {env : Env}
    (hh : A.handled = none) (hg : env.globals = mainGlobals) (hk : scope.kind = .function) (hco : scope.isCoroutine = false)
    (hx : (genEnv scope cl C code builtinsNs env).kindOf x = some .local)
    (hx1 : (genEnv scope cl C code builtinsNs env).kindOf (PySem.Str.ofString "next") = some .globalImplicit)
    (hx2 : (genEnv scope cl C code builtinsNs env).kindOf (PySem.Str.ofString "data_iter") = some .free) (hc : cl.lookup (PySem.Str.ofString "data_iter") = some Cd)
    (hm : mg (PySem.Str.ofString "next") = none) (hv : mb (PySem.Str.ofString "next") = some (.builtin "next"))
    (hn : ∀ j, j < n → ∃ c, b[p + j]? = some c)
    (hIJ : I ≠ J) (hCI : C ≠ I) (hCJ : C ≠ J) (f1 : fp mainGlobals) (f2 : fp builtinsNs) (f3 : fp Cd) (f4 : fp I) (f5 : fp J) (f6 : fp C)
    (n1 : mainGlobals ≠ I ∧ mainGlobals ≠ J ∧ mainGlobals ≠ C) (n2 : builtinsNs ≠ I ∧ builtinsNs ≠ J ∧ builtinsNs ≠ C) (n3 : Cd ≠ I ∧ Cd ≠ J ∧ Cd ≠ C) :
    ∀ (k i : Nat) (s₀ s : Shared) (m : Str → Option Value), n - i = k → i ≤ n → IsRangeIter s.heap I (i : Int) ((n : Int) - (i : Int)) 1 → IsBytesIter s.heap J b t (p + i) → s.heap.Ns C m → Glb mg mb Cd J s.heap → GenSince C [I, J] s₀ s →
      Seg (model prog w) A (fun n' s₀ r s₁ => r = .ok .next ∧ bEnd C I J b t p n n' s₀ s₁) (bProto C I J b t p n fp) (n - i) s₀
        (.compLoop (.GeneratorExp (.Call (.Name (PySem.Str.ofString "next") p1) [.Name (PySem.Str.ofString "data_iter") p2] [] p3) [⟨.Name x px, iter, [], 0⟩] scope pos) 0 (.ref I) .none (genEnv scope cl C code builtinsNs env))
        ((model prog w).den (.compLoop (.GeneratorExp (.Call (.Name (PySem.Str.ofString "next") p1) [.Name (PySem.Str.ofString "data_iter") p2] [] p3) [⟨.Name x px, iter, [], 0⟩] scope pos) 0 (.ref I) .none (genEnv scope cl C code builtinsNs env))) [] s := by
  have keepG : ∀ {h h' : Heap}, Glb mg mb Cd J h → (∀ y o, y ≠ C → y ≠ I → y ≠ J → h.get? y = some o → h'.get? y = some o) → Glb mg mb Cd J h' := fun X hk =>
    ⟨X.g.at fun o e => hk _ o n1.2.2 n1.1 n1.2.1 e, X.b.at fun o e => hk _ o n2.2.2 n2.1 n2.2.1 e, let ⟨o, ho, hd⟩ := X.cell; ⟨o, hk _ o n3.2.2 n3.1 n3.2.1 ho, hd⟩⟩
  intro k
  induction k with
  | zero =>
    intro i s₀ s m hki hi hit hb hns hG hsince
    have hin : i = n := by omega
    subst hin
    show Seg _ A _ _ _ s₀ _ ((compTurn (.GeneratorExp _ [⟨.Name x px, iter, [], 0⟩] scope pos) 0 (.ref I) .none _).onRaise (leaving _)) [] s
    rw [compTurn_gen, Sem.onRaise_eq_wrap]
    refine seg_bind_wrap (wpAny_standAt ?_)
    refine seg_bind_wrap (wpAny_pyNext_range_end (by exact hh) hit (by omega) fun h' he => ?_)
    refine seg_end (.ok .next) ⟨rfl, by omega, hsince.step fun y o _ hw e => he y o (fun e' => hw (by simp [e'])) e, ?_⟩
    obtain ⟨o, ho, r⟩ := hb
    exact ⟨o, he _ o hIJ.symm ho, r⟩
  | succ k ih =>
    intro i s₀ s m hki hi hit hb hns hG hsince
    have hlt : i < n := by omega
    obtain ⟨c, hbc⟩ := hn i hlt
    show Seg _ A _ _ _ s₀ _ ((compTurn (.GeneratorExp _ [⟨.Name x px, iter, [], 0⟩] scope pos) 0 (.ref I) .none _).onRaise (leaving _)) [] s
    rw [compTurn_gen, Sem.onRaise_eq_wrap]
    refine seg_bind_wrap (wpAny_standAt ?_)
    refine seg_bind_wrap (wpAny_pyNext_range_item hit (by omega) fun h₁ hit₁ hs₁ => ?_)
    refine seg_bind_wrap (wpAny_of_eq (rfl : letOwnedTupleGo (.Name x px) (.ref I) _ = pure ()) ?_)
    refine seg_bind_wrap (wpAny_assign_Name (wpAny_storeName_local hx (hns.sameBut hs₁ hCI) (fun h₂ hn₂ hs₂ => ?_) (by simp [genEnv, hk])))
    have k2 : ∀ y o, y ≠ C → y ≠ I → s.heap.get? y = some o → h₂.get? y = some o := fun y o hC hI e => hs₂.extBut y o hC (hs₁.extBut y o hI e)
    refine seg_bind_wrap (wpAny_of_eq (a := true) (by first | rfl | exact List.forIn_nil ..) ?_)
    simp only [if_true]
    have hy : ∀ v, yieldOut (genEnv scope cl C code builtinsNs env) v = yieldValue v := fun v => by simp [yieldOut, genEnv, hco]
    simp only [hy]
    rw [Sem.bind_eq_wrap', Sem.bind_eq_wrap', Sem.wrap_wrap, Sem.wrap_wrap]
    have hb₂ : IsBytesIter h₂ J b t (p + i) := let ⟨o, ho, r⟩ := hb; ⟨o, k2 _ o hCJ.symm hIJ.symm ho, r⟩
    have hG₂ : Glb mg mb Cd J h₂ := keepG hG fun y o a b' _ e => k2 y o a b' e
    refine seg_wrap (elt_step hg hk hx1 hx2 hc hG₂ hm hv hb₂ hbc fun h₃ hb₃ hs₃ => ?_)
    have hN : n - i = (n - (i + 1)) + 1 := by omega
    rw [hN]
    have e1 : n - 1 - (n - (i + 1)) = i := by omega
    refine seg_at (seg_yield rfl rfl rfl ⟨⟨c, _, by rw [e1]; exact hbc, rfl⟩, hsince.step fun y o hC hw e => ?_, by rw [e1]; exact hb₃, fun s'' hal => ?_⟩)
    · simp only [List.mem_cons, List.not_mem_nil, or_false, not_or] at hw
      exact hs₃.extBut y o hw.2 (k2 y o hC hw.1 e)
    · refine seg_again rfl (ih (i + 1) s'' s'' (fun y => if y = x then some (Value.int (i : Int) s.toks) else m y) (by omega) hlt ?_ ?_ ?_ ?_ (GenSince.refl _ _ _))
      · have h3 : h₃.get? I = _ := (hs₃.2 I hIJ).trans ((hs₂.2 I (Ne.symm hCI)).trans hit₁)
        have := hal I f4 _ h3
        have e2 : ((i + 1 : Nat) : Int) = (i : Int) + 1 := by omega
        have e3 : (n : Int) - ((i + 1 : Nat) : Int) = (n : Int) - (i : Int) - 1 := by omega
        show s''.heap.get? I = _
        rw [e2]
        rw [e2] at e3
        rw [e3]
        exact this
      · obtain ⟨o, ho, r⟩ := hb₃
        exact ⟨o, hal J f5 o ho, by rw [show p + (i + 1) = p + i + 1 from rfl]; exact r⟩
      · exact (hn₂.sameBut hs₃ hCJ).at fun o e => hal C f6 o e
      · exact (keepG hG₂ fun y o _ _ hJ e => hs₃.extBut y o hJ e).at f1 f2 f3 hal
theorem seg_start {x : Str} {px p1 p2 p3 : Pos} {iter : Expr} {scope : Scope} {pos : Pos} {I C : Addr} {p n : Nat} {fp : Addr → Prop} {cl : List (Str × Addr)} {code : Value} {env : Env}
    (hh : A.handled = none) (hg : env.globals = mainGlobals) (hk : scope.kind = .function) (hco : scope.isCoroutine = false)
    (hx : (genEnv scope cl C code builtinsNs env).kindOf x = some .local)
    (hx1 : (genEnv scope cl C code builtinsNs env).kindOf (PySem.Str.ofString "next") = some .globalImplicit)
    (hx2 : (genEnv scope cl C code builtinsNs env).kindOf (PySem.Str.ofString "data_iter") = some .free) (hc : cl.lookup (PySem.Str.ofString "data_iter") = some Cd)
    (hm : mg (PySem.Str.ofString "next") = none) (hv : mb (PySem.Str.ofString "next") = some (.builtin "next"))
    (hn : ∀ j, j < n → ∃ c, b[p + j]? = some c)
    (hIJ : I ≠ J) (hCI : C ≠ I) (hCJ : C ≠ J) (f1 : fp mainGlobals) (f2 : fp builtinsNs) (f3 : fp Cd) (f4 : fp I) (f5 : fp J) (f6 : fp C)
    (n1 : mainGlobals ≠ I ∧ mainGlobals ≠ J ∧ mainGlobals ≠ C) (n2 : builtinsNs ≠ I ∧ builtinsNs ≠ J ∧ builtinsNs ≠ C) (n3 : Cd ≠ I ∧ Cd ≠ J ∧ Cd ≠ C)
    (s₀ s : Shared) (m : Str → Option Value) (hit : IsRangeIter s.heap I 0 (n : Int) 1) (hb : IsBytesIter s.heap J b t p) (hns : s.heap.Ns C m) (hG : Glb mg mb Cd J s.heap) (hsince : GenSince C [I, J] s₀ s) :
      Seg (model prog w) A (fun n' s₀ r s₁ => r = .ok .next ∧ bEnd C I J b t p n n' s₀ s₁) (bProto C I J b t p n fp) n s₀
        (.compStart (.GeneratorExp (.Call (.Name (PySem.Str.ofString "next") p1) [.Name (PySem.Str.ofString "data_iter") p2] [] p3) [⟨.Name x px, iter, [], 0⟩] scope pos) 0 (.ref I) .none (genEnv scope cl C code builtinsNs env))
        ((model prog w).den (.compStart (.GeneratorExp (.Call (.Name (PySem.Str.ofString "next") p1) [.Name (PySem.Str.ofString "data_iter") p2] [] p3) [⟨.Name x px, iter, [], 0⟩] scope pos) 0 (.ref I) .none (genEnv scope cl C code builtinsNs env))) [] s := by
  have hh' : (A.over (.compStart (.GeneratorExp (.Call (.Name (PySem.Str.ofString "next") p1) [.Name (PySem.Str.ofString "data_iter") p2] [] p3) [⟨.Name x px, iter, [], 0⟩] scope pos) 0 (.ref I) .none (genEnv scope cl C code builtinsNs env)) []).handled = none := hh
  have loop := seg_loop (prog := prog) (w := w) (px := px) (p1 := p1) (p2 := p2) (p3 := p3) (iter := iter) (pos := pos) hh hg hk hco hx hx1 hx2 hc hm hv hn hIJ hCI hCJ f1 f2 f3 f4 f5 f6 n1 n2 n3 n 0 s₀ s m (Nat.sub_zero _) (Nat.zero_le _) (by simpa using hit) hb hns hG hsince
  rw [Nat.sub_zero] at loop
  show Seg _ A _ _ _ s₀ _ ((compStart (.GeneratorExp _ [⟨.Name x px, iter, [], 0⟩] scope pos) 0 (.ref I) .none _).onRaise (leaving _)) [] s
  unfold compStart
  rw [Sem.onRaise_eq_wrap]
  show Seg _ A _ _ _ s₀ _ ((ask >>= _).wrap _ _ _ _) [] s
  refine seg_bind_wrap (wpAny_askSetting ?_)
  have hself : ∀ (Q : Value → Shared → Prop) (E : Value → Shared → Prop), Q (.ref I) s → wpAny (model prog w) (A.over (.compStart (.GeneratorExp (.Call (.Name (PySem.Str.ofString "next") p1) [.Name (PySem.Str.ofString "data_iter") p2] [] p3) [⟨.Name x px, iter, [], 0⟩] scope pos) 0 (.ref I) .none (genEnv scope cl C code builtinsNs env)) []) (pyIter (.ref I)) Q E s :=
    fun Q E hQ => wpAny_pyIter_rangeiter hit hQ
  split
  · exact seg_again rfl loop
  · first
      | exact seg_bind_wrap (wpAny_rule (seg_bind_wrap (wpAny_standAt (seg_bind_wrap (hself _ _ (seg_again rfl loop))))))
      | (refine seg_bind_wrap (wpAny_rule ?_); show Seg _ A _ _ _ s₀ _ ((standAt iter.pos >>= _).wrap _ _ _ _) [] s; exact seg_bind_wrap (wpAny_standAt (seg_bind_wrap (hself _ _ (seg_again rfl loop)))))
end
end Mine
end
section
set_option maxRecDepth 100000
namespace Mine
open PySem PySem.W PySem.Calls PySem.Spec PyProof.Rows PySem.W.KBw
/-- what a run of the generator leaves -/
structure Mv (C I J : Addr) (s s' : Shared) : Prop where
  heap : ∀ x o, x ≠ C → x ≠ I → x ≠ J → s.heap.get? x = some o → s'.heap.get? x = some o
  bare : AllBare s.gens → AllBare s'.gens
  os : s'.os = s.os
theorem Mv.refl (C I J : Addr) (s : Shared) : Mv C I J s s := ⟨fun _ _ _ _ _ e => e, id, rfl⟩
theorem Mv.trans {C I J : Addr} {s s' s'' : Shared} (x : Mv C I J s s') (y : Mv C I J s' s'') : Mv C I J s s'' :=
  ⟨fun a o h1 h2 h3 e => y.heap a o h1 h2 h3 (x.heap a o h1 h2 h3 e), fun h => y.bare (x.bare h), y.os.trans x.os⟩
theorem bare_setGen {s : Shared} {g : Nat} {x : GenState} (h : AllBare s.gens) (hx : x.bare = true) : AllBare (s.setGen g x).gens := by
  intro y hy
  obtain ⟨i, hi, rfl⟩ := Array.mem_iff_getElem.mp hy
  simp only [Shared.setGen] at hi ⊢
  rw [Array.getElem_setIfInBounds (by simpa using hi)]
  split
  · exact hx
  · exact h _ (Array.getElem_mem (by simpa using hi))
section
variable {prog : Program} {w : World} {A : Around} {E : Value → Shared → Prop} {s : Shared} {b : Array UInt8} {t : Tok} {a g C I J : Nat} {p n j : Nat} {fp : Addr → Prop}
def GAt (prog : Program) (w : World) (A : Around) (a g C I J : Nat) (b : Array UInt8) (t : Tok) (p n : Nat) (fp : Addr → Prop) (j : Nat) (s : Shared) : Prop :=
  s.heap.IsGen a g ∧ ∃ gs, s.gens[g]? = some gs ∧ ∀ s'' : Shared, (∀ x, fp x → ∀ o, s.heap.get? x = some o → s''.heap.get? x = some o) →
    gs.Goes (model prog w) A.in1 (fun n' s₀ r s₁ => r = .ok .next ∧ bEnd C I J b t p n n' s₀ s₁) (bProto C I J b t p n fp) (n - j) (.send .none) s''
theorem GAt.frame (x : GAt prog w A a g C I J b t p n fp j s) {h' : Heap} {tk : Nat} (ha : ∀ o, s.heap.get? a = some o → h'.get? a = some o)
    (hk : ∀ x, fp x → ∀ o, s.heap.get? x = some o → h'.get? x = some o) : GAt prog w A a g C I J b t p n fp j { s with heap := h', toks := tk } :=
  ⟨let ⟨o, nm, qn, ho, r⟩ := x.1; ⟨o, nm, qn, ha o ho, r⟩, let ⟨gs, hgs, hgo⟩ := x.2; ⟨gs, hgs, fun s'' hal => hgo s'' fun y hy o e => hal y hy o (hk y hy o e)⟩⟩
theorem gen_next_item {Q : Option Value → Shared → Prop} (hh : A.handled = none) (hroom : A.depth < recursionLimit) (hl : s.heap.NoLimit) (hj : j < n)
    (haC : a ≠ C) (haI : a ≠ I) (haJ : a ≠ J) (st : GAt prog w A a g C I J b t p n fp j s)
    (hQ : ∀ v s', (∃ c u, b[p + j]? = some c ∧ v = .int (c.toNat : Int) u) → GAt prog w A a g C I J b t p n fp (j + 1) s' → IsBytesIter s'.heap J b t (p + (j + 1)) → Mv C I J s s' → Q (some v) s') :
    wpAny (model prog w) A (pyNext (.ref a)) Q E s := by
  obtain ⟨hg, gs, hgs, hgo⟩ := st
  obtain ⟨m, hm⟩ : ∃ m, n - j = m + 1 := ⟨n - j - 1, by omega⟩
  rw [hm] at hgo
  refine wpAny_pyNext_genexpQ (P := fun n' s₀ s₁ => bEnd C I J b t p n n' s₀ s₁) hh hl hroom hg hgs (hgo _ fun _ _ _ e => e) (fun v s₁ gs' hbare hv => ?_) (fun s₁ hp h' hk => ?_)
  · obtain ⟨hval, ⟨h₁, tk₁, rfl, hk₁⟩, hit, hkap⟩ := hv
    have hidx : n - 1 - (m + 1 - 1) = j := by omega
    rw [hidx] at hval hit
    refine hQ v _ hval ⟨let ⟨o, nm, qn, ho, r⟩ := hg; ⟨o, nm, qn, hk₁ a o haC (by simp [haI, haJ]) ho, r⟩, gs', setGen_self (gs := .running) (setGen_self hgs), fun s'' hal => ?_⟩ hit
      ⟨fun x o h1 h2 h3 e => hk₁ x o h1 (by simp [h2, h3]) e, fun hB => bare_setGen (bare_setGen hB rfl) hbare, rfl⟩
    have e : n - (j + 1) = m := by omega
    rw [e]
    exact hkap s'' hal
  · exact absurd hp.1 (Nat.succ_ne_zero m)
theorem gen_next_done {Q : Option Value → Shared → Prop} (hh : A.handled = none) (hroom : A.depth < recursionLimit) (hl : s.heap.NoLimit)
    (st : GAt prog w A a g C I J b t p n fp n s)
    (hQ : ∀ s', IsBytesIter s'.heap J b t (p + n) → Mv C I J s s' → Q none s') :
    wpAny (model prog w) A (pyNext (.ref a)) Q E s := by
  obtain ⟨hg, gs, hgs, hgo⟩ := st
  rw [Nat.sub_self] at hgo
  refine wpAny_pyNext_genexpQ (P := fun n' s₀ s₁ => bEnd C I J b t p n n' s₀ s₁) hh hl hroom hg hgs (hgo _ fun _ _ _ e => e) (fun v s₁ gs' hbare hv => ?_) (fun s₁ hp h' hk => ?_)
  · obtain ⟨_, _, _, hkap⟩ := hv
    exact False.elim (hkap s₁ fun _ _ _ e => e)
  · obtain ⟨_, ⟨h₁, tk₁, rfl, hk₁⟩, hit⟩ := hp
    refine hQ _ (let ⟨o, ho, r⟩ := hit; ⟨o, hk _ o ho, r⟩) ⟨fun x o h1 h2 h3 e => hk x o (hk₁ x o h1 (by simp [h2, h3]) e), fun hB => bare_setGen (bare_setGen hB rfl) rfl, rfl⟩
/-- the loop of list.extend over the generator -/
theorem ext_loop {R : Result → Shared → Prop} {D : Addr} {res : Value} (hh : A.handled = none) (hroom : A.depth < recursionLimit) (haC : a ≠ C) (haI : a ≠ I) (haJ : a ≠ J) (haD : a ≠ D) (hDC : D ≠ C) (hDI : D ≠ I) (hDJ : D ≠ J)
    (hDf : ¬ fp D) (hlC : cStatics ≠ C ∧ cStatics ≠ I ∧ cStatics ≠ J ∧ cStatics ≠ D) :
    ∀ (k j : Nat) (s : Shared) (acc : Array Value) (e : Nat), n - j = k → j ≤ n → s.heap.NoLimit → GAt prog w A.in1 a g C I J b t p n fp j s → IsBytesIter s.heap J b t (p + j) →
      s.heap.get? D = some { cls := .type "list", dict := none, data := .seq acc e, slots := #[] } → acc.size + (n - j) ≤ sizeLine →
      (∀ s' acc' e', IsBytesIter s'.heap J b t (p + n) → s'.heap.get? D = some { cls := .type "list", dict := none, data := .seq acc' e', slots := #[] } →
        (∃ vs : List Value, acc'.toList = acc.toList ++ vs ∧ vs.length = n - j ∧ ∀ q v, vs[q]? = some v → ∃ c u, b[p + j + q]? = some c ∧ v = .int (c.toNat : Int) u) →
        (∀ x o, x ≠ D → x ≠ C → x ≠ I → x ≠ J → s.heap.get? x = some o → s'.heap.get? x = some o) → (AllBare s.gens → AllBare s'.gens) → s'.os = s.os → R (.ok (.ret res)) s') →
      codeAny (model prog w) A (.builtin "list.extend.loop" ⟨[.ref D, .ref a, res], []⟩) R s := by
  intro k
  induction k with
  | zero =>
    intro j s acc e hk hj hl st hb hD hz hR
    have hjn : j = n := by omega
    subst hjn
    refine codeAny_builtin PySem.F.entry_extend_loop ?_
    rw [Around.under_plainId PySem.F.plain_extend_loop _]
    show wpAny _ A.in1 (pyNext (.ref a) >>= _) _ _ s
    refine wpAny_bind (gen_next_done (A := A.in1) hh hroom hl st fun s' hb' mv => ?_)
    exact wpAny_pure (hR s' acc e hb' (mv.heap D _ hDC hDI hDJ hD) ⟨[], by simp, by simp, by simp⟩ (fun x o _ h2 h3 h4 e => mv.heap x o h2 h3 h4 e) mv.bare mv.os)
  | succ k ih =>
    intro j s acc e hk hj hl st hb hD hz hR
    have hlt : j < n := by omega
    refine codeAny_builtin PySem.F.entry_extend_loop ?_
    rw [Around.under_plainId PySem.F.plain_extend_loop _]
    show wpAny _ A.in1 (pyNext (.ref a) >>= _) _ _ s
    refine wpAny_bind (gen_next_item (A := A.in1) hh hroom hl hlt haC haI haJ st fun v s' hv st' hb' mv => ?_)
    have hD' := mv.heap D _ hDC hDI hDJ hD
    show wpAny _ A.in1 (updateSeq D (·.push v) >>= _) _ _ _
    have oth : ∀ x o, x ≠ D → s'.heap.get? x = some o → (s'.heap.update D (Obj.mapSeq (·.push v))).get? x = some o := fun x o hx e => (Heap.get?_update_other _ _ (Ne.symm hx)).trans e
    have hl' : (s'.heap.update D (Obj.mapSeq (·.push v))).NoLimit := by
      obtain ⟨mc, hns, hnn⟩ := hl
      exact ⟨mc, hns.at fun o e => oth _ o hlC.2.2.2 (mv.heap _ o hlC.1 hlC.2.1 hlC.2.2.1 e), hnn⟩
    refine wpAny_bind ?_
    refine wpAny_updateSeq hD' rfl (wpAny_pure ⟨plainId_quiet PySem.F.plain_extend_loop _, ih (j + 1) { s' with heap := s'.heap.update D (Obj.mapSeq (·.push v)) } (acc.push v) _ (by omega) hlt hl'
      (st'.frame (tk := s'.toks) (fun o e => oth a o haD e) fun x hx o e => oth x o (fun h => hDf (h ▸ hx)) e) (let ⟨o, ho, r⟩ := hb'; ⟨o, oth J o hDJ.symm ho, r⟩) (Heap.get?_update_self _ hD' rfl) (by rw [Array.size_push]; omega) fun s'' acc' e' hb'' hD'' hvs hk'' hB'' hos'' => ?_⟩)
      (by omega) (by show (acc.push v).size ≤ sizeLine + 1; rw [Array.size_push]; omega)
    obtain ⟨vs, h1, h2, h3⟩ := hvs
    refine hR s'' acc' e' hb'' hD'' ⟨v :: vs, by rw [h1]; simp, by simp; omega, fun q x hq => ?_⟩ (fun x o q1 q2 q3 q4 e => hk'' x o q1 q2 q3 q4 (oth x o q1 (mv.heap x o q2 q3 q4 e))) (fun hB => hB'' (mv.bare hB)) (hos''.trans mv.os)
    cases q with
    | zero => simp at hq; subst hq; simpa using hv
    | succ q =>
      have := h3 q x (by simpa using hq)
      rw [show p + j + (q + 1) = p + (j + 1) + q by omega]
      exact this
end
end Mine
end
section
set_option maxRecDepth 100000
namespace Mine
open PySem PySem.W PySem.Calls PySem.Spec PyProof.Rows PySem.W.KBw
theorem neA {a b : Nat} (h : a ≠ b) : @Ne Addr a b := h
section
variable {M : Model} {A : Around} {E : Value → Shared → Prop} {s : Shared}
theorem genexprCode_any {env : Env} {c P : Addr} {ps : Array Value} {pos : Pos} {qualname : PySem.Str} {scope : Scope} {Q : Value → Shared → Prop} (hc : env.code = .ref c) (hok : s.heap.IsCode c P ps) (htab : s.heap.TableAt c P ps)
    (hQ : ∀ code h' tk more, Heap.ExtBut P s.heap h' → s.heap.objs.size ≤ h'.objs.size → h'.IsCode c P (ps ++ more) → h'.TableAt c P (ps ++ more) → Q code { s with heap := h', toks := tk }) :
    wpAny M A (genexprCode env pos qualname scope) Q E s := by
  cases hnf : codeAmong pos ps.toList with
  | none =>
    exact wpAny_genexprCodeX hc hok htab hnf fun c' h' tk hx hge hlt hcode _ ht _ => hQ _ h' tk _ hx (by omega) hcode ht
  | some cv =>
    obtain ⟨o, vs, file, tf, flags, tg, inF, text, tt, op, ho, hd, h11, h2, h7, h9, h10, hop, hpd, htr, hne⟩ := id hok
    unfold genexprCode codeAt
    rw [hc, if_neg (show ¬ ((Value.ref c == Value.none) = true) from Bool.false_ne_true)]
    refine wpAny_bind (wpAny_fieldsOf ho hd ?_)
    rw [h11]
    refine wpAny_bind (wpAny_fieldsOf hop hpd ?_)
    rw [hnf]
    exact wpAny_pure (hQ cv s.heap s.toks #[] (Heap.ExtBut.refl _ _) (Nat.le_refl _) (by simpa using hok) (by simpa using htab))
end
section
variable {prog : Program} {w : World} {A : Around} {E : Value → Shared → Prop} {s : Shared} {b : Array UInt8} {t : Tok} {D J Cd P c bm : Nat} {mg mb : PySem.Str → Option Value} {ob : Obj} {ps : Array Value}
/-- what has been made of a generator over n octets from place p on -/
structure GMade (prog : Program) (w : World) (A : Around) (D J P c : Nat) (ps : Array Value) (b : Array UInt8) (t : Tok) (p n : Nat) (s s' : Shared) (a g C I : Nat) : Prop where
  gat : GAt prog w A a g C I J b t p n (fun x => x ≠ D) 0 s'
  it : IsBytesIter s'.heap J b t p
  lim : s'.heap.NoLimit
  keep : ∀ x o, x ≠ P → s.heap.get? x = some o → s'.heap.get? x = some o
  code : ∃ more, s'.heap.IsCode c P (ps ++ more) ∧ s'.heap.TableAt c P (ps ++ more)
  bare : AllBare s.gens → AllBare s'.gens
  os : s'.os = s.os
  newC : s.heap.objs.size ≤ C
  newI : s.heap.objs.size ≤ I
  newa : s.heap.objs.size ≤ a
  aC : a ≠ C
  aI : a ≠ I
  CI : C ≠ I
theorem gen_make {env : Env} {scope : Scope} {iter : Expr} {x : PySem.Str} {px p1 p2 p3 pos : Pos} {p n : Nat} {Q : Value → Shared → Prop}
    (hh : A.handled = none) (hroom : A.depth < recursionLimit) (hcode : env.code = .ref c) (hg : env.globals = mainGlobals)
    (hco : scope.isCoroutine = false) (hclos : closureFor scope env = pure [(PySem.Str.ofString "data_iter", Cd)]) (hcell : ∀ y ∈ scope.names, y.2 ≠ .cell)
    (h0 : scope.names.lookup (".0" : PySem.Str) = some NameKind.local) (hx : scope.names.lookup x = some .local) (hkind : scope.kind = .function)
    (hx1 : scope.names.lookup (PySem.Str.ofString "next") = some .globalImplicit) (hx2 : scope.names.lookup (PySem.Str.ofString "data_iter") = some .free)
    (hs : ∀ x, genFold iter env x = pure x)
    (hlim : s.heap.NoLimit) (BM : BMod s.heap mainGlobals mg bm ob) (G : Glb mg mb Cd J s.heap) (hok : s.heap.IsCode c P ps) (htab : s.heap.TableAt c P ps) (hP : P ≠ cStatics)
    (hm : mg (PySem.Str.ofString "next") = none) (hv : mb (PySem.Str.ofString "next") = some (.builtin "next"))
    (hit : IsBytesIter s.heap J b t p) (hn : ∀ j, j < n → ∃ c, b[p + j]? = some c) (hnz : (n : Int) < 2 ^ 62)
    (dD : D ≠ mainGlobals ∧ D ≠ builtinsNs ∧ D ≠ Cd ∧ D ≠ J) (dJ : J ≠ mainGlobals ∧ J ≠ builtinsNs ∧ J ≠ Cd ∧ J ≠ P) (dD2 : D < s.heap.objs.size)
    (h : wpAny (model prog w) A (eval iter env) (fun xv s₁ => ∃ r t₁ t₂ t₃, xv = .ref r ∧ IsRange s₁.heap r 0 (n : Int) 1 t₁ t₂ t₃ ∧ (∀ x o, s.heap.get? x = some o → s₁.heap.get? x = some o) ∧ s.heap.objs.size ≤ s₁.heap.objs.size ∧ s₁.gens = s.gens ∧ s₁.os = s.os) E s)
    (hQ : ∀ a g C I s', GMade prog w A.in1 D J P c ps b t p n s s' a g C I → Q (.ref a) s') :
    wpAny (model prog w) A (eval (.GeneratorExp (.Call (.Name (PySem.Str.ofString "next") p1) [.Name (PySem.Str.ofString "data_iter") p2] [] p3) [⟨.Name x px, iter, [], 0⟩] scope pos) env) Q E s := by
  refine wpAny_GeneratorExp_make hco hclos hcell h0 hkind hroom (wpAny_mono h (fun xv s₁ h₁ => ?_) fun _ _ e => e) hs
  obtain ⟨r, t₁, t₂, t₃, rfl, hr, k1, z1, g1, o1⟩ := h₁
  have hrs : Builtin.Range.rangeSize 0 (n : Int) 1 = (n : Int) := by rw [rangeSize_nat]; omega
  have hsmall : Builtin.Range.small 0 (n : Int) 1 = true := by
    unfold Builtin.Range.small
    rw [hrs]
    simp [Builtin.Range.rangeFitsLong]
    omega
  refine wpAny_pyIter_range hr hsmall ?_
  rw [hrs]
  have k2 : ∀ x o, s.heap.get? x = some o → (s₁.heap.push { cls := .type "range_iterator", data := .fields #[rawInt 0, rawInt (n : Int), rawInt 1] }).get? x = some o := fun x o e => Heap.get?_push_of_some _ (k1 x o e)
  have hI : IsRangeIter (s₁.heap.push { cls := .type "range_iterator", data := .fields #[rawInt 0, rawInt (n : Int), rawInt 1] }) s₁.heap.objs.size 0 (n : Int) 1 := Heap.get?_push_size _ rfl
  have z2 : (s₁.heap.push { cls := .type "range_iterator", data := .fields #[rawInt 0, rawInt (n : Int), rawInt 1] }).objs.size = s₁.heap.objs.size + 1 := Heap.size_push _ _
  generalize hH : s₁.heap.push { cls := .type "range_iterator", data := .fields #[rawInt 0, rawInt (n : Int), rawInt 1] } = H2 at k2 hI z2 ⊢
  refine ⟨hlim.keeps k2, ?_⟩
  refine genexprCode_any hcode (hok.keeps k2) (htab.keeps k2) fun code h₃ tk more hx₃ hz₃ hok₃ htab₃ => ?_
  dsimp only at hx₃ hz₃ ⊢
  have BM₃ : BMod h₃ mainGlobals mg bm ob := (BM.keeps k2).extBut (htab.keeps k2) hx₃
  rw [hg]
  refine wpAny_builtinsFor BM₃.ns BM₃.name BM₃.ne BM₃.obj BM₃.cls BM₃.dict BM₃.data ?_
  intro h' hn' hs'
  dsimp only at hn' hs' ⊢
  -- addresses
  have zP : P < s.heap.objs.size := hok.lt.2
  have zJ : J < s.heap.objs.size := let ⟨_, ho, _⟩ := hit; Heap.lt_size ho
  have zz : h'.objs.size = h₃.objs.size + 1 := by rw [hs'.1, Heap.size_push]
  have gP : mainGlobals ≠ P ∧ bm ≠ P := BM.apart htab
  have hz₃' : s₁.heap.objs.size + 1 ≤ h₃.objs.size := by rw [← z2]; exact hz₃
  have zmg := ltN (a := mainGlobals) (b := s.heap.objs.size) G.g.lt
  have zmb := ltN (a := builtinsNs) (b := s.heap.objs.size) G.b.lt
  have zCd : Cd < s.heap.objs.size := G.cell.lt
  have kP : ∀ x o, x ≠ P → s.heap.get? x = some o → h'.get? x = some o := fun x o hx e =>
    hs'.extBut x o (Nat.ne_of_lt (Nat.lt_of_lt_of_le (Heap.lt_size e) (by omega))) (Heap.get?_push_of_some _ (hx₃ x o hx (k2 x o e)))
  have nsP : ∀ {a m}, s.heap.Ns a m → a ≠ P := fun {a m} hns e => by
    obtain ⟨o, es, ep, ho, hd, _⟩ := hns
    rw [e, htab.2] at ho; cases ho; cases hd
  have cellP : Cd ≠ P := fun e => by
    obtain ⟨o, ho, hd⟩ := G.cell
    rw [e, htab.2] at ho; cases ho; cases hd
  have hI' : IsRangeIter h' s₁.heap.objs.size 0 (n : Int) 1 := by
    refine hs'.extBut _ _ (neA (by omega)) (Heap.get?_push_of_some _ (hx₃ _ _ (neA (by omega)) hI))
  refine hQ h'.objs.size s₁.gens.size h₃.objs.size s₁.heap.objs.size _ ⟨?_, ?_, ?_, ?_, ⟨more, ?_, ?_⟩, ?_, ?_, ?_, ?_, ?_, ?_, ?_, ?_⟩
  · refine ⟨⟨_, _, _, Heap.get?_push_size _ rfl, rfl, rfl, rfl⟩, _, Array.getElem?_push_size .., fun s'' hal => ⟨rfl, ?_⟩⟩
    have hal' : ∀ x, x ≠ D → ∀ o, h'.get? x = some o → s''.heap.get? x = some o := fun x hx o e => hal x hx o (Heap.get?_push_of_some _ e)
    refine seg_start (A := A.in1.in1) (mg := mg) (mb := mb) (Cd := Cd) hh hg hkind hco hx hx1 hx2 (by simp) hm hv hn ?_ ?_ ?_ ?_ ?_ ?_ ?_ ?_ ?_ ?_ ?_ ?_ s'' s'' (fun y => if y = ".0" then some (.ref s₁.heap.objs.size) else none) ?_ ?_ ?_ ?_ (GenSince.refl _ _ _)
    · exact neA (by omega)
    · exact neA (by omega)
    · exact neA (by omega)
    · exact Ne.symm dD.1
    · exact Ne.symm dD.2.1
    · exact Ne.symm dD.2.2.1
    · show s₁.heap.objs.size ≠ D
      exact neA (by omega)
    · exact Ne.symm dD.2.2.2
    · show h₃.objs.size ≠ D
      exact neA (by omega)
    · exact ⟨neA (by omega), Ne.symm dJ.1, neA (by omega)⟩
    · exact ⟨neA (by omega), Ne.symm dJ.2.1, neA (by omega)⟩
    · exact ⟨neA (by omega), Ne.symm dJ.2.2.1, neA (by omega)⟩
    · exact hal' _ (neA (by omega)) _ hI'
    · obtain ⟨o, ho, rr⟩ := hit
      exact ⟨o, hal' _ (Ne.symm dD.2.2.2) o (kP J o dJ.2.2.2 ho), rr⟩
    · exact hn'.at fun o e => hal' _ (neA (by omega)) o e
    · exact ⟨G.g.at fun o e => hal' _ (Ne.symm dD.1) o (kP _ o (nsP G.g) e), G.b.at fun o e => hal' _ (Ne.symm dD.2.1) o (kP _ o (nsP G.b) e), let ⟨o, ho, hd⟩ := G.cell; ⟨o, hal' _ (Ne.symm dD.2.2.1) o (kP _ o cellP ho), hd⟩⟩
  · obtain ⟨o, ho, rr⟩ := hit
    exact ⟨o, Heap.get?_push_of_some _ (kP J o dJ.2.2.2 ho), rr⟩
  · obtain ⟨mc, hns, hnn⟩ := hlim
    exact ⟨mc, hns.at fun o e => Heap.get?_push_of_some _ (kP _ o (Ne.symm hP) e), hnn⟩
  · exact fun x o hx e => Heap.get?_push_of_some _ (kP x o hx e)
  · have zc := hok₃.lt
    exact (((hok₃.push _).extBut hs'.extBut (Nat.ne_of_lt zc.1) (Nat.ne_of_lt zc.2)).push _)
  · have zc := hok₃.lt
    exact (((htab₃.push _).extBut hs'.extBut (Nat.ne_of_lt zc.1) (Nat.ne_of_lt zc.2)).push _)
  · intro hB
    exact AllBare.push (g1 ▸ hB) rfl
  · exact o1
  all_goals first | omega | exact neA (by omega)
end
end Mine
end
section
set_option maxRecDepth 100000
namespace Mine
open PySem PySem.W PySem.Calls PySem.Spec PyProof.Rows PySem.W.KBw
section
variable {prog : Program} {w : World} {A : Around} {E : Value → Shared → Prop} {s : Shared} {b : Array UInt8} {t : Tok} {D J : Nat} {a g C I p n : Nat}
theorem call_extend_gen {Q : Value → Shared → Prop} {acc : Array Value} {e : Nat} (hh : A.handled = none) (hroom : A.depth < recursionLimit) (haC : a ≠ C) (haI : a ≠ I) (haJ : a ≠ J) (haD : a ≠ D) (hDC : D ≠ C) (hDI : D ≠ I) (hDJ : D ≠ J)
    (hlC : cStatics ≠ C ∧ cStatics ≠ I ∧ cStatics ≠ J ∧ cStatics ≠ D) (hl : s.heap.NoLimit) (st : GAt prog w A.in1 a g C I J b t p n (fun x => x ≠ D) 0 s) (hb : IsBytesIter s.heap J b t p)
    (hD : s.heap.get? D = some { cls := .type "list", dict := none, data := .seq acc e, slots := #[] }) (hz : acc.size + n ≤ sizeLine) (hn0 : 0 < n)
    (hQ : ∀ s' acc' e', IsBytesIter s'.heap J b t (p + n) → s'.heap.get? D = some { cls := .type "list", dict := none, data := .seq acc' e', slots := #[] } →
        (∃ vs : List Value, acc'.toList = acc.toList ++ vs ∧ vs.length = n ∧ ∀ q v, vs[q]? = some v → ∃ c u, b[p + q]? = some c ∧ v = .int (c.toNat : Int) u) →
        (∀ x o, x ≠ D → x ≠ C → x ≠ I → x ≠ J → s.heap.get? x = some o → s'.heap.get? x = some o) → (AllBare s.gens → AllBare s'.gens) → s'.os = s.os → Q .none s') :
    wpAny (model prog w) A (call (.builtin "list.extend") [.ref D, .ref a]) Q E s := by
  have hT : s.TypeIs (.ref D) "list" := ⟨_, hD, rfl⟩
  have hTa : s.TypeIs (.ref a) "generator" := st.1.typeIs
  have hfin : wpAny (model prog w) A.in1 (Builtin.«list.extend» ⟨[.ref D, .ref a], []⟩) (fun fin s' => match fin with | .done f => wants Q E (.ok f) s' | .again c' => c'.quiet = true ∧ codeAny (model prog w) A c' (wants Q E) s') (fun e s' => wants Q E (.error e) s') s := by
    show wpAny _ A.in1 (Builtin.List.listExtendWith (.ref D) (.ref a) .none) _ _ s
    unfold Builtin.List.listExtendWith
    refine wpAny_bind (wpAny_typeOf hTa ?_)
    have h1 : Builtin.List.listSameRef (.ref D) (.ref a) = false := by simp [Builtin.List.listSameRef, Ne.symm haD]
    have h2 : (Value.type "generator" == Value.type "list") = false := by decide
    have h3 : (Value.type "generator" == Value.type "tuple") = false := by decide
    simp only [h1, h2, h3, Bool.or_false, Bool.false_eq_true, if_false]
    refine wpAny_bind (wpAny_pyIter_gen st.1 ?_)
    refine wpAny_bind (wpAny_holding ?_)
    unfold Builtin.List.listLengthHint
    refine wpAny_bind (wpAny_specialOf hTa PySem.F.gen_no_len ?_)
    show wpAny _ A.in1 (specialOf (Value.ref a) (PySem.Str.ofString "__length_hint__") >>= _) _ _ _
    refine wpAny_bind (wpAny_specialOf hTa PySem.F.gen_no_hint ?_)
    refine wpAny_pure ?_
    show wpAny _ A.in1 (rule "list.extend.makes-room" >>= fun _ => Builtin.List.listTouch (.ref D) >>= fun _ =>
      again (.builtin "list.extend.loop" ⟨[.ref D, .ref a, .none], []⟩)) _ _ _
    refine wpAny_bind (wpAny_rule ?_)
    refine wpAny_bind ?_
    show wpAny _ A.in1 (updateSeq D (·.push .none) >>= fun _ => updateSeq D (·.pop)) _ _ _
    refine wpAny_bind (wpAny_updateSeq hD rfl ?_ (by omega) (by show (acc.push .none).size ≤ sizeLine + 1; rw [Array.size_push]; omega))
    have hS₂ := Heap.get?_update_self (Obj.mapSeq (·.push Value.none)) hD rfl
    refine wpAny_updateSeq hS₂ rfl ?_ (by show (acc.push .none).size ≤ sizeLine; rw [Array.size_push]; omega) (by show ((acc.push .none).pop).size ≤ sizeLine + 1; simp; omega)
    have hS₃ := Heap.get?_update_self (Obj.mapSeq (·.pop)) hS₂ rfl
    have oth : ∀ x o, x ≠ D → s.heap.get? x = some o → ((s.heap.update D (Obj.mapSeq (·.push Value.none))).update D (Obj.mapSeq (·.pop))).get? x = some o :=
      fun x o hx e => (Heap.get?_update_other _ _ (Ne.symm hx)).trans ((Heap.get?_update_other _ _ (Ne.symm hx)).trans e)
    have hS₄ : ∃ e', ((s.heap.update D (Obj.mapSeq (·.push Value.none))).update D (Obj.mapSeq (·.pop))).get? D = some { cls := .type "list", dict := none, data := .seq acc e', slots := #[] } := by
      have q := hS₃
      simp only [Obj.mapSeq, Array.pop_push] at q
      exact ⟨_, q⟩
    obtain ⟨e', hS₄⟩ := hS₄
    generalize hH : (s.heap.update D (Obj.mapSeq (·.push Value.none))).update D (Obj.mapSeq (·.pop)) = H at oth hS₄ ⊢
    refine wpAny_pure ⟨plainId_quiet PySem.F.plain_extend_loop _, ext_loop (A := A) hh hroom haC haI haJ haD hDC hDI hDJ (fun h => h rfl) hlC n 0 { s with heap := H } acc e' rfl (Nat.zero_le _)
      (let ⟨mc, hns, hnn⟩ := hl; ⟨mc, hns.at fun o e => oth _ o hlC.2.2.2 e, hnn⟩) (st.frame (fun o e => oth a o haD e) fun x hx o e => oth x o hx e) (let ⟨o, ho, r⟩ := hb; ⟨o, oth J o hDJ.symm ho, r⟩) hS₄ (by omega) fun s' acc' e'' hb' hD' hvs hk hB hos => ?_⟩
    refine hQ s' acc' e'' hb' hD' (by simpa using hvs) (fun x o h1 h2 h3 h4 e => hk x o h1 h2 h3 h4 (oth x o h1 e)) hB hos
  exact wpAny_call (codeAny_call_builtin PySem.F.slot_list_extend.plain PySem.F.entry_list_extend (PySem.F.slot_list_extend.check _ _ _ _ _ _ _ _ hT (PySem.F.args_list_extend_2 _ _) hfin))
end
end Mine
end
section
set_option maxRecDepth 100000
namespace Mine
open PySem PySem.W PySem.Calls PySem.Spec PyProof.Rows PySem.W.KBw
/-- octets as ints -/
def oi (l : List UInt8) : List Int := l.map fun c => (c.toNat : Int)
theorem oi_app (l m : List UInt8) : oi (l ++ m) = oi l ++ oi m := List.map_append ..
theorem oi_length (l : List UInt8) : (oi l).length = l.length := List.length_map ..
/-- run lengths told: none where the row is cut off within a piece -/
def dec : Nat → List UInt8 → Option (List UInt8)
  | 0, _ => none
  | _ + 1, [] => some []
  | k + 1, x :: r =>
    if x.toNat = 128 then some []
    else if x.toNat < 128 then (if r.length < x.toNat + 1 then none else (dec k (r.drop (x.toNat + 1))).map fun o => r.take (x.toNat + 1) ++ o)
    else match r with
      | [] => none
      | y :: r' => (dec k r').map fun o => List.replicate (257 - x.toNat) y ++ o
theorem ints_of_pts {b : Array UInt8} {p : Nat} : ∀ {n : Nat} {vs : List Value}, vs.length = n → (∀ q v, vs[q]? = some v → ∃ c u, b[p + q]? = some c ∧ v = .int (c.toNat : Int) u) → IntsAre vs (oi ((b.toList.drop p).take n)) := by
  intro n
  induction n generalizing p with
  | zero =>
    intro vs hl _
    cases vs with
    | nil => exact .nil
    | cons _ _ => cases hl
  | succ n ih =>
    intro vs hl h
    cases vs with
    | nil => cases hl
    | cons v vs =>
      obtain ⟨c, u, hc, rfl⟩ := h 0 v rfl
      have hc' : b.toList[p]? = some c := by simpa using hc
      have hp : p < b.toList.length := by
        rcases Nat.lt_or_ge p b.toList.length with h' | h'
        · exact h'
        · rw [List.getElem?_eq_none h'] at hc'; cases hc'
      have e : b.toList.drop p = c :: b.toList.drop (p + 1) := by
        rw [List.drop_eq_getElem_cons hp]
        rw [List.getElem?_eq_getElem hp] at hc'
        rw [Option.some.inj hc']
      rw [e, List.take_succ_cons]
      refine IntsAre.cons _ _ (ih (by simpa using hl) fun q v hq => ?_)
      have := h (q + 1) v (by simpa using hq)
      rw [show p + 1 + q = p + (q + 1) by omega]
      exact this
theorem ints_rep {c : UInt8} {u : Tok} : ∀ n : Nat, IntsAre (List.replicate n (.int (c.toNat : Int) u)) (oi (List.replicate n c))
  | 0 => .nil
  | n + 1 => by
    rw [List.replicate_succ, List.replicate_succ]
    exact .cons _ _ (ints_rep n)
section
variable {prog : Program} {w : World} {A : Around} {E : Value → Shared → Prop} {s : Shared}
theorem mul_one_list {l : Addr} {v : Value} {k : Nat} {x : Int} {u : Tok} {Q : Value → Shared → Prop} (ho : s.heap.get? l = some { cls := .type "list", dict := none, data := .seq #[v] k, slots := #[] }) (hlo : 0 ≤ x) (hx : x ≤ 256)
    (h : Q (.ref s.heap.objs.size) { s with heap := s.heap.push { cls := .type "list", data := .seq (List.replicate x.toNat v).toArray } }) : wpAny (model prog w) A (binaryOp .Mult (.ref l) (.int x u)) Q E s := by
  refine wpAny_binaryOp_repeat_ref (T := "list") (U := "int") (by decide) ⟨_, ho, rfl⟩ (fun s' => typeIs_int s' x u) noFill_list_mul F.fills_int_mul F.slot_int_rmul repeat_list F.slot_int_index.lookup
    (call_meets F.slot_int_rmul (typeIs_int s x u) F.entry_int_rmul (F.args_int_rmul_2 _ _) (lm_int_rmul_list_any x u l #[v] k none #[])
      ⟨ho, rfl, ⟨_, ho, rfl⟩, call_meets F.slot_list_mul ⟨_, ho, rfl⟩ F.entry_list_mul (F.args_list_mul_2 _ _)
        (lm_list_mul_any l #[v] k none #[] x u (by simp [Builtin.List.listFitsIndex]; omega) (by simp; omega) (by simp [Builtin.List.listTooLong, sizeLine]; omega))
        ⟨ho, ?_⟩⟩)
  rw [listMul_foldl_if]
  have e : (List.replicate x.toNat (#[v] : Array Value).toList).flatten = List.replicate x.toNat v := by simp
  rw [e]
  exact h
theorem extend_list {l r : Addr} {its its2 : Array Value} {n n2 : Nat} {Q : Value → Shared → Prop} (hl : s.heap.get? l = some { cls := .type "list", dict := none, data := .seq its n, slots := #[] })
    (hr : s.heap.get? r = some { cls := .type "list", dict := none, data := .seq its2 n2, slots := #[] }) (hz : its.size + its2.size ≤ sizeLine)
    (h : ∀ h' n', h'.get? l = some { cls := .type "list", dict := none, data := .seq (its ++ its2) n', slots := #[] } → Heap.SameBut l s.heap h' → Q .none { s with heap := h' }) :
    wpAny (model prog w) A (call (.builtin "list.extend") [.ref l, .ref r]) Q E s := by
  refine call_meets F.slot_list_extend ⟨_, hl, rfl⟩ F.entry_list_extend (F.args_list_extend_2 _ _) (AutoSeq1.list_extend_list_list_0 l its n r its2 n2 (extend_door hz) (by omega) (by omega)) ⟨hl, hr, ?_⟩
  exact h _ _ (Heap.get?_update_self (Obj.mapSeq fun x => x ++ its2) hl rfl) (Heap.SameBut.update ..)
end
end Mine
end
section
set_option maxRecDepth 100000
namespace Mine
theorem dec_cons (k : Nat) (x : UInt8) (r : List UInt8) : dec (k + 1) (x :: r) =
    if x.toNat = 128 then some []
    else if x.toNat < 128 then (if r.length < x.toNat + 1 then none else (dec k (r.drop (x.toNat + 1))).map fun o => r.take (x.toNat + 1) ++ o)
    else match r with
      | [] => none
      | y :: r' => (dec k r').map fun o => List.replicate (257 - x.toNat) y ++ o := by
  cases r <;> rfl
/-- more fuel does no harm -/
theorem dec_more : ∀ {k : Nat} {l r : List UInt8}, dec k l = some r → dec (k + 1) l = some r := by
  intro k
  induction k with
  | zero => intro l r h; cases h
  | succ k ih =>
    intro l r h
    cases l with
    | nil => simpa [dec] using h
    | cons x l =>
      rw [dec_cons] at h ⊢
      split at h
      · rename_i h1; rw [if_pos h1]; exact h
      · rename_i h1
        rw [if_neg h1]
        split at h
        · rename_i h2
          rw [if_pos h2]
          split at h
          · cases h
          · rename_i h3
            rw [if_neg h3]
            obtain ⟨o, ho, e⟩ := Option.map_eq_some_iff.mp h
            rw [ih ho, ← e]; rfl
        · rename_i h2
          rw [if_neg h2]
          cases l with
          | nil => cases h
          | cons y l =>
            obtain ⟨o, ho, e⟩ := Option.map_eq_some_iff.mp h
            show Option.map _ (dec (k + 1) l) = some r
            rw [ih ho, ← e]; rfl
/-- the row c tells t, whatever stands behind it -/
def Tells (c t : List UInt8) : Prop := ∀ k rest r, dec k rest = some r → ∃ k', dec k' (c ++ rest) = some (t ++ r)
theorem Tells.nil : Tells [] [] := fun k _ _ h => ⟨k, h⟩
theorem Tells.app {c t c' t' : List UInt8} (h : Tells c t) (h' : Tells c' t') : Tells (c ++ c') (t ++ t') := fun k rest r hr => by
  obtain ⟨k', h1⟩ := h' k rest r hr
  obtain ⟨k'', h2⟩ := h k' _ _ h1
  exact ⟨k'', by rw [List.append_assoc, List.append_assoc]; exact h2⟩
theorem Tells.run {x y : UInt8} (hx : 128 < x.toNat) : Tells [x, y] (List.replicate (257 - x.toNat) y) := fun k rest r hr => by
  refine ⟨k + 1, ?_⟩
  show dec (k + 1) (x :: y :: rest) = _
  rw [dec_cons, if_neg (by omega), if_neg (by omega)]
  show Option.map _ (dec k rest) = _
  rw [hr]; rfl
theorem Tells.lit {x : UInt8} {p : List UInt8} (hx : x.toNat < 128) (hp : p.length = x.toNat + 1) : Tells (x :: p) p := fun k rest r hr => by
  refine ⟨k + 1, ?_⟩
  show dec (k + 1) (x :: (p ++ rest)) = _
  rw [dec_cons, if_neg (by omega), if_pos hx, if_neg (by rw [List.length_append]; omega), ← hp, List.drop_left, List.take_left, hr]
  rfl
theorem Tells.whole {c t : List UInt8} (h : Tells c t) : ∃ k, dec k c = some t := by
  obtain ⟨k, e⟩ := h 1 [] [] rfl
  exact ⟨k, by simpa using e⟩
theorem Tells.ended {c t : List UInt8} (h : Tells c t) (tail : List UInt8) : ∃ k, dec k (c ++ 128 :: tail) = some t := by
  obtain ⟨k, e⟩ := h 1 (128 :: tail) [] (by rw [dec_cons, if_pos (by decide)])
  exact ⟨k, by simpa using e⟩
theorem dec_end (tail : List UInt8) : dec 1 (128 :: tail) = some [] := by rw [dec_cons, if_pos (by decide)]
end Mine
end
section
set_option maxRecDepth 100000
namespace Mine
open PySem PySem.W PySem.Calls PySem.Spec PyProof.Rows PySem.W.KBw
def theDef : Stmt := PySem.Challenge.pw_co0038_01.main.body.getD 1 (.Pass ⟨0, 0, 0, 0⟩)
def rlName : PySem.Str := match theDef with | .FunctionDef n _ _ _ _ _ _ _ _ _ => n | _ => ""
def rlParams : Arguments := match theDef with | .FunctionDef _ a _ _ _ _ _ _ _ _ => a | _ => default
def rlBody : List Stmt := match theDef with | .FunctionDef _ _ b _ _ _ _ _ _ _ => b | _ => []
def rlScope : Scope := match theDef with | .FunctionDef _ _ _ _ _ _ sc _ _ _ => sc | _ => default
def whBody : List Stmt := match rlBody.getD 2 (.Pass ⟨0, 0, 0, 0⟩) with | .While _ b _ _ => b | _ => []
def whTest : Expr := match rlBody.getD 2 (.Pass ⟨0, 0, 0, 0⟩) with | .While t _ _ _ => t | _ => default
abbrev rlEnv (L f c : Nat) : Env := envOfC rlName rlScope L f (.ref c)
/-- the names of the def, the text's own heap -/
structure Ct (mg mb : PySem.Str → Option Value) (bm : Nat) (ob : Obj) (L D J P c : Nat) (ps : Array Value) (h₀ : Heap) : Prop where
  hL : L = h₀.objs.size
  hD : L + 1 < D
  hJ : L + 1 < J
  DJ : D ≠ J
  lim : h₀.NoLimit
  g : h₀.Ns mainGlobals mg
  b : h₀.Ns builtinsNs mb
  bmod : BMod h₀ mainGlobals mg bm ob
  ok : h₀.IsCode c P ps
  tab : h₀.TableAt c P ps
  hP : P ≠ cStatics
  m1 : mg (PySem.Str.ofString "next") = none
  v1 : mb (PySem.Str.ofString "next") = some (.builtin "next")
  m2 : mg (PySem.Str.ofString "range") = none
  v2 : mb (PySem.Str.ofString "range") = some (.type "range")
  m3 : mg (PySem.Str.ofString "iter") = none
  v3 : mb (PySem.Str.ofString "iter") = some (.builtin "iter")
  m4 : mg (PySem.Str.ofString "bytes") = none
  v4 : mb (PySem.Str.ofString "bytes") = some (.type "bytes")
/-- the frame at a loop's head -/
structure LS (h₀ : Heap) (L D J P c : Nat) (ps : Array Value) (m : PySem.Str → Option Value) (acc : List UInt8) (h : Heap) : Prop where
  ns : h.Ns L m
  md : m (PySem.Str.ofString "decoded_array") = some (.ref D)
  keep : ∀ x o, x ≠ P → h₀.get? x = some o → h.get? x = some o
  code : ∃ more, h.IsCode c P (ps ++ more) ∧ h.TableAt c P (ps ++ more)
  cell : h.IsCell (L + 1) (some (.ref J))
  lst : ∃ vs n, h.get? D = some { cls := .type "list", dict := none, data := .seq (List.toArray vs) n, slots := #[] } ∧ IntsAre vs (oi acc)
section
variable {mg mb : PySem.Str → Option Value} {bm : Nat} {ob : Obj} {L D J P c : Nat} {ps : Array Value} {h₀ h h' : Heap} {m m' : PySem.Str → Option Value} {acc : List UInt8}
theorem Ct.lt (K : Ct mg mb bm ob L D J P c ps h₀) : P < L ∧ c < L ∧ @LT.lt Nat _ mainGlobals L ∧ @LT.lt Nat _ builtinsNs L ∧ @LT.lt Nat _ cStatics L :=
  ⟨K.hL ▸ K.ok.lt.2, K.hL ▸ K.ok.lt.1, K.hL ▸ ltN (a := mainGlobals) K.g.lt, K.hL ▸ ltN (a := builtinsNs) K.b.lt, let ⟨_, hns, _⟩ := K.lim; K.hL ▸ ltN (a := cStatics) hns.lt⟩
theorem Ct.nsP (K : Ct mg mb bm ob L D J P c ps h₀) {a : Addr} {m : PySem.Str → Option Value} (hns : h₀.Ns a m) : a ≠ P := fun e => by
  obtain ⟨o, es, ep, ho, hd, _⟩ := hns
  rw [e, K.tab.2] at ho; cases ho; cases hd
theorem LS.keeps (x : LS h₀ L D J P c ps m acc h) (hk : ∀ y o, h.get? y = some o → h'.get? y = some o) : LS h₀ L D J P c ps m acc h' :=
  ⟨x.ns.keeps hk, x.md, fun y o hy e => hk y o (x.keep y o hy e), let ⟨more, a, b⟩ := x.code; ⟨more, a.keeps hk, b.keeps hk⟩, x.cell.keeps hk, let ⟨vs, n, a, b⟩ := x.lst; ⟨vs, n, hk _ _ a, b⟩⟩
theorem LS.iter (K : Ct mg mb bm ob L D J P c ps h₀) (x : LS h₀ L D J P c ps m acc h) (hs : Heap.ExtBut J h h') : LS h₀ L D J P c ps m acc h' := by
  have z := K.lt
  have h1 := K.hJ
  have h2 := K.hL
  refine ⟨x.ns.extBut hs (neA (by omega)), x.md, fun y o hy e => hs y o (fun q => ?_) (x.keep y o hy e), let ⟨more, a, b⟩ := x.code; ⟨more, a.extBut hs (neA (by omega)) (neA (by omega)), b.extBut hs (neA (by omega)) (neA (by omega))⟩, ?_, let ⟨vs, n, a, b⟩ := x.lst; ⟨vs, n, hs _ _ K.DJ a, b⟩⟩
  · have := ltN (a := y) (Heap.lt_size e)
    have q' : @Eq Nat y J := q
    omega
  · obtain ⟨o, ho, hd⟩ := x.cell
    exact ⟨o, hs _ o (neA (by omega)) ho, hd⟩
theorem LS.store (K : Ct mg mb bm ob L D J P c ps h₀) (x : LS h₀ L D J P c ps m acc h) (hn : h'.Ns L m') (hm : m' (PySem.Str.ofString "decoded_array") = some (.ref D)) (hs : Heap.SameBut L h h') : LS h₀ L D J P c ps m' acc h' := by
  have z := K.lt
  have h1 := K.hD
  have h2 := K.hL
  have hs' := hs.extBut
  refine ⟨hn, hm, fun y o hy e => hs' y o (fun q => ?_) (x.keep y o hy e), let ⟨more, a, b⟩ := x.code; ⟨more, a.extBut hs' (neA (by omega)) (neA (by omega)), b.extBut hs' (neA (by omega)) (neA (by omega))⟩, ?_, let ⟨vs, n, a, b⟩ := x.lst; ⟨vs, n, hs' _ _ (neA (by omega)) a, b⟩⟩
  · have := ltN (a := y) (Heap.lt_size e)
    have q' : @Eq Nat y L := q
    omega
  · obtain ⟨o, ho, hd⟩ := x.cell
    exact ⟨o, hs' _ o (neA (by omega)) ho, hd⟩
theorem LS.list (K : Ct mg mb bm ob L D J P c ps h₀) (x : LS h₀ L D J P c ps m acc h) {acc' : List UInt8} {vs : List Value} {n : Nat} (hd : h'.get? D = some { cls := .type "list", dict := none, data := .seq (List.toArray vs) n, slots := #[] }) (hi : IntsAre vs (oi acc'))
    (hs' : Heap.ExtBut D h h') : LS h₀ L D J P c ps m acc' h' := by
  have z := K.lt
  have h1 := K.hD
  have h2 := K.hL
  refine ⟨x.ns.extBut hs' (neA (by omega)), x.md, fun y o hy e => hs' y o (fun q => ?_) (x.keep y o hy e), let ⟨more, a, b⟩ := x.code; ⟨more, a.extBut hs' (neA (by omega)) (neA (by omega)), b.extBut hs' (neA (by omega)) (neA (by omega))⟩, ?_, ⟨vs, n, hd, hi⟩⟩
  · have := ltN (a := y) (Heap.lt_size e)
    have q' : @Eq Nat y D := q
    omega
  · obtain ⟨o, ho, hd⟩ := x.cell
    exact ⟨o, hs' _ o (neA (by omega)) ho, hd⟩
theorem LS.gns (K : Ct mg mb bm ob L D J P c ps h₀) (x : LS h₀ L D J P c ps m acc h) : h.Ns mainGlobals mg := K.g.at fun o e => x.keep _ o (K.nsP K.g) e
theorem LS.bns (K : Ct mg mb bm ob L D J P c ps h₀) (x : LS h₀ L D J P c ps m acc h) : h.Ns builtinsNs mb := K.b.at fun o e => x.keep _ o (K.nsP K.b) e
theorem LS.limit (K : Ct mg mb bm ob L D J P c ps h₀) (x : LS h₀ L D J P c ps m acc h) : h.NoLimit := let ⟨mc, hns, hnn⟩ := K.lim; ⟨mc, hns.at fun o e => x.keep _ o (Ne.symm K.hP) e, hnn⟩
theorem LS.bmod (K : Ct mg mb bm ob L D J P c ps h₀) (x : LS h₀ L D J P c ps m acc h) : BMod h mainGlobals mg bm ob :=
  ⟨x.gns K, K.bmod.name, K.bmod.ne, x.keep _ _ (K.bmod.apart K.tab).2 K.bmod.obj, K.bmod.cls, K.bmod.dict, K.bmod.data⟩
theorem LS.glb (K : Ct mg mb bm ob L D J P c ps h₀) (x : LS h₀ L D J P c ps m acc h) : Glb mg mb (L + 1) J h := ⟨x.gns K, x.bns K, x.cell⟩
end
section
variable {M : Model} {A : Around} {E : Value → Shared → Prop} {s : Shared} {env : Env} {mg mb : PySem.Str → Option Value}
theorem nm_loc {x : PySem.Str} {pos : Pos} {v : Value} {m : PySem.Str → Option Value} {Q : Value → Shared → Prop} (hk : env.scope.kind = .function) (hl : env.kindOf x = some .local) (hns : s.heap.Ns env.locals m) (hv : m x = some v) (h : Q v s) (hd : (x == ("__debug__" : PySem.Str)) = false := by decide) :
    wpAny M A (eval (.Name x pos) env) Q E s := wpAny_Name (wpAny_loadName_local hk hl hns hv h) hd
theorem nm_cell {x : PySem.Str} {pos : Pos} {c : Addr} {v : Value} {Q : Value → Shared → Prop} (hk : env.scope.kind = .function) (hl : env.kindOf x = some .cell) (hc : env.cells.lookup x = some c) (hv : s.heap.IsCell c (some v)) (h : Q v s) (hd : (x == ("__debug__" : PySem.Str)) = false := by decide) :
    wpAny M A (eval (.Name x pos) env) Q E s := wpAny_Name (wpAny_loadName_cell hk hl hc hv h) hd
theorem nm_glob {x : PySem.Str} {pos : Pos} {v : Value} {Q : Value → Shared → Prop} (hk : env.scope.kind = .function) (hx : env.kindOf x = some .globalImplicit) (hg : s.heap.Ns env.globals mg) (hm : mg x = none) (hb : s.heap.Ns env.builtins mb) (hv : mb x = some v) (h : Q v s) (hd : (x == ("__debug__" : PySem.Str)) = false := by decide) :
    wpAny M A (eval (.Name x pos) env) Q E s := Name_function_global hk hx (loadGlobal_builtin hg hm hb hv h) hd
end
section
variable {L f c : Nat}
theorem rlk : (rlEnv L f c).scope.kind = .function := rfl
theorem k_next : (rlEnv L f c).kindOf (PySem.Str.ofString "next") = some .globalImplicit := rfl
theorem k_range : (rlEnv L f c).kindOf (PySem.Str.ofString "range") = some .globalImplicit := rfl
theorem k_iter : (rlEnv L f c).kindOf (PySem.Str.ofString "iter") = some .globalImplicit := rfl
theorem k_bytes : (rlEnv L f c).kindOf (PySem.Str.ofString "bytes") = some .globalImplicit := rfl
theorem k_di : (rlEnv L f c).kindOf (PySem.Str.ofString "data_iter") = some .cell := rfl
theorem k_data : (rlEnv L f c).kindOf (PySem.Str.ofString "data") = some .local := rfl
theorem k_da : (rlEnv L f c).kindOf (PySem.Str.ofString "decoded_array") = some .local := rfl
theorem k_len : (rlEnv L f c).kindOf (PySem.Str.ofString "length") = some .local := rfl
theorem k_run : (rlEnv L f c).kindOf (PySem.Str.ofString "run") = some .local := rfl
theorem c_di : (rlEnv L f c).cells.lookup (PySem.Str.ofString "data_iter") = some (L + 1) := rfl
theorem hpl : ((rlEnv L f c).scope.kind == .class || ((rlEnv L f c).scope.kind == .module && (rlEnv L f c).locals != (rlEnv L f c).globals)) = false := rfl
end
end Mine
end
section
set_option maxRecDepth 100000
namespace Mine
open PySem PySem.W PySem.Calls PySem.Spec PyProof.Rows PySem.W.KBw
section
variable {w : World} {A : Around} {s : Shared} {mg mb : PySem.Str → Option Value} {bm : Nat} {ob : Obj} {L D J P c f : Nat} {ps : Array Value} {h₀ : Heap} {m : PySem.Str → Option Value} {acc out rest : List UInt8} {b : Array UInt8} {t : Tok} {i k : Nat}
def nev : Value → Shared → Prop := fun _ _ => False
/-- length = next(data_iter, 128) -/
theorem ev_next2 {p1 p2 p3 p4 : Pos} {kk : Nat} {Q : Value → Shared → Prop} (K : Ct mg mb bm ob L D J P c ps h₀) (x : LS h₀ L D J P c ps m acc s.heap) (hh : A.handled = none) (hit : IsBytesIter s.heap J b t i)
    (h1 : ∀ cc h' tk u, b[i]? = some cc → LS h₀ L D J P c ps m acc h' → IsBytesIter h' J b t (i + 1) → Q (.int (cc.toNat : Int) u) { s with heap := h', toks := tk })
    (h2 : ∀ h' tk u, b[i]? = none → LS h₀ L D J P c ps m acc h' → Q (.int 128 u) { s with heap := h', toks := tk }) :
    wpAny (model PySem.Challenge.pw_co0038_01 w) A (eval (.Call (.Name (PySem.Str.ofString "next") p1) [.Name (PySem.Str.ofString "data_iter") p2, .Constant (.int 128) kk p3] [] p4) (rlEnv L f c)) Q nev s := by
  refine PyProof.Rows.Call_ ?_
  refine nm_glob rlk k_next (x.gns K) K.m1 (x.bns K) K.v1 ?_
  refine PyProof.Rows.callWith_builtin1 ?_
  refine PyProof.Rows.args_cons (nm_cell rlk k_di c_di x.cell ?_)
  refine PyProof.Rows.args_cons (wpAny_Constant_int ?_)
  refine PyProof.Rows.args_nil ?_
  cases hb : b[i]? with
  | none => exact call_next2_end (s := { s with toks := s.toks + 1 }) hh hit hb fun h' he => h2 h' _ _ hb (x.iter K he)
  | some cc => exact call_next2_item (s := { s with toks := s.toks + 1 }) hit hb fun h' hit' hs => h1 cc h' _ _ hb (x.iter K hs.extBut) hit'
theorem ev_next1 {p1 p2 p3 : Pos} {cc : UInt8} {Q : Value → Shared → Prop} (K : Ct mg mb bm ob L D J P c ps h₀) (x : LS h₀ L D J P c ps m acc s.heap) (hit : IsBytesIter s.heap J b t i) (hb : b[i]? = some cc)
    (h1 : ∀ h' tk u, LS h₀ L D J P c ps m acc h' → IsBytesIter h' J b t (i + 1) → Q (.int (cc.toNat : Int) u) { s with heap := h', toks := tk }) :
    wpAny (model PySem.Challenge.pw_co0038_01 w) A (eval (.Call (.Name (PySem.Str.ofString "next") p1) [.Name (PySem.Str.ofString "data_iter") p2] [] p3) (rlEnv L f c)) Q nev s := by
  refine PyProof.Rows.Call_ ?_
  refine nm_glob rlk k_next (x.gns K) K.m1 (x.bns K) K.v1 ?_
  refine PyProof.Rows.callWith_builtin1 ?_
  refine PyProof.Rows.args_cons (nm_cell rlk k_di c_di x.cell ?_)
  refine PyProof.Rows.args_nil ?_
  exact call_next1 hit hb fun h' hit' hs => h1 h' _ _ (x.iter K hs.extBut) hit'
theorem st_loc {y : PySem.Str} {v : Value} {Q : Unit → Shared → Prop} (K : Ct mg mb bm ob L D J P c ps h₀) (x : LS h₀ L D J P c ps m acc s.heap) (hl : (rlEnv L f c).kindOf y = some .local) (hy : PySem.Str.ofString "decoded_array" ≠ y)
    (h : ∀ h' tk, LS h₀ L D J P c ps (fun z => if z = y then some v else m z) acc h' → (∀ i, IsBytesIter s.heap J b t i → IsBytesIter h' J b t i) → Q () { s with heap := h', toks := tk }) :
    wpAny (model PySem.Challenge.pw_co0038_01 w) A (storeName (rlEnv L f c) y v) Q nev s :=
  wpAny_storeName_local hl x.ns (fun h' hn hs => h h' _ (x.store K hn (by simp [hy, x.md]) hs) fun i ⟨o, ho, r⟩ => ⟨o, (hs.2 J (by have := K.hJ; exact neA (by show J ≠ L; omega))).trans ho, r⟩) hpl
theorem yes {b : Bool} {X Y : Prop} (hb : b = true) (h : X) : if b = true then X else Y := by rw [if_pos hb]; exact h
theorem no {b : Bool} {X Y : Prop} (hb : b = false) (h : Y) : if b = true then X else Y := by rw [if_neg (by rw [hb]; exact Bool.false_ne_true)]; exact h
theorem isCode_at {h h' : Heap} (x : h.IsCode c P ps) (h1 : ∀ o, h.get? c = some o → h'.get? c = some o) (h2 : ∀ o, h.get? P = some o → h'.get? P = some o) : h'.IsCode c P ps :=
  let ⟨o, vs, file, tf, flags, tg, inF, text, tt, op, a, r1, r2, r3, r4, r5, r6, b, r⟩ := x
  ⟨o, vs, file, tf, flags, tg, inF, text, tt, op, h1 _ a, r1, r2, r3, r4, r5, r6, h2 _ b, r⟩
theorem tab_at {h h' : Heap} (x : h.TableAt c P ps) (h1 : ∀ o, h.get? c = some o → h'.get? c = some o) (h2 : ∀ o, h.get? P = some o → h'.get? P = some o) : h'.TableAt c P ps :=
  let ⟨⟨o, vs, a, r⟩, q⟩ := x; ⟨⟨o, vs, h1 _ a, r⟩, h2 _ q⟩
/-- decoded_array.extend(next(data_iter) for _ in range(length + 1)) -/
theorem ext_turn {st : Stmt} {cc : UInt8} {u : Tok} {Q : Flow → Shared → Prop} (K : Ct mg mb bm ob L D J P c ps h₀) (x : LS h₀ L D J P c ps m acc s.heap) (hh : A.handled = none) (hroom : A.depth < recursionLimit) (hit : IsBytesIter s.heap J b t i)
    (hm : m (PySem.Str.ofString "length") = some (.int (cc.toNat : Int) u)) (hn : ∀ j, j < cc.toNat + 1 → ∃ c, b[i + j]? = some c) (hz : acc.length + (cc.toNat + 1) ≤ sizeLine)
    (hst : st = match whBody.getD 2 (.Pass ⟨0, 0, 0, 0⟩) with | .If _ b _ _ => b.getD 0 (.Pass ⟨0, 0, 0, 0⟩) | _ => .Pass ⟨0, 0, 0, 0⟩)
    (nxt : ∀ s', LS h₀ L D J P c ps m (acc ++ (b.toList.drop i).take (cc.toNat + 1)) s'.heap → IsBytesIter s'.heap J b t (i + (cc.toNat + 1)) → (AllBare s.gens → AllBare s'.gens) → s'.os = s.os → Q .next s') :
    wpAny (model PySem.Challenge.pw_co0038_01 w) A (exec st (rlEnv L f c)) Q nev s := by
  subst hst
  refine wpAny_Expr ?_
  obtain ⟨vs, en, hD, hI⟩ := x.lst
  obtain ⟨more, hcode, htab⟩ := x.code
  have zK := K.lt
  have zD := K.hD
  have zJ := K.hJ
  have zL := K.hL
  have zs := ltN (a := D) (Heap.lt_size hD)
  have zJ' : J < s.heap.objs.size := let ⟨_, ho, _⟩ := hit; ltN (a := J) (Heap.lt_size ho)
  refine wpAny_Call_method (T := "list") (id := "list.extend") rfl rfl rfl F.plainAttrs_list F.slot_list_extend F.type_list_extend ?_
  refine nm_loc rlk k_da x.ns x.md ?_
  refine ⟨⟨_, hD, rfl⟩, fun a ha => ⟨_, by cases ha; exact hD, rfl⟩, ?_⟩
  refine PyProof.Rows.callWith_method1 ?_
  refine PyProof.Rows.args_cons ?_
  refine gen_make (D := D) (J := J) (Cd := L + 1) (P := P) (c := c) (mg := mg) (mb := mb) (bm := bm) (ob := ob) (b := b) (t := t) (p := i) (n := cc.toNat + 1) hh hroom rfl rfl rfl rfl (by decide) rfl rfl rfl rfl rfl (fun _ => rfl) (x.limit K) (x.bmod K) (x.glb K) hcode htab K.hP K.m1 K.v1 hit hn (by have := cc.toNat_lt; omega)
    ⟨by omega, by omega, by omega, K.DJ⟩ ⟨by omega, by omega, by omega, by omega⟩ zs ?_ ?_
  · refine PyProof.Rows.Call_ ?_
    refine nm_glob rlk k_range (x.gns K) K.m2 (x.bns K) K.v2 ?_
    refine PyProof.Rows.callWith_type1 ?_
    refine PyProof.Rows.args_cons (wpAny_BinOp ?_)
    refine nm_loc rlk k_len x.ns hm ?_
    refine wpAny_Constant_int (PyProof.Rows.add_int ?_)
    refine PyProof.Rows.args_nil ?_
    refine call_range_1 ?_
    exact ⟨_, _, _, _, rfl, by simpa using Heap.get?_push_size _ rfl, fun _ _ e => Heap.get?_push_of_some _ e, by simp [Heap.size_push], rfl, rfl⟩
  · intro a g C I s' GM
    refine PyProof.Rows.args_nil ?_
    have gC := GM.newC
    have gI := GM.newI
    have ga := GM.newa
    have hlen : vs.length = acc.length := by rw [hI.length, oi_length]
    have hD' := GM.keep D _ (by omega) hD
    refine call_extend_gen (n := cc.toNat + 1) (acc := vs.toArray) hh hroom GM.aC GM.aI (by omega) (by omega) (by omega) (by omega) K.DJ ⟨neA (by omega), neA (by omega), neA (by omega), neA (by omega)⟩ GM.lim GM.gat GM.it hD' (by rw [List.size_toArray, hlen]; exact hz) (Nat.succ_pos _) ?_
    intro s'' acc' e' hit'' hD'' hws hk hB hos
    obtain ⟨ws, e1, e2, e3⟩ := hws
    have ea : acc' = (vs ++ ws).toArray := by
      apply Array.toList_inj.mp
      rw [e1]
    subst ea
    have hiw := ints_of_pts e2 e3
    have kk : ∀ y : Nat, y ≠ P → y ≠ D → y ≠ C → y ≠ I → y ≠ J → ∀ o, s.heap.get? y = some o → s''.heap.get? y = some o := fun y q1 q2 q3 q4 q5 o e => hk y o q2 q3 q4 q5 (GM.keep y o q1 e)
    obtain ⟨more', gc, gt⟩ := GM.code
    have kc : ∀ o, s'.heap.get? c = some o → s''.heap.get? c = some o := fun o e => hk c o (by omega) (by omega) (by omega) (by omega) e
    have kP : ∀ o, s'.heap.get? P = some o → s''.heap.get? P = some o := fun o e => hk P o (by omega) (by omega) (by omega) (by omega) e
    refine nxt s'' ⟨?_, x.md, ?_, ⟨more ++ more', ?_, ?_⟩, ?_, ⟨vs ++ ws, e', hD'', ?_⟩⟩ hit'' (fun h => hB (GM.bare h)) (hos.trans GM.os)
    · exact x.ns.at fun o e => kk L (by omega) (by omega) (by omega) (by omega) (by omega) o e
    · intro y o hy e
      have hy' := ltN (a := y) (Heap.lt_size e)
      exact kk y hy (by omega) (by omega) (by omega) (by omega) o (x.keep y o hy e)
    · rw [← Array.append_assoc]
      exact isCode_at gc kc kP
    · rw [← Array.append_assoc]
      exact tab_at gt kc kP
    · obtain ⟨o, ho, hd⟩ := x.cell
      exact ⟨o, kk (L + 1) (by omega) (by omega) (by omega) (by omega) (by omega) o ho, hd⟩
    · rw [oi_app]
      exact hI.append hiw
end
end Mine
end
section
set_option maxRecDepth 100000
namespace Mine
open PySem PySem.W PySem.Calls PySem.Spec PyProof.Rows PySem.W.KBw
section
variable {w : World} {A : Around} {s : Shared} {mg mb : PySem.Str → Option Value} {bm : Nat} {ob : Obj} {L D J P c f : Nat} {ps : Array Value} {h₀ : Heap} {m : PySem.Str → Option Value} {acc out rest : List UInt8} {b : Array UInt8} {t : Tok} {i k : Nat}
theorem st_loc' {y : PySem.Str} {v : Value} {Q : Unit → Shared → Prop} (K : Ct mg mb bm ob L D J P c ps h₀) (x : LS h₀ L D J P c ps m acc s.heap) (hl : (rlEnv L f c).kindOf y = some .local) (hy : PySem.Str.ofString "decoded_array" ≠ y)
    (h : ∀ h' tk, LS h₀ L D J P c ps (fun z => if z = y then some v else m z) acc h' → (∀ y o, y ≠ L → s.heap.get? y = some o → h'.get? y = some o) → Q () { s with heap := h', toks := tk }) :
    wpAny (model PySem.Challenge.pw_co0038_01 w) A (storeName (rlEnv L f c) y v) Q nev s :=
  wpAny_storeName_local hl x.ns (fun h' hn hs => h h' _ (x.store K hn (by simp [hy, x.md]) hs) fun y o hy e => hs.extBut y o hy e) hpl
/-- run = [next(data_iter)] * (257 - length); decoded_array.extend(run) -/
theorem run_turn {bd : List Stmt} {cc y : UInt8} {u : Tok} {Q : Flow → Shared → Prop} (K : Ct mg mb bm ob L D J P c ps h₀) (x : LS h₀ L D J P c ps m acc s.heap) (hit : IsBytesIter s.heap J b t i)
    (hm : m (PySem.Str.ofString "length") = some (.int (cc.toNat : Int) u)) (hcc : 128 < cc.toNat) (hb : b[i]? = some y) (hz : acc.length + (257 - cc.toNat) ≤ sizeLine)
    (hst : bd = match whBody.getD 3 (.Pass ⟨0, 0, 0, 0⟩) with | .If _ b _ _ => b | _ => [])
    (nxt : ∀ h' tk m', LS h₀ L D J P c ps m' (acc ++ List.replicate (257 - cc.toNat) y) h' → IsBytesIter h' J b t (i + 1) → Q .next { s with heap := h', toks := tk }) :
    wpAny (model PySem.Challenge.pw_co0038_01 w) A (execs bd (rlEnv L f c)) Q nev s := by
  subst hst
  have zK := K.lt
  have zD := K.hD
  have zJ := K.hJ
  have hcl := cc.toNat_lt
  refine wpAny_execs_cons (wpAny_Assign_Name (wpAny_BinOp ?_))
  refine PyProof.Rows.List_ ?_
  refine PyProof.Rows.args_cons ?_
  refine ev_next1 K x hit hb fun h₁ tk₁ u₁ x₁ hit₁ => ?_
  refine PyProof.Rows.args_nil ?_
  refine wpAny_newObj_type ?_
  refine wpAny_BinOp (wpAny_Constant_int ?_)
  refine nm_loc rlk k_len (x₁.ns.push _) hm ?_
  refine PyProof.Rows.sub_int ?_
  refine mul_one_list (v := .int (y.toNat : Int) u₁) (k := 0) (Heap.get?_push_size _ rfl) (by omega) (by omega) ?_
  have k2 : ∀ y' o, h₁.get? y' = some o → ((h₁.push { cls := .type "list", data := .seq [Value.int (y.toNat : Int) u₁].toArray }).push { cls := .type "list", data := .seq (List.replicate ((257 : Int) - (cc.toNat : Int)).toNat (Value.int (y.toNat : Int) u₁)).toArray }).get? y' = some o :=
    fun y' o e => Heap.get?_push_of_some _ (Heap.get?_push_of_some _ e)
  have hr : ((h₁.push { cls := .type "list", data := .seq [Value.int (y.toNat : Int) u₁].toArray }).push { cls := .type "list", data := .seq (List.replicate ((257 : Int) - (cc.toNat : Int)).toNat (Value.int (y.toNat : Int) u₁)).toArray }).get? (h₁.push { cls := .type "list", data := .seq [Value.int (y.toNat : Int) u₁].toArray }).objs.size = _ := Heap.get?_push_size _ rfl
  have zr : h₁.objs.size < (h₁.push { cls := .type "list", data := .seq [Value.int (y.toNat : Int) u₁].toArray }).objs.size := by rw [Heap.size_push]; exact Nat.lt_succ_self _
  have hL₁ := ltN (a := L) x₁.ns.lt
  generalize (h₁.push { cls := .type "list", data := .seq [Value.int (y.toNat : Int) u₁].toArray }).push { cls := .type "list", data := .seq (List.replicate ((257 : Int) - (cc.toNat : Int)).toNat (Value.int (y.toNat : Int) u₁)).toArray } = H at k2 hr ⊢
  generalize (h₁.push { cls := .type "list", data := .seq [Value.int (y.toNat : Int) u₁].toArray }).objs.size = r at hr zr ⊢
  have e257 : ((257 : Int) - (cc.toNat : Int)).toNat = 257 - cc.toNat := by omega
  rw [e257] at hr
  refine st_loc' K (x₁.keeps k2) k_run (by decide) fun h₃ tk₃ x₃ mv₃ => ?_
  obtain ⟨vs, en, hD, hI⟩ := x₃.lst
  refine wpAny_execs_cons (wpAny_Expr ?_)
  refine wpAny_Call_method (T := "list") (id := "list.extend") rfl rfl rfl F.plainAttrs_list F.slot_list_extend F.type_list_extend ?_
  refine nm_loc rlk k_da x₃.ns x₃.md ?_
  refine ⟨⟨_, hD, rfl⟩, fun a ha => ⟨_, by cases ha; exact hD, rfl⟩, ?_⟩
  refine PyProof.Rows.callWith_method1 ?_
  refine PyProof.Rows.args_cons ?_
  refine nm_loc (v := .ref r) rlk k_run x₃.ns (if_pos rfl) ?_
  refine PyProof.Rows.args_nil ?_
  have hr₃ := mv₃ r _ (neA (by omega)) hr
  have hlen : vs.length = acc.length := by rw [hI.length, oi_length]
  refine extend_list hD hr₃ (by simp only [List.size_toArray, List.length_replicate]; omega) fun h₄ n₄ hD₄ hs₄ => ?_
  refine wpAny_execs_nil ?_
  have hit₃ : IsBytesIter h₃ J b t (i + 1) := let ⟨o, ho, rr⟩ := hit₁; ⟨o, mv₃ J o (neA (by omega)) (k2 J o ho), rr⟩
  refine nxt h₄ _ _ (x₃.list K (vs := vs ++ List.replicate (257 - cc.toNat) (.int (y.toNat : Int) u₁)) (n := n₄) (by rw [hD₄]; simp) (by rw [oi_app]; exact hI.append (ints_rep _)) hs₄.extBut) (let ⟨o, ho, rr⟩ := hit₃; ⟨o, hs₄.extBut J o (Ne.symm K.DJ) ho, rr⟩)
end
end Mine
end
section
set_option maxRecDepth 100000
namespace Mine
open PySem PySem.W PySem.Calls PySem.Spec PyProof.Rows PySem.W.KBw
theorem drop_at {b : Array UInt8} {i : Nat} {c : UInt8} (h : b[i]? = some c) : b.toList.drop i = c :: b.toList.drop (i + 1) := by
  have hc' : b.toList[i]? = some c := by simpa using h
  have hp : i < b.toList.length := by
    rcases Nat.lt_or_ge i b.toList.length with h' | h'
    · exact h'
    · rw [List.getElem?_eq_none h'] at hc'; cases hc'
  rw [List.drop_eq_getElem_cons hp]
  rw [List.getElem?_eq_getElem hp] at hc'
  rw [Option.some.inj hc']
theorem drop_none {b : Array UInt8} {i : Nat} (h : b[i]? = none) : b.toList.drop i = [] := by
  apply List.drop_eq_nil_of_le
  have : b.toList[i]? = none := by simpa using h
  exact List.getElem?_eq_none_iff.mp this
section
variable {w : World} {A : Around} {s : Shared} {mg mb : PySem.Str → Option Value} {bm : Nat} {ob : Obj} {L D J P c f : Nat} {ps : Array Value} {h₀ : Heap} {m : PySem.Str → Option Value} {acc out rest : List UInt8} {b : Array UInt8} {t : Tok} {i k : Nat}
theorem rl_turn {Qn Qb : Shared → Prop} (K : Ct mg mb bm ob L D J P c ps h₀) (x : LS h₀ L D J P c ps m acc s.heap) (hh : A.handled = none) (hroom : A.depth < recursionLimit) (hit : IsBytesIter s.heap J b t i)
    (hd : dec (k + 1) (b.toList.drop i) = some rest) (ho : acc ++ rest = out) (hz : out.length ≤ sizeLine)
    (fin : ∀ s' m', LS h₀ L D J P c ps m' out s'.heap → (AllBare s.gens → AllBare s'.gens) → s'.os = s.os → Qb s')
    (nxt : ∀ s' m' i' acc' rest', LS h₀ L D J P c ps m' acc' s'.heap → IsBytesIter s'.heap J b t i' → dec k (b.toList.drop i') = some rest' → acc' ++ rest' = out → (AllBare s.gens → AllBare s'.gens) → s'.os = s.os → Qn s') :
    wpAny (model PySem.Challenge.pw_co0038_01 w) A (execs whBody (rlEnv L f c)) (fun fl s' => match fl with | .next => Qn s' | .cont => Qn s' | .brk => Qb s' | .ret _ => False) nev s := by
  have zout : acc.length + rest.length ≤ sizeLine := by rw [← ho, List.length_append] at hz; exact hz
  refine wpAny_execs_cons (wpAny_Assign_Name ?_)
  refine ev_next2 K x hh hit ?_ ?_
  · intro cc h₁ tk₁ u hb x₁ hit₁
    have hcl := cc.toNat_lt
    refine st_loc (b := b) (t := t) K x₁ k_len (by decide) fun h₂ tk₂ x₂ mv₂ => ?_
    have hit₂ := mv₂ _ hit₁
    have hlen : (fun z => if z = PySem.Str.ofString "length" then some (Value.int (cc.toNat : Int) u) else m z) (PySem.Str.ofString "length") = some (.int (cc.toNat : Int) u) := if_pos rfl
    rw [drop_at hb] at hd
    simp only [dec] at hd
    refine wpAny_execs_cons (wpAny_If (wpAny_isTrue_Compare1 ?_))
    refine nm_loc rlk k_len x₂.ns hlen ?_
    refine wpAny_Constant_int (PyProof.Rows.eq_int (wpAny_truthy_bool ?_))
    by_cases h128 : cc.toNat = 128
    · rw [if_pos h128] at hd
      have e := Option.some.inj hd
      subst e
      refine yes (by simp; omega) ?_
      refine wpAny_execs_cons (wpAny_Break ?_)
      rw [List.append_nil] at ho
      subst ho
      exact fin _ _ x₂ id rfl
    · rw [if_neg h128] at hd
      refine no (by simp; omega) ?_
      refine wpAny_execs_nil ?_
      refine wpAny_execs_cons (wpAny_If (isTrue_chain ?_))
      refine wpAny_Constant_int ?_
      refine test_link ?_
      refine nm_loc rlk k_len x₂.ns hlen ?_
      refine PyProof.Rows.le_int (wpAny_truthy_bool ?_)
      refine yes (by simp) ?_
      refine test_last ?_
      refine wpAny_Constant_int (PyProof.Rows.lt_int (wpAny_truthy_bool ?_))
      by_cases hlt : cc.toNat < 128
      · rw [if_pos hlt] at hd
        refine yes (by simp; omega) ?_
        by_cases hle : (b.toList.drop (i + 1)).length < cc.toNat + 1
        · rw [if_pos hle] at hd; cases hd
        rw [if_neg hle] at hd
        obtain ⟨rest', hr', e⟩ := Option.map_eq_some_iff.mp hd
        have zr : rest.length = cc.toNat + 1 + rest'.length := by
          rw [← e, List.length_append, List.length_take]; omega
        refine wpAny_execs_cons (ext_turn (b := b) (t := t) (i := i + 1) K x₂ hh hroom hit₂ hlen (fun j hj => ?_) (by omega) rfl fun s₃ x₃ hit₃ hB₃ ho₃ => ?_)
        · refine ⟨(b.toList.drop (i + 1))[j]'(by omega), ?_⟩
          have : (b.toList.drop (i + 1))[j]? = some ((b.toList.drop (i + 1))[j]'(by omega)) := List.getElem?_eq_getElem _
          rw [List.getElem?_drop] at this
          simp
        refine wpAny_execs_nil ?_
        refine wpAny_execs_cons (wpAny_If (wpAny_isTrue_Compare1 ?_))
        refine nm_loc rlk k_len x₃.ns hlen ?_
        refine wpAny_Constant_int (PyProof.Rows.gt_int (wpAny_truthy_bool ?_))
        refine no (by simp; omega) ?_
        refine wpAny_execs_nil ?_
        refine wpAny_execs_nil ?_
        refine nxt _ _ _ _ rest' x₃ hit₃ ?_ ?_ hB₃ ho₃
        · rw [List.drop_drop] at hr'
          exact hr'
        · rw [List.append_assoc, e, ho]
      · rw [if_neg hlt] at hd
        refine no (by simp; omega) ?_
        refine wpAny_execs_nil ?_
        refine wpAny_execs_cons (wpAny_If (wpAny_isTrue_Compare1 ?_))
        refine nm_loc rlk k_len x₂.ns hlen ?_
        refine wpAny_Constant_int (PyProof.Rows.gt_int (wpAny_truthy_bool ?_))
        refine yes (by simp; omega) ?_
        cases hb' : b[i + 1]? with
        | none => rw [drop_none hb'] at hd; cases hd
        | some y =>
          rw [drop_at hb'] at hd
          simp only at hd
          obtain ⟨rest', hr', e⟩ := Option.map_eq_some_iff.mp hd
          have zr : rest.length = 257 - cc.toNat + rest'.length := by
            rw [← e, List.length_append, List.length_replicate]
          refine run_turn (b := b) (t := t) (i := i + 1) K x₂ hit₂ hlen (by omega) hb' (by omega) rfl fun h₃ tk₃ m₃ x₃ hit₃ => ?_
          refine wpAny_execs_nil ?_
          refine nxt _ _ _ _ rest' x₃ hit₃ hr' ?_ id rfl
          rw [List.append_assoc, e, ho]
  · intro h₁ tk₁ u hb x₁
    refine st_loc (b := b) (t := t) K x₁ k_len (by decide) fun h₂ tk₂ x₂ _ => ?_
    rw [drop_none hb] at hd
    simp only [dec] at hd
    have e := Option.some.inj hd
    subst e
    refine wpAny_execs_cons (wpAny_If (wpAny_isTrue_Compare1 ?_))
    refine nm_loc (v := .int 128 u) rlk k_len x₂.ns (if_pos rfl) ?_
    refine wpAny_Constant_int (PyProof.Rows.eq_int (wpAny_truthy_bool ?_))
    refine yes (by decide) ?_
    refine wpAny_execs_cons (wpAny_Break ?_)
    rw [List.append_nil] at ho
    subst ho
    exact fin _ _ x₂ id rfl
end
end Mine
end
section
set_option maxRecDepth 100000
namespace Mine
open PySem PySem.W PySem.Calls PySem.Spec PyProof.Rows PySem.W.KBw
section
variable {w : World} {A : Around} {s : Shared} {mg mb : PySem.Str → Option Value} {bm : Nat} {ob : Obj} {L D J P c f : Nat} {ps : Array Value} {h₀ : Heap} {m : PySem.Str → Option Value} {acc out rest : List UInt8} {b : Array UInt8} {t : Tok} {i k : Nat}
theorem rl_while {Q : Flow → Shared → Prop} (K : Ct mg mb bm ob L D J P c ps h₀) (hh : A.handled = none) (hroom : A.depth < recursionLimit) (hz : out.length ≤ sizeLine) :
    ∀ (k : Nat) (i : Nat) (acc rest : List UInt8) (m : PySem.Str → Option Value) (s : Shared), LS h₀ L D J P c ps m acc s.heap → IsBytesIter s.heap J b t i → dec k (b.toList.drop i) = some rest → acc ++ rest = out →
      (∀ s' m', LS h₀ L D J P c ps m' out s'.heap → (AllBare s.gens → AllBare s'.gens) → s'.os = s.os → Q .next s') →
      WhlRest PySem.Challenge.pw_co0038_01 w A nev (rlEnv L f c) whTest whBody [] Q k s := by
  intro k
  induction k with
  | zero => intro i acc rest m s _ _ hd; cases hd
  | succ k ih =>
    intro i acc rest m s x hit hd ho fin
    refine whl_turn PassesOwn.never ?_
    refine isTrue_plain ?_
    refine Constant_bool ?_
    refine wpAny_truthy_bool ?_
    refine WhlIf.yes rfl ?_
    refine wpAny_mono (rl_turn (Qn := fun s' => WhlRest PySem.Challenge.pw_co0038_01 w A nev (rlEnv L f c) whTest whBody [] Q k s') (Qb := fun s' => Q .next s') K x hh hroom hit hd ho hz fin fun s' m' i' acc' rest' x' hit' hd' ho' hB hos => ?_) (fun fl s' h => ?_) fun _ _ e => e
    · exact ih i' acc' rest' m' s' x' hit' hd' ho' fun s'' m'' x'' hB' hos' => fin s'' m'' x'' (fun h => hB' (hB h)) (hos'.trans hos)
    · cases fl with
      | next => exact h
      | cont => exact h
      | brk => exact h
      | ret v => exact h.elim
end
end Mine
end
section
set_option maxRecDepth 100000
namespace Mine
open PySem PySem.W PySem.Calls PySem.Spec PyProof.Rows PySem.W.KBw
structure Ct0 (mg mb : PySem.Str → Option Value) (bm : Nat) (ob : Obj) (P c : Nat) (ps : Array Value) (h₀ : Heap) : Prop where
  lim : h₀.NoLimit
  g : h₀.Ns mainGlobals mg
  b : h₀.Ns builtinsNs mb
  bmod : BMod h₀ mainGlobals mg bm ob
  ok : h₀.IsCode c P ps
  tab : h₀.TableAt c P ps
  hP : P ≠ cStatics
  m1 : mg (PySem.Str.ofString "next") = none
  v1 : mb (PySem.Str.ofString "next") = some (.builtin "next")
  m2 : mg (PySem.Str.ofString "range") = none
  v2 : mb (PySem.Str.ofString "range") = some (.type "range")
  m3 : mg (PySem.Str.ofString "iter") = none
  v3 : mb (PySem.Str.ofString "iter") = some (.builtin "iter")
  m4 : mg (PySem.Str.ofString "bytes") = none
  v4 : mb (PySem.Str.ofString "bytes") = some (.type "bytes")
theorem byteArr_oi (l : List UInt8) : byteArr (oi l) = l.toArray := by
  unfold byteArr oi
  rw [List.map_map]
  congr 1
  conv => rhs; rw [← List.map_id l]
  apply List.map_congr_left
  intro c _
  simp
section
variable {w : World} {A : Around} {s : Shared} {mg mb : PySem.Str → Option Value} {bm : Nat} {ob o : Obj} {P c f : Nat} {ps : Array Value} {pm doc : Value} {out : List UInt8} {b : Array UInt8} {t : Tok} {k : Nat}
theorem rl_code {R : Result → Shared → Prop} (K : Ct0 mg mb bm ob P c ps s.heap) (hh : A.handled = none) (hroom : A.depth + 1 < recursionLimit)
    (ho : s.heap.get? f = some o) (hdat : o.data = .func (Calls.docDef rlName rlParams rlBody rlScope pm (.ref c) doc)) (hcd : s.heap.CodeRec (.ref c) rlName)
    (hd : dec k b.toList = some out) (hz : out.length ≤ sizeLine)
    (hR : ∀ s' t' more, (∀ x o, x ≠ P → s.heap.get? x = some o → s'.heap.get? x = some o) → s'.heap.IsCode c P (ps ++ more) → s'.heap.TableAt c P (ps ++ more) → (AllBare s.gens → AllBare s'.gens) → s'.os = s.os → R (.ok (.ret (.bytes out.toArray t'))) s') :
    codeAny (model PySem.Challenge.pw_co0038_01 w) A (.call (.ref f) ⟨[.bytes b t], []⟩) R s := by
  refine call_cells_ret (binds := [(PySem.Str.ofString "data", .bytes b t)]) (by omega) ho hdat K.lim hcd rfl (by intro y hy; rw [List.mem_singleton.mp hy]; exact .inl rfl) (fun h₁ tk F X => ?_) rfl rfl rfl
  have hcell := X.cell (PySem.Str.ofString "data_iter") (s.heap.objs.size + 1) rfl
  have hc1 := hcell.lt
  have hdata : (bindL (envOfC rlName rlScope s.heap.objs.size f (.ref c)).kindOf [(PySem.Str.ofString "data", .bytes b t)] fun _ => none) (PySem.Str.ofString "data") = some (.bytes b t) := rfl
  show wpAny _ (A.deeper (rlEnv s.heap.objs.size f c)) (execs rlBody (rlEnv s.heap.objs.size f c)) _ nev _
  have hA : (A.deeper (rlEnv s.heap.objs.size f c)).handled = none := hh
  have hAd : (A.deeper (rlEnv s.heap.objs.size f c)).depth < recursionLimit := hroom
  refine wpAny_execs_cons (wpAny_Assign_Name ?_)
  refine PyProof.Rows.List_ ?_
  refine PyProof.Rows.args_nil ?_
  refine wpAny_newObj_type ?_
  refine wpAny_storeName_local k_da (F.ns.push _) (fun h₂ hn₂ hs₂ => ?_) hpl
  refine wpAny_execs_cons (wpAny_Assign_Name ?_)
  refine PyProof.Rows.Call_ ?_
  dsimp only at hs₂ ⊢
  change Heap.SameBut s.heap.objs.size _ _ at hs₂
  have hn₂' : h₂.Ns s.heap.objs.size (fun x => if x = PySem.Str.ofString "decoded_array" then some (.ref h₁.objs.size) else (bindL (envOfC rlName rlScope s.heap.objs.size f (.ref c)).kindOf [(PySem.Str.ofString "data", .bytes b t)] fun _ => none) x) := hn₂
  have hLlt := ltN (a := s.heap.objs.size) F.ns.lt
  have hc1' : s.heap.objs.size + 1 < h₁.objs.size := hc1
  have hsz₂ : h₂.objs.size = h₁.objs.size + 1 := by rw [hs₂.1, Heap.size_push]
  have k₂ : ∀ x o, x ≠ s.heap.objs.size → h₁.get? x = some o → h₂.get? x = some o := fun x o hx e => hs₂.extBut x o hx (Heap.get?_push_of_some _ e)
  have hD₂ : h₂.get? h₁.objs.size = some { cls := .type "list", dict := none, data := .seq (List.toArray ([] : List Value)) 0, slots := #[] } := hs₂.extBut _ _ (neA (by omega)) (Heap.get?_push_size _ rfl)
  have kk₂ : ∀ x o, s.heap.get? x = some o → h₂.get? x = some o := fun x o e => k₂ x o (Nat.ne_of_lt (Heap.lt_size e)) (F.keep x o e)
  refine nm_glob rlk k_iter (K.g.keeps kk₂) K.m3 (K.b.keeps kk₂) K.v3 ?_
  refine PyProof.Rows.callWith_builtin1 ?_
  refine PyProof.Rows.args_cons (nm_loc (v := .bytes b t) rlk k_data hn₂' rfl ?_)
  refine PyProof.Rows.args_nil ?_
  refine call_iter_bytes ?_
  dsimp only
  have hcell₂ : (h₂.push { cls := .type "bytes_iterator", data := .fields #[.bytes b t, .int 0 0] }).IsCell (s.heap.objs.size + 1) none := by
    obtain ⟨oc, hoc, hdc⟩ := hcell
    exact ⟨oc, Heap.get?_push_of_some _ (k₂ _ oc (neA (by omega)) hoc), hdc⟩
  refine wpAny_storeName_cell rlk k_di c_di hcell₂ fun h₃ hc₃ hs₃ => ?_
  dsimp only at hs₃ ⊢
  have k₃ : ∀ x o, x ≠ s.heap.objs.size + 1 → h₂.get? x = some o → h₃.get? x = some o := fun x o hx e => hs₃.extBut x o hx (Heap.get?_push_of_some _ e)
  have hit₃ : IsBytesIter h₃ h₂.objs.size b t 0 := ⟨_, hs₃.extBut _ _ (neA (by omega)) (Heap.get?_push_size _ rfl), rfl, rfl⟩
  have zP := ltN (a := P) K.ok.lt.2
  have zc := ltN (a := c) K.ok.lt.1
  have k0 : ∀ x o, s.heap.get? x = some o → h₃.get? x = some o := fun x o e => k₃ x o (fun q => by
    have h1 := ltN (a := x) (Heap.lt_size e)
    have q' : @Eq Nat x (s.heap.objs.size + 1) := q
    omega) (kk₂ x o e)
  have KC : Ct mg mb bm ob s.heap.objs.size h₁.objs.size h₂.objs.size P c ps s.heap :=
    ⟨rfl, hc1', by omega, by omega, K.lim, K.g, K.b, K.bmod, K.ok, K.tab, K.hP, K.m1, K.v1, K.m2, K.v2, K.m3, K.v3, K.m4, K.v4⟩
  have x₃ : LS s.heap s.heap.objs.size h₁.objs.size h₂.objs.size P c ps (fun x => if x = PySem.Str.ofString "decoded_array" then some (.ref h₁.objs.size) else (bindL (envOfC rlName rlScope s.heap.objs.size f (.ref c)).kindOf [(PySem.Str.ofString "data", .bytes b t)] fun _ => none) x) [] h₃ :=
    ⟨hn₂'.at fun o e => k₃ _ o (neA (by omega)) e, if_pos rfl, fun x o _ e => k0 x o e, ⟨#[], by simpa using K.ok.keeps k0, by simpa using K.tab.keeps k0⟩, hc₃, [], 0, k₃ _ _ (neA (by omega)) hD₂, .nil⟩
  refine wpAny_execs_cons (whl_start k ?_)
  refine rl_while KC hA hAd hz k 0 [] out _ _ x₃ hit₃ (by simpa using hd) (List.nil_append _) fun s₄ m₄ x₄ hB₄ hos₄ => ?_
  refine wpAny_execs_cons (wpAny_Return_some ?_)
  refine PyProof.Rows.Call_ ?_
  refine nm_glob rlk k_bytes (x₄.gns KC) KC.m4 (x₄.bns KC) KC.v4 ?_
  refine PyProof.Rows.callWith_type1 ?_
  refine PyProof.Rows.args_cons (nm_loc rlk k_da x₄.ns x₄.md ?_)
  refine PyProof.Rows.args_nil ?_
  obtain ⟨vs, n, hD, hI⟩ := x₄.lst
  refine call_bytes_ints (vs := vs) ⟨_, hD, rfl, n, rfl⟩ hI (fun q hq => ?_) (by rw [hI.length, oi_length]; exact hz) hA fun h' t' tk' hk' => ?_
  · obtain ⟨cc, _, rfl⟩ := List.mem_map.mp hq
    have := cc.toNat_lt
    exact ⟨by omega, by omega⟩
  · rw [byteArr_oi]
    obtain ⟨more, a1, a2⟩ := x₄.code
    exact hR _ _ more (fun x o hx e => hk' x o (x₄.keep x o hx e)) (a1.keeps hk') (a2.keeps hk') hB₄ hos₄
end
end Mine
end
section
set_option maxRecDepth 100000
namespace Mine
open PySem PySem.W PySem.Calls PySem.Spec PyProof.Rows PySem.W.KBw
structure NmF (mg mb : PySem.Str → Option Value) : Prop where
  m1 : mg (PySem.Str.ofString "next") = none
  v1 : mb (PySem.Str.ofString "next") = some (.builtin "next")
  m2 : mg (PySem.Str.ofString "range") = none
  v2 : mb (PySem.Str.ofString "range") = some (.type "range")
  m3 : mg (PySem.Str.ofString "iter") = none
  v3 : mb (PySem.Str.ofString "iter") = some (.builtin "iter")
  m4 : mg (PySem.Str.ofString "bytes") = none
  v4 : mb (PySem.Str.ofString "bytes") = some (.type "bytes")
section
variable {w : World} {A : Around} {E : Value → Shared → Prop} {s : Shared} {mg mb : PySem.Str → Option Value} {bm : Addr} {ob o : Obj} {L P c f : Addr} {ps : Array Value} {pm doc : Value} {out : List UInt8} {b : List UInt8} {t : Tok}
  {h₁ h₀ : Heap} {m : PySem.Str → Option Value} {news : List (Addr × Obj)} {K : Frag} {p : Program} {loose : List PySem.Str} {N₀ : Nat} {defs : List DefItem} {consts : List (PySem.Str × PyData)} {names : List PySem.Str}
theorem rl_call {Q : Value → Shared → Prop} (F : Fr h₀ L s.heap m) (N : News h₀ L s.heap news) (X : K.In h₀) (hK : kb_classed K = true) (T : TopRead p loose mg mb h₀) (GL : Glob N₀ mg mb defs consts [] names h₀)
    (BM : BMod h₀ mainGlobals mg bm ob) (B : Based h₁ h₀ c P ps) (nf : NmF mg mb) (AB : AllBare s.gens) (ho : h₀.get? f = some o) (hdat : o.data = .func (Calls.docDef rlName rlParams rlBody rlScope pm (.ref c) doc)) (hcd : h₀.CodeRec (.ref c) rlName)
    (hh : A.handled = none) (hroom : A.depth + 1 < recursionLimit) (hd : ∃ k, dec k b = some out) (hz : out.length ≤ sizeLine)
    (h : ∀ (g : Heap) ps' s' t', Fr g L s'.heap m → News g L s'.heap news → K.In g → TopRead p loose mg mb g → Glob N₀ mg mb defs consts [] names g → BMod g mainGlobals mg bm ob → Based h₁ g c P ps' → AllBare s'.gens → g.get? f = some o → g.CodeRec (.ref c) rlName →
      Below callerA g [] g → s'.os = s.os → Q (.bytes (List.toArray out) t') s') :
    wpAny (model PySem.Challenge.pw_co0038_01 w) A (call (.ref f) [.bytes (List.toArray b) t]) Q E s := by
  obtain ⟨k, hd⟩ := hd
  have K0 : Ct0 mg mb bm ob P c ps s.heap := ⟨T.nolimit.keeps F.keep, T.g.keeps F.keep, T.b.keeps F.keep, BM.keeps F.keep, B.codeAt F, B.tabAt F, B.notStatics, nf.m1, nf.v1, nf.m2, nf.v2, nf.m3, nf.v3, nf.m4, nf.v4⟩
  refine wpAny_call (rl_code (b := List.toArray b) (k := k) K0 hh hroom (F.keep _ _ ho) hdat (hcd.keeps F.keep) hd hz fun s' t' more hk hok htab hB hos => ?_)
  obtain ⟨B', F'⟩ := B.grow F (fun x o hx e => hk x o hx e) hok htab
  have hup : ∀ x o, x ≠ P → h₀.get? x = some o → (regrown h₀ P (ps ++ more)).get? x = some o := fun x o hx e => regrown_other h₀ P _ x o hx e
  have hfP : f ≠ P := fun e => by
    rw [e, B.tab.2] at ho
    cases ho
    cases hdat
  refine h (regrown h₀ P (ps ++ more)) _ s' t' F' (fun q hq => ?_) (kb_in_regrown B X T.g hK) (LGe.top_regrown F' T B) (GL.regrown B) (BM.regrown B) B' (hB AB) (hup f o hfP ho) (hcd.at fun o e => hup _ o (B.ne_of_rec hcd) e) (below_caller _) hos
  have hqP : q.1 ≠ P := fun e => by
    have h1 := (N q hq).2.2
    rw [e, B.tab.2] at h1
    cases h1
  refine ⟨hk _ _ hqP (N q hq).1, (N q hq).2.1, ?_⟩
  exact (Heap.get?_update_other _ _ (Ne.symm hqP)).trans (N q hq).2.2
end
end Mine
end
section
set_option maxRecDepth 100000
open PySem PySem.W PyProof.Rows
namespace Mine
open PySem.Calls PySem.Spec
section
variable {prog : Program} {w : World} {A : Around} {E : Value → Shared → Prop} {s : Shared} {env : Env} {h₀ : Heap} {x : PySem.Str} {body : List Stmt} {Q : Flow → Shared → Prop}
def LInv (c₁ c₂ : Addr) (m₀ : PySem.Str → Option Value) (P : Nat → List UInt8 → List UInt8 → Prop) (l : Addr) (lo : Obj) (i : Nat) (m : PySem.Str → Option Value) (nx : List (Addr × Obj)) : Prop :=
  ∃ code text t1 t2 o1 o2 v1 v2, nx = [(l, lo), (c₂, o2), (c₁, o1)] ∧ o1.data = .cell v1 ∧ o2.data = .cell v2 ∧ m (PySem.Str.ofString "code") = some (.bytes (List.toArray code) t1) ∧ m (PySem.Str.ofString "text") = some (.bytes (List.toArray text) t2) ∧
    m (PySem.Str.ofString "script") = m₀ (PySem.Str.ofString "script") ∧ P i code text
theorem my_for {l c₁ c₂ : Addr} {vs : List Value} {ns : List Int} {nn : Nat} {m₀ : PySem.Str → Option Value} {news : List (Addr × Obj)} {o1 o2 : Obj} {v1 v2 : Option Value} {t1 t2 : Tok} (P : Nat → List UInt8 → List UInt8 → Prop)
    (hh : A.handled = none) (F : Fr h₀ env.locals s.heap m₀) (N : News h₀ env.locals s.heap news) (hl : (l, listOf vs.toArray nn) ∈ news) (h1 : (c₁, o1) ∈ news) (h2 : (c₂, o2) ∈ news) (hi : IntsAre vs ns)
    (d1 : o1.data = .cell v1) (d2 : o2.data = .cell v2) (hc : m₀ (PySem.Str.ofString "code") = some (.bytes (List.toArray []) t1)) (ht : m₀ (PySem.Str.ofString "text") = some (.bytes (List.toArray []) t2)) (hP : P 0 [] [])
    (turn : ∀ i n tn code text t1 t2 (u : PySem.Str → Option Value) o1 o2 v1 v2 h tk own, ns[i]? = some n → i < ns.length → OwnOff own [l, c₂, c₁] → P i code text → o1.data = .cell v1 → o2.data = .cell v2 →
      Fr h₀ env.locals h (fun y => if y = x then some (.int n tn) else if y = PySem.Str.ofString "code" then some (.bytes (List.toArray code) t1) else if y = PySem.Str.ofString "text" then some (.bytes (List.toArray text) t2) else if y = PySem.Str.ofString "script" then m₀ y else u y) →
      News h₀ env.locals h ((l, listOf vs.toArray nn) :: (c₂, o2) :: (c₁, o1) :: own) →
      wpAny (model prog w) A (execs body env) (InvPostN h₀ env.locals (fun m' nx => (l, listOf vs.toArray nn) ∈ nx ∧ LInv c₁ c₂ m₀ P l (listOf vs.toArray nn) (i + 1) m' nx) own [l, c₂, c₁] { s with heap := h, toks := tk } Q) E { s with heap := h, toks := tk })
    (done : ∀ code text t1 t2 (u : PySem.Str → Option Value) o1 o2 v1 v2 h tk, P ns.length code text → o1.data = .cell v1 → o2.data = .cell v2 →
      Fr h₀ env.locals h (fun y => if y = PySem.Str.ofString "code" then some (.bytes (List.toArray code) t1) else if y = PySem.Str.ofString "text" then some (.bytes (List.toArray text) t2) else if y = PySem.Str.ofString "script" then m₀ y else u y) →
      News h₀ env.locals h [(c₂, o2), (c₁, o1)] → Q .next { s with heap := h, toks := tk }) :
    wpAny (model prog w) A (pyIter (.ref l)) (fun it s₂ => LoopAtV prog w A h₀ env x body Q E it s₂) E s := by
  have N' : News h₀ env.locals s.heap [(l, listOf vs.toArray nn), (c₂, o2), (c₁, o1)] := fun p hp => by
    simp only [List.mem_cons, List.not_mem_nil, or_false] at hp
    rcases hp with rfl | rfl | rfl
    · exact N _ hl
    · exact N _ h2
    · exact N _ h1
  refine iter_invNL (LInv c₁ c₂ m₀ P l (listOf vs.toArray nn)) hh (.head _) hi F N' ⟨[], [], t1, t2, o1, o2, v1, v2, rfl, d1, d2, hc, ht, rfl, hP⟩ ?_ ?_
  · rintro i n t m₁ news₁ h tk own hn hadr hoff _ ⟨code, text, t1, t2, o1, o2, v1, v2, rfl, d1, d2, hc, ht, hs, hP⟩ F₁ N₁
    refine turn i n t code text t1 t2 m₁ o1 o2 v1 v2 h tk own hn (by rcases Nat.lt_or_ge i ns.length with q | q; exact q; rw [List.getElem?_eq_none q] at hn; cases hn) hoff hP d1 d2 ?_ N₁
    have e : (fun y => if y = x then some (.int n t) else if y = PySem.Str.ofString "code" then some (.bytes (List.toArray code) t1) else if y = PySem.Str.ofString "text" then some (.bytes (List.toArray text) t2) else if y = PySem.Str.ofString "script" then m₀ y else m₁ y) = fun y => if y = x then some (.int n t) else m₁ y := by
      funext y
      by_cases e1 : y = x
      · simp [e1]
      by_cases e2 : y = PySem.Str.ofString "code"
      · simp only [if_neg e1, if_pos e2]; rw [e2, hc]
      by_cases e3 : y = PySem.Str.ofString "text"
      · simp only [if_neg e1, if_neg e2, if_pos e3]; rw [e3, ht]
      by_cases e4 : y = PySem.Str.ofString "script"
      · simp only [if_neg e1, if_neg e2, if_neg e3, if_pos e4]; rw [e4, hs]
      simp only [if_neg e1, if_neg e2, if_neg e3, if_neg e4]
    rw [e]
    exact F₁
  · rintro m₁ news₁ h tk _ ⟨code, text, t1, t2, o1, o2, v1, v2, rfl, d1, d2, hc, ht, hs, hP⟩ F₁ N₁
    refine done code text t1 t2 m₁ o1 o2 v1 v2 h tk hP d1 d2 ?_ (fun p hp => N₁ p (.tail _ hp))
    have e : (fun y => if y = PySem.Str.ofString "code" then some (.bytes (List.toArray code) t1) else if y = PySem.Str.ofString "text" then some (.bytes (List.toArray text) t2) else if y = PySem.Str.ofString "script" then m₀ y else m₁ y) = m₁ := by
      funext y
      by_cases e2 : y = PySem.Str.ofString "code"
      · simp only [if_pos e2]; rw [e2, hc]
      by_cases e3 : y = PySem.Str.ofString "text"
      · simp only [if_neg e2, if_pos e3]; rw [e3, ht]
      by_cases e4 : y = PySem.Str.ofString "script"
      · simp only [if_neg e2, if_neg e3, if_pos e4]; rw [e4, hs]
      simp only [if_neg e2, if_neg e3, if_neg e4]
    rw [e]
    exact F₁
end
/-- behind i pieces -/
structure PP (i : Nat) (code text : List UInt8) : Prop where
  tells : Tells code text
  lc : code.length ≤ 130 * i
  lt : text.length ≤ 128 * i
section
variable {prog : Program} {w : World} {A : Around} {E : Value → Shared → Prop} {s : Shared}
theorem my_add {b c : List UInt8} {t u : Tok} {Q : Value → Shared → Prop} (hsz : b.length + c.length ≤ 16777216) (h : ∀ t' k, Q (.bytes (List.toArray (b ++ c)) t') { s with toks := k }) :
    wpAny (model prog w) A (binaryOp .Add (.bytes (List.toArray b) t) (.bytes (List.toArray c) u)) Q E s := by
  refine KBy.add_bytes (by simpa using hsz) fun t' k => ?_
  rw [List.append_toArray]
  exact h t' k
theorem my_mul {c : UInt8} {n : Int} {t u : Tok} {Q : Value → Shared → Prop} (h0 : 0 ≤ n) (h1 : n ≤ 1000) (h : ∀ t' k, Q (.bytes (List.toArray (List.replicate n.toNat c)) t') { s with toks := k }) :
    wpAny (model prog w) A (binaryOp .Mult (.bytes (List.toArray [c]) t) (.int n u)) Q E s := by
  refine bytes_mul_any (by simp) (by omega) (by omega) (by simp) fun t' k => ?_
  have e : (List.replicate n.toNat [c]).flatten = List.replicate n.toNat c := by simp
  rw [e]
  exact h t' k
theorem ne_same {b : Array UInt8} {t u : Tok} {Q : Value → Shared → Prop} (h : Q (.bool false) s) : wpAny (model prog w) A (compareOp .NotEq (.bytes b t) (.bytes b u)) Q E s := ne_bytes (by simpa using h)
theorem eq_same {b : Array UInt8} {t u : Tok} {Q : Value → Shared → Prop} (h : Q (.bool true) s) : wpAny (model prog w) A (compareOp .Eq (.bytes b t) (.bytes b u)) Q E s := eq_bytes (by simpa using h)
end
theorem nmf_of {N₀ : Nat} {mg mb : PySem.Str → Option Value} {defs : List DefItem} {consts : List (PySem.Str × PyData)} {objs : List (PySem.Str × (Obj → Prop))} {names : List PySem.Str} {h : Heap} (G : Glob N₀ mg mb defs consts objs names h)
    (h1 : PySem.Str.ofString "next" ∉ names) (h2 : PySem.Str.ofString "range" ∉ names) (h3 : PySem.Str.ofString "iter" ∉ names) (h4 : PySem.Str.ofString "bytes" ∉ names) : NmF mg mb :=
  ⟨G.free _ h1 (by decide), (G.builtins _ (by decide)).trans (by kernel_rfl), G.free _ h2 (by decide), (G.builtins _ (by decide)).trans (by kernel_rfl), G.free _ h3 (by decide), (G.builtins _ (by decide)).trans (by kernel_rfl), G.free _ h4 (by decide), (G.builtins _ (by decide)).trans (by kernel_rfl)⟩
theorem PP.run {i : Nat} {code text : List UInt8} {a : Int} {y : UInt8} (h : PP i code text) (h0 : 2 ≤ a) (h1 : a ≤ 128) : PP (i + 1) (code ++ [((257 : Int) - a).toNat.toUInt8, y]) (text ++ List.replicate a.toNat y) := by
  have e : (((257 : Int) - a).toNat.toUInt8).toNat = ((257 : Int) - a).toNat := by
    show ((257 : Int) - a).toNat % 256 = _
    omega
  have e2 : a.toNat = 257 - (((257 : Int) - a).toNat.toUInt8).toNat := by rw [e]; omega
  refine ⟨h.tells.app ?_, ?_, ?_⟩
  · rw [e2]
    exact Tells.run (by rw [e]; omega)
  · have := h.lc
    simp only [List.length_append, List.length_cons, List.length_nil]
    omega
  · have := h.lt
    simp only [List.length_append, List.length_replicate]
    omega
theorem PP.lit {i N : Nat} {code text p : List UInt8} (h : PP i code text) (hp : p.length = N) (h0 : 1 ≤ N) (h1 : N ≤ 128) : PP (i + 1) ((code ++ [((N : Int) - 1).toNat.toUInt8]) ++ p) (text ++ p) := by
  have e : (((N : Int) - 1).toNat.toUInt8).toNat = N - 1 := by
    show ((N : Int) - 1).toNat % 256 = _
    omega
  refine ⟨?_, ?_, ?_⟩
  · rw [List.append_assoc]
    have hl : Tells (((N : Int) - 1).toNat.toUInt8 :: p) p := Tells.lit (by rw [e]; omega) (by rw [e]; omega)
    exact h.tells.app hl
  · have := h.lc
    simp only [List.length_append, List.length_cons, List.length_nil]
    omega
  · have := h.lt
    simp only [List.length_append]
    omega
theorem tells_ended {c t tail : List UInt8} (h : Tells c t) : ∃ k, dec k ((c ++ [128]) ++ tail) = some t := by
  obtain ⟨k, e⟩ := h.ended tail
  exact ⟨k, by rw [List.append_assoc]; exact e⟩
theorem dec_ended (c : List UInt8) : ∃ k, dec k ([128] ++ c) = some [] := ⟨1, dec_end c⟩
theorem dec_nothing : ∃ k, dec k [] = some [] := ⟨1, rfl⟩
end Mine
end
section
set_option maxRecDepth 100000
open PySem PySem.W PyProof.Rows
namespace Mine
open PySem.Calls PySem.Spec
/-- what a call of rldecode asks of the base -/
structure RC (K : Frag) (p : Program) (loose : List PySem.Str) (mg mb : PySem.Str → Option Value) (N₀ : Nat) (defs : List DefItem) (consts : List (PySem.Str × PyData)) (names : List PySem.Str) (bm : Addr) (ob : Obj) (h₁ : Heap) (f c P : Addr) (g : Heap) : Prop where
  X : K.In g
  hK : kb_classed K = true
  T : TopRead p loose mg mb g
  GL : Glob N₀ mg mb defs consts [] names g
  BM : BMod g mainGlobals mg bm ob
  B : ∃ ps, Based h₁ g c P ps
  nf : NmF mg mb
  ho : ∃ o pm doc, g.get? f = some o ∧ o.data = .func (docDef rlName rlParams rlBody rlScope pm (.ref c) doc)
  hcd : g.CodeRec (.ref c) rlName
section
variable {w : World} {A : Around} {E : Value → Shared → Prop} {s : Shared} {mg mb : PySem.Str → Option Value} {bm : Addr} {ob : Obj} {L P c f : Addr} {out : List UInt8} {b : List UInt8} {t : Tok}
  {h₁ h₀ : Heap} {m : PySem.Str → Option Value} {news : List (Addr × Obj)} {K : Frag} {p : Program} {loose : List PySem.Str} {N₀ : Nat} {defs : List DefItem} {consts : List (PySem.Str × PyData)} {names : List PySem.Str}
theorem rc_call {Q : Value → Shared → Prop} (F : Fr h₀ L s.heap m) (N : News h₀ L s.heap news) (C : RC K p loose mg mb N₀ defs consts names bm ob h₁ f c P h₀) (AB : AllBare s.gens)
    (hh : A.handled = none) (hroom : A.depth + 1 < recursionLimit) (hd : ∃ k, dec k b = some out) (hz : out.length ≤ 16777216)
    (h : ∀ (g : Heap) s' t', Fr g L s'.heap m → News g L s'.heap news → RC K p loose mg mb N₀ defs consts names bm ob h₁ f c P g → K.In g → TopRead p loose mg mb g → Glob N₀ mg mb defs consts [] names g → AllBare s'.gens →
      Below callerA g [] g → s'.os = s.os → Q (.bytes (List.toArray out) t') s') :
    wpAny (model PySem.Challenge.pw_co0038_01 w) A (call (.ref f) [.bytes (List.toArray b) t]) Q E s := by
  obtain ⟨ps, B⟩ := C.B
  obtain ⟨o, pm, doc, ho, hdat⟩ := C.ho
  refine rl_call F N C.X C.hK C.T C.GL C.BM B C.nf AB ho hdat C.hcd hh hroom hd (by rw [sizeLine_eq]; exact hz) fun g ps' s' t' F' N' X' T' GL' BM' B' AB' ho' hcd' bl' os' => ?_
  exact h g s' t' F' N' ⟨X', C.hK, T', GL', BM', ⟨ps', B'⟩, C.nf, ⟨o, pm, doc, ho', hdat⟩, hcd'⟩ X' T' GL' AB' bl' os'
end
end Mine
end
section
set_option maxRecDepth 100000
open PySem PySem.W PyProof.Rows
namespace Mine
open PySem.Calls PySem.Spec
section
variable {prog : Program} {w : World} {A : Around} {E : Value → Shared → Prop} {s : Shared} {value slice : PySem.Expr} {b : List UInt8} {t : Tok} {h₀ : Heap} {L : Addr} {m : PySem.Str → Option Value} {news : List (Addr × Obj)} {Q : Value → Shared → Prop}
theorem slice_40 {u : Tok} (hF : Fr h₀ L s.heap m) (hN : News h₀ L s.heap news) (hz : b.length ≤ 16777216)
    (h : ∀ h' t' k, Fr h₀ L h' m → News h₀ L h' news → Q (.bytes (List.toArray (b.take 40)) t') { s with heap := h', toks := k })
    (hs : subscripted slice false (.bytes (List.toArray b) t) (.ref s.heap.objs.size) = operate [.ref s.heap.objs.size, .bytes (List.toArray b) t] (getItem (.bytes (List.toArray b) t) (.ref s.heap.objs.size)) := by with_unfolding_all rfl)
    (ht : ∀ r, letTemporaryGo value (.bytes (List.toArray b) t) r = pure () := by intro _; with_unfolding_all rfl) :
    wpAny (model prog w) A (subscriptTail value slice (.bytes (List.toArray b) t) (.ref s.heap.objs.size)) Q E { s with heap := s.heap.push { cls := .type "slice", data := .fields #[.none, .int 40 u, .none] } } := by
  refine KBc.slice_K hF hN rfl .none (.int 40 u) (by rw [KBw.ints_length]; simpa using hz) (fun h' t' k F' N' _ => ?_) hs ht
  have e : KBy.picked (List.toArray b) none (some 40) = List.toArray (b.take 40) := by
    rw [KBc.picked_eq]
    have e40 : clipAt (List.toArray b).size 40 = min 40 b.length := by
      rw [List.size_toArray]; exact clipAt_nat _ 40
    simp only [Option.elim, e40, List.drop_zero, Nat.sub_zero]
    congr 1
    rcases Nat.lt_or_ge b.length 40 with q | q
    · rw [show min 40 b.length = b.length by omega, List.take_length, List.take_of_length_le (by omega)]
    · rw [show min 40 b.length = 40 by omega]
  rw [e]
  exact h h' t' k F' N'
theorem slice_one {i j : Int} {u v : Tok} (hF : Fr h₀ L s.heap m) (hN : News h₀ L s.heap news) (hz : b.length ≤ 16777216) (h0 : 0 ≤ i) (hj : j = i + 1)
    (h : ∀ h' t' k, Fr h₀ L h' m → News h₀ L h' news → Q (.bytes (List.toArray ((b.drop i.toNat).take 1)) t') { s with heap := h', toks := k })
    (hs : subscripted slice false (.bytes (List.toArray b) t) (.ref s.heap.objs.size) = operate [.ref s.heap.objs.size, .bytes (List.toArray b) t] (getItem (.bytes (List.toArray b) t) (.ref s.heap.objs.size)) := by with_unfolding_all rfl)
    (ht : ∀ r, letTemporaryGo value (.bytes (List.toArray b) t) r = pure () := by intro _; with_unfolding_all rfl) :
    wpAny (model prog w) A (subscriptTail value slice (.bytes (List.toArray b) t) (.ref s.heap.objs.size)) Q E { s with heap := s.heap.push { cls := .type "slice", data := .fields #[.int i u, .int j v, .none] } } := by
  refine KBc.slice_K hF hN rfl (.int i u) (.int j v) (by rw [KBw.ints_length]; simpa using hz) (fun h' t' k F' N' _ => ?_) hs ht
  have e : KBy.picked (List.toArray b) (some i) (some j) = List.toArray ((b.drop i.toNat).take 1) := by
    rw [KBc.picked_eq]
    obtain ⟨n, rfl⟩ : ∃ n : Nat, i = n := ⟨i.toNat, by omega⟩
    subst hj
    have e1 : clipAt (List.toArray b).size (n : Int) = min n b.length := by
      rw [List.size_toArray]; exact clipAt_nat _ n
    have e2 : clipAt (List.toArray b).size ((n : Int) + 1) = min (n + 1) b.length := by
      rw [List.size_toArray]; exact clipAt_nat _ (n + 1)
    simp only [Option.elim, e1, e2, Int.toNat_natCast]
    congr 1
    rcases Nat.lt_or_ge n b.length with hlt | hge
    · rw [show min n b.length = n by omega, show min (n + 1) b.length - n = 1 by omega]
    · rw [List.drop_eq_nil_of_le (by omega), List.drop_eq_nil_of_le (by omega)]
      simp
  rw [e]
  exact h h' t' k F' N'
theorem my_len (hz : b.length ≤ 16777216) (h : ∀ u k, Q (.int (b.length : Int) u) { s with toks := k }) : wpAny (model prog w) A (call (.builtin "len") [.bytes (List.toArray b) t]) Q E s := by
  refine len_bytes (by rw [List.size_toArray]; omega) ?_
  rw [List.size_toArray]
  exact h _ _
end
/-- the second laying, at place p -/
structure PI (short : List UInt8) (p : Int) (other : List UInt8) : Prop where
  lo : 0 ≤ p
  hi : p ≤ short.length
  tells : Tells other (short.take p.toNat)
  size : other.length ≤ 2 * p.toNat
theorem PI.start (short : List UInt8) : PI short 0 [] := ⟨Int.le_refl _, by omega, Tells.nil, Nat.zero_le _⟩
theorem PI.done {short other : List UInt8} {p : Int} (h : PI short p other) (hp : ¬ p < short.length) : Tells other short := by
  have e : p.toNat = short.length := by have := h.hi; omega
  have := h.tells
  rw [e, List.take_length] at this
  exact this
theorem take_one {short : List UInt8} {n : Nat} (h : n < short.length) : (short.drop n).take 1 = [short[n]] := by
  rw [List.drop_eq_getElem_cons h]; rfl
theorem PI.one {short other : List UInt8} {p : Int} (h : PI short p other) (hp : p < short.length) : PI short (p + 1) ((other ++ [0]) ++ (short.drop p.toNat).take 1) := by
  have hlo := h.lo
  have hn : p.toNat < short.length := by omega
  rw [take_one hn]
  refine ⟨by omega, by omega, ?_, ?_⟩
  · have e : (p + 1).toNat = p.toNat + 1 := by omega
    rw [e, List.append_assoc, List.take_add_one, List.getElem?_eq_getElem hn]
    have hl : Tells ((0 : UInt8) :: [short[p.toNat]]) [short[p.toNat]] := Tells.lit (by decide) rfl
    exact h.tells.app hl
  · have := h.size
    simp only [List.length_append, List.length_cons, List.length_nil]
    omega
theorem PI.two {short other : List UInt8} {p : Int} (h : PI short p other) (hp : p < short.length) (he : (short.drop p.toNat).take 1 = (short.drop (p + 1).toNat).take 1) : PI short (p + 2) ((other ++ [255]) ++ (short.drop p.toNat).take 1) := by
  have hlo := h.lo
  have hn : p.toNat < short.length := by omega
  have e1 : (p + 1).toNat = p.toNat + 1 := by omega
  rw [e1, take_one hn] at he
  have hn2 : p.toNat + 1 < short.length := by
    rcases Nat.lt_or_ge (p.toNat + 1) short.length with q | q
    · exact q
    · rw [List.drop_eq_nil_of_le q] at he; cases he
  rw [take_one hn2] at he
  have ey : short[p.toNat] = short[p.toNat + 1] := by injection he
  rw [take_one hn]
  refine ⟨by omega, by omega, ?_, ?_⟩
  · have e : (p + 2).toNat = p.toNat + 1 + 1 := by omega
    rw [e, List.append_assoc, List.take_add_one, List.take_add_one, List.getElem?_eq_getElem hn, List.getElem?_eq_getElem hn2, ← ey, List.append_assoc]
    exact h.tells.app (Tells.run (x := 255) (y := short[p.toNat]) (by decide))
  · have := h.size
    simp only [List.length_append, List.length_cons, List.length_nil]
    omega
def WEnd (h₀ : Heap) (L : Addr) (s : Shared) (m₀ : PySem.Str → Option Value) (short : List UInt8) (p : Int) (s₂ : Shared) : Prop :=
  ∃ h' tk m' p' other' to tp, s₂ = { s with heap := h', toks := tk } ∧ Fr h₀ L h' m' ∧ m' (PySem.Str.ofString "other") = some (.bytes (List.toArray other') to) ∧ m' (PySem.Str.ofString "place") = some (.int p' tp) ∧
    (∀ z, z ≠ PySem.Str.ofString "other" → z ≠ PySem.Str.ofString "place" → z ≠ PySem.Str.ofString "twice" → m' z = m₀ z) ∧ p < p' ∧ PI short p' other'
def WPost (h₀ : Heap) (L : Addr) (s : Shared) (m₀ : PySem.Str → Option Value) (short : List UInt8) (p : Int) (Q : Flow → Shared → Prop) (f : Flow) (s₂ : Shared) : Prop :=
  match f with
  | .ret v => Q (.ret v) s₂
  | .brk => Q .next s₂
  | _ => WEnd h₀ L s m₀ short p s₂
section
variable {prog : Program} {w : World} {A : Around} {E : Value → Shared → Prop} {s : Shared} {env : Env} {h₀ : Heap} {L : Addr} {Q : Flow → Shared → Prop} {m₀ : PySem.Str → Option Value} {news : List (Addr × Obj)}
theorem my_while {test : Expr} {body : List Stmt} {pos : Pos} {t1 t2 : Tok} (short : List UInt8) (F : Fr h₀ L s.heap m₀) (N : News h₀ L s.heap news)
    (ho : m₀ (PySem.Str.ofString "other") = some (.bytes (List.toArray []) t1)) (hp : m₀ (PySem.Str.ofString "place") = some (.int 0 t2))
    (turn : ∀ p other to tp (u : PySem.Str → Option Value) h tk, PI short p other → Fr h₀ L h (fun y => if y = PySem.Str.ofString "other" then some (.bytes (List.toArray other) to) else if y = PySem.Str.ofString "place" then some (.int p tp) else if y = PySem.Str.ofString "twice" then u y else m₀ y) → News h₀ L h [] →
      wpAny (model prog w) A (isTrue test env (eval test env)) (fun b s₂ => if b = true then wpAny (model prog w) A (execs body env) (WPost h₀ L s m₀ short p Q) E s₂ else Q .next s₂) E { s with heap := h, toks := tk })
    (hE : PassesOwn (model prog w) A env E := by passes_own) :
    wpAny (model prog w) A (exec (.While test body [] pos) env) Q E s := by
  refine While_inv2 (fun n m nx => nx = [] ∧ ∃ p other to tp, n = short.length - p.toNat ∧ m (PySem.Str.ofString "other") = some (.bytes (List.toArray other) to) ∧ m (PySem.Str.ofString "place") = some (.int p tp) ∧
    (∀ z, z ≠ PySem.Str.ofString "other" → z ≠ PySem.Str.ofString "place" → z ≠ PySem.Str.ofString "twice" → m z = m₀ z) ∧ PI short p other) F (News.nil (h₀ := h₀) (h := s.heap) (L := L)) ⟨rfl, 0, [], t1, t2, rfl, ho, hp, fun _ _ _ _ => rfl, PI.start short⟩ ?_ hE
  rintro n m₁ nx h tk F₁ N₁ ⟨rfl, p, other, to, tp, rfl, h1, h2, h3, hI⟩
  have e : (fun y => if y = PySem.Str.ofString "other" then some (.bytes (List.toArray other) to) else if y = PySem.Str.ofString "place" then some (.int p tp) else if y = PySem.Str.ofString "twice" then m₁ y else m₀ y) = m₁ := by
    funext y
    by_cases q1 : y = PySem.Str.ofString "other"
    · simp only [if_pos q1]; rw [q1, h1]
    by_cases q2 : y = PySem.Str.ofString "place"
    · simp only [if_neg q1, if_pos q2]; rw [q2, h2]
    by_cases q3 : y = PySem.Str.ofString "twice"
    · simp only [if_neg q1, if_neg q2, if_pos q3]
    · simp only [if_neg q1, if_neg q2, if_neg q3]; exact (h3 y q1 q2 q3).symm
  refine wpAny_mono (turn p other to tp m₁ h tk hI (by rw [e]; exact F₁) N₁) (fun b s₂ q => ?_) fun _ _ x => x
  cases b with
  | false => simpa using q
  | true =>
    simp only [if_true] at q ⊢
    refine wpAny_mono q (fun f s₃ q => ?_) fun _ _ x => x
    have fin : WEnd h₀ L s m₀ short p s₃ → WhileStep2 h₀ L s (fun n m nx => nx = [] ∧ ∃ p other to tp, n = short.length - p.toNat ∧ m (PySem.Str.ofString "other") = some (.bytes (List.toArray other) to) ∧ m (PySem.Str.ofString "place") = some (.int p tp) ∧
        (∀ z, z ≠ PySem.Str.ofString "other" → z ≠ PySem.Str.ofString "place" → z ≠ PySem.Str.ofString "twice" → m z = m₀ z) ∧ PI short p other) Q (short.length - p.toNat) .next s₃ := by
      rintro ⟨h', tk', m', p', other', to', tp', rfl, F', g1, g2, g3, hlt, hI'⟩
      refine ⟨h', tk', m', [], short.length - p'.toNat, rfl, F', News.nil, ?_, rfl, p', other', to', tp', rfl, g1, g2, g3, hI'⟩
      have a1 := hI.lo
      have a2 := hI'.hi
      omega
    cases f with
    | ret v => exact q
    | brk => exact q
    | next => exact fin q
    | cont => exact fin q
theorem my_while40 {test : Expr} {body : List Stmt} {pos : Pos} {t1 t2 : Tok} {code text : List UInt8} (_hT : Tells code text) (F : Fr h₀ L s.heap m₀) (_N : News h₀ L s.heap news)
    (ho : m₀ (PySem.Str.ofString "other") = some (.bytes (List.toArray []) t1)) (hp : m₀ (PySem.Str.ofString "place") = some (.int 0 t2))
    (turn : ∀ p other to tp (u : PySem.Str → Option Value) h tk, PI (text.take 40) p other → Fr h₀ L h (fun y => if y = PySem.Str.ofString "other" then some (.bytes (List.toArray other) to) else if y = PySem.Str.ofString "place" then some (.int p tp) else if y = PySem.Str.ofString "twice" then u y else m₀ y) → News h₀ L h [] →
      wpAny (model prog w) A (isTrue test env (eval test env)) (fun b s₂ => if b = true then wpAny (model prog w) A (execs body env) (WPost h₀ L s m₀ (text.take 40) p Q) E s₂ else Q .next s₂) E { s with heap := h, toks := tk })
    (hE : PassesOwn (model prog w) A env E := by passes_own) :
    wpAny (model prog w) A (exec (.While test body [] pos) env) Q E s := my_while (text.take 40) F _N ho hp turn hE
end
section
variable {c : ClaimW} {cl : PySem.Str → Option Addr} {mean : ExcName → Option Value} {args : List WData} {s₁ s' : Shared} {L P cc f bm : Addr} {m mg mb : PySem.Str → Option Value} {g : Heap} {K : Frag} {p : Program} {loose : List PySem.Str} {N₀ : Nat} {defs : List DefItem} {consts : List (PySem.Str × PyData)} {names : List PySem.Str} {ob : Obj}
/-- the end: the last call's base reads, and True goes out -/
theorem RC.fin (C : RC K p loose mg mb N₀ defs consts names bm ob s₁.heap f cc P g) (F : Fr g L s'.heap m) (AB : AllBare s'.gens) (hn : ∀ cls, c.raises args cls = false) (hu : c.unshared = true → ([] : List Addr).Nodup ∧ ∀ a ∈ ([] : List Addr), s₁.heap.get? a = none) (hp : c.post args (.bool true) args = true) (hos : s'.os = s₁.os) :
    GoodWG c cl mean args s₁ (.ok (.ret (.bool true))) s' :=
  let ⟨_, B⟩ := C.B
  goodWG_reads B F AB hn (.bool true) hu hp hos
end
theorem post_true (args : List WData) : PySem.Challenge.rw_co0038_01.row.claim.post args (.bool true) args = true := postW_of (by wrow_shape) (by wtm_val) (by str_meet; first | done | w_fin)
end Mine
end
open PySem PySem.W PyProof.Rows PySem.Calls PySem.Spec
local macro_rules | `(tactic| walk_at "exec For Name Subscript cons nil") => `(tactic| (k_here; (rename Fr _ _ _ _ => lF'); (with_unfolding_all refine' For_invVF lF' ?k1 ?k2 ?_; (case k1 => exact rfl); (case k2 => exact rfl); k_whole)))
local macro_rules | `(tactic| walk_at "pyIter ref") => `(tactic| (k_here; (with_reducible show wpAny _ _ (pyIter (Value.ref _)) (fun it s₂ => LoopAtV _ _ _ _ _ _ _ _ _ it s₂) _ _); (rename Fr _ _ _ _ => lF'); (rename News _ _ _ _ => lN'); (rename IntsAre _ _ => lI'); (with_unfolding_all refine' Mine.my_for Mine.PP ?hh lF' lN' ?hl ?h1 ?h2 lI' ?d1 ?d2 ?hc ?ht ?hP ?turn ?done); (case hh => exact rfl); (case hl => exact List.Mem.head _); (case h1 => exact List.Mem.tail _ (List.Mem.tail _ (List.Mem.tail _ (List.Mem.tail _ (List.Mem.tail _ (List.Mem.tail _ (List.Mem.tail _ (List.Mem.head _)))))))); (case h2 => exact List.Mem.tail _ (List.Mem.tail _ (List.Mem.tail _ (List.Mem.tail _ (List.Mem.tail _ (List.Mem.tail _ (List.Mem.head _))))))); (case d1 => assumption); (case d2 => assumption); (case hc => exact rfl); (case ht => exact rfl); (case hP => exact ⟨Mine.Tells.nil, Nat.le_refl _, Nat.le_refl _⟩); (case' turn => (intro i n tn code text t1 t2 u o1 o2 v1 v2 h tk own hn' hi' hoff' hP' d1' d2' F' N'; have hlc := Mine.PP.lc hP'; have hlt := Mine.PP.lt hP'; have hi8 : i < 8 := Nat.lt_of_lt_of_le hi' (by simp only [List.length_take, List.length_append, List.length_cons, List.length_nil]; omega))); (case' done => (intro code text t1 t2 u o1 o2 v1 v2 h tk hP' d1' d2' F' N'; have hTe := Mine.PP.tells hP'; have hns8 := Mine.PP.lc hP'; have hns7 := Mine.PP.lt hP'; simp only [List.length_take, List.length_append, List.length_cons, List.length_nil] at hns7 hns8; clear hP'))))
local macro_rules | `(tactic| walk_at "call type:bytes") => `(tactic| (k_here; (with_reducible show wpAny _ _ (call (Value.type _) [Value.ref _]) _ _ _); k_dflt (refine' bytes_K ?F ?N ?l ?i ?r ?z ?h ?_; (case F => k_asm); (case N => k_asm); (case l => is_list); (case i => first | l_ints | l_intsW); (case r => (simp only [List.forall_mem_cons, List.not_mem_nil, false_implies, implies_true, and_true]; (simp only [Int.fmod_eq_emod_of_nonneg _ (by decide : (0 : Int) ≤ 256), Int.fmod_eq_emod_of_nonneg _ (by decide : (0 : Int) ≤ 127), Int.fmod_eq_emod_of_nonneg _ (by decide : (0 : Int) ≤ 5)]); omega)); (case z => first | size_fits | (simp only [sizeLine_eq, List.length_cons, List.length_nil]; decide)); (case h => with_unfolding_all rfl); k_whole); intro h' t' k' F' N' hB'; (repeat ((have hb9 := AllB.head hB'); (replace hB' := AllB.tail hB'))); (try dsimp only [List.map]); (try k_sweep)))
local macro_rules | `(tactic| walk_at "binaryOp Add bytes bytes") => `(tactic| (k_here; k_dflt (refine' Mine.my_add ?z ?_; (case z => ((try simp only [List.length_append, List.length_cons, List.length_nil, List.length_map, List.length_replicate, List.length_take, List.length_drop, rangeKs_length]); (try simp only [Int.fmod_eq_emod_of_nonneg _ (by decide : (0 : Int) ≤ 256), Int.fmod_eq_emod_of_nonneg _ (by decide : (0 : Int) ≤ 127), Int.fmod_eq_emod_of_nonneg _ (by decide : (0 : Int) ≤ 5), Int.fmod_eq_emod_of_nonneg _ (by decide : (0 : Int) ≤ 29), Int.fmod_eq_emod_of_nonneg _ (by decide : (0 : Int) ≤ 9)]); omega)); k_whole); intro _ _))
local macro_rules | `(tactic| walk_at "binaryOp Mult bytes int") => `(tactic| (k_here; k_dflt (refine' Mine.my_mul ?h0 ?h1 ?_; (case h0 => ((try simp only [Int.fmod_eq_emod_of_nonneg _ (by decide : (0 : Int) ≤ 127), Int.fmod_eq_emod_of_nonneg _ (by decide : (0 : Int) ≤ 5)]); omega)); (case h1 => ((try simp only [Int.fmod_eq_emod_of_nonneg _ (by decide : (0 : Int) ≤ 127), Int.fmod_eq_emod_of_nonneg _ (by decide : (0 : Int) ≤ 5)]); omega)); k_whole); intro _ _))
local macro_rules | `(tactic| walk_at "InvEndN") => `(tactic| (refine' InvEndN.intro ?F ?N ⟨List.Mem.head _, _, _, _, _, _, _, _, _, rfl, ?d1, ?d2, ?c, ?t, ?s, ?P⟩ ?a ?n ?o; (case F => assumption); (case N => assumption); (case a => rfl); (case n => (with_unfolding_all ((try simp only [List.nil_append, List.cons_append]); k_allIn))); (case o => (intro p hp; k_ownIn)); (case d1 => assumption); (case d2 => assumption); (case c => with_unfolding_all rfl); (case t => with_unfolding_all rfl); (case s => with_unfolding_all rfl); (case P => first
  | (refine Mine.PP.run (by assumption) ?_ ?_ <;> (simp only [Int.fmod_eq_emod_of_nonneg _ (by decide : (0 : Int) ≤ 127), Int.fmod_eq_emod_of_nonneg _ (by decide : (0 : Int) ≤ 5)]; omega))
  | (refine Mine.PP.lit (by assumption) ?_ ?_ ?_ <;> ((try simp only [List.length_map, rangeKs_length]) <;> (try simp only [Int.fmod_eq_emod_of_nonneg _ (by decide : (0 : Int) ≤ 29), Int.fmod_eq_emod_of_nonneg _ (by decide : (0 : Int) ≤ 9)]) <;> omega)))))
local macro_rules | `(tactic| walk_at "compareOp NotEq bytes bytes") => `(tactic| (k_here; k_dflt (refine Mine.ne_same ?_)))
local macro_rules | `(tactic| walk_at "compareOp Eq bytes bytes") => `(tactic| (k_here; (with_reducible refine Mine.eq_same ?_)))
local macro_rules | `(tactic| walk_at "call ref") => `(tactic| (k_here; (with_reducible show wpAny _ _ (call (Value.ref _) [Value.bytes _ _]) _ _ _); k_dflt (refine' Mine.rc_call ?F ?N ?C ?AB ?hh ?hroom ?hd ?hz ?_; (case F => assumption); (case N => assumption); (case C => assumption); (case AB => first | assumption | exact AllBare.of_eq (by assumption)); (case hh => exact rfl); (case hroom => (simp only [depth_deeper, depth_caller]; decide)); (case hd => first | exact Mine.Tells.whole (by assumption) | exact Mine.tells_ended (by assumption) | exact Mine.dec_ended _ | exact Mine.dec_nothing | exact Mine.Tells.whole (Mine.PI.done (by assumption) (by omega)) | exact Mine.Tells.whole (Mine.Tells.app (Mine.PI.done (by assumption) (by omega)) (by assumption))); (case hz => ((try simp only [List.length_append, List.length_nil, List.length_take]); omega))); intro g9 s9 t9 F9 N9 C9 X9 T9 GL9 AB9 bl9 os9))
local macro_rules | `(tactic| walk_at "leaving ref") => `(tactic| (exfalso; (rename decide _ = false => hq9); (have q9 := of_decide_eq_false hq9); apply q9; apply List.eq_nil_of_length_eq_zero; omega))
local macro_rules | `(tactic| walk_at "subscriptTail") => `(tactic| (k_here; (with_reducible show wpAny _ _ (subscriptTail _ (Expr.Slice none _ none _) (Value.bytes _ _) (Value.ref _)) _ _ _); (with_reducible rename Fr _ _ _ _ => F'); (with_reducible rename News _ _ _ _ => N'); k_dflt (refine Mine.slice_40 (s := ⟨_, _, _, _, _⟩) F' N' ?z ?_; (case z => omega); intro _ _ _ _ _)))
local macro_rules | `(tactic| walk_at "subscriptTail") => `(tactic| (k_here; (with_reducible show wpAny _ _ (subscriptTail _ (Expr.Slice (some _) _ none _) (Value.bytes _ _) (Value.ref _)) _ _ _); (with_reducible rename Fr _ _ _ _ => F'); (with_reducible rename News _ _ _ _ => N'); k_dflt (refine Mine.slice_one (s := ⟨_, _, _, _, _⟩) F' N' ?z ?h0 ?hj ?_; (case z => simp only [List.length_take]; omega); (case h0 => omega); (case hj => omega); intro _ _ _ _ _)))
local macro_rules | `(tactic| walk_at "call builtin:len") => `(tactic| (k_here; (with_reducible show wpAny _ _ (call _ [Value.bytes _ _]) _ _ _); k_dflt (refine Mine.my_len ?z ?_; (case z => simp only [List.length_take]; omega)); intro _ _))
local macro_rules | `(tactic| walk_at "exec While Compare cons nil") => `(tactic| (k_here; (rename Mine.Tells _ _ => hT'); (rename Fr _ _ _ _ => lF'); (rename News _ _ _ _ => lN'); (with_unfolding_all refine' Mine.my_while40 hT' lF' lN' ?ho ?hp ?_; (case ho => with_unfolding_all exact rfl); (case hp => with_unfolding_all exact rfl)); intro p other to tp u h tk hPI F' N'; have hlo9 := Mine.PI.lo hPI; have hhi9 := Mine.PI.hi hPI; have hsz9 := Mine.PI.size hPI; simp only [List.length_take] at hhi9))
local macro_rules | `(tactic| walk_at "WPost") => `(tactic| (dsimp only [Mine.WPost]))
local macro_rules | `(tactic| walk_at "WEnd") => `(tactic| (refine' ⟨_, _, _, _, _, _, _, rfl, ?F, ?ho, ?hp, ?same, ?lt, ?I⟩; (case F => assumption); (case ho => with_unfolding_all rfl); (case hp => with_unfolding_all rfl); (case same => (intro z h1 h2 h3; first | (simp only [h1, h2, h3, if_false]; done) | (simp [h1, h2, h3]; done) | (simp_all; done))); (case lt => omega); (case I => first | (refine Mine.PI.two (by assumption) (by assumption) (eq_of_beq (by assumption))) | (refine Mine.PI.one (by assumption) (by assumption)))))
set_option maxHeartbeats 16000000 in
theorem PySem.Challenge.cw_co0038_01_holds : PySem.Challenge.rw_co0038_01.Holds := by
  w_on
  o_law
  k_head
  (case hw => w_witness2)
  w_strict (
    lgec_go0
    all_goals try k_fold
    rename_i f9 c9 P9 o9 pm9 doc9 e1 e2 e3 e4 e5 f8 c8 P8 o8 pm8 doc8 d1 d2 d3 d4 d5 B8 lgm
    rename Glob _ _ _ _ _ _ _ _ => GL9
    rename Frag.In _ _ => KX9
    rename Top _ _ _ _ _ _ => T9
    rename BMod _ _ _ _ _ => M9
    have e21 := mg_of (n := PySem.Str.ofString "rldecode") (v := .ref 21) KX9 T9.g (by k_is)
    have e22 := Value.ref.inj (Option.some.inj (e1.symm.trans e21))
    subst e22
    have C9 := Mine.RC.mk (f := 21) KX9 rfl (topRead_of T9) GL9 M9 ⟨_, e5⟩ (Mine.nmf_of GL9 (by decide) (by decide) (by decide) (by decide)) ⟨_, _, _, e2, e3⟩ e4
    clear d1 d2 d3 d4 d5 e1 e2 e3 e4 e5 e21
    lge_steps
    all_goals (refine Mine.RC.fin (by assumption) (by assumption) (by first | assumption | exact AllBare.of_eq (by assumption)) ?hn ?hu ?hp ?ho; (case hn => exact fun _ => rfl); (case hu => first | exact unshared_nil | exact fun _ => ⟨List.nodup_nil, fun _ h => nomatch h⟩); (case hp => exact Mine.post_true _); (case ho => (dsimp only; (repeat (first | rfl | (refine Eq.trans (by assumption) ?_; dsimp only)))))))
