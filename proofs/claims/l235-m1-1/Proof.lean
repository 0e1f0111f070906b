import JvmDerived
import JvmDerived.Pilot.@@N@@Statement
import JvmDerived.Pilot.@@N@@Code
set_option linter.unusedVariables false
set_option linter.unusedSimpArgs false
namespace Jvm.Pilot.@@N@@
open Jvm Jvm.ClassFile Sem Op Lib Jvm.Free Jvm.Stand Jvm.LawKit Jvm.RoadKit Bundle Jvm.Pilot.@@N@@.Jvm.D
/-! own_Ends: from the state T the run ends well -/
def own_Ends (p : Program) (e : Env) (below : List Frame) (P : State → Outcome → Prop) (T : State) : Prop := ∃ U o, Steps p.tables e below T U ∧ U.status = .running ∧ Ended U below o ∧ P U o
def own_Got (s : State) (Q : Option Value → Heap → List Loc → Prop) (C N : Nat) (U : State) (o : Outcome) : Prop := ∃ v L, o = .returned v ∧ Q v U.heap L ∧ FrameEnd s o U L C N
section Own
variable {p : Program} {l : Launch} {e : Env} {R : Room} {s : State} {m : MethodId} {args : Array Value} {below : List Frame} {meth : Method} {c : Code} {T T' : State} {locs : List Loc} {cells slots : Nat} {P : State → Outcome → Prop}
theorem own_go (h : ∀ target, Steps p.tables e below T' target → Steps p.tables e below T target) (k : own_Ends p e below P T') : own_Ends p e below P T := by
  obtain ⟨U, o, h1, h2⟩ := k; exact ⟨U, o, h _ h1, h2⟩
theorem own_tr (h : Steps p.tables e below T T') (k : own_Ends p e below P T') : own_Ends p e below P T := by
  obtain ⟨U, o, h1, h2⟩ := k; exact ⟨U, o, h.trans h1, h2⟩
variable {Q : Option Value → Heap → List Loc → Prop} {C N : Nat}
theorem own_ret (X : Stand p l e R s m args below meth c T locs cells slots) (hx : p.tables.exec = Jvm.exec) (lk : meth.locks = false) {pc : Nat} {Ls : Array Slot} {w : Value} {t : FieldType} {i : Instr} {rest : List Value} (hret : meth.sig.returnType = some t) (hn : narrow t w = w)
    (hi : (i = .ireturn ∧ (t = .int ∨ t = .boolean ∨ t = .byte ∨ t = .char ∨ t = .short) ∧ ∃ z, w = .int z) ∨ (i = .lreturn ∧ t = .long ∧ ∃ z, w = .long z) ∨ (i = .dreturn ∧ t = .double ∧ ∃ z, w = .double z) ∨ (i = .freturn ∧ t = .float ∧ ∃ z, w = .float z) ∨ (i = .areturn ∧ t.isReference = true ∧ w.isRef = true))
    (hd : decode c.code pc = .ok (i, 1)) (hC : cells ≤ C) (hN : slots ≤ N) (hq : Q (some w) T.heap locs) : own_Ends p e below (own_Got s Q C N) (T.setTop (mkF m pc Ls (w :: rest))) := by
  obtain ⟨fs, hr, hrun, hended, hW, hsame⟩ := X.leave (v := some w) (fun h => by rw [hret] at h; cases h) lk
  exact ⟨_, _, retOut X hx hret hn hi hd hr, hrun, hended, _, _, rfl, hq, ⟨_, rfl⟩, hW, hsame.mono hC hN⟩
theorem own_retI (X : Stand p l e R s m args below meth c T locs cells slots) (hx : p.tables.exec = Jvm.exec) (lk : meth.locks = false) {pc : Nat} {Ls : Array Slot} {z : Int32} {rest : List Value} (hret : meth.sig.returnType = some .int)
    (hd : decode c.code pc = .ok (.ireturn, 1)) (hC : cells ≤ C) (hN : slots ≤ N) (hq : Q (some (.int z)) T.heap locs) : own_Ends p e below (own_Got s Q C N) (T.setTop (mkF m pc Ls (.int z :: rest))) :=
  own_ret X hx lk hret rfl (Or.inl ⟨rfl, Or.inl rfl, _, rfl⟩) hd hC hN hq
theorem own_retZ (X : Stand p l e R s m args below meth c T locs cells slots) (hx : p.tables.exec = Jvm.exec) (lk : meth.locks = false) {pc : Nat} {Ls : Array Slot} {z : Int32} {rest : List Value} (hret : meth.sig.returnType = some .boolean) (hn : narrow .boolean (.int z) = .int z)
    (hd : decode c.code pc = .ok (.ireturn, 1)) (hC : cells ≤ C) (hN : slots ≤ N) (hq : Q (some (.int z)) T.heap locs) : own_Ends p e below (own_Got s Q C N) (T.setTop (mkF m pc Ls (.int z :: rest))) :=
  own_ret X hx lk hret hn (Or.inl ⟨rfl, Or.inr (Or.inl rfl), _, rfl⟩) hd hC hN hq
theorem own_retJ (X : Stand p l e R s m args below meth c T locs cells slots) (hx : p.tables.exec = Jvm.exec) (lk : meth.locks = false) {pc : Nat} {Ls : Array Slot} {z : Int64} {rest : List Value} (hret : meth.sig.returnType = some .long)
    (hd : decode c.code pc = .ok (.lreturn, 1)) (hC : cells ≤ C) (hN : slots ≤ N) (hq : Q (some (.long z)) T.heap locs) : own_Ends p e below (own_Got s Q C N) (T.setTop (mkF m pc Ls (.long z :: rest))) :=
  own_ret X hx lk hret rfl (Or.inr (Or.inl ⟨rfl, rfl, _, rfl⟩)) hd hC hN hq
theorem own_retR (X : Stand p l e R s m args below meth c T locs cells slots) (hx : p.tables.exec = Jvm.exec) (lk : meth.locks = false) {pc : Nat} {Ls : Array Slot} {w : Value} {t : FieldType} {rest : List Value} (hret : meth.sig.returnType = some t) (ht : t.isReference = true) (hw : w.isRef = true)
    (hd : decode c.code pc = .ok (.areturn, 1)) (hC : cells ≤ C) (hN : slots ≤ N) (hq : Q (some w) T.heap locs) : own_Ends p e below (own_Got s Q C N) (T.setTop (mkF m pc Ls (w :: rest))) :=
  own_ret X hx lk hret (by rcases ref_cases hw with rfl | ⟨a, rfl⟩ <;> cases t <;> first | rfl | exact absurd ht (by decide)) (Or.inr (Or.inr (Or.inr (Or.inr ⟨rfl, ht, hw⟩)))) hd hC hN hq
theorem own_retV (X : Stand p l e R s m args below meth c T locs cells slots) (hx : p.tables.exec = Jvm.exec) (lk : meth.locks = false) {pc : Nat} {Ls : Array Slot} {st : List Value} (hret : meth.sig.returnType = none)
    (hd : decode c.code pc = .ok (.return_, 1)) (hC : cells ≤ C) (hN : slots ≤ N) (hq : Q none T.heap locs) : own_Ends p e below (own_Got s Q C N) (T.setTop (mkF m pc Ls [])) := by
  obtain ⟨fs, hr, hrun, hended, hW, hsame⟩ := X.leave (v := none) (fun _ => rfl) lk
  exact ⟨_, _, X.returnOut hx hret hd hr, hrun, hended, _, _, rfl, hq, ⟨_, rfl⟩, hW, hsame.mono hC hN⟩
theorem own_fldI {Z : State} {a : Addr} {av : Array Value} {t : Term} {k : Int32} {C n d : String} (ev : t.eval av Z none [] Z = some (.ref a)) (h : (Jvm.Cond.eq (.field t C n d) (.int k)).value av Z none Z [] = some true) : Fld Z Z.heap a C n d (.int k) := by
  obtain ⟨x, y, ex, ey, k1, k2⟩ := cmp_v (Or.inl h)
  cases (Term.int_eval (args := av) (first := Z) (o := none) (idx := []) (s := Z) k).symm.trans ey
  obtain ⟨z, rfl⟩ := k2
  obtain rfl : z = k := gotT (Cond.eq_ints ex (Term.int_eval k)) h
  exact Fld.start ((fld_at ev).symm.trans ex)
theorem own_fldJ {Z : State} {a : Addr} {av : Array Value} {t : Term} {k : Int64} {C n d : String} (ev : t.eval av Z none [] Z = some (.ref a)) (h : (Jvm.Cond.eq (.field t C n d) (.long k)).value av Z none Z [] = some true) : Fld Z Z.heap a C n d (.long k) := by
  obtain ⟨x, y, ex, ey, k1, k2⟩ := cmp_v (Or.inl h)
  cases (long_at (args := av) (first := Z) (o := none) (idx := []) (s := Z) k).symm.trans ey
  obtain ⟨z, rfl⟩ := k2
  obtain rfl : z = k := gotT (eq_L ex (long_at k)) h
  exact Fld.start ((fld_at ev).symm.trans ex)
theorem own_staJ {Z : State} {av : Array Value} {k : Int64} {t : Term} (h : (Jvm.Cond.eq t (.long k)).value av Z none Z [] = some true) : t.eval av Z none [] Z = some (.long k) := by
  obtain ⟨x, y, ex, ey, k1, k2⟩ := cmp_v (Or.inl h)
  cases (long_at (args := av) (first := Z) (o := none) (idx := []) (s := Z) k).symm.trans ey
  obtain ⟨z, rfl⟩ := k2
  obtain rfl : z = k := gotT (eq_L ex (long_at k)) h
  exact ex
theorem own_staI {Z : State} {av : Array Value} {k : Int32} {t : Term} (h : (Jvm.Cond.eq t (.int k)).value av Z none Z [] = some true) : t.eval av Z none [] Z = some (.int k) := by
  obtain ⟨x, y, ex, ey, k1, k2⟩ := cmp_v (Or.inl h)
  cases (Term.int_eval (args := av) (first := Z) (o := none) (idx := []) (s := Z) k).symm.trans ey
  obtain ⟨z, rfl⟩ := k2
  obtain rfl : z = k := gotT (Cond.eq_ints ex (Term.int_eval k)) h
  exact ex
end Own
theorem own_d1_0 : decode prog_38_method_4_code 0 = .ok (.aload_n 0, 1) := by decide +kernel
theorem own_d1_1 : decode prog_38_method_4_code 1 = .ok (.getstatic 3, 3) := by decide +kernel
theorem own_d1_4 : decode prog_38_method_4_code 4 = .ok (.if_acmp .eq 21, 3) := by decide +kernel
theorem own_d1_7 : decode prog_38_method_4_code 7 = .ok (.aload_n 0, 1) := by decide +kernel
theorem own_d1_8 : decode prog_38_method_4_code 8 = .ok (.getstatic 43, 3) := by decide +kernel
theorem own_d1_11 : decode prog_38_method_4_code 11 = .ok (.if_acmp .eq 14, 3) := by decide +kernel
theorem own_d1_14 : decode prog_38_method_4_code 14 = .ok (.aload_n 0, 1) := by decide +kernel
theorem own_d1_15 : decode prog_38_method_4_code 15 = .ok (.getstatic 46, 3) := by decide +kernel
theorem own_d1_18 : decode prog_38_method_4_code 18 = .ok (.if_acmp .eq 7, 3) := by decide +kernel
theorem own_d1_21 : decode prog_38_method_4_code 21 = .ok (.iconst 1, 1) := by decide +kernel
theorem own_d1_22 : decode prog_38_method_4_code 22 = .ok (.goto 4, 3) := by decide +kernel
theorem own_d1_25 : decode prog_38_method_4_code 25 = .ok (.iconst 0, 1) := by decide +kernel
theorem own_d1_26 : decode prog_38_method_4_code 26 = .ok (.ireturn, 1) := by decide +kernel
theorem own_ef_own_isInteger (m : MethodId) (x0 : Addr) : entryFrame m #[(.ref x0)] 1 = mkF m 0 #[.val (.ref x0)] [] := by first | (simp [entryFrame, mkF, argsToLocals, Value.category]; done) | rfl
def Q_own_isInteger (Z : State) (a : Addr) (r : Int32) (a_VOID : Addr) (a_FLOATING : Addr) (a_POINTER : Addr) (h0 : Heap) (n0 : Nat) (v : Option Value) (h : Heap) (L : List Loc) : Prop := v = some (.int r) ∧ Fr n0 L ∧ h = h0
theorem own_pn_com_example_abstract_and_refine_abstractandrefine_c_CType : plainName "com/example/abstract_and_refine/abstractandrefine/c/CType" = true := by first | (simp [plainName, overriddenIn]; done) | decide +kernel
set_option maxRecDepth 65536 in
set_option maxHeartbeats 40000000 in
theorem own_isInteger (l : Launch) (Z : State) (a0 : Array Value) (hw : ∀ d ∈ tables_1, d.before a0 Z = true) (ws : List Jvm.Cond) (a : Addr) (r : Int32) (a_VOID : Addr) (a_FLOATING : Addr) (a_POINTER : Addr) (h0 : Heap) (n0 : Nat) (O0 : Old Z n0 h0) (S_VOID : Sta Z Z.heap "com/example/abstract_and_refine/abstractandrefine/c/CType" "VOID" "Lcom/example/abstract_and_refine/abstractandrefine/c/CType;" (.ref a_VOID)) (S_FLOATING : Sta Z Z.heap "com/example/abstract_and_refine/abstractandrefine/c/CType" "FLOATING" "Lcom/example/abstract_and_refine/abstractandrefine/c/CType;" (.ref a_FLOATING)) (S_POINTER : Sta Z Z.heap "com/example/abstract_and_refine/abstractandrefine/c/CType" "POINTER" "Lcom/example/abstract_and_refine/abstractandrefine/c/CType;" (.ref a_POINTER)) (hr : r = if a = a_VOID then 0 else if a = a_FLOATING then 0 else if a = a_POINTER then 0 else 1) :
    MetFree l (⟨"com/example/abstract_and_refine/abstractandrefine/c/CType", "isInteger", "()Z"⟩ : MethodName) (head1 (Jvm.Cond.code (⟨"com/example/abstract_and_refine/abstractandrefine/c/CType", "isInteger", "()Z"⟩ : MethodName) prog_38_method_4_code 1 (some .boolean) :: ws) ({ frames := 0, cells := 0, slots := 0, locals := 0 } : Room)) (fun args_ U => args_ = #[(.ref a)] ∧ Z.Warmed39 U.vm ∧ U.heap = h0) (fun _ _ _ _ _ => True) (fun _ U o U' => ∃ v L, o = .returned v ∧ Q_own_isInteger Z a r a_VOID a_FLOATING a_POINTER h0 n0 v U'.heap L ∧ FrameEnd U o U' L ({ frames := 0, cells := 0, slots := 0, locals := 0 } : Room).cells ({ frames := 0, cells := 0, slots := 0, locals := 0 } : Room).slots) := by
  refine MetFree.of_bodySF (plainFor_of_name own_pn_com_example_abstract_and_refine_abstractandrefine_c_CType) hisR ?_
  intro pP eE sS mM args below meth cC s₁ Bd hml0 hP hK
  obtain ⟨rfl, hZ, hh⟩ := hP
  have hx := Bd.exec
  have hby := Bd.bytes
  have hml : cC.maxLocals = 1 := hml0
  have hown : sS.vm.findClass "com/example/abstract_and_refine/abstractandrefine/c/CType" = some mM.cls := findClass_of_methodNamed Bd.named
  have hnm := (name_of_methodNamed Bd.named Bd.method).1
  have X0 : Stand pP l eE ({ frames := 0, cells := 0, slots := 0, locals := 0 } : Room) sS mM #[(.ref a)] below meth cC s₁ [] 0 0 := Stand.of_body Bd
  have e0 : s₁.heap = h0 := by rw [← hh, Bd.state]; rfl
  have N0 := Fr.nil n0
  show own_Ends pP eE below (own_Got sS (Q_own_isInteger Z a r a_VOID a_FLOATING a_POINTER h0 n0) ({ frames := 0, cells := 0, slots := 0, locals := 0 } : Room).cells ({ frames := 0, cells := 0, slots := 0, locals := 0 } : Room).slots) (s₁.setTop (entryFrame mM #[(.ref a)] 1))
  rw [own_ef_own_isInteger mM a]
  refine own_go (fun _ k => XS.aloadN X0.here hx rfl (hb hby own_d1_0) rfl rfl k) ?_
  show own_Ends _ _ _ _ (s₁.setTop (mkF mM 1 #[.val (.ref a)] [(.ref a)]))
  obtain ⟨T1, X1, e1, st1⟩ := getS2 X0 hx hZ hown (host := "") (Or.inl (hw _ (List.mem_of_getElem? (i := 40) rfl))) Via.refl e0 (S_VOID.ext O0.2) (g := (mkF mM 1 #[.val (.ref a)] [(.ref a)])) rfl (hb hby own_d1_1)
  refine own_go st1 ?_
  show own_Ends _ _ _ _ (T1.setTop (mkF mM 4 #[.val (.ref a)] [(.ref a_VOID), (.ref a)]))
  by_cases ha4_1 : a = a_VOID
  · refine own_go (fun _ k => Jvm.RoadKit.acmp (g := (mkF mM 4 #[.val (.ref a)] [(.ref a_VOID), (.ref a)])) X1 hx rfl rfl rfl (pc0 := 4) (pc' := 25) (same := true) rfl (hb hby own_d1_4) rfl (decide_eq_true (congrArg Value.ref ha4_1)) (by decide) (by decide) k) ?_
    show own_Ends _ _ _ _ (T1.setTop (mkF mM 25 #[.val (.ref a)] []))
    refine own_go (fun _ k => XS.iconst X1.here hx rfl (hb hby own_d1_25) k) ?_
    show own_Ends _ _ _ _ (T1.setTop (mkF mM 26 #[.val (.ref a)] [(.int (0 : Int32))]))
    exact own_retZ X1 hx (BodyLoose.notSynchronized Bd) Bd.returns rfl (hb hby own_d1_26) (by decide) (by decide) (by rw [e1]; exact ⟨by rw [hr, if_pos ha4_1], N0, rfl⟩)
  · refine own_go (fun _ k => Jvm.RoadKit.acmp (g := (mkF mM 4 #[.val (.ref a)] [(.ref a_VOID), (.ref a)])) X1 hx rfl rfl rfl (pc0 := 4) (pc' := 7) (same := false) rfl (hb hby own_d1_4) rfl (decide_eq_false fun q => ha4_1 (Value.ref.inj q)) (by decide) (by decide) k) ?_
    show own_Ends _ _ _ _ (T1.setTop (mkF mM 7 #[.val (.ref a)] []))
    refine own_go (fun _ k => XS.aloadN X1.here hx rfl (hb hby own_d1_7) rfl rfl k) ?_
    show own_Ends _ _ _ _ (T1.setTop (mkF mM 8 #[.val (.ref a)] [(.ref a)]))
    obtain ⟨T3, X3, e3, st3⟩ := getS2 X1 hx hZ hown (host := "") (Or.inl (hw _ (List.mem_of_getElem? (i := 41) rfl))) Via.refl e1 (S_FLOATING.ext O0.2) (g := (mkF mM 8 #[.val (.ref a)] [(.ref a)])) rfl (hb hby own_d1_8)
    refine own_go st3 ?_
    show own_Ends _ _ _ _ (T3.setTop (mkF mM 11 #[.val (.ref a)] [(.ref a_FLOATING), (.ref a)]))
    by_cases ha11_3 : a = a_FLOATING
    · refine own_go (fun _ k => Jvm.RoadKit.acmp (g := (mkF mM 11 #[.val (.ref a)] [(.ref a_FLOATING), (.ref a)])) X3 hx rfl rfl rfl (pc0 := 11) (pc' := 25) (same := true) rfl (hb hby own_d1_11) rfl (decide_eq_true (congrArg Value.ref ha11_3)) (by decide) (by decide) k) ?_
      show own_Ends _ _ _ _ (T3.setTop (mkF mM 25 #[.val (.ref a)] []))
      refine own_go (fun _ k => XS.iconst X3.here hx rfl (hb hby own_d1_25) k) ?_
      show own_Ends _ _ _ _ (T3.setTop (mkF mM 26 #[.val (.ref a)] [(.int (0 : Int32))]))
      exact own_retZ X3 hx (BodyLoose.notSynchronized Bd) Bd.returns rfl (hb hby own_d1_26) (by decide) (by decide) (by rw [e3]; exact ⟨by rw [hr, if_neg ha4_1, if_pos ha11_3], N0, rfl⟩)
    · refine own_go (fun _ k => Jvm.RoadKit.acmp (g := (mkF mM 11 #[.val (.ref a)] [(.ref a_FLOATING), (.ref a)])) X3 hx rfl rfl rfl (pc0 := 11) (pc' := 14) (same := false) rfl (hb hby own_d1_11) rfl (decide_eq_false fun q => ha11_3 (Value.ref.inj q)) (by decide) (by decide) k) ?_
      show own_Ends _ _ _ _ (T3.setTop (mkF mM 14 #[.val (.ref a)] []))
      refine own_go (fun _ k => XS.aloadN X3.here hx rfl (hb hby own_d1_14) rfl rfl k) ?_
      show own_Ends _ _ _ _ (T3.setTop (mkF mM 15 #[.val (.ref a)] [(.ref a)]))
      obtain ⟨T5, X5, e5, st5⟩ := getS2 X3 hx hZ hown (host := "") (Or.inl (hw _ (List.mem_of_getElem? (i := 42) rfl))) Via.refl e3 (S_POINTER.ext O0.2) (g := (mkF mM 15 #[.val (.ref a)] [(.ref a)])) rfl (hb hby own_d1_15)
      refine own_go st5 ?_
      show own_Ends _ _ _ _ (T5.setTop (mkF mM 18 #[.val (.ref a)] [(.ref a_POINTER), (.ref a)]))
      by_cases ha18_5 : a = a_POINTER
      · refine own_go (fun _ k => Jvm.RoadKit.acmp (g := (mkF mM 18 #[.val (.ref a)] [(.ref a_POINTER), (.ref a)])) X5 hx rfl rfl rfl (pc0 := 18) (pc' := 25) (same := true) rfl (hb hby own_d1_18) rfl (decide_eq_true (congrArg Value.ref ha18_5)) (by decide) (by decide) k) ?_
        show own_Ends _ _ _ _ (T5.setTop (mkF mM 25 #[.val (.ref a)] []))
        refine own_go (fun _ k => XS.iconst X5.here hx rfl (hb hby own_d1_25) k) ?_
        show own_Ends _ _ _ _ (T5.setTop (mkF mM 26 #[.val (.ref a)] [(.int (0 : Int32))]))
        exact own_retZ X5 hx (BodyLoose.notSynchronized Bd) Bd.returns rfl (hb hby own_d1_26) (by decide) (by decide) (by rw [e5]; exact ⟨by rw [hr, if_neg ha4_1, if_neg ha11_3, if_pos ha18_5], N0, rfl⟩)
      · refine own_go (fun _ k => Jvm.RoadKit.acmp (g := (mkF mM 18 #[.val (.ref a)] [(.ref a_POINTER), (.ref a)])) X5 hx rfl rfl rfl (pc0 := 18) (pc' := 21) (same := false) rfl (hb hby own_d1_18) rfl (decide_eq_false fun q => ha18_5 (Value.ref.inj q)) (by decide) (by decide) k) ?_
        show own_Ends _ _ _ _ (T5.setTop (mkF mM 21 #[.val (.ref a)] []))
        refine own_go (fun _ k => XS.iconst X5.here hx rfl (hb hby own_d1_21) k) ?_
        show own_Ends _ _ _ _ (T5.setTop (mkF mM 22 #[.val (.ref a)] [(.int (1 : Int32))]))
        refine own_go (fun _ k => XS.goto X5.here hx rfl (pc0 := 22) (pc' := 26) rfl (hb hby own_d1_22) (by decide) (by decide) k) ?_
        show own_Ends _ _ _ _ (T5.setTop (mkF mM 26 #[.val (.ref a)] [(.int (1 : Int32))]))
        exact own_retZ X5 hx (BodyLoose.notSynchronized Bd) Bd.returns rfl (hb hby own_d1_26) (by decide) (by decide) (by rw [e5]; exact ⟨by rw [hr, if_neg ha4_1, if_neg ha11_3, if_neg ha18_5], N0, rfl⟩)
theorem own_cases (p : Int32) : ((p &&& (2147483647 : Int32)) % (15 : Int32)) = (0 : Int32) ∨ ((p &&& (2147483647 : Int32)) % (15 : Int32)) = (1 : Int32) ∨ ((p &&& (2147483647 : Int32)) % (15 : Int32)) = (2 : Int32) ∨ ((p &&& (2147483647 : Int32)) % (15 : Int32)) = (3 : Int32) ∨ ((p &&& (2147483647 : Int32)) % (15 : Int32)) = (4 : Int32) ∨ ((p &&& (2147483647 : Int32)) % (15 : Int32)) = (5 : Int32) ∨ ((p &&& (2147483647 : Int32)) % (15 : Int32)) = (6 : Int32) ∨ ((p &&& (2147483647 : Int32)) % (15 : Int32)) = (7 : Int32) ∨ ((p &&& (2147483647 : Int32)) % (15 : Int32)) = (8 : Int32) ∨ ((p &&& (2147483647 : Int32)) % (15 : Int32)) = (9 : Int32) ∨ ((p &&& (2147483647 : Int32)) % (15 : Int32)) = (10 : Int32) ∨ ((p &&& (2147483647 : Int32)) % (15 : Int32)) = (11 : Int32) ∨ ((p &&& (2147483647 : Int32)) % (15 : Int32)) = (12 : Int32) ∨ ((p &&& (2147483647 : Int32)) % (15 : Int32)) = (13 : Int32) ∨ ((p &&& (2147483647 : Int32)) % (15 : Int32)) = (14 : Int32) := by
  have h1 := c_mask p 2147483647 31 (by decide) (by decide)
  have h2 := (c_irem (p &&& (2147483647 : Int32)) (15 : Int32) 15 rfl).1
  generalize ((p &&& (2147483647 : Int32)) % (15 : Int32)) = y at *
  have k : y.toInt = 0 ∨ y.toInt = 1 ∨ y.toInt = 2 ∨ y.toInt = 3 ∨ y.toInt = 4 ∨ y.toInt = 5 ∨ y.toInt = 6 ∨ y.toInt = 7 ∨ y.toInt = 8 ∨ y.toInt = 9 ∨ y.toInt = 10 ∨ y.toInt = 11 ∨ y.toInt = 12 ∨ y.toInt = 13 ∨ y.toInt = 14 := by omega
  rcases k with k | k | k | k | k | k | k | k | k | k | k | k | k | k | k
  · exact Or.inl (Int32.toInt_inj.mp k)
  · exact Or.inr (Or.inl (Int32.toInt_inj.mp k))
  · exact Or.inr (Or.inr (Or.inl (Int32.toInt_inj.mp k)))
  · exact Or.inr (Or.inr (Or.inr (Or.inl (Int32.toInt_inj.mp k))))
  · exact Or.inr (Or.inr (Or.inr (Or.inr (Or.inl (Int32.toInt_inj.mp k)))))
  · exact Or.inr (Or.inr (Or.inr (Or.inr (Or.inr (Or.inl (Int32.toInt_inj.mp k))))))
  · exact Or.inr (Or.inr (Or.inr (Or.inr (Or.inr (Or.inr (Or.inl (Int32.toInt_inj.mp k)))))))
  · exact Or.inr (Or.inr (Or.inr (Or.inr (Or.inr (Or.inr (Or.inr (Or.inl (Int32.toInt_inj.mp k))))))))
  · exact Or.inr (Or.inr (Or.inr (Or.inr (Or.inr (Or.inr (Or.inr (Or.inr (Or.inl (Int32.toInt_inj.mp k)))))))))
  · exact Or.inr (Or.inr (Or.inr (Or.inr (Or.inr (Or.inr (Or.inr (Or.inr (Or.inr (Or.inl (Int32.toInt_inj.mp k))))))))))
  · exact Or.inr (Or.inr (Or.inr (Or.inr (Or.inr (Or.inr (Or.inr (Or.inr (Or.inr (Or.inr (Or.inl (Int32.toInt_inj.mp k)))))))))))
  · exact Or.inr (Or.inr (Or.inr (Or.inr (Or.inr (Or.inr (Or.inr (Or.inr (Or.inr (Or.inr (Or.inr (Or.inl (Int32.toInt_inj.mp k))))))))))))
  · exact Or.inr (Or.inr (Or.inr (Or.inr (Or.inr (Or.inr (Or.inr (Or.inr (Or.inr (Or.inr (Or.inr (Or.inr (Or.inl (Int32.toInt_inj.mp k)))))))))))))
  · exact Or.inr (Or.inr (Or.inr (Or.inr (Or.inr (Or.inr (Or.inr (Or.inr (Or.inr (Or.inr (Or.inr (Or.inr (Or.inr (Or.inl (Int32.toInt_inj.mp k))))))))))))))
  · exact Or.inr (Or.inr (Or.inr (Or.inr (Or.inr (Or.inr (Or.inr (Or.inr (Or.inr (Or.inr (Or.inr (Or.inr (Or.inr (Or.inr (Int32.toInt_inj.mp k))))))))))))))
theorem own_pd0 : parseMethodDescriptor "()Z" = some ⟨[], some .boolean⟩ := by decide +kernel
theorem own_ef_own_law (m : MethodId) (x0 : Int32) : entryFrame m #[(.int x0)] maxLocals = mkF m 0 #[.val (.int x0), .unset, .unset, .unset] [] := by first | (simp [entryFrame, mkF, argsToLocals, Value.category, maxLocals]; done) | rfl
def Q_own_law (Z : State) (p0 : Int32) (a_VOID : Addr) (a_BOOL : Addr) (a_CHAR : Addr) (a_SIGNED_CHAR : Addr) (a_UNSIGNED_CHAR : Addr) (a_SHORT : Addr) (a_UNSIGNED_SHORT : Addr) (a_INT : Addr) (a_UNSIGNED_INT : Addr) (a_LONG : Addr) (a_UNSIGNED_LONG : Addr) (a_LONG_LONG : Addr) (a_UNSIGNED_LONG_LONG : Addr) (a_FLOATING : Addr) (a_POINTER : Addr) (h0 : Heap) (n0 : Nat) (v : Option Value) (h : Heap) (L : List Loc) : Prop := v = some (.int 1) ∧ Fr n0 L
theorem own_pn_com_example_abstract_and_refine_abstractandrefine_c_CTypeIsIntegerPinLaw : plainName "com/example/abstract_and_refine/abstractandrefine/c/CTypeIsIntegerPinLaw" = true := by first | (simp [plainName, overriddenIn]; done) | decide +kernel
set_option maxRecDepth 65536 in
set_option maxHeartbeats 40000000 in
theorem own_law (l : Launch) (Z : State) (a0 : Array Value) (hw : ∀ d ∈ tables_1, d.before a0 Z = true) (ws : List Jvm.Cond) (p0 : Int32) (a_VOID : Addr) (a_BOOL : Addr) (a_CHAR : Addr) (a_SIGNED_CHAR : Addr) (a_UNSIGNED_CHAR : Addr) (a_SHORT : Addr) (a_UNSIGNED_SHORT : Addr) (a_INT : Addr) (a_UNSIGNED_INT : Addr) (a_LONG : Addr) (a_UNSIGNED_LONG : Addr) (a_LONG_LONG : Addr) (a_UNSIGNED_LONG_LONG : Addr) (a_FLOATING : Addr) (a_POINTER : Addr) (h0 : Heap) (n0 : Nat) (O0 : Old Z n0 h0) (S_VOID : Sta Z Z.heap "com/example/abstract_and_refine/abstractandrefine/c/CType" "VOID" "Lcom/example/abstract_and_refine/abstractandrefine/c/CType;" (.ref a_VOID)) (E_VOID : Exa Z Z.heap a_VOID "com/example/abstract_and_refine/abstractandrefine/c/CType") (F_VOID_ordinal : Fld Z Z.heap a_VOID "java/lang/Enum" "ordinal" "I" (.int (0 : Int32))) (S_BOOL : Sta Z Z.heap "com/example/abstract_and_refine/abstractandrefine/c/CType" "BOOL" "Lcom/example/abstract_and_refine/abstractandrefine/c/CType;" (.ref a_BOOL)) (E_BOOL : Exa Z Z.heap a_BOOL "com/example/abstract_and_refine/abstractandrefine/c/CType") (F_BOOL_ordinal : Fld Z Z.heap a_BOOL "java/lang/Enum" "ordinal" "I" (.int (1 : Int32))) (S_CHAR : Sta Z Z.heap "com/example/abstract_and_refine/abstractandrefine/c/CType" "CHAR" "Lcom/example/abstract_and_refine/abstractandrefine/c/CType;" (.ref a_CHAR)) (E_CHAR : Exa Z Z.heap a_CHAR "com/example/abstract_and_refine/abstractandrefine/c/CType") (F_CHAR_ordinal : Fld Z Z.heap a_CHAR "java/lang/Enum" "ordinal" "I" (.int (2 : Int32))) (S_SIGNED_CHAR : Sta Z Z.heap "com/example/abstract_and_refine/abstractandrefine/c/CType" "SIGNED_CHAR" "Lcom/example/abstract_and_refine/abstractandrefine/c/CType;" (.ref a_SIGNED_CHAR)) (E_SIGNED_CHAR : Exa Z Z.heap a_SIGNED_CHAR "com/example/abstract_and_refine/abstractandrefine/c/CType") (F_SIGNED_CHAR_ordinal : Fld Z Z.heap a_SIGNED_CHAR "java/lang/Enum" "ordinal" "I" (.int (3 : Int32))) (S_UNSIGNED_CHAR : Sta Z Z.heap "com/example/abstract_and_refine/abstractandrefine/c/CType" "UNSIGNED_CHAR" "Lcom/example/abstract_and_refine/abstractandrefine/c/CType;" (.ref a_UNSIGNED_CHAR)) (E_UNSIGNED_CHAR : Exa Z Z.heap a_UNSIGNED_CHAR "com/example/abstract_and_refine/abstractandrefine/c/CType") (F_UNSIGNED_CHAR_ordinal : Fld Z Z.heap a_UNSIGNED_CHAR "java/lang/Enum" "ordinal" "I" (.int (4 : Int32))) (S_SHORT : Sta Z Z.heap "com/example/abstract_and_refine/abstractandrefine/c/CType" "SHORT" "Lcom/example/abstract_and_refine/abstractandrefine/c/CType;" (.ref a_SHORT)) (E_SHORT : Exa Z Z.heap a_SHORT "com/example/abstract_and_refine/abstractandrefine/c/CType") (F_SHORT_ordinal : Fld Z Z.heap a_SHORT "java/lang/Enum" "ordinal" "I" (.int (5 : Int32))) (S_UNSIGNED_SHORT : Sta Z Z.heap "com/example/abstract_and_refine/abstractandrefine/c/CType" "UNSIGNED_SHORT" "Lcom/example/abstract_and_refine/abstractandrefine/c/CType;" (.ref a_UNSIGNED_SHORT)) (E_UNSIGNED_SHORT : Exa Z Z.heap a_UNSIGNED_SHORT "com/example/abstract_and_refine/abstractandrefine/c/CType") (F_UNSIGNED_SHORT_ordinal : Fld Z Z.heap a_UNSIGNED_SHORT "java/lang/Enum" "ordinal" "I" (.int (6 : Int32))) (S_INT : Sta Z Z.heap "com/example/abstract_and_refine/abstractandrefine/c/CType" "INT" "Lcom/example/abstract_and_refine/abstractandrefine/c/CType;" (.ref a_INT)) (E_INT : Exa Z Z.heap a_INT "com/example/abstract_and_refine/abstractandrefine/c/CType") (F_INT_ordinal : Fld Z Z.heap a_INT "java/lang/Enum" "ordinal" "I" (.int (7 : Int32))) (S_UNSIGNED_INT : Sta Z Z.heap "com/example/abstract_and_refine/abstractandrefine/c/CType" "UNSIGNED_INT" "Lcom/example/abstract_and_refine/abstractandrefine/c/CType;" (.ref a_UNSIGNED_INT)) (E_UNSIGNED_INT : Exa Z Z.heap a_UNSIGNED_INT "com/example/abstract_and_refine/abstractandrefine/c/CType") (F_UNSIGNED_INT_ordinal : Fld Z Z.heap a_UNSIGNED_INT "java/lang/Enum" "ordinal" "I" (.int (8 : Int32))) (S_LONG : Sta Z Z.heap "com/example/abstract_and_refine/abstractandrefine/c/CType" "LONG" "Lcom/example/abstract_and_refine/abstractandrefine/c/CType;" (.ref a_LONG)) (E_LONG : Exa Z Z.heap a_LONG "com/example/abstract_and_refine/abstractandrefine/c/CType") (F_LONG_ordinal : Fld Z Z.heap a_LONG "java/lang/Enum" "ordinal" "I" (.int (9 : Int32))) (S_UNSIGNED_LONG : Sta Z Z.heap "com/example/abstract_and_refine/abstractandrefine/c/CType" "UNSIGNED_LONG" "Lcom/example/abstract_and_refine/abstractandrefine/c/CType;" (.ref a_UNSIGNED_LONG)) (E_UNSIGNED_LONG : Exa Z Z.heap a_UNSIGNED_LONG "com/example/abstract_and_refine/abstractandrefine/c/CType") (F_UNSIGNED_LONG_ordinal : Fld Z Z.heap a_UNSIGNED_LONG "java/lang/Enum" "ordinal" "I" (.int (10 : Int32))) (S_LONG_LONG : Sta Z Z.heap "com/example/abstract_and_refine/abstractandrefine/c/CType" "LONG_LONG" "Lcom/example/abstract_and_refine/abstractandrefine/c/CType;" (.ref a_LONG_LONG)) (E_LONG_LONG : Exa Z Z.heap a_LONG_LONG "com/example/abstract_and_refine/abstractandrefine/c/CType") (F_LONG_LONG_ordinal : Fld Z Z.heap a_LONG_LONG "java/lang/Enum" "ordinal" "I" (.int (11 : Int32))) (S_UNSIGNED_LONG_LONG : Sta Z Z.heap "com/example/abstract_and_refine/abstractandrefine/c/CType" "UNSIGNED_LONG_LONG" "Lcom/example/abstract_and_refine/abstractandrefine/c/CType;" (.ref a_UNSIGNED_LONG_LONG)) (E_UNSIGNED_LONG_LONG : Exa Z Z.heap a_UNSIGNED_LONG_LONG "com/example/abstract_and_refine/abstractandrefine/c/CType") (F_UNSIGNED_LONG_LONG_ordinal : Fld Z Z.heap a_UNSIGNED_LONG_LONG "java/lang/Enum" "ordinal" "I" (.int (12 : Int32))) (S_FLOATING : Sta Z Z.heap "com/example/abstract_and_refine/abstractandrefine/c/CType" "FLOATING" "Lcom/example/abstract_and_refine/abstractandrefine/c/CType;" (.ref a_FLOATING)) (E_FLOATING : Exa Z Z.heap a_FLOATING "com/example/abstract_and_refine/abstractandrefine/c/CType") (F_FLOATING_ordinal : Fld Z Z.heap a_FLOATING "java/lang/Enum" "ordinal" "I" (.int (13 : Int32))) (S_POINTER : Sta Z Z.heap "com/example/abstract_and_refine/abstractandrefine/c/CType" "POINTER" "Lcom/example/abstract_and_refine/abstractandrefine/c/CType;" (.ref a_POINTER)) (E_POINTER : Exa Z Z.heap a_POINTER "com/example/abstract_and_refine/abstractandrefine/c/CType") (F_POINTER_ordinal : Fld Z Z.heap a_POINTER "java/lang/Enum" "ordinal" "I" (.int (14 : Int32))) :
    MetFree l x (head1 (Jvm.Cond.code x code maxLocals ret :: ws) room_1) (fun args_ U => args_ = #[(.int p0)] ∧ Z.Warmed39 U.vm ∧ U.heap = h0) (fun _ _ _ _ _ => True) (fun _ U o U' => ∃ v L, o = .returned v ∧ Q_own_law Z p0 a_VOID a_BOOL a_CHAR a_SIGNED_CHAR a_UNSIGNED_CHAR a_SHORT a_UNSIGNED_SHORT a_INT a_UNSIGNED_INT a_LONG a_UNSIGNED_LONG a_LONG_LONG a_UNSIGNED_LONG_LONG a_FLOATING a_POINTER h0 n0 v U'.heap L ∧ FrameEnd U o U' L 16 128) := by
  refine MetFree.of_bodySF (plainFor_of_name own_pn_com_example_abstract_and_refine_abstractandrefine_c_CTypeIsIntegerPinLaw) hisR ?_
  intro pP eE sS mM args below meth cC s₁ Bd hml0 hP hK
  obtain ⟨rfl, hZ, hh⟩ := hP
  have hx := Bd.exec
  have hby := Bd.bytes
  have hml : cC.maxLocals = 4 := hml0
  have hown : sS.vm.findClass "com/example/abstract_and_refine/abstractandrefine/c/CTypeIsIntegerPinLaw" = some mM.cls := findClass_of_methodNamed Bd.named
  have hnm := (name_of_methodNamed Bd.named Bd.method).1
  have X0 : Stand pP l eE room_1 sS mM #[(.int p0)] below meth cC s₁ [] 0 0 := Stand.of_body Bd
  have e0 : s₁.heap = h0 := by rw [← hh, Bd.state]; rfl
  have N0 := Fr.nil n0
  show own_Ends pP eE below (own_Got sS (Q_own_law Z p0 a_VOID a_BOOL a_CHAR a_SIGNED_CHAR a_UNSIGNED_CHAR a_SHORT a_UNSIGNED_SHORT a_INT a_UNSIGNED_INT a_LONG a_UNSIGNED_LONG a_LONG_LONG a_UNSIGNED_LONG_LONG a_FLOATING a_POINTER h0 n0) 16 128) (s₁.setTop (entryFrame mM #[(.int p0)] maxLocals))
  rw [own_ef_own_law mM p0]
  refine own_go (fun _ k => XS.bipush X0.here hx rfl (hb hby at_0) k) ?_
  show own_Ends _ _ _ _ (s₁.setTop (mkF mM 2 #[.val (.int p0), .unset, .unset, .unset] [(.int (15 : Int32))]))
  obtain ⟨T1, h1, ka1, X1, e1, E1, A1, Ov1, st1⟩ := newR X0 hx hZ hown (hw _ (List.mem_of_getElem? (i := 0) rfl)) (hw _ (List.mem_of_getElem? (i := 1) rfl)) e0 (g := (mkF mM 2 #[.val (.int p0), .unset, .unset, .unset] [(.int (15 : Int32))])) rfl (hb hby at_2) rfl (by decide) (cap := 15) (by decide) (by decide) (by decide) (by decide)
  obtain ⟨b1, g1⟩ : ∃ z, z = h0.size := ⟨_, rfl⟩
  rw [← g1] at A1 st1
  have O1 := O0.ext E1
  have g_b1 : n0 ≤ b1 := by rw [g1, ← O0.1]; exact O0.2.1
  have V_b1 : Arv Z h1 b1 ka1 (.object "com/example/abstract_and_refine/abstractandrefine/c/CType") (15 : Int32) [.null, .null, .null, .null, .null, .null, .null, .null, .null, .null, .null, .null, .null, .null, .null] .null := (Arv.new A1 (by decide)).pad (pad_rep [] .null 15)
  refine own_go st1 ?_
  show own_Ends _ _ _ _ (T1.setTop (mkF mM 5 #[.val (.int p0), .unset, .unset, .unset] [(.ref b1)]))
  refine own_go (fun _ k => XS.dup X1.here hx rfl (hb hby at_5) rfl rfl k) ?_
  show own_Ends _ _ _ _ (T1.setTop (mkF mM 6 #[.val (.int p0), .unset, .unset, .unset] [(.ref b1), (.ref b1)]))
  refine own_go (fun _ k => XS.iconst X1.here hx rfl (hb hby at_6) k) ?_
  show own_Ends _ _ _ _ (T1.setTop (mkF mM 7 #[.val (.int p0), .unset, .unset, .unset] [(.int (0 : Int32)), (.ref b1), (.ref b1)]))
  obtain ⟨T2, X2, e2, st2⟩ := getS2 X1 hx hZ hown (host := "") (Or.inl (hw _ (List.mem_of_getElem? (i := 2) rfl))) Via.refl e1 (S_VOID.ext O1.2) (g := (mkF mM 7 #[.val (.int p0), .unset, .unset, .unset] [(.int (0 : Int32)), (.ref b1), (.ref b1)])) rfl (hb hby at_7)
  refine own_go st2 ?_
  show own_Ends _ _ _ _ (T2.setTop (mkF mM 10 #[.val (.int p0), .unset, .unset, .unset] [(.ref a_VOID), (.int (0 : Int32)), (.ref b1), (.ref b1)]))
  obtain ⟨cl3, Ar3, aq3, aS3, aN3, aH3, aG3⟩ := id V_b1
  have hin3 : ¬ ((0 : Int32) < 0 ∨ cl3.slots.size ≤ ((0 : Int32)).toNatClampNeg) := inb_of aS3 ⟨by decide, by decide⟩
  obtain ⟨T4, h4, X4, e4, W4, st4⟩ := stR X2 hx hZ e2 Ar3 (j := (0 : Int32)) hin3 rfl (Sto.ofV Ar3 aq3 Ov1 (Ins.self (E_VOID.ext O1.2))) (g := (mkF mM 10 #[.val (.int p0), .unset, .unset, .unset] [(.ref a_VOID), (.int (0 : Int32)), (.ref b1), (.ref b1)])) rfl rfl (hb hby at_10)
  have V4 : Arv Z h4 b1 ka1 (.object "com/example/abstract_and_refine/abstractandrefine/c/CType") (15 : Int32) [(.ref a_VOID), .null, .null, .null, .null, .null, .null, .null, .null, .null, .null, .null, .null, .null, .null] .null := Arv.set Ar3 aq3 aS3 aN3 aH3 aG3 rfl W4 0 rfl (Nat.le_of_ble_eq_true rfl)
  have O4 := O1.wr W4 g_b1
  have N4 := Fr.snoc X4 N0 g_b1
  refine own_go st4 ?_
  show own_Ends _ _ _ _ (T4.setTop (mkF mM 11 #[.val (.int p0), .unset, .unset, .unset] [(.ref b1)]))
  refine own_go (fun _ k => XS.dup X4.here hx rfl (hb hby at_11) rfl rfl k) ?_
  show own_Ends _ _ _ _ (T4.setTop (mkF mM 12 #[.val (.int p0), .unset, .unset, .unset] [(.ref b1), (.ref b1)]))
  refine own_go (fun _ k => XS.iconst X4.here hx rfl (hb hby at_12) k) ?_
  show own_Ends _ _ _ _ (T4.setTop (mkF mM 13 #[.val (.int p0), .unset, .unset, .unset] [(.int (1 : Int32)), (.ref b1), (.ref b1)]))
  obtain ⟨T5, X5, e5, st5⟩ := getS2 X4 hx hZ hown (host := "") (Or.inl (hw _ (List.mem_of_getElem? (i := 6) rfl))) Via.refl e4 (S_BOOL.ext O4.2) (g := (mkF mM 13 #[.val (.int p0), .unset, .unset, .unset] [(.int (1 : Int32)), (.ref b1), (.ref b1)])) rfl (hb hby at_13)
  refine own_go st5 ?_
  show own_Ends _ _ _ _ (T5.setTop (mkF mM 16 #[.val (.int p0), .unset, .unset, .unset] [(.ref a_BOOL), (.int (1 : Int32)), (.ref b1), (.ref b1)]))
  obtain ⟨cl6, Ar6, aq6, aS6, aN6, aH6, aG6⟩ := id V4
  have hin6 : ¬ ((1 : Int32) < 0 ∨ cl6.slots.size ≤ ((1 : Int32)).toNatClampNeg) := inb_of aS6 ⟨by decide, by decide⟩
  obtain ⟨T7, h7, X7, e7, W7, st7⟩ := stR X5 hx hZ e5 Ar6 (j := (1 : Int32)) hin6 rfl (Sto.ofV Ar6 aq6 Ov1 (Ins.self (E_BOOL.ext O4.2))) (g := (mkF mM 16 #[.val (.int p0), .unset, .unset, .unset] [(.ref a_BOOL), (.int (1 : Int32)), (.ref b1), (.ref b1)])) rfl rfl (hb hby at_16)
  have V7 : Arv Z h7 b1 ka1 (.object "com/example/abstract_and_refine/abstractandrefine/c/CType") (15 : Int32) [(.ref a_VOID), (.ref a_BOOL), .null, .null, .null, .null, .null, .null, .null, .null, .null, .null, .null, .null, .null] .null := Arv.set Ar6 aq6 aS6 aN6 aH6 aG6 rfl W7 1 rfl (Nat.le_of_ble_eq_true rfl)
  have O7 := O4.wr W7 g_b1
  have N7 := Fr.snoc X7 N4 g_b1
  refine own_go st7 ?_
  show own_Ends _ _ _ _ (T7.setTop (mkF mM 17 #[.val (.int p0), .unset, .unset, .unset] [(.ref b1)]))
  refine own_go (fun _ k => XS.dup X7.here hx rfl (hb hby at_17) rfl rfl k) ?_
  show own_Ends _ _ _ _ (T7.setTop (mkF mM 18 #[.val (.int p0), .unset, .unset, .unset] [(.ref b1), (.ref b1)]))
  refine own_go (fun _ k => XS.iconst X7.here hx rfl (hb hby at_18) k) ?_
  show own_Ends _ _ _ _ (T7.setTop (mkF mM 19 #[.val (.int p0), .unset, .unset, .unset] [(.int (2 : Int32)), (.ref b1), (.ref b1)]))
  obtain ⟨T8, X8, e8, st8⟩ := getS2 X7 hx hZ hown (host := "") (Or.inl (hw _ (List.mem_of_getElem? (i := 8) rfl))) Via.refl e7 (S_CHAR.ext O7.2) (g := (mkF mM 19 #[.val (.int p0), .unset, .unset, .unset] [(.int (2 : Int32)), (.ref b1), (.ref b1)])) rfl (hb hby at_19)
  refine own_go st8 ?_
  show own_Ends _ _ _ _ (T8.setTop (mkF mM 22 #[.val (.int p0), .unset, .unset, .unset] [(.ref a_CHAR), (.int (2 : Int32)), (.ref b1), (.ref b1)]))
  obtain ⟨cl9, Ar9, aq9, aS9, aN9, aH9, aG9⟩ := id V7
  have hin9 : ¬ ((2 : Int32) < 0 ∨ cl9.slots.size ≤ ((2 : Int32)).toNatClampNeg) := inb_of aS9 ⟨by decide, by decide⟩
  obtain ⟨T10, h10, X10, e10, W10, st10⟩ := stR X8 hx hZ e8 Ar9 (j := (2 : Int32)) hin9 rfl (Sto.ofV Ar9 aq9 Ov1 (Ins.self (E_CHAR.ext O7.2))) (g := (mkF mM 22 #[.val (.int p0), .unset, .unset, .unset] [(.ref a_CHAR), (.int (2 : Int32)), (.ref b1), (.ref b1)])) rfl rfl (hb hby at_22)
  have V10 : Arv Z h10 b1 ka1 (.object "com/example/abstract_and_refine/abstractandrefine/c/CType") (15 : Int32) [(.ref a_VOID), (.ref a_BOOL), (.ref a_CHAR), .null, .null, .null, .null, .null, .null, .null, .null, .null, .null, .null, .null] .null := Arv.set Ar9 aq9 aS9 aN9 aH9 aG9 rfl W10 2 rfl (Nat.le_of_ble_eq_true rfl)
  have O10 := O7.wr W10 g_b1
  have N10 := Fr.snoc X10 N7 g_b1
  refine own_go st10 ?_
  show own_Ends _ _ _ _ (T10.setTop (mkF mM 23 #[.val (.int p0), .unset, .unset, .unset] [(.ref b1)]))
  refine own_go (fun _ k => XS.dup X10.here hx rfl (hb hby at_23) rfl rfl k) ?_
  show own_Ends _ _ _ _ (T10.setTop (mkF mM 24 #[.val (.int p0), .unset, .unset, .unset] [(.ref b1), (.ref b1)]))
  refine own_go (fun _ k => XS.iconst X10.here hx rfl (hb hby at_24) k) ?_
  show own_Ends _ _ _ _ (T10.setTop (mkF mM 25 #[.val (.int p0), .unset, .unset, .unset] [(.int (3 : Int32)), (.ref b1), (.ref b1)]))
  obtain ⟨T11, X11, e11, st11⟩ := getS2 X10 hx hZ hown (host := "") (Or.inl (hw _ (List.mem_of_getElem? (i := 10) rfl))) Via.refl e10 (S_SIGNED_CHAR.ext O10.2) (g := (mkF mM 25 #[.val (.int p0), .unset, .unset, .unset] [(.int (3 : Int32)), (.ref b1), (.ref b1)])) rfl (hb hby at_25)
  refine own_go st11 ?_
  show own_Ends _ _ _ _ (T11.setTop (mkF mM 28 #[.val (.int p0), .unset, .unset, .unset] [(.ref a_SIGNED_CHAR), (.int (3 : Int32)), (.ref b1), (.ref b1)]))
  obtain ⟨cl12, Ar12, aq12, aS12, aN12, aH12, aG12⟩ := id V10
  have hin12 : ¬ ((3 : Int32) < 0 ∨ cl12.slots.size ≤ ((3 : Int32)).toNatClampNeg) := inb_of aS12 ⟨by decide, by decide⟩
  obtain ⟨T13, h13, X13, e13, W13, st13⟩ := stR X11 hx hZ e11 Ar12 (j := (3 : Int32)) hin12 rfl (Sto.ofV Ar12 aq12 Ov1 (Ins.self (E_SIGNED_CHAR.ext O10.2))) (g := (mkF mM 28 #[.val (.int p0), .unset, .unset, .unset] [(.ref a_SIGNED_CHAR), (.int (3 : Int32)), (.ref b1), (.ref b1)])) rfl rfl (hb hby at_28)
  have V13 : Arv Z h13 b1 ka1 (.object "com/example/abstract_and_refine/abstractandrefine/c/CType") (15 : Int32) [(.ref a_VOID), (.ref a_BOOL), (.ref a_CHAR), (.ref a_SIGNED_CHAR), .null, .null, .null, .null, .null, .null, .null, .null, .null, .null, .null] .null := Arv.set Ar12 aq12 aS12 aN12 aH12 aG12 rfl W13 3 rfl (Nat.le_of_ble_eq_true rfl)
  have O13 := O10.wr W13 g_b1
  have N13 := Fr.snoc X13 N10 g_b1
  refine own_go st13 ?_
  show own_Ends _ _ _ _ (T13.setTop (mkF mM 29 #[.val (.int p0), .unset, .unset, .unset] [(.ref b1)]))
  refine own_go (fun _ k => XS.dup X13.here hx rfl (hb hby at_29) rfl rfl k) ?_
  show own_Ends _ _ _ _ (T13.setTop (mkF mM 30 #[.val (.int p0), .unset, .unset, .unset] [(.ref b1), (.ref b1)]))
  refine own_go (fun _ k => XS.iconst X13.here hx rfl (hb hby at_30) k) ?_
  show own_Ends _ _ _ _ (T13.setTop (mkF mM 31 #[.val (.int p0), .unset, .unset, .unset] [(.int (4 : Int32)), (.ref b1), (.ref b1)]))
  obtain ⟨T14, X14, e14, st14⟩ := getS2 X13 hx hZ hown (host := "") (Or.inl (hw _ (List.mem_of_getElem? (i := 12) rfl))) Via.refl e13 (S_UNSIGNED_CHAR.ext O13.2) (g := (mkF mM 31 #[.val (.int p0), .unset, .unset, .unset] [(.int (4 : Int32)), (.ref b1), (.ref b1)])) rfl (hb hby at_31)
  refine own_go st14 ?_
  show own_Ends _ _ _ _ (T14.setTop (mkF mM 34 #[.val (.int p0), .unset, .unset, .unset] [(.ref a_UNSIGNED_CHAR), (.int (4 : Int32)), (.ref b1), (.ref b1)]))
  obtain ⟨cl15, Ar15, aq15, aS15, aN15, aH15, aG15⟩ := id V13
  have hin15 : ¬ ((4 : Int32) < 0 ∨ cl15.slots.size ≤ ((4 : Int32)).toNatClampNeg) := inb_of aS15 ⟨by decide, by decide⟩
  obtain ⟨T16, h16, X16, e16, W16, st16⟩ := stR X14 hx hZ e14 Ar15 (j := (4 : Int32)) hin15 rfl (Sto.ofV Ar15 aq15 Ov1 (Ins.self (E_UNSIGNED_CHAR.ext O13.2))) (g := (mkF mM 34 #[.val (.int p0), .unset, .unset, .unset] [(.ref a_UNSIGNED_CHAR), (.int (4 : Int32)), (.ref b1), (.ref b1)])) rfl rfl (hb hby at_34)
  have V16 : Arv Z h16 b1 ka1 (.object "com/example/abstract_and_refine/abstractandrefine/c/CType") (15 : Int32) [(.ref a_VOID), (.ref a_BOOL), (.ref a_CHAR), (.ref a_SIGNED_CHAR), (.ref a_UNSIGNED_CHAR), .null, .null, .null, .null, .null, .null, .null, .null, .null, .null] .null := Arv.set Ar15 aq15 aS15 aN15 aH15 aG15 rfl W16 4 rfl (Nat.le_of_ble_eq_true rfl)
  have O16 := O13.wr W16 g_b1
  have N16 := Fr.snoc X16 N13 g_b1
  refine own_go st16 ?_
  show own_Ends _ _ _ _ (T16.setTop (mkF mM 35 #[.val (.int p0), .unset, .unset, .unset] [(.ref b1)]))
  refine own_go (fun _ k => XS.dup X16.here hx rfl (hb hby at_35) rfl rfl k) ?_
  show own_Ends _ _ _ _ (T16.setTop (mkF mM 36 #[.val (.int p0), .unset, .unset, .unset] [(.ref b1), (.ref b1)]))
  refine own_go (fun _ k => XS.iconst X16.here hx rfl (hb hby at_36) k) ?_
  show own_Ends _ _ _ _ (T16.setTop (mkF mM 37 #[.val (.int p0), .unset, .unset, .unset] [(.int (5 : Int32)), (.ref b1), (.ref b1)]))
  obtain ⟨T17, X17, e17, st17⟩ := getS2 X16 hx hZ hown (host := "") (Or.inl (hw _ (List.mem_of_getElem? (i := 14) rfl))) Via.refl e16 (S_SHORT.ext O16.2) (g := (mkF mM 37 #[.val (.int p0), .unset, .unset, .unset] [(.int (5 : Int32)), (.ref b1), (.ref b1)])) rfl (hb hby at_37)
  refine own_go st17 ?_
  show own_Ends _ _ _ _ (T17.setTop (mkF mM 40 #[.val (.int p0), .unset, .unset, .unset] [(.ref a_SHORT), (.int (5 : Int32)), (.ref b1), (.ref b1)]))
  obtain ⟨cl18, Ar18, aq18, aS18, aN18, aH18, aG18⟩ := id V16
  have hin18 : ¬ ((5 : Int32) < 0 ∨ cl18.slots.size ≤ ((5 : Int32)).toNatClampNeg) := inb_of aS18 ⟨by decide, by decide⟩
  obtain ⟨T19, h19, X19, e19, W19, st19⟩ := stR X17 hx hZ e17 Ar18 (j := (5 : Int32)) hin18 rfl (Sto.ofV Ar18 aq18 Ov1 (Ins.self (E_SHORT.ext O16.2))) (g := (mkF mM 40 #[.val (.int p0), .unset, .unset, .unset] [(.ref a_SHORT), (.int (5 : Int32)), (.ref b1), (.ref b1)])) rfl rfl (hb hby at_40)
  have V19 : Arv Z h19 b1 ka1 (.object "com/example/abstract_and_refine/abstractandrefine/c/CType") (15 : Int32) [(.ref a_VOID), (.ref a_BOOL), (.ref a_CHAR), (.ref a_SIGNED_CHAR), (.ref a_UNSIGNED_CHAR), (.ref a_SHORT), .null, .null, .null, .null, .null, .null, .null, .null, .null] .null := Arv.set Ar18 aq18 aS18 aN18 aH18 aG18 rfl W19 5 rfl (Nat.le_of_ble_eq_true rfl)
  have O19 := O16.wr W19 g_b1
  have N19 := Fr.snoc X19 N16 g_b1
  refine own_go st19 ?_
  show own_Ends _ _ _ _ (T19.setTop (mkF mM 41 #[.val (.int p0), .unset, .unset, .unset] [(.ref b1)]))
  refine own_go (fun _ k => XS.dup X19.here hx rfl (hb hby at_41) rfl rfl k) ?_
  show own_Ends _ _ _ _ (T19.setTop (mkF mM 42 #[.val (.int p0), .unset, .unset, .unset] [(.ref b1), (.ref b1)]))
  refine own_go (fun _ k => XS.bipush X19.here hx rfl (hb hby at_42) k) ?_
  show own_Ends _ _ _ _ (T19.setTop (mkF mM 44 #[.val (.int p0), .unset, .unset, .unset] [(.int (6 : Int32)), (.ref b1), (.ref b1)]))
  obtain ⟨T20, X20, e20, st20⟩ := getS2 X19 hx hZ hown (host := "") (Or.inl (hw _ (List.mem_of_getElem? (i := 16) rfl))) Via.refl e19 (S_UNSIGNED_SHORT.ext O19.2) (g := (mkF mM 44 #[.val (.int p0), .unset, .unset, .unset] [(.int (6 : Int32)), (.ref b1), (.ref b1)])) rfl (hb hby at_44)
  refine own_go st20 ?_
  show own_Ends _ _ _ _ (T20.setTop (mkF mM 47 #[.val (.int p0), .unset, .unset, .unset] [(.ref a_UNSIGNED_SHORT), (.int (6 : Int32)), (.ref b1), (.ref b1)]))
  obtain ⟨cl21, Ar21, aq21, aS21, aN21, aH21, aG21⟩ := id V19
  have hin21 : ¬ ((6 : Int32) < 0 ∨ cl21.slots.size ≤ ((6 : Int32)).toNatClampNeg) := inb_of aS21 ⟨by decide, by decide⟩
  obtain ⟨T22, h22, X22, e22, W22, st22⟩ := stR X20 hx hZ e20 Ar21 (j := (6 : Int32)) hin21 rfl (Sto.ofV Ar21 aq21 Ov1 (Ins.self (E_UNSIGNED_SHORT.ext O19.2))) (g := (mkF mM 47 #[.val (.int p0), .unset, .unset, .unset] [(.ref a_UNSIGNED_SHORT), (.int (6 : Int32)), (.ref b1), (.ref b1)])) rfl rfl (hb hby at_47)
  have V22 : Arv Z h22 b1 ka1 (.object "com/example/abstract_and_refine/abstractandrefine/c/CType") (15 : Int32) [(.ref a_VOID), (.ref a_BOOL), (.ref a_CHAR), (.ref a_SIGNED_CHAR), (.ref a_UNSIGNED_CHAR), (.ref a_SHORT), (.ref a_UNSIGNED_SHORT), .null, .null, .null, .null, .null, .null, .null, .null] .null := Arv.set Ar21 aq21 aS21 aN21 aH21 aG21 rfl W22 6 rfl (Nat.le_of_ble_eq_true rfl)
  have O22 := O19.wr W22 g_b1
  have N22 := Fr.snoc X22 N19 g_b1
  refine own_go st22 ?_
  show own_Ends _ _ _ _ (T22.setTop (mkF mM 48 #[.val (.int p0), .unset, .unset, .unset] [(.ref b1)]))
  refine own_go (fun _ k => XS.dup X22.here hx rfl (hb hby at_48) rfl rfl k) ?_
  show own_Ends _ _ _ _ (T22.setTop (mkF mM 49 #[.val (.int p0), .unset, .unset, .unset] [(.ref b1), (.ref b1)]))
  refine own_go (fun _ k => XS.bipush X22.here hx rfl (hb hby at_49) k) ?_
  show own_Ends _ _ _ _ (T22.setTop (mkF mM 51 #[.val (.int p0), .unset, .unset, .unset] [(.int (7 : Int32)), (.ref b1), (.ref b1)]))
  obtain ⟨T23, X23, e23, st23⟩ := getS2 X22 hx hZ hown (host := "") (Or.inl (hw _ (List.mem_of_getElem? (i := 18) rfl))) Via.refl e22 (S_INT.ext O22.2) (g := (mkF mM 51 #[.val (.int p0), .unset, .unset, .unset] [(.int (7 : Int32)), (.ref b1), (.ref b1)])) rfl (hb hby at_51)
  refine own_go st23 ?_
  show own_Ends _ _ _ _ (T23.setTop (mkF mM 54 #[.val (.int p0), .unset, .unset, .unset] [(.ref a_INT), (.int (7 : Int32)), (.ref b1), (.ref b1)]))
  obtain ⟨cl24, Ar24, aq24, aS24, aN24, aH24, aG24⟩ := id V22
  have hin24 : ¬ ((7 : Int32) < 0 ∨ cl24.slots.size ≤ ((7 : Int32)).toNatClampNeg) := inb_of aS24 ⟨by decide, by decide⟩
  obtain ⟨T25, h25, X25, e25, W25, st25⟩ := stR X23 hx hZ e23 Ar24 (j := (7 : Int32)) hin24 rfl (Sto.ofV Ar24 aq24 Ov1 (Ins.self (E_INT.ext O22.2))) (g := (mkF mM 54 #[.val (.int p0), .unset, .unset, .unset] [(.ref a_INT), (.int (7 : Int32)), (.ref b1), (.ref b1)])) rfl rfl (hb hby at_54)
  have V25 : Arv Z h25 b1 ka1 (.object "com/example/abstract_and_refine/abstractandrefine/c/CType") (15 : Int32) [(.ref a_VOID), (.ref a_BOOL), (.ref a_CHAR), (.ref a_SIGNED_CHAR), (.ref a_UNSIGNED_CHAR), (.ref a_SHORT), (.ref a_UNSIGNED_SHORT), (.ref a_INT), .null, .null, .null, .null, .null, .null, .null] .null := Arv.set Ar24 aq24 aS24 aN24 aH24 aG24 rfl W25 7 rfl (Nat.le_of_ble_eq_true rfl)
  have O25 := O22.wr W25 g_b1
  have N25 := Fr.snoc X25 N22 g_b1
  refine own_go st25 ?_
  show own_Ends _ _ _ _ (T25.setTop (mkF mM 55 #[.val (.int p0), .unset, .unset, .unset] [(.ref b1)]))
  refine own_go (fun _ k => XS.dup X25.here hx rfl (hb hby at_55) rfl rfl k) ?_
  show own_Ends _ _ _ _ (T25.setTop (mkF mM 56 #[.val (.int p0), .unset, .unset, .unset] [(.ref b1), (.ref b1)]))
  refine own_go (fun _ k => XS.bipush X25.here hx rfl (hb hby at_56) k) ?_
  show own_Ends _ _ _ _ (T25.setTop (mkF mM 58 #[.val (.int p0), .unset, .unset, .unset] [(.int (8 : Int32)), (.ref b1), (.ref b1)]))
  obtain ⟨T26, X26, e26, st26⟩ := getS2 X25 hx hZ hown (host := "") (Or.inl (hw _ (List.mem_of_getElem? (i := 20) rfl))) Via.refl e25 (S_UNSIGNED_INT.ext O25.2) (g := (mkF mM 58 #[.val (.int p0), .unset, .unset, .unset] [(.int (8 : Int32)), (.ref b1), (.ref b1)])) rfl (hb hby at_58)
  refine own_go st26 ?_
  show own_Ends _ _ _ _ (T26.setTop (mkF mM 61 #[.val (.int p0), .unset, .unset, .unset] [(.ref a_UNSIGNED_INT), (.int (8 : Int32)), (.ref b1), (.ref b1)]))
  obtain ⟨cl27, Ar27, aq27, aS27, aN27, aH27, aG27⟩ := id V25
  have hin27 : ¬ ((8 : Int32) < 0 ∨ cl27.slots.size ≤ ((8 : Int32)).toNatClampNeg) := inb_of aS27 ⟨by decide, by decide⟩
  obtain ⟨T28, h28, X28, e28, W28, st28⟩ := stR X26 hx hZ e26 Ar27 (j := (8 : Int32)) hin27 rfl (Sto.ofV Ar27 aq27 Ov1 (Ins.self (E_UNSIGNED_INT.ext O25.2))) (g := (mkF mM 61 #[.val (.int p0), .unset, .unset, .unset] [(.ref a_UNSIGNED_INT), (.int (8 : Int32)), (.ref b1), (.ref b1)])) rfl rfl (hb hby at_61)
  have V28 : Arv Z h28 b1 ka1 (.object "com/example/abstract_and_refine/abstractandrefine/c/CType") (15 : Int32) [(.ref a_VOID), (.ref a_BOOL), (.ref a_CHAR), (.ref a_SIGNED_CHAR), (.ref a_UNSIGNED_CHAR), (.ref a_SHORT), (.ref a_UNSIGNED_SHORT), (.ref a_INT), (.ref a_UNSIGNED_INT), .null, .null, .null, .null, .null, .null] .null := Arv.set Ar27 aq27 aS27 aN27 aH27 aG27 rfl W28 8 rfl (Nat.le_of_ble_eq_true rfl)
  have O28 := O25.wr W28 g_b1
  have N28 := Fr.snoc X28 N25 g_b1
  refine own_go st28 ?_
  show own_Ends _ _ _ _ (T28.setTop (mkF mM 62 #[.val (.int p0), .unset, .unset, .unset] [(.ref b1)]))
  refine own_go (fun _ k => XS.dup X28.here hx rfl (hb hby at_62) rfl rfl k) ?_
  show own_Ends _ _ _ _ (T28.setTop (mkF mM 63 #[.val (.int p0), .unset, .unset, .unset] [(.ref b1), (.ref b1)]))
  refine own_go (fun _ k => XS.bipush X28.here hx rfl (hb hby at_63) k) ?_
  show own_Ends _ _ _ _ (T28.setTop (mkF mM 65 #[.val (.int p0), .unset, .unset, .unset] [(.int (9 : Int32)), (.ref b1), (.ref b1)]))
  obtain ⟨T29, X29, e29, st29⟩ := getS2 X28 hx hZ hown (host := "") (Or.inl (hw _ (List.mem_of_getElem? (i := 22) rfl))) Via.refl e28 (S_LONG.ext O28.2) (g := (mkF mM 65 #[.val (.int p0), .unset, .unset, .unset] [(.int (9 : Int32)), (.ref b1), (.ref b1)])) rfl (hb hby at_65)
  refine own_go st29 ?_
  show own_Ends _ _ _ _ (T29.setTop (mkF mM 68 #[.val (.int p0), .unset, .unset, .unset] [(.ref a_LONG), (.int (9 : Int32)), (.ref b1), (.ref b1)]))
  obtain ⟨cl30, Ar30, aq30, aS30, aN30, aH30, aG30⟩ := id V28
  have hin30 : ¬ ((9 : Int32) < 0 ∨ cl30.slots.size ≤ ((9 : Int32)).toNatClampNeg) := inb_of aS30 ⟨by decide, by decide⟩
  obtain ⟨T31, h31, X31, e31, W31, st31⟩ := stR X29 hx hZ e29 Ar30 (j := (9 : Int32)) hin30 rfl (Sto.ofV Ar30 aq30 Ov1 (Ins.self (E_LONG.ext O28.2))) (g := (mkF mM 68 #[.val (.int p0), .unset, .unset, .unset] [(.ref a_LONG), (.int (9 : Int32)), (.ref b1), (.ref b1)])) rfl rfl (hb hby at_68)
  have V31 : Arv Z h31 b1 ka1 (.object "com/example/abstract_and_refine/abstractandrefine/c/CType") (15 : Int32) [(.ref a_VOID), (.ref a_BOOL), (.ref a_CHAR), (.ref a_SIGNED_CHAR), (.ref a_UNSIGNED_CHAR), (.ref a_SHORT), (.ref a_UNSIGNED_SHORT), (.ref a_INT), (.ref a_UNSIGNED_INT), (.ref a_LONG), .null, .null, .null, .null, .null] .null := Arv.set Ar30 aq30 aS30 aN30 aH30 aG30 rfl W31 9 rfl (Nat.le_of_ble_eq_true rfl)
  have O31 := O28.wr W31 g_b1
  have N31 := Fr.snoc X31 N28 g_b1
  refine own_go st31 ?_
  show own_Ends _ _ _ _ (T31.setTop (mkF mM 69 #[.val (.int p0), .unset, .unset, .unset] [(.ref b1)]))
  refine own_go (fun _ k => XS.dup X31.here hx rfl (hb hby at_69) rfl rfl k) ?_
  show own_Ends _ _ _ _ (T31.setTop (mkF mM 70 #[.val (.int p0), .unset, .unset, .unset] [(.ref b1), (.ref b1)]))
  refine own_go (fun _ k => XS.bipush X31.here hx rfl (hb hby at_70) k) ?_
  show own_Ends _ _ _ _ (T31.setTop (mkF mM 72 #[.val (.int p0), .unset, .unset, .unset] [(.int (10 : Int32)), (.ref b1), (.ref b1)]))
  obtain ⟨T32, X32, e32, st32⟩ := getS2 X31 hx hZ hown (host := "") (Or.inl (hw _ (List.mem_of_getElem? (i := 24) rfl))) Via.refl e31 (S_UNSIGNED_LONG.ext O31.2) (g := (mkF mM 72 #[.val (.int p0), .unset, .unset, .unset] [(.int (10 : Int32)), (.ref b1), (.ref b1)])) rfl (hb hby at_72)
  refine own_go st32 ?_
  show own_Ends _ _ _ _ (T32.setTop (mkF mM 75 #[.val (.int p0), .unset, .unset, .unset] [(.ref a_UNSIGNED_LONG), (.int (10 : Int32)), (.ref b1), (.ref b1)]))
  obtain ⟨cl33, Ar33, aq33, aS33, aN33, aH33, aG33⟩ := id V31
  have hin33 : ¬ ((10 : Int32) < 0 ∨ cl33.slots.size ≤ ((10 : Int32)).toNatClampNeg) := inb_of aS33 ⟨by decide, by decide⟩
  obtain ⟨T34, h34, X34, e34, W34, st34⟩ := stR X32 hx hZ e32 Ar33 (j := (10 : Int32)) hin33 rfl (Sto.ofV Ar33 aq33 Ov1 (Ins.self (E_UNSIGNED_LONG.ext O31.2))) (g := (mkF mM 75 #[.val (.int p0), .unset, .unset, .unset] [(.ref a_UNSIGNED_LONG), (.int (10 : Int32)), (.ref b1), (.ref b1)])) rfl rfl (hb hby at_75)
  have V34 : Arv Z h34 b1 ka1 (.object "com/example/abstract_and_refine/abstractandrefine/c/CType") (15 : Int32) [(.ref a_VOID), (.ref a_BOOL), (.ref a_CHAR), (.ref a_SIGNED_CHAR), (.ref a_UNSIGNED_CHAR), (.ref a_SHORT), (.ref a_UNSIGNED_SHORT), (.ref a_INT), (.ref a_UNSIGNED_INT), (.ref a_LONG), (.ref a_UNSIGNED_LONG), .null, .null, .null, .null] .null := Arv.set Ar33 aq33 aS33 aN33 aH33 aG33 rfl W34 10 rfl (Nat.le_of_ble_eq_true rfl)
  have O34 := O31.wr W34 g_b1
  have N34 := Fr.snoc X34 N31 g_b1
  refine own_go st34 ?_
  show own_Ends _ _ _ _ (T34.setTop (mkF mM 76 #[.val (.int p0), .unset, .unset, .unset] [(.ref b1)]))
  refine own_go (fun _ k => XS.dup X34.here hx rfl (hb hby at_76) rfl rfl k) ?_
  show own_Ends _ _ _ _ (T34.setTop (mkF mM 77 #[.val (.int p0), .unset, .unset, .unset] [(.ref b1), (.ref b1)]))
  refine own_go (fun _ k => XS.bipush X34.here hx rfl (hb hby at_77) k) ?_
  show own_Ends _ _ _ _ (T34.setTop (mkF mM 79 #[.val (.int p0), .unset, .unset, .unset] [(.int (11 : Int32)), (.ref b1), (.ref b1)]))
  obtain ⟨T35, X35, e35, st35⟩ := getS2 X34 hx hZ hown (host := "") (Or.inl (hw _ (List.mem_of_getElem? (i := 26) rfl))) Via.refl e34 (S_LONG_LONG.ext O34.2) (g := (mkF mM 79 #[.val (.int p0), .unset, .unset, .unset] [(.int (11 : Int32)), (.ref b1), (.ref b1)])) rfl (hb hby at_79)
  refine own_go st35 ?_
  show own_Ends _ _ _ _ (T35.setTop (mkF mM 82 #[.val (.int p0), .unset, .unset, .unset] [(.ref a_LONG_LONG), (.int (11 : Int32)), (.ref b1), (.ref b1)]))
  obtain ⟨cl36, Ar36, aq36, aS36, aN36, aH36, aG36⟩ := id V34
  have hin36 : ¬ ((11 : Int32) < 0 ∨ cl36.slots.size ≤ ((11 : Int32)).toNatClampNeg) := inb_of aS36 ⟨by decide, by decide⟩
  obtain ⟨T37, h37, X37, e37, W37, st37⟩ := stR X35 hx hZ e35 Ar36 (j := (11 : Int32)) hin36 rfl (Sto.ofV Ar36 aq36 Ov1 (Ins.self (E_LONG_LONG.ext O34.2))) (g := (mkF mM 82 #[.val (.int p0), .unset, .unset, .unset] [(.ref a_LONG_LONG), (.int (11 : Int32)), (.ref b1), (.ref b1)])) rfl rfl (hb hby at_82)
  have V37 : Arv Z h37 b1 ka1 (.object "com/example/abstract_and_refine/abstractandrefine/c/CType") (15 : Int32) [(.ref a_VOID), (.ref a_BOOL), (.ref a_CHAR), (.ref a_SIGNED_CHAR), (.ref a_UNSIGNED_CHAR), (.ref a_SHORT), (.ref a_UNSIGNED_SHORT), (.ref a_INT), (.ref a_UNSIGNED_INT), (.ref a_LONG), (.ref a_UNSIGNED_LONG), (.ref a_LONG_LONG), .null, .null, .null] .null := Arv.set Ar36 aq36 aS36 aN36 aH36 aG36 rfl W37 11 rfl (Nat.le_of_ble_eq_true rfl)
  have O37 := O34.wr W37 g_b1
  have N37 := Fr.snoc X37 N34 g_b1
  refine own_go st37 ?_
  show own_Ends _ _ _ _ (T37.setTop (mkF mM 83 #[.val (.int p0), .unset, .unset, .unset] [(.ref b1)]))
  refine own_go (fun _ k => XS.dup X37.here hx rfl (hb hby at_83) rfl rfl k) ?_
  show own_Ends _ _ _ _ (T37.setTop (mkF mM 84 #[.val (.int p0), .unset, .unset, .unset] [(.ref b1), (.ref b1)]))
  refine own_go (fun _ k => XS.bipush X37.here hx rfl (hb hby at_84) k) ?_
  show own_Ends _ _ _ _ (T37.setTop (mkF mM 86 #[.val (.int p0), .unset, .unset, .unset] [(.int (12 : Int32)), (.ref b1), (.ref b1)]))
  obtain ⟨T38, X38, e38, st38⟩ := getS2 X37 hx hZ hown (host := "") (Or.inl (hw _ (List.mem_of_getElem? (i := 28) rfl))) Via.refl e37 (S_UNSIGNED_LONG_LONG.ext O37.2) (g := (mkF mM 86 #[.val (.int p0), .unset, .unset, .unset] [(.int (12 : Int32)), (.ref b1), (.ref b1)])) rfl (hb hby at_86)
  refine own_go st38 ?_
  show own_Ends _ _ _ _ (T38.setTop (mkF mM 89 #[.val (.int p0), .unset, .unset, .unset] [(.ref a_UNSIGNED_LONG_LONG), (.int (12 : Int32)), (.ref b1), (.ref b1)]))
  obtain ⟨cl39, Ar39, aq39, aS39, aN39, aH39, aG39⟩ := id V37
  have hin39 : ¬ ((12 : Int32) < 0 ∨ cl39.slots.size ≤ ((12 : Int32)).toNatClampNeg) := inb_of aS39 ⟨by decide, by decide⟩
  obtain ⟨T40, h40, X40, e40, W40, st40⟩ := stR X38 hx hZ e38 Ar39 (j := (12 : Int32)) hin39 rfl (Sto.ofV Ar39 aq39 Ov1 (Ins.self (E_UNSIGNED_LONG_LONG.ext O37.2))) (g := (mkF mM 89 #[.val (.int p0), .unset, .unset, .unset] [(.ref a_UNSIGNED_LONG_LONG), (.int (12 : Int32)), (.ref b1), (.ref b1)])) rfl rfl (hb hby at_89)
  have V40 : Arv Z h40 b1 ka1 (.object "com/example/abstract_and_refine/abstractandrefine/c/CType") (15 : Int32) [(.ref a_VOID), (.ref a_BOOL), (.ref a_CHAR), (.ref a_SIGNED_CHAR), (.ref a_UNSIGNED_CHAR), (.ref a_SHORT), (.ref a_UNSIGNED_SHORT), (.ref a_INT), (.ref a_UNSIGNED_INT), (.ref a_LONG), (.ref a_UNSIGNED_LONG), (.ref a_LONG_LONG), (.ref a_UNSIGNED_LONG_LONG), .null, .null] .null := Arv.set Ar39 aq39 aS39 aN39 aH39 aG39 rfl W40 12 rfl (Nat.le_of_ble_eq_true rfl)
  have O40 := O37.wr W40 g_b1
  have N40 := Fr.snoc X40 N37 g_b1
  refine own_go st40 ?_
  show own_Ends _ _ _ _ (T40.setTop (mkF mM 90 #[.val (.int p0), .unset, .unset, .unset] [(.ref b1)]))
  refine own_go (fun _ k => XS.dup X40.here hx rfl (hb hby at_90) rfl rfl k) ?_
  show own_Ends _ _ _ _ (T40.setTop (mkF mM 91 #[.val (.int p0), .unset, .unset, .unset] [(.ref b1), (.ref b1)]))
  refine own_go (fun _ k => XS.bipush X40.here hx rfl (hb hby at_91) k) ?_
  show own_Ends _ _ _ _ (T40.setTop (mkF mM 93 #[.val (.int p0), .unset, .unset, .unset] [(.int (13 : Int32)), (.ref b1), (.ref b1)]))
  obtain ⟨T41, X41, e41, st41⟩ := getS2 X40 hx hZ hown (host := "") (Or.inl (hw _ (List.mem_of_getElem? (i := 30) rfl))) Via.refl e40 (S_FLOATING.ext O40.2) (g := (mkF mM 93 #[.val (.int p0), .unset, .unset, .unset] [(.int (13 : Int32)), (.ref b1), (.ref b1)])) rfl (hb hby at_93)
  refine own_go st41 ?_
  show own_Ends _ _ _ _ (T41.setTop (mkF mM 96 #[.val (.int p0), .unset, .unset, .unset] [(.ref a_FLOATING), (.int (13 : Int32)), (.ref b1), (.ref b1)]))
  obtain ⟨cl42, Ar42, aq42, aS42, aN42, aH42, aG42⟩ := id V40
  have hin42 : ¬ ((13 : Int32) < 0 ∨ cl42.slots.size ≤ ((13 : Int32)).toNatClampNeg) := inb_of aS42 ⟨by decide, by decide⟩
  obtain ⟨T43, h43, X43, e43, W43, st43⟩ := stR X41 hx hZ e41 Ar42 (j := (13 : Int32)) hin42 rfl (Sto.ofV Ar42 aq42 Ov1 (Ins.self (E_FLOATING.ext O40.2))) (g := (mkF mM 96 #[.val (.int p0), .unset, .unset, .unset] [(.ref a_FLOATING), (.int (13 : Int32)), (.ref b1), (.ref b1)])) rfl rfl (hb hby at_96)
  have V43 : Arv Z h43 b1 ka1 (.object "com/example/abstract_and_refine/abstractandrefine/c/CType") (15 : Int32) [(.ref a_VOID), (.ref a_BOOL), (.ref a_CHAR), (.ref a_SIGNED_CHAR), (.ref a_UNSIGNED_CHAR), (.ref a_SHORT), (.ref a_UNSIGNED_SHORT), (.ref a_INT), (.ref a_UNSIGNED_INT), (.ref a_LONG), (.ref a_UNSIGNED_LONG), (.ref a_LONG_LONG), (.ref a_UNSIGNED_LONG_LONG), (.ref a_FLOATING), .null] .null := Arv.set Ar42 aq42 aS42 aN42 aH42 aG42 rfl W43 13 rfl (Nat.le_of_ble_eq_true rfl)
  have O43 := O40.wr W43 g_b1
  have N43 := Fr.snoc X43 N40 g_b1
  refine own_go st43 ?_
  show own_Ends _ _ _ _ (T43.setTop (mkF mM 97 #[.val (.int p0), .unset, .unset, .unset] [(.ref b1)]))
  refine own_go (fun _ k => XS.dup X43.here hx rfl (hb hby at_97) rfl rfl k) ?_
  show own_Ends _ _ _ _ (T43.setTop (mkF mM 98 #[.val (.int p0), .unset, .unset, .unset] [(.ref b1), (.ref b1)]))
  refine own_go (fun _ k => XS.bipush X43.here hx rfl (hb hby at_98) k) ?_
  show own_Ends _ _ _ _ (T43.setTop (mkF mM 100 #[.val (.int p0), .unset, .unset, .unset] [(.int (14 : Int32)), (.ref b1), (.ref b1)]))
  obtain ⟨T44, X44, e44, st44⟩ := getS2 X43 hx hZ hown (host := "") (Or.inl (hw _ (List.mem_of_getElem? (i := 32) rfl))) Via.refl e43 (S_POINTER.ext O43.2) (g := (mkF mM 100 #[.val (.int p0), .unset, .unset, .unset] [(.int (14 : Int32)), (.ref b1), (.ref b1)])) rfl (hb hby at_100)
  refine own_go st44 ?_
  show own_Ends _ _ _ _ (T44.setTop (mkF mM 103 #[.val (.int p0), .unset, .unset, .unset] [(.ref a_POINTER), (.int (14 : Int32)), (.ref b1), (.ref b1)]))
  obtain ⟨cl45, Ar45, aq45, aS45, aN45, aH45, aG45⟩ := id V43
  have hin45 : ¬ ((14 : Int32) < 0 ∨ cl45.slots.size ≤ ((14 : Int32)).toNatClampNeg) := inb_of aS45 ⟨by decide, by decide⟩
  obtain ⟨T46, h46, X46, e46, W46, st46⟩ := stR X44 hx hZ e44 Ar45 (j := (14 : Int32)) hin45 rfl (Sto.ofV Ar45 aq45 Ov1 (Ins.self (E_POINTER.ext O43.2))) (g := (mkF mM 103 #[.val (.int p0), .unset, .unset, .unset] [(.ref a_POINTER), (.int (14 : Int32)), (.ref b1), (.ref b1)])) rfl rfl (hb hby at_103)
  have V46 : Arv Z h46 b1 ka1 (.object "com/example/abstract_and_refine/abstractandrefine/c/CType") (15 : Int32) [(.ref a_VOID), (.ref a_BOOL), (.ref a_CHAR), (.ref a_SIGNED_CHAR), (.ref a_UNSIGNED_CHAR), (.ref a_SHORT), (.ref a_UNSIGNED_SHORT), (.ref a_INT), (.ref a_UNSIGNED_INT), (.ref a_LONG), (.ref a_UNSIGNED_LONG), (.ref a_LONG_LONG), (.ref a_UNSIGNED_LONG_LONG), (.ref a_FLOATING), (.ref a_POINTER)] .null := Arv.set Ar45 aq45 aS45 aN45 aH45 aG45 rfl W46 14 rfl (Nat.le_of_ble_eq_true rfl)
  have O46 := O43.wr W46 g_b1
  have N46 := Fr.snoc X46 N43 g_b1
  refine own_go st46 ?_
  show own_Ends _ _ _ _ (T46.setTop (mkF mM 104 #[.val (.int p0), .unset, .unset, .unset] [(.ref b1)]))
  refine own_go (fun _ k => XS.astoreN X46.here hx rfl (hb hby at_104) rfl rfl (l' := #[.val (.int p0), .val (.ref b1), .unset, .unset]) rfl k) ?_
  show own_Ends _ _ _ _ (T46.setTop (mkF mM 105 #[.val (.int p0), .val (.ref b1), .unset, .unset] []))
  refine own_go (fun _ k => XS.iloadN X46.here hx rfl (hb hby at_105) rfl k) ?_
  show own_Ends _ _ _ _ (T46.setTop (mkF mM 106 #[.val (.int p0), .val (.ref b1), .unset, .unset] [(.int p0)]))
  refine own_go (X46.ldcInt hx hown (mvT hZ (hw _ (List.mem_of_getElem? (i := 34) rfl))) (g := (mkF mM 106 #[.val (.int p0), .val (.ref b1), .unset, .unset] [(.int p0)])) rfl (hb hby at_106)) ?_
  show own_Ends _ _ _ _ (T46.setTop (mkF mM 108 #[.val (.int p0), .val (.ref b1), .unset, .unset] [(.int (2147483647 : Int32)), (.int p0)]))
  refine own_go (fun _ k => XS.iand X46.here hx rfl (hb hby at_108) rfl k) ?_
  show own_Ends _ _ _ _ (T46.setTop (mkF mM 109 #[.val (.int p0), .val (.ref b1), .unset, .unset] [(.int (p0 &&& (2147483647 : Int32)))]))
  refine own_go (fun _ k => XS.bipush X46.here hx rfl (hb hby at_109) k) ?_
  show own_Ends _ _ _ _ (T46.setTop (mkF mM 111 #[.val (.int p0), .val (.ref b1), .unset, .unset] [(.int (15 : Int32)), (.int (p0 &&& (2147483647 : Int32)))]))
  refine own_go (fun _ k => iremM X46 hx rfl (hb hby at_111) rfl (by decide) k) ?_
  show own_Ends _ _ _ _ (T46.setTop (mkF mM 112 #[.val (.int p0), .val (.ref b1), .unset, .unset] [(.int ((p0 &&& (2147483647 : Int32)) % (15 : Int32)))]))
  rcases own_cases p0 with hi46 | hi46 | hi46 | hi46 | hi46 | hi46 | hi46 | hi46 | hi46 | hi46 | hi46 | hi46 | hi46 | hi46 | hi46
  · rw [hi46]
    show own_Ends _ _ _ _ (T46.setTop (mkF mM 112 #[.val (.int p0), .val (.ref b1), .unset, .unset] [(.int (0 : Int32))]))
    refine own_go (fun _ k => XS.istoreN X46.here hx rfl (hb hby at_112) rfl (l' := #[.val (.int p0), .val (.ref b1), .val (.int (0 : Int32)), .unset]) rfl k) ?_
    show own_Ends _ _ _ _ (T46.setTop (mkF mM 113 #[.val (.int p0), .val (.ref b1), .val (.int (0 : Int32)), .unset] []))
    refine own_go (fun _ k => XS.iloadN X46.here hx rfl (hb hby at_113) rfl k) ?_
    show own_Ends _ _ _ _ (T46.setTop (mkF mM 114 #[.val (.int p0), .val (.ref b1), .val (.int (0 : Int32)), .unset] [(.int (0 : Int32))]))
    refine own_go (fun _ k => XS.iconst X46.here hx rfl (hb hby at_114) k) ?_
    show own_Ends _ _ _ _ (T46.setTop (mkF mM 115 #[.val (.int p0), .val (.ref b1), .val (.int (0 : Int32)), .unset] [(.int (1 : Int32)), (.int (0 : Int32))]))
    refine own_go (fun _ k => XS.icmpYes X46.here hx rfl (pc0 := 115) (pc' := 128) rfl (hb hby at_115) rfl (tlt (by decide : (0 : Int32) < (1 : Int32))).1 (by decide) (by decide) k) ?_
    show own_Ends _ _ _ _ (T46.setTop (mkF mM 128 #[.val (.int p0), .val (.ref b1), .val (.int (0 : Int32)), .unset] []))
    refine own_go (fun _ k => XS.iconst X46.here hx rfl (hb hby at_128) k) ?_
    show own_Ends _ _ _ _ (T46.setTop (mkF mM 129 #[.val (.int p0), .val (.ref b1), .val (.int (0 : Int32)), .unset] [(.int (0 : Int32))]))
    refine own_go (fun _ k => XS.istoreN X46.here hx rfl (hb hby at_129) rfl (l' := #[.val (.int p0), .val (.ref b1), .val (.int (0 : Int32)), .val (.int (0 : Int32))]) rfl k) ?_
    show own_Ends _ _ _ _ (T46.setTop (mkF mM 130 #[.val (.int p0), .val (.ref b1), .val (.int (0 : Int32)), .val (.int (0 : Int32))] []))
    refine own_go (fun _ k => XS.aloadN X46.here hx rfl (hb hby at_130) rfl rfl k) ?_
    show own_Ends _ _ _ _ (T46.setTop (mkF mM 131 #[.val (.int p0), .val (.ref b1), .val (.int (0 : Int32)), .val (.int (0 : Int32))] [(.ref b1)]))
    refine own_go (fun _ k => XS.iloadN X46.here hx rfl (hb hby at_131) rfl k) ?_
    show own_Ends _ _ _ _ (T46.setTop (mkF mM 132 #[.val (.int p0), .val (.ref b1), .val (.int (0 : Int32)), .val (.int (0 : Int32))] [(.int (0 : Int32)), (.ref b1)]))
    obtain ⟨cl48, Ar48, aq48, aS48, aN48, aH48, aG48⟩ := id V46
    have hin48 : ¬ ((0 : Int32) < 0 ∨ cl48.slots.size ≤ ((0 : Int32)).toNatClampNeg) := inb_of aS48 ⟨by decide, by decide⟩
    refine own_go (X46.aaload hx (j := (0 : Int32)) (v := (.ref a_VOID)) (by rw [e46]; exact Ar48.1) (State.isArrayOf_alike hZ.alike Ar48.2.1) rfl Ar48.2.2 hin48 (aH48.at hin48 rfl) (g := (mkF mM 132 #[.val (.int p0), .val (.ref b1), .val (.int (0 : Int32)), .val (.int (0 : Int32))] [(.int (0 : Int32)), (.ref b1)])) rfl rfl (hb hby at_132)) ?_
    show own_Ends _ _ _ _ (T46.setTop (mkF mM 133 #[.val (.int p0), .val (.ref b1), .val (.int (0 : Int32)), .val (.int (0 : Int32))] [(.ref a_VOID)]))
    obtain ⟨cq49, kq49, q49a, q49b, q49c⟩ := isOf hZ e46 (E_VOID.ext O46.2)
    obtain ⟨_, _, ⟨T49, Lz49, kz49, nz49⟩, -, X49, ⟨Lc49, hQ49, l49, y49, z49⟩, st49⟩ := X46.virtualBack hx (y := (⟨"com/example/abstract_and_refine/abstractandrefine/c/CType", "isInteger", "()Z"⟩ : MethodName)) (z := (⟨"com/example/abstract_and_refine/abstractandrefine/c/CType", "isInteger", "()Z"⟩ : MethodName)) hown (mvT hZ (hw _ (List.mem_of_getElem? (i := 35) rfl))) (mvT hZ (hw _ (List.mem_of_getElem? (i := 36) rfl))) (notFace_of_selects (args := #[]) (mvT hZ (hw _ (List.mem_of_getElem? (i := 38) rfl)))) (mvT hZ (hw _ (List.mem_of_getElem? (i := 38) rfl))) (mvT hZ (hw _ (List.mem_of_getElem? (i := 37) rfl))) (by decide) (backOf (W := 0) (own_isInteger l Z a0 hw [] a_VOID (0 : Int32) a_VOID a_FLOATING a_POINTER h46 n0 O46 S_VOID S_FLOATING S_POINTER (by rw [if_pos rfl])) hZ (hw _ (List.mem_of_getElem? (i := 39) rfl)) (hw _ (List.mem_of_getElem? (i := 3) rfl)) (by decide) (by decide)) q49a q49c (g := (mkF mM 133 #[.val (.int p0), .val (.ref b1), .val (.int (0 : Int32)), .val (.int (0 : Int32))] [(.ref a_VOID)])) rfl (by rw [hml]; rfl) (Steps.refl _) (argsL := []) (rest := []) (lenOf own_pd0 rfl) rfl (by show 2 * 0 + _ ≤ _; exact Nat.le_of_eq rfl) (hb hby at_133) (fun _ _ => ⟨rfl, e46, (by decide : 1 + 0 ≤ _), (by decide : 15 + 0 ≤ _)⟩)
    dsimp only [Pt.U, Pt.locs, Pt.cells, Pt.slots] at X49 l49 y49 z49 st49 hQ49
    subst l49 y49 z49
    obtain ⟨rfl, Nq49, e49⟩ := hQ49
    have N49 := Fr.app N46 Nq49
    refine own_tr st49 ?_
    show own_Ends _ _ _ _ (T49.setTop (mkF mM 136 #[.val (.int p0), .val (.ref b1), .val (.int (0 : Int32)), .val (.int (0 : Int32))] [(.int (0 : Int32))]))
    refine own_go (fun _ k => XS.iloadN X49.here hx rfl (hb hby at_136) rfl k) ?_
    show own_Ends _ _ _ _ (T49.setTop (mkF mM 137 #[.val (.int p0), .val (.ref b1), .val (.int (0 : Int32)), .val (.int (0 : Int32))] [(.int (0 : Int32)), (.int (0 : Int32))]))
    refine own_go (fun _ k => XS.icmpNo X49.here hx rfl (hb hby at_137) rfl (teq (by decide : (0 : Int32) = (0 : Int32))).2 k) ?_
    show own_Ends _ _ _ _ (T49.setTop (mkF mM 140 #[.val (.int p0), .val (.ref b1), .val (.int (0 : Int32)), .val (.int (0 : Int32))] []))
    refine own_go (fun _ k => XS.iconst X49.here hx rfl (hb hby at_140) k) ?_
    show own_Ends _ _ _ _ (T49.setTop (mkF mM 141 #[.val (.int p0), .val (.ref b1), .val (.int (0 : Int32)), .val (.int (0 : Int32))] [(.int (1 : Int32))]))
    refine own_go (fun _ k => XS.goto X49.here hx rfl (pc0 := 141) (pc' := 145) rfl (hb hby at_141) (by decide) (by decide) k) ?_
    show own_Ends _ _ _ _ (T49.setTop (mkF mM 145 #[.val (.int p0), .val (.ref b1), .val (.int (0 : Int32)), .val (.int (0 : Int32))] [(.int (1 : Int32))]))
    exact own_retZ X49 hx (BodyLoose.notSynchronized Bd) Bd.returns rfl (hb hby at_145) (by decide) (by decide) (by rw [e49]; exact ⟨rfl, N49⟩)
  · rw [hi46]
    show own_Ends _ _ _ _ (T46.setTop (mkF mM 112 #[.val (.int p0), .val (.ref b1), .unset, .unset] [(.int (1 : Int32))]))
    refine own_go (fun _ k => XS.istoreN X46.here hx rfl (hb hby at_112) rfl (l' := #[.val (.int p0), .val (.ref b1), .val (.int (1 : Int32)), .unset]) rfl k) ?_
    show own_Ends _ _ _ _ (T46.setTop (mkF mM 113 #[.val (.int p0), .val (.ref b1), .val (.int (1 : Int32)), .unset] []))
    refine own_go (fun _ k => XS.iloadN X46.here hx rfl (hb hby at_113) rfl k) ?_
    show own_Ends _ _ _ _ (T46.setTop (mkF mM 114 #[.val (.int p0), .val (.ref b1), .val (.int (1 : Int32)), .unset] [(.int (1 : Int32))]))
    refine own_go (fun _ k => XS.iconst X46.here hx rfl (hb hby at_114) k) ?_
    show own_Ends _ _ _ _ (T46.setTop (mkF mM 115 #[.val (.int p0), .val (.ref b1), .val (.int (1 : Int32)), .unset] [(.int (1 : Int32)), (.int (1 : Int32))]))
    refine own_go (fun _ k => XS.icmpNo X46.here hx rfl (hb hby at_115) rfl (flt (by decide : ¬ ((1 : Int32) < (1 : Int32)))).1 k) ?_
    show own_Ends _ _ _ _ (T46.setTop (mkF mM 118 #[.val (.int p0), .val (.ref b1), .val (.int (1 : Int32)), .unset] []))
    refine own_go (fun _ k => XS.iloadN X46.here hx rfl (hb hby at_118) rfl k) ?_
    show own_Ends _ _ _ _ (T46.setTop (mkF mM 119 #[.val (.int p0), .val (.ref b1), .val (.int (1 : Int32)), .unset] [(.int (1 : Int32))]))
    refine own_go (fun _ k => XS.bipush X46.here hx rfl (hb hby at_119) k) ?_
    show own_Ends _ _ _ _ (T46.setTop (mkF mM 121 #[.val (.int p0), .val (.ref b1), .val (.int (1 : Int32)), .unset] [(.int (12 : Int32)), (.int (1 : Int32))]))
    refine own_go (fun _ k => XS.icmpNo X46.here hx rfl (hb hby at_121) rfl (flt (by decide : ¬ ((12 : Int32) < (1 : Int32)))).2.2.1 k) ?_
    show own_Ends _ _ _ _ (T46.setTop (mkF mM 124 #[.val (.int p0), .val (.ref b1), .val (.int (1 : Int32)), .unset] []))
    refine own_go (fun _ k => XS.iconst X46.here hx rfl (hb hby at_124) k) ?_
    show own_Ends _ _ _ _ (T46.setTop (mkF mM 125 #[.val (.int p0), .val (.ref b1), .val (.int (1 : Int32)), .unset] [(.int (1 : Int32))]))
    refine own_go (fun _ k => XS.goto X46.here hx rfl (pc0 := 125) (pc' := 129) rfl (hb hby at_125) (by decide) (by decide) k) ?_
    show own_Ends _ _ _ _ (T46.setTop (mkF mM 129 #[.val (.int p0), .val (.ref b1), .val (.int (1 : Int32)), .unset] [(.int (1 : Int32))]))
    refine own_go (fun _ k => XS.istoreN X46.here hx rfl (hb hby at_129) rfl (l' := #[.val (.int p0), .val (.ref b1), .val (.int (1 : Int32)), .val (.int (1 : Int32))]) rfl k) ?_
    show own_Ends _ _ _ _ (T46.setTop (mkF mM 130 #[.val (.int p0), .val (.ref b1), .val (.int (1 : Int32)), .val (.int (1 : Int32))] []))
    refine own_go (fun _ k => XS.aloadN X46.here hx rfl (hb hby at_130) rfl rfl k) ?_
    show own_Ends _ _ _ _ (T46.setTop (mkF mM 131 #[.val (.int p0), .val (.ref b1), .val (.int (1 : Int32)), .val (.int (1 : Int32))] [(.ref b1)]))
    refine own_go (fun _ k => XS.iloadN X46.here hx rfl (hb hby at_131) rfl k) ?_
    show own_Ends _ _ _ _ (T46.setTop (mkF mM 132 #[.val (.int p0), .val (.ref b1), .val (.int (1 : Int32)), .val (.int (1 : Int32))] [(.int (1 : Int32)), (.ref b1)]))
    obtain ⟨cl50, Ar50, aq50, aS50, aN50, aH50, aG50⟩ := id V46
    have hin50 : ¬ ((1 : Int32) < 0 ∨ cl50.slots.size ≤ ((1 : Int32)).toNatClampNeg) := inb_of aS50 ⟨by decide, by decide⟩
    refine own_go (X46.aaload hx (j := (1 : Int32)) (v := (.ref a_BOOL)) (by rw [e46]; exact Ar50.1) (State.isArrayOf_alike hZ.alike Ar50.2.1) rfl Ar50.2.2 hin50 (aH50.at hin50 rfl) (g := (mkF mM 132 #[.val (.int p0), .val (.ref b1), .val (.int (1 : Int32)), .val (.int (1 : Int32))] [(.int (1 : Int32)), (.ref b1)])) rfl rfl (hb hby at_132)) ?_
    show own_Ends _ _ _ _ (T46.setTop (mkF mM 133 #[.val (.int p0), .val (.ref b1), .val (.int (1 : Int32)), .val (.int (1 : Int32))] [(.ref a_BOOL)]))
    obtain ⟨cq51, kq51, q51a, q51b, q51c⟩ := isOf hZ e46 (E_BOOL.ext O46.2)
    obtain ⟨_, _, ⟨T51, Lz51, kz51, nz51⟩, -, X51, ⟨Lc51, hQ51, l51, y51, z51⟩, st51⟩ := X46.virtualBack hx (y := (⟨"com/example/abstract_and_refine/abstractandrefine/c/CType", "isInteger", "()Z"⟩ : MethodName)) (z := (⟨"com/example/abstract_and_refine/abstractandrefine/c/CType", "isInteger", "()Z"⟩ : MethodName)) hown (mvT hZ (hw _ (List.mem_of_getElem? (i := 35) rfl))) (mvT hZ (hw _ (List.mem_of_getElem? (i := 36) rfl))) (notFace_of_selects (args := #[]) (mvT hZ (hw _ (List.mem_of_getElem? (i := 38) rfl)))) (mvT hZ (hw _ (List.mem_of_getElem? (i := 38) rfl))) (mvT hZ (hw _ (List.mem_of_getElem? (i := 37) rfl))) (by decide) (backOf (W := 0) (own_isInteger l Z a0 hw [] a_BOOL (1 : Int32) a_VOID a_FLOATING a_POINTER h46 n0 O46 S_VOID S_FLOATING S_POINTER (by rw [if_neg (Fld.ne F_BOOL_ordinal F_VOID_ordinal (fun q => absurd (Value.int.inj q) (by decide))), if_neg (Fld.ne F_BOOL_ordinal F_FLOATING_ordinal (fun q => absurd (Value.int.inj q) (by decide))), if_neg (Fld.ne F_BOOL_ordinal F_POINTER_ordinal (fun q => absurd (Value.int.inj q) (by decide)))])) hZ (hw _ (List.mem_of_getElem? (i := 39) rfl)) (hw _ (List.mem_of_getElem? (i := 3) rfl)) (by decide) (by decide)) q51a q51c (g := (mkF mM 133 #[.val (.int p0), .val (.ref b1), .val (.int (1 : Int32)), .val (.int (1 : Int32))] [(.ref a_BOOL)])) rfl (by rw [hml]; rfl) (Steps.refl _) (argsL := []) (rest := []) (lenOf own_pd0 rfl) rfl (by show 2 * 0 + _ ≤ _; exact Nat.le_of_eq rfl) (hb hby at_133) (fun _ _ => ⟨rfl, e46, (by decide : 1 + 0 ≤ _), (by decide : 15 + 0 ≤ _)⟩)
    dsimp only [Pt.U, Pt.locs, Pt.cells, Pt.slots] at X51 l51 y51 z51 st51 hQ51
    subst l51 y51 z51
    obtain ⟨rfl, Nq51, e51⟩ := hQ51
    have N51 := Fr.app N46 Nq51
    refine own_tr st51 ?_
    show own_Ends _ _ _ _ (T51.setTop (mkF mM 136 #[.val (.int p0), .val (.ref b1), .val (.int (1 : Int32)), .val (.int (1 : Int32))] [(.int (1 : Int32))]))
    refine own_go (fun _ k => XS.iloadN X51.here hx rfl (hb hby at_136) rfl k) ?_
    show own_Ends _ _ _ _ (T51.setTop (mkF mM 137 #[.val (.int p0), .val (.ref b1), .val (.int (1 : Int32)), .val (.int (1 : Int32))] [(.int (1 : Int32)), (.int (1 : Int32))]))
    refine own_go (fun _ k => XS.icmpNo X51.here hx rfl (hb hby at_137) rfl (teq (by decide : (1 : Int32) = (1 : Int32))).2 k) ?_
    show own_Ends _ _ _ _ (T51.setTop (mkF mM 140 #[.val (.int p0), .val (.ref b1), .val (.int (1 : Int32)), .val (.int (1 : Int32))] []))
    refine own_go (fun _ k => XS.iconst X51.here hx rfl (hb hby at_140) k) ?_
    show own_Ends _ _ _ _ (T51.setTop (mkF mM 141 #[.val (.int p0), .val (.ref b1), .val (.int (1 : Int32)), .val (.int (1 : Int32))] [(.int (1 : Int32))]))
    refine own_go (fun _ k => XS.goto X51.here hx rfl (pc0 := 141) (pc' := 145) rfl (hb hby at_141) (by decide) (by decide) k) ?_
    show own_Ends _ _ _ _ (T51.setTop (mkF mM 145 #[.val (.int p0), .val (.ref b1), .val (.int (1 : Int32)), .val (.int (1 : Int32))] [(.int (1 : Int32))]))
    exact own_retZ X51 hx (BodyLoose.notSynchronized Bd) Bd.returns rfl (hb hby at_145) (by decide) (by decide) (by rw [e51]; exact ⟨rfl, N51⟩)
  · rw [hi46]
    show own_Ends _ _ _ _ (T46.setTop (mkF mM 112 #[.val (.int p0), .val (.ref b1), .unset, .unset] [(.int (2 : Int32))]))
    refine own_go (fun _ k => XS.istoreN X46.here hx rfl (hb hby at_112) rfl (l' := #[.val (.int p0), .val (.ref b1), .val (.int (2 : Int32)), .unset]) rfl k) ?_
    show own_Ends _ _ _ _ (T46.setTop (mkF mM 113 #[.val (.int p0), .val (.ref b1), .val (.int (2 : Int32)), .unset] []))
    refine own_go (fun _ k => XS.iloadN X46.here hx rfl (hb hby at_113) rfl k) ?_
    show own_Ends _ _ _ _ (T46.setTop (mkF mM 114 #[.val (.int p0), .val (.ref b1), .val (.int (2 : Int32)), .unset] [(.int (2 : Int32))]))
    refine own_go (fun _ k => XS.iconst X46.here hx rfl (hb hby at_114) k) ?_
    show own_Ends _ _ _ _ (T46.setTop (mkF mM 115 #[.val (.int p0), .val (.ref b1), .val (.int (2 : Int32)), .unset] [(.int (1 : Int32)), (.int (2 : Int32))]))
    refine own_go (fun _ k => XS.icmpNo X46.here hx rfl (hb hby at_115) rfl (flt (by decide : ¬ ((2 : Int32) < (1 : Int32)))).1 k) ?_
    show own_Ends _ _ _ _ (T46.setTop (mkF mM 118 #[.val (.int p0), .val (.ref b1), .val (.int (2 : Int32)), .unset] []))
    refine own_go (fun _ k => XS.iloadN X46.here hx rfl (hb hby at_118) rfl k) ?_
    show own_Ends _ _ _ _ (T46.setTop (mkF mM 119 #[.val (.int p0), .val (.ref b1), .val (.int (2 : Int32)), .unset] [(.int (2 : Int32))]))
    refine own_go (fun _ k => XS.bipush X46.here hx rfl (hb hby at_119) k) ?_
    show own_Ends _ _ _ _ (T46.setTop (mkF mM 121 #[.val (.int p0), .val (.ref b1), .val (.int (2 : Int32)), .unset] [(.int (12 : Int32)), (.int (2 : Int32))]))
    refine own_go (fun _ k => XS.icmpNo X46.here hx rfl (hb hby at_121) rfl (flt (by decide : ¬ ((12 : Int32) < (2 : Int32)))).2.2.1 k) ?_
    show own_Ends _ _ _ _ (T46.setTop (mkF mM 124 #[.val (.int p0), .val (.ref b1), .val (.int (2 : Int32)), .unset] []))
    refine own_go (fun _ k => XS.iconst X46.here hx rfl (hb hby at_124) k) ?_
    show own_Ends _ _ _ _ (T46.setTop (mkF mM 125 #[.val (.int p0), .val (.ref b1), .val (.int (2 : Int32)), .unset] [(.int (1 : Int32))]))
    refine own_go (fun _ k => XS.goto X46.here hx rfl (pc0 := 125) (pc' := 129) rfl (hb hby at_125) (by decide) (by decide) k) ?_
    show own_Ends _ _ _ _ (T46.setTop (mkF mM 129 #[.val (.int p0), .val (.ref b1), .val (.int (2 : Int32)), .unset] [(.int (1 : Int32))]))
    refine own_go (fun _ k => XS.istoreN X46.here hx rfl (hb hby at_129) rfl (l' := #[.val (.int p0), .val (.ref b1), .val (.int (2 : Int32)), .val (.int (1 : Int32))]) rfl k) ?_
    show own_Ends _ _ _ _ (T46.setTop (mkF mM 130 #[.val (.int p0), .val (.ref b1), .val (.int (2 : Int32)), .val (.int (1 : Int32))] []))
    refine own_go (fun _ k => XS.aloadN X46.here hx rfl (hb hby at_130) rfl rfl k) ?_
    show own_Ends _ _ _ _ (T46.setTop (mkF mM 131 #[.val (.int p0), .val (.ref b1), .val (.int (2 : Int32)), .val (.int (1 : Int32))] [(.ref b1)]))
    refine own_go (fun _ k => XS.iloadN X46.here hx rfl (hb hby at_131) rfl k) ?_
    show own_Ends _ _ _ _ (T46.setTop (mkF mM 132 #[.val (.int p0), .val (.ref b1), .val (.int (2 : Int32)), .val (.int (1 : Int32))] [(.int (2 : Int32)), (.ref b1)]))
    obtain ⟨cl52, Ar52, aq52, aS52, aN52, aH52, aG52⟩ := id V46
    have hin52 : ¬ ((2 : Int32) < 0 ∨ cl52.slots.size ≤ ((2 : Int32)).toNatClampNeg) := inb_of aS52 ⟨by decide, by decide⟩
    refine own_go (X46.aaload hx (j := (2 : Int32)) (v := (.ref a_CHAR)) (by rw [e46]; exact Ar52.1) (State.isArrayOf_alike hZ.alike Ar52.2.1) rfl Ar52.2.2 hin52 (aH52.at hin52 rfl) (g := (mkF mM 132 #[.val (.int p0), .val (.ref b1), .val (.int (2 : Int32)), .val (.int (1 : Int32))] [(.int (2 : Int32)), (.ref b1)])) rfl rfl (hb hby at_132)) ?_
    show own_Ends _ _ _ _ (T46.setTop (mkF mM 133 #[.val (.int p0), .val (.ref b1), .val (.int (2 : Int32)), .val (.int (1 : Int32))] [(.ref a_CHAR)]))
    obtain ⟨cq53, kq53, q53a, q53b, q53c⟩ := isOf hZ e46 (E_CHAR.ext O46.2)
    obtain ⟨_, _, ⟨T53, Lz53, kz53, nz53⟩, -, X53, ⟨Lc53, hQ53, l53, y53, z53⟩, st53⟩ := X46.virtualBack hx (y := (⟨"com/example/abstract_and_refine/abstractandrefine/c/CType", "isInteger", "()Z"⟩ : MethodName)) (z := (⟨"com/example/abstract_and_refine/abstractandrefine/c/CType", "isInteger", "()Z"⟩ : MethodName)) hown (mvT hZ (hw _ (List.mem_of_getElem? (i := 35) rfl))) (mvT hZ (hw _ (List.mem_of_getElem? (i := 36) rfl))) (notFace_of_selects (args := #[]) (mvT hZ (hw _ (List.mem_of_getElem? (i := 38) rfl)))) (mvT hZ (hw _ (List.mem_of_getElem? (i := 38) rfl))) (mvT hZ (hw _ (List.mem_of_getElem? (i := 37) rfl))) (by decide) (backOf (W := 0) (own_isInteger l Z a0 hw [] a_CHAR (1 : Int32) a_VOID a_FLOATING a_POINTER h46 n0 O46 S_VOID S_FLOATING S_POINTER (by rw [if_neg (Fld.ne F_CHAR_ordinal F_VOID_ordinal (fun q => absurd (Value.int.inj q) (by decide))), if_neg (Fld.ne F_CHAR_ordinal F_FLOATING_ordinal (fun q => absurd (Value.int.inj q) (by decide))), if_neg (Fld.ne F_CHAR_ordinal F_POINTER_ordinal (fun q => absurd (Value.int.inj q) (by decide)))])) hZ (hw _ (List.mem_of_getElem? (i := 39) rfl)) (hw _ (List.mem_of_getElem? (i := 3) rfl)) (by decide) (by decide)) q53a q53c (g := (mkF mM 133 #[.val (.int p0), .val (.ref b1), .val (.int (2 : Int32)), .val (.int (1 : Int32))] [(.ref a_CHAR)])) rfl (by rw [hml]; rfl) (Steps.refl _) (argsL := []) (rest := []) (lenOf own_pd0 rfl) rfl (by show 2 * 0 + _ ≤ _; exact Nat.le_of_eq rfl) (hb hby at_133) (fun _ _ => ⟨rfl, e46, (by decide : 1 + 0 ≤ _), (by decide : 15 + 0 ≤ _)⟩)
    dsimp only [Pt.U, Pt.locs, Pt.cells, Pt.slots] at X53 l53 y53 z53 st53 hQ53
    subst l53 y53 z53
    obtain ⟨rfl, Nq53, e53⟩ := hQ53
    have N53 := Fr.app N46 Nq53
    refine own_tr st53 ?_
    show own_Ends _ _ _ _ (T53.setTop (mkF mM 136 #[.val (.int p0), .val (.ref b1), .val (.int (2 : Int32)), .val (.int (1 : Int32))] [(.int (1 : Int32))]))
    refine own_go (fun _ k => XS.iloadN X53.here hx rfl (hb hby at_136) rfl k) ?_
    show own_Ends _ _ _ _ (T53.setTop (mkF mM 137 #[.val (.int p0), .val (.ref b1), .val (.int (2 : Int32)), .val (.int (1 : Int32))] [(.int (1 : Int32)), (.int (1 : Int32))]))
    refine own_go (fun _ k => XS.icmpNo X53.here hx rfl (hb hby at_137) rfl (teq (by decide : (1 : Int32) = (1 : Int32))).2 k) ?_
    show own_Ends _ _ _ _ (T53.setTop (mkF mM 140 #[.val (.int p0), .val (.ref b1), .val (.int (2 : Int32)), .val (.int (1 : Int32))] []))
    refine own_go (fun _ k => XS.iconst X53.here hx rfl (hb hby at_140) k) ?_
    show own_Ends _ _ _ _ (T53.setTop (mkF mM 141 #[.val (.int p0), .val (.ref b1), .val (.int (2 : Int32)), .val (.int (1 : Int32))] [(.int (1 : Int32))]))
    refine own_go (fun _ k => XS.goto X53.here hx rfl (pc0 := 141) (pc' := 145) rfl (hb hby at_141) (by decide) (by decide) k) ?_
    show own_Ends _ _ _ _ (T53.setTop (mkF mM 145 #[.val (.int p0), .val (.ref b1), .val (.int (2 : Int32)), .val (.int (1 : Int32))] [(.int (1 : Int32))]))
    exact own_retZ X53 hx (BodyLoose.notSynchronized Bd) Bd.returns rfl (hb hby at_145) (by decide) (by decide) (by rw [e53]; exact ⟨rfl, N53⟩)
  · rw [hi46]
    show own_Ends _ _ _ _ (T46.setTop (mkF mM 112 #[.val (.int p0), .val (.ref b1), .unset, .unset] [(.int (3 : Int32))]))
    refine own_go (fun _ k => XS.istoreN X46.here hx rfl (hb hby at_112) rfl (l' := #[.val (.int p0), .val (.ref b1), .val (.int (3 : Int32)), .unset]) rfl k) ?_
    show own_Ends _ _ _ _ (T46.setTop (mkF mM 113 #[.val (.int p0), .val (.ref b1), .val (.int (3 : Int32)), .unset] []))
    refine own_go (fun _ k => XS.iloadN X46.here hx rfl (hb hby at_113) rfl k) ?_
    show own_Ends _ _ _ _ (T46.setTop (mkF mM 114 #[.val (.int p0), .val (.ref b1), .val (.int (3 : Int32)), .unset] [(.int (3 : Int32))]))
    refine own_go (fun _ k => XS.iconst X46.here hx rfl (hb hby at_114) k) ?_
    show own_Ends _ _ _ _ (T46.setTop (mkF mM 115 #[.val (.int p0), .val (.ref b1), .val (.int (3 : Int32)), .unset] [(.int (1 : Int32)), (.int (3 : Int32))]))
    refine own_go (fun _ k => XS.icmpNo X46.here hx rfl (hb hby at_115) rfl (flt (by decide : ¬ ((3 : Int32) < (1 : Int32)))).1 k) ?_
    show own_Ends _ _ _ _ (T46.setTop (mkF mM 118 #[.val (.int p0), .val (.ref b1), .val (.int (3 : Int32)), .unset] []))
    refine own_go (fun _ k => XS.iloadN X46.here hx rfl (hb hby at_118) rfl k) ?_
    show own_Ends _ _ _ _ (T46.setTop (mkF mM 119 #[.val (.int p0), .val (.ref b1), .val (.int (3 : Int32)), .unset] [(.int (3 : Int32))]))
    refine own_go (fun _ k => XS.bipush X46.here hx rfl (hb hby at_119) k) ?_
    show own_Ends _ _ _ _ (T46.setTop (mkF mM 121 #[.val (.int p0), .val (.ref b1), .val (.int (3 : Int32)), .unset] [(.int (12 : Int32)), (.int (3 : Int32))]))
    refine own_go (fun _ k => XS.icmpNo X46.here hx rfl (hb hby at_121) rfl (flt (by decide : ¬ ((12 : Int32) < (3 : Int32)))).2.2.1 k) ?_
    show own_Ends _ _ _ _ (T46.setTop (mkF mM 124 #[.val (.int p0), .val (.ref b1), .val (.int (3 : Int32)), .unset] []))
    refine own_go (fun _ k => XS.iconst X46.here hx rfl (hb hby at_124) k) ?_
    show own_Ends _ _ _ _ (T46.setTop (mkF mM 125 #[.val (.int p0), .val (.ref b1), .val (.int (3 : Int32)), .unset] [(.int (1 : Int32))]))
    refine own_go (fun _ k => XS.goto X46.here hx rfl (pc0 := 125) (pc' := 129) rfl (hb hby at_125) (by decide) (by decide) k) ?_
    show own_Ends _ _ _ _ (T46.setTop (mkF mM 129 #[.val (.int p0), .val (.ref b1), .val (.int (3 : Int32)), .unset] [(.int (1 : Int32))]))
    refine own_go (fun _ k => XS.istoreN X46.here hx rfl (hb hby at_129) rfl (l' := #[.val (.int p0), .val (.ref b1), .val (.int (3 : Int32)), .val (.int (1 : Int32))]) rfl k) ?_
    show own_Ends _ _ _ _ (T46.setTop (mkF mM 130 #[.val (.int p0), .val (.ref b1), .val (.int (3 : Int32)), .val (.int (1 : Int32))] []))
    refine own_go (fun _ k => XS.aloadN X46.here hx rfl (hb hby at_130) rfl rfl k) ?_
    show own_Ends _ _ _ _ (T46.setTop (mkF mM 131 #[.val (.int p0), .val (.ref b1), .val (.int (3 : Int32)), .val (.int (1 : Int32))] [(.ref b1)]))
    refine own_go (fun _ k => XS.iloadN X46.here hx rfl (hb hby at_131) rfl k) ?_
    show own_Ends _ _ _ _ (T46.setTop (mkF mM 132 #[.val (.int p0), .val (.ref b1), .val (.int (3 : Int32)), .val (.int (1 : Int32))] [(.int (3 : Int32)), (.ref b1)]))
    obtain ⟨cl54, Ar54, aq54, aS54, aN54, aH54, aG54⟩ := id V46
    have hin54 : ¬ ((3 : Int32) < 0 ∨ cl54.slots.size ≤ ((3 : Int32)).toNatClampNeg) := inb_of aS54 ⟨by decide, by decide⟩
    refine own_go (X46.aaload hx (j := (3 : Int32)) (v := (.ref a_SIGNED_CHAR)) (by rw [e46]; exact Ar54.1) (State.isArrayOf_alike hZ.alike Ar54.2.1) rfl Ar54.2.2 hin54 (aH54.at hin54 rfl) (g := (mkF mM 132 #[.val (.int p0), .val (.ref b1), .val (.int (3 : Int32)), .val (.int (1 : Int32))] [(.int (3 : Int32)), (.ref b1)])) rfl rfl (hb hby at_132)) ?_
    show own_Ends _ _ _ _ (T46.setTop (mkF mM 133 #[.val (.int p0), .val (.ref b1), .val (.int (3 : Int32)), .val (.int (1 : Int32))] [(.ref a_SIGNED_CHAR)]))
    obtain ⟨cq55, kq55, q55a, q55b, q55c⟩ := isOf hZ e46 (E_SIGNED_CHAR.ext O46.2)
    obtain ⟨_, _, ⟨T55, Lz55, kz55, nz55⟩, -, X55, ⟨Lc55, hQ55, l55, y55, z55⟩, st55⟩ := X46.virtualBack hx (y := (⟨"com/example/abstract_and_refine/abstractandrefine/c/CType", "isInteger", "()Z"⟩ : MethodName)) (z := (⟨"com/example/abstract_and_refine/abstractandrefine/c/CType", "isInteger", "()Z"⟩ : MethodName)) hown (mvT hZ (hw _ (List.mem_of_getElem? (i := 35) rfl))) (mvT hZ (hw _ (List.mem_of_getElem? (i := 36) rfl))) (notFace_of_selects (args := #[]) (mvT hZ (hw _ (List.mem_of_getElem? (i := 38) rfl)))) (mvT hZ (hw _ (List.mem_of_getElem? (i := 38) rfl))) (mvT hZ (hw _ (List.mem_of_getElem? (i := 37) rfl))) (by decide) (backOf (W := 0) (own_isInteger l Z a0 hw [] a_SIGNED_CHAR (1 : Int32) a_VOID a_FLOATING a_POINTER h46 n0 O46 S_VOID S_FLOATING S_POINTER (by rw [if_neg (Fld.ne F_SIGNED_CHAR_ordinal F_VOID_ordinal (fun q => absurd (Value.int.inj q) (by decide))), if_neg (Fld.ne F_SIGNED_CHAR_ordinal F_FLOATING_ordinal (fun q => absurd (Value.int.inj q) (by decide))), if_neg (Fld.ne F_SIGNED_CHAR_ordinal F_POINTER_ordinal (fun q => absurd (Value.int.inj q) (by decide)))])) hZ (hw _ (List.mem_of_getElem? (i := 39) rfl)) (hw _ (List.mem_of_getElem? (i := 3) rfl)) (by decide) (by decide)) q55a q55c (g := (mkF mM 133 #[.val (.int p0), .val (.ref b1), .val (.int (3 : Int32)), .val (.int (1 : Int32))] [(.ref a_SIGNED_CHAR)])) rfl (by rw [hml]; rfl) (Steps.refl _) (argsL := []) (rest := []) (lenOf own_pd0 rfl) rfl (by show 2 * 0 + _ ≤ _; exact Nat.le_of_eq rfl) (hb hby at_133) (fun _ _ => ⟨rfl, e46, (by decide : 1 + 0 ≤ _), (by decide : 15 + 0 ≤ _)⟩)
    dsimp only [Pt.U, Pt.locs, Pt.cells, Pt.slots] at X55 l55 y55 z55 st55 hQ55
    subst l55 y55 z55
    obtain ⟨rfl, Nq55, e55⟩ := hQ55
    have N55 := Fr.app N46 Nq55
    refine own_tr st55 ?_
    show own_Ends _ _ _ _ (T55.setTop (mkF mM 136 #[.val (.int p0), .val (.ref b1), .val (.int (3 : Int32)), .val (.int (1 : Int32))] [(.int (1 : Int32))]))
    refine own_go (fun _ k => XS.iloadN X55.here hx rfl (hb hby at_136) rfl k) ?_
    show own_Ends _ _ _ _ (T55.setTop (mkF mM 137 #[.val (.int p0), .val (.ref b1), .val (.int (3 : Int32)), .val (.int (1 : Int32))] [(.int (1 : Int32)), (.int (1 : Int32))]))
    refine own_go (fun _ k => XS.icmpNo X55.here hx rfl (hb hby at_137) rfl (teq (by decide : (1 : Int32) = (1 : Int32))).2 k) ?_
    show own_Ends _ _ _ _ (T55.setTop (mkF mM 140 #[.val (.int p0), .val (.ref b1), .val (.int (3 : Int32)), .val (.int (1 : Int32))] []))
    refine own_go (fun _ k => XS.iconst X55.here hx rfl (hb hby at_140) k) ?_
    show own_Ends _ _ _ _ (T55.setTop (mkF mM 141 #[.val (.int p0), .val (.ref b1), .val (.int (3 : Int32)), .val (.int (1 : Int32))] [(.int (1 : Int32))]))
    refine own_go (fun _ k => XS.goto X55.here hx rfl (pc0 := 141) (pc' := 145) rfl (hb hby at_141) (by decide) (by decide) k) ?_
    show own_Ends _ _ _ _ (T55.setTop (mkF mM 145 #[.val (.int p0), .val (.ref b1), .val (.int (3 : Int32)), .val (.int (1 : Int32))] [(.int (1 : Int32))]))
    exact own_retZ X55 hx (BodyLoose.notSynchronized Bd) Bd.returns rfl (hb hby at_145) (by decide) (by decide) (by rw [e55]; exact ⟨rfl, N55⟩)
  · rw [hi46]
    show own_Ends _ _ _ _ (T46.setTop (mkF mM 112 #[.val (.int p0), .val (.ref b1), .unset, .unset] [(.int (4 : Int32))]))
    refine own_go (fun _ k => XS.istoreN X46.here hx rfl (hb hby at_112) rfl (l' := #[.val (.int p0), .val (.ref b1), .val (.int (4 : Int32)), .unset]) rfl k) ?_
    show own_Ends _ _ _ _ (T46.setTop (mkF mM 113 #[.val (.int p0), .val (.ref b1), .val (.int (4 : Int32)), .unset] []))
    refine own_go (fun _ k => XS.iloadN X46.here hx rfl (hb hby at_113) rfl k) ?_
    show own_Ends _ _ _ _ (T46.setTop (mkF mM 114 #[.val (.int p0), .val (.ref b1), .val (.int (4 : Int32)), .unset] [(.int (4 : Int32))]))
    refine own_go (fun _ k => XS.iconst X46.here hx rfl (hb hby at_114) k) ?_
    show own_Ends _ _ _ _ (T46.setTop (mkF mM 115 #[.val (.int p0), .val (.ref b1), .val (.int (4 : Int32)), .unset] [(.int (1 : Int32)), (.int (4 : Int32))]))
    refine own_go (fun _ k => XS.icmpNo X46.here hx rfl (hb hby at_115) rfl (flt (by decide : ¬ ((4 : Int32) < (1 : Int32)))).1 k) ?_
    show own_Ends _ _ _ _ (T46.setTop (mkF mM 118 #[.val (.int p0), .val (.ref b1), .val (.int (4 : Int32)), .unset] []))
    refine own_go (fun _ k => XS.iloadN X46.here hx rfl (hb hby at_118) rfl k) ?_
    show own_Ends _ _ _ _ (T46.setTop (mkF mM 119 #[.val (.int p0), .val (.ref b1), .val (.int (4 : Int32)), .unset] [(.int (4 : Int32))]))
    refine own_go (fun _ k => XS.bipush X46.here hx rfl (hb hby at_119) k) ?_
    show own_Ends _ _ _ _ (T46.setTop (mkF mM 121 #[.val (.int p0), .val (.ref b1), .val (.int (4 : Int32)), .unset] [(.int (12 : Int32)), (.int (4 : Int32))]))
    refine own_go (fun _ k => XS.icmpNo X46.here hx rfl (hb hby at_121) rfl (flt (by decide : ¬ ((12 : Int32) < (4 : Int32)))).2.2.1 k) ?_
    show own_Ends _ _ _ _ (T46.setTop (mkF mM 124 #[.val (.int p0), .val (.ref b1), .val (.int (4 : Int32)), .unset] []))
    refine own_go (fun _ k => XS.iconst X46.here hx rfl (hb hby at_124) k) ?_
    show own_Ends _ _ _ _ (T46.setTop (mkF mM 125 #[.val (.int p0), .val (.ref b1), .val (.int (4 : Int32)), .unset] [(.int (1 : Int32))]))
    refine own_go (fun _ k => XS.goto X46.here hx rfl (pc0 := 125) (pc' := 129) rfl (hb hby at_125) (by decide) (by decide) k) ?_
    show own_Ends _ _ _ _ (T46.setTop (mkF mM 129 #[.val (.int p0), .val (.ref b1), .val (.int (4 : Int32)), .unset] [(.int (1 : Int32))]))
    refine own_go (fun _ k => XS.istoreN X46.here hx rfl (hb hby at_129) rfl (l' := #[.val (.int p0), .val (.ref b1), .val (.int (4 : Int32)), .val (.int (1 : Int32))]) rfl k) ?_
    show own_Ends _ _ _ _ (T46.setTop (mkF mM 130 #[.val (.int p0), .val (.ref b1), .val (.int (4 : Int32)), .val (.int (1 : Int32))] []))
    refine own_go (fun _ k => XS.aloadN X46.here hx rfl (hb hby at_130) rfl rfl k) ?_
    show own_Ends _ _ _ _ (T46.setTop (mkF mM 131 #[.val (.int p0), .val (.ref b1), .val (.int (4 : Int32)), .val (.int (1 : Int32))] [(.ref b1)]))
    refine own_go (fun _ k => XS.iloadN X46.here hx rfl (hb hby at_131) rfl k) ?_
    show own_Ends _ _ _ _ (T46.setTop (mkF mM 132 #[.val (.int p0), .val (.ref b1), .val (.int (4 : Int32)), .val (.int (1 : Int32))] [(.int (4 : Int32)), (.ref b1)]))
    obtain ⟨cl56, Ar56, aq56, aS56, aN56, aH56, aG56⟩ := id V46
    have hin56 : ¬ ((4 : Int32) < 0 ∨ cl56.slots.size ≤ ((4 : Int32)).toNatClampNeg) := inb_of aS56 ⟨by decide, by decide⟩
    refine own_go (X46.aaload hx (j := (4 : Int32)) (v := (.ref a_UNSIGNED_CHAR)) (by rw [e46]; exact Ar56.1) (State.isArrayOf_alike hZ.alike Ar56.2.1) rfl Ar56.2.2 hin56 (aH56.at hin56 rfl) (g := (mkF mM 132 #[.val (.int p0), .val (.ref b1), .val (.int (4 : Int32)), .val (.int (1 : Int32))] [(.int (4 : Int32)), (.ref b1)])) rfl rfl (hb hby at_132)) ?_
    show own_Ends _ _ _ _ (T46.setTop (mkF mM 133 #[.val (.int p0), .val (.ref b1), .val (.int (4 : Int32)), .val (.int (1 : Int32))] [(.ref a_UNSIGNED_CHAR)]))
    obtain ⟨cq57, kq57, q57a, q57b, q57c⟩ := isOf hZ e46 (E_UNSIGNED_CHAR.ext O46.2)
    obtain ⟨_, _, ⟨T57, Lz57, kz57, nz57⟩, -, X57, ⟨Lc57, hQ57, l57, y57, z57⟩, st57⟩ := X46.virtualBack hx (y := (⟨"com/example/abstract_and_refine/abstractandrefine/c/CType", "isInteger", "()Z"⟩ : MethodName)) (z := (⟨"com/example/abstract_and_refine/abstractandrefine/c/CType", "isInteger", "()Z"⟩ : MethodName)) hown (mvT hZ (hw _ (List.mem_of_getElem? (i := 35) rfl))) (mvT hZ (hw _ (List.mem_of_getElem? (i := 36) rfl))) (notFace_of_selects (args := #[]) (mvT hZ (hw _ (List.mem_of_getElem? (i := 38) rfl)))) (mvT hZ (hw _ (List.mem_of_getElem? (i := 38) rfl))) (mvT hZ (hw _ (List.mem_of_getElem? (i := 37) rfl))) (by decide) (backOf (W := 0) (own_isInteger l Z a0 hw [] a_UNSIGNED_CHAR (1 : Int32) a_VOID a_FLOATING a_POINTER h46 n0 O46 S_VOID S_FLOATING S_POINTER (by rw [if_neg (Fld.ne F_UNSIGNED_CHAR_ordinal F_VOID_ordinal (fun q => absurd (Value.int.inj q) (by decide))), if_neg (Fld.ne F_UNSIGNED_CHAR_ordinal F_FLOATING_ordinal (fun q => absurd (Value.int.inj q) (by decide))), if_neg (Fld.ne F_UNSIGNED_CHAR_ordinal F_POINTER_ordinal (fun q => absurd (Value.int.inj q) (by decide)))])) hZ (hw _ (List.mem_of_getElem? (i := 39) rfl)) (hw _ (List.mem_of_getElem? (i := 3) rfl)) (by decide) (by decide)) q57a q57c (g := (mkF mM 133 #[.val (.int p0), .val (.ref b1), .val (.int (4 : Int32)), .val (.int (1 : Int32))] [(.ref a_UNSIGNED_CHAR)])) rfl (by rw [hml]; rfl) (Steps.refl _) (argsL := []) (rest := []) (lenOf own_pd0 rfl) rfl (by show 2 * 0 + _ ≤ _; exact Nat.le_of_eq rfl) (hb hby at_133) (fun _ _ => ⟨rfl, e46, (by decide : 1 + 0 ≤ _), (by decide : 15 + 0 ≤ _)⟩)
    dsimp only [Pt.U, Pt.locs, Pt.cells, Pt.slots] at X57 l57 y57 z57 st57 hQ57
    subst l57 y57 z57
    obtain ⟨rfl, Nq57, e57⟩ := hQ57
    have N57 := Fr.app N46 Nq57
    refine own_tr st57 ?_
    show own_Ends _ _ _ _ (T57.setTop (mkF mM 136 #[.val (.int p0), .val (.ref b1), .val (.int (4 : Int32)), .val (.int (1 : Int32))] [(.int (1 : Int32))]))
    refine own_go (fun _ k => XS.iloadN X57.here hx rfl (hb hby at_136) rfl k) ?_
    show own_Ends _ _ _ _ (T57.setTop (mkF mM 137 #[.val (.int p0), .val (.ref b1), .val (.int (4 : Int32)), .val (.int (1 : Int32))] [(.int (1 : Int32)), (.int (1 : Int32))]))
    refine own_go (fun _ k => XS.icmpNo X57.here hx rfl (hb hby at_137) rfl (teq (by decide : (1 : Int32) = (1 : Int32))).2 k) ?_
    show own_Ends _ _ _ _ (T57.setTop (mkF mM 140 #[.val (.int p0), .val (.ref b1), .val (.int (4 : Int32)), .val (.int (1 : Int32))] []))
    refine own_go (fun _ k => XS.iconst X57.here hx rfl (hb hby at_140) k) ?_
    show own_Ends _ _ _ _ (T57.setTop (mkF mM 141 #[.val (.int p0), .val (.ref b1), .val (.int (4 : Int32)), .val (.int (1 : Int32))] [(.int (1 : Int32))]))
    refine own_go (fun _ k => XS.goto X57.here hx rfl (pc0 := 141) (pc' := 145) rfl (hb hby at_141) (by decide) (by decide) k) ?_
    show own_Ends _ _ _ _ (T57.setTop (mkF mM 145 #[.val (.int p0), .val (.ref b1), .val (.int (4 : Int32)), .val (.int (1 : Int32))] [(.int (1 : Int32))]))
    exact own_retZ X57 hx (BodyLoose.notSynchronized Bd) Bd.returns rfl (hb hby at_145) (by decide) (by decide) (by rw [e57]; exact ⟨rfl, N57⟩)
  · rw [hi46]
    show own_Ends _ _ _ _ (T46.setTop (mkF mM 112 #[.val (.int p0), .val (.ref b1), .unset, .unset] [(.int (5 : Int32))]))
    refine own_go (fun _ k => XS.istoreN X46.here hx rfl (hb hby at_112) rfl (l' := #[.val (.int p0), .val (.ref b1), .val (.int (5 : Int32)), .unset]) rfl k) ?_
    show own_Ends _ _ _ _ (T46.setTop (mkF mM 113 #[.val (.int p0), .val (.ref b1), .val (.int (5 : Int32)), .unset] []))
    refine own_go (fun _ k => XS.iloadN X46.here hx rfl (hb hby at_113) rfl k) ?_
    show own_Ends _ _ _ _ (T46.setTop (mkF mM 114 #[.val (.int p0), .val (.ref b1), .val (.int (5 : Int32)), .unset] [(.int (5 : Int32))]))
    refine own_go (fun _ k => XS.iconst X46.here hx rfl (hb hby at_114) k) ?_
    show own_Ends _ _ _ _ (T46.setTop (mkF mM 115 #[.val (.int p0), .val (.ref b1), .val (.int (5 : Int32)), .unset] [(.int (1 : Int32)), (.int (5 : Int32))]))
    refine own_go (fun _ k => XS.icmpNo X46.here hx rfl (hb hby at_115) rfl (flt (by decide : ¬ ((5 : Int32) < (1 : Int32)))).1 k) ?_
    show own_Ends _ _ _ _ (T46.setTop (mkF mM 118 #[.val (.int p0), .val (.ref b1), .val (.int (5 : Int32)), .unset] []))
    refine own_go (fun _ k => XS.iloadN X46.here hx rfl (hb hby at_118) rfl k) ?_
    show own_Ends _ _ _ _ (T46.setTop (mkF mM 119 #[.val (.int p0), .val (.ref b1), .val (.int (5 : Int32)), .unset] [(.int (5 : Int32))]))
    refine own_go (fun _ k => XS.bipush X46.here hx rfl (hb hby at_119) k) ?_
    show own_Ends _ _ _ _ (T46.setTop (mkF mM 121 #[.val (.int p0), .val (.ref b1), .val (.int (5 : Int32)), .unset] [(.int (12 : Int32)), (.int (5 : Int32))]))
    refine own_go (fun _ k => XS.icmpNo X46.here hx rfl (hb hby at_121) rfl (flt (by decide : ¬ ((12 : Int32) < (5 : Int32)))).2.2.1 k) ?_
    show own_Ends _ _ _ _ (T46.setTop (mkF mM 124 #[.val (.int p0), .val (.ref b1), .val (.int (5 : Int32)), .unset] []))
    refine own_go (fun _ k => XS.iconst X46.here hx rfl (hb hby at_124) k) ?_
    show own_Ends _ _ _ _ (T46.setTop (mkF mM 125 #[.val (.int p0), .val (.ref b1), .val (.int (5 : Int32)), .unset] [(.int (1 : Int32))]))
    refine own_go (fun _ k => XS.goto X46.here hx rfl (pc0 := 125) (pc' := 129) rfl (hb hby at_125) (by decide) (by decide) k) ?_
    show own_Ends _ _ _ _ (T46.setTop (mkF mM 129 #[.val (.int p0), .val (.ref b1), .val (.int (5 : Int32)), .unset] [(.int (1 : Int32))]))
    refine own_go (fun _ k => XS.istoreN X46.here hx rfl (hb hby at_129) rfl (l' := #[.val (.int p0), .val (.ref b1), .val (.int (5 : Int32)), .val (.int (1 : Int32))]) rfl k) ?_
    show own_Ends _ _ _ _ (T46.setTop (mkF mM 130 #[.val (.int p0), .val (.ref b1), .val (.int (5 : Int32)), .val (.int (1 : Int32))] []))
    refine own_go (fun _ k => XS.aloadN X46.here hx rfl (hb hby at_130) rfl rfl k) ?_
    show own_Ends _ _ _ _ (T46.setTop (mkF mM 131 #[.val (.int p0), .val (.ref b1), .val (.int (5 : Int32)), .val (.int (1 : Int32))] [(.ref b1)]))
    refine own_go (fun _ k => XS.iloadN X46.here hx rfl (hb hby at_131) rfl k) ?_
    show own_Ends _ _ _ _ (T46.setTop (mkF mM 132 #[.val (.int p0), .val (.ref b1), .val (.int (5 : Int32)), .val (.int (1 : Int32))] [(.int (5 : Int32)), (.ref b1)]))
    obtain ⟨cl58, Ar58, aq58, aS58, aN58, aH58, aG58⟩ := id V46
    have hin58 : ¬ ((5 : Int32) < 0 ∨ cl58.slots.size ≤ ((5 : Int32)).toNatClampNeg) := inb_of aS58 ⟨by decide, by decide⟩
    refine own_go (X46.aaload hx (j := (5 : Int32)) (v := (.ref a_SHORT)) (by rw [e46]; exact Ar58.1) (State.isArrayOf_alike hZ.alike Ar58.2.1) rfl Ar58.2.2 hin58 (aH58.at hin58 rfl) (g := (mkF mM 132 #[.val (.int p0), .val (.ref b1), .val (.int (5 : Int32)), .val (.int (1 : Int32))] [(.int (5 : Int32)), (.ref b1)])) rfl rfl (hb hby at_132)) ?_
    show own_Ends _ _ _ _ (T46.setTop (mkF mM 133 #[.val (.int p0), .val (.ref b1), .val (.int (5 : Int32)), .val (.int (1 : Int32))] [(.ref a_SHORT)]))
    obtain ⟨cq59, kq59, q59a, q59b, q59c⟩ := isOf hZ e46 (E_SHORT.ext O46.2)
    obtain ⟨_, _, ⟨T59, Lz59, kz59, nz59⟩, -, X59, ⟨Lc59, hQ59, l59, y59, z59⟩, st59⟩ := X46.virtualBack hx (y := (⟨"com/example/abstract_and_refine/abstractandrefine/c/CType", "isInteger", "()Z"⟩ : MethodName)) (z := (⟨"com/example/abstract_and_refine/abstractandrefine/c/CType", "isInteger", "()Z"⟩ : MethodName)) hown (mvT hZ (hw _ (List.mem_of_getElem? (i := 35) rfl))) (mvT hZ (hw _ (List.mem_of_getElem? (i := 36) rfl))) (notFace_of_selects (args := #[]) (mvT hZ (hw _ (List.mem_of_getElem? (i := 38) rfl)))) (mvT hZ (hw _ (List.mem_of_getElem? (i := 38) rfl))) (mvT hZ (hw _ (List.mem_of_getElem? (i := 37) rfl))) (by decide) (backOf (W := 0) (own_isInteger l Z a0 hw [] a_SHORT (1 : Int32) a_VOID a_FLOATING a_POINTER h46 n0 O46 S_VOID S_FLOATING S_POINTER (by rw [if_neg (Fld.ne F_SHORT_ordinal F_VOID_ordinal (fun q => absurd (Value.int.inj q) (by decide))), if_neg (Fld.ne F_SHORT_ordinal F_FLOATING_ordinal (fun q => absurd (Value.int.inj q) (by decide))), if_neg (Fld.ne F_SHORT_ordinal F_POINTER_ordinal (fun q => absurd (Value.int.inj q) (by decide)))])) hZ (hw _ (List.mem_of_getElem? (i := 39) rfl)) (hw _ (List.mem_of_getElem? (i := 3) rfl)) (by decide) (by decide)) q59a q59c (g := (mkF mM 133 #[.val (.int p0), .val (.ref b1), .val (.int (5 : Int32)), .val (.int (1 : Int32))] [(.ref a_SHORT)])) rfl (by rw [hml]; rfl) (Steps.refl _) (argsL := []) (rest := []) (lenOf own_pd0 rfl) rfl (by show 2 * 0 + _ ≤ _; exact Nat.le_of_eq rfl) (hb hby at_133) (fun _ _ => ⟨rfl, e46, (by decide : 1 + 0 ≤ _), (by decide : 15 + 0 ≤ _)⟩)
    dsimp only [Pt.U, Pt.locs, Pt.cells, Pt.slots] at X59 l59 y59 z59 st59 hQ59
    subst l59 y59 z59
    obtain ⟨rfl, Nq59, e59⟩ := hQ59
    have N59 := Fr.app N46 Nq59
    refine own_tr st59 ?_
    show own_Ends _ _ _ _ (T59.setTop (mkF mM 136 #[.val (.int p0), .val (.ref b1), .val (.int (5 : Int32)), .val (.int (1 : Int32))] [(.int (1 : Int32))]))
    refine own_go (fun _ k => XS.iloadN X59.here hx rfl (hb hby at_136) rfl k) ?_
    show own_Ends _ _ _ _ (T59.setTop (mkF mM 137 #[.val (.int p0), .val (.ref b1), .val (.int (5 : Int32)), .val (.int (1 : Int32))] [(.int (1 : Int32)), (.int (1 : Int32))]))
    refine own_go (fun _ k => XS.icmpNo X59.here hx rfl (hb hby at_137) rfl (teq (by decide : (1 : Int32) = (1 : Int32))).2 k) ?_
    show own_Ends _ _ _ _ (T59.setTop (mkF mM 140 #[.val (.int p0), .val (.ref b1), .val (.int (5 : Int32)), .val (.int (1 : Int32))] []))
    refine own_go (fun _ k => XS.iconst X59.here hx rfl (hb hby at_140) k) ?_
    show own_Ends _ _ _ _ (T59.setTop (mkF mM 141 #[.val (.int p0), .val (.ref b1), .val (.int (5 : Int32)), .val (.int (1 : Int32))] [(.int (1 : Int32))]))
    refine own_go (fun _ k => XS.goto X59.here hx rfl (pc0 := 141) (pc' := 145) rfl (hb hby at_141) (by decide) (by decide) k) ?_
    show own_Ends _ _ _ _ (T59.setTop (mkF mM 145 #[.val (.int p0), .val (.ref b1), .val (.int (5 : Int32)), .val (.int (1 : Int32))] [(.int (1 : Int32))]))
    exact own_retZ X59 hx (BodyLoose.notSynchronized Bd) Bd.returns rfl (hb hby at_145) (by decide) (by decide) (by rw [e59]; exact ⟨rfl, N59⟩)
  · rw [hi46]
    show own_Ends _ _ _ _ (T46.setTop (mkF mM 112 #[.val (.int p0), .val (.ref b1), .unset, .unset] [(.int (6 : Int32))]))
    refine own_go (fun _ k => XS.istoreN X46.here hx rfl (hb hby at_112) rfl (l' := #[.val (.int p0), .val (.ref b1), .val (.int (6 : Int32)), .unset]) rfl k) ?_
    show own_Ends _ _ _ _ (T46.setTop (mkF mM 113 #[.val (.int p0), .val (.ref b1), .val (.int (6 : Int32)), .unset] []))
    refine own_go (fun _ k => XS.iloadN X46.here hx rfl (hb hby at_113) rfl k) ?_
    show own_Ends _ _ _ _ (T46.setTop (mkF mM 114 #[.val (.int p0), .val (.ref b1), .val (.int (6 : Int32)), .unset] [(.int (6 : Int32))]))
    refine own_go (fun _ k => XS.iconst X46.here hx rfl (hb hby at_114) k) ?_
    show own_Ends _ _ _ _ (T46.setTop (mkF mM 115 #[.val (.int p0), .val (.ref b1), .val (.int (6 : Int32)), .unset] [(.int (1 : Int32)), (.int (6 : Int32))]))
    refine own_go (fun _ k => XS.icmpNo X46.here hx rfl (hb hby at_115) rfl (flt (by decide : ¬ ((6 : Int32) < (1 : Int32)))).1 k) ?_
    show own_Ends _ _ _ _ (T46.setTop (mkF mM 118 #[.val (.int p0), .val (.ref b1), .val (.int (6 : Int32)), .unset] []))
    refine own_go (fun _ k => XS.iloadN X46.here hx rfl (hb hby at_118) rfl k) ?_
    show own_Ends _ _ _ _ (T46.setTop (mkF mM 119 #[.val (.int p0), .val (.ref b1), .val (.int (6 : Int32)), .unset] [(.int (6 : Int32))]))
    refine own_go (fun _ k => XS.bipush X46.here hx rfl (hb hby at_119) k) ?_
    show own_Ends _ _ _ _ (T46.setTop (mkF mM 121 #[.val (.int p0), .val (.ref b1), .val (.int (6 : Int32)), .unset] [(.int (12 : Int32)), (.int (6 : Int32))]))
    refine own_go (fun _ k => XS.icmpNo X46.here hx rfl (hb hby at_121) rfl (flt (by decide : ¬ ((12 : Int32) < (6 : Int32)))).2.2.1 k) ?_
    show own_Ends _ _ _ _ (T46.setTop (mkF mM 124 #[.val (.int p0), .val (.ref b1), .val (.int (6 : Int32)), .unset] []))
    refine own_go (fun _ k => XS.iconst X46.here hx rfl (hb hby at_124) k) ?_
    show own_Ends _ _ _ _ (T46.setTop (mkF mM 125 #[.val (.int p0), .val (.ref b1), .val (.int (6 : Int32)), .unset] [(.int (1 : Int32))]))
    refine own_go (fun _ k => XS.goto X46.here hx rfl (pc0 := 125) (pc' := 129) rfl (hb hby at_125) (by decide) (by decide) k) ?_
    show own_Ends _ _ _ _ (T46.setTop (mkF mM 129 #[.val (.int p0), .val (.ref b1), .val (.int (6 : Int32)), .unset] [(.int (1 : Int32))]))
    refine own_go (fun _ k => XS.istoreN X46.here hx rfl (hb hby at_129) rfl (l' := #[.val (.int p0), .val (.ref b1), .val (.int (6 : Int32)), .val (.int (1 : Int32))]) rfl k) ?_
    show own_Ends _ _ _ _ (T46.setTop (mkF mM 130 #[.val (.int p0), .val (.ref b1), .val (.int (6 : Int32)), .val (.int (1 : Int32))] []))
    refine own_go (fun _ k => XS.aloadN X46.here hx rfl (hb hby at_130) rfl rfl k) ?_
    show own_Ends _ _ _ _ (T46.setTop (mkF mM 131 #[.val (.int p0), .val (.ref b1), .val (.int (6 : Int32)), .val (.int (1 : Int32))] [(.ref b1)]))
    refine own_go (fun _ k => XS.iloadN X46.here hx rfl (hb hby at_131) rfl k) ?_
    show own_Ends _ _ _ _ (T46.setTop (mkF mM 132 #[.val (.int p0), .val (.ref b1), .val (.int (6 : Int32)), .val (.int (1 : Int32))] [(.int (6 : Int32)), (.ref b1)]))
    obtain ⟨cl60, Ar60, aq60, aS60, aN60, aH60, aG60⟩ := id V46
    have hin60 : ¬ ((6 : Int32) < 0 ∨ cl60.slots.size ≤ ((6 : Int32)).toNatClampNeg) := inb_of aS60 ⟨by decide, by decide⟩
    refine own_go (X46.aaload hx (j := (6 : Int32)) (v := (.ref a_UNSIGNED_SHORT)) (by rw [e46]; exact Ar60.1) (State.isArrayOf_alike hZ.alike Ar60.2.1) rfl Ar60.2.2 hin60 (aH60.at hin60 rfl) (g := (mkF mM 132 #[.val (.int p0), .val (.ref b1), .val (.int (6 : Int32)), .val (.int (1 : Int32))] [(.int (6 : Int32)), (.ref b1)])) rfl rfl (hb hby at_132)) ?_
    show own_Ends _ _ _ _ (T46.setTop (mkF mM 133 #[.val (.int p0), .val (.ref b1), .val (.int (6 : Int32)), .val (.int (1 : Int32))] [(.ref a_UNSIGNED_SHORT)]))
    obtain ⟨cq61, kq61, q61a, q61b, q61c⟩ := isOf hZ e46 (E_UNSIGNED_SHORT.ext O46.2)
    obtain ⟨_, _, ⟨T61, Lz61, kz61, nz61⟩, -, X61, ⟨Lc61, hQ61, l61, y61, z61⟩, st61⟩ := X46.virtualBack hx (y := (⟨"com/example/abstract_and_refine/abstractandrefine/c/CType", "isInteger", "()Z"⟩ : MethodName)) (z := (⟨"com/example/abstract_and_refine/abstractandrefine/c/CType", "isInteger", "()Z"⟩ : MethodName)) hown (mvT hZ (hw _ (List.mem_of_getElem? (i := 35) rfl))) (mvT hZ (hw _ (List.mem_of_getElem? (i := 36) rfl))) (notFace_of_selects (args := #[]) (mvT hZ (hw _ (List.mem_of_getElem? (i := 38) rfl)))) (mvT hZ (hw _ (List.mem_of_getElem? (i := 38) rfl))) (mvT hZ (hw _ (List.mem_of_getElem? (i := 37) rfl))) (by decide) (backOf (W := 0) (own_isInteger l Z a0 hw [] a_UNSIGNED_SHORT (1 : Int32) a_VOID a_FLOATING a_POINTER h46 n0 O46 S_VOID S_FLOATING S_POINTER (by rw [if_neg (Fld.ne F_UNSIGNED_SHORT_ordinal F_VOID_ordinal (fun q => absurd (Value.int.inj q) (by decide))), if_neg (Fld.ne F_UNSIGNED_SHORT_ordinal F_FLOATING_ordinal (fun q => absurd (Value.int.inj q) (by decide))), if_neg (Fld.ne F_UNSIGNED_SHORT_ordinal F_POINTER_ordinal (fun q => absurd (Value.int.inj q) (by decide)))])) hZ (hw _ (List.mem_of_getElem? (i := 39) rfl)) (hw _ (List.mem_of_getElem? (i := 3) rfl)) (by decide) (by decide)) q61a q61c (g := (mkF mM 133 #[.val (.int p0), .val (.ref b1), .val (.int (6 : Int32)), .val (.int (1 : Int32))] [(.ref a_UNSIGNED_SHORT)])) rfl (by rw [hml]; rfl) (Steps.refl _) (argsL := []) (rest := []) (lenOf own_pd0 rfl) rfl (by show 2 * 0 + _ ≤ _; exact Nat.le_of_eq rfl) (hb hby at_133) (fun _ _ => ⟨rfl, e46, (by decide : 1 + 0 ≤ _), (by decide : 15 + 0 ≤ _)⟩)
    dsimp only [Pt.U, Pt.locs, Pt.cells, Pt.slots] at X61 l61 y61 z61 st61 hQ61
    subst l61 y61 z61
    obtain ⟨rfl, Nq61, e61⟩ := hQ61
    have N61 := Fr.app N46 Nq61
    refine own_tr st61 ?_
    show own_Ends _ _ _ _ (T61.setTop (mkF mM 136 #[.val (.int p0), .val (.ref b1), .val (.int (6 : Int32)), .val (.int (1 : Int32))] [(.int (1 : Int32))]))
    refine own_go (fun _ k => XS.iloadN X61.here hx rfl (hb hby at_136) rfl k) ?_
    show own_Ends _ _ _ _ (T61.setTop (mkF mM 137 #[.val (.int p0), .val (.ref b1), .val (.int (6 : Int32)), .val (.int (1 : Int32))] [(.int (1 : Int32)), (.int (1 : Int32))]))
    refine own_go (fun _ k => XS.icmpNo X61.here hx rfl (hb hby at_137) rfl (teq (by decide : (1 : Int32) = (1 : Int32))).2 k) ?_
    show own_Ends _ _ _ _ (T61.setTop (mkF mM 140 #[.val (.int p0), .val (.ref b1), .val (.int (6 : Int32)), .val (.int (1 : Int32))] []))
    refine own_go (fun _ k => XS.iconst X61.here hx rfl (hb hby at_140) k) ?_
    show own_Ends _ _ _ _ (T61.setTop (mkF mM 141 #[.val (.int p0), .val (.ref b1), .val (.int (6 : Int32)), .val (.int (1 : Int32))] [(.int (1 : Int32))]))
    refine own_go (fun _ k => XS.goto X61.here hx rfl (pc0 := 141) (pc' := 145) rfl (hb hby at_141) (by decide) (by decide) k) ?_
    show own_Ends _ _ _ _ (T61.setTop (mkF mM 145 #[.val (.int p0), .val (.ref b1), .val (.int (6 : Int32)), .val (.int (1 : Int32))] [(.int (1 : Int32))]))
    exact own_retZ X61 hx (BodyLoose.notSynchronized Bd) Bd.returns rfl (hb hby at_145) (by decide) (by decide) (by rw [e61]; exact ⟨rfl, N61⟩)
  · rw [hi46]
    show own_Ends _ _ _ _ (T46.setTop (mkF mM 112 #[.val (.int p0), .val (.ref b1), .unset, .unset] [(.int (7 : Int32))]))
    refine own_go (fun _ k => XS.istoreN X46.here hx rfl (hb hby at_112) rfl (l' := #[.val (.int p0), .val (.ref b1), .val (.int (7 : Int32)), .unset]) rfl k) ?_
    show own_Ends _ _ _ _ (T46.setTop (mkF mM 113 #[.val (.int p0), .val (.ref b1), .val (.int (7 : Int32)), .unset] []))
    refine own_go (fun _ k => XS.iloadN X46.here hx rfl (hb hby at_113) rfl k) ?_
    show own_Ends _ _ _ _ (T46.setTop (mkF mM 114 #[.val (.int p0), .val (.ref b1), .val (.int (7 : Int32)), .unset] [(.int (7 : Int32))]))
    refine own_go (fun _ k => XS.iconst X46.here hx rfl (hb hby at_114) k) ?_
    show own_Ends _ _ _ _ (T46.setTop (mkF mM 115 #[.val (.int p0), .val (.ref b1), .val (.int (7 : Int32)), .unset] [(.int (1 : Int32)), (.int (7 : Int32))]))
    refine own_go (fun _ k => XS.icmpNo X46.here hx rfl (hb hby at_115) rfl (flt (by decide : ¬ ((7 : Int32) < (1 : Int32)))).1 k) ?_
    show own_Ends _ _ _ _ (T46.setTop (mkF mM 118 #[.val (.int p0), .val (.ref b1), .val (.int (7 : Int32)), .unset] []))
    refine own_go (fun _ k => XS.iloadN X46.here hx rfl (hb hby at_118) rfl k) ?_
    show own_Ends _ _ _ _ (T46.setTop (mkF mM 119 #[.val (.int p0), .val (.ref b1), .val (.int (7 : Int32)), .unset] [(.int (7 : Int32))]))
    refine own_go (fun _ k => XS.bipush X46.here hx rfl (hb hby at_119) k) ?_
    show own_Ends _ _ _ _ (T46.setTop (mkF mM 121 #[.val (.int p0), .val (.ref b1), .val (.int (7 : Int32)), .unset] [(.int (12 : Int32)), (.int (7 : Int32))]))
    refine own_go (fun _ k => XS.icmpNo X46.here hx rfl (hb hby at_121) rfl (flt (by decide : ¬ ((12 : Int32) < (7 : Int32)))).2.2.1 k) ?_
    show own_Ends _ _ _ _ (T46.setTop (mkF mM 124 #[.val (.int p0), .val (.ref b1), .val (.int (7 : Int32)), .unset] []))
    refine own_go (fun _ k => XS.iconst X46.here hx rfl (hb hby at_124) k) ?_
    show own_Ends _ _ _ _ (T46.setTop (mkF mM 125 #[.val (.int p0), .val (.ref b1), .val (.int (7 : Int32)), .unset] [(.int (1 : Int32))]))
    refine own_go (fun _ k => XS.goto X46.here hx rfl (pc0 := 125) (pc' := 129) rfl (hb hby at_125) (by decide) (by decide) k) ?_
    show own_Ends _ _ _ _ (T46.setTop (mkF mM 129 #[.val (.int p0), .val (.ref b1), .val (.int (7 : Int32)), .unset] [(.int (1 : Int32))]))
    refine own_go (fun _ k => XS.istoreN X46.here hx rfl (hb hby at_129) rfl (l' := #[.val (.int p0), .val (.ref b1), .val (.int (7 : Int32)), .val (.int (1 : Int32))]) rfl k) ?_
    show own_Ends _ _ _ _ (T46.setTop (mkF mM 130 #[.val (.int p0), .val (.ref b1), .val (.int (7 : Int32)), .val (.int (1 : Int32))] []))
    refine own_go (fun _ k => XS.aloadN X46.here hx rfl (hb hby at_130) rfl rfl k) ?_
    show own_Ends _ _ _ _ (T46.setTop (mkF mM 131 #[.val (.int p0), .val (.ref b1), .val (.int (7 : Int32)), .val (.int (1 : Int32))] [(.ref b1)]))
    refine own_go (fun _ k => XS.iloadN X46.here hx rfl (hb hby at_131) rfl k) ?_
    show own_Ends _ _ _ _ (T46.setTop (mkF mM 132 #[.val (.int p0), .val (.ref b1), .val (.int (7 : Int32)), .val (.int (1 : Int32))] [(.int (7 : Int32)), (.ref b1)]))
    obtain ⟨cl62, Ar62, aq62, aS62, aN62, aH62, aG62⟩ := id V46
    have hin62 : ¬ ((7 : Int32) < 0 ∨ cl62.slots.size ≤ ((7 : Int32)).toNatClampNeg) := inb_of aS62 ⟨by decide, by decide⟩
    refine own_go (X46.aaload hx (j := (7 : Int32)) (v := (.ref a_INT)) (by rw [e46]; exact Ar62.1) (State.isArrayOf_alike hZ.alike Ar62.2.1) rfl Ar62.2.2 hin62 (aH62.at hin62 rfl) (g := (mkF mM 132 #[.val (.int p0), .val (.ref b1), .val (.int (7 : Int32)), .val (.int (1 : Int32))] [(.int (7 : Int32)), (.ref b1)])) rfl rfl (hb hby at_132)) ?_
    show own_Ends _ _ _ _ (T46.setTop (mkF mM 133 #[.val (.int p0), .val (.ref b1), .val (.int (7 : Int32)), .val (.int (1 : Int32))] [(.ref a_INT)]))
    obtain ⟨cq63, kq63, q63a, q63b, q63c⟩ := isOf hZ e46 (E_INT.ext O46.2)
    obtain ⟨_, _, ⟨T63, Lz63, kz63, nz63⟩, -, X63, ⟨Lc63, hQ63, l63, y63, z63⟩, st63⟩ := X46.virtualBack hx (y := (⟨"com/example/abstract_and_refine/abstractandrefine/c/CType", "isInteger", "()Z"⟩ : MethodName)) (z := (⟨"com/example/abstract_and_refine/abstractandrefine/c/CType", "isInteger", "()Z"⟩ : MethodName)) hown (mvT hZ (hw _ (List.mem_of_getElem? (i := 35) rfl))) (mvT hZ (hw _ (List.mem_of_getElem? (i := 36) rfl))) (notFace_of_selects (args := #[]) (mvT hZ (hw _ (List.mem_of_getElem? (i := 38) rfl)))) (mvT hZ (hw _ (List.mem_of_getElem? (i := 38) rfl))) (mvT hZ (hw _ (List.mem_of_getElem? (i := 37) rfl))) (by decide) (backOf (W := 0) (own_isInteger l Z a0 hw [] a_INT (1 : Int32) a_VOID a_FLOATING a_POINTER h46 n0 O46 S_VOID S_FLOATING S_POINTER (by rw [if_neg (Fld.ne F_INT_ordinal F_VOID_ordinal (fun q => absurd (Value.int.inj q) (by decide))), if_neg (Fld.ne F_INT_ordinal F_FLOATING_ordinal (fun q => absurd (Value.int.inj q) (by decide))), if_neg (Fld.ne F_INT_ordinal F_POINTER_ordinal (fun q => absurd (Value.int.inj q) (by decide)))])) hZ (hw _ (List.mem_of_getElem? (i := 39) rfl)) (hw _ (List.mem_of_getElem? (i := 3) rfl)) (by decide) (by decide)) q63a q63c (g := (mkF mM 133 #[.val (.int p0), .val (.ref b1), .val (.int (7 : Int32)), .val (.int (1 : Int32))] [(.ref a_INT)])) rfl (by rw [hml]; rfl) (Steps.refl _) (argsL := []) (rest := []) (lenOf own_pd0 rfl) rfl (by show 2 * 0 + _ ≤ _; exact Nat.le_of_eq rfl) (hb hby at_133) (fun _ _ => ⟨rfl, e46, (by decide : 1 + 0 ≤ _), (by decide : 15 + 0 ≤ _)⟩)
    dsimp only [Pt.U, Pt.locs, Pt.cells, Pt.slots] at X63 l63 y63 z63 st63 hQ63
    subst l63 y63 z63
    obtain ⟨rfl, Nq63, e63⟩ := hQ63
    have N63 := Fr.app N46 Nq63
    refine own_tr st63 ?_
    show own_Ends _ _ _ _ (T63.setTop (mkF mM 136 #[.val (.int p0), .val (.ref b1), .val (.int (7 : Int32)), .val (.int (1 : Int32))] [(.int (1 : Int32))]))
    refine own_go (fun _ k => XS.iloadN X63.here hx rfl (hb hby at_136) rfl k) ?_
    show own_Ends _ _ _ _ (T63.setTop (mkF mM 137 #[.val (.int p0), .val (.ref b1), .val (.int (7 : Int32)), .val (.int (1 : Int32))] [(.int (1 : Int32)), (.int (1 : Int32))]))
    refine own_go (fun _ k => XS.icmpNo X63.here hx rfl (hb hby at_137) rfl (teq (by decide : (1 : Int32) = (1 : Int32))).2 k) ?_
    show own_Ends _ _ _ _ (T63.setTop (mkF mM 140 #[.val (.int p0), .val (.ref b1), .val (.int (7 : Int32)), .val (.int (1 : Int32))] []))
    refine own_go (fun _ k => XS.iconst X63.here hx rfl (hb hby at_140) k) ?_
    show own_Ends _ _ _ _ (T63.setTop (mkF mM 141 #[.val (.int p0), .val (.ref b1), .val (.int (7 : Int32)), .val (.int (1 : Int32))] [(.int (1 : Int32))]))
    refine own_go (fun _ k => XS.goto X63.here hx rfl (pc0 := 141) (pc' := 145) rfl (hb hby at_141) (by decide) (by decide) k) ?_
    show own_Ends _ _ _ _ (T63.setTop (mkF mM 145 #[.val (.int p0), .val (.ref b1), .val (.int (7 : Int32)), .val (.int (1 : Int32))] [(.int (1 : Int32))]))
    exact own_retZ X63 hx (BodyLoose.notSynchronized Bd) Bd.returns rfl (hb hby at_145) (by decide) (by decide) (by rw [e63]; exact ⟨rfl, N63⟩)
  · rw [hi46]
    show own_Ends _ _ _ _ (T46.setTop (mkF mM 112 #[.val (.int p0), .val (.ref b1), .unset, .unset] [(.int (8 : Int32))]))
    refine own_go (fun _ k => XS.istoreN X46.here hx rfl (hb hby at_112) rfl (l' := #[.val (.int p0), .val (.ref b1), .val (.int (8 : Int32)), .unset]) rfl k) ?_
    show own_Ends _ _ _ _ (T46.setTop (mkF mM 113 #[.val (.int p0), .val (.ref b1), .val (.int (8 : Int32)), .unset] []))
    refine own_go (fun _ k => XS.iloadN X46.here hx rfl (hb hby at_113) rfl k) ?_
    show own_Ends _ _ _ _ (T46.setTop (mkF mM 114 #[.val (.int p0), .val (.ref b1), .val (.int (8 : Int32)), .unset] [(.int (8 : Int32))]))
    refine own_go (fun _ k => XS.iconst X46.here hx rfl (hb hby at_114) k) ?_
    show own_Ends _ _ _ _ (T46.setTop (mkF mM 115 #[.val (.int p0), .val (.ref b1), .val (.int (8 : Int32)), .unset] [(.int (1 : Int32)), (.int (8 : Int32))]))
    refine own_go (fun _ k => XS.icmpNo X46.here hx rfl (hb hby at_115) rfl (flt (by decide : ¬ ((8 : Int32) < (1 : Int32)))).1 k) ?_
    show own_Ends _ _ _ _ (T46.setTop (mkF mM 118 #[.val (.int p0), .val (.ref b1), .val (.int (8 : Int32)), .unset] []))
    refine own_go (fun _ k => XS.iloadN X46.here hx rfl (hb hby at_118) rfl k) ?_
    show own_Ends _ _ _ _ (T46.setTop (mkF mM 119 #[.val (.int p0), .val (.ref b1), .val (.int (8 : Int32)), .unset] [(.int (8 : Int32))]))
    refine own_go (fun _ k => XS.bipush X46.here hx rfl (hb hby at_119) k) ?_
    show own_Ends _ _ _ _ (T46.setTop (mkF mM 121 #[.val (.int p0), .val (.ref b1), .val (.int (8 : Int32)), .unset] [(.int (12 : Int32)), (.int (8 : Int32))]))
    refine own_go (fun _ k => XS.icmpNo X46.here hx rfl (hb hby at_121) rfl (flt (by decide : ¬ ((12 : Int32) < (8 : Int32)))).2.2.1 k) ?_
    show own_Ends _ _ _ _ (T46.setTop (mkF mM 124 #[.val (.int p0), .val (.ref b1), .val (.int (8 : Int32)), .unset] []))
    refine own_go (fun _ k => XS.iconst X46.here hx rfl (hb hby at_124) k) ?_
    show own_Ends _ _ _ _ (T46.setTop (mkF mM 125 #[.val (.int p0), .val (.ref b1), .val (.int (8 : Int32)), .unset] [(.int (1 : Int32))]))
    refine own_go (fun _ k => XS.goto X46.here hx rfl (pc0 := 125) (pc' := 129) rfl (hb hby at_125) (by decide) (by decide) k) ?_
    show own_Ends _ _ _ _ (T46.setTop (mkF mM 129 #[.val (.int p0), .val (.ref b1), .val (.int (8 : Int32)), .unset] [(.int (1 : Int32))]))
    refine own_go (fun _ k => XS.istoreN X46.here hx rfl (hb hby at_129) rfl (l' := #[.val (.int p0), .val (.ref b1), .val (.int (8 : Int32)), .val (.int (1 : Int32))]) rfl k) ?_
    show own_Ends _ _ _ _ (T46.setTop (mkF mM 130 #[.val (.int p0), .val (.ref b1), .val (.int (8 : Int32)), .val (.int (1 : Int32))] []))
    refine own_go (fun _ k => XS.aloadN X46.here hx rfl (hb hby at_130) rfl rfl k) ?_
    show own_Ends _ _ _ _ (T46.setTop (mkF mM 131 #[.val (.int p0), .val (.ref b1), .val (.int (8 : Int32)), .val (.int (1 : Int32))] [(.ref b1)]))
    refine own_go (fun _ k => XS.iloadN X46.here hx rfl (hb hby at_131) rfl k) ?_
    show own_Ends _ _ _ _ (T46.setTop (mkF mM 132 #[.val (.int p0), .val (.ref b1), .val (.int (8 : Int32)), .val (.int (1 : Int32))] [(.int (8 : Int32)), (.ref b1)]))
    obtain ⟨cl64, Ar64, aq64, aS64, aN64, aH64, aG64⟩ := id V46
    have hin64 : ¬ ((8 : Int32) < 0 ∨ cl64.slots.size ≤ ((8 : Int32)).toNatClampNeg) := inb_of aS64 ⟨by decide, by decide⟩
    refine own_go (X46.aaload hx (j := (8 : Int32)) (v := (.ref a_UNSIGNED_INT)) (by rw [e46]; exact Ar64.1) (State.isArrayOf_alike hZ.alike Ar64.2.1) rfl Ar64.2.2 hin64 (aH64.at hin64 rfl) (g := (mkF mM 132 #[.val (.int p0), .val (.ref b1), .val (.int (8 : Int32)), .val (.int (1 : Int32))] [(.int (8 : Int32)), (.ref b1)])) rfl rfl (hb hby at_132)) ?_
    show own_Ends _ _ _ _ (T46.setTop (mkF mM 133 #[.val (.int p0), .val (.ref b1), .val (.int (8 : Int32)), .val (.int (1 : Int32))] [(.ref a_UNSIGNED_INT)]))
    obtain ⟨cq65, kq65, q65a, q65b, q65c⟩ := isOf hZ e46 (E_UNSIGNED_INT.ext O46.2)
    obtain ⟨_, _, ⟨T65, Lz65, kz65, nz65⟩, -, X65, ⟨Lc65, hQ65, l65, y65, z65⟩, st65⟩ := X46.virtualBack hx (y := (⟨"com/example/abstract_and_refine/abstractandrefine/c/CType", "isInteger", "()Z"⟩ : MethodName)) (z := (⟨"com/example/abstract_and_refine/abstractandrefine/c/CType", "isInteger", "()Z"⟩ : MethodName)) hown (mvT hZ (hw _ (List.mem_of_getElem? (i := 35) rfl))) (mvT hZ (hw _ (List.mem_of_getElem? (i := 36) rfl))) (notFace_of_selects (args := #[]) (mvT hZ (hw _ (List.mem_of_getElem? (i := 38) rfl)))) (mvT hZ (hw _ (List.mem_of_getElem? (i := 38) rfl))) (mvT hZ (hw _ (List.mem_of_getElem? (i := 37) rfl))) (by decide) (backOf (W := 0) (own_isInteger l Z a0 hw [] a_UNSIGNED_INT (1 : Int32) a_VOID a_FLOATING a_POINTER h46 n0 O46 S_VOID S_FLOATING S_POINTER (by rw [if_neg (Fld.ne F_UNSIGNED_INT_ordinal F_VOID_ordinal (fun q => absurd (Value.int.inj q) (by decide))), if_neg (Fld.ne F_UNSIGNED_INT_ordinal F_FLOATING_ordinal (fun q => absurd (Value.int.inj q) (by decide))), if_neg (Fld.ne F_UNSIGNED_INT_ordinal F_POINTER_ordinal (fun q => absurd (Value.int.inj q) (by decide)))])) hZ (hw _ (List.mem_of_getElem? (i := 39) rfl)) (hw _ (List.mem_of_getElem? (i := 3) rfl)) (by decide) (by decide)) q65a q65c (g := (mkF mM 133 #[.val (.int p0), .val (.ref b1), .val (.int (8 : Int32)), .val (.int (1 : Int32))] [(.ref a_UNSIGNED_INT)])) rfl (by rw [hml]; rfl) (Steps.refl _) (argsL := []) (rest := []) (lenOf own_pd0 rfl) rfl (by show 2 * 0 + _ ≤ _; exact Nat.le_of_eq rfl) (hb hby at_133) (fun _ _ => ⟨rfl, e46, (by decide : 1 + 0 ≤ _), (by decide : 15 + 0 ≤ _)⟩)
    dsimp only [Pt.U, Pt.locs, Pt.cells, Pt.slots] at X65 l65 y65 z65 st65 hQ65
    subst l65 y65 z65
    obtain ⟨rfl, Nq65, e65⟩ := hQ65
    have N65 := Fr.app N46 Nq65
    refine own_tr st65 ?_
    show own_Ends _ _ _ _ (T65.setTop (mkF mM 136 #[.val (.int p0), .val (.ref b1), .val (.int (8 : Int32)), .val (.int (1 : Int32))] [(.int (1 : Int32))]))
    refine own_go (fun _ k => XS.iloadN X65.here hx rfl (hb hby at_136) rfl k) ?_
    show own_Ends _ _ _ _ (T65.setTop (mkF mM 137 #[.val (.int p0), .val (.ref b1), .val (.int (8 : Int32)), .val (.int (1 : Int32))] [(.int (1 : Int32)), (.int (1 : Int32))]))
    refine own_go (fun _ k => XS.icmpNo X65.here hx rfl (hb hby at_137) rfl (teq (by decide : (1 : Int32) = (1 : Int32))).2 k) ?_
    show own_Ends _ _ _ _ (T65.setTop (mkF mM 140 #[.val (.int p0), .val (.ref b1), .val (.int (8 : Int32)), .val (.int (1 : Int32))] []))
    refine own_go (fun _ k => XS.iconst X65.here hx rfl (hb hby at_140) k) ?_
    show own_Ends _ _ _ _ (T65.setTop (mkF mM 141 #[.val (.int p0), .val (.ref b1), .val (.int (8 : Int32)), .val (.int (1 : Int32))] [(.int (1 : Int32))]))
    refine own_go (fun _ k => XS.goto X65.here hx rfl (pc0 := 141) (pc' := 145) rfl (hb hby at_141) (by decide) (by decide) k) ?_
    show own_Ends _ _ _ _ (T65.setTop (mkF mM 145 #[.val (.int p0), .val (.ref b1), .val (.int (8 : Int32)), .val (.int (1 : Int32))] [(.int (1 : Int32))]))
    exact own_retZ X65 hx (BodyLoose.notSynchronized Bd) Bd.returns rfl (hb hby at_145) (by decide) (by decide) (by rw [e65]; exact ⟨rfl, N65⟩)
  · rw [hi46]
    show own_Ends _ _ _ _ (T46.setTop (mkF mM 112 #[.val (.int p0), .val (.ref b1), .unset, .unset] [(.int (9 : Int32))]))
    refine own_go (fun _ k => XS.istoreN X46.here hx rfl (hb hby at_112) rfl (l' := #[.val (.int p0), .val (.ref b1), .val (.int (9 : Int32)), .unset]) rfl k) ?_
    show own_Ends _ _ _ _ (T46.setTop (mkF mM 113 #[.val (.int p0), .val (.ref b1), .val (.int (9 : Int32)), .unset] []))
    refine own_go (fun _ k => XS.iloadN X46.here hx rfl (hb hby at_113) rfl k) ?_
    show own_Ends _ _ _ _ (T46.setTop (mkF mM 114 #[.val (.int p0), .val (.ref b1), .val (.int (9 : Int32)), .unset] [(.int (9 : Int32))]))
    refine own_go (fun _ k => XS.iconst X46.here hx rfl (hb hby at_114) k) ?_
    show own_Ends _ _ _ _ (T46.setTop (mkF mM 115 #[.val (.int p0), .val (.ref b1), .val (.int (9 : Int32)), .unset] [(.int (1 : Int32)), (.int (9 : Int32))]))
    refine own_go (fun _ k => XS.icmpNo X46.here hx rfl (hb hby at_115) rfl (flt (by decide : ¬ ((9 : Int32) < (1 : Int32)))).1 k) ?_
    show own_Ends _ _ _ _ (T46.setTop (mkF mM 118 #[.val (.int p0), .val (.ref b1), .val (.int (9 : Int32)), .unset] []))
    refine own_go (fun _ k => XS.iloadN X46.here hx rfl (hb hby at_118) rfl k) ?_
    show own_Ends _ _ _ _ (T46.setTop (mkF mM 119 #[.val (.int p0), .val (.ref b1), .val (.int (9 : Int32)), .unset] [(.int (9 : Int32))]))
    refine own_go (fun _ k => XS.bipush X46.here hx rfl (hb hby at_119) k) ?_
    show own_Ends _ _ _ _ (T46.setTop (mkF mM 121 #[.val (.int p0), .val (.ref b1), .val (.int (9 : Int32)), .unset] [(.int (12 : Int32)), (.int (9 : Int32))]))
    refine own_go (fun _ k => XS.icmpNo X46.here hx rfl (hb hby at_121) rfl (flt (by decide : ¬ ((12 : Int32) < (9 : Int32)))).2.2.1 k) ?_
    show own_Ends _ _ _ _ (T46.setTop (mkF mM 124 #[.val (.int p0), .val (.ref b1), .val (.int (9 : Int32)), .unset] []))
    refine own_go (fun _ k => XS.iconst X46.here hx rfl (hb hby at_124) k) ?_
    show own_Ends _ _ _ _ (T46.setTop (mkF mM 125 #[.val (.int p0), .val (.ref b1), .val (.int (9 : Int32)), .unset] [(.int (1 : Int32))]))
    refine own_go (fun _ k => XS.goto X46.here hx rfl (pc0 := 125) (pc' := 129) rfl (hb hby at_125) (by decide) (by decide) k) ?_
    show own_Ends _ _ _ _ (T46.setTop (mkF mM 129 #[.val (.int p0), .val (.ref b1), .val (.int (9 : Int32)), .unset] [(.int (1 : Int32))]))
    refine own_go (fun _ k => XS.istoreN X46.here hx rfl (hb hby at_129) rfl (l' := #[.val (.int p0), .val (.ref b1), .val (.int (9 : Int32)), .val (.int (1 : Int32))]) rfl k) ?_
    show own_Ends _ _ _ _ (T46.setTop (mkF mM 130 #[.val (.int p0), .val (.ref b1), .val (.int (9 : Int32)), .val (.int (1 : Int32))] []))
    refine own_go (fun _ k => XS.aloadN X46.here hx rfl (hb hby at_130) rfl rfl k) ?_
    show own_Ends _ _ _ _ (T46.setTop (mkF mM 131 #[.val (.int p0), .val (.ref b1), .val (.int (9 : Int32)), .val (.int (1 : Int32))] [(.ref b1)]))
    refine own_go (fun _ k => XS.iloadN X46.here hx rfl (hb hby at_131) rfl k) ?_
    show own_Ends _ _ _ _ (T46.setTop (mkF mM 132 #[.val (.int p0), .val (.ref b1), .val (.int (9 : Int32)), .val (.int (1 : Int32))] [(.int (9 : Int32)), (.ref b1)]))
    obtain ⟨cl66, Ar66, aq66, aS66, aN66, aH66, aG66⟩ := id V46
    have hin66 : ¬ ((9 : Int32) < 0 ∨ cl66.slots.size ≤ ((9 : Int32)).toNatClampNeg) := inb_of aS66 ⟨by decide, by decide⟩
    refine own_go (X46.aaload hx (j := (9 : Int32)) (v := (.ref a_LONG)) (by rw [e46]; exact Ar66.1) (State.isArrayOf_alike hZ.alike Ar66.2.1) rfl Ar66.2.2 hin66 (aH66.at hin66 rfl) (g := (mkF mM 132 #[.val (.int p0), .val (.ref b1), .val (.int (9 : Int32)), .val (.int (1 : Int32))] [(.int (9 : Int32)), (.ref b1)])) rfl rfl (hb hby at_132)) ?_
    show own_Ends _ _ _ _ (T46.setTop (mkF mM 133 #[.val (.int p0), .val (.ref b1), .val (.int (9 : Int32)), .val (.int (1 : Int32))] [(.ref a_LONG)]))
    obtain ⟨cq67, kq67, q67a, q67b, q67c⟩ := isOf hZ e46 (E_LONG.ext O46.2)
    obtain ⟨_, _, ⟨T67, Lz67, kz67, nz67⟩, -, X67, ⟨Lc67, hQ67, l67, y67, z67⟩, st67⟩ := X46.virtualBack hx (y := (⟨"com/example/abstract_and_refine/abstractandrefine/c/CType", "isInteger", "()Z"⟩ : MethodName)) (z := (⟨"com/example/abstract_and_refine/abstractandrefine/c/CType", "isInteger", "()Z"⟩ : MethodName)) hown (mvT hZ (hw _ (List.mem_of_getElem? (i := 35) rfl))) (mvT hZ (hw _ (List.mem_of_getElem? (i := 36) rfl))) (notFace_of_selects (args := #[]) (mvT hZ (hw _ (List.mem_of_getElem? (i := 38) rfl)))) (mvT hZ (hw _ (List.mem_of_getElem? (i := 38) rfl))) (mvT hZ (hw _ (List.mem_of_getElem? (i := 37) rfl))) (by decide) (backOf (W := 0) (own_isInteger l Z a0 hw [] a_LONG (1 : Int32) a_VOID a_FLOATING a_POINTER h46 n0 O46 S_VOID S_FLOATING S_POINTER (by rw [if_neg (Fld.ne F_LONG_ordinal F_VOID_ordinal (fun q => absurd (Value.int.inj q) (by decide))), if_neg (Fld.ne F_LONG_ordinal F_FLOATING_ordinal (fun q => absurd (Value.int.inj q) (by decide))), if_neg (Fld.ne F_LONG_ordinal F_POINTER_ordinal (fun q => absurd (Value.int.inj q) (by decide)))])) hZ (hw _ (List.mem_of_getElem? (i := 39) rfl)) (hw _ (List.mem_of_getElem? (i := 3) rfl)) (by decide) (by decide)) q67a q67c (g := (mkF mM 133 #[.val (.int p0), .val (.ref b1), .val (.int (9 : Int32)), .val (.int (1 : Int32))] [(.ref a_LONG)])) rfl (by rw [hml]; rfl) (Steps.refl _) (argsL := []) (rest := []) (lenOf own_pd0 rfl) rfl (by show 2 * 0 + _ ≤ _; exact Nat.le_of_eq rfl) (hb hby at_133) (fun _ _ => ⟨rfl, e46, (by decide : 1 + 0 ≤ _), (by decide : 15 + 0 ≤ _)⟩)
    dsimp only [Pt.U, Pt.locs, Pt.cells, Pt.slots] at X67 l67 y67 z67 st67 hQ67
    subst l67 y67 z67
    obtain ⟨rfl, Nq67, e67⟩ := hQ67
    have N67 := Fr.app N46 Nq67
    refine own_tr st67 ?_
    show own_Ends _ _ _ _ (T67.setTop (mkF mM 136 #[.val (.int p0), .val (.ref b1), .val (.int (9 : Int32)), .val (.int (1 : Int32))] [(.int (1 : Int32))]))
    refine own_go (fun _ k => XS.iloadN X67.here hx rfl (hb hby at_136) rfl k) ?_
    show own_Ends _ _ _ _ (T67.setTop (mkF mM 137 #[.val (.int p0), .val (.ref b1), .val (.int (9 : Int32)), .val (.int (1 : Int32))] [(.int (1 : Int32)), (.int (1 : Int32))]))
    refine own_go (fun _ k => XS.icmpNo X67.here hx rfl (hb hby at_137) rfl (teq (by decide : (1 : Int32) = (1 : Int32))).2 k) ?_
    show own_Ends _ _ _ _ (T67.setTop (mkF mM 140 #[.val (.int p0), .val (.ref b1), .val (.int (9 : Int32)), .val (.int (1 : Int32))] []))
    refine own_go (fun _ k => XS.iconst X67.here hx rfl (hb hby at_140) k) ?_
    show own_Ends _ _ _ _ (T67.setTop (mkF mM 141 #[.val (.int p0), .val (.ref b1), .val (.int (9 : Int32)), .val (.int (1 : Int32))] [(.int (1 : Int32))]))
    refine own_go (fun _ k => XS.goto X67.here hx rfl (pc0 := 141) (pc' := 145) rfl (hb hby at_141) (by decide) (by decide) k) ?_
    show own_Ends _ _ _ _ (T67.setTop (mkF mM 145 #[.val (.int p0), .val (.ref b1), .val (.int (9 : Int32)), .val (.int (1 : Int32))] [(.int (1 : Int32))]))
    exact own_retZ X67 hx (BodyLoose.notSynchronized Bd) Bd.returns rfl (hb hby at_145) (by decide) (by decide) (by rw [e67]; exact ⟨rfl, N67⟩)
  · rw [hi46]
    show own_Ends _ _ _ _ (T46.setTop (mkF mM 112 #[.val (.int p0), .val (.ref b1), .unset, .unset] [(.int (10 : Int32))]))
    refine own_go (fun _ k => XS.istoreN X46.here hx rfl (hb hby at_112) rfl (l' := #[.val (.int p0), .val (.ref b1), .val (.int (10 : Int32)), .unset]) rfl k) ?_
    show own_Ends _ _ _ _ (T46.setTop (mkF mM 113 #[.val (.int p0), .val (.ref b1), .val (.int (10 : Int32)), .unset] []))
    refine own_go (fun _ k => XS.iloadN X46.here hx rfl (hb hby at_113) rfl k) ?_
    show own_Ends _ _ _ _ (T46.setTop (mkF mM 114 #[.val (.int p0), .val (.ref b1), .val (.int (10 : Int32)), .unset] [(.int (10 : Int32))]))
    refine own_go (fun _ k => XS.iconst X46.here hx rfl (hb hby at_114) k) ?_
    show own_Ends _ _ _ _ (T46.setTop (mkF mM 115 #[.val (.int p0), .val (.ref b1), .val (.int (10 : Int32)), .unset] [(.int (1 : Int32)), (.int (10 : Int32))]))
    refine own_go (fun _ k => XS.icmpNo X46.here hx rfl (hb hby at_115) rfl (flt (by decide : ¬ ((10 : Int32) < (1 : Int32)))).1 k) ?_
    show own_Ends _ _ _ _ (T46.setTop (mkF mM 118 #[.val (.int p0), .val (.ref b1), .val (.int (10 : Int32)), .unset] []))
    refine own_go (fun _ k => XS.iloadN X46.here hx rfl (hb hby at_118) rfl k) ?_
    show own_Ends _ _ _ _ (T46.setTop (mkF mM 119 #[.val (.int p0), .val (.ref b1), .val (.int (10 : Int32)), .unset] [(.int (10 : Int32))]))
    refine own_go (fun _ k => XS.bipush X46.here hx rfl (hb hby at_119) k) ?_
    show own_Ends _ _ _ _ (T46.setTop (mkF mM 121 #[.val (.int p0), .val (.ref b1), .val (.int (10 : Int32)), .unset] [(.int (12 : Int32)), (.int (10 : Int32))]))
    refine own_go (fun _ k => XS.icmpNo X46.here hx rfl (hb hby at_121) rfl (flt (by decide : ¬ ((12 : Int32) < (10 : Int32)))).2.2.1 k) ?_
    show own_Ends _ _ _ _ (T46.setTop (mkF mM 124 #[.val (.int p0), .val (.ref b1), .val (.int (10 : Int32)), .unset] []))
    refine own_go (fun _ k => XS.iconst X46.here hx rfl (hb hby at_124) k) ?_
    show own_Ends _ _ _ _ (T46.setTop (mkF mM 125 #[.val (.int p0), .val (.ref b1), .val (.int (10 : Int32)), .unset] [(.int (1 : Int32))]))
    refine own_go (fun _ k => XS.goto X46.here hx rfl (pc0 := 125) (pc' := 129) rfl (hb hby at_125) (by decide) (by decide) k) ?_
    show own_Ends _ _ _ _ (T46.setTop (mkF mM 129 #[.val (.int p0), .val (.ref b1), .val (.int (10 : Int32)), .unset] [(.int (1 : Int32))]))
    refine own_go (fun _ k => XS.istoreN X46.here hx rfl (hb hby at_129) rfl (l' := #[.val (.int p0), .val (.ref b1), .val (.int (10 : Int32)), .val (.int (1 : Int32))]) rfl k) ?_
    show own_Ends _ _ _ _ (T46.setTop (mkF mM 130 #[.val (.int p0), .val (.ref b1), .val (.int (10 : Int32)), .val (.int (1 : Int32))] []))
    refine own_go (fun _ k => XS.aloadN X46.here hx rfl (hb hby at_130) rfl rfl k) ?_
    show own_Ends _ _ _ _ (T46.setTop (mkF mM 131 #[.val (.int p0), .val (.ref b1), .val (.int (10 : Int32)), .val (.int (1 : Int32))] [(.ref b1)]))
    refine own_go (fun _ k => XS.iloadN X46.here hx rfl (hb hby at_131) rfl k) ?_
    show own_Ends _ _ _ _ (T46.setTop (mkF mM 132 #[.val (.int p0), .val (.ref b1), .val (.int (10 : Int32)), .val (.int (1 : Int32))] [(.int (10 : Int32)), (.ref b1)]))
    obtain ⟨cl68, Ar68, aq68, aS68, aN68, aH68, aG68⟩ := id V46
    have hin68 : ¬ ((10 : Int32) < 0 ∨ cl68.slots.size ≤ ((10 : Int32)).toNatClampNeg) := inb_of aS68 ⟨by decide, by decide⟩
    refine own_go (X46.aaload hx (j := (10 : Int32)) (v := (.ref a_UNSIGNED_LONG)) (by rw [e46]; exact Ar68.1) (State.isArrayOf_alike hZ.alike Ar68.2.1) rfl Ar68.2.2 hin68 (aH68.at hin68 rfl) (g := (mkF mM 132 #[.val (.int p0), .val (.ref b1), .val (.int (10 : Int32)), .val (.int (1 : Int32))] [(.int (10 : Int32)), (.ref b1)])) rfl rfl (hb hby at_132)) ?_
    show own_Ends _ _ _ _ (T46.setTop (mkF mM 133 #[.val (.int p0), .val (.ref b1), .val (.int (10 : Int32)), .val (.int (1 : Int32))] [(.ref a_UNSIGNED_LONG)]))
    obtain ⟨cq69, kq69, q69a, q69b, q69c⟩ := isOf hZ e46 (E_UNSIGNED_LONG.ext O46.2)
    obtain ⟨_, _, ⟨T69, Lz69, kz69, nz69⟩, -, X69, ⟨Lc69, hQ69, l69, y69, z69⟩, st69⟩ := X46.virtualBack hx (y := (⟨"com/example/abstract_and_refine/abstractandrefine/c/CType", "isInteger", "()Z"⟩ : MethodName)) (z := (⟨"com/example/abstract_and_refine/abstractandrefine/c/CType", "isInteger", "()Z"⟩ : MethodName)) hown (mvT hZ (hw _ (List.mem_of_getElem? (i := 35) rfl))) (mvT hZ (hw _ (List.mem_of_getElem? (i := 36) rfl))) (notFace_of_selects (args := #[]) (mvT hZ (hw _ (List.mem_of_getElem? (i := 38) rfl)))) (mvT hZ (hw _ (List.mem_of_getElem? (i := 38) rfl))) (mvT hZ (hw _ (List.mem_of_getElem? (i := 37) rfl))) (by decide) (backOf (W := 0) (own_isInteger l Z a0 hw [] a_UNSIGNED_LONG (1 : Int32) a_VOID a_FLOATING a_POINTER h46 n0 O46 S_VOID S_FLOATING S_POINTER (by rw [if_neg (Fld.ne F_UNSIGNED_LONG_ordinal F_VOID_ordinal (fun q => absurd (Value.int.inj q) (by decide))), if_neg (Fld.ne F_UNSIGNED_LONG_ordinal F_FLOATING_ordinal (fun q => absurd (Value.int.inj q) (by decide))), if_neg (Fld.ne F_UNSIGNED_LONG_ordinal F_POINTER_ordinal (fun q => absurd (Value.int.inj q) (by decide)))])) hZ (hw _ (List.mem_of_getElem? (i := 39) rfl)) (hw _ (List.mem_of_getElem? (i := 3) rfl)) (by decide) (by decide)) q69a q69c (g := (mkF mM 133 #[.val (.int p0), .val (.ref b1), .val (.int (10 : Int32)), .val (.int (1 : Int32))] [(.ref a_UNSIGNED_LONG)])) rfl (by rw [hml]; rfl) (Steps.refl _) (argsL := []) (rest := []) (lenOf own_pd0 rfl) rfl (by show 2 * 0 + _ ≤ _; exact Nat.le_of_eq rfl) (hb hby at_133) (fun _ _ => ⟨rfl, e46, (by decide : 1 + 0 ≤ _), (by decide : 15 + 0 ≤ _)⟩)
    dsimp only [Pt.U, Pt.locs, Pt.cells, Pt.slots] at X69 l69 y69 z69 st69 hQ69
    subst l69 y69 z69
    obtain ⟨rfl, Nq69, e69⟩ := hQ69
    have N69 := Fr.app N46 Nq69
    refine own_tr st69 ?_
    show own_Ends _ _ _ _ (T69.setTop (mkF mM 136 #[.val (.int p0), .val (.ref b1), .val (.int (10 : Int32)), .val (.int (1 : Int32))] [(.int (1 : Int32))]))
    refine own_go (fun _ k => XS.iloadN X69.here hx rfl (hb hby at_136) rfl k) ?_
    show own_Ends _ _ _ _ (T69.setTop (mkF mM 137 #[.val (.int p0), .val (.ref b1), .val (.int (10 : Int32)), .val (.int (1 : Int32))] [(.int (1 : Int32)), (.int (1 : Int32))]))
    refine own_go (fun _ k => XS.icmpNo X69.here hx rfl (hb hby at_137) rfl (teq (by decide : (1 : Int32) = (1 : Int32))).2 k) ?_
    show own_Ends _ _ _ _ (T69.setTop (mkF mM 140 #[.val (.int p0), .val (.ref b1), .val (.int (10 : Int32)), .val (.int (1 : Int32))] []))
    refine own_go (fun _ k => XS.iconst X69.here hx rfl (hb hby at_140) k) ?_
    show own_Ends _ _ _ _ (T69.setTop (mkF mM 141 #[.val (.int p0), .val (.ref b1), .val (.int (10 : Int32)), .val (.int (1 : Int32))] [(.int (1 : Int32))]))
    refine own_go (fun _ k => XS.goto X69.here hx rfl (pc0 := 141) (pc' := 145) rfl (hb hby at_141) (by decide) (by decide) k) ?_
    show own_Ends _ _ _ _ (T69.setTop (mkF mM 145 #[.val (.int p0), .val (.ref b1), .val (.int (10 : Int32)), .val (.int (1 : Int32))] [(.int (1 : Int32))]))
    exact own_retZ X69 hx (BodyLoose.notSynchronized Bd) Bd.returns rfl (hb hby at_145) (by decide) (by decide) (by rw [e69]; exact ⟨rfl, N69⟩)
  · rw [hi46]
    show own_Ends _ _ _ _ (T46.setTop (mkF mM 112 #[.val (.int p0), .val (.ref b1), .unset, .unset] [(.int (11 : Int32))]))
    refine own_go (fun _ k => XS.istoreN X46.here hx rfl (hb hby at_112) rfl (l' := #[.val (.int p0), .val (.ref b1), .val (.int (11 : Int32)), .unset]) rfl k) ?_
    show own_Ends _ _ _ _ (T46.setTop (mkF mM 113 #[.val (.int p0), .val (.ref b1), .val (.int (11 : Int32)), .unset] []))
    refine own_go (fun _ k => XS.iloadN X46.here hx rfl (hb hby at_113) rfl k) ?_
    show own_Ends _ _ _ _ (T46.setTop (mkF mM 114 #[.val (.int p0), .val (.ref b1), .val (.int (11 : Int32)), .unset] [(.int (11 : Int32))]))
    refine own_go (fun _ k => XS.iconst X46.here hx rfl (hb hby at_114) k) ?_
    show own_Ends _ _ _ _ (T46.setTop (mkF mM 115 #[.val (.int p0), .val (.ref b1), .val (.int (11 : Int32)), .unset] [(.int (1 : Int32)), (.int (11 : Int32))]))
    refine own_go (fun _ k => XS.icmpNo X46.here hx rfl (hb hby at_115) rfl (flt (by decide : ¬ ((11 : Int32) < (1 : Int32)))).1 k) ?_
    show own_Ends _ _ _ _ (T46.setTop (mkF mM 118 #[.val (.int p0), .val (.ref b1), .val (.int (11 : Int32)), .unset] []))
    refine own_go (fun _ k => XS.iloadN X46.here hx rfl (hb hby at_118) rfl k) ?_
    show own_Ends _ _ _ _ (T46.setTop (mkF mM 119 #[.val (.int p0), .val (.ref b1), .val (.int (11 : Int32)), .unset] [(.int (11 : Int32))]))
    refine own_go (fun _ k => XS.bipush X46.here hx rfl (hb hby at_119) k) ?_
    show own_Ends _ _ _ _ (T46.setTop (mkF mM 121 #[.val (.int p0), .val (.ref b1), .val (.int (11 : Int32)), .unset] [(.int (12 : Int32)), (.int (11 : Int32))]))
    refine own_go (fun _ k => XS.icmpNo X46.here hx rfl (hb hby at_121) rfl (flt (by decide : ¬ ((12 : Int32) < (11 : Int32)))).2.2.1 k) ?_
    show own_Ends _ _ _ _ (T46.setTop (mkF mM 124 #[.val (.int p0), .val (.ref b1), .val (.int (11 : Int32)), .unset] []))
    refine own_go (fun _ k => XS.iconst X46.here hx rfl (hb hby at_124) k) ?_
    show own_Ends _ _ _ _ (T46.setTop (mkF mM 125 #[.val (.int p0), .val (.ref b1), .val (.int (11 : Int32)), .unset] [(.int (1 : Int32))]))
    refine own_go (fun _ k => XS.goto X46.here hx rfl (pc0 := 125) (pc' := 129) rfl (hb hby at_125) (by decide) (by decide) k) ?_
    show own_Ends _ _ _ _ (T46.setTop (mkF mM 129 #[.val (.int p0), .val (.ref b1), .val (.int (11 : Int32)), .unset] [(.int (1 : Int32))]))
    refine own_go (fun _ k => XS.istoreN X46.here hx rfl (hb hby at_129) rfl (l' := #[.val (.int p0), .val (.ref b1), .val (.int (11 : Int32)), .val (.int (1 : Int32))]) rfl k) ?_
    show own_Ends _ _ _ _ (T46.setTop (mkF mM 130 #[.val (.int p0), .val (.ref b1), .val (.int (11 : Int32)), .val (.int (1 : Int32))] []))
    refine own_go (fun _ k => XS.aloadN X46.here hx rfl (hb hby at_130) rfl rfl k) ?_
    show own_Ends _ _ _ _ (T46.setTop (mkF mM 131 #[.val (.int p0), .val (.ref b1), .val (.int (11 : Int32)), .val (.int (1 : Int32))] [(.ref b1)]))
    refine own_go (fun _ k => XS.iloadN X46.here hx rfl (hb hby at_131) rfl k) ?_
    show own_Ends _ _ _ _ (T46.setTop (mkF mM 132 #[.val (.int p0), .val (.ref b1), .val (.int (11 : Int32)), .val (.int (1 : Int32))] [(.int (11 : Int32)), (.ref b1)]))
    obtain ⟨cl70, Ar70, aq70, aS70, aN70, aH70, aG70⟩ := id V46
    have hin70 : ¬ ((11 : Int32) < 0 ∨ cl70.slots.size ≤ ((11 : Int32)).toNatClampNeg) := inb_of aS70 ⟨by decide, by decide⟩
    refine own_go (X46.aaload hx (j := (11 : Int32)) (v := (.ref a_LONG_LONG)) (by rw [e46]; exact Ar70.1) (State.isArrayOf_alike hZ.alike Ar70.2.1) rfl Ar70.2.2 hin70 (aH70.at hin70 rfl) (g := (mkF mM 132 #[.val (.int p0), .val (.ref b1), .val (.int (11 : Int32)), .val (.int (1 : Int32))] [(.int (11 : Int32)), (.ref b1)])) rfl rfl (hb hby at_132)) ?_
    show own_Ends _ _ _ _ (T46.setTop (mkF mM 133 #[.val (.int p0), .val (.ref b1), .val (.int (11 : Int32)), .val (.int (1 : Int32))] [(.ref a_LONG_LONG)]))
    obtain ⟨cq71, kq71, q71a, q71b, q71c⟩ := isOf hZ e46 (E_LONG_LONG.ext O46.2)
    obtain ⟨_, _, ⟨T71, Lz71, kz71, nz71⟩, -, X71, ⟨Lc71, hQ71, l71, y71, z71⟩, st71⟩ := X46.virtualBack hx (y := (⟨"com/example/abstract_and_refine/abstractandrefine/c/CType", "isInteger", "()Z"⟩ : MethodName)) (z := (⟨"com/example/abstract_and_refine/abstractandrefine/c/CType", "isInteger", "()Z"⟩ : MethodName)) hown (mvT hZ (hw _ (List.mem_of_getElem? (i := 35) rfl))) (mvT hZ (hw _ (List.mem_of_getElem? (i := 36) rfl))) (notFace_of_selects (args := #[]) (mvT hZ (hw _ (List.mem_of_getElem? (i := 38) rfl)))) (mvT hZ (hw _ (List.mem_of_getElem? (i := 38) rfl))) (mvT hZ (hw _ (List.mem_of_getElem? (i := 37) rfl))) (by decide) (backOf (W := 0) (own_isInteger l Z a0 hw [] a_LONG_LONG (1 : Int32) a_VOID a_FLOATING a_POINTER h46 n0 O46 S_VOID S_FLOATING S_POINTER (by rw [if_neg (Fld.ne F_LONG_LONG_ordinal F_VOID_ordinal (fun q => absurd (Value.int.inj q) (by decide))), if_neg (Fld.ne F_LONG_LONG_ordinal F_FLOATING_ordinal (fun q => absurd (Value.int.inj q) (by decide))), if_neg (Fld.ne F_LONG_LONG_ordinal F_POINTER_ordinal (fun q => absurd (Value.int.inj q) (by decide)))])) hZ (hw _ (List.mem_of_getElem? (i := 39) rfl)) (hw _ (List.mem_of_getElem? (i := 3) rfl)) (by decide) (by decide)) q71a q71c (g := (mkF mM 133 #[.val (.int p0), .val (.ref b1), .val (.int (11 : Int32)), .val (.int (1 : Int32))] [(.ref a_LONG_LONG)])) rfl (by rw [hml]; rfl) (Steps.refl _) (argsL := []) (rest := []) (lenOf own_pd0 rfl) rfl (by show 2 * 0 + _ ≤ _; exact Nat.le_of_eq rfl) (hb hby at_133) (fun _ _ => ⟨rfl, e46, (by decide : 1 + 0 ≤ _), (by decide : 15 + 0 ≤ _)⟩)
    dsimp only [Pt.U, Pt.locs, Pt.cells, Pt.slots] at X71 l71 y71 z71 st71 hQ71
    subst l71 y71 z71
    obtain ⟨rfl, Nq71, e71⟩ := hQ71
    have N71 := Fr.app N46 Nq71
    refine own_tr st71 ?_
    show own_Ends _ _ _ _ (T71.setTop (mkF mM 136 #[.val (.int p0), .val (.ref b1), .val (.int (11 : Int32)), .val (.int (1 : Int32))] [(.int (1 : Int32))]))
    refine own_go (fun _ k => XS.iloadN X71.here hx rfl (hb hby at_136) rfl k) ?_
    show own_Ends _ _ _ _ (T71.setTop (mkF mM 137 #[.val (.int p0), .val (.ref b1), .val (.int (11 : Int32)), .val (.int (1 : Int32))] [(.int (1 : Int32)), (.int (1 : Int32))]))
    refine own_go (fun _ k => XS.icmpNo X71.here hx rfl (hb hby at_137) rfl (teq (by decide : (1 : Int32) = (1 : Int32))).2 k) ?_
    show own_Ends _ _ _ _ (T71.setTop (mkF mM 140 #[.val (.int p0), .val (.ref b1), .val (.int (11 : Int32)), .val (.int (1 : Int32))] []))
    refine own_go (fun _ k => XS.iconst X71.here hx rfl (hb hby at_140) k) ?_
    show own_Ends _ _ _ _ (T71.setTop (mkF mM 141 #[.val (.int p0), .val (.ref b1), .val (.int (11 : Int32)), .val (.int (1 : Int32))] [(.int (1 : Int32))]))
    refine own_go (fun _ k => XS.goto X71.here hx rfl (pc0 := 141) (pc' := 145) rfl (hb hby at_141) (by decide) (by decide) k) ?_
    show own_Ends _ _ _ _ (T71.setTop (mkF mM 145 #[.val (.int p0), .val (.ref b1), .val (.int (11 : Int32)), .val (.int (1 : Int32))] [(.int (1 : Int32))]))
    exact own_retZ X71 hx (BodyLoose.notSynchronized Bd) Bd.returns rfl (hb hby at_145) (by decide) (by decide) (by rw [e71]; exact ⟨rfl, N71⟩)
  · rw [hi46]
    show own_Ends _ _ _ _ (T46.setTop (mkF mM 112 #[.val (.int p0), .val (.ref b1), .unset, .unset] [(.int (12 : Int32))]))
    refine own_go (fun _ k => XS.istoreN X46.here hx rfl (hb hby at_112) rfl (l' := #[.val (.int p0), .val (.ref b1), .val (.int (12 : Int32)), .unset]) rfl k) ?_
    show own_Ends _ _ _ _ (T46.setTop (mkF mM 113 #[.val (.int p0), .val (.ref b1), .val (.int (12 : Int32)), .unset] []))
    refine own_go (fun _ k => XS.iloadN X46.here hx rfl (hb hby at_113) rfl k) ?_
    show own_Ends _ _ _ _ (T46.setTop (mkF mM 114 #[.val (.int p0), .val (.ref b1), .val (.int (12 : Int32)), .unset] [(.int (12 : Int32))]))
    refine own_go (fun _ k => XS.iconst X46.here hx rfl (hb hby at_114) k) ?_
    show own_Ends _ _ _ _ (T46.setTop (mkF mM 115 #[.val (.int p0), .val (.ref b1), .val (.int (12 : Int32)), .unset] [(.int (1 : Int32)), (.int (12 : Int32))]))
    refine own_go (fun _ k => XS.icmpNo X46.here hx rfl (hb hby at_115) rfl (flt (by decide : ¬ ((12 : Int32) < (1 : Int32)))).1 k) ?_
    show own_Ends _ _ _ _ (T46.setTop (mkF mM 118 #[.val (.int p0), .val (.ref b1), .val (.int (12 : Int32)), .unset] []))
    refine own_go (fun _ k => XS.iloadN X46.here hx rfl (hb hby at_118) rfl k) ?_
    show own_Ends _ _ _ _ (T46.setTop (mkF mM 119 #[.val (.int p0), .val (.ref b1), .val (.int (12 : Int32)), .unset] [(.int (12 : Int32))]))
    refine own_go (fun _ k => XS.bipush X46.here hx rfl (hb hby at_119) k) ?_
    show own_Ends _ _ _ _ (T46.setTop (mkF mM 121 #[.val (.int p0), .val (.ref b1), .val (.int (12 : Int32)), .unset] [(.int (12 : Int32)), (.int (12 : Int32))]))
    refine own_go (fun _ k => XS.icmpNo X46.here hx rfl (hb hby at_121) rfl (flt (by decide : ¬ ((12 : Int32) < (12 : Int32)))).2.2.1 k) ?_
    show own_Ends _ _ _ _ (T46.setTop (mkF mM 124 #[.val (.int p0), .val (.ref b1), .val (.int (12 : Int32)), .unset] []))
    refine own_go (fun _ k => XS.iconst X46.here hx rfl (hb hby at_124) k) ?_
    show own_Ends _ _ _ _ (T46.setTop (mkF mM 125 #[.val (.int p0), .val (.ref b1), .val (.int (12 : Int32)), .unset] [(.int (1 : Int32))]))
    refine own_go (fun _ k => XS.goto X46.here hx rfl (pc0 := 125) (pc' := 129) rfl (hb hby at_125) (by decide) (by decide) k) ?_
    show own_Ends _ _ _ _ (T46.setTop (mkF mM 129 #[.val (.int p0), .val (.ref b1), .val (.int (12 : Int32)), .unset] [(.int (1 : Int32))]))
    refine own_go (fun _ k => XS.istoreN X46.here hx rfl (hb hby at_129) rfl (l' := #[.val (.int p0), .val (.ref b1), .val (.int (12 : Int32)), .val (.int (1 : Int32))]) rfl k) ?_
    show own_Ends _ _ _ _ (T46.setTop (mkF mM 130 #[.val (.int p0), .val (.ref b1), .val (.int (12 : Int32)), .val (.int (1 : Int32))] []))
    refine own_go (fun _ k => XS.aloadN X46.here hx rfl (hb hby at_130) rfl rfl k) ?_
    show own_Ends _ _ _ _ (T46.setTop (mkF mM 131 #[.val (.int p0), .val (.ref b1), .val (.int (12 : Int32)), .val (.int (1 : Int32))] [(.ref b1)]))
    refine own_go (fun _ k => XS.iloadN X46.here hx rfl (hb hby at_131) rfl k) ?_
    show own_Ends _ _ _ _ (T46.setTop (mkF mM 132 #[.val (.int p0), .val (.ref b1), .val (.int (12 : Int32)), .val (.int (1 : Int32))] [(.int (12 : Int32)), (.ref b1)]))
    obtain ⟨cl72, Ar72, aq72, aS72, aN72, aH72, aG72⟩ := id V46
    have hin72 : ¬ ((12 : Int32) < 0 ∨ cl72.slots.size ≤ ((12 : Int32)).toNatClampNeg) := inb_of aS72 ⟨by decide, by decide⟩
    refine own_go (X46.aaload hx (j := (12 : Int32)) (v := (.ref a_UNSIGNED_LONG_LONG)) (by rw [e46]; exact Ar72.1) (State.isArrayOf_alike hZ.alike Ar72.2.1) rfl Ar72.2.2 hin72 (aH72.at hin72 rfl) (g := (mkF mM 132 #[.val (.int p0), .val (.ref b1), .val (.int (12 : Int32)), .val (.int (1 : Int32))] [(.int (12 : Int32)), (.ref b1)])) rfl rfl (hb hby at_132)) ?_
    show own_Ends _ _ _ _ (T46.setTop (mkF mM 133 #[.val (.int p0), .val (.ref b1), .val (.int (12 : Int32)), .val (.int (1 : Int32))] [(.ref a_UNSIGNED_LONG_LONG)]))
    obtain ⟨cq73, kq73, q73a, q73b, q73c⟩ := isOf hZ e46 (E_UNSIGNED_LONG_LONG.ext O46.2)
    obtain ⟨_, _, ⟨T73, Lz73, kz73, nz73⟩, -, X73, ⟨Lc73, hQ73, l73, y73, z73⟩, st73⟩ := X46.virtualBack hx (y := (⟨"com/example/abstract_and_refine/abstractandrefine/c/CType", "isInteger", "()Z"⟩ : MethodName)) (z := (⟨"com/example/abstract_and_refine/abstractandrefine/c/CType", "isInteger", "()Z"⟩ : MethodName)) hown (mvT hZ (hw _ (List.mem_of_getElem? (i := 35) rfl))) (mvT hZ (hw _ (List.mem_of_getElem? (i := 36) rfl))) (notFace_of_selects (args := #[]) (mvT hZ (hw _ (List.mem_of_getElem? (i := 38) rfl)))) (mvT hZ (hw _ (List.mem_of_getElem? (i := 38) rfl))) (mvT hZ (hw _ (List.mem_of_getElem? (i := 37) rfl))) (by decide) (backOf (W := 0) (own_isInteger l Z a0 hw [] a_UNSIGNED_LONG_LONG (1 : Int32) a_VOID a_FLOATING a_POINTER h46 n0 O46 S_VOID S_FLOATING S_POINTER (by rw [if_neg (Fld.ne F_UNSIGNED_LONG_LONG_ordinal F_VOID_ordinal (fun q => absurd (Value.int.inj q) (by decide))), if_neg (Fld.ne F_UNSIGNED_LONG_LONG_ordinal F_FLOATING_ordinal (fun q => absurd (Value.int.inj q) (by decide))), if_neg (Fld.ne F_UNSIGNED_LONG_LONG_ordinal F_POINTER_ordinal (fun q => absurd (Value.int.inj q) (by decide)))])) hZ (hw _ (List.mem_of_getElem? (i := 39) rfl)) (hw _ (List.mem_of_getElem? (i := 3) rfl)) (by decide) (by decide)) q73a q73c (g := (mkF mM 133 #[.val (.int p0), .val (.ref b1), .val (.int (12 : Int32)), .val (.int (1 : Int32))] [(.ref a_UNSIGNED_LONG_LONG)])) rfl (by rw [hml]; rfl) (Steps.refl _) (argsL := []) (rest := []) (lenOf own_pd0 rfl) rfl (by show 2 * 0 + _ ≤ _; exact Nat.le_of_eq rfl) (hb hby at_133) (fun _ _ => ⟨rfl, e46, (by decide : 1 + 0 ≤ _), (by decide : 15 + 0 ≤ _)⟩)
    dsimp only [Pt.U, Pt.locs, Pt.cells, Pt.slots] at X73 l73 y73 z73 st73 hQ73
    subst l73 y73 z73
    obtain ⟨rfl, Nq73, e73⟩ := hQ73
    have N73 := Fr.app N46 Nq73
    refine own_tr st73 ?_
    show own_Ends _ _ _ _ (T73.setTop (mkF mM 136 #[.val (.int p0), .val (.ref b1), .val (.int (12 : Int32)), .val (.int (1 : Int32))] [(.int (1 : Int32))]))
    refine own_go (fun _ k => XS.iloadN X73.here hx rfl (hb hby at_136) rfl k) ?_
    show own_Ends _ _ _ _ (T73.setTop (mkF mM 137 #[.val (.int p0), .val (.ref b1), .val (.int (12 : Int32)), .val (.int (1 : Int32))] [(.int (1 : Int32)), (.int (1 : Int32))]))
    refine own_go (fun _ k => XS.icmpNo X73.here hx rfl (hb hby at_137) rfl (teq (by decide : (1 : Int32) = (1 : Int32))).2 k) ?_
    show own_Ends _ _ _ _ (T73.setTop (mkF mM 140 #[.val (.int p0), .val (.ref b1), .val (.int (12 : Int32)), .val (.int (1 : Int32))] []))
    refine own_go (fun _ k => XS.iconst X73.here hx rfl (hb hby at_140) k) ?_
    show own_Ends _ _ _ _ (T73.setTop (mkF mM 141 #[.val (.int p0), .val (.ref b1), .val (.int (12 : Int32)), .val (.int (1 : Int32))] [(.int (1 : Int32))]))
    refine own_go (fun _ k => XS.goto X73.here hx rfl (pc0 := 141) (pc' := 145) rfl (hb hby at_141) (by decide) (by decide) k) ?_
    show own_Ends _ _ _ _ (T73.setTop (mkF mM 145 #[.val (.int p0), .val (.ref b1), .val (.int (12 : Int32)), .val (.int (1 : Int32))] [(.int (1 : Int32))]))
    exact own_retZ X73 hx (BodyLoose.notSynchronized Bd) Bd.returns rfl (hb hby at_145) (by decide) (by decide) (by rw [e73]; exact ⟨rfl, N73⟩)
  · rw [hi46]
    show own_Ends _ _ _ _ (T46.setTop (mkF mM 112 #[.val (.int p0), .val (.ref b1), .unset, .unset] [(.int (13 : Int32))]))
    refine own_go (fun _ k => XS.istoreN X46.here hx rfl (hb hby at_112) rfl (l' := #[.val (.int p0), .val (.ref b1), .val (.int (13 : Int32)), .unset]) rfl k) ?_
    show own_Ends _ _ _ _ (T46.setTop (mkF mM 113 #[.val (.int p0), .val (.ref b1), .val (.int (13 : Int32)), .unset] []))
    refine own_go (fun _ k => XS.iloadN X46.here hx rfl (hb hby at_113) rfl k) ?_
    show own_Ends _ _ _ _ (T46.setTop (mkF mM 114 #[.val (.int p0), .val (.ref b1), .val (.int (13 : Int32)), .unset] [(.int (13 : Int32))]))
    refine own_go (fun _ k => XS.iconst X46.here hx rfl (hb hby at_114) k) ?_
    show own_Ends _ _ _ _ (T46.setTop (mkF mM 115 #[.val (.int p0), .val (.ref b1), .val (.int (13 : Int32)), .unset] [(.int (1 : Int32)), (.int (13 : Int32))]))
    refine own_go (fun _ k => XS.icmpNo X46.here hx rfl (hb hby at_115) rfl (flt (by decide : ¬ ((13 : Int32) < (1 : Int32)))).1 k) ?_
    show own_Ends _ _ _ _ (T46.setTop (mkF mM 118 #[.val (.int p0), .val (.ref b1), .val (.int (13 : Int32)), .unset] []))
    refine own_go (fun _ k => XS.iloadN X46.here hx rfl (hb hby at_118) rfl k) ?_
    show own_Ends _ _ _ _ (T46.setTop (mkF mM 119 #[.val (.int p0), .val (.ref b1), .val (.int (13 : Int32)), .unset] [(.int (13 : Int32))]))
    refine own_go (fun _ k => XS.bipush X46.here hx rfl (hb hby at_119) k) ?_
    show own_Ends _ _ _ _ (T46.setTop (mkF mM 121 #[.val (.int p0), .val (.ref b1), .val (.int (13 : Int32)), .unset] [(.int (12 : Int32)), (.int (13 : Int32))]))
    refine own_go (fun _ k => XS.icmpYes X46.here hx rfl (pc0 := 121) (pc' := 128) rfl (hb hby at_121) rfl (tlt (by decide : (12 : Int32) < (13 : Int32))).2.2.1 (by decide) (by decide) k) ?_
    show own_Ends _ _ _ _ (T46.setTop (mkF mM 128 #[.val (.int p0), .val (.ref b1), .val (.int (13 : Int32)), .unset] []))
    refine own_go (fun _ k => XS.iconst X46.here hx rfl (hb hby at_128) k) ?_
    show own_Ends _ _ _ _ (T46.setTop (mkF mM 129 #[.val (.int p0), .val (.ref b1), .val (.int (13 : Int32)), .unset] [(.int (0 : Int32))]))
    refine own_go (fun _ k => XS.istoreN X46.here hx rfl (hb hby at_129) rfl (l' := #[.val (.int p0), .val (.ref b1), .val (.int (13 : Int32)), .val (.int (0 : Int32))]) rfl k) ?_
    show own_Ends _ _ _ _ (T46.setTop (mkF mM 130 #[.val (.int p0), .val (.ref b1), .val (.int (13 : Int32)), .val (.int (0 : Int32))] []))
    refine own_go (fun _ k => XS.aloadN X46.here hx rfl (hb hby at_130) rfl rfl k) ?_
    show own_Ends _ _ _ _ (T46.setTop (mkF mM 131 #[.val (.int p0), .val (.ref b1), .val (.int (13 : Int32)), .val (.int (0 : Int32))] [(.ref b1)]))
    refine own_go (fun _ k => XS.iloadN X46.here hx rfl (hb hby at_131) rfl k) ?_
    show own_Ends _ _ _ _ (T46.setTop (mkF mM 132 #[.val (.int p0), .val (.ref b1), .val (.int (13 : Int32)), .val (.int (0 : Int32))] [(.int (13 : Int32)), (.ref b1)]))
    obtain ⟨cl74, Ar74, aq74, aS74, aN74, aH74, aG74⟩ := id V46
    have hin74 : ¬ ((13 : Int32) < 0 ∨ cl74.slots.size ≤ ((13 : Int32)).toNatClampNeg) := inb_of aS74 ⟨by decide, by decide⟩
    refine own_go (X46.aaload hx (j := (13 : Int32)) (v := (.ref a_FLOATING)) (by rw [e46]; exact Ar74.1) (State.isArrayOf_alike hZ.alike Ar74.2.1) rfl Ar74.2.2 hin74 (aH74.at hin74 rfl) (g := (mkF mM 132 #[.val (.int p0), .val (.ref b1), .val (.int (13 : Int32)), .val (.int (0 : Int32))] [(.int (13 : Int32)), (.ref b1)])) rfl rfl (hb hby at_132)) ?_
    show own_Ends _ _ _ _ (T46.setTop (mkF mM 133 #[.val (.int p0), .val (.ref b1), .val (.int (13 : Int32)), .val (.int (0 : Int32))] [(.ref a_FLOATING)]))
    obtain ⟨cq75, kq75, q75a, q75b, q75c⟩ := isOf hZ e46 (E_FLOATING.ext O46.2)
    obtain ⟨_, _, ⟨T75, Lz75, kz75, nz75⟩, -, X75, ⟨Lc75, hQ75, l75, y75, z75⟩, st75⟩ := X46.virtualBack hx (y := (⟨"com/example/abstract_and_refine/abstractandrefine/c/CType", "isInteger", "()Z"⟩ : MethodName)) (z := (⟨"com/example/abstract_and_refine/abstractandrefine/c/CType", "isInteger", "()Z"⟩ : MethodName)) hown (mvT hZ (hw _ (List.mem_of_getElem? (i := 35) rfl))) (mvT hZ (hw _ (List.mem_of_getElem? (i := 36) rfl))) (notFace_of_selects (args := #[]) (mvT hZ (hw _ (List.mem_of_getElem? (i := 38) rfl)))) (mvT hZ (hw _ (List.mem_of_getElem? (i := 38) rfl))) (mvT hZ (hw _ (List.mem_of_getElem? (i := 37) rfl))) (by decide) (backOf (W := 0) (own_isInteger l Z a0 hw [] a_FLOATING (0 : Int32) a_VOID a_FLOATING a_POINTER h46 n0 O46 S_VOID S_FLOATING S_POINTER (by rw [if_neg (Fld.ne F_FLOATING_ordinal F_VOID_ordinal (fun q => absurd (Value.int.inj q) (by decide))), if_pos rfl])) hZ (hw _ (List.mem_of_getElem? (i := 39) rfl)) (hw _ (List.mem_of_getElem? (i := 3) rfl)) (by decide) (by decide)) q75a q75c (g := (mkF mM 133 #[.val (.int p0), .val (.ref b1), .val (.int (13 : Int32)), .val (.int (0 : Int32))] [(.ref a_FLOATING)])) rfl (by rw [hml]; rfl) (Steps.refl _) (argsL := []) (rest := []) (lenOf own_pd0 rfl) rfl (by show 2 * 0 + _ ≤ _; exact Nat.le_of_eq rfl) (hb hby at_133) (fun _ _ => ⟨rfl, e46, (by decide : 1 + 0 ≤ _), (by decide : 15 + 0 ≤ _)⟩)
    dsimp only [Pt.U, Pt.locs, Pt.cells, Pt.slots] at X75 l75 y75 z75 st75 hQ75
    subst l75 y75 z75
    obtain ⟨rfl, Nq75, e75⟩ := hQ75
    have N75 := Fr.app N46 Nq75
    refine own_tr st75 ?_
    show own_Ends _ _ _ _ (T75.setTop (mkF mM 136 #[.val (.int p0), .val (.ref b1), .val (.int (13 : Int32)), .val (.int (0 : Int32))] [(.int (0 : Int32))]))
    refine own_go (fun _ k => XS.iloadN X75.here hx rfl (hb hby at_136) rfl k) ?_
    show own_Ends _ _ _ _ (T75.setTop (mkF mM 137 #[.val (.int p0), .val (.ref b1), .val (.int (13 : Int32)), .val (.int (0 : Int32))] [(.int (0 : Int32)), (.int (0 : Int32))]))
    refine own_go (fun _ k => XS.icmpNo X75.here hx rfl (hb hby at_137) rfl (teq (by decide : (0 : Int32) = (0 : Int32))).2 k) ?_
    show own_Ends _ _ _ _ (T75.setTop (mkF mM 140 #[.val (.int p0), .val (.ref b1), .val (.int (13 : Int32)), .val (.int (0 : Int32))] []))
    refine own_go (fun _ k => XS.iconst X75.here hx rfl (hb hby at_140) k) ?_
    show own_Ends _ _ _ _ (T75.setTop (mkF mM 141 #[.val (.int p0), .val (.ref b1), .val (.int (13 : Int32)), .val (.int (0 : Int32))] [(.int (1 : Int32))]))
    refine own_go (fun _ k => XS.goto X75.here hx rfl (pc0 := 141) (pc' := 145) rfl (hb hby at_141) (by decide) (by decide) k) ?_
    show own_Ends _ _ _ _ (T75.setTop (mkF mM 145 #[.val (.int p0), .val (.ref b1), .val (.int (13 : Int32)), .val (.int (0 : Int32))] [(.int (1 : Int32))]))
    exact own_retZ X75 hx (BodyLoose.notSynchronized Bd) Bd.returns rfl (hb hby at_145) (by decide) (by decide) (by rw [e75]; exact ⟨rfl, N75⟩)
  · rw [hi46]
    show own_Ends _ _ _ _ (T46.setTop (mkF mM 112 #[.val (.int p0), .val (.ref b1), .unset, .unset] [(.int (14 : Int32))]))
    refine own_go (fun _ k => XS.istoreN X46.here hx rfl (hb hby at_112) rfl (l' := #[.val (.int p0), .val (.ref b1), .val (.int (14 : Int32)), .unset]) rfl k) ?_
    show own_Ends _ _ _ _ (T46.setTop (mkF mM 113 #[.val (.int p0), .val (.ref b1), .val (.int (14 : Int32)), .unset] []))
    refine own_go (fun _ k => XS.iloadN X46.here hx rfl (hb hby at_113) rfl k) ?_
    show own_Ends _ _ _ _ (T46.setTop (mkF mM 114 #[.val (.int p0), .val (.ref b1), .val (.int (14 : Int32)), .unset] [(.int (14 : Int32))]))
    refine own_go (fun _ k => XS.iconst X46.here hx rfl (hb hby at_114) k) ?_
    show own_Ends _ _ _ _ (T46.setTop (mkF mM 115 #[.val (.int p0), .val (.ref b1), .val (.int (14 : Int32)), .unset] [(.int (1 : Int32)), (.int (14 : Int32))]))
    refine own_go (fun _ k => XS.icmpNo X46.here hx rfl (hb hby at_115) rfl (flt (by decide : ¬ ((14 : Int32) < (1 : Int32)))).1 k) ?_
    show own_Ends _ _ _ _ (T46.setTop (mkF mM 118 #[.val (.int p0), .val (.ref b1), .val (.int (14 : Int32)), .unset] []))
    refine own_go (fun _ k => XS.iloadN X46.here hx rfl (hb hby at_118) rfl k) ?_
    show own_Ends _ _ _ _ (T46.setTop (mkF mM 119 #[.val (.int p0), .val (.ref b1), .val (.int (14 : Int32)), .unset] [(.int (14 : Int32))]))
    refine own_go (fun _ k => XS.bipush X46.here hx rfl (hb hby at_119) k) ?_
    show own_Ends _ _ _ _ (T46.setTop (mkF mM 121 #[.val (.int p0), .val (.ref b1), .val (.int (14 : Int32)), .unset] [(.int (12 : Int32)), (.int (14 : Int32))]))
    refine own_go (fun _ k => XS.icmpYes X46.here hx rfl (pc0 := 121) (pc' := 128) rfl (hb hby at_121) rfl (tlt (by decide : (12 : Int32) < (14 : Int32))).2.2.1 (by decide) (by decide) k) ?_
    show own_Ends _ _ _ _ (T46.setTop (mkF mM 128 #[.val (.int p0), .val (.ref b1), .val (.int (14 : Int32)), .unset] []))
    refine own_go (fun _ k => XS.iconst X46.here hx rfl (hb hby at_128) k) ?_
    show own_Ends _ _ _ _ (T46.setTop (mkF mM 129 #[.val (.int p0), .val (.ref b1), .val (.int (14 : Int32)), .unset] [(.int (0 : Int32))]))
    refine own_go (fun _ k => XS.istoreN X46.here hx rfl (hb hby at_129) rfl (l' := #[.val (.int p0), .val (.ref b1), .val (.int (14 : Int32)), .val (.int (0 : Int32))]) rfl k) ?_
    show own_Ends _ _ _ _ (T46.setTop (mkF mM 130 #[.val (.int p0), .val (.ref b1), .val (.int (14 : Int32)), .val (.int (0 : Int32))] []))
    refine own_go (fun _ k => XS.aloadN X46.here hx rfl (hb hby at_130) rfl rfl k) ?_
    show own_Ends _ _ _ _ (T46.setTop (mkF mM 131 #[.val (.int p0), .val (.ref b1), .val (.int (14 : Int32)), .val (.int (0 : Int32))] [(.ref b1)]))
    refine own_go (fun _ k => XS.iloadN X46.here hx rfl (hb hby at_131) rfl k) ?_
    show own_Ends _ _ _ _ (T46.setTop (mkF mM 132 #[.val (.int p0), .val (.ref b1), .val (.int (14 : Int32)), .val (.int (0 : Int32))] [(.int (14 : Int32)), (.ref b1)]))
    obtain ⟨cl76, Ar76, aq76, aS76, aN76, aH76, aG76⟩ := id V46
    have hin76 : ¬ ((14 : Int32) < 0 ∨ cl76.slots.size ≤ ((14 : Int32)).toNatClampNeg) := inb_of aS76 ⟨by decide, by decide⟩
    refine own_go (X46.aaload hx (j := (14 : Int32)) (v := (.ref a_POINTER)) (by rw [e46]; exact Ar76.1) (State.isArrayOf_alike hZ.alike Ar76.2.1) rfl Ar76.2.2 hin76 (aH76.at hin76 rfl) (g := (mkF mM 132 #[.val (.int p0), .val (.ref b1), .val (.int (14 : Int32)), .val (.int (0 : Int32))] [(.int (14 : Int32)), (.ref b1)])) rfl rfl (hb hby at_132)) ?_
    show own_Ends _ _ _ _ (T46.setTop (mkF mM 133 #[.val (.int p0), .val (.ref b1), .val (.int (14 : Int32)), .val (.int (0 : Int32))] [(.ref a_POINTER)]))
    obtain ⟨cq77, kq77, q77a, q77b, q77c⟩ := isOf hZ e46 (E_POINTER.ext O46.2)
    obtain ⟨_, _, ⟨T77, Lz77, kz77, nz77⟩, -, X77, ⟨Lc77, hQ77, l77, y77, z77⟩, st77⟩ := X46.virtualBack hx (y := (⟨"com/example/abstract_and_refine/abstractandrefine/c/CType", "isInteger", "()Z"⟩ : MethodName)) (z := (⟨"com/example/abstract_and_refine/abstractandrefine/c/CType", "isInteger", "()Z"⟩ : MethodName)) hown (mvT hZ (hw _ (List.mem_of_getElem? (i := 35) rfl))) (mvT hZ (hw _ (List.mem_of_getElem? (i := 36) rfl))) (notFace_of_selects (args := #[]) (mvT hZ (hw _ (List.mem_of_getElem? (i := 38) rfl)))) (mvT hZ (hw _ (List.mem_of_getElem? (i := 38) rfl))) (mvT hZ (hw _ (List.mem_of_getElem? (i := 37) rfl))) (by decide) (backOf (W := 0) (own_isInteger l Z a0 hw [] a_POINTER (0 : Int32) a_VOID a_FLOATING a_POINTER h46 n0 O46 S_VOID S_FLOATING S_POINTER (by rw [if_neg (Fld.ne F_POINTER_ordinal F_VOID_ordinal (fun q => absurd (Value.int.inj q) (by decide))), if_neg (Fld.ne F_POINTER_ordinal F_FLOATING_ordinal (fun q => absurd (Value.int.inj q) (by decide))), if_pos rfl])) hZ (hw _ (List.mem_of_getElem? (i := 39) rfl)) (hw _ (List.mem_of_getElem? (i := 3) rfl)) (by decide) (by decide)) q77a q77c (g := (mkF mM 133 #[.val (.int p0), .val (.ref b1), .val (.int (14 : Int32)), .val (.int (0 : Int32))] [(.ref a_POINTER)])) rfl (by rw [hml]; rfl) (Steps.refl _) (argsL := []) (rest := []) (lenOf own_pd0 rfl) rfl (by show 2 * 0 + _ ≤ _; exact Nat.le_of_eq rfl) (hb hby at_133) (fun _ _ => ⟨rfl, e46, (by decide : 1 + 0 ≤ _), (by decide : 15 + 0 ≤ _)⟩)
    dsimp only [Pt.U, Pt.locs, Pt.cells, Pt.slots] at X77 l77 y77 z77 st77 hQ77
    subst l77 y77 z77
    obtain ⟨rfl, Nq77, e77⟩ := hQ77
    have N77 := Fr.app N46 Nq77
    refine own_tr st77 ?_
    show own_Ends _ _ _ _ (T77.setTop (mkF mM 136 #[.val (.int p0), .val (.ref b1), .val (.int (14 : Int32)), .val (.int (0 : Int32))] [(.int (0 : Int32))]))
    refine own_go (fun _ k => XS.iloadN X77.here hx rfl (hb hby at_136) rfl k) ?_
    show own_Ends _ _ _ _ (T77.setTop (mkF mM 137 #[.val (.int p0), .val (.ref b1), .val (.int (14 : Int32)), .val (.int (0 : Int32))] [(.int (0 : Int32)), (.int (0 : Int32))]))
    refine own_go (fun _ k => XS.icmpNo X77.here hx rfl (hb hby at_137) rfl (teq (by decide : (0 : Int32) = (0 : Int32))).2 k) ?_
    show own_Ends _ _ _ _ (T77.setTop (mkF mM 140 #[.val (.int p0), .val (.ref b1), .val (.int (14 : Int32)), .val (.int (0 : Int32))] []))
    refine own_go (fun _ k => XS.iconst X77.here hx rfl (hb hby at_140) k) ?_
    show own_Ends _ _ _ _ (T77.setTop (mkF mM 141 #[.val (.int p0), .val (.ref b1), .val (.int (14 : Int32)), .val (.int (0 : Int32))] [(.int (1 : Int32))]))
    refine own_go (fun _ k => XS.goto X77.here hx rfl (pc0 := 141) (pc' := 145) rfl (hb hby at_141) (by decide) (by decide) k) ?_
    show own_Ends _ _ _ _ (T77.setTop (mkF mM 145 #[.val (.int p0), .val (.ref b1), .val (.int (14 : Int32)), .val (.int (0 : Int32))] [(.int (1 : Int32))]))
    exact own_retZ X77 hx (BodyLoose.notSynchronized Bd) Bd.returns rfl (hb hby at_145) (by decide) (by decide) (by rw [e77]; exact ⟨rfl, N77⟩)
set_option maxRecDepth 65536 in
set_option maxHeartbeats 40000000 in
theorem comes_1 {Post : Tables → Env → Array Value → State → Outcome → State → Prop} (hpost : ∀ tb e args s v u, (limb_1_1.after args s (.returned v) u = true ∧ limb_1_2.after args s (.returned v) u = true ∧ True) → FrameEnd s (.returned v) u (Jvm.fieldLocs frame_1_writes args s ++ Jvm.arrayLocs frame_1_arrays args s ++ Jvm.staticLocs frame_1_statics s) 16 128 → Post tb e args s (.returned v) u) :
    ArmFor flags0 classFile x code maxLocals ret World_1 tables_1 room_1 Calls_1 rest_1 Pre_1 Post := by
  intro l hfl _ _ p e ha hc hk s m args below hf hA hF happ hP
  obtain ⟨hcalls, hrest, hpre⟩ := hP
  obtain ⟨-, -, -, hnamed, -, -, -, hat⟩ := (Spec.applies_iff hf).mp happ
  obtain ⟨hg, hn⟩ := and_e (Cond.before_iff.mp (show (Jvm.Cond.and given_1 narrow_1).before args s = true from hpre))
  obtain ⟨hg0, hg1⟩ := and_e hg
  obtain ⟨w0, rfl⟩ : ∃ w0 : Value, args = #[w0] := by
    have hs : args.size = 1 := by simpa [Cond.value, given_1] using hg0
    obtain ⟨L⟩ := args
    match L, hs with
    | [w0], _ => exact ⟨w0, rfl⟩
  have hw := fun d (hd : d ∈ tables_1) => atoms_spec (ws := Jvm.Cond.code x code maxLocals ret :: tables_1) hat d (List.mem_cons_of_mem _ hd)
  have hfit : Fit s := fun {y c} hc i hi => by
    obtain ⟨ha, rfl⟩ := Array.getElem?_eq_some_iff.mp hc
    have q := List.all_eq_true.mp ((Array.all_eq_true_iff_forall_mem.mp hF) _ (Array.getElem_mem ha)) i (List.mem_range.mpr hi)
    simpa [Array.getElem?_eq_getElem hi] using q
  obtain ⟨i0, ei0⟩ := is_v hg1
  obtain rfl : w0 = (.int i0) := Option.some.inj ei0
  obtain ⟨hn0, hm0⟩ := and_e hn
  obtain ⟨a_VOID, ev_VOID⟩ := exa_v hn0
  have S_VOID : Sta s s.heap "com/example/abstract_and_refine/abstractandrefine/c/CType" "VOID" "Lcom/example/abstract_and_refine/abstractandrefine/c/CType;" (.ref a_VOID) := Sta.start ev_VOID (Or.inr ⟨(hw _ (List.mem_of_getElem? (i := 3) rfl)), (hw _ (List.mem_of_getElem? (i := 4) rfl))⟩)
  have E_VOID : Exa s s.heap a_VOID "com/example/abstract_and_refine/abstractandrefine/c/CType" := Exa.start ev_VOID hn0
  obtain ⟨hn1, hm1⟩ := and_e hm0
  obtain ⟨a_BOOL, ev_BOOL⟩ := exa_v hn1
  have S_BOOL : Sta s s.heap "com/example/abstract_and_refine/abstractandrefine/c/CType" "BOOL" "Lcom/example/abstract_and_refine/abstractandrefine/c/CType;" (.ref a_BOOL) := Sta.start ev_BOOL (Or.inr ⟨(hw _ (List.mem_of_getElem? (i := 3) rfl)), (hw _ (List.mem_of_getElem? (i := 7) rfl))⟩)
  have E_BOOL : Exa s s.heap a_BOOL "com/example/abstract_and_refine/abstractandrefine/c/CType" := Exa.start ev_BOOL hn1
  obtain ⟨hn2, hm2⟩ := and_e hm1
  obtain ⟨a_CHAR, ev_CHAR⟩ := exa_v hn2
  have S_CHAR : Sta s s.heap "com/example/abstract_and_refine/abstractandrefine/c/CType" "CHAR" "Lcom/example/abstract_and_refine/abstractandrefine/c/CType;" (.ref a_CHAR) := Sta.start ev_CHAR (Or.inr ⟨(hw _ (List.mem_of_getElem? (i := 3) rfl)), (hw _ (List.mem_of_getElem? (i := 9) rfl))⟩)
  have E_CHAR : Exa s s.heap a_CHAR "com/example/abstract_and_refine/abstractandrefine/c/CType" := Exa.start ev_CHAR hn2
  obtain ⟨hn3, hm3⟩ := and_e hm2
  obtain ⟨a_SIGNED_CHAR, ev_SIGNED_CHAR⟩ := exa_v hn3
  have S_SIGNED_CHAR : Sta s s.heap "com/example/abstract_and_refine/abstractandrefine/c/CType" "SIGNED_CHAR" "Lcom/example/abstract_and_refine/abstractandrefine/c/CType;" (.ref a_SIGNED_CHAR) := Sta.start ev_SIGNED_CHAR (Or.inr ⟨(hw _ (List.mem_of_getElem? (i := 3) rfl)), (hw _ (List.mem_of_getElem? (i := 11) rfl))⟩)
  have E_SIGNED_CHAR : Exa s s.heap a_SIGNED_CHAR "com/example/abstract_and_refine/abstractandrefine/c/CType" := Exa.start ev_SIGNED_CHAR hn3
  obtain ⟨hn4, hm4⟩ := and_e hm3
  obtain ⟨a_UNSIGNED_CHAR, ev_UNSIGNED_CHAR⟩ := exa_v hn4
  have S_UNSIGNED_CHAR : Sta s s.heap "com/example/abstract_and_refine/abstractandrefine/c/CType" "UNSIGNED_CHAR" "Lcom/example/abstract_and_refine/abstractandrefine/c/CType;" (.ref a_UNSIGNED_CHAR) := Sta.start ev_UNSIGNED_CHAR (Or.inr ⟨(hw _ (List.mem_of_getElem? (i := 3) rfl)), (hw _ (List.mem_of_getElem? (i := 13) rfl))⟩)
  have E_UNSIGNED_CHAR : Exa s s.heap a_UNSIGNED_CHAR "com/example/abstract_and_refine/abstractandrefine/c/CType" := Exa.start ev_UNSIGNED_CHAR hn4
  obtain ⟨hn5, hm5⟩ := and_e hm4
  obtain ⟨a_SHORT, ev_SHORT⟩ := exa_v hn5
  have S_SHORT : Sta s s.heap "com/example/abstract_and_refine/abstractandrefine/c/CType" "SHORT" "Lcom/example/abstract_and_refine/abstractandrefine/c/CType;" (.ref a_SHORT) := Sta.start ev_SHORT (Or.inr ⟨(hw _ (List.mem_of_getElem? (i := 3) rfl)), (hw _ (List.mem_of_getElem? (i := 15) rfl))⟩)
  have E_SHORT : Exa s s.heap a_SHORT "com/example/abstract_and_refine/abstractandrefine/c/CType" := Exa.start ev_SHORT hn5
  obtain ⟨hn6, hm6⟩ := and_e hm5
  obtain ⟨a_UNSIGNED_SHORT, ev_UNSIGNED_SHORT⟩ := exa_v hn6
  have S_UNSIGNED_SHORT : Sta s s.heap "com/example/abstract_and_refine/abstractandrefine/c/CType" "UNSIGNED_SHORT" "Lcom/example/abstract_and_refine/abstractandrefine/c/CType;" (.ref a_UNSIGNED_SHORT) := Sta.start ev_UNSIGNED_SHORT (Or.inr ⟨(hw _ (List.mem_of_getElem? (i := 3) rfl)), (hw _ (List.mem_of_getElem? (i := 17) rfl))⟩)
  have E_UNSIGNED_SHORT : Exa s s.heap a_UNSIGNED_SHORT "com/example/abstract_and_refine/abstractandrefine/c/CType" := Exa.start ev_UNSIGNED_SHORT hn6
  obtain ⟨hn7, hm7⟩ := and_e hm6
  obtain ⟨a_INT, ev_INT⟩ := exa_v hn7
  have S_INT : Sta s s.heap "com/example/abstract_and_refine/abstractandrefine/c/CType" "INT" "Lcom/example/abstract_and_refine/abstractandrefine/c/CType;" (.ref a_INT) := Sta.start ev_INT (Or.inr ⟨(hw _ (List.mem_of_getElem? (i := 3) rfl)), (hw _ (List.mem_of_getElem? (i := 19) rfl))⟩)
  have E_INT : Exa s s.heap a_INT "com/example/abstract_and_refine/abstractandrefine/c/CType" := Exa.start ev_INT hn7
  obtain ⟨hn8, hm8⟩ := and_e hm7
  obtain ⟨a_UNSIGNED_INT, ev_UNSIGNED_INT⟩ := exa_v hn8
  have S_UNSIGNED_INT : Sta s s.heap "com/example/abstract_and_refine/abstractandrefine/c/CType" "UNSIGNED_INT" "Lcom/example/abstract_and_refine/abstractandrefine/c/CType;" (.ref a_UNSIGNED_INT) := Sta.start ev_UNSIGNED_INT (Or.inr ⟨(hw _ (List.mem_of_getElem? (i := 3) rfl)), (hw _ (List.mem_of_getElem? (i := 21) rfl))⟩)
  have E_UNSIGNED_INT : Exa s s.heap a_UNSIGNED_INT "com/example/abstract_and_refine/abstractandrefine/c/CType" := Exa.start ev_UNSIGNED_INT hn8
  obtain ⟨hn9, hm9⟩ := and_e hm8
  obtain ⟨a_LONG, ev_LONG⟩ := exa_v hn9
  have S_LONG : Sta s s.heap "com/example/abstract_and_refine/abstractandrefine/c/CType" "LONG" "Lcom/example/abstract_and_refine/abstractandrefine/c/CType;" (.ref a_LONG) := Sta.start ev_LONG (Or.inr ⟨(hw _ (List.mem_of_getElem? (i := 3) rfl)), (hw _ (List.mem_of_getElem? (i := 23) rfl))⟩)
  have E_LONG : Exa s s.heap a_LONG "com/example/abstract_and_refine/abstractandrefine/c/CType" := Exa.start ev_LONG hn9
  obtain ⟨hn10, hm10⟩ := and_e hm9
  obtain ⟨a_UNSIGNED_LONG, ev_UNSIGNED_LONG⟩ := exa_v hn10
  have S_UNSIGNED_LONG : Sta s s.heap "com/example/abstract_and_refine/abstractandrefine/c/CType" "UNSIGNED_LONG" "Lcom/example/abstract_and_refine/abstractandrefine/c/CType;" (.ref a_UNSIGNED_LONG) := Sta.start ev_UNSIGNED_LONG (Or.inr ⟨(hw _ (List.mem_of_getElem? (i := 3) rfl)), (hw _ (List.mem_of_getElem? (i := 25) rfl))⟩)
  have E_UNSIGNED_LONG : Exa s s.heap a_UNSIGNED_LONG "com/example/abstract_and_refine/abstractandrefine/c/CType" := Exa.start ev_UNSIGNED_LONG hn10
  obtain ⟨hn11, hm11⟩ := and_e hm10
  obtain ⟨a_LONG_LONG, ev_LONG_LONG⟩ := exa_v hn11
  have S_LONG_LONG : Sta s s.heap "com/example/abstract_and_refine/abstractandrefine/c/CType" "LONG_LONG" "Lcom/example/abstract_and_refine/abstractandrefine/c/CType;" (.ref a_LONG_LONG) := Sta.start ev_LONG_LONG (Or.inr ⟨(hw _ (List.mem_of_getElem? (i := 3) rfl)), (hw _ (List.mem_of_getElem? (i := 27) rfl))⟩)
  have E_LONG_LONG : Exa s s.heap a_LONG_LONG "com/example/abstract_and_refine/abstractandrefine/c/CType" := Exa.start ev_LONG_LONG hn11
  obtain ⟨hn12, hm12⟩ := and_e hm11
  obtain ⟨a_UNSIGNED_LONG_LONG, ev_UNSIGNED_LONG_LONG⟩ := exa_v hn12
  have S_UNSIGNED_LONG_LONG : Sta s s.heap "com/example/abstract_and_refine/abstractandrefine/c/CType" "UNSIGNED_LONG_LONG" "Lcom/example/abstract_and_refine/abstractandrefine/c/CType;" (.ref a_UNSIGNED_LONG_LONG) := Sta.start ev_UNSIGNED_LONG_LONG (Or.inr ⟨(hw _ (List.mem_of_getElem? (i := 3) rfl)), (hw _ (List.mem_of_getElem? (i := 29) rfl))⟩)
  have E_UNSIGNED_LONG_LONG : Exa s s.heap a_UNSIGNED_LONG_LONG "com/example/abstract_and_refine/abstractandrefine/c/CType" := Exa.start ev_UNSIGNED_LONG_LONG hn12
  obtain ⟨hn13, hm13⟩ := and_e hm12
  obtain ⟨a_FLOATING, ev_FLOATING⟩ := exa_v hn13
  have S_FLOATING : Sta s s.heap "com/example/abstract_and_refine/abstractandrefine/c/CType" "FLOATING" "Lcom/example/abstract_and_refine/abstractandrefine/c/CType;" (.ref a_FLOATING) := Sta.start ev_FLOATING (Or.inr ⟨(hw _ (List.mem_of_getElem? (i := 3) rfl)), (hw _ (List.mem_of_getElem? (i := 31) rfl))⟩)
  have E_FLOATING : Exa s s.heap a_FLOATING "com/example/abstract_and_refine/abstractandrefine/c/CType" := Exa.start ev_FLOATING hn13
  obtain ⟨hn14, hm14⟩ := and_e hm13
  obtain ⟨a_POINTER, ev_POINTER⟩ := exa_v hn14
  have S_POINTER : Sta s s.heap "com/example/abstract_and_refine/abstractandrefine/c/CType" "POINTER" "Lcom/example/abstract_and_refine/abstractandrefine/c/CType;" (.ref a_POINTER) := Sta.start ev_POINTER (Or.inr ⟨(hw _ (List.mem_of_getElem? (i := 3) rfl)), (hw _ (List.mem_of_getElem? (i := 33) rfl))⟩)
  have E_POINTER : Exa s s.heap a_POINTER "com/example/abstract_and_refine/abstractandrefine/c/CType" := Exa.start ev_POINTER hn14
  obtain ⟨hn15, hm15⟩ := and_e hm14
  have F_SIGNED_CHAR_ordinal : Fld s s.heap a_SIGNED_CHAR "java/lang/Enum" "ordinal" "I" (.int (3 : Int32)) := own_fldI ev_SIGNED_CHAR hn15
  obtain ⟨hn16, hm16⟩ := and_e hm15
  have F_VOID_ordinal : Fld s s.heap a_VOID "java/lang/Enum" "ordinal" "I" (.int (0 : Int32)) := own_fldI ev_VOID hn16
  obtain ⟨hn17, hm17⟩ := and_e hm16
  have F_FLOATING_ordinal : Fld s s.heap a_FLOATING "java/lang/Enum" "ordinal" "I" (.int (13 : Int32)) := own_fldI ev_FLOATING hn17
  obtain ⟨hn18, hm18⟩ := and_e hm17
  have F_POINTER_ordinal : Fld s s.heap a_POINTER "java/lang/Enum" "ordinal" "I" (.int (14 : Int32)) := own_fldI ev_POINTER hn18
  obtain ⟨hn19, hm19⟩ := and_e hm18
  have F_SHORT_ordinal : Fld s s.heap a_SHORT "java/lang/Enum" "ordinal" "I" (.int (5 : Int32)) := own_fldI ev_SHORT hn19
  obtain ⟨hn20, hm20⟩ := and_e hm19
  have F_UNSIGNED_SHORT_ordinal : Fld s s.heap a_UNSIGNED_SHORT "java/lang/Enum" "ordinal" "I" (.int (6 : Int32)) := own_fldI ev_UNSIGNED_SHORT hn20
  obtain ⟨hn21, hm21⟩ := and_e hm20
  have F_INT_ordinal : Fld s s.heap a_INT "java/lang/Enum" "ordinal" "I" (.int (7 : Int32)) := own_fldI ev_INT hn21
  obtain ⟨hn22, hm22⟩ := and_e hm21
  have F_CHAR_ordinal : Fld s s.heap a_CHAR "java/lang/Enum" "ordinal" "I" (.int (2 : Int32)) := own_fldI ev_CHAR hn22
  obtain ⟨hn23, hm23⟩ := and_e hm22
  have F_LONG_LONG_ordinal : Fld s s.heap a_LONG_LONG "java/lang/Enum" "ordinal" "I" (.int (11 : Int32)) := own_fldI ev_LONG_LONG hn23
  obtain ⟨hn24, hm24⟩ := and_e hm23
  have F_UNSIGNED_LONG_ordinal : Fld s s.heap a_UNSIGNED_LONG "java/lang/Enum" "ordinal" "I" (.int (10 : Int32)) := own_fldI ev_UNSIGNED_LONG hn24
  obtain ⟨hn25, hm25⟩ := and_e hm24
  have F_UNSIGNED_INT_ordinal : Fld s s.heap a_UNSIGNED_INT "java/lang/Enum" "ordinal" "I" (.int (8 : Int32)) := own_fldI ev_UNSIGNED_INT hn25
  obtain ⟨hn26, hm26⟩ := and_e hm25
  have F_BOOL_ordinal : Fld s s.heap a_BOOL "java/lang/Enum" "ordinal" "I" (.int (1 : Int32)) := own_fldI ev_BOOL hn26
  obtain ⟨hn27, hm27⟩ := and_e hm26
  have F_UNSIGNED_LONG_LONG_ordinal : Fld s s.heap a_UNSIGNED_LONG_LONG "java/lang/Enum" "ordinal" "I" (.int (12 : Int32)) := own_fldI ev_UNSIGNED_LONG_LONG hn27
  obtain ⟨hn28, hm28⟩ := and_e hm27
  have F_UNSIGNED_CHAR_ordinal : Fld s s.heap a_UNSIGNED_CHAR "java/lang/Enum" "ordinal" "I" (.int (4 : Int32)) := own_fldI ev_UNSIGNED_CHAR hn28
  have F_LONG_ordinal : Fld s s.heap a_LONG "java/lang/Enum" "ordinal" "I" (.int (9 : Int32)) := own_fldI ev_LONG hm28
  obtain ⟨n, o, h1, h2, h3, _, L, rfl, ⟨rfl, N⟩, hq⟩ := own_law l s _ hw tables_1 i0 a_VOID a_BOOL a_CHAR a_SIGNED_CHAR a_UNSIGNED_CHAR a_SHORT a_UNSIGNED_SHORT a_INT a_UNSIGNED_INT a_LONG a_UNSIGNED_LONG a_LONG_LONG a_UNSIGNED_LONG_LONG a_FLOATING a_POINTER s.heap s.heap.size (Old.start s) S_VOID E_VOID F_VOID_ordinal S_BOOL E_BOOL F_BOOL_ordinal S_CHAR E_CHAR F_CHAR_ordinal S_SIGNED_CHAR E_SIGNED_CHAR F_SIGNED_CHAR_ordinal S_UNSIGNED_CHAR E_UNSIGNED_CHAR F_UNSIGNED_CHAR_ordinal S_SHORT E_SHORT F_SHORT_ordinal S_UNSIGNED_SHORT E_UNSIGNED_SHORT F_UNSIGNED_SHORT_ordinal S_INT E_INT F_INT_ordinal S_UNSIGNED_INT E_UNSIGNED_INT F_UNSIGNED_INT_ordinal S_LONG E_LONG F_LONG_ordinal S_UNSIGNED_LONG E_UNSIGNED_LONG F_UNSIGNED_LONG_ordinal S_LONG_LONG E_LONG_LONG F_LONG_LONG_ordinal S_UNSIGNED_LONG_LONG E_UNSIGNED_LONG_LONG F_UNSIGNED_LONG_LONG_ordinal S_FLOATING E_FLOATING F_FLOATING_ordinal S_POINTER E_POINTER F_POINTER_ordinal p e ha hc hk s m _ below hf ((Spec.applies_iff_loose hf).mp happ).1 ⟨rfl, State.Warmed39.refl s, rfl⟩ trivial
  refine ⟨n, _, h1, h2, h3, hpost _ _ _ _ _ _ ⟨Cond.after_iff.mpr rfl, Cond.after_iff.mpr (eq_i res_at (Term.int_eval (1)) rfl), trivial⟩ ⟨hq.1, hq.2.1, (hq.2.2.sift fun y hy => Or.inr (N y hy)).mono (by decide) (by decide)⟩⟩
theorem main_1_1 : Claimed_1_1 := comes_1 fun _ _ _ _ _ _ h hF => ⟨h.1, hF⟩
theorem main_1_2 : Claimed_1_2 := comes_1 fun _ _ _ _ _ _ h hF => ⟨h.2.1, hF⟩
end Jvm.Pilot.@@N@@
namespace Jvm.Pilot.@@N@@
open Jvm Jvm.ClassFile Sem Op Lib Jvm.Free Jvm.Stand Jvm.Pilot.@@N@@.Jvm.D
/-! MADE BY PROGRAM (witnessworld.py) out of the Statement's table words and the real class files: 13 classes; the members and pool entries that the words name. The judged class is class 1, her method 1. -/
namespace start1
open Jvm.ClassFile
def u (s : String) : CpInfo := .utf8 (stringToUtf16 s)
/-- a pool by its gaps: so many unusable entries, then the entry; so many at the end -/
def gap : Nat → List CpInfo → List CpInfo
  | 0, r => r
  | n + 1, r => .unusable :: gap n r
def poolList (es : List (Nat × CpInfo)) (last : Nat) : List CpInfo := es.foldr (fun e r => gap e.1 (e.2 :: r)) (gap last [])
def pool (es : List (Nat × CpInfo)) (last : Nat) : Array CpInfo := ⟨poolList es last⟩
def fileOf (pool : Array CpInfo) (this : Nat) (attrs : Array Attribute := #[]) (ms : Array MethodInfo := #[]) (fl : Nat := 33) (sup : Nat := 0) (ifs : Array Nat := #[]) (fds : Array FieldInfo := #[]) : ClassFile where
  minorVersion := 0
  majorVersion := 65
  constantPool := pool
  accessFlags := fl
  thisClass := this
  superClass := sup
  interfaces := ifs
  fields := fds
  methods := ms
  attributes := attrs
def plain (name : String) (sup : Option ClassId) : Class where
  name := name
  kind := .ordinary
  loader := none
  accessFlags := 33
  super := sup
  interfaces := #[]
  cf := none
  fields := #[]
  methods := #[]
  instanceTypes := #[]
  staticTypes := #[]
  resolved := #[]
  callSites := []
  init := .initialized
  statics := none
  mirror := none

def pool0 : Array CpInfo := pool [(5, u "<init>"), (0, u "()V"), (1, .class_ 10), (1, u "java/lang/Object")] 113

def k0m0 : Method := { name := "<init>", desc := "()V", sig := { parameters := [], returnType := none }, accessFlags := 1, code := none }
/-- java/lang/Object -/
def k0 : Class := { plain "java/lang/Object" none with
  accessFlags := 33
  interfaces := #[]
  cf := some (fileOf pool0 8 #[] #[{ accessFlags := 1, nameIndex := 5, descriptorIndex := 6, attributes := #[] }] 33 0 #[] #[])
  fields := #[]
  methods := #[k0m0]
  instanceTypes := #[]
  staticTypes := #[]
  resolved := Array.replicate 124 none
  statics := none }

def pool1 : Array CpInfo := pool [(2, .class_ 4), (1, u "java/lang/Object"), (0, u "<init>"), (0, u "()V"), (0, .class_ 8), (0, u "com/example/abstract_and_refine/abstractandrefine/c/CType"), (0, .fieldref 7 10), (0, .nameAndType 11 12), (0, u "VOID"), (0, u "Lcom/example/abstract_and_refine/abstractandrefine/c/CType;"), (0, .fieldref 7 14), (0, .nameAndType 15 12), (0, u "BOOL"), (0, .fieldref 7 17), (0, .nameAndType 18 12), (0, u "CHAR"), (0, .fieldref 7 20), (0, .nameAndType 21 12), (0, u "SIGNED_CHAR"), (0, .fieldref 7 23), (0, .nameAndType 24 12), (0, u "UNSIGNED_CHAR"), (0, .fieldref 7 26), (0, .nameAndType 27 12), (0, u "SHORT"), (0, .fieldref 7 29), (0, .nameAndType 30 12), (0, u "UNSIGNED_SHORT"), (0, .fieldref 7 32), (0, .nameAndType 33 12), (0, u "INT"), (0, .fieldref 7 35), (0, .nameAndType 36 12), (0, u "UNSIGNED_INT"), (0, .fieldref 7 38), (0, .nameAndType 39 12), (0, u "LONG"), (0, .fieldref 7 41), (0, .nameAndType 42 12), (0, u "UNSIGNED_LONG"), (0, .fieldref 7 44), (0, .nameAndType 45 12), (0, u "LONG_LONG"), (0, .fieldref 7 47), (0, .nameAndType 48 12), (0, u "UNSIGNED_LONG_LONG"), (0, .fieldref 7 50), (0, .nameAndType 51 12), (0, u "FLOATING"), (0, .fieldref 7 53), (0, .nameAndType 54 12), (0, u "POINTER"), (0, .integer 2147483647), (0, .methodref 7 57), (0, .nameAndType 58 59), (0, u "isInteger"), (0, u "()Z"), (0, .class_ 61), (0, u "com/example/abstract_and_refine/abstractandrefine/c/CTypeIsIntegerPinLaw"), (2, u "law"), (0, u "(I)Z")] 5

def k1m0 : Method := { name := "<init>", desc := "()V", sig := { parameters := [], returnType := none }, accessFlags := 1, code := none }
def k1c1 : Code := { maxStack := 4, maxLocals := 4, code := code, exceptionTable := #[], attributes := #[] }
def k1m1 : Method := { name := "law", desc := "(I)Z", sig := { parameters := [.int], returnType := some .boolean }, accessFlags := 9, code := some k1c1 }
/-- com/example/abstract_and_refine/abstractandrefine/c/CTypeIsIntegerPinLaw -/
def k1 : Class := { plain "com/example/abstract_and_refine/abstractandrefine/c/CTypeIsIntegerPinLaw" (some 0) with
  accessFlags := 49
  interfaces := #[]
  cf := some (fileOf pool1 60 #[] #[{ accessFlags := 1, nameIndex := 5, descriptorIndex := 6, attributes := #[] }, { accessFlags := 9, nameIndex := 64, descriptorIndex := 65, attributes := #[] }] 49 2 #[] #[])
  fields := #[]
  methods := #[k1m0, k1m1]
  instanceTypes := #[]
  staticTypes := #[]
  resolved := Array.replicate 71 none
  statics := none }

def pool2 : Array CpInfo := pool [(1, .class_ 2), (0, u "java/lang/constant/Constable"), (0, .class_ 4), (0, u "java/lang/Object")] 6

/-- java/lang/constant/Constable -/
def k2 : Class := { plain "java/lang/constant/Constable" (some 0) with
  accessFlags := 1537
  interfaces := #[]
  cf := some (fileOf pool2 1 #[] #[] 1537 3 #[] #[])
  fields := #[]
  methods := #[]
  instanceTypes := #[]
  staticTypes := #[]
  resolved := Array.replicate 11 none
  statics := none }

def pool3 : Array CpInfo := pool [(1, .class_ 2), (0, u "java/lang/Comparable"), (0, .class_ 4), (0, u "java/lang/Object")] 7

/-- java/lang/Comparable -/
def k3 : Class := { plain "java/lang/Comparable" (some 0) with
  accessFlags := 1537
  interfaces := #[]
  cf := some (fileOf pool3 1 #[] #[] 1537 3 #[] #[])
  fields := #[]
  methods := #[]
  instanceTypes := #[]
  staticTypes := #[]
  resolved := Array.replicate 12 none
  statics := none }

def pool4 : Array CpInfo := pool [(1, .class_ 2), (0, u "java/io/Serializable"), (0, .class_ 4), (0, u "java/lang/Object")] 2

/-- java/io/Serializable -/
def k4 : Class := { plain "java/io/Serializable" (some 0) with
  accessFlags := 1537
  interfaces := #[]
  cf := some (fileOf pool4 1 #[] #[] 1537 3 #[] #[])
  fields := #[]
  methods := #[]
  instanceTypes := #[]
  staticTypes := #[]
  resolved := Array.replicate 7 none
  statics := none }

def pool5 : Array CpInfo := pool [(2, .class_ 4), (1, u "java/lang/Enum"), (0, u "name"), (0, u "Ljava/lang/String;"), (2, u "ordinal"), (0, u "I"), (1, .class_ 14), (1, u "java/lang/Object"), (4, u "hash"), (86, .class_ 108), (1, u "java/lang/Enum$EnumDesc"), (2, .class_ 112), (0, u "java/lang/constant/Constable"), (0, .class_ 114), (0, u "java/lang/Comparable"), (0, .class_ 116), (0, u "java/io/Serializable")] 87

/-- java/lang/Enum -/
def k5 : Class := { plain "java/lang/Enum" (some 0) with
  accessFlags := 1057
  interfaces := #[2, 3, 4]
  cf := some (fileOf pool5 2 #[.nestMembers #[106]] #[] 1057 12 #[111, 113, 115] #[{ accessFlags := 18, nameIndex := 5, descriptorIndex := 6, attributes := #[] }, { accessFlags := 18, nameIndex := 9, descriptorIndex := 10, attributes := #[] }, { accessFlags := 2, nameIndex := 19, descriptorIndex := 10, attributes := #[] }])
  fields := #[{ name := "name", type := (.object "java/lang/String"), accessFlags := 18, slot := 0, constantValue := 0 }, { name := "ordinal", type := .int, accessFlags := 18, slot := 1, constantValue := 0 }, { name := "hash", type := .int, accessFlags := 2, slot := 2, constantValue := 0 }]
  methods := #[]
  instanceTypes := #[(.object "java/lang/String"), .int, .int]
  staticTypes := #[]
  resolved := Array.replicate 204 none
  statics := none }

def pool6 : Array CpInfo := pool [(1, .class_ 2), (0, u "com/example/abstract_and_refine/abstractandrefine/c/CType"), (0, .fieldref 1 4), (0, .nameAndType 5 6), (0, u "VOID"), (0, u "Lcom/example/abstract_and_refine/abstractandrefine/c/CType;"), (2, u "BOOL"), (2, u "CHAR"), (2, u "SIGNED_CHAR"), (2, u "UNSIGNED_CHAR"), (2, u "SHORT"), (2, u "UNSIGNED_SHORT"), (2, u "INT"), (2, u "UNSIGNED_INT"), (2, u "LONG"), (2, u "UNSIGNED_LONG"), (2, u "LONG_LONG"), (2, u "UNSIGNED_LONG_LONG"), (0, .fieldref 1 44), (0, .nameAndType 45 6), (0, u "FLOATING"), (0, .fieldref 1 47), (0, .nameAndType 48 6), (0, u "POINTER"), (2, u "$VALUES"), (0, u "[Lcom/example/abstract_and_refine/abstractandrefine/c/CType;"), (6, .class_ 61), (1, u "java/lang/Enum"), (8, u "spelling"), (0, u "Ljava/lang/String;"), (59, u "isInteger"), (0, u "()Z")] 8

def k6c0 : Code := { maxStack := 2, maxLocals := 1, code := prog_38_method_4_code, exceptionTable := #[], attributes := #[] }
def k6m0 : Method := { name := "isInteger", desc := "()Z", sig := { parameters := [], returnType := some .boolean }, accessFlags := 0, code := some k6c0 }
/-- com/example/abstract_and_refine/abstractandrefine/c/CType -/
def k6 : Class := { plain "com/example/abstract_and_refine/abstractandrefine/c/CType" (some 5) with
  accessFlags := 16432
  interfaces := #[]
  cf := some (fileOf pool6 1 #[] #[{ accessFlags := 0, nameIndex := 131, descriptorIndex := 132, attributes := #[] }] 16432 59 #[] #[{ accessFlags := 16409, nameIndex := 5, descriptorIndex := 6, attributes := #[] }, { accessFlags := 16409, nameIndex := 9, descriptorIndex := 6, attributes := #[] }, { accessFlags := 16409, nameIndex := 12, descriptorIndex := 6, attributes := #[] }, { accessFlags := 16409, nameIndex := 15, descriptorIndex := 6, attributes := #[] }, { accessFlags := 16409, nameIndex := 18, descriptorIndex := 6, attributes := #[] }, { accessFlags := 16409, nameIndex := 21, descriptorIndex := 6, attributes := #[] }, { accessFlags := 16409, nameIndex := 24, descriptorIndex := 6, attributes := #[] }, { accessFlags := 16409, nameIndex := 27, descriptorIndex := 6, attributes := #[] }, { accessFlags := 16409, nameIndex := 30, descriptorIndex := 6, attributes := #[] }, { accessFlags := 16409, nameIndex := 33, descriptorIndex := 6, attributes := #[] }, { accessFlags := 16409, nameIndex := 36, descriptorIndex := 6, attributes := #[] }, { accessFlags := 16409, nameIndex := 39, descriptorIndex := 6, attributes := #[] }, { accessFlags := 16409, nameIndex := 42, descriptorIndex := 6, attributes := #[] }, { accessFlags := 16409, nameIndex := 45, descriptorIndex := 6, attributes := #[] }, { accessFlags := 16409, nameIndex := 48, descriptorIndex := 6, attributes := #[] }, { accessFlags := 18, nameIndex := 70, descriptorIndex := 71, attributes := #[] }, { accessFlags := 4122, nameIndex := 51, descriptorIndex := 52, attributes := #[] }])
  fields := #[{ name := "VOID", type := (.object "com/example/abstract_and_refine/abstractandrefine/c/CType"), accessFlags := 16409, slot := 0, constantValue := 0 }, { name := "BOOL", type := (.object "com/example/abstract_and_refine/abstractandrefine/c/CType"), accessFlags := 16409, slot := 1, constantValue := 0 }, { name := "CHAR", type := (.object "com/example/abstract_and_refine/abstractandrefine/c/CType"), accessFlags := 16409, slot := 2, constantValue := 0 }, { name := "SIGNED_CHAR", type := (.object "com/example/abstract_and_refine/abstractandrefine/c/CType"), accessFlags := 16409, slot := 3, constantValue := 0 }, { name := "UNSIGNED_CHAR", type := (.object "com/example/abstract_and_refine/abstractandrefine/c/CType"), accessFlags := 16409, slot := 4, constantValue := 0 }, { name := "SHORT", type := (.object "com/example/abstract_and_refine/abstractandrefine/c/CType"), accessFlags := 16409, slot := 5, constantValue := 0 }, { name := "UNSIGNED_SHORT", type := (.object "com/example/abstract_and_refine/abstractandrefine/c/CType"), accessFlags := 16409, slot := 6, constantValue := 0 }, { name := "INT", type := (.object "com/example/abstract_and_refine/abstractandrefine/c/CType"), accessFlags := 16409, slot := 7, constantValue := 0 }, { name := "UNSIGNED_INT", type := (.object "com/example/abstract_and_refine/abstractandrefine/c/CType"), accessFlags := 16409, slot := 8, constantValue := 0 }, { name := "LONG", type := (.object "com/example/abstract_and_refine/abstractandrefine/c/CType"), accessFlags := 16409, slot := 9, constantValue := 0 }, { name := "UNSIGNED_LONG", type := (.object "com/example/abstract_and_refine/abstractandrefine/c/CType"), accessFlags := 16409, slot := 10, constantValue := 0 }, { name := "LONG_LONG", type := (.object "com/example/abstract_and_refine/abstractandrefine/c/CType"), accessFlags := 16409, slot := 11, constantValue := 0 }, { name := "UNSIGNED_LONG_LONG", type := (.object "com/example/abstract_and_refine/abstractandrefine/c/CType"), accessFlags := 16409, slot := 12, constantValue := 0 }, { name := "FLOATING", type := (.object "com/example/abstract_and_refine/abstractandrefine/c/CType"), accessFlags := 16409, slot := 13, constantValue := 0 }, { name := "POINTER", type := (.object "com/example/abstract_and_refine/abstractandrefine/c/CType"), accessFlags := 16409, slot := 14, constantValue := 0 }, { name := "spelling", type := (.object "java/lang/String"), accessFlags := 18, slot := 3, constantValue := 0 }, { name := "$VALUES", type := (.array (.object "com/example/abstract_and_refine/abstractandrefine/c/CType")), accessFlags := 4122, slot := 15, constantValue := 0 }]
  methods := #[k6m0]
  instanceTypes := #[(.object "java/lang/String"), .int, .int, (.object "java/lang/String")]
  staticTypes := #[(.object "com/example/abstract_and_refine/abstractandrefine/c/CType"), (.object "com/example/abstract_and_refine/abstractandrefine/c/CType"), (.object "com/example/abstract_and_refine/abstractandrefine/c/CType"), (.object "com/example/abstract_and_refine/abstractandrefine/c/CType"), (.object "com/example/abstract_and_refine/abstractandrefine/c/CType"), (.object "com/example/abstract_and_refine/abstractandrefine/c/CType"), (.object "com/example/abstract_and_refine/abstractandrefine/c/CType"), (.object "com/example/abstract_and_refine/abstractandrefine/c/CType"), (.object "com/example/abstract_and_refine/abstractandrefine/c/CType"), (.object "com/example/abstract_and_refine/abstractandrefine/c/CType"), (.object "com/example/abstract_and_refine/abstractandrefine/c/CType"), (.object "com/example/abstract_and_refine/abstractandrefine/c/CType"), (.object "com/example/abstract_and_refine/abstractandrefine/c/CType"), (.object "com/example/abstract_and_refine/abstractandrefine/c/CType"), (.object "com/example/abstract_and_refine/abstractandrefine/c/CType"), (.array (.object "com/example/abstract_and_refine/abstractandrefine/c/CType"))]
  resolved := Array.replicate 141 none
  statics := some 0 }

def pool7 : Array CpInfo := pool [(1, u "java/lang/Cloneable"), (0, .class_ 1), (0, u "java/lang/Object"), (0, .class_ 3)] 3

/-- java/lang/Cloneable -/
def k7 : Class := { plain "java/lang/Cloneable" (some 0) with
  accessFlags := 1537
  interfaces := #[]
  cf := some (fileOf pool7 2 #[] #[] 1537 4 #[] #[])
  fields := #[]
  methods := #[]
  instanceTypes := #[]
  staticTypes := #[]
  resolved := Array.replicate 8 none
  statics := none }

/-- the primitive byte -/
def k8 : Class := { plain "byte" none with kind := .primitive 'B', accessFlags := 0x411 }
/-- [B -/
def k9 : Class := { plain "[B" (some 0) with kind := .array 8 .byte, interfaces := #[7, 4], accessFlags := 1041 }

/-- the primitive int -/
def k10 : Class := { plain "int" none with kind := .primitive 'I', accessFlags := 0x411 }
/-- [I -/
def k11 : Class := { plain "[I" (some 0) with kind := .array 10 .int, interfaces := #[7, 4], accessFlags := 1041 }

/-- [Lcom/example/abstract_and_refine/abstractandrefine/c/CType; -/
def k12 : Class := { plain "[Lcom/example/abstract_and_refine/abstractandrefine/c/CType;" (some 0) with kind := .array 6 (.object "com/example/abstract_and_refine/abstractandrefine/c/CType"), interfaces := #[7, 4], accessFlags := 1041 }

def heap : Heap := #[{ cls := 6, slots := #[.ref 1, .ref 2, .ref 3, .ref 4, .ref 5, .ref 6, .ref 7, .ref 8, .ref 9, .ref 10, .ref 11, .ref 12, .ref 13, .ref 14, .ref 15, .null], vm := .statics 6 },
  { cls := 6, slots := #[.null, .int 0, .int 0, .null], vm := .none },
  { cls := 6, slots := #[.null, .int 1, .int 0, .null], vm := .none },
  { cls := 6, slots := #[.null, .int 2, .int 0, .null], vm := .none },
  { cls := 6, slots := #[.null, .int 3, .int 0, .null], vm := .none },
  { cls := 6, slots := #[.null, .int 4, .int 0, .null], vm := .none },
  { cls := 6, slots := #[.null, .int 5, .int 0, .null], vm := .none },
  { cls := 6, slots := #[.null, .int 6, .int 0, .null], vm := .none },
  { cls := 6, slots := #[.null, .int 7, .int 0, .null], vm := .none },
  { cls := 6, slots := #[.null, .int 8, .int 0, .null], vm := .none },
  { cls := 6, slots := #[.null, .int 9, .int 0, .null], vm := .none },
  { cls := 6, slots := #[.null, .int 10, .int 0, .null], vm := .none },
  { cls := 6, slots := #[.null, .int 11, .int 0, .null], vm := .none },
  { cls := 6, slots := #[.null, .int 12, .int 0, .null], vm := .none },
  { cls := 6, slots := #[.null, .int 13, .int 0, .null], vm := .none },
  { cls := 6, slots := #[.null, .int 14, .int 0, .null], vm := .none }]
def classes : Array Class := #[k0, k1, k2, k3, k4, k5, k6, k7, k8, k9, k10, k11, k12]
def interned : List (Array UInt16 × Addr) := []
def slotsUsed : Nat := 76
def theMethod : MethodId := ⟨1, 1⟩
def args0 : Array Value := #[.int 3]
def aboutOver (below : List Frame) : State where
  vm := { classes := classes, interned := interned.toArray }
  heap := heap
  slotsUsed := slotsUsed
  threads := #[{ frames := .invoking theMethod args0 :: below }]
def below0 : List Frame := [.native { method := ⟨0, 0⟩, args := #[] }]
def about1 : State := aboutOver below0
def p0 : Program := .bare "" "" ""
def e0 : Env := launch0.env 0 0 0
theorem w_frames : about1.frames = Frame.invoking theMethod args0 :: below0 := rfl
set_option maxRecDepth 65536 in
theorem w_args : argsFit about1.vm theMethod args0 = true := by decide +kernel
set_option maxRecDepth 65536 in
theorem w_heap : heapFits about1 = true := by decide +kernel
set_option maxRecDepth 65536 in
theorem w_runnable : about1.curStatus? = some .runnable := by decide +kernel
set_option maxRecDepth 65536 in
theorem w_alone : about1.alone = true := by decide +kernel
set_option maxRecDepth 65536 in
theorem w_named : about1.methodNamed? x = some theMethod := by decide +kernel
set_option maxRecDepth 65536 in
theorem w_hears : about1.hears theMethod below0 = true := by decide +kernel
set_option maxRecDepth 65536 in
theorem w_ripe : about1.ripe theMethod args0 below0 = true := by decide +kernel
theorem w_running : about1.status = .running := rfl
set_option maxRecDepth 65536 in
theorem w_room : about1.hasRoom e0.platform room_1 = true :=
  launch0.hasRoom_least _ room_1 (by decide +kernel) (by decide +kernel) (by decide +kernel) (by decide +kernel) (by decide +kernel) (by decide +kernel)
theorem allAtoms_all (ts : List Jvm.Cond) (a : Array Jvm.Value) (st : Jvm.State) : (allAtoms ts).before a st = ts.all (fun c => c.before a st) := by
  induction ts with
  | nil => rfl
  | cons c t ih =>
    show (Jvm.Cond.and c (allAtoms t)).before a st = _
    rw [Jvm.Cond.before_and, ih, List.all_cons]
def words1 : List Jvm.Cond := Jvm.Cond.code x code maxLocals ret :: tables_1
/-- a 'code' word, met by the world's own term for the bytes: nothing is compared byte by byte -/
theorem code_word {y : MethodName} {bytes : ByteArray} {mx : Nat} {rt : Option FieldType} {a : Array Value} {s : State} {m : MethodId} {meth : Method} {c : Code} (h1 : s.methodNamed? y = some m) (h2 : s.vm.method? m = some meth) (h3 : meth.code = some c) (h4 : c.code = bytes)
    (h5 : (c.maxLocals == mx && c.exceptionTable.isEmpty && decide (c.maxStack ≤ mostOperands) && decide (meth.sig.returnType = rt) && !meth.locks && decide (parseMethodDescriptor y.desc = some meth.sig)) = true) : (Jvm.Cond.code y bytes mx rt).before a s = true := by
  simp only [Bool.and_eq_true, beq_iff_eq, Bool.not_eq_true', decide_eq_true_eq] at h5
  obtain ⟨⟨⟨⟨⟨g1, g2⟩, g3⟩, g4⟩, g5⟩, g6⟩ := h5
  simp [Cond.before, Cond.holds, Cond.value, h1, h2, h3, h4, g1, g2, g3, g4, g5, g6]
def isCode : Jvm.Cond → Bool
  | .code _ _ _ _ => true
  | _ => false
theorem all_split {L : List Jvm.Cond} {P : Jvm.Cond → Bool} (h1 : L.all (fun c => isCode c || P c) = true) (h2 : ∀ c ∈ L.filter isCode, P c = true) : L.all P = true := by
  refine List.all_eq_true.mpr fun c hc => ?_
  have h := List.all_eq_true.mp h1 c hc
  rcases Bool.eq_false_or_eq_true (isCode c) with hi | hi
  · exact h2 c (List.mem_filter.mpr ⟨hc, hi⟩)
  · simpa [hi] using h
set_option maxRecDepth 65536 in
theorem w_c0 : (Jvm.Cond.code x code maxLocals ret).before args0 about1 = true := code_word (m := ⟨1, 1⟩) (meth := k1m1) (c := k1c1) (by decide +kernel) rfl rfl rfl (by decide +kernel)
set_option maxRecDepth 65536 in
theorem w_c1 : (Jvm.Cond.code ({ cls := "com/example/abstract_and_refine/abstractandrefine/c/CType", name := "isInteger", desc := "()Z" } : Jvm.MethodName) prog_38_method_4_code (1 : Nat) (Option.some Jvm.ClassFile.FieldType.boolean)).before args0 about1 = true := code_word (m := ⟨6, 0⟩) (meth := k6m0) (c := k6c0) (by decide +kernel) rfl rfl rfl (by decide +kernel)
def codes1 : List Jvm.Cond := [Jvm.Cond.code x code maxLocals ret, Jvm.Cond.code ({ cls := "com/example/abstract_and_refine/abstractandrefine/c/CType", name := "isInteger", desc := "()Z" } : Jvm.MethodName) prog_38_method_4_code (1 : Nat) (Option.some Jvm.ClassFile.FieldType.boolean)]
set_option maxRecDepth 65536 in
theorem codes_eq : words1.filter isCode = codes1 := rfl
theorem w_codes : ∀ c ∈ words1.filter isCode, c.before args0 about1 = true := by
  rw [codes_eq]
  intro c hc
  simp only [codes1, List.mem_cons, List.not_mem_nil, or_false] at hc
  rcases hc with rfl | rfl
  · exact w_c0
  · exact w_c1
set_option maxRecDepth 65536 in
theorem w_t1 : (words1.take 24).all (fun c => isCode c || c.before args0 about1) = true := by decide +kernel
set_option maxRecDepth 65536 in
theorem w_t2 : (words1.drop 24).all (fun c => isCode c || c.before args0 about1) = true := by decide +kernel
theorem w_tables : (allAtoms (Jvm.Cond.code x code maxLocals ret :: tables_1)).before args0 about1 = true := by
  rw [allAtoms_all]
  show words1.all (fun c => c.before args0 about1) = true
  refine all_split ?_ w_codes
  rw [← List.take_append_drop 24 words1, List.all_append, w_t1, w_t2]
  rfl
set_option maxRecDepth 65536 in
theorem w_case : (Jvm.Cond.and given_1 narrow_1).before args0 about1 = true := by decide +kernel
theorem w_applies : (headSpec (Jvm.Cond.code x code maxLocals ret :: tables_1) room_1).applies x e0.platform about1 = true :=
  (Spec.applies_iff w_frames).mpr ⟨w_running, w_runnable, w_alone, w_named, w_hears, w_ripe, w_room, w_tables⟩
theorem atStart : AtStart classFile x code maxLocals ret World_1 tables_1 room_1 Calls_1 rest_1 Pre_1 launch0 p0 e0 about1 theMethod args0 below0 :=
  ⟨lists_1, trivial, launch0.admits_env _ _ _, launch0.least_env, fairChoices_fair.cas, fairChoices_fair.clock, w_frames, w_args, w_heap, w_applies, trivial, trivial, w_case⟩
end start1
theorem witness_1 : WitnessClaimed_1 := ⟨start1.p0, start1.e0, start1.about1, start1.theMethod, start1.args0, start1.below0, start1.atStart⟩
end Jvm.Pilot.@@N@@
