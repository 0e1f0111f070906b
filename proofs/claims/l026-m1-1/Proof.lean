import JvmDerived
import JvmDerived.Pilot.@@N@@Statement
import JvmDerived.Pilot.@@N@@Code
set_option linter.unusedVariables false
set_option linter.unusedSimpArgs false
namespace Jvm.Pilot.@@N@@
open Jvm Jvm.ClassFile Sem Op Lib Jvm.Free Jvm.Stand Jvm.LawKit Jvm.RoadKit Bundle Jvm.Pilot.@@N@@.Jvm.D
/-! own_Ends: from the state T the run ends well -/
def own_Ends (p : Program) (e : Env) (below : List Frame) (P : State → Outcome → Prop) (T : State) : Prop := ∃ U o, Steps p.tables e below T U ∧ U.status = .running ∧ Ended U below o ∧ P U o
def own_Got (s : State) (Q : Option Value → Heap → List Loc → Prop) (C N : Nat) (U : State) (o : Outcome) : Prop := ∃ v L, o = .returned v ∧ Q v U.heap L ∧ FrameEnd s o U L C N
section Own
variable {p : Program} {l : Launch} {e : Env} {R : Room} {s : State} {m : MethodId} {args : Array Value} {below : List Frame} {meth : Method} {c : Code} {T T' : State} {locs : List Loc} {cells slots : Nat} {P : State → Outcome → Prop}
theorem own_go (h : ∀ target, Steps p.tables e below T' target → Steps p.tables e below T target) (k : own_Ends p e below P T') : own_Ends p e below P T := by
  obtain ⟨U, o, h1, h2⟩ := k; exact ⟨U, o, h _ h1, h2⟩
theorem own_tr (h : Steps p.tables e below T T') (k : own_Ends p e below P T') : own_Ends p e below P T := by
  obtain ⟨U, o, h1, h2⟩ := k; exact ⟨U, o, h.trans h1, h2⟩
variable {Q : Option Value → Heap → List Loc → Prop} {C N : Nat}
theorem own_ret (X : Stand p l e R s m args below meth c T locs cells slots) (hx : p.tables.exec = Jvm.exec) (lk : meth.locks = false) {pc : Nat} {Ls : Array Slot} {w : Value} {t : FieldType} {i : Instr} {rest : List Value} (hret : meth.sig.returnType = some t) (hn : narrow t w = w)
    (hi : (i = .ireturn ∧ (t = .int ∨ t = .boolean ∨ t = .byte ∨ t = .char ∨ t = .short) ∧ ∃ z, w = .int z) ∨ (i = .lreturn ∧ t = .long ∧ ∃ z, w = .long z) ∨ (i = .dreturn ∧ t = .double ∧ ∃ z, w = .double z) ∨ (i = .freturn ∧ t = .float ∧ ∃ z, w = .float z) ∨ (i = .areturn ∧ t.isReference = true ∧ w.isRef = true))
    (hd : decode c.code pc = .ok (i, 1)) (hC : cells ≤ C) (hN : slots ≤ N) (hq : Q (some w) T.heap locs) : own_Ends p e below (own_Got s Q C N) (T.setTop (mkF m pc Ls (w :: rest))) := by
  obtain ⟨fs, hr, hrun, hended, hW, hsame⟩ := X.leave (v := some w) (fun h => by rw [hret] at h; cases h) lk
  exact ⟨_, _, retOut X hx hret hn hi hd hr, hrun, hended, _, _, rfl, hq, ⟨_, rfl⟩, hW, hsame.mono hC hN⟩
theorem own_retI (X : Stand p l e R s m args below meth c T locs cells slots) (hx : p.tables.exec = Jvm.exec) (lk : meth.locks = false) {pc : Nat} {Ls : Array Slot} {z : Int32} {rest : List Value} (hret : meth.sig.returnType = some .int)
    (hd : decode c.code pc = .ok (.ireturn, 1)) (hC : cells ≤ C) (hN : slots ≤ N) (hq : Q (some (.int z)) T.heap locs) : own_Ends p e below (own_Got s Q C N) (T.setTop (mkF m pc Ls (.int z :: rest))) :=
  own_ret X hx lk hret rfl (Or.inl ⟨rfl, Or.inl rfl, _, rfl⟩) hd hC hN hq
theorem own_retZ (X : Stand p l e R s m args below meth c T locs cells slots) (hx : p.tables.exec = Jvm.exec) (lk : meth.locks = false) {pc : Nat} {Ls : Array Slot} {z : Int32} {rest : List Value} (hret : meth.sig.returnType = some .boolean) (hn : narrow .boolean (.int z) = .int z)
    (hd : decode c.code pc = .ok (.ireturn, 1)) (hC : cells ≤ C) (hN : slots ≤ N) (hq : Q (some (.int z)) T.heap locs) : own_Ends p e below (own_Got s Q C N) (T.setTop (mkF m pc Ls (.int z :: rest))) :=
  own_ret X hx lk hret hn (Or.inl ⟨rfl, Or.inr (Or.inl rfl), _, rfl⟩) hd hC hN hq
theorem own_retJ (X : Stand p l e R s m args below meth c T locs cells slots) (hx : p.tables.exec = Jvm.exec) (lk : meth.locks = false) {pc : Nat} {Ls : Array Slot} {z : Int64} {rest : List Value} (hret : meth.sig.returnType = some .long)
    (hd : decode c.code pc = .ok (.lreturn, 1)) (hC : cells ≤ C) (hN : slots ≤ N) (hq : Q (some (.long z)) T.heap locs) : own_Ends p e below (own_Got s Q C N) (T.setTop (mkF m pc Ls (.long z :: rest))) :=
  own_ret X hx lk hret rfl (Or.inr (Or.inl ⟨rfl, rfl, _, rfl⟩)) hd hC hN hq
theorem own_retR (X : Stand p l e R s m args below meth c T locs cells slots) (hx : p.tables.exec = Jvm.exec) (lk : meth.locks = false) {pc : Nat} {Ls : Array Slot} {w : Value} {t : FieldType} {rest : List Value} (hret : meth.sig.returnType = some t) (ht : t.isReference = true) (hw : w.isRef = true)
    (hd : decode c.code pc = .ok (.areturn, 1)) (hC : cells ≤ C) (hN : slots ≤ N) (hq : Q (some w) T.heap locs) : own_Ends p e below (own_Got s Q C N) (T.setTop (mkF m pc Ls (w :: rest))) :=
  own_ret X hx lk hret (by rcases ref_cases hw with rfl | ⟨a, rfl⟩ <;> cases t <;> first | rfl | exact absurd ht (by decide)) (Or.inr (Or.inr (Or.inr (Or.inr ⟨rfl, ht, hw⟩)))) hd hC hN hq
theorem own_retV (X : Stand p l e R s m args below meth c T locs cells slots) (hx : p.tables.exec = Jvm.exec) (lk : meth.locks = false) {pc : Nat} {Ls : Array Slot} {st : List Value} (hret : meth.sig.returnType = none)
    (hd : decode c.code pc = .ok (.return_, 1)) (hC : cells ≤ C) (hN : slots ≤ N) (hq : Q none T.heap locs) : own_Ends p e below (own_Got s Q C N) (T.setTop (mkF m pc Ls [])) := by
  obtain ⟨fs, hr, hrun, hended, hW, hsame⟩ := X.leave (v := none) (fun _ => rfl) lk
  exact ⟨_, _, X.returnOut hx hret hd hr, hrun, hended, _, _, rfl, hq, ⟨_, rfl⟩, hW, hsame.mono hC hN⟩
theorem own_fldI {Z : State} {a : Addr} {av : Array Value} {t : Term} {k : Int32} {C n d : String} (ev : t.eval av Z none [] Z = some (.ref a)) (h : (Jvm.Cond.eq (.field t C n d) (.int k)).value av Z none Z [] = some true) : Fld Z Z.heap a C n d (.int k) := by
  obtain ⟨x, y, ex, ey, k1, k2⟩ := cmp_v (Or.inl h)
  cases (Term.int_eval (args := av) (first := Z) (o := none) (idx := []) (s := Z) k).symm.trans ey
  obtain ⟨z, rfl⟩ := k2
  obtain rfl : z = k := gotT (Cond.eq_ints ex (Term.int_eval k)) h
  exact Fld.start ((fld_at ev).symm.trans ex)
theorem own_fldJ {Z : State} {a : Addr} {av : Array Value} {t : Term} {k : Int64} {C n d : String} (ev : t.eval av Z none [] Z = some (.ref a)) (h : (Jvm.Cond.eq (.field t C n d) (.long k)).value av Z none Z [] = some true) : Fld Z Z.heap a C n d (.long k) := by
  obtain ⟨x, y, ex, ey, k1, k2⟩ := cmp_v (Or.inl h)
  cases (long_at (args := av) (first := Z) (o := none) (idx := []) (s := Z) k).symm.trans ey
  obtain ⟨z, rfl⟩ := k2
  obtain rfl : z = k := gotT (eq_L ex (long_at k)) h
  exact Fld.start ((fld_at ev).symm.trans ex)
theorem own_staJ {Z : State} {av : Array Value} {k : Int64} {t : Term} (h : (Jvm.Cond.eq t (.long k)).value av Z none Z [] = some true) : t.eval av Z none [] Z = some (.long k) := by
  obtain ⟨x, y, ex, ey, k1, k2⟩ := cmp_v (Or.inl h)
  cases (long_at (args := av) (first := Z) (o := none) (idx := []) (s := Z) k).symm.trans ey
  obtain ⟨z, rfl⟩ := k2
  obtain rfl : z = k := gotT (eq_L ex (long_at k)) h
  exact ex
theorem own_staI {Z : State} {av : Array Value} {k : Int32} {t : Term} (h : (Jvm.Cond.eq t (.int k)).value av Z none Z [] = some true) : t.eval av Z none [] Z = some (.int k) := by
  obtain ⟨x, y, ex, ey, k1, k2⟩ := cmp_v (Or.inl h)
  cases (Term.int_eval (args := av) (first := Z) (o := none) (idx := []) (s := Z) k).symm.trans ey
  obtain ⟨z, rfl⟩ := k2
  obtain rfl : z = k := gotT (Cond.eq_ints ex (Term.int_eval k)) h
  exact ex
end Own
theorem own_d1_0 : decode prog_46_method_7_code 0 = .ok (.aload_n 0, 1) := by decide +kernel
theorem own_d1_1 : decode prog_46_method_7_code 1 = .ok (.getstatic 10, 3) := by decide +kernel
theorem own_d1_4 : decode prog_46_method_7_code 4 = .ok (.if_acmp .eq 10, 3) := by decide +kernel
theorem own_d1_7 : decode prog_46_method_7_code 7 = .ok (.aload_n 0, 1) := by decide +kernel
theorem own_d1_8 : decode prog_46_method_7_code 8 = .ok (.getstatic 13, 3) := by decide +kernel
theorem own_d1_11 : decode prog_46_method_7_code 11 = .ok (.if_acmp .ne 7, 3) := by decide +kernel
theorem own_d1_14 : decode prog_46_method_7_code 14 = .ok (.iconst 1, 1) := by decide +kernel
theorem own_d1_15 : decode prog_46_method_7_code 15 = .ok (.goto 4, 3) := by decide +kernel
theorem own_d1_18 : decode prog_46_method_7_code 18 = .ok (.iconst 0, 1) := by decide +kernel
theorem own_d1_19 : decode prog_46_method_7_code 19 = .ok (.ireturn, 1) := by decide +kernel
theorem own_ef_own_givesKey (m : MethodId) (x0 : Addr) : entryFrame m #[(.ref x0)] 1 = mkF m 0 #[.val (.ref x0)] [] := by first | (simp [entryFrame, mkF, argsToLocals, Value.category]; done) | rfl
def Q_own_givesKey (Z : State) (a : Addr) (r : Int32) (a_KEY_SPECIFIED : Addr) (a_KEY_ONLY : Addr) (h0 : Heap) (n0 : Nat) (v : Option Value) (h : Heap) (L : List Loc) : Prop := v = some (.int r) ∧ Fr n0 L ∧ h = h0
theorem own_pn_com_example_cascade_save_cascadesave_ObjectShape : plainName "com/example/cascade_save/cascadesave/ObjectShape" = true := by first | (simp [plainName, overriddenIn]; done) | decide +kernel
set_option maxRecDepth 65536 in
set_option maxHeartbeats 40000000 in
theorem own_givesKey (l : Launch) (Z : State) (a0 : Array Value) (hw : ∀ d ∈ tables_1, d.before a0 Z = true) (ws : List Jvm.Cond) (a : Addr) (r : Int32) (a_KEY_SPECIFIED : Addr) (a_KEY_ONLY : Addr) (h0 : Heap) (n0 : Nat) (O0 : Old Z n0 h0) (S_KEY_SPECIFIED : Sta Z Z.heap "com/example/cascade_save/cascadesave/ObjectShape" "KEY_SPECIFIED" "Lcom/example/cascade_save/cascadesave/ObjectShape;" (.ref a_KEY_SPECIFIED)) (S_KEY_ONLY : Sta Z Z.heap "com/example/cascade_save/cascadesave/ObjectShape" "KEY_ONLY" "Lcom/example/cascade_save/cascadesave/ObjectShape;" (.ref a_KEY_ONLY)) (hr : r = if a = a_KEY_SPECIFIED then 1 else if a = a_KEY_ONLY then 1 else 0) :
    MetFree l (⟨"com/example/cascade_save/cascadesave/ObjectShape", "givesKey", "()Z"⟩ : MethodName) (head1 (Jvm.Cond.code (⟨"com/example/cascade_save/cascadesave/ObjectShape", "givesKey", "()Z"⟩ : MethodName) prog_46_method_7_code 1 (some .boolean) :: ws) ({ frames := 0, cells := 0, slots := 0, locals := 0 } : Room)) (fun args_ U => args_ = #[(.ref a)] ∧ Z.Warmed39 U.vm ∧ U.heap = h0) (fun _ _ _ _ _ => True) (fun _ U o U' => ∃ v L, o = .returned v ∧ Q_own_givesKey Z a r a_KEY_SPECIFIED a_KEY_ONLY h0 n0 v U'.heap L ∧ FrameEnd U o U' L ({ frames := 0, cells := 0, slots := 0, locals := 0 } : Room).cells ({ frames := 0, cells := 0, slots := 0, locals := 0 } : Room).slots) := by
  refine MetFree.of_bodySF (plainFor_of_name own_pn_com_example_cascade_save_cascadesave_ObjectShape) hisR ?_
  intro p e s m args below meth c s₁ Bd hml0 hP hK
  obtain ⟨rfl, hZ, hh⟩ := hP
  have hx := Bd.exec
  have hby := Bd.bytes
  have hml : c.maxLocals = 1 := hml0
  have hown : s.vm.findClass "com/example/cascade_save/cascadesave/ObjectShape" = some m.cls := findClass_of_methodNamed Bd.named
  have hnm := (name_of_methodNamed Bd.named Bd.method).1
  have X0 : Stand p l e ({ frames := 0, cells := 0, slots := 0, locals := 0 } : Room) s m #[(.ref a)] below meth c s₁ [] 0 0 := Stand.of_body Bd
  have e0 : s₁.heap = h0 := by rw [← hh, Bd.state]; rfl
  have N0 := Fr.nil n0
  show own_Ends p e below (own_Got s (Q_own_givesKey Z a r a_KEY_SPECIFIED a_KEY_ONLY h0 n0) ({ frames := 0, cells := 0, slots := 0, locals := 0 } : Room).cells ({ frames := 0, cells := 0, slots := 0, locals := 0 } : Room).slots) (s₁.setTop (entryFrame m #[(.ref a)] 1))
  rw [own_ef_own_givesKey m a]
  refine own_go (fun _ k => XS.aloadN X0.here hx rfl (hb hby own_d1_0) rfl rfl k) ?_
  show own_Ends _ _ _ _ (s₁.setTop (mkF m 1 #[.val (.ref a)] [(.ref a)]))
  obtain ⟨T1, X1, e1, st1⟩ := getS2 X0 hx hZ hown (host := "") (Or.inl (hw _ (List.mem_of_getElem? (i := 21) rfl))) Via.refl e0 (S_KEY_SPECIFIED.ext O0.2) (g := (mkF m 1 #[.val (.ref a)] [(.ref a)])) rfl (hb hby own_d1_1)
  refine own_go st1 ?_
  show own_Ends _ _ _ _ (T1.setTop (mkF m 4 #[.val (.ref a)] [(.ref a_KEY_SPECIFIED), (.ref a)]))
  by_cases ha4_1 : a = a_KEY_SPECIFIED
  · refine own_go (fun _ k => Jvm.RoadKit.acmp (g := (mkF m 4 #[.val (.ref a)] [(.ref a_KEY_SPECIFIED), (.ref a)])) X1 hx rfl rfl rfl (pc0 := 4) (pc' := 14) (same := true) rfl (hb hby own_d1_4) rfl (decide_eq_true (congrArg Value.ref ha4_1)) (by decide) (by decide) k) ?_
    show own_Ends _ _ _ _ (T1.setTop (mkF m 14 #[.val (.ref a)] []))
    refine own_go (fun _ k => XS.iconst X1.here hx rfl (hb hby own_d1_14) k) ?_
    show own_Ends _ _ _ _ (T1.setTop (mkF m 15 #[.val (.ref a)] [(.int (1 : Int32))]))
    refine own_go (fun _ k => XS.goto X1.here hx rfl (pc0 := 15) (pc' := 19) rfl (hb hby own_d1_15) (by decide) (by decide) k) ?_
    show own_Ends _ _ _ _ (T1.setTop (mkF m 19 #[.val (.ref a)] [(.int (1 : Int32))]))
    exact own_retZ X1 hx (BodyLoose.notSynchronized Bd) Bd.returns rfl (hb hby own_d1_19) (by decide) (by decide) (by rw [e1]; exact ⟨by rw [hr, if_pos ha4_1], N0, rfl⟩)
  · refine own_go (fun _ k => Jvm.RoadKit.acmp (g := (mkF m 4 #[.val (.ref a)] [(.ref a_KEY_SPECIFIED), (.ref a)])) X1 hx rfl rfl rfl (pc0 := 4) (pc' := 7) (same := false) rfl (hb hby own_d1_4) rfl (decide_eq_false fun q => ha4_1 (Value.ref.inj q)) (by decide) (by decide) k) ?_
    show own_Ends _ _ _ _ (T1.setTop (mkF m 7 #[.val (.ref a)] []))
    refine own_go (fun _ k => XS.aloadN X1.here hx rfl (hb hby own_d1_7) rfl rfl k) ?_
    show own_Ends _ _ _ _ (T1.setTop (mkF m 8 #[.val (.ref a)] [(.ref a)]))
    obtain ⟨T3, X3, e3, st3⟩ := getS2 X1 hx hZ hown (host := "") (Or.inl (hw _ (List.mem_of_getElem? (i := 22) rfl))) Via.refl e1 (S_KEY_ONLY.ext O0.2) (g := (mkF m 8 #[.val (.ref a)] [(.ref a)])) rfl (hb hby own_d1_8)
    refine own_go st3 ?_
    show own_Ends _ _ _ _ (T3.setTop (mkF m 11 #[.val (.ref a)] [(.ref a_KEY_ONLY), (.ref a)]))
    by_cases ha11_3 : a = a_KEY_ONLY
    · refine own_go (fun _ k => Jvm.RoadKit.acmp (g := (mkF m 11 #[.val (.ref a)] [(.ref a_KEY_ONLY), (.ref a)])) X3 hx rfl rfl rfl (pc0 := 11) (pc' := 14) (same := true) rfl (hb hby own_d1_11) rfl (decide_eq_true (congrArg Value.ref ha11_3)) (by decide) (by decide) k) ?_
      show own_Ends _ _ _ _ (T3.setTop (mkF m 14 #[.val (.ref a)] []))
      refine own_go (fun _ k => XS.iconst X3.here hx rfl (hb hby own_d1_14) k) ?_
      show own_Ends _ _ _ _ (T3.setTop (mkF m 15 #[.val (.ref a)] [(.int (1 : Int32))]))
      refine own_go (fun _ k => XS.goto X3.here hx rfl (pc0 := 15) (pc' := 19) rfl (hb hby own_d1_15) (by decide) (by decide) k) ?_
      show own_Ends _ _ _ _ (T3.setTop (mkF m 19 #[.val (.ref a)] [(.int (1 : Int32))]))
      exact own_retZ X3 hx (BodyLoose.notSynchronized Bd) Bd.returns rfl (hb hby own_d1_19) (by decide) (by decide) (by rw [e3]; exact ⟨by rw [hr, if_neg ha4_1, if_pos ha11_3], N0, rfl⟩)
    · refine own_go (fun _ k => Jvm.RoadKit.acmp (g := (mkF m 11 #[.val (.ref a)] [(.ref a_KEY_ONLY), (.ref a)])) X3 hx rfl rfl rfl (pc0 := 11) (pc' := 18) (same := false) rfl (hb hby own_d1_11) rfl (decide_eq_false fun q => ha11_3 (Value.ref.inj q)) (by decide) (by decide) k) ?_
      show own_Ends _ _ _ _ (T3.setTop (mkF m 18 #[.val (.ref a)] []))
      refine own_go (fun _ k => XS.iconst X3.here hx rfl (hb hby own_d1_18) k) ?_
      show own_Ends _ _ _ _ (T3.setTop (mkF m 19 #[.val (.ref a)] [(.int (0 : Int32))]))
      exact own_retZ X3 hx (BodyLoose.notSynchronized Bd) Bd.returns rfl (hb hby own_d1_19) (by decide) (by decide) (by rw [e3]; exact ⟨by rw [hr, if_neg ha4_1, if_neg ha11_3], N0, rfl⟩)
theorem own_cases (p : Int32) : ((p &&& (2147483647 : Int32)) % (5 : Int32)) = (0 : Int32) ∨ ((p &&& (2147483647 : Int32)) % (5 : Int32)) = (1 : Int32) ∨ ((p &&& (2147483647 : Int32)) % (5 : Int32)) = (2 : Int32) ∨ ((p &&& (2147483647 : Int32)) % (5 : Int32)) = (3 : Int32) ∨ ((p &&& (2147483647 : Int32)) % (5 : Int32)) = (4 : Int32) := by
  have h1 := c_mask p 2147483647 31 (by decide) (by decide)
  have h2 := (c_irem (p &&& (2147483647 : Int32)) (5 : Int32) 5 rfl).1
  generalize ((p &&& (2147483647 : Int32)) % (5 : Int32)) = y at *
  have k : y.toInt = 0 ∨ y.toInt = 1 ∨ y.toInt = 2 ∨ y.toInt = 3 ∨ y.toInt = 4 := by omega
  rcases k with k | k | k | k | k
  · exact Or.inl (Int32.toInt_inj.mp k)
  · exact Or.inr (Or.inl (Int32.toInt_inj.mp k))
  · exact Or.inr (Or.inr (Or.inl (Int32.toInt_inj.mp k)))
  · exact Or.inr (Or.inr (Or.inr (Or.inl (Int32.toInt_inj.mp k))))
  · exact Or.inr (Or.inr (Or.inr (Or.inr (Int32.toInt_inj.mp k))))
theorem own_pd0 : parseMethodDescriptor "()Z" = some ⟨[], some .boolean⟩ := by decide +kernel
theorem own_ef_own_law (m : MethodId) (x0 : Int32) : entryFrame m #[(.int x0)] maxLocals = mkF m 0 #[.val (.int x0), .unset, .unset, .unset] [] := by first | (simp [entryFrame, mkF, argsToLocals, Value.category, maxLocals]; done) | rfl
def Q_own_law (Z : State) (p0 : Int32) (a_ID_SPECIFIED : Addr) (a_ID_ONLY : Addr) (a_KEY_SPECIFIED : Addr) (a_KEY_ONLY : Addr) (a_WILD : Addr) (h0 : Heap) (n0 : Nat) (v : Option Value) (h : Heap) (L : List Loc) : Prop := v = some (.int 1) ∧ Fr n0 L
theorem own_pn_com_example_cascade_save_cascadesave_ObjectShapeGivesKeyPinLaw : plainName "com/example/cascade_save/cascadesave/ObjectShapeGivesKeyPinLaw" = true := by first | (simp [plainName, overriddenIn]; done) | decide +kernel
set_option maxRecDepth 65536 in
set_option maxHeartbeats 40000000 in
theorem own_law (l : Launch) (Z : State) (a0 : Array Value) (hw : ∀ d ∈ tables_1, d.before a0 Z = true) (ws : List Jvm.Cond) (p0 : Int32) (a_ID_SPECIFIED : Addr) (a_ID_ONLY : Addr) (a_KEY_SPECIFIED : Addr) (a_KEY_ONLY : Addr) (a_WILD : Addr) (h0 : Heap) (n0 : Nat) (O0 : Old Z n0 h0) (S_ID_SPECIFIED : Sta Z Z.heap "com/example/cascade_save/cascadesave/ObjectShape" "ID_SPECIFIED" "Lcom/example/cascade_save/cascadesave/ObjectShape;" (.ref a_ID_SPECIFIED)) (E_ID_SPECIFIED : Exa Z Z.heap a_ID_SPECIFIED "com/example/cascade_save/cascadesave/ObjectShape") (F_ID_SPECIFIED_ordinal : Fld Z Z.heap a_ID_SPECIFIED "java/lang/Enum" "ordinal" "I" (.int (0 : Int32))) (S_ID_ONLY : Sta Z Z.heap "com/example/cascade_save/cascadesave/ObjectShape" "ID_ONLY" "Lcom/example/cascade_save/cascadesave/ObjectShape;" (.ref a_ID_ONLY)) (E_ID_ONLY : Exa Z Z.heap a_ID_ONLY "com/example/cascade_save/cascadesave/ObjectShape") (F_ID_ONLY_ordinal : Fld Z Z.heap a_ID_ONLY "java/lang/Enum" "ordinal" "I" (.int (1 : Int32))) (S_KEY_SPECIFIED : Sta Z Z.heap "com/example/cascade_save/cascadesave/ObjectShape" "KEY_SPECIFIED" "Lcom/example/cascade_save/cascadesave/ObjectShape;" (.ref a_KEY_SPECIFIED)) (E_KEY_SPECIFIED : Exa Z Z.heap a_KEY_SPECIFIED "com/example/cascade_save/cascadesave/ObjectShape") (F_KEY_SPECIFIED_ordinal : Fld Z Z.heap a_KEY_SPECIFIED "java/lang/Enum" "ordinal" "I" (.int (2 : Int32))) (S_KEY_ONLY : Sta Z Z.heap "com/example/cascade_save/cascadesave/ObjectShape" "KEY_ONLY" "Lcom/example/cascade_save/cascadesave/ObjectShape;" (.ref a_KEY_ONLY)) (E_KEY_ONLY : Exa Z Z.heap a_KEY_ONLY "com/example/cascade_save/cascadesave/ObjectShape") (F_KEY_ONLY_ordinal : Fld Z Z.heap a_KEY_ONLY "java/lang/Enum" "ordinal" "I" (.int (3 : Int32))) (S_WILD : Sta Z Z.heap "com/example/cascade_save/cascadesave/ObjectShape" "WILD" "Lcom/example/cascade_save/cascadesave/ObjectShape;" (.ref a_WILD)) (E_WILD : Exa Z Z.heap a_WILD "com/example/cascade_save/cascadesave/ObjectShape") (F_WILD_ordinal : Fld Z Z.heap a_WILD "java/lang/Enum" "ordinal" "I" (.int (4 : Int32))) :
    MetFree l x (head1 (Jvm.Cond.code x code maxLocals ret :: ws) room_1) (fun args_ U => args_ = #[(.int p0)] ∧ Z.Warmed39 U.vm ∧ U.heap = h0) (fun _ _ _ _ _ => True) (fun _ U o U' => ∃ v L, o = .returned v ∧ Q_own_law Z p0 a_ID_SPECIFIED a_ID_ONLY a_KEY_SPECIFIED a_KEY_ONLY a_WILD h0 n0 v U'.heap L ∧ FrameEnd U o U' L 16 128) := by
  refine MetFree.of_bodySF (plainFor_of_name own_pn_com_example_cascade_save_cascadesave_ObjectShapeGivesKeyPinLaw) hisR ?_
  intro p e s m args below meth c s₁ Bd hml0 hP hK
  obtain ⟨rfl, hZ, hh⟩ := hP
  have hx := Bd.exec
  have hby := Bd.bytes
  have hml : c.maxLocals = 4 := hml0
  have hown : s.vm.findClass "com/example/cascade_save/cascadesave/ObjectShapeGivesKeyPinLaw" = some m.cls := findClass_of_methodNamed Bd.named
  have hnm := (name_of_methodNamed Bd.named Bd.method).1
  have X0 : Stand p l e room_1 s m #[(.int p0)] below meth c s₁ [] 0 0 := Stand.of_body Bd
  have e0 : s₁.heap = h0 := by rw [← hh, Bd.state]; rfl
  have N0 := Fr.nil n0
  show own_Ends p e below (own_Got s (Q_own_law Z p0 a_ID_SPECIFIED a_ID_ONLY a_KEY_SPECIFIED a_KEY_ONLY a_WILD h0 n0) 16 128) (s₁.setTop (entryFrame m #[(.int p0)] maxLocals))
  rw [own_ef_own_law m p0]
  refine own_go (fun _ k => XS.iconst X0.here hx rfl (hb hby at_0) k) ?_
  show own_Ends _ _ _ _ (s₁.setTop (mkF m 1 #[.val (.int p0), .unset, .unset, .unset] [(.int (5 : Int32))]))
  obtain ⟨T1, h1, ka1, X1, e1, E1, A1, Ov1, st1⟩ := newR X0 hx hZ hown (hw _ (List.mem_of_getElem? (i := 0) rfl)) (hw _ (List.mem_of_getElem? (i := 1) rfl)) e0 (g := (mkF m 1 #[.val (.int p0), .unset, .unset, .unset] [(.int (5 : Int32))])) rfl (hb hby at_1) rfl (by decide) (cap := 5) (by decide) (by decide) (by decide) (by decide)
  obtain ⟨b1, g1⟩ : ∃ z, z = h0.size := ⟨_, rfl⟩
  rw [← g1] at A1 st1
  have O1 := O0.ext E1
  have g_b1 : n0 ≤ b1 := by rw [g1, ← O0.1]; exact O0.2.1
  have V_b1 : Arv Z h1 b1 ka1 (.object "com/example/cascade_save/cascadesave/ObjectShape") (5 : Int32) [.null, .null, .null, .null, .null] .null := (Arv.new A1 (by decide)).pad (pad_rep [] .null 5)
  refine own_go st1 ?_
  show own_Ends _ _ _ _ (T1.setTop (mkF m 4 #[.val (.int p0), .unset, .unset, .unset] [(.ref b1)]))
  refine own_go (fun _ k => XS.dup X1.here hx rfl (hb hby at_4) rfl rfl k) ?_
  show own_Ends _ _ _ _ (T1.setTop (mkF m 5 #[.val (.int p0), .unset, .unset, .unset] [(.ref b1), (.ref b1)]))
  refine own_go (fun _ k => XS.iconst X1.here hx rfl (hb hby at_5) k) ?_
  show own_Ends _ _ _ _ (T1.setTop (mkF m 6 #[.val (.int p0), .unset, .unset, .unset] [(.int (0 : Int32)), (.ref b1), (.ref b1)]))
  obtain ⟨T2, X2, e2, st2⟩ := getS2 X1 hx hZ hown (host := "") (Or.inl (hw _ (List.mem_of_getElem? (i := 2) rfl))) Via.refl e1 (S_ID_SPECIFIED.ext O1.2) (g := (mkF m 6 #[.val (.int p0), .unset, .unset, .unset] [(.int (0 : Int32)), (.ref b1), (.ref b1)])) rfl (hb hby at_6)
  refine own_go st2 ?_
  show own_Ends _ _ _ _ (T2.setTop (mkF m 9 #[.val (.int p0), .unset, .unset, .unset] [(.ref a_ID_SPECIFIED), (.int (0 : Int32)), (.ref b1), (.ref b1)]))
  obtain ⟨cl3, Ar3, aq3, aS3, aN3, aH3, aG3⟩ := id V_b1
  have hin3 : ¬ ((0 : Int32) < 0 ∨ cl3.slots.size ≤ ((0 : Int32)).toNatClampNeg) := inb_of aS3 ⟨by decide, by decide⟩
  obtain ⟨T4, h4, X4, e4, W4, st4⟩ := stR X2 hx hZ e2 Ar3 (j := (0 : Int32)) hin3 rfl (Sto.ofV Ar3 aq3 Ov1 (Ins.self (E_ID_SPECIFIED.ext O1.2))) (g := (mkF m 9 #[.val (.int p0), .unset, .unset, .unset] [(.ref a_ID_SPECIFIED), (.int (0 : Int32)), (.ref b1), (.ref b1)])) rfl rfl (hb hby at_9)
  have V4 : Arv Z h4 b1 ka1 (.object "com/example/cascade_save/cascadesave/ObjectShape") (5 : Int32) [(.ref a_ID_SPECIFIED), .null, .null, .null, .null] .null := Arv.set Ar3 aq3 aS3 aN3 aH3 aG3 rfl W4 0 rfl (Nat.le_of_ble_eq_true rfl)
  have O4 := O1.wr W4 g_b1
  have N4 := Fr.snoc X4 N0 g_b1
  refine own_go st4 ?_
  show own_Ends _ _ _ _ (T4.setTop (mkF m 10 #[.val (.int p0), .unset, .unset, .unset] [(.ref b1)]))
  refine own_go (fun _ k => XS.dup X4.here hx rfl (hb hby at_10) rfl rfl k) ?_
  show own_Ends _ _ _ _ (T4.setTop (mkF m 11 #[.val (.int p0), .unset, .unset, .unset] [(.ref b1), (.ref b1)]))
  refine own_go (fun _ k => XS.iconst X4.here hx rfl (hb hby at_11) k) ?_
  show own_Ends _ _ _ _ (T4.setTop (mkF m 12 #[.val (.int p0), .unset, .unset, .unset] [(.int (1 : Int32)), (.ref b1), (.ref b1)]))
  obtain ⟨T5, X5, e5, st5⟩ := getS2 X4 hx hZ hown (host := "") (Or.inl (hw _ (List.mem_of_getElem? (i := 6) rfl))) Via.refl e4 (S_ID_ONLY.ext O4.2) (g := (mkF m 12 #[.val (.int p0), .unset, .unset, .unset] [(.int (1 : Int32)), (.ref b1), (.ref b1)])) rfl (hb hby at_12)
  refine own_go st5 ?_
  show own_Ends _ _ _ _ (T5.setTop (mkF m 15 #[.val (.int p0), .unset, .unset, .unset] [(.ref a_ID_ONLY), (.int (1 : Int32)), (.ref b1), (.ref b1)]))
  obtain ⟨cl6, Ar6, aq6, aS6, aN6, aH6, aG6⟩ := id V4
  have hin6 : ¬ ((1 : Int32) < 0 ∨ cl6.slots.size ≤ ((1 : Int32)).toNatClampNeg) := inb_of aS6 ⟨by decide, by decide⟩
  obtain ⟨T7, h7, X7, e7, W7, st7⟩ := stR X5 hx hZ e5 Ar6 (j := (1 : Int32)) hin6 rfl (Sto.ofV Ar6 aq6 Ov1 (Ins.self (E_ID_ONLY.ext O4.2))) (g := (mkF m 15 #[.val (.int p0), .unset, .unset, .unset] [(.ref a_ID_ONLY), (.int (1 : Int32)), (.ref b1), (.ref b1)])) rfl rfl (hb hby at_15)
  have V7 : Arv Z h7 b1 ka1 (.object "com/example/cascade_save/cascadesave/ObjectShape") (5 : Int32) [(.ref a_ID_SPECIFIED), (.ref a_ID_ONLY), .null, .null, .null] .null := Arv.set Ar6 aq6 aS6 aN6 aH6 aG6 rfl W7 1 rfl (Nat.le_of_ble_eq_true rfl)
  have O7 := O4.wr W7 g_b1
  have N7 := Fr.snoc X7 N4 g_b1
  refine own_go st7 ?_
  show own_Ends _ _ _ _ (T7.setTop (mkF m 16 #[.val (.int p0), .unset, .unset, .unset] [(.ref b1)]))
  refine own_go (fun _ k => XS.dup X7.here hx rfl (hb hby at_16) rfl rfl k) ?_
  show own_Ends _ _ _ _ (T7.setTop (mkF m 17 #[.val (.int p0), .unset, .unset, .unset] [(.ref b1), (.ref b1)]))
  refine own_go (fun _ k => XS.iconst X7.here hx rfl (hb hby at_17) k) ?_
  show own_Ends _ _ _ _ (T7.setTop (mkF m 18 #[.val (.int p0), .unset, .unset, .unset] [(.int (2 : Int32)), (.ref b1), (.ref b1)]))
  obtain ⟨T8, X8, e8, st8⟩ := getS2 X7 hx hZ hown (host := "") (Or.inl (hw _ (List.mem_of_getElem? (i := 8) rfl))) Via.refl e7 (S_KEY_SPECIFIED.ext O7.2) (g := (mkF m 18 #[.val (.int p0), .unset, .unset, .unset] [(.int (2 : Int32)), (.ref b1), (.ref b1)])) rfl (hb hby at_18)
  refine own_go st8 ?_
  show own_Ends _ _ _ _ (T8.setTop (mkF m 21 #[.val (.int p0), .unset, .unset, .unset] [(.ref a_KEY_SPECIFIED), (.int (2 : Int32)), (.ref b1), (.ref b1)]))
  obtain ⟨cl9, Ar9, aq9, aS9, aN9, aH9, aG9⟩ := id V7
  have hin9 : ¬ ((2 : Int32) < 0 ∨ cl9.slots.size ≤ ((2 : Int32)).toNatClampNeg) := inb_of aS9 ⟨by decide, by decide⟩
  obtain ⟨T10, h10, X10, e10, W10, st10⟩ := stR X8 hx hZ e8 Ar9 (j := (2 : Int32)) hin9 rfl (Sto.ofV Ar9 aq9 Ov1 (Ins.self (E_KEY_SPECIFIED.ext O7.2))) (g := (mkF m 21 #[.val (.int p0), .unset, .unset, .unset] [(.ref a_KEY_SPECIFIED), (.int (2 : Int32)), (.ref b1), (.ref b1)])) rfl rfl (hb hby at_21)
  have V10 : Arv Z h10 b1 ka1 (.object "com/example/cascade_save/cascadesave/ObjectShape") (5 : Int32) [(.ref a_ID_SPECIFIED), (.ref a_ID_ONLY), (.ref a_KEY_SPECIFIED), .null, .null] .null := Arv.set Ar9 aq9 aS9 aN9 aH9 aG9 rfl W10 2 rfl (Nat.le_of_ble_eq_true rfl)
  have O10 := O7.wr W10 g_b1
  have N10 := Fr.snoc X10 N7 g_b1
  refine own_go st10 ?_
  show own_Ends _ _ _ _ (T10.setTop (mkF m 22 #[.val (.int p0), .unset, .unset, .unset] [(.ref b1)]))
  refine own_go (fun _ k => XS.dup X10.here hx rfl (hb hby at_22) rfl rfl k) ?_
  show own_Ends _ _ _ _ (T10.setTop (mkF m 23 #[.val (.int p0), .unset, .unset, .unset] [(.ref b1), (.ref b1)]))
  refine own_go (fun _ k => XS.iconst X10.here hx rfl (hb hby at_23) k) ?_
  show own_Ends _ _ _ _ (T10.setTop (mkF m 24 #[.val (.int p0), .unset, .unset, .unset] [(.int (3 : Int32)), (.ref b1), (.ref b1)]))
  obtain ⟨T11, X11, e11, st11⟩ := getS2 X10 hx hZ hown (host := "") (Or.inl (hw _ (List.mem_of_getElem? (i := 10) rfl))) Via.refl e10 (S_KEY_ONLY.ext O10.2) (g := (mkF m 24 #[.val (.int p0), .unset, .unset, .unset] [(.int (3 : Int32)), (.ref b1), (.ref b1)])) rfl (hb hby at_24)
  refine own_go st11 ?_
  show own_Ends _ _ _ _ (T11.setTop (mkF m 27 #[.val (.int p0), .unset, .unset, .unset] [(.ref a_KEY_ONLY), (.int (3 : Int32)), (.ref b1), (.ref b1)]))
  obtain ⟨cl12, Ar12, aq12, aS12, aN12, aH12, aG12⟩ := id V10
  have hin12 : ¬ ((3 : Int32) < 0 ∨ cl12.slots.size ≤ ((3 : Int32)).toNatClampNeg) := inb_of aS12 ⟨by decide, by decide⟩
  obtain ⟨T13, h13, X13, e13, W13, st13⟩ := stR X11 hx hZ e11 Ar12 (j := (3 : Int32)) hin12 rfl (Sto.ofV Ar12 aq12 Ov1 (Ins.self (E_KEY_ONLY.ext O10.2))) (g := (mkF m 27 #[.val (.int p0), .unset, .unset, .unset] [(.ref a_KEY_ONLY), (.int (3 : Int32)), (.ref b1), (.ref b1)])) rfl rfl (hb hby at_27)
  have V13 : Arv Z h13 b1 ka1 (.object "com/example/cascade_save/cascadesave/ObjectShape") (5 : Int32) [(.ref a_ID_SPECIFIED), (.ref a_ID_ONLY), (.ref a_KEY_SPECIFIED), (.ref a_KEY_ONLY), .null] .null := Arv.set Ar12 aq12 aS12 aN12 aH12 aG12 rfl W13 3 rfl (Nat.le_of_ble_eq_true rfl)
  have O13 := O10.wr W13 g_b1
  have N13 := Fr.snoc X13 N10 g_b1
  refine own_go st13 ?_
  show own_Ends _ _ _ _ (T13.setTop (mkF m 28 #[.val (.int p0), .unset, .unset, .unset] [(.ref b1)]))
  refine own_go (fun _ k => XS.dup X13.here hx rfl (hb hby at_28) rfl rfl k) ?_
  show own_Ends _ _ _ _ (T13.setTop (mkF m 29 #[.val (.int p0), .unset, .unset, .unset] [(.ref b1), (.ref b1)]))
  refine own_go (fun _ k => XS.iconst X13.here hx rfl (hb hby at_29) k) ?_
  show own_Ends _ _ _ _ (T13.setTop (mkF m 30 #[.val (.int p0), .unset, .unset, .unset] [(.int (4 : Int32)), (.ref b1), (.ref b1)]))
  obtain ⟨T14, X14, e14, st14⟩ := getS2 X13 hx hZ hown (host := "") (Or.inl (hw _ (List.mem_of_getElem? (i := 12) rfl))) Via.refl e13 (S_WILD.ext O13.2) (g := (mkF m 30 #[.val (.int p0), .unset, .unset, .unset] [(.int (4 : Int32)), (.ref b1), (.ref b1)])) rfl (hb hby at_30)
  refine own_go st14 ?_
  show own_Ends _ _ _ _ (T14.setTop (mkF m 33 #[.val (.int p0), .unset, .unset, .unset] [(.ref a_WILD), (.int (4 : Int32)), (.ref b1), (.ref b1)]))
  obtain ⟨cl15, Ar15, aq15, aS15, aN15, aH15, aG15⟩ := id V13
  have hin15 : ¬ ((4 : Int32) < 0 ∨ cl15.slots.size ≤ ((4 : Int32)).toNatClampNeg) := inb_of aS15 ⟨by decide, by decide⟩
  obtain ⟨T16, h16, X16, e16, W16, st16⟩ := stR X14 hx hZ e14 Ar15 (j := (4 : Int32)) hin15 rfl (Sto.ofV Ar15 aq15 Ov1 (Ins.self (E_WILD.ext O13.2))) (g := (mkF m 33 #[.val (.int p0), .unset, .unset, .unset] [(.ref a_WILD), (.int (4 : Int32)), (.ref b1), (.ref b1)])) rfl rfl (hb hby at_33)
  have V16 : Arv Z h16 b1 ka1 (.object "com/example/cascade_save/cascadesave/ObjectShape") (5 : Int32) [(.ref a_ID_SPECIFIED), (.ref a_ID_ONLY), (.ref a_KEY_SPECIFIED), (.ref a_KEY_ONLY), (.ref a_WILD)] .null := Arv.set Ar15 aq15 aS15 aN15 aH15 aG15 rfl W16 4 rfl (Nat.le_of_ble_eq_true rfl)
  have O16 := O13.wr W16 g_b1
  have N16 := Fr.snoc X16 N13 g_b1
  refine own_go st16 ?_
  show own_Ends _ _ _ _ (T16.setTop (mkF m 34 #[.val (.int p0), .unset, .unset, .unset] [(.ref b1)]))
  refine own_go (fun _ k => XS.astoreN X16.here hx rfl (hb hby at_34) rfl rfl (l' := #[.val (.int p0), .val (.ref b1), .unset, .unset]) rfl k) ?_
  show own_Ends _ _ _ _ (T16.setTop (mkF m 35 #[.val (.int p0), .val (.ref b1), .unset, .unset] []))
  refine own_go (fun _ k => XS.iconst X16.here hx rfl (hb hby at_35) k) ?_
  show own_Ends _ _ _ _ (T16.setTop (mkF m 36 #[.val (.int p0), .val (.ref b1), .unset, .unset] [(.int (5 : Int32))]))
  obtain ⟨T17, h17, ka17, X17, e17, E17, A17, st17⟩ := newP X16 hx hZ (hw _ (List.mem_of_getElem? (i := 14) rfl)) e16 (g := (mkF m 36 #[.val (.int p0), .val (.ref b1), .unset, .unset] [(.int (5 : Int32))])) rfl (hb hby at_36) rfl (by decide) (cap := 5) (by decide) (by decide) (by decide) (by decide)
  obtain ⟨b17, g17⟩ : ∃ z, z = h16.size := ⟨_, rfl⟩
  rw [← g17] at A17 st17
  have O17 := O16.ext E17
  have g_b17 : n0 ≤ b17 := by rw [g17, ← O16.1]; exact O16.2.1
  have V_b17 : Arv Z h17 b17 ka17 .boolean (5 : Int32) [(.int (0 : Int32)), (.int (0 : Int32)), (.int (0 : Int32)), (.int (0 : Int32)), (.int (0 : Int32))] (.int (0 : Int32)) := (Arv.new A17 (by decide)).pad (pad_rep [] (.int (0 : Int32)) 5)
  refine own_go st17 ?_
  show own_Ends _ _ _ _ (T17.setTop (mkF m 38 #[.val (.int p0), .val (.ref b1), .unset, .unset] [(.ref b17)]))
  refine own_go (fun _ k => XS.dup X17.here hx rfl (hb hby at_38) rfl rfl k) ?_
  show own_Ends _ _ _ _ (T17.setTop (mkF m 39 #[.val (.int p0), .val (.ref b1), .unset, .unset] [(.ref b17), (.ref b17)]))
  refine own_go (fun _ k => XS.iconst X17.here hx rfl (hb hby at_39) k) ?_
  show own_Ends _ _ _ _ (T17.setTop (mkF m 40 #[.val (.int p0), .val (.ref b1), .unset, .unset] [(.int (0 : Int32)), (.ref b17), (.ref b17)]))
  refine own_go (fun _ k => XS.iconst X17.here hx rfl (hb hby at_40) k) ?_
  show own_Ends _ _ _ _ (T17.setTop (mkF m 41 #[.val (.int p0), .val (.ref b1), .unset, .unset] [(.int (0 : Int32)), (.int (0 : Int32)), (.ref b17), (.ref b17)]))
  obtain ⟨cl18, Ar18, aq18, aS18, aN18, aH18, aG18⟩ := id V_b17
  have hin18 : ¬ ((0 : Int32) < 0 ∨ cl18.slots.size ≤ ((0 : Int32)).toNatClampNeg) := inb_of aS18 ⟨by decide, by decide⟩
  obtain ⟨T19, h19, X19, e19, W19, st19⟩ := stZ X17 hx hZ e17 Ar18 (j := (0 : Int32)) hin18 (g := (mkF m 41 #[.val (.int p0), .val (.ref b1), .unset, .unset] [(.int (0 : Int32)), (.int (0 : Int32)), (.ref b17), (.ref b17)])) rfl rfl (hb hby at_41)
  have V19 : Arv Z h19 b17 ka17 .boolean (5 : Int32) [(.int (0 : Int32)), (.int (0 : Int32)), (.int (0 : Int32)), (.int (0 : Int32)), (.int (0 : Int32))] (.int (0 : Int32)) := Arv.set Ar18 aq18 aS18 aN18 aH18 aG18 (fits_nar_bool _) W19 0 rfl (Nat.le_of_ble_eq_true rfl)
  have O19 := O17.wr W19 g_b17
  have N19 := Fr.snoc X19 N16 g_b17
  refine own_go st19 ?_
  show own_Ends _ _ _ _ (T19.setTop (mkF m 42 #[.val (.int p0), .val (.ref b1), .unset, .unset] [(.ref b17)]))
  refine own_go (fun _ k => XS.dup X19.here hx rfl (hb hby at_42) rfl rfl k) ?_
  show own_Ends _ _ _ _ (T19.setTop (mkF m 43 #[.val (.int p0), .val (.ref b1), .unset, .unset] [(.ref b17), (.ref b17)]))
  refine own_go (fun _ k => XS.iconst X19.here hx rfl (hb hby at_43) k) ?_
  show own_Ends _ _ _ _ (T19.setTop (mkF m 44 #[.val (.int p0), .val (.ref b1), .unset, .unset] [(.int (1 : Int32)), (.ref b17), (.ref b17)]))
  refine own_go (fun _ k => XS.iconst X19.here hx rfl (hb hby at_44) k) ?_
  show own_Ends _ _ _ _ (T19.setTop (mkF m 45 #[.val (.int p0), .val (.ref b1), .unset, .unset] [(.int (0 : Int32)), (.int (1 : Int32)), (.ref b17), (.ref b17)]))
  obtain ⟨cl20, Ar20, aq20, aS20, aN20, aH20, aG20⟩ := id V19
  have hin20 : ¬ ((1 : Int32) < 0 ∨ cl20.slots.size ≤ ((1 : Int32)).toNatClampNeg) := inb_of aS20 ⟨by decide, by decide⟩
  obtain ⟨T21, h21, X21, e21, W21, st21⟩ := stZ X19 hx hZ e19 Ar20 (j := (1 : Int32)) hin20 (g := (mkF m 45 #[.val (.int p0), .val (.ref b1), .unset, .unset] [(.int (0 : Int32)), (.int (1 : Int32)), (.ref b17), (.ref b17)])) rfl rfl (hb hby at_45)
  have V21 : Arv Z h21 b17 ka17 .boolean (5 : Int32) [(.int (0 : Int32)), (.int (0 : Int32)), (.int (0 : Int32)), (.int (0 : Int32)), (.int (0 : Int32))] (.int (0 : Int32)) := Arv.set Ar20 aq20 aS20 aN20 aH20 aG20 (fits_nar_bool _) W21 1 rfl (Nat.le_of_ble_eq_true rfl)
  have O21 := O19.wr W21 g_b17
  have N21 := Fr.snoc X21 N19 g_b17
  refine own_go st21 ?_
  show own_Ends _ _ _ _ (T21.setTop (mkF m 46 #[.val (.int p0), .val (.ref b1), .unset, .unset] [(.ref b17)]))
  refine own_go (fun _ k => XS.dup X21.here hx rfl (hb hby at_46) rfl rfl k) ?_
  show own_Ends _ _ _ _ (T21.setTop (mkF m 47 #[.val (.int p0), .val (.ref b1), .unset, .unset] [(.ref b17), (.ref b17)]))
  refine own_go (fun _ k => XS.iconst X21.here hx rfl (hb hby at_47) k) ?_
  show own_Ends _ _ _ _ (T21.setTop (mkF m 48 #[.val (.int p0), .val (.ref b1), .unset, .unset] [(.int (2 : Int32)), (.ref b17), (.ref b17)]))
  refine own_go (fun _ k => XS.iconst X21.here hx rfl (hb hby at_48) k) ?_
  show own_Ends _ _ _ _ (T21.setTop (mkF m 49 #[.val (.int p0), .val (.ref b1), .unset, .unset] [(.int (1 : Int32)), (.int (2 : Int32)), (.ref b17), (.ref b17)]))
  obtain ⟨cl22, Ar22, aq22, aS22, aN22, aH22, aG22⟩ := id V21
  have hin22 : ¬ ((2 : Int32) < 0 ∨ cl22.slots.size ≤ ((2 : Int32)).toNatClampNeg) := inb_of aS22 ⟨by decide, by decide⟩
  obtain ⟨T23, h23, X23, e23, W23, st23⟩ := stZ X21 hx hZ e21 Ar22 (j := (2 : Int32)) hin22 (g := (mkF m 49 #[.val (.int p0), .val (.ref b1), .unset, .unset] [(.int (1 : Int32)), (.int (2 : Int32)), (.ref b17), (.ref b17)])) rfl rfl (hb hby at_49)
  have V23 : Arv Z h23 b17 ka17 .boolean (5 : Int32) [(.int (0 : Int32)), (.int (0 : Int32)), (.int (1 : Int32)), (.int (0 : Int32)), (.int (0 : Int32))] (.int (0 : Int32)) := Arv.set Ar22 aq22 aS22 aN22 aH22 aG22 (fits_nar_bool _) W23 2 rfl (Nat.le_of_ble_eq_true rfl)
  have O23 := O21.wr W23 g_b17
  have N23 := Fr.snoc X23 N21 g_b17
  refine own_go st23 ?_
  show own_Ends _ _ _ _ (T23.setTop (mkF m 50 #[.val (.int p0), .val (.ref b1), .unset, .unset] [(.ref b17)]))
  refine own_go (fun _ k => XS.dup X23.here hx rfl (hb hby at_50) rfl rfl k) ?_
  show own_Ends _ _ _ _ (T23.setTop (mkF m 51 #[.val (.int p0), .val (.ref b1), .unset, .unset] [(.ref b17), (.ref b17)]))
  refine own_go (fun _ k => XS.iconst X23.here hx rfl (hb hby at_51) k) ?_
  show own_Ends _ _ _ _ (T23.setTop (mkF m 52 #[.val (.int p0), .val (.ref b1), .unset, .unset] [(.int (3 : Int32)), (.ref b17), (.ref b17)]))
  refine own_go (fun _ k => XS.iconst X23.here hx rfl (hb hby at_52) k) ?_
  show own_Ends _ _ _ _ (T23.setTop (mkF m 53 #[.val (.int p0), .val (.ref b1), .unset, .unset] [(.int (1 : Int32)), (.int (3 : Int32)), (.ref b17), (.ref b17)]))
  obtain ⟨cl24, Ar24, aq24, aS24, aN24, aH24, aG24⟩ := id V23
  have hin24 : ¬ ((3 : Int32) < 0 ∨ cl24.slots.size ≤ ((3 : Int32)).toNatClampNeg) := inb_of aS24 ⟨by decide, by decide⟩
  obtain ⟨T25, h25, X25, e25, W25, st25⟩ := stZ X23 hx hZ e23 Ar24 (j := (3 : Int32)) hin24 (g := (mkF m 53 #[.val (.int p0), .val (.ref b1), .unset, .unset] [(.int (1 : Int32)), (.int (3 : Int32)), (.ref b17), (.ref b17)])) rfl rfl (hb hby at_53)
  have V25 : Arv Z h25 b17 ka17 .boolean (5 : Int32) [(.int (0 : Int32)), (.int (0 : Int32)), (.int (1 : Int32)), (.int (1 : Int32)), (.int (0 : Int32))] (.int (0 : Int32)) := Arv.set Ar24 aq24 aS24 aN24 aH24 aG24 (fits_nar_bool _) W25 3 rfl (Nat.le_of_ble_eq_true rfl)
  have O25 := O23.wr W25 g_b17
  have N25 := Fr.snoc X25 N23 g_b17
  refine own_go st25 ?_
  show own_Ends _ _ _ _ (T25.setTop (mkF m 54 #[.val (.int p0), .val (.ref b1), .unset, .unset] [(.ref b17)]))
  refine own_go (fun _ k => XS.dup X25.here hx rfl (hb hby at_54) rfl rfl k) ?_
  show own_Ends _ _ _ _ (T25.setTop (mkF m 55 #[.val (.int p0), .val (.ref b1), .unset, .unset] [(.ref b17), (.ref b17)]))
  refine own_go (fun _ k => XS.iconst X25.here hx rfl (hb hby at_55) k) ?_
  show own_Ends _ _ _ _ (T25.setTop (mkF m 56 #[.val (.int p0), .val (.ref b1), .unset, .unset] [(.int (4 : Int32)), (.ref b17), (.ref b17)]))
  refine own_go (fun _ k => XS.iconst X25.here hx rfl (hb hby at_56) k) ?_
  show own_Ends _ _ _ _ (T25.setTop (mkF m 57 #[.val (.int p0), .val (.ref b1), .unset, .unset] [(.int (0 : Int32)), (.int (4 : Int32)), (.ref b17), (.ref b17)]))
  obtain ⟨cl26, Ar26, aq26, aS26, aN26, aH26, aG26⟩ := id V25
  have hin26 : ¬ ((4 : Int32) < 0 ∨ cl26.slots.size ≤ ((4 : Int32)).toNatClampNeg) := inb_of aS26 ⟨by decide, by decide⟩
  obtain ⟨T27, h27, X27, e27, W27, st27⟩ := stZ X25 hx hZ e25 Ar26 (j := (4 : Int32)) hin26 (g := (mkF m 57 #[.val (.int p0), .val (.ref b1), .unset, .unset] [(.int (0 : Int32)), (.int (4 : Int32)), (.ref b17), (.ref b17)])) rfl rfl (hb hby at_57)
  have V27 : Arv Z h27 b17 ka17 .boolean (5 : Int32) [(.int (0 : Int32)), (.int (0 : Int32)), (.int (1 : Int32)), (.int (1 : Int32)), (.int (0 : Int32))] (.int (0 : Int32)) := Arv.set Ar26 aq26 aS26 aN26 aH26 aG26 (fits_nar_bool _) W27 4 rfl (Nat.le_of_ble_eq_true rfl)
  have O27 := O25.wr W27 g_b17
  have N27 := Fr.snoc X27 N25 g_b17
  refine own_go st27 ?_
  show own_Ends _ _ _ _ (T27.setTop (mkF m 58 #[.val (.int p0), .val (.ref b1), .unset, .unset] [(.ref b17)]))
  refine own_go (fun _ k => XS.astoreN X27.here hx rfl (hb hby at_58) rfl rfl (l' := #[.val (.int p0), .val (.ref b1), .val (.ref b17), .unset]) rfl k) ?_
  show own_Ends _ _ _ _ (T27.setTop (mkF m 59 #[.val (.int p0), .val (.ref b1), .val (.ref b17), .unset] []))
  refine own_go (fun _ k => XS.iloadN X27.here hx rfl (hb hby at_59) rfl k) ?_
  show own_Ends _ _ _ _ (T27.setTop (mkF m 60 #[.val (.int p0), .val (.ref b1), .val (.ref b17), .unset] [(.int p0)]))
  refine own_go (X27.ldcInt hx hown (mvT hZ (hw _ (List.mem_of_getElem? (i := 15) rfl))) (g := (mkF m 60 #[.val (.int p0), .val (.ref b1), .val (.ref b17), .unset] [(.int p0)])) rfl (hb hby at_60)) ?_
  show own_Ends _ _ _ _ (T27.setTop (mkF m 62 #[.val (.int p0), .val (.ref b1), .val (.ref b17), .unset] [(.int (2147483647 : Int32)), (.int p0)]))
  refine own_go (fun _ k => XS.iand X27.here hx rfl (hb hby at_62) rfl k) ?_
  show own_Ends _ _ _ _ (T27.setTop (mkF m 63 #[.val (.int p0), .val (.ref b1), .val (.ref b17), .unset] [(.int (p0 &&& (2147483647 : Int32)))]))
  refine own_go (fun _ k => XS.iconst X27.here hx rfl (hb hby at_63) k) ?_
  show own_Ends _ _ _ _ (T27.setTop (mkF m 64 #[.val (.int p0), .val (.ref b1), .val (.ref b17), .unset] [(.int (5 : Int32)), (.int (p0 &&& (2147483647 : Int32)))]))
  refine own_go (fun _ k => iremM X27 hx rfl (hb hby at_64) rfl (by decide) k) ?_
  show own_Ends _ _ _ _ (T27.setTop (mkF m 65 #[.val (.int p0), .val (.ref b1), .val (.ref b17), .unset] [(.int ((p0 &&& (2147483647 : Int32)) % (5 : Int32)))]))
  rcases own_cases p0 with hi27 | hi27 | hi27 | hi27 | hi27
  · rw [hi27]
    show own_Ends _ _ _ _ (T27.setTop (mkF m 65 #[.val (.int p0), .val (.ref b1), .val (.ref b17), .unset] [(.int (0 : Int32))]))
    refine own_go (fun _ k => XS.istoreN X27.here hx rfl (hb hby at_65) rfl (l' := #[.val (.int p0), .val (.ref b1), .val (.ref b17), .val (.int (0 : Int32))]) rfl k) ?_
    show own_Ends _ _ _ _ (T27.setTop (mkF m 66 #[.val (.int p0), .val (.ref b1), .val (.ref b17), .val (.int (0 : Int32))] []))
    refine own_go (fun _ k => XS.aloadN X27.here hx rfl (hb hby at_66) rfl rfl k) ?_
    show own_Ends _ _ _ _ (T27.setTop (mkF m 67 #[.val (.int p0), .val (.ref b1), .val (.ref b17), .val (.int (0 : Int32))] [(.ref b1)]))
    refine own_go (fun _ k => XS.iloadN X27.here hx rfl (hb hby at_67) rfl k) ?_
    show own_Ends _ _ _ _ (T27.setTop (mkF m 68 #[.val (.int p0), .val (.ref b1), .val (.ref b17), .val (.int (0 : Int32))] [(.int (0 : Int32)), (.ref b1)]))
    obtain ⟨cl29, Ar29, aq29, aS29, aN29, aH29, aG29⟩ := id ((((((V16.ext E17).other W19 (Nat.ne_of_lt (Nat.lt_of_lt_of_le V16.lt (Nat.le_of_eq g17.symm)))).other W21 (Nat.ne_of_lt (Nat.lt_of_lt_of_le V16.lt (Nat.le_of_eq g17.symm)))).other W23 (Nat.ne_of_lt (Nat.lt_of_lt_of_le V16.lt (Nat.le_of_eq g17.symm)))).other W25 (Nat.ne_of_lt (Nat.lt_of_lt_of_le V16.lt (Nat.le_of_eq g17.symm)))).other W27 (Nat.ne_of_lt (Nat.lt_of_lt_of_le V16.lt (Nat.le_of_eq g17.symm))))
    have hin29 : ¬ ((0 : Int32) < 0 ∨ cl29.slots.size ≤ ((0 : Int32)).toNatClampNeg) := inb_of aS29 ⟨by decide, by decide⟩
    refine own_go (X27.aaload hx (j := (0 : Int32)) (v := (.ref a_ID_SPECIFIED)) (by rw [e27]; exact Ar29.1) (State.isArrayOf_alike hZ.alike Ar29.2.1) rfl Ar29.2.2 hin29 (aH29.at hin29 rfl) (g := (mkF m 68 #[.val (.int p0), .val (.ref b1), .val (.ref b17), .val (.int (0 : Int32))] [(.int (0 : Int32)), (.ref b1)])) rfl rfl (hb hby at_68)) ?_
    show own_Ends _ _ _ _ (T27.setTop (mkF m 69 #[.val (.int p0), .val (.ref b1), .val (.ref b17), .val (.int (0 : Int32))] [(.ref a_ID_SPECIFIED)]))
    obtain ⟨cq30, kq30, q30a, q30b, q30c⟩ := isOf hZ e27 (E_ID_SPECIFIED.ext O27.2)
    obtain ⟨_, _, ⟨T30, Lz30, kz30, nz30⟩, -, X30, ⟨Lc30, hQ30, l30, y30, z30⟩, st30⟩ := X27.virtualBack hx (y := (⟨"com/example/cascade_save/cascadesave/ObjectShape", "givesKey", "()Z"⟩ : MethodName)) (z := (⟨"com/example/cascade_save/cascadesave/ObjectShape", "givesKey", "()Z"⟩ : MethodName)) hown (mvT hZ (hw _ (List.mem_of_getElem? (i := 16) rfl))) (mvT hZ (hw _ (List.mem_of_getElem? (i := 17) rfl))) (notFace_of_selects (args := #[]) (mvT hZ (hw _ (List.mem_of_getElem? (i := 19) rfl)))) (mvT hZ (hw _ (List.mem_of_getElem? (i := 19) rfl))) (mvT hZ (hw _ (List.mem_of_getElem? (i := 18) rfl))) (by decide) (backOf (W := 0) (own_givesKey l Z a0 hw [] a_ID_SPECIFIED (0 : Int32) a_KEY_SPECIFIED a_KEY_ONLY h27 n0 O27 S_KEY_SPECIFIED S_KEY_ONLY (by rw [if_neg (Fld.ne F_ID_SPECIFIED_ordinal F_KEY_SPECIFIED_ordinal (fun q => absurd (Value.int.inj q) (by decide))), if_neg (Fld.ne F_ID_SPECIFIED_ordinal F_KEY_ONLY_ordinal (fun q => absurd (Value.int.inj q) (by decide)))])) hZ (hw _ (List.mem_of_getElem? (i := 20) rfl)) (hw _ (List.mem_of_getElem? (i := 3) rfl)) (by decide) (by decide)) q30a q30c (g := (mkF m 69 #[.val (.int p0), .val (.ref b1), .val (.ref b17), .val (.int (0 : Int32))] [(.ref a_ID_SPECIFIED)])) rfl (by rw [hml]; rfl) (Steps.refl _) (argsL := []) (rest := []) (lenOf own_pd0 rfl) rfl (by show 2 * 0 + _ ≤ _; exact Nat.le_of_eq rfl) (hb hby at_69) (fun _ _ => ⟨rfl, e27, (by decide : 2 + 0 ≤ _), (by decide : 10 + 0 ≤ _)⟩)
    dsimp only [Pt.U, Pt.locs, Pt.cells, Pt.slots] at X30 l30 y30 z30 st30 hQ30
    subst l30 y30 z30
    obtain ⟨rfl, Nq30, e30⟩ := hQ30
    have N30 := Fr.app N27 Nq30
    refine own_tr st30 ?_
    show own_Ends _ _ _ _ (T30.setTop (mkF m 72 #[.val (.int p0), .val (.ref b1), .val (.ref b17), .val (.int (0 : Int32))] [(.int (0 : Int32))]))
    refine own_go (fun _ k => XS.aloadN X30.here hx rfl (hb hby at_72) rfl rfl k) ?_
    show own_Ends _ _ _ _ (T30.setTop (mkF m 73 #[.val (.int p0), .val (.ref b1), .val (.ref b17), .val (.int (0 : Int32))] [(.ref b17), (.int (0 : Int32))]))
    refine own_go (fun _ k => XS.iloadN X30.here hx rfl (hb hby at_73) rfl k) ?_
    show own_Ends _ _ _ _ (T30.setTop (mkF m 74 #[.val (.int p0), .val (.ref b1), .val (.ref b17), .val (.int (0 : Int32))] [(.int (0 : Int32)), (.ref b17), (.int (0 : Int32))]))
    obtain ⟨cl31, Ar31, aq31, aS31, aN31, aH31, aG31⟩ := id V27
    have hin31 : ¬ ((0 : Int32) < 0 ∨ cl31.slots.size ≤ ((0 : Int32)).toNatClampNeg) := inb_of aS31 ⟨by decide, by decide⟩
    refine own_go (X30.baloadBooleans hx (j := (0 : Int32)) (v := (.int (0 : Int32))) (by rw [e30]; exact Ar31.1) (State.isArrayOf_alike hZ.alike Ar31.2.1) Ar31.2.2 hin31 (aH31.at hin31 rfl) (g := (mkF m 74 #[.val (.int p0), .val (.ref b1), .val (.ref b17), .val (.int (0 : Int32))] [(.int (0 : Int32)), (.ref b17), (.int (0 : Int32))])) rfl rfl (hb hby at_74)) ?_
    show own_Ends _ _ _ _ (T30.setTop (mkF m 75 #[.val (.int p0), .val (.ref b1), .val (.ref b17), .val (.int (0 : Int32))] [(.int (0 : Int32)), (.int (0 : Int32))]))
    refine own_go (fun _ k => XS.icmpNo X30.here hx rfl (hb hby at_75) rfl (teq (by decide : (0 : Int32) = (0 : Int32))).2 k) ?_
    show own_Ends _ _ _ _ (T30.setTop (mkF m 78 #[.val (.int p0), .val (.ref b1), .val (.ref b17), .val (.int (0 : Int32))] []))
    refine own_go (fun _ k => XS.iconst X30.here hx rfl (hb hby at_78) k) ?_
    show own_Ends _ _ _ _ (T30.setTop (mkF m 79 #[.val (.int p0), .val (.ref b1), .val (.ref b17), .val (.int (0 : Int32))] [(.int (1 : Int32))]))
    refine own_go (fun _ k => XS.goto X30.here hx rfl (pc0 := 79) (pc' := 83) rfl (hb hby at_79) (by decide) (by decide) k) ?_
    show own_Ends _ _ _ _ (T30.setTop (mkF m 83 #[.val (.int p0), .val (.ref b1), .val (.ref b17), .val (.int (0 : Int32))] [(.int (1 : Int32))]))
    exact own_retZ X30 hx (BodyLoose.notSynchronized Bd) Bd.returns rfl (hb hby at_83) (by decide) (by decide) (by rw [e30]; exact ⟨rfl, N30⟩)
  · rw [hi27]
    show own_Ends _ _ _ _ (T27.setTop (mkF m 65 #[.val (.int p0), .val (.ref b1), .val (.ref b17), .unset] [(.int (1 : Int32))]))
    refine own_go (fun _ k => XS.istoreN X27.here hx rfl (hb hby at_65) rfl (l' := #[.val (.int p0), .val (.ref b1), .val (.ref b17), .val (.int (1 : Int32))]) rfl k) ?_
    show own_Ends _ _ _ _ (T27.setTop (mkF m 66 #[.val (.int p0), .val (.ref b1), .val (.ref b17), .val (.int (1 : Int32))] []))
    refine own_go (fun _ k => XS.aloadN X27.here hx rfl (hb hby at_66) rfl rfl k) ?_
    show own_Ends _ _ _ _ (T27.setTop (mkF m 67 #[.val (.int p0), .val (.ref b1), .val (.ref b17), .val (.int (1 : Int32))] [(.ref b1)]))
    refine own_go (fun _ k => XS.iloadN X27.here hx rfl (hb hby at_67) rfl k) ?_
    show own_Ends _ _ _ _ (T27.setTop (mkF m 68 #[.val (.int p0), .val (.ref b1), .val (.ref b17), .val (.int (1 : Int32))] [(.int (1 : Int32)), (.ref b1)]))
    obtain ⟨cl32, Ar32, aq32, aS32, aN32, aH32, aG32⟩ := id ((((((V16.ext E17).other W19 (Nat.ne_of_lt (Nat.lt_of_lt_of_le V16.lt (Nat.le_of_eq g17.symm)))).other W21 (Nat.ne_of_lt (Nat.lt_of_lt_of_le V16.lt (Nat.le_of_eq g17.symm)))).other W23 (Nat.ne_of_lt (Nat.lt_of_lt_of_le V16.lt (Nat.le_of_eq g17.symm)))).other W25 (Nat.ne_of_lt (Nat.lt_of_lt_of_le V16.lt (Nat.le_of_eq g17.symm)))).other W27 (Nat.ne_of_lt (Nat.lt_of_lt_of_le V16.lt (Nat.le_of_eq g17.symm))))
    have hin32 : ¬ ((1 : Int32) < 0 ∨ cl32.slots.size ≤ ((1 : Int32)).toNatClampNeg) := inb_of aS32 ⟨by decide, by decide⟩
    refine own_go (X27.aaload hx (j := (1 : Int32)) (v := (.ref a_ID_ONLY)) (by rw [e27]; exact Ar32.1) (State.isArrayOf_alike hZ.alike Ar32.2.1) rfl Ar32.2.2 hin32 (aH32.at hin32 rfl) (g := (mkF m 68 #[.val (.int p0), .val (.ref b1), .val (.ref b17), .val (.int (1 : Int32))] [(.int (1 : Int32)), (.ref b1)])) rfl rfl (hb hby at_68)) ?_
    show own_Ends _ _ _ _ (T27.setTop (mkF m 69 #[.val (.int p0), .val (.ref b1), .val (.ref b17), .val (.int (1 : Int32))] [(.ref a_ID_ONLY)]))
    obtain ⟨cq33, kq33, q33a, q33b, q33c⟩ := isOf hZ e27 (E_ID_ONLY.ext O27.2)
    obtain ⟨_, _, ⟨T33, Lz33, kz33, nz33⟩, -, X33, ⟨Lc33, hQ33, l33, y33, z33⟩, st33⟩ := X27.virtualBack hx (y := (⟨"com/example/cascade_save/cascadesave/ObjectShape", "givesKey", "()Z"⟩ : MethodName)) (z := (⟨"com/example/cascade_save/cascadesave/ObjectShape", "givesKey", "()Z"⟩ : MethodName)) hown (mvT hZ (hw _ (List.mem_of_getElem? (i := 16) rfl))) (mvT hZ (hw _ (List.mem_of_getElem? (i := 17) rfl))) (notFace_of_selects (args := #[]) (mvT hZ (hw _ (List.mem_of_getElem? (i := 19) rfl)))) (mvT hZ (hw _ (List.mem_of_getElem? (i := 19) rfl))) (mvT hZ (hw _ (List.mem_of_getElem? (i := 18) rfl))) (by decide) (backOf (W := 0) (own_givesKey l Z a0 hw [] a_ID_ONLY (0 : Int32) a_KEY_SPECIFIED a_KEY_ONLY h27 n0 O27 S_KEY_SPECIFIED S_KEY_ONLY (by rw [if_neg (Fld.ne F_ID_ONLY_ordinal F_KEY_SPECIFIED_ordinal (fun q => absurd (Value.int.inj q) (by decide))), if_neg (Fld.ne F_ID_ONLY_ordinal F_KEY_ONLY_ordinal (fun q => absurd (Value.int.inj q) (by decide)))])) hZ (hw _ (List.mem_of_getElem? (i := 20) rfl)) (hw _ (List.mem_of_getElem? (i := 3) rfl)) (by decide) (by decide)) q33a q33c (g := (mkF m 69 #[.val (.int p0), .val (.ref b1), .val (.ref b17), .val (.int (1 : Int32))] [(.ref a_ID_ONLY)])) rfl (by rw [hml]; rfl) (Steps.refl _) (argsL := []) (rest := []) (lenOf own_pd0 rfl) rfl (by show 2 * 0 + _ ≤ _; exact Nat.le_of_eq rfl) (hb hby at_69) (fun _ _ => ⟨rfl, e27, (by decide : 2 + 0 ≤ _), (by decide : 10 + 0 ≤ _)⟩)
    dsimp only [Pt.U, Pt.locs, Pt.cells, Pt.slots] at X33 l33 y33 z33 st33 hQ33
    subst l33 y33 z33
    obtain ⟨rfl, Nq33, e33⟩ := hQ33
    have N33 := Fr.app N27 Nq33
    refine own_tr st33 ?_
    show own_Ends _ _ _ _ (T33.setTop (mkF m 72 #[.val (.int p0), .val (.ref b1), .val (.ref b17), .val (.int (1 : Int32))] [(.int (0 : Int32))]))
    refine own_go (fun _ k => XS.aloadN X33.here hx rfl (hb hby at_72) rfl rfl k) ?_
    show own_Ends _ _ _ _ (T33.setTop (mkF m 73 #[.val (.int p0), .val (.ref b1), .val (.ref b17), .val (.int (1 : Int32))] [(.ref b17), (.int (0 : Int32))]))
    refine own_go (fun _ k => XS.iloadN X33.here hx rfl (hb hby at_73) rfl k) ?_
    show own_Ends _ _ _ _ (T33.setTop (mkF m 74 #[.val (.int p0), .val (.ref b1), .val (.ref b17), .val (.int (1 : Int32))] [(.int (1 : Int32)), (.ref b17), (.int (0 : Int32))]))
    obtain ⟨cl34, Ar34, aq34, aS34, aN34, aH34, aG34⟩ := id V27
    have hin34 : ¬ ((1 : Int32) < 0 ∨ cl34.slots.size ≤ ((1 : Int32)).toNatClampNeg) := inb_of aS34 ⟨by decide, by decide⟩
    refine own_go (X33.baloadBooleans hx (j := (1 : Int32)) (v := (.int (0 : Int32))) (by rw [e33]; exact Ar34.1) (State.isArrayOf_alike hZ.alike Ar34.2.1) Ar34.2.2 hin34 (aH34.at hin34 rfl) (g := (mkF m 74 #[.val (.int p0), .val (.ref b1), .val (.ref b17), .val (.int (1 : Int32))] [(.int (1 : Int32)), (.ref b17), (.int (0 : Int32))])) rfl rfl (hb hby at_74)) ?_
    show own_Ends _ _ _ _ (T33.setTop (mkF m 75 #[.val (.int p0), .val (.ref b1), .val (.ref b17), .val (.int (1 : Int32))] [(.int (0 : Int32)), (.int (0 : Int32))]))
    refine own_go (fun _ k => XS.icmpNo X33.here hx rfl (hb hby at_75) rfl (teq (by decide : (0 : Int32) = (0 : Int32))).2 k) ?_
    show own_Ends _ _ _ _ (T33.setTop (mkF m 78 #[.val (.int p0), .val (.ref b1), .val (.ref b17), .val (.int (1 : Int32))] []))
    refine own_go (fun _ k => XS.iconst X33.here hx rfl (hb hby at_78) k) ?_
    show own_Ends _ _ _ _ (T33.setTop (mkF m 79 #[.val (.int p0), .val (.ref b1), .val (.ref b17), .val (.int (1 : Int32))] [(.int (1 : Int32))]))
    refine own_go (fun _ k => XS.goto X33.here hx rfl (pc0 := 79) (pc' := 83) rfl (hb hby at_79) (by decide) (by decide) k) ?_
    show own_Ends _ _ _ _ (T33.setTop (mkF m 83 #[.val (.int p0), .val (.ref b1), .val (.ref b17), .val (.int (1 : Int32))] [(.int (1 : Int32))]))
    exact own_retZ X33 hx (BodyLoose.notSynchronized Bd) Bd.returns rfl (hb hby at_83) (by decide) (by decide) (by rw [e33]; exact ⟨rfl, N33⟩)
  · rw [hi27]
    show own_Ends _ _ _ _ (T27.setTop (mkF m 65 #[.val (.int p0), .val (.ref b1), .val (.ref b17), .unset] [(.int (2 : Int32))]))
    refine own_go (fun _ k => XS.istoreN X27.here hx rfl (hb hby at_65) rfl (l' := #[.val (.int p0), .val (.ref b1), .val (.ref b17), .val (.int (2 : Int32))]) rfl k) ?_
    show own_Ends _ _ _ _ (T27.setTop (mkF m 66 #[.val (.int p0), .val (.ref b1), .val (.ref b17), .val (.int (2 : Int32))] []))
    refine own_go (fun _ k => XS.aloadN X27.here hx rfl (hb hby at_66) rfl rfl k) ?_
    show own_Ends _ _ _ _ (T27.setTop (mkF m 67 #[.val (.int p0), .val (.ref b1), .val (.ref b17), .val (.int (2 : Int32))] [(.ref b1)]))
    refine own_go (fun _ k => XS.iloadN X27.here hx rfl (hb hby at_67) rfl k) ?_
    show own_Ends _ _ _ _ (T27.setTop (mkF m 68 #[.val (.int p0), .val (.ref b1), .val (.ref b17), .val (.int (2 : Int32))] [(.int (2 : Int32)), (.ref b1)]))
    obtain ⟨cl35, Ar35, aq35, aS35, aN35, aH35, aG35⟩ := id ((((((V16.ext E17).other W19 (Nat.ne_of_lt (Nat.lt_of_lt_of_le V16.lt (Nat.le_of_eq g17.symm)))).other W21 (Nat.ne_of_lt (Nat.lt_of_lt_of_le V16.lt (Nat.le_of_eq g17.symm)))).other W23 (Nat.ne_of_lt (Nat.lt_of_lt_of_le V16.lt (Nat.le_of_eq g17.symm)))).other W25 (Nat.ne_of_lt (Nat.lt_of_lt_of_le V16.lt (Nat.le_of_eq g17.symm)))).other W27 (Nat.ne_of_lt (Nat.lt_of_lt_of_le V16.lt (Nat.le_of_eq g17.symm))))
    have hin35 : ¬ ((2 : Int32) < 0 ∨ cl35.slots.size ≤ ((2 : Int32)).toNatClampNeg) := inb_of aS35 ⟨by decide, by decide⟩
    refine own_go (X27.aaload hx (j := (2 : Int32)) (v := (.ref a_KEY_SPECIFIED)) (by rw [e27]; exact Ar35.1) (State.isArrayOf_alike hZ.alike Ar35.2.1) rfl Ar35.2.2 hin35 (aH35.at hin35 rfl) (g := (mkF m 68 #[.val (.int p0), .val (.ref b1), .val (.ref b17), .val (.int (2 : Int32))] [(.int (2 : Int32)), (.ref b1)])) rfl rfl (hb hby at_68)) ?_
    show own_Ends _ _ _ _ (T27.setTop (mkF m 69 #[.val (.int p0), .val (.ref b1), .val (.ref b17), .val (.int (2 : Int32))] [(.ref a_KEY_SPECIFIED)]))
    obtain ⟨cq36, kq36, q36a, q36b, q36c⟩ := isOf hZ e27 (E_KEY_SPECIFIED.ext O27.2)
    obtain ⟨_, _, ⟨T36, Lz36, kz36, nz36⟩, -, X36, ⟨Lc36, hQ36, l36, y36, z36⟩, st36⟩ := X27.virtualBack hx (y := (⟨"com/example/cascade_save/cascadesave/ObjectShape", "givesKey", "()Z"⟩ : MethodName)) (z := (⟨"com/example/cascade_save/cascadesave/ObjectShape", "givesKey", "()Z"⟩ : MethodName)) hown (mvT hZ (hw _ (List.mem_of_getElem? (i := 16) rfl))) (mvT hZ (hw _ (List.mem_of_getElem? (i := 17) rfl))) (notFace_of_selects (args := #[]) (mvT hZ (hw _ (List.mem_of_getElem? (i := 19) rfl)))) (mvT hZ (hw _ (List.mem_of_getElem? (i := 19) rfl))) (mvT hZ (hw _ (List.mem_of_getElem? (i := 18) rfl))) (by decide) (backOf (W := 0) (own_givesKey l Z a0 hw [] a_KEY_SPECIFIED (1 : Int32) a_KEY_SPECIFIED a_KEY_ONLY h27 n0 O27 S_KEY_SPECIFIED S_KEY_ONLY (by rw [if_pos rfl])) hZ (hw _ (List.mem_of_getElem? (i := 20) rfl)) (hw _ (List.mem_of_getElem? (i := 3) rfl)) (by decide) (by decide)) q36a q36c (g := (mkF m 69 #[.val (.int p0), .val (.ref b1), .val (.ref b17), .val (.int (2 : Int32))] [(.ref a_KEY_SPECIFIED)])) rfl (by rw [hml]; rfl) (Steps.refl _) (argsL := []) (rest := []) (lenOf own_pd0 rfl) rfl (by show 2 * 0 + _ ≤ _; exact Nat.le_of_eq rfl) (hb hby at_69) (fun _ _ => ⟨rfl, e27, (by decide : 2 + 0 ≤ _), (by decide : 10 + 0 ≤ _)⟩)
    dsimp only [Pt.U, Pt.locs, Pt.cells, Pt.slots] at X36 l36 y36 z36 st36 hQ36
    subst l36 y36 z36
    obtain ⟨rfl, Nq36, e36⟩ := hQ36
    have N36 := Fr.app N27 Nq36
    refine own_tr st36 ?_
    show own_Ends _ _ _ _ (T36.setTop (mkF m 72 #[.val (.int p0), .val (.ref b1), .val (.ref b17), .val (.int (2 : Int32))] [(.int (1 : Int32))]))
    refine own_go (fun _ k => XS.aloadN X36.here hx rfl (hb hby at_72) rfl rfl k) ?_
    show own_Ends _ _ _ _ (T36.setTop (mkF m 73 #[.val (.int p0), .val (.ref b1), .val (.ref b17), .val (.int (2 : Int32))] [(.ref b17), (.int (1 : Int32))]))
    refine own_go (fun _ k => XS.iloadN X36.here hx rfl (hb hby at_73) rfl k) ?_
    show own_Ends _ _ _ _ (T36.setTop (mkF m 74 #[.val (.int p0), .val (.ref b1), .val (.ref b17), .val (.int (2 : Int32))] [(.int (2 : Int32)), (.ref b17), (.int (1 : Int32))]))
    obtain ⟨cl37, Ar37, aq37, aS37, aN37, aH37, aG37⟩ := id V27
    have hin37 : ¬ ((2 : Int32) < 0 ∨ cl37.slots.size ≤ ((2 : Int32)).toNatClampNeg) := inb_of aS37 ⟨by decide, by decide⟩
    refine own_go (X36.baloadBooleans hx (j := (2 : Int32)) (v := (.int (1 : Int32))) (by rw [e36]; exact Ar37.1) (State.isArrayOf_alike hZ.alike Ar37.2.1) Ar37.2.2 hin37 (aH37.at hin37 rfl) (g := (mkF m 74 #[.val (.int p0), .val (.ref b1), .val (.ref b17), .val (.int (2 : Int32))] [(.int (2 : Int32)), (.ref b17), (.int (1 : Int32))])) rfl rfl (hb hby at_74)) ?_
    show own_Ends _ _ _ _ (T36.setTop (mkF m 75 #[.val (.int p0), .val (.ref b1), .val (.ref b17), .val (.int (2 : Int32))] [(.int (1 : Int32)), (.int (1 : Int32))]))
    refine own_go (fun _ k => XS.icmpNo X36.here hx rfl (hb hby at_75) rfl (teq (by decide : (1 : Int32) = (1 : Int32))).2 k) ?_
    show own_Ends _ _ _ _ (T36.setTop (mkF m 78 #[.val (.int p0), .val (.ref b1), .val (.ref b17), .val (.int (2 : Int32))] []))
    refine own_go (fun _ k => XS.iconst X36.here hx rfl (hb hby at_78) k) ?_
    show own_Ends _ _ _ _ (T36.setTop (mkF m 79 #[.val (.int p0), .val (.ref b1), .val (.ref b17), .val (.int (2 : Int32))] [(.int (1 : Int32))]))
    refine own_go (fun _ k => XS.goto X36.here hx rfl (pc0 := 79) (pc' := 83) rfl (hb hby at_79) (by decide) (by decide) k) ?_
    show own_Ends _ _ _ _ (T36.setTop (mkF m 83 #[.val (.int p0), .val (.ref b1), .val (.ref b17), .val (.int (2 : Int32))] [(.int (1 : Int32))]))
    exact own_retZ X36 hx (BodyLoose.notSynchronized Bd) Bd.returns rfl (hb hby at_83) (by decide) (by decide) (by rw [e36]; exact ⟨rfl, N36⟩)
  · rw [hi27]
    show own_Ends _ _ _ _ (T27.setTop (mkF m 65 #[.val (.int p0), .val (.ref b1), .val (.ref b17), .unset] [(.int (3 : Int32))]))
    refine own_go (fun _ k => XS.istoreN X27.here hx rfl (hb hby at_65) rfl (l' := #[.val (.int p0), .val (.ref b1), .val (.ref b17), .val (.int (3 : Int32))]) rfl k) ?_
    show own_Ends _ _ _ _ (T27.setTop (mkF m 66 #[.val (.int p0), .val (.ref b1), .val (.ref b17), .val (.int (3 : Int32))] []))
    refine own_go (fun _ k => XS.aloadN X27.here hx rfl (hb hby at_66) rfl rfl k) ?_
    show own_Ends _ _ _ _ (T27.setTop (mkF m 67 #[.val (.int p0), .val (.ref b1), .val (.ref b17), .val (.int (3 : Int32))] [(.ref b1)]))
    refine own_go (fun _ k => XS.iloadN X27.here hx rfl (hb hby at_67) rfl k) ?_
    show own_Ends _ _ _ _ (T27.setTop (mkF m 68 #[.val (.int p0), .val (.ref b1), .val (.ref b17), .val (.int (3 : Int32))] [(.int (3 : Int32)), (.ref b1)]))
    obtain ⟨cl38, Ar38, aq38, aS38, aN38, aH38, aG38⟩ := id ((((((V16.ext E17).other W19 (Nat.ne_of_lt (Nat.lt_of_lt_of_le V16.lt (Nat.le_of_eq g17.symm)))).other W21 (Nat.ne_of_lt (Nat.lt_of_lt_of_le V16.lt (Nat.le_of_eq g17.symm)))).other W23 (Nat.ne_of_lt (Nat.lt_of_lt_of_le V16.lt (Nat.le_of_eq g17.symm)))).other W25 (Nat.ne_of_lt (Nat.lt_of_lt_of_le V16.lt (Nat.le_of_eq g17.symm)))).other W27 (Nat.ne_of_lt (Nat.lt_of_lt_of_le V16.lt (Nat.le_of_eq g17.symm))))
    have hin38 : ¬ ((3 : Int32) < 0 ∨ cl38.slots.size ≤ ((3 : Int32)).toNatClampNeg) := inb_of aS38 ⟨by decide, by decide⟩
    refine own_go (X27.aaload hx (j := (3 : Int32)) (v := (.ref a_KEY_ONLY)) (by rw [e27]; exact Ar38.1) (State.isArrayOf_alike hZ.alike Ar38.2.1) rfl Ar38.2.2 hin38 (aH38.at hin38 rfl) (g := (mkF m 68 #[.val (.int p0), .val (.ref b1), .val (.ref b17), .val (.int (3 : Int32))] [(.int (3 : Int32)), (.ref b1)])) rfl rfl (hb hby at_68)) ?_
    show own_Ends _ _ _ _ (T27.setTop (mkF m 69 #[.val (.int p0), .val (.ref b1), .val (.ref b17), .val (.int (3 : Int32))] [(.ref a_KEY_ONLY)]))
    obtain ⟨cq39, kq39, q39a, q39b, q39c⟩ := isOf hZ e27 (E_KEY_ONLY.ext O27.2)
    obtain ⟨_, _, ⟨T39, Lz39, kz39, nz39⟩, -, X39, ⟨Lc39, hQ39, l39, y39, z39⟩, st39⟩ := X27.virtualBack hx (y := (⟨"com/example/cascade_save/cascadesave/ObjectShape", "givesKey", "()Z"⟩ : MethodName)) (z := (⟨"com/example/cascade_save/cascadesave/ObjectShape", "givesKey", "()Z"⟩ : MethodName)) hown (mvT hZ (hw _ (List.mem_of_getElem? (i := 16) rfl))) (mvT hZ (hw _ (List.mem_of_getElem? (i := 17) rfl))) (notFace_of_selects (args := #[]) (mvT hZ (hw _ (List.mem_of_getElem? (i := 19) rfl)))) (mvT hZ (hw _ (List.mem_of_getElem? (i := 19) rfl))) (mvT hZ (hw _ (List.mem_of_getElem? (i := 18) rfl))) (by decide) (backOf (W := 0) (own_givesKey l Z a0 hw [] a_KEY_ONLY (1 : Int32) a_KEY_SPECIFIED a_KEY_ONLY h27 n0 O27 S_KEY_SPECIFIED S_KEY_ONLY (by rw [if_neg (Fld.ne F_KEY_ONLY_ordinal F_KEY_SPECIFIED_ordinal (fun q => absurd (Value.int.inj q) (by decide))), if_pos rfl])) hZ (hw _ (List.mem_of_getElem? (i := 20) rfl)) (hw _ (List.mem_of_getElem? (i := 3) rfl)) (by decide) (by decide)) q39a q39c (g := (mkF m 69 #[.val (.int p0), .val (.ref b1), .val (.ref b17), .val (.int (3 : Int32))] [(.ref a_KEY_ONLY)])) rfl (by rw [hml]; rfl) (Steps.refl _) (argsL := []) (rest := []) (lenOf own_pd0 rfl) rfl (by show 2 * 0 + _ ≤ _; exact Nat.le_of_eq rfl) (hb hby at_69) (fun _ _ => ⟨rfl, e27, (by decide : 2 + 0 ≤ _), (by decide : 10 + 0 ≤ _)⟩)
    dsimp only [Pt.U, Pt.locs, Pt.cells, Pt.slots] at X39 l39 y39 z39 st39 hQ39
    subst l39 y39 z39
    obtain ⟨rfl, Nq39, e39⟩ := hQ39
    have N39 := Fr.app N27 Nq39
    refine own_tr st39 ?_
    show own_Ends _ _ _ _ (T39.setTop (mkF m 72 #[.val (.int p0), .val (.ref b1), .val (.ref b17), .val (.int (3 : Int32))] [(.int (1 : Int32))]))
    refine own_go (fun _ k => XS.aloadN X39.here hx rfl (hb hby at_72) rfl rfl k) ?_
    show own_Ends _ _ _ _ (T39.setTop (mkF m 73 #[.val (.int p0), .val (.ref b1), .val (.ref b17), .val (.int (3 : Int32))] [(.ref b17), (.int (1 : Int32))]))
    refine own_go (fun _ k => XS.iloadN X39.here hx rfl (hb hby at_73) rfl k) ?_
    show own_Ends _ _ _ _ (T39.setTop (mkF m 74 #[.val (.int p0), .val (.ref b1), .val (.ref b17), .val (.int (3 : Int32))] [(.int (3 : Int32)), (.ref b17), (.int (1 : Int32))]))
    obtain ⟨cl40, Ar40, aq40, aS40, aN40, aH40, aG40⟩ := id V27
    have hin40 : ¬ ((3 : Int32) < 0 ∨ cl40.slots.size ≤ ((3 : Int32)).toNatClampNeg) := inb_of aS40 ⟨by decide, by decide⟩
    refine own_go (X39.baloadBooleans hx (j := (3 : Int32)) (v := (.int (1 : Int32))) (by rw [e39]; exact Ar40.1) (State.isArrayOf_alike hZ.alike Ar40.2.1) Ar40.2.2 hin40 (aH40.at hin40 rfl) (g := (mkF m 74 #[.val (.int p0), .val (.ref b1), .val (.ref b17), .val (.int (3 : Int32))] [(.int (3 : Int32)), (.ref b17), (.int (1 : Int32))])) rfl rfl (hb hby at_74)) ?_
    show own_Ends _ _ _ _ (T39.setTop (mkF m 75 #[.val (.int p0), .val (.ref b1), .val (.ref b17), .val (.int (3 : Int32))] [(.int (1 : Int32)), (.int (1 : Int32))]))
    refine own_go (fun _ k => XS.icmpNo X39.here hx rfl (hb hby at_75) rfl (teq (by decide : (1 : Int32) = (1 : Int32))).2 k) ?_
    show own_Ends _ _ _ _ (T39.setTop (mkF m 78 #[.val (.int p0), .val (.ref b1), .val (.ref b17), .val (.int (3 : Int32))] []))
    refine own_go (fun _ k => XS.iconst X39.here hx rfl (hb hby at_78) k) ?_
    show own_Ends _ _ _ _ (T39.setTop (mkF m 79 #[.val (.int p0), .val (.ref b1), .val (.ref b17), .val (.int (3 : Int32))] [(.int (1 : Int32))]))
    refine own_go (fun _ k => XS.goto X39.here hx rfl (pc0 := 79) (pc' := 83) rfl (hb hby at_79) (by decide) (by decide) k) ?_
    show own_Ends _ _ _ _ (T39.setTop (mkF m 83 #[.val (.int p0), .val (.ref b1), .val (.ref b17), .val (.int (3 : Int32))] [(.int (1 : Int32))]))
    exact own_retZ X39 hx (BodyLoose.notSynchronized Bd) Bd.returns rfl (hb hby at_83) (by decide) (by decide) (by rw [e39]; exact ⟨rfl, N39⟩)
  · rw [hi27]
    show own_Ends _ _ _ _ (T27.setTop (mkF m 65 #[.val (.int p0), .val (.ref b1), .val (.ref b17), .unset] [(.int (4 : Int32))]))
    refine own_go (fun _ k => XS.istoreN X27.here hx rfl (hb hby at_65) rfl (l' := #[.val (.int p0), .val (.ref b1), .val (.ref b17), .val (.int (4 : Int32))]) rfl k) ?_
    show own_Ends _ _ _ _ (T27.setTop (mkF m 66 #[.val (.int p0), .val (.ref b1), .val (.ref b17), .val (.int (4 : Int32))] []))
    refine own_go (fun _ k => XS.aloadN X27.here hx rfl (hb hby at_66) rfl rfl k) ?_
    show own_Ends _ _ _ _ (T27.setTop (mkF m 67 #[.val (.int p0), .val (.ref b1), .val (.ref b17), .val (.int (4 : Int32))] [(.ref b1)]))
    refine own_go (fun _ k => XS.iloadN X27.here hx rfl (hb hby at_67) rfl k) ?_
    show own_Ends _ _ _ _ (T27.setTop (mkF m 68 #[.val (.int p0), .val (.ref b1), .val (.ref b17), .val (.int (4 : Int32))] [(.int (4 : Int32)), (.ref b1)]))
    obtain ⟨cl41, Ar41, aq41, aS41, aN41, aH41, aG41⟩ := id ((((((V16.ext E17).other W19 (Nat.ne_of_lt (Nat.lt_of_lt_of_le V16.lt (Nat.le_of_eq g17.symm)))).other W21 (Nat.ne_of_lt (Nat.lt_of_lt_of_le V16.lt (Nat.le_of_eq g17.symm)))).other W23 (Nat.ne_of_lt (Nat.lt_of_lt_of_le V16.lt (Nat.le_of_eq g17.symm)))).other W25 (Nat.ne_of_lt (Nat.lt_of_lt_of_le V16.lt (Nat.le_of_eq g17.symm)))).other W27 (Nat.ne_of_lt (Nat.lt_of_lt_of_le V16.lt (Nat.le_of_eq g17.symm))))
    have hin41 : ¬ ((4 : Int32) < 0 ∨ cl41.slots.size ≤ ((4 : Int32)).toNatClampNeg) := inb_of aS41 ⟨by decide, by decide⟩
    refine own_go (X27.aaload hx (j := (4 : Int32)) (v := (.ref a_WILD)) (by rw [e27]; exact Ar41.1) (State.isArrayOf_alike hZ.alike Ar41.2.1) rfl Ar41.2.2 hin41 (aH41.at hin41 rfl) (g := (mkF m 68 #[.val (.int p0), .val (.ref b1), .val (.ref b17), .val (.int (4 : Int32))] [(.int (4 : Int32)), (.ref b1)])) rfl rfl (hb hby at_68)) ?_
    show own_Ends _ _ _ _ (T27.setTop (mkF m 69 #[.val (.int p0), .val (.ref b1), .val (.ref b17), .val (.int (4 : Int32))] [(.ref a_WILD)]))
    obtain ⟨cq42, kq42, q42a, q42b, q42c⟩ := isOf hZ e27 (E_WILD.ext O27.2)
    obtain ⟨_, _, ⟨T42, Lz42, kz42, nz42⟩, -, X42, ⟨Lc42, hQ42, l42, y42, z42⟩, st42⟩ := X27.virtualBack hx (y := (⟨"com/example/cascade_save/cascadesave/ObjectShape", "givesKey", "()Z"⟩ : MethodName)) (z := (⟨"com/example/cascade_save/cascadesave/ObjectShape", "givesKey", "()Z"⟩ : MethodName)) hown (mvT hZ (hw _ (List.mem_of_getElem? (i := 16) rfl))) (mvT hZ (hw _ (List.mem_of_getElem? (i := 17) rfl))) (notFace_of_selects (args := #[]) (mvT hZ (hw _ (List.mem_of_getElem? (i := 19) rfl)))) (mvT hZ (hw _ (List.mem_of_getElem? (i := 19) rfl))) (mvT hZ (hw _ (List.mem_of_getElem? (i := 18) rfl))) (by decide) (backOf (W := 0) (own_givesKey l Z a0 hw [] a_WILD (0 : Int32) a_KEY_SPECIFIED a_KEY_ONLY h27 n0 O27 S_KEY_SPECIFIED S_KEY_ONLY (by rw [if_neg (Fld.ne F_WILD_ordinal F_KEY_SPECIFIED_ordinal (fun q => absurd (Value.int.inj q) (by decide))), if_neg (Fld.ne F_WILD_ordinal F_KEY_ONLY_ordinal (fun q => absurd (Value.int.inj q) (by decide)))])) hZ (hw _ (List.mem_of_getElem? (i := 20) rfl)) (hw _ (List.mem_of_getElem? (i := 3) rfl)) (by decide) (by decide)) q42a q42c (g := (mkF m 69 #[.val (.int p0), .val (.ref b1), .val (.ref b17), .val (.int (4 : Int32))] [(.ref a_WILD)])) rfl (by rw [hml]; rfl) (Steps.refl _) (argsL := []) (rest := []) (lenOf own_pd0 rfl) rfl (by show 2 * 0 + _ ≤ _; exact Nat.le_of_eq rfl) (hb hby at_69) (fun _ _ => ⟨rfl, e27, (by decide : 2 + 0 ≤ _), (by decide : 10 + 0 ≤ _)⟩)
    dsimp only [Pt.U, Pt.locs, Pt.cells, Pt.slots] at X42 l42 y42 z42 st42 hQ42
    subst l42 y42 z42
    obtain ⟨rfl, Nq42, e42⟩ := hQ42
    have N42 := Fr.app N27 Nq42
    refine own_tr st42 ?_
    show own_Ends _ _ _ _ (T42.setTop (mkF m 72 #[.val (.int p0), .val (.ref b1), .val (.ref b17), .val (.int (4 : Int32))] [(.int (0 : Int32))]))
    refine own_go (fun _ k => XS.aloadN X42.here hx rfl (hb hby at_72) rfl rfl k) ?_
    show own_Ends _ _ _ _ (T42.setTop (mkF m 73 #[.val (.int p0), .val (.ref b1), .val (.ref b17), .val (.int (4 : Int32))] [(.ref b17), (.int (0 : Int32))]))
    refine own_go (fun _ k => XS.iloadN X42.here hx rfl (hb hby at_73) rfl k) ?_
    show own_Ends _ _ _ _ (T42.setTop (mkF m 74 #[.val (.int p0), .val (.ref b1), .val (.ref b17), .val (.int (4 : Int32))] [(.int (4 : Int32)), (.ref b17), (.int (0 : Int32))]))
    obtain ⟨cl43, Ar43, aq43, aS43, aN43, aH43, aG43⟩ := id V27
    have hin43 : ¬ ((4 : Int32) < 0 ∨ cl43.slots.size ≤ ((4 : Int32)).toNatClampNeg) := inb_of aS43 ⟨by decide, by decide⟩
    refine own_go (X42.baloadBooleans hx (j := (4 : Int32)) (v := (.int (0 : Int32))) (by rw [e42]; exact Ar43.1) (State.isArrayOf_alike hZ.alike Ar43.2.1) Ar43.2.2 hin43 (aH43.at hin43 rfl) (g := (mkF m 74 #[.val (.int p0), .val (.ref b1), .val (.ref b17), .val (.int (4 : Int32))] [(.int (4 : Int32)), (.ref b17), (.int (0 : Int32))])) rfl rfl (hb hby at_74)) ?_
    show own_Ends _ _ _ _ (T42.setTop (mkF m 75 #[.val (.int p0), .val (.ref b1), .val (.ref b17), .val (.int (4 : Int32))] [(.int (0 : Int32)), (.int (0 : Int32))]))
    refine own_go (fun _ k => XS.icmpNo X42.here hx rfl (hb hby at_75) rfl (teq (by decide : (0 : Int32) = (0 : Int32))).2 k) ?_
    show own_Ends _ _ _ _ (T42.setTop (mkF m 78 #[.val (.int p0), .val (.ref b1), .val (.ref b17), .val (.int (4 : Int32))] []))
    refine own_go (fun _ k => XS.iconst X42.here hx rfl (hb hby at_78) k) ?_
    show own_Ends _ _ _ _ (T42.setTop (mkF m 79 #[.val (.int p0), .val (.ref b1), .val (.ref b17), .val (.int (4 : Int32))] [(.int (1 : Int32))]))
    refine own_go (fun _ k => XS.goto X42.here hx rfl (pc0 := 79) (pc' := 83) rfl (hb hby at_79) (by decide) (by decide) k) ?_
    show own_Ends _ _ _ _ (T42.setTop (mkF m 83 #[.val (.int p0), .val (.ref b1), .val (.ref b17), .val (.int (4 : Int32))] [(.int (1 : Int32))]))
    exact own_retZ X42 hx (BodyLoose.notSynchronized Bd) Bd.returns rfl (hb hby at_83) (by decide) (by decide) (by rw [e42]; exact ⟨rfl, N42⟩)
set_option maxRecDepth 65536 in
set_option maxHeartbeats 40000000 in
theorem comes_1 {Post : Tables → Env → Array Value → State → Outcome → State → Prop} (hpost : ∀ tb e args s v u, (limb_1_1.after args s (.returned v) u = true ∧ limb_1_2.after args s (.returned v) u = true ∧ True) → FrameEnd s (.returned v) u (Jvm.fieldLocs frame_1_writes args s ++ Jvm.arrayLocs frame_1_arrays args s ++ Jvm.staticLocs frame_1_statics s) 16 128 → Post tb e args s (.returned v) u) :
    ArmFor flags0 classFile x code maxLocals ret World_1 tables_1 room_1 Calls_1 rest_1 Pre_1 Post := by
  intro l hfl _ _ p e ha hc hk s m args below hf hA hF happ hP
  obtain ⟨hcalls, hrest, hpre⟩ := hP
  obtain ⟨-, -, -, hnamed, -, -, -, hat⟩ := (Spec.applies_iff hf).mp happ
  obtain ⟨hg, hn⟩ := and_e (Cond.before_iff.mp (show (Jvm.Cond.and given_1 narrow_1).before args s = true from hpre))
  obtain ⟨hg0, hg1⟩ := and_e hg
  obtain ⟨w0, rfl⟩ : ∃ w0 : Value, args = #[w0] := by
    have hs : args.size = 1 := by simpa [Cond.value, given_1] using hg0
    obtain ⟨L⟩ := args
    match L, hs with
    | [w0], _ => exact ⟨w0, rfl⟩
  have hw := fun d (hd : d ∈ tables_1) => atoms_spec (ws := Jvm.Cond.code x code maxLocals ret :: tables_1) hat d (List.mem_cons_of_mem _ hd)
  have hfit : Fit s := fun {y c} hc i hi => by
    obtain ⟨ha, rfl⟩ := Array.getElem?_eq_some_iff.mp hc
    have q := List.all_eq_true.mp ((Array.all_eq_true_iff_forall_mem.mp hF) _ (Array.getElem_mem ha)) i (List.mem_range.mpr hi)
    simpa [Array.getElem?_eq_getElem hi] using q
  obtain ⟨i0, ei0⟩ := is_v hg1
  obtain rfl : w0 = (.int i0) := Option.some.inj ei0
  obtain ⟨hn0, hm0⟩ := and_e hn
  obtain ⟨a_ID_SPECIFIED, ev_ID_SPECIFIED⟩ := exa_v hn0
  have S_ID_SPECIFIED : Sta s s.heap "com/example/cascade_save/cascadesave/ObjectShape" "ID_SPECIFIED" "Lcom/example/cascade_save/cascadesave/ObjectShape;" (.ref a_ID_SPECIFIED) := Sta.start ev_ID_SPECIFIED (Or.inr ⟨(hw _ (List.mem_of_getElem? (i := 3) rfl)), (hw _ (List.mem_of_getElem? (i := 4) rfl))⟩)
  have E_ID_SPECIFIED : Exa s s.heap a_ID_SPECIFIED "com/example/cascade_save/cascadesave/ObjectShape" := Exa.start ev_ID_SPECIFIED hn0
  obtain ⟨hn1, hm1⟩ := and_e hm0
  obtain ⟨a_ID_ONLY, ev_ID_ONLY⟩ := exa_v hn1
  have S_ID_ONLY : Sta s s.heap "com/example/cascade_save/cascadesave/ObjectShape" "ID_ONLY" "Lcom/example/cascade_save/cascadesave/ObjectShape;" (.ref a_ID_ONLY) := Sta.start ev_ID_ONLY (Or.inr ⟨(hw _ (List.mem_of_getElem? (i := 3) rfl)), (hw _ (List.mem_of_getElem? (i := 7) rfl))⟩)
  have E_ID_ONLY : Exa s s.heap a_ID_ONLY "com/example/cascade_save/cascadesave/ObjectShape" := Exa.start ev_ID_ONLY hn1
  obtain ⟨hn2, hm2⟩ := and_e hm1
  obtain ⟨a_KEY_SPECIFIED, ev_KEY_SPECIFIED⟩ := exa_v hn2
  have S_KEY_SPECIFIED : Sta s s.heap "com/example/cascade_save/cascadesave/ObjectShape" "KEY_SPECIFIED" "Lcom/example/cascade_save/cascadesave/ObjectShape;" (.ref a_KEY_SPECIFIED) := Sta.start ev_KEY_SPECIFIED (Or.inr ⟨(hw _ (List.mem_of_getElem? (i := 3) rfl)), (hw _ (List.mem_of_getElem? (i := 9) rfl))⟩)
  have E_KEY_SPECIFIED : Exa s s.heap a_KEY_SPECIFIED "com/example/cascade_save/cascadesave/ObjectShape" := Exa.start ev_KEY_SPECIFIED hn2
  obtain ⟨hn3, hm3⟩ := and_e hm2
  obtain ⟨a_KEY_ONLY, ev_KEY_ONLY⟩ := exa_v hn3
  have S_KEY_ONLY : Sta s s.heap "com/example/cascade_save/cascadesave/ObjectShape" "KEY_ONLY" "Lcom/example/cascade_save/cascadesave/ObjectShape;" (.ref a_KEY_ONLY) := Sta.start ev_KEY_ONLY (Or.inr ⟨(hw _ (List.mem_of_getElem? (i := 3) rfl)), (hw _ (List.mem_of_getElem? (i := 11) rfl))⟩)
  have E_KEY_ONLY : Exa s s.heap a_KEY_ONLY "com/example/cascade_save/cascadesave/ObjectShape" := Exa.start ev_KEY_ONLY hn3
  obtain ⟨hn4, hm4⟩ := and_e hm3
  obtain ⟨a_WILD, ev_WILD⟩ := exa_v hn4
  have S_WILD : Sta s s.heap "com/example/cascade_save/cascadesave/ObjectShape" "WILD" "Lcom/example/cascade_save/cascadesave/ObjectShape;" (.ref a_WILD) := Sta.start ev_WILD (Or.inr ⟨(hw _ (List.mem_of_getElem? (i := 3) rfl)), (hw _ (List.mem_of_getElem? (i := 13) rfl))⟩)
  have E_WILD : Exa s s.heap a_WILD "com/example/cascade_save/cascadesave/ObjectShape" := Exa.start ev_WILD hn4
  obtain ⟨hn5, hm5⟩ := and_e hm4
  have F_ID_SPECIFIED_ordinal : Fld s s.heap a_ID_SPECIFIED "java/lang/Enum" "ordinal" "I" (.int (0 : Int32)) := own_fldI ev_ID_SPECIFIED hn5
  obtain ⟨hn6, hm6⟩ := and_e hm5
  have F_KEY_SPECIFIED_ordinal : Fld s s.heap a_KEY_SPECIFIED "java/lang/Enum" "ordinal" "I" (.int (2 : Int32)) := own_fldI ev_KEY_SPECIFIED hn6
  obtain ⟨hn7, hm7⟩ := and_e hm6
  have F_KEY_ONLY_ordinal : Fld s s.heap a_KEY_ONLY "java/lang/Enum" "ordinal" "I" (.int (3 : Int32)) := own_fldI ev_KEY_ONLY hn7
  obtain ⟨hn8, hm8⟩ := and_e hm7
  have F_ID_ONLY_ordinal : Fld s s.heap a_ID_ONLY "java/lang/Enum" "ordinal" "I" (.int (1 : Int32)) := own_fldI ev_ID_ONLY hn8
  have F_WILD_ordinal : Fld s s.heap a_WILD "java/lang/Enum" "ordinal" "I" (.int (4 : Int32)) := own_fldI ev_WILD hm8
  obtain ⟨n, o, h1, h2, h3, _, L, rfl, ⟨rfl, N⟩, hq⟩ := own_law l s _ hw tables_1 i0 a_ID_SPECIFIED a_ID_ONLY a_KEY_SPECIFIED a_KEY_ONLY a_WILD s.heap s.heap.size (Old.start s) S_ID_SPECIFIED E_ID_SPECIFIED F_ID_SPECIFIED_ordinal S_ID_ONLY E_ID_ONLY F_ID_ONLY_ordinal S_KEY_SPECIFIED E_KEY_SPECIFIED F_KEY_SPECIFIED_ordinal S_KEY_ONLY E_KEY_ONLY F_KEY_ONLY_ordinal S_WILD E_WILD F_WILD_ordinal p e ha hc hk s m _ below hf ((Spec.applies_iff_loose hf).mp happ).1 ⟨rfl, State.Warmed39.refl s, rfl⟩ trivial
  refine ⟨n, _, h1, h2, h3, hpost _ _ _ _ _ _ ⟨Cond.after_iff.mpr rfl, Cond.after_iff.mpr (eq_i res_at (Term.int_eval (1)) rfl), trivial⟩ ⟨hq.1, hq.2.1, (hq.2.2.sift fun y hy => Or.inr (N y hy)).mono (by decide) (by decide)⟩⟩
theorem main_1_1 : Claimed_1_1 := comes_1 fun _ _ _ _ _ _ h hF => ⟨h.1, hF⟩
theorem main_1_2 : Claimed_1_2 := comes_1 fun _ _ _ _ _ _ h hF => ⟨h.2.1, hF⟩
end Jvm.Pilot.@@N@@
namespace Jvm.Pilot.@@N@@
open Jvm Jvm.ClassFile Sem Op Lib Jvm.Free Jvm.Stand Jvm.Pilot.@@N@@.Jvm.D
/-! MADE BY PROGRAM (witnessworld.py) out of the Statement's table words and the real class files: 15 classes; the members and pool entries that the words name. The judged class is class 1, her method 1. -/
namespace start1
open Jvm.ClassFile
def u (s : String) : CpInfo := .utf8 (stringToUtf16 s)
/-- a pool by its gaps: so many unusable entries, then the entry; so many at the end -/
def gap : Nat → List CpInfo → List CpInfo
  | 0, r => r
  | n + 1, r => .unusable :: gap n r
def poolList (es : List (Nat × CpInfo)) (last : Nat) : List CpInfo := es.foldr (fun e r => gap e.1 (e.2 :: r)) (gap last [])
def pool (es : List (Nat × CpInfo)) (last : Nat) : Array CpInfo := ⟨poolList es last⟩
def fileOf (pool : Array CpInfo) (this : Nat) (attrs : Array Attribute := #[]) (ms : Array MethodInfo := #[]) (fl : Nat := 33) (sup : Nat := 0) (ifs : Array Nat := #[]) (fds : Array FieldInfo := #[]) : ClassFile where
  minorVersion := 0
  majorVersion := 65
  constantPool := pool
  accessFlags := fl
  thisClass := this
  superClass := sup
  interfaces := ifs
  fields := fds
  methods := ms
  attributes := attrs
def plain (name : String) (sup : Option ClassId) : Class where
  name := name
  kind := .ordinary
  loader := none
  accessFlags := 33
  super := sup
  interfaces := #[]
  cf := none
  fields := #[]
  methods := #[]
  instanceTypes := #[]
  staticTypes := #[]
  resolved := #[]
  callSites := []
  init := .initialized
  statics := none
  mirror := none

def pool0 : Array CpInfo := pool [(5, u "<init>"), (0, u "()V"), (1, .class_ 10), (1, u "java/lang/Object")] 113

def k0m0 : Method := { name := "<init>", desc := "()V", sig := { parameters := [], returnType := none }, accessFlags := 1, code := none }
/-- java/lang/Object -/
def k0 : Class := { plain "java/lang/Object" none with
  accessFlags := 33
  interfaces := #[]
  cf := some (fileOf pool0 8 #[] #[{ accessFlags := 1, nameIndex := 5, descriptorIndex := 6, attributes := #[] }] 33 0 #[] #[])
  fields := #[]
  methods := #[k0m0]
  instanceTypes := #[]
  staticTypes := #[]
  resolved := Array.replicate 124 none
  statics := none }

def pool1 : Array CpInfo := pool [(2, .class_ 4), (1, u "java/lang/Object"), (0, u "<init>"), (0, u "()V"), (0, .class_ 8), (0, u "com/example/cascade_save/cascadesave/ObjectShape"), (0, .fieldref 7 10), (0, .nameAndType 11 12), (0, u "ID_SPECIFIED"), (0, u "Lcom/example/cascade_save/cascadesave/ObjectShape;"), (0, .fieldref 7 14), (0, .nameAndType 15 12), (0, u "ID_ONLY"), (0, .fieldref 7 17), (0, .nameAndType 18 12), (0, u "KEY_SPECIFIED"), (0, .fieldref 7 20), (0, .nameAndType 21 12), (0, u "KEY_ONLY"), (0, .fieldref 7 23), (0, .nameAndType 24 12), (0, u "WILD"), (0, .integer 2147483647), (0, .methodref 7 27), (0, .nameAndType 28 29), (0, u "givesKey"), (0, u "()Z"), (0, .class_ 31), (0, u "com/example/cascade_save/cascadesave/ObjectShapeGivesKeyPinLaw"), (2, u "law"), (0, u "(I)Z")] 7

def k1m0 : Method := { name := "<init>", desc := "()V", sig := { parameters := [], returnType := none }, accessFlags := 1, code := none }
def k1c1 : Code := { maxStack := 4, maxLocals := 4, code := code, exceptionTable := #[], attributes := #[] }
def k1m1 : Method := { name := "law", desc := "(I)Z", sig := { parameters := [.int], returnType := some .boolean }, accessFlags := 9, code := some k1c1 }
/-- com/example/cascade_save/cascadesave/ObjectShapeGivesKeyPinLaw -/
def k1 : Class := { plain "com/example/cascade_save/cascadesave/ObjectShapeGivesKeyPinLaw" (some 0) with
  accessFlags := 49
  interfaces := #[]
  cf := some (fileOf pool1 30 #[] #[{ accessFlags := 1, nameIndex := 5, descriptorIndex := 6, attributes := #[] }, { accessFlags := 9, nameIndex := 34, descriptorIndex := 35, attributes := #[] }] 49 2 #[] #[])
  fields := #[]
  methods := #[k1m0, k1m1]
  instanceTypes := #[]
  staticTypes := #[]
  resolved := Array.replicate 43 none
  statics := none }

def pool2 : Array CpInfo := pool [(1, .class_ 2), (0, u "java/lang/constant/Constable"), (0, .class_ 4), (0, u "java/lang/Object")] 6

/-- java/lang/constant/Constable -/
def k2 : Class := { plain "java/lang/constant/Constable" (some 0) with
  accessFlags := 1537
  interfaces := #[]
  cf := some (fileOf pool2 1 #[] #[] 1537 3 #[] #[])
  fields := #[]
  methods := #[]
  instanceTypes := #[]
  staticTypes := #[]
  resolved := Array.replicate 11 none
  statics := none }

def pool3 : Array CpInfo := pool [(1, .class_ 2), (0, u "java/lang/Comparable"), (0, .class_ 4), (0, u "java/lang/Object")] 7

/-- java/lang/Comparable -/
def k3 : Class := { plain "java/lang/Comparable" (some 0) with
  accessFlags := 1537
  interfaces := #[]
  cf := some (fileOf pool3 1 #[] #[] 1537 3 #[] #[])
  fields := #[]
  methods := #[]
  instanceTypes := #[]
  staticTypes := #[]
  resolved := Array.replicate 12 none
  statics := none }

def pool4 : Array CpInfo := pool [(1, .class_ 2), (0, u "java/io/Serializable"), (0, .class_ 4), (0, u "java/lang/Object")] 2

/-- java/io/Serializable -/
def k4 : Class := { plain "java/io/Serializable" (some 0) with
  accessFlags := 1537
  interfaces := #[]
  cf := some (fileOf pool4 1 #[] #[] 1537 3 #[] #[])
  fields := #[]
  methods := #[]
  instanceTypes := #[]
  staticTypes := #[]
  resolved := Array.replicate 7 none
  statics := none }

def pool5 : Array CpInfo := pool [(2, .class_ 4), (1, u "java/lang/Enum"), (0, u "name"), (0, u "Ljava/lang/String;"), (2, u "ordinal"), (0, u "I"), (1, .class_ 14), (1, u "java/lang/Object"), (4, u "hash"), (86, .class_ 108), (1, u "java/lang/Enum$EnumDesc"), (2, .class_ 112), (0, u "java/lang/constant/Constable"), (0, .class_ 114), (0, u "java/lang/Comparable"), (0, .class_ 116), (0, u "java/io/Serializable")] 87

/-- java/lang/Enum -/
def k5 : Class := { plain "java/lang/Enum" (some 0) with
  accessFlags := 1057
  interfaces := #[2, 3, 4]
  cf := some (fileOf pool5 2 #[.nestMembers #[106]] #[] 1057 12 #[111, 113, 115] #[{ accessFlags := 18, nameIndex := 5, descriptorIndex := 6, attributes := #[] }, { accessFlags := 18, nameIndex := 9, descriptorIndex := 10, attributes := #[] }, { accessFlags := 2, nameIndex := 19, descriptorIndex := 10, attributes := #[] }])
  fields := #[{ name := "name", type := (.object "java/lang/String"), accessFlags := 18, slot := 0, constantValue := 0 }, { name := "ordinal", type := .int, accessFlags := 18, slot := 1, constantValue := 0 }, { name := "hash", type := .int, accessFlags := 2, slot := 2, constantValue := 0 }]
  methods := #[]
  instanceTypes := #[(.object "java/lang/String"), .int, .int]
  staticTypes := #[]
  resolved := Array.replicate 204 none
  statics := none }

def pool6 : Array CpInfo := pool [(1, .class_ 2), (0, u "com/example/cascade_save/cascadesave/ObjectShape"), (2, u "ID_SPECIFIED"), (0, u "Lcom/example/cascade_save/cascadesave/ObjectShape;"), (2, u "ID_ONLY"), (0, .fieldref 1 11), (0, .nameAndType 12 6), (0, u "KEY_SPECIFIED"), (0, .fieldref 1 14), (0, .nameAndType 15 6), (0, u "KEY_ONLY"), (2, u "WILD"), (2, u "$VALUES"), (0, u "[Lcom/example/cascade_save/cascadesave/ObjectShape;"), (6, .class_ 31), (1, u "java/lang/Enum"), (54, u "()Z"), (27, u "givesKey")] 4

def k6c0 : Code := { maxStack := 2, maxLocals := 1, code := prog_46_method_7_code, exceptionTable := #[], attributes := #[] }
def k6m0 : Method := { name := "givesKey", desc := "()Z", sig := { parameters := [], returnType := some .boolean }, accessFlags := 0, code := some k6c0 }
/-- com/example/cascade_save/cascadesave/ObjectShape -/
def k6 : Class := { plain "com/example/cascade_save/cascadesave/ObjectShape" (some 5) with
  accessFlags := 16433
  interfaces := #[]
  cf := some (fileOf pool6 1 #[] #[{ accessFlags := 0, nameIndex := 114, descriptorIndex := 86, attributes := #[] }] 16433 29 #[] #[{ accessFlags := 16409, nameIndex := 5, descriptorIndex := 6, attributes := #[] }, { accessFlags := 16409, nameIndex := 9, descriptorIndex := 6, attributes := #[] }, { accessFlags := 16409, nameIndex := 12, descriptorIndex := 6, attributes := #[] }, { accessFlags := 16409, nameIndex := 15, descriptorIndex := 6, attributes := #[] }, { accessFlags := 16409, nameIndex := 18, descriptorIndex := 6, attributes := #[] }, { accessFlags := 4122, nameIndex := 21, descriptorIndex := 22, attributes := #[] }])
  fields := #[{ name := "ID_SPECIFIED", type := (.object "com/example/cascade_save/cascadesave/ObjectShape"), accessFlags := 16409, slot := 0, constantValue := 0 }, { name := "ID_ONLY", type := (.object "com/example/cascade_save/cascadesave/ObjectShape"), accessFlags := 16409, slot := 1, constantValue := 0 }, { name := "KEY_SPECIFIED", type := (.object "com/example/cascade_save/cascadesave/ObjectShape"), accessFlags := 16409, slot := 2, constantValue := 0 }, { name := "KEY_ONLY", type := (.object "com/example/cascade_save/cascadesave/ObjectShape"), accessFlags := 16409, slot := 3, constantValue := 0 }, { name := "WILD", type := (.object "com/example/cascade_save/cascadesave/ObjectShape"), accessFlags := 16409, slot := 4, constantValue := 0 }, { name := "$VALUES", type := (.array (.object "com/example/cascade_save/cascadesave/ObjectShape")), accessFlags := 4122, slot := 5, constantValue := 0 }]
  methods := #[k6m0]
  instanceTypes := #[(.object "java/lang/String"), .int, .int]
  staticTypes := #[(.object "com/example/cascade_save/cascadesave/ObjectShape"), (.object "com/example/cascade_save/cascadesave/ObjectShape"), (.object "com/example/cascade_save/cascadesave/ObjectShape"), (.object "com/example/cascade_save/cascadesave/ObjectShape"), (.object "com/example/cascade_save/cascadesave/ObjectShape"), (.array (.object "com/example/cascade_save/cascadesave/ObjectShape"))]
  resolved := Array.replicate 119 none
  statics := some 0 }

def pool7 : Array CpInfo := pool [(1, u "java/lang/Cloneable"), (0, .class_ 1), (0, u "java/lang/Object"), (0, .class_ 3)] 3

/-- java/lang/Cloneable -/
def k7 : Class := { plain "java/lang/Cloneable" (some 0) with
  accessFlags := 1537
  interfaces := #[]
  cf := some (fileOf pool7 2 #[] #[] 1537 4 #[] #[])
  fields := #[]
  methods := #[]
  instanceTypes := #[]
  staticTypes := #[]
  resolved := Array.replicate 8 none
  statics := none }

/-- the primitive boolean -/
def k8 : Class := { plain "boolean" none with kind := .primitive 'Z', accessFlags := 0x411 }
/-- [Z -/
def k9 : Class := { plain "[Z" (some 0) with kind := .array 8 .boolean, interfaces := #[7, 4], accessFlags := 1041 }

/-- the primitive byte -/
def k10 : Class := { plain "byte" none with kind := .primitive 'B', accessFlags := 0x411 }
/-- [B -/
def k11 : Class := { plain "[B" (some 0) with kind := .array 10 .byte, interfaces := #[7, 4], accessFlags := 1041 }

/-- the primitive int -/
def k12 : Class := { plain "int" none with kind := .primitive 'I', accessFlags := 0x411 }
/-- [I -/
def k13 : Class := { plain "[I" (some 0) with kind := .array 12 .int, interfaces := #[7, 4], accessFlags := 1041 }

/-- [Lcom/example/cascade_save/cascadesave/ObjectShape; -/
def k14 : Class := { plain "[Lcom/example/cascade_save/cascadesave/ObjectShape;" (some 0) with kind := .array 6 (.object "com/example/cascade_save/cascadesave/ObjectShape"), interfaces := #[7, 4], accessFlags := 1041 }

def heap : Heap := #[{ cls := 6, slots := #[.ref 1, .ref 2, .ref 3, .ref 4, .ref 5, .null], vm := .statics 6 },
  { cls := 6, slots := #[.null, .int 0, .int 0], vm := .none },
  { cls := 6, slots := #[.null, .int 1, .int 0], vm := .none },
  { cls := 6, slots := #[.null, .int 2, .int 0], vm := .none },
  { cls := 6, slots := #[.null, .int 3, .int 0], vm := .none },
  { cls := 6, slots := #[.null, .int 4, .int 0], vm := .none }]
def classes : Array Class := #[k0, k1, k2, k3, k4, k5, k6, k7, k8, k9, k10, k11, k12, k13, k14]
def interned : List (Array UInt16 × Addr) := []
def slotsUsed : Nat := 21
def theMethod : MethodId := ⟨1, 1⟩
def args0 : Array Value := #[.int 2]
def aboutOver (below : List Frame) : State where
  vm := { classes := classes, interned := interned.toArray }
  heap := heap
  slotsUsed := slotsUsed
  threads := #[{ frames := .invoking theMethod args0 :: below }]
def below0 : List Frame := [.native { method := ⟨0, 0⟩, args := #[] }]
def about1 : State := aboutOver below0
def p0 : Program := .bare "" "" ""
def e0 : Env := launch0.env 0 0 0
theorem w_frames : about1.frames = Frame.invoking theMethod args0 :: below0 := rfl
set_option maxRecDepth 65536 in
theorem w_args : argsFit about1.vm theMethod args0 = true := by decide +kernel
set_option maxRecDepth 65536 in
theorem w_heap : heapFits about1 = true := by decide +kernel
set_option maxRecDepth 65536 in
theorem w_runnable : about1.curStatus? = some .runnable := by decide +kernel
set_option maxRecDepth 65536 in
theorem w_alone : about1.alone = true := by decide +kernel
set_option maxRecDepth 65536 in
theorem w_named : about1.methodNamed? x = some theMethod := by decide +kernel
set_option maxRecDepth 65536 in
theorem w_hears : about1.hears theMethod below0 = true := by decide +kernel
set_option maxRecDepth 65536 in
theorem w_ripe : about1.ripe theMethod args0 below0 = true := by decide +kernel
theorem w_running : about1.status = .running := rfl
set_option maxRecDepth 65536 in
theorem w_room : about1.hasRoom e0.platform room_1 = true :=
  launch0.hasRoom_least _ room_1 (by decide +kernel) (by decide +kernel) (by decide +kernel) (by decide +kernel) (by decide +kernel) (by decide +kernel)
theorem allAtoms_all (ts : List Jvm.Cond) (a : Array Jvm.Value) (st : Jvm.State) : (allAtoms ts).before a st = ts.all (fun c => c.before a st) := by
  induction ts with
  | nil => rfl
  | cons c t ih =>
    show (Jvm.Cond.and c (allAtoms t)).before a st = _
    rw [Jvm.Cond.before_and, ih, List.all_cons]
def words1 : List Jvm.Cond := Jvm.Cond.code x code maxLocals ret :: tables_1
/-- a 'code' word, met by the world's own term for the bytes: nothing is compared byte by byte -/
theorem code_word {y : MethodName} {bytes : ByteArray} {mx : Nat} {rt : Option FieldType} {a : Array Value} {s : State} {m : MethodId} {meth : Method} {c : Code} (h1 : s.methodNamed? y = some m) (h2 : s.vm.method? m = some meth) (h3 : meth.code = some c) (h4 : c.code = bytes)
    (h5 : (c.maxLocals == mx && c.exceptionTable.isEmpty && decide (c.maxStack ≤ mostOperands) && decide (meth.sig.returnType = rt) && !meth.locks && decide (parseMethodDescriptor y.desc = some meth.sig)) = true) : (Jvm.Cond.code y bytes mx rt).before a s = true := by
  simp only [Bool.and_eq_true, beq_iff_eq, Bool.not_eq_true', decide_eq_true_eq] at h5
  obtain ⟨⟨⟨⟨⟨g1, g2⟩, g3⟩, g4⟩, g5⟩, g6⟩ := h5
  simp [Cond.before, Cond.holds, Cond.value, h1, h2, h3, h4, g1, g2, g3, g4, g5, g6]
def isCode : Jvm.Cond → Bool
  | .code _ _ _ _ => true
  | _ => false
theorem all_split {L : List Jvm.Cond} {P : Jvm.Cond → Bool} (h1 : L.all (fun c => isCode c || P c) = true) (h2 : ∀ c ∈ L.filter isCode, P c = true) : L.all P = true := by
  refine List.all_eq_true.mpr fun c hc => ?_
  have h := List.all_eq_true.mp h1 c hc
  rcases Bool.eq_false_or_eq_true (isCode c) with hi | hi
  · exact h2 c (List.mem_filter.mpr ⟨hc, hi⟩)
  · simpa [hi] using h
set_option maxRecDepth 65536 in
theorem w_c0 : (Jvm.Cond.code x code maxLocals ret).before args0 about1 = true := code_word (m := ⟨1, 1⟩) (meth := k1m1) (c := k1c1) (by decide +kernel) rfl rfl rfl (by decide +kernel)
set_option maxRecDepth 65536 in
theorem w_c1 : (Jvm.Cond.code ({ cls := "com/example/cascade_save/cascadesave/ObjectShape", name := "givesKey", desc := "()Z" } : Jvm.MethodName) prog_46_method_7_code (1 : Nat) (Option.some Jvm.ClassFile.FieldType.boolean)).before args0 about1 = true := code_word (m := ⟨6, 0⟩) (meth := k6m0) (c := k6c0) (by decide +kernel) rfl rfl rfl (by decide +kernel)
def codes1 : List Jvm.Cond := [Jvm.Cond.code x code maxLocals ret, Jvm.Cond.code ({ cls := "com/example/cascade_save/cascadesave/ObjectShape", name := "givesKey", desc := "()Z" } : Jvm.MethodName) prog_46_method_7_code (1 : Nat) (Option.some Jvm.ClassFile.FieldType.boolean)]
set_option maxRecDepth 65536 in
theorem codes_eq : words1.filter isCode = codes1 := rfl
theorem w_codes : ∀ c ∈ words1.filter isCode, c.before args0 about1 = true := by
  rw [codes_eq]
  intro c hc
  simp only [codes1, List.mem_cons, List.not_mem_nil, or_false] at hc
  rcases hc with rfl | rfl
  · exact w_c0
  · exact w_c1
set_option maxRecDepth 65536 in
theorem w_t1 : words1.all (fun c => isCode c || c.before args0 about1) = true := by decide +kernel
theorem w_tables : (allAtoms (Jvm.Cond.code x code maxLocals ret :: tables_1)).before args0 about1 = true := by
  rw [allAtoms_all]
  show words1.all (fun c => c.before args0 about1) = true
  refine all_split ?_ w_codes
  rw [w_t1]
set_option maxRecDepth 65536 in
theorem w_case : (Jvm.Cond.and given_1 narrow_1).before args0 about1 = true := by decide +kernel
theorem w_applies : (headSpec (Jvm.Cond.code x code maxLocals ret :: tables_1) room_1).applies x e0.platform about1 = true :=
  (Spec.applies_iff w_frames).mpr ⟨w_running, w_runnable, w_alone, w_named, w_hears, w_ripe, w_room, w_tables⟩
theorem atStart : AtStart classFile x code maxLocals ret World_1 tables_1 room_1 Calls_1 rest_1 Pre_1 launch0 p0 e0 about1 theMethod args0 below0 :=
  ⟨lists_1, trivial, launch0.admits_env _ _ _, launch0.least_env, fairChoices_fair.cas, fairChoices_fair.clock, w_frames, w_args, w_heap, w_applies, trivial, trivial, w_case⟩
end start1
theorem witness_1 : WitnessClaimed_1 := ⟨start1.p0, start1.e0, start1.about1, start1.theMethod, start1.args0, start1.below0, start1.atStart⟩
end Jvm.Pilot.@@N@@
