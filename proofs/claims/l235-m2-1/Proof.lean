import JvmDerived
import JvmDerived.Pilot.@@N@@Statement
import JvmDerived.Pilot.@@N@@Code
set_option linter.unusedVariables false
set_option linter.unusedSimpArgs false
namespace Jvm.Pilot.@@N@@
open Jvm Jvm.ClassFile Sem Op Lib Jvm.Free Jvm.Stand Jvm.LawKit Jvm.RoadKit Bundle Jvm.Pilot.@@N@@.Jvm.D
/-! own_Ends: from the state T the run ends well -/
def own_Ends (p : Program) (e : Env) (below : List Frame) (P : State → Outcome → Prop) (T : State) : Prop := ∃ U o, Steps p.tables e below T U ∧ U.status = .running ∧ Ended U below o ∧ P U o
def own_Got (s : State) (Q : Option Value → Heap → List Loc → Prop) (C N : Nat) (U : State) (o : Outcome) : Prop := ∃ v L, o = .returned v ∧ Q v U.heap L ∧ FrameEnd s o U L C N
section Own
variable {p : Program} {l : Launch} {e : Env} {R : Room} {s : State} {m : MethodId} {args : Array Value} {below : List Frame} {meth : Method} {c : Code} {T T' : State} {locs : List Loc} {cells slots : Nat} {P : State → Outcome → Prop}
theorem own_go (h : ∀ target, Steps p.tables e below T' target → Steps p.tables e below T target) (k : own_Ends p e below P T') : own_Ends p e below P T := by
  obtain ⟨U, o, h1, h2⟩ := k; exact ⟨U, o, h _ h1, h2⟩
theorem own_tr (h : Steps p.tables e below T T') (k : own_Ends p e below P T') : own_Ends p e below P T := by
  obtain ⟨U, o, h1, h2⟩ := k; exact ⟨U, o, h.trans h1, h2⟩
variable {Q : Option Value → Heap → List Loc → Prop} {C N : Nat}
theorem own_ret (X : Stand p l e R s m args below meth c T locs cells slots) (hx : p.tables.exec = Jvm.exec) (lk : meth.locks = false) {pc : Nat} {Ls : Array Slot} {w : Value} {t : FieldType} {i : Instr} {rest : List Value} (hret : meth.sig.returnType = some t) (hn : narrow t w = w)
    (hi : (i = .ireturn ∧ (t = .int ∨ t = .boolean ∨ t = .byte ∨ t = .char ∨ t = .short) ∧ ∃ z, w = .int z) ∨ (i = .lreturn ∧ t = .long ∧ ∃ z, w = .long z) ∨ (i = .dreturn ∧ t = .double ∧ ∃ z, w = .double z) ∨ (i = .freturn ∧ t = .float ∧ ∃ z, w = .float z) ∨ (i = .areturn ∧ t.isReference = true ∧ w.isRef = true))
    (hd : decode c.code pc = .ok (i, 1)) (hC : cells ≤ C) (hN : slots ≤ N) (hq : Q (some w) T.heap locs) : own_Ends p e below (own_Got s Q C N) (T.setTop (mkF m pc Ls (w :: rest))) := by
  obtain ⟨fs, hr, hrun, hended, hW, hsame⟩ := X.leave (v := some w) (fun h => by rw [hret] at h; cases h) lk
  exact ⟨_, _, retOut X hx hret hn hi hd hr, hrun, hended, _, _, rfl, hq, ⟨_, rfl⟩, hW, hsame.mono hC hN⟩
theorem own_retI (X : Stand p l e R s m args below meth c T locs cells slots) (hx : p.tables.exec = Jvm.exec) (lk : meth.locks = false) {pc : Nat} {Ls : Array Slot} {z : Int32} {rest : List Value} (hret : meth.sig.returnType = some .int)
    (hd : decode c.code pc = .ok (.ireturn, 1)) (hC : cells ≤ C) (hN : slots ≤ N) (hq : Q (some (.int z)) T.heap locs) : own_Ends p e below (own_Got s Q C N) (T.setTop (mkF m pc Ls (.int z :: rest))) :=
  own_ret X hx lk hret rfl (Or.inl ⟨rfl, Or.inl rfl, _, rfl⟩) hd hC hN hq
theorem own_retZ (X : Stand p l e R s m args below meth c T locs cells slots) (hx : p.tables.exec = Jvm.exec) (lk : meth.locks = false) {pc : Nat} {Ls : Array Slot} {z : Int32} {rest : List Value} (hret : meth.sig.returnType = some .boolean) (hn : narrow .boolean (.int z) = .int z)
    (hd : decode c.code pc = .ok (.ireturn, 1)) (hC : cells ≤ C) (hN : slots ≤ N) (hq : Q (some (.int z)) T.heap locs) : own_Ends p e below (own_Got s Q C N) (T.setTop (mkF m pc Ls (.int z :: rest))) :=
  own_ret X hx lk hret hn (Or.inl ⟨rfl, Or.inr (Or.inl rfl), _, rfl⟩) hd hC hN hq
theorem own_retJ (X : Stand p l e R s m args below meth c T locs cells slots) (hx : p.tables.exec = Jvm.exec) (lk : meth.locks = false) {pc : Nat} {Ls : Array Slot} {z : Int64} {rest : List Value} (hret : meth.sig.returnType = some .long)
    (hd : decode c.code pc = .ok (.lreturn, 1)) (hC : cells ≤ C) (hN : slots ≤ N) (hq : Q (some (.long z)) T.heap locs) : own_Ends p e below (own_Got s Q C N) (T.setTop (mkF m pc Ls (.long z :: rest))) :=
  own_ret X hx lk hret rfl (Or.inr (Or.inl ⟨rfl, rfl, _, rfl⟩)) hd hC hN hq
theorem own_retR (X : Stand p l e R s m args below meth c T locs cells slots) (hx : p.tables.exec = Jvm.exec) (lk : meth.locks = false) {pc : Nat} {Ls : Array Slot} {w : Value} {t : FieldType} {rest : List Value} (hret : meth.sig.returnType = some t) (ht : t.isReference = true) (hw : w.isRef = true)
    (hd : decode c.code pc = .ok (.areturn, 1)) (hC : cells ≤ C) (hN : slots ≤ N) (hq : Q (some w) T.heap locs) : own_Ends p e below (own_Got s Q C N) (T.setTop (mkF m pc Ls (w :: rest))) :=
  own_ret X hx lk hret (by rcases ref_cases hw with rfl | ⟨a, rfl⟩ <;> cases t <;> first | rfl | exact absurd ht (by decide)) (Or.inr (Or.inr (Or.inr (Or.inr ⟨rfl, ht, hw⟩)))) hd hC hN hq
theorem own_retV (X : Stand p l e R s m args below meth c T locs cells slots) (hx : p.tables.exec = Jvm.exec) (lk : meth.locks = false) {pc : Nat} {Ls : Array Slot} {st : List Value} (hret : meth.sig.returnType = none)
    (hd : decode c.code pc = .ok (.return_, 1)) (hC : cells ≤ C) (hN : slots ≤ N) (hq : Q none T.heap locs) : own_Ends p e below (own_Got s Q C N) (T.setTop (mkF m pc Ls [])) := by
  obtain ⟨fs, hr, hrun, hended, hW, hsame⟩ := X.leave (v := none) (fun _ => rfl) lk
  exact ⟨_, _, X.returnOut hx hret hd hr, hrun, hended, _, _, rfl, hq, ⟨_, rfl⟩, hW, hsame.mono hC hN⟩
theorem own_fldI {Z : State} {a : Addr} {av : Array Value} {t : Term} {k : Int32} {C n d : String} (ev : t.eval av Z none [] Z = some (.ref a)) (h : (Jvm.Cond.eq (.field t C n d) (.int k)).value av Z none Z [] = some true) : Fld Z Z.heap a C n d (.int k) := by
  obtain ⟨x, y, ex, ey, k1, k2⟩ := cmp_v (Or.inl h)
  cases (Term.int_eval (args := av) (first := Z) (o := none) (idx := []) (s := Z) k).symm.trans ey
  obtain ⟨z, rfl⟩ := k2
  obtain rfl : z = k := gotT (Cond.eq_ints ex (Term.int_eval k)) h
  exact Fld.start ((fld_at ev).symm.trans ex)
theorem own_fldJ {Z : State} {a : Addr} {av : Array Value} {t : Term} {k : Int64} {C n d : String} (ev : t.eval av Z none [] Z = some (.ref a)) (h : (Jvm.Cond.eq (.field t C n d) (.long k)).value av Z none Z [] = some true) : Fld Z Z.heap a C n d (.long k) := by
  obtain ⟨x, y, ex, ey, k1, k2⟩ := cmp_v (Or.inl h)
  cases (long_at (args := av) (first := Z) (o := none) (idx := []) (s := Z) k).symm.trans ey
  obtain ⟨z, rfl⟩ := k2
  obtain rfl : z = k := gotT (eq_L ex (long_at k)) h
  exact Fld.start ((fld_at ev).symm.trans ex)
theorem own_staJ {Z : State} {av : Array Value} {k : Int64} {t : Term} (h : (Jvm.Cond.eq t (.long k)).value av Z none Z [] = some true) : t.eval av Z none [] Z = some (.long k) := by
  obtain ⟨x, y, ex, ey, k1, k2⟩ := cmp_v (Or.inl h)
  cases (long_at (args := av) (first := Z) (o := none) (idx := []) (s := Z) k).symm.trans ey
  obtain ⟨z, rfl⟩ := k2
  obtain rfl : z = k := gotT (eq_L ex (long_at k)) h
  exact ex
theorem own_staI {Z : State} {av : Array Value} {k : Int32} {t : Term} (h : (Jvm.Cond.eq t (.int k)).value av Z none Z [] = some true) : t.eval av Z none [] Z = some (.int k) := by
  obtain ⟨x, y, ex, ey, k1, k2⟩ := cmp_v (Or.inl h)
  cases (Term.int_eval (args := av) (first := Z) (o := none) (idx := []) (s := Z) k).symm.trans ey
  obtain ⟨z, rfl⟩ := k2
  obtain rfl : z = k := gotT (Cond.eq_ints ex (Term.int_eval k)) h
  exact ex
end Own
theorem own_d1_0 : decode prog_6_method_4_code 0 = .ok (.iload_n 1, 1) := by decide +kernel
theorem own_d1_1 : decode prog_6_method_4_code 1 = .ok (.ifCond .eq 10, 3) := by decide +kernel
theorem own_d1_4 : decode prog_6_method_4_code 4 = .ok (.aload_n 0, 1) := by decide +kernel
theorem own_d1_5 : decode prog_6_method_4_code 5 = .ok (.getfield 32, 3) := by decide +kernel
theorem own_d1_8 : decode prog_6_method_4_code 8 = .ok (.goto 7, 3) := by decide +kernel
theorem own_d1_11 : decode prog_6_method_4_code 11 = .ok (.aload_n 0, 1) := by decide +kernel
theorem own_d1_12 : decode prog_6_method_4_code 12 = .ok (.getfield 36, 3) := by decide +kernel
theorem own_d1_15 : decode prog_6_method_4_code 15 = .ok (.ireturn, 1) := by decide +kernel
theorem own_ef_own_score (m : MethodId) (x0 : Addr) (x1 : Int32) : entryFrame m #[(.ref x0), (.int x1)] 2 = mkF m 0 #[.val (.ref x0), .val (.int x1)] [] := by first | (simp [entryFrame, mkF, argsToLocals, Value.category]; done) | rfl
def Q_own_score (Z : State) (a : Addr) (p : Int32) (x : Int32) (y : Int32) (r : Int32) (h0 : Heap) (n0 : Nat) (v : Option Value) (h : Heap) (L : List Loc) : Prop := v = some (.int r) ∧ Fr n0 L ∧ h = h0
theorem own_pn_com_example_abstract_and_refine_abstractandrefine_Verdict : plainName "com/example/abstract_and_refine/abstractandrefine/Verdict" = true := by first | (simp [plainName, overriddenIn]; done) | decide +kernel
set_option maxRecDepth 65536 in
set_option maxHeartbeats 40000000 in
theorem own_score (l : Launch) (Z : State) (a0 : Array Value) (hw : ∀ d ∈ tables_1, d.before a0 Z = true) (ws : List Jvm.Cond) (a : Addr) (p : Int32) (x : Int32) (y : Int32) (r : Int32) (h0 : Heap) (n0 : Nat) (O0 : Old Z n0 h0) (F1 : Fld Z Z.heap a "com/example/abstract_and_refine/abstractandrefine/Verdict" "pointsOnSafeTask" "I" (.int x)) (F2 : Fld Z Z.heap a "com/example/abstract_and_refine/abstractandrefine/Verdict" "pointsOnUnsafeTask" "I" (.int y)) (hr : r = if p = (0 : Int32) then y else x) :
    MetFree l (⟨"com/example/abstract_and_refine/abstractandrefine/Verdict", "score", "(Z)I"⟩ : MethodName) (head1 (Jvm.Cond.code (⟨"com/example/abstract_and_refine/abstractandrefine/Verdict", "score", "(Z)I"⟩ : MethodName) prog_6_method_4_code 2 (some .int) :: ws) ({ frames := 0, cells := 0, slots := 0, locals := 0 } : Room)) (fun args_ U => args_ = #[(.ref a), (.int p)] ∧ Z.Warmed39 U.vm ∧ U.heap = h0) (fun _ _ _ _ _ => True) (fun _ U o U' => ∃ v L, o = .returned v ∧ Q_own_score Z a p x y r h0 n0 v U'.heap L ∧ FrameEnd U o U' L ({ frames := 0, cells := 0, slots := 0, locals := 0 } : Room).cells ({ frames := 0, cells := 0, slots := 0, locals := 0 } : Room).slots) := by
  refine MetFree.of_bodySF (plainFor_of_name own_pn_com_example_abstract_and_refine_abstractandrefine_Verdict) hisR ?_
  intro pP eE sS mM args below meth cC s₁ Bd hml0 hP hK
  obtain ⟨rfl, hZ, hh⟩ := hP
  have hx := Bd.exec
  have hby := Bd.bytes
  have hml : cC.maxLocals = 2 := hml0
  have hown : sS.vm.findClass "com/example/abstract_and_refine/abstractandrefine/Verdict" = some mM.cls := findClass_of_methodNamed Bd.named
  have hnm := (name_of_methodNamed Bd.named Bd.method).1
  have X0 : Stand pP l eE ({ frames := 0, cells := 0, slots := 0, locals := 0 } : Room) sS mM #[(.ref a), (.int p)] below meth cC s₁ [] 0 0 := Stand.of_body Bd
  have e0 : s₁.heap = h0 := by rw [← hh, Bd.state]; rfl
  have N0 := Fr.nil n0
  show own_Ends pP eE below (own_Got sS (Q_own_score Z a p x y r h0 n0) ({ frames := 0, cells := 0, slots := 0, locals := 0 } : Room).cells ({ frames := 0, cells := 0, slots := 0, locals := 0 } : Room).slots) (s₁.setTop (entryFrame mM #[(.ref a), (.int p)] 2))
  rw [own_ef_own_score mM a p]
  refine own_go (fun _ k => XS.iloadN X0.here hx rfl (hb hby own_d1_0) rfl k) ?_
  show own_Ends _ _ _ _ (s₁.setTop (mkF mM 1 #[.val (.ref a), .val (.int p)] [(.int p)]))
  by_cases hc1_0 : p = (0 : Int32)
  · refine own_go (fun _ k => XS.ifYes X0.here hx rfl (pc0 := 1) (pc' := 11) rfl (hb hby own_d1_1) rfl ((if0 _ _).trans (teq hc1_0).1) (by decide) (by decide) k) ?_
    show own_Ends _ _ _ _ (s₁.setTop (mkF mM 11 #[.val (.ref a), .val (.int p)] []))
    refine own_go (fun _ k => XS.aloadN X0.here hx rfl (hb hby own_d1_11) rfl rfl k) ?_
    show own_Ends _ _ _ _ (s₁.setTop (mkF mM 12 #[.val (.ref a), .val (.int p)] [(.ref a)]))
    obtain ⟨T2, X2, e2, st2⟩ := getF X0 hx hZ hown (host := "") (Or.inl (hw _ (List.mem_of_getElem? (i := 17) rfl))) Via.refl e0 (F2.ext O0.2) (g := (mkF mM 12 #[.val (.ref a), .val (.int p)] [(.ref a)])) rfl rfl (hb hby own_d1_12)
    refine own_go st2 ?_
    show own_Ends _ _ _ _ (T2.setTop (mkF mM 15 #[.val (.ref a), .val (.int p)] [(.int y)]))
    exact own_retI X2 hx (BodyLoose.notSynchronized Bd) Bd.returns (hb hby own_d1_15) (by decide) (by decide) (by rw [e2]; exact ⟨by rw [hr, if_pos hc1_0], N0, rfl⟩)
  · refine own_go (fun _ k => XS.ifNo X0.here hx rfl (hb hby own_d1_1) rfl ((if0 _ _).trans (feq hc1_0).1) k) ?_
    show own_Ends _ _ _ _ (s₁.setTop (mkF mM 4 #[.val (.ref a), .val (.int p)] []))
    refine own_go (fun _ k => XS.aloadN X0.here hx rfl (hb hby own_d1_4) rfl rfl k) ?_
    show own_Ends _ _ _ _ (s₁.setTop (mkF mM 5 #[.val (.ref a), .val (.int p)] [(.ref a)]))
    obtain ⟨T3, X3, e3, st3⟩ := getF X0 hx hZ hown (host := "") (Or.inl (hw _ (List.mem_of_getElem? (i := 9) rfl))) Via.refl e0 (F1.ext O0.2) (g := (mkF mM 5 #[.val (.ref a), .val (.int p)] [(.ref a)])) rfl rfl (hb hby own_d1_5)
    refine own_go st3 ?_
    show own_Ends _ _ _ _ (T3.setTop (mkF mM 8 #[.val (.ref a), .val (.int p)] [(.int x)]))
    refine own_go (fun _ k => XS.goto X3.here hx rfl (pc0 := 8) (pc' := 15) rfl (hb hby own_d1_8) (by decide) (by decide) k) ?_
    show own_Ends _ _ _ _ (T3.setTop (mkF mM 15 #[.val (.ref a), .val (.int p)] [(.int x)]))
    exact own_retI X3 hx (BodyLoose.notSynchronized Bd) Bd.returns (hb hby own_d1_15) (by decide) (by decide) (by rw [e3]; exact ⟨by rw [hr, if_neg hc1_0], N0, rfl⟩)
theorem own_d2_0 : decode method_2_code 0 = .ok (.iload_n 0, 1) := by decide +kernel
theorem own_d2_1 : decode method_2_code 1 = .ok (.ifCond .ne 12, 3) := by decide +kernel
theorem own_d2_4 : decode method_2_code 4 = .ok (.iload_n 1, 1) := by decide +kernel
theorem own_d2_5 : decode method_2_code 5 = .ok (.ifCond .eq 5, 3) := by decide +kernel
theorem own_d2_8 : decode method_2_code 8 = .ok (.iconst 2, 1) := by decide +kernel
theorem own_d2_9 : decode method_2_code 9 = .ok (.ireturn, 1) := by decide +kernel
theorem own_d2_10 : decode method_2_code 10 = .ok (.bipush (-32), 2) := by decide +kernel
theorem own_d2_12 : decode method_2_code 12 = .ok (.ireturn, 1) := by decide +kernel
theorem own_d2_13 : decode method_2_code 13 = .ok (.iload_n 0, 1) := by decide +kernel
theorem own_d2_14 : decode method_2_code 14 = .ok (.iconst 1, 1) := by decide +kernel
theorem own_d2_15 : decode method_2_code 15 = .ok (.if_icmp .ne 12, 3) := by decide +kernel
theorem own_d2_18 : decode method_2_code 18 = .ok (.iload_n 1, 1) := by decide +kernel
theorem own_d2_19 : decode method_2_code 19 = .ok (.ifCond .eq 6, 3) := by decide +kernel
theorem own_d2_22 : decode method_2_code 22 = .ok (.bipush (-16), 2) := by decide +kernel
theorem own_d2_24 : decode method_2_code 24 = .ok (.ireturn, 1) := by decide +kernel
theorem own_d2_25 : decode method_2_code 25 = .ok (.iconst 1, 1) := by decide +kernel
theorem own_d2_26 : decode method_2_code 26 = .ok (.ireturn, 1) := by decide +kernel
theorem own_d2_27 : decode method_2_code 27 = .ok (.iconst 0, 1) := by decide +kernel
theorem own_d2_28 : decode method_2_code 28 = .ok (.ireturn, 1) := by decide +kernel
theorem own_ef_own_expected (m : MethodId) (x0 : Int32) (x1 : Int32) : entryFrame m #[(.int x0), (.int x1)] 2 = mkF m 0 #[.val (.int x0), .val (.int x1)] [] := by first | (simp [entryFrame, mkF, argsToLocals, Value.category]; done) | rfl
def Q_own_expected (Z : State) (k0 : Int32) (p : Int32) (r : Int32) (h0 : Heap) (n0 : Nat) (v : Option Value) (h : Heap) (L : List Loc) : Prop := v = some (.int r) ∧ Fr n0 L ∧ h = h0
theorem own_pn_com_example_abstract_and_refine_abstractandrefine_VerdictScorePinLaw : plainName "com/example/abstract_and_refine/abstractandrefine/VerdictScorePinLaw" = true := by first | (simp [plainName, overriddenIn]; done) | decide +kernel
set_option maxRecDepth 65536 in
set_option maxHeartbeats 40000000 in
theorem own_expected (l : Launch) (Z : State) (a0 : Array Value) (hw : ∀ d ∈ tables_1, d.before a0 Z = true) (ws : List Jvm.Cond) (k0 : Int32) (p : Int32) (r : Int32) (h0 : Heap) (n0 : Nat) (O0 : Old Z n0 h0) (hr : r = if k0 = (0 : Int32) then (if p = (0 : Int32) then -32 else 2) else if k0 = (1 : Int32) then (if p = (0 : Int32) then 1 else -16) else 0) :
    MetFree l (⟨"com/example/abstract_and_refine/abstractandrefine/VerdictScorePinLaw", "expectedPoints", "(IZ)I"⟩ : MethodName) (head1 (Jvm.Cond.code (⟨"com/example/abstract_and_refine/abstractandrefine/VerdictScorePinLaw", "expectedPoints", "(IZ)I"⟩ : MethodName) method_2_code 2 (some .int) :: ws) ({ frames := 0, cells := 0, slots := 0, locals := 0 } : Room)) (fun args_ U => args_ = #[(.int k0), (.int p)] ∧ Z.Warmed39 U.vm ∧ U.heap = h0) (fun _ _ _ _ _ => True) (fun _ U o U' => ∃ v L, o = .returned v ∧ Q_own_expected Z k0 p r h0 n0 v U'.heap L ∧ FrameEnd U o U' L ({ frames := 0, cells := 0, slots := 0, locals := 0 } : Room).cells ({ frames := 0, cells := 0, slots := 0, locals := 0 } : Room).slots) := by
  refine MetFree.of_bodySF (plainFor_of_name own_pn_com_example_abstract_and_refine_abstractandrefine_VerdictScorePinLaw) hisR ?_
  intro pP eE sS mM args below meth cC s₁ Bd hml0 hP hK
  obtain ⟨rfl, hZ, hh⟩ := hP
  have hx := Bd.exec
  have hby := Bd.bytes
  have hml : cC.maxLocals = 2 := hml0
  have hown : sS.vm.findClass "com/example/abstract_and_refine/abstractandrefine/VerdictScorePinLaw" = some mM.cls := findClass_of_methodNamed Bd.named
  have hnm := (name_of_methodNamed Bd.named Bd.method).1
  have X0 : Stand pP l eE ({ frames := 0, cells := 0, slots := 0, locals := 0 } : Room) sS mM #[(.int k0), (.int p)] below meth cC s₁ [] 0 0 := Stand.of_body Bd
  have e0 : s₁.heap = h0 := by rw [← hh, Bd.state]; rfl
  have N0 := Fr.nil n0
  show own_Ends pP eE below (own_Got sS (Q_own_expected Z k0 p r h0 n0) ({ frames := 0, cells := 0, slots := 0, locals := 0 } : Room).cells ({ frames := 0, cells := 0, slots := 0, locals := 0 } : Room).slots) (s₁.setTop (entryFrame mM #[(.int k0), (.int p)] 2))
  rw [own_ef_own_expected mM k0 p]
  refine own_go (fun _ k => XS.iloadN X0.here hx rfl (hb hby own_d2_0) rfl k) ?_
  show own_Ends _ _ _ _ (s₁.setTop (mkF mM 1 #[.val (.int k0), .val (.int p)] [(.int k0)]))
  by_cases hc1_0 : k0 = (0 : Int32)
  · refine own_go (fun _ k => XS.ifNo X0.here hx rfl (hb hby own_d2_1) rfl ((if0 _ _).trans (teq hc1_0).2) k) ?_
    show own_Ends _ _ _ _ (s₁.setTop (mkF mM 4 #[.val (.int k0), .val (.int p)] []))
    refine own_go (fun _ k => XS.iloadN X0.here hx rfl (hb hby own_d2_4) rfl k) ?_
    show own_Ends _ _ _ _ (s₁.setTop (mkF mM 5 #[.val (.int k0), .val (.int p)] [(.int p)]))
    by_cases hc5_1 : p = (0 : Int32)
    · refine own_go (fun _ k => XS.ifYes X0.here hx rfl (pc0 := 5) (pc' := 10) rfl (hb hby own_d2_5) rfl ((if0 _ _).trans (teq hc5_1).1) (by decide) (by decide) k) ?_
      show own_Ends _ _ _ _ (s₁.setTop (mkF mM 10 #[.val (.int k0), .val (.int p)] []))
      refine own_go (fun _ k => XS.bipush X0.here hx rfl (hb hby own_d2_10) k) ?_
      show own_Ends _ _ _ _ (s₁.setTop (mkF mM 12 #[.val (.int k0), .val (.int p)] [(.int (-32 : Int32))]))
      exact own_retI X0 hx (BodyLoose.notSynchronized Bd) Bd.returns (hb hby own_d2_12) (by decide) (by decide) (by rw [e0]; exact ⟨by rw [hr, if_pos hc1_0, if_pos hc5_1], N0, rfl⟩)
    · refine own_go (fun _ k => XS.ifNo X0.here hx rfl (hb hby own_d2_5) rfl ((if0 _ _).trans (feq hc5_1).1) k) ?_
      show own_Ends _ _ _ _ (s₁.setTop (mkF mM 8 #[.val (.int k0), .val (.int p)] []))
      refine own_go (fun _ k => XS.iconst X0.here hx rfl (hb hby own_d2_8) k) ?_
      show own_Ends _ _ _ _ (s₁.setTop (mkF mM 9 #[.val (.int k0), .val (.int p)] [(.int (2 : Int32))]))
      exact own_retI X0 hx (BodyLoose.notSynchronized Bd) Bd.returns (hb hby own_d2_9) (by decide) (by decide) (by rw [e0]; exact ⟨by rw [hr, if_pos hc1_0, if_neg hc5_1], N0, rfl⟩)
  · refine own_go (fun _ k => XS.ifYes X0.here hx rfl (pc0 := 1) (pc' := 13) rfl (hb hby own_d2_1) rfl ((if0 _ _).trans (feq hc1_0).2) (by decide) (by decide) k) ?_
    show own_Ends _ _ _ _ (s₁.setTop (mkF mM 13 #[.val (.int k0), .val (.int p)] []))
    refine own_go (fun _ k => XS.iloadN X0.here hx rfl (hb hby own_d2_13) rfl k) ?_
    show own_Ends _ _ _ _ (s₁.setTop (mkF mM 14 #[.val (.int k0), .val (.int p)] [(.int k0)]))
    refine own_go (fun _ k => XS.iconst X0.here hx rfl (hb hby own_d2_14) k) ?_
    show own_Ends _ _ _ _ (s₁.setTop (mkF mM 15 #[.val (.int k0), .val (.int p)] [(.int (1 : Int32)), (.int k0)]))
    by_cases hc15_2 : k0 = (1 : Int32)
    · refine own_go (fun _ k => XS.icmpNo X0.here hx rfl (hb hby own_d2_15) rfl (teq hc15_2).2 k) ?_
      show own_Ends _ _ _ _ (s₁.setTop (mkF mM 18 #[.val (.int k0), .val (.int p)] []))
      refine own_go (fun _ k => XS.iloadN X0.here hx rfl (hb hby own_d2_18) rfl k) ?_
      show own_Ends _ _ _ _ (s₁.setTop (mkF mM 19 #[.val (.int k0), .val (.int p)] [(.int p)]))
      by_cases hc19_3 : p = (0 : Int32)
      · refine own_go (fun _ k => XS.ifYes X0.here hx rfl (pc0 := 19) (pc' := 25) rfl (hb hby own_d2_19) rfl ((if0 _ _).trans (teq hc19_3).1) (by decide) (by decide) k) ?_
        show own_Ends _ _ _ _ (s₁.setTop (mkF mM 25 #[.val (.int k0), .val (.int p)] []))
        refine own_go (fun _ k => XS.iconst X0.here hx rfl (hb hby own_d2_25) k) ?_
        show own_Ends _ _ _ _ (s₁.setTop (mkF mM 26 #[.val (.int k0), .val (.int p)] [(.int (1 : Int32))]))
        exact own_retI X0 hx (BodyLoose.notSynchronized Bd) Bd.returns (hb hby own_d2_26) (by decide) (by decide) (by rw [e0]; exact ⟨by rw [hr, if_neg hc1_0, if_pos hc15_2, if_pos hc19_3], N0, rfl⟩)
      · refine own_go (fun _ k => XS.ifNo X0.here hx rfl (hb hby own_d2_19) rfl ((if0 _ _).trans (feq hc19_3).1) k) ?_
        show own_Ends _ _ _ _ (s₁.setTop (mkF mM 22 #[.val (.int k0), .val (.int p)] []))
        refine own_go (fun _ k => XS.bipush X0.here hx rfl (hb hby own_d2_22) k) ?_
        show own_Ends _ _ _ _ (s₁.setTop (mkF mM 24 #[.val (.int k0), .val (.int p)] [(.int (-16 : Int32))]))
        exact own_retI X0 hx (BodyLoose.notSynchronized Bd) Bd.returns (hb hby own_d2_24) (by decide) (by decide) (by rw [e0]; exact ⟨by rw [hr, if_neg hc1_0, if_pos hc15_2, if_neg hc19_3], N0, rfl⟩)
    · refine own_go (fun _ k => XS.icmpYes X0.here hx rfl (pc0 := 15) (pc' := 27) rfl (hb hby own_d2_15) rfl (feq hc15_2).2 (by decide) (by decide) k) ?_
      show own_Ends _ _ _ _ (s₁.setTop (mkF mM 27 #[.val (.int k0), .val (.int p)] []))
      refine own_go (fun _ k => XS.iconst X0.here hx rfl (hb hby own_d2_27) k) ?_
      show own_Ends _ _ _ _ (s₁.setTop (mkF mM 28 #[.val (.int k0), .val (.int p)] [(.int (0 : Int32))]))
      exact own_retI X0 hx (BodyLoose.notSynchronized Bd) Bd.returns (hb hby own_d2_28) (by decide) (by decide) (by rw [e0]; exact ⟨by rw [hr, if_neg hc1_0, if_neg hc15_2], N0, rfl⟩)
theorem own_pd0 : parseMethodDescriptor "(Z)I" = some ⟨[.boolean], some .int⟩ := by decide +kernel
theorem own_pd1 : parseMethodDescriptor "(IZ)I" = some ⟨[.int, .boolean], some .int⟩ := by decide +kernel
theorem own_ef_own_law (m : MethodId) (x0 : Int32) (x1 : Int32) : entryFrame m #[(.int x0), (.int x1)] maxLocals = mkF m 0 #[.val (.int x0), .val (.int x1), .unset, .unset, .unset] [] := by first | (simp [entryFrame, mkF, argsToLocals, Value.category, maxLocals]; done) | rfl
def Q_own_law (Z : State) (p0 : Int32) (p1 : Int32) (a_SAFE : Addr) (a_UNKNOWN : Addr) (a_UNSAFE : Addr) (h0 : Heap) (n0 : Nat) (v : Option Value) (h : Heap) (L : List Loc) : Prop := v = some (.int 1) ∧ Fr n0 L
set_option maxRecDepth 65536 in
set_option maxHeartbeats 40000000 in
theorem own_law (l : Launch) (Z : State) (a0 : Array Value) (hw : ∀ d ∈ tables_1, d.before a0 Z = true) (ws : List Jvm.Cond) (p0 : Int32) (p1 : Int32) (a_SAFE : Addr) (a_UNKNOWN : Addr) (a_UNSAFE : Addr) (h0 : Heap) (n0 : Nat) (O0 : Old Z n0 h0) (S_SAFE : Sta Z Z.heap "com/example/abstract_and_refine/abstractandrefine/Verdict" "SAFE" "Lcom/example/abstract_and_refine/abstractandrefine/Verdict;" (.ref a_SAFE)) (E_SAFE : Exa Z Z.heap a_SAFE "com/example/abstract_and_refine/abstractandrefine/Verdict") (F_SAFE_pointsOnSafeTask : Fld Z Z.heap a_SAFE "com/example/abstract_and_refine/abstractandrefine/Verdict" "pointsOnSafeTask" "I" (.int (2 : Int32))) (F_SAFE_pointsOnUnsafeTask : Fld Z Z.heap a_SAFE "com/example/abstract_and_refine/abstractandrefine/Verdict" "pointsOnUnsafeTask" "I" (.int (-32 : Int32))) (S_UNKNOWN : Sta Z Z.heap "com/example/abstract_and_refine/abstractandrefine/Verdict" "UNKNOWN" "Lcom/example/abstract_and_refine/abstractandrefine/Verdict;" (.ref a_UNKNOWN)) (E_UNKNOWN : Exa Z Z.heap a_UNKNOWN "com/example/abstract_and_refine/abstractandrefine/Verdict") (F_UNKNOWN_pointsOnSafeTask : Fld Z Z.heap a_UNKNOWN "com/example/abstract_and_refine/abstractandrefine/Verdict" "pointsOnSafeTask" "I" (.int (0 : Int32))) (F_UNKNOWN_pointsOnUnsafeTask : Fld Z Z.heap a_UNKNOWN "com/example/abstract_and_refine/abstractandrefine/Verdict" "pointsOnUnsafeTask" "I" (.int (0 : Int32))) (S_UNSAFE : Sta Z Z.heap "com/example/abstract_and_refine/abstractandrefine/Verdict" "UNSAFE" "Lcom/example/abstract_and_refine/abstractandrefine/Verdict;" (.ref a_UNSAFE)) (E_UNSAFE : Exa Z Z.heap a_UNSAFE "com/example/abstract_and_refine/abstractandrefine/Verdict") (F_UNSAFE_pointsOnUnsafeTask : Fld Z Z.heap a_UNSAFE "com/example/abstract_and_refine/abstractandrefine/Verdict" "pointsOnUnsafeTask" "I" (.int (1 : Int32))) (F_UNSAFE_pointsOnSafeTask : Fld Z Z.heap a_UNSAFE "com/example/abstract_and_refine/abstractandrefine/Verdict" "pointsOnSafeTask" "I" (.int (-16 : Int32))) :
    MetFree l x (head1 (Jvm.Cond.code x code maxLocals ret :: ws) room_1) (fun args_ U => args_ = #[(.int p0), (.int p1)] ∧ Z.Warmed39 U.vm ∧ U.heap = h0) (fun _ _ _ _ _ => True) (fun _ U o U' => ∃ v L, o = .returned v ∧ Q_own_law Z p0 p1 a_SAFE a_UNKNOWN a_UNSAFE h0 n0 v U'.heap L ∧ FrameEnd U o U' L 0 0) := by
  refine MetFree.of_bodySF (plainFor_of_name own_pn_com_example_abstract_and_refine_abstractandrefine_VerdictScorePinLaw) hisR ?_
  intro pP eE sS mM args below meth cC s₁ Bd hml0 hP hK
  obtain ⟨rfl, hZ, hh⟩ := hP
  have hx := Bd.exec
  have hby := Bd.bytes
  have hml : cC.maxLocals = 5 := hml0
  have hown : sS.vm.findClass "com/example/abstract_and_refine/abstractandrefine/VerdictScorePinLaw" = some mM.cls := findClass_of_methodNamed Bd.named
  have hnm := (name_of_methodNamed Bd.named Bd.method).1
  have X0 : Stand pP l eE room_1 sS mM #[(.int p0), (.int p1)] below meth cC s₁ [] 0 0 := Stand.of_body Bd
  have e0 : s₁.heap = h0 := by rw [← hh, Bd.state]; rfl
  have N0 := Fr.nil n0
  show own_Ends pP eE below (own_Got sS (Q_own_law Z p0 p1 a_SAFE a_UNKNOWN a_UNSAFE h0 n0) 0 0) (s₁.setTop (entryFrame mM #[(.int p0), (.int p1)] maxLocals))
  rw [own_ef_own_law mM p0 p1]
  refine own_go (fun _ k => XS.iloadN X0.here hx rfl (hb hby at_0) rfl k) ?_
  show own_Ends _ _ _ _ (s₁.setTop (mkF mM 1 #[.val (.int p0), .val (.int p1), .unset, .unset, .unset] [(.int p0)]))
  refine own_go (X0.ldcInt hx hown (mvT hZ (hw _ (List.mem_of_getElem? (i := 0) rfl))) (g := (mkF mM 1 #[.val (.int p0), .val (.int p1), .unset, .unset, .unset] [(.int p0)])) rfl (hb hby at_1)) ?_
  show own_Ends _ _ _ _ (s₁.setTop (mkF mM 3 #[.val (.int p0), .val (.int p1), .unset, .unset, .unset] [(.int (2147483647 : Int32)), (.int p0)]))
  refine own_go (fun _ k => XS.iand X0.here hx rfl (hb hby at_3) rfl k) ?_
  show own_Ends _ _ _ _ (s₁.setTop (mkF mM 4 #[.val (.int p0), .val (.int p1), .unset, .unset, .unset] [(.int (p0 &&& (2147483647 : Int32)))]))
  refine own_go (fun _ k => XS.iconst X0.here hx rfl (hb hby at_4) k) ?_
  show own_Ends _ _ _ _ (s₁.setTop (mkF mM 5 #[.val (.int p0), .val (.int p1), .unset, .unset, .unset] [(.int (3 : Int32)), (.int (p0 &&& (2147483647 : Int32)))]))
  refine own_go (fun _ k => iremM X0 hx rfl (hb hby at_5) rfl (by decide) k) ?_
  show own_Ends _ _ _ _ (s₁.setTop (mkF mM 6 #[.val (.int p0), .val (.int p1), .unset, .unset, .unset] [(.int ((p0 &&& (2147483647 : Int32)) % (3 : Int32)))]))
  refine own_go (fun _ k => XS.istoreN X0.here hx rfl (hb hby at_6) rfl (l' := #[.val (.int p0), .val (.int p1), .val (.int ((p0 &&& (2147483647 : Int32)) % (3 : Int32))), .unset, .unset]) rfl k) ?_
  show own_Ends _ _ _ _ (s₁.setTop (mkF mM 7 #[.val (.int p0), .val (.int p1), .val (.int ((p0 &&& (2147483647 : Int32)) % (3 : Int32))), .unset, .unset] []))
  refine own_go (fun _ k => XS.iloadN X0.here hx rfl (hb hby at_7) rfl k) ?_
  show own_Ends _ _ _ _ (s₁.setTop (mkF mM 8 #[.val (.int p0), .val (.int p1), .val (.int ((p0 &&& (2147483647 : Int32)) % (3 : Int32))), .unset, .unset] [(.int p1)]))
  refine own_go (fun _ k => XS.iconst X0.here hx rfl (hb hby at_8) k) ?_
  show own_Ends _ _ _ _ (s₁.setTop (mkF mM 9 #[.val (.int p0), .val (.int p1), .val (.int ((p0 &&& (2147483647 : Int32)) % (3 : Int32))), .unset, .unset] [(.int (1 : Int32)), (.int p1)]))
  refine own_go (fun _ k => XS.iand X0.here hx rfl (hb hby at_9) rfl k) ?_
  show own_Ends _ _ _ _ (s₁.setTop (mkF mM 10 #[.val (.int p0), .val (.int p1), .val (.int ((p0 &&& (2147483647 : Int32)) % (3 : Int32))), .unset, .unset] [(.int (p1 &&& (1 : Int32)))]))
  by_cases hc10_0 : (p1 &&& (1 : Int32)) = (0 : Int32)
  · refine own_go (fun _ k => XS.ifYes X0.here hx rfl (pc0 := 10) (pc' := 17) rfl (hb hby at_10) rfl ((if0 _ _).trans (teq hc10_0).1) (by decide) (by decide) k) ?_
    show own_Ends _ _ _ _ (s₁.setTop (mkF mM 17 #[.val (.int p0), .val (.int p1), .val (.int ((p0 &&& (2147483647 : Int32)) % (3 : Int32))), .unset, .unset] []))
    refine own_go (fun _ k => XS.iconst X0.here hx rfl (hb hby at_17) k) ?_
    show own_Ends _ _ _ _ (s₁.setTop (mkF mM 18 #[.val (.int p0), .val (.int p1), .val (.int ((p0 &&& (2147483647 : Int32)) % (3 : Int32))), .unset, .unset] [(.int (0 : Int32))]))
    refine own_go (fun _ k => XS.istoreN X0.here hx rfl (hb hby at_18) rfl (l' := #[.val (.int p0), .val (.int p1), .val (.int ((p0 &&& (2147483647 : Int32)) % (3 : Int32))), .val (.int (0 : Int32)), .unset]) rfl k) ?_
    show own_Ends _ _ _ _ (s₁.setTop (mkF mM 19 #[.val (.int p0), .val (.int p1), .val (.int ((p0 &&& (2147483647 : Int32)) % (3 : Int32))), .val (.int (0 : Int32)), .unset] []))
    refine own_go (fun _ k => XS.iloadN X0.here hx rfl (hb hby at_19) rfl k) ?_
    show own_Ends _ _ _ _ (s₁.setTop (mkF mM 20 #[.val (.int p0), .val (.int p1), .val (.int ((p0 &&& (2147483647 : Int32)) % (3 : Int32))), .val (.int (0 : Int32)), .unset] [(.int ((p0 &&& (2147483647 : Int32)) % (3 : Int32)))]))
    by_cases hc20_1 : ((p0 &&& (2147483647 : Int32)) % (3 : Int32)) = (0 : Int32)
    · refine own_go (fun _ k => XS.ifNo X0.here hx rfl (hb hby at_20) rfl ((if0 _ _).trans (teq hc20_1).2) k) ?_
      show own_Ends _ _ _ _ (s₁.setTop (mkF mM 23 #[.val (.int p0), .val (.int p1), .val (.int ((p0 &&& (2147483647 : Int32)) % (3 : Int32))), .val (.int (0 : Int32)), .unset] []))
      obtain ⟨T3, X3, e3, st3⟩ := getS2 X0 hx hZ hown (host := "") (Or.inl (hw _ (List.mem_of_getElem? (i := 1) rfl))) Via.refl e0 (S_SAFE.ext O0.2) (g := (mkF mM 23 #[.val (.int p0), .val (.int p1), .val (.int ((p0 &&& (2147483647 : Int32)) % (3 : Int32))), .val (.int (0 : Int32)), .unset] [])) rfl (hb hby at_23)
      refine own_go st3 ?_
      show own_Ends _ _ _ _ (T3.setTop (mkF mM 26 #[.val (.int p0), .val (.int p1), .val (.int ((p0 &&& (2147483647 : Int32)) % (3 : Int32))), .val (.int (0 : Int32)), .unset] [(.ref a_SAFE)]))
      refine own_go (fun _ k => XS.astore X3.here hx rfl (hb hby at_26) rfl rfl (l' := #[.val (.int p0), .val (.int p1), .val (.int ((p0 &&& (2147483647 : Int32)) % (3 : Int32))), .val (.int (0 : Int32)), .val (.ref a_SAFE)]) rfl k) ?_
      show own_Ends _ _ _ _ (T3.setTop (mkF mM 28 #[.val (.int p0), .val (.int p1), .val (.int ((p0 &&& (2147483647 : Int32)) % (3 : Int32))), .val (.int (0 : Int32)), .val (.ref a_SAFE)] []))
      refine own_go (fun _ k => XS.goto X3.here hx rfl (pc0 := 28) (pc' := 49) rfl (hb hby at_28) (by decide) (by decide) k) ?_
      show own_Ends _ _ _ _ (T3.setTop (mkF mM 49 #[.val (.int p0), .val (.int p1), .val (.int ((p0 &&& (2147483647 : Int32)) % (3 : Int32))), .val (.int (0 : Int32)), .val (.ref a_SAFE)] []))
      refine own_go (fun _ k => XS.aload X3.here hx rfl (hb hby at_49) rfl rfl k) ?_
      show own_Ends _ _ _ _ (T3.setTop (mkF mM 51 #[.val (.int p0), .val (.int p1), .val (.int ((p0 &&& (2147483647 : Int32)) % (3 : Int32))), .val (.int (0 : Int32)), .val (.ref a_SAFE)] [(.ref a_SAFE)]))
      refine own_go (fun _ k => XS.iloadN X3.here hx rfl (hb hby at_51) rfl k) ?_
      show own_Ends _ _ _ _ (T3.setTop (mkF mM 52 #[.val (.int p0), .val (.int p1), .val (.int ((p0 &&& (2147483647 : Int32)) % (3 : Int32))), .val (.int (0 : Int32)), .val (.ref a_SAFE)] [(.int (0 : Int32)), (.ref a_SAFE)]))
      obtain ⟨cq4, kq4, q4a, q4b, q4c⟩ := isOf hZ e3 (E_SAFE.ext O0.2)
      obtain ⟨_, _, ⟨T4, Lz4, kz4, nz4⟩, -, X4, ⟨Lc4, hQ4, l4, y4, z4⟩, st4⟩ := X3.virtualBack hx (y := (⟨"com/example/abstract_and_refine/abstractandrefine/Verdict", "score", "(Z)I"⟩ : MethodName)) (z := (⟨"com/example/abstract_and_refine/abstractandrefine/Verdict", "score", "(Z)I"⟩ : MethodName)) hown (mvT hZ (hw _ (List.mem_of_getElem? (i := 4) rfl))) (mvT hZ (hw _ (List.mem_of_getElem? (i := 5) rfl))) (notFace_of_selects (args := #[]) (mvT hZ (hw _ (List.mem_of_getElem? (i := 7) rfl)))) (mvT hZ (hw _ (List.mem_of_getElem? (i := 7) rfl))) (mvT hZ (hw _ (List.mem_of_getElem? (i := 6) rfl))) (by decide) (backOf (W := 0) (own_score l Z a0 hw [] a_SAFE (0 : Int32) (2 : Int32) (-32 : Int32) (-32 : Int32) h0 n0 O0 F_SAFE_pointsOnSafeTask F_SAFE_pointsOnUnsafeTask (by decide +kernel)) hZ (hw _ (List.mem_of_getElem? (i := 8) rfl)) (hw _ (List.mem_of_getElem? (i := 2) rfl)) (by decide) (by decide)) q4a q4c (g := (mkF mM 52 #[.val (.int p0), .val (.int p1), .val (.int ((p0 &&& (2147483647 : Int32)) % (3 : Int32))), .val (.int (0 : Int32)), .val (.ref a_SAFE)] [(.int (0 : Int32)), (.ref a_SAFE)])) rfl (by rw [hml]; rfl) (Steps.refl _) (argsL := [(.int (0 : Int32))]) (rest := []) (lenOf own_pd0 rfl) rfl (by show 2 * 0 + _ ≤ _; exact Nat.le_of_eq rfl) (hb hby at_52) (fun _ _ => ⟨rfl, e3, (by decide : 0 + 0 ≤ _), (by decide : 0 + 0 ≤ _)⟩)
      dsimp only [Pt.U, Pt.locs, Pt.cells, Pt.slots] at X4 l4 y4 z4 st4 hQ4
      subst l4 y4 z4
      obtain ⟨rfl, Nq4, e4⟩ := hQ4
      have N4 := Fr.app N0 Nq4
      refine own_tr st4 ?_
      show own_Ends _ _ _ _ (T4.setTop (mkF mM 55 #[.val (.int p0), .val (.int p1), .val (.int ((p0 &&& (2147483647 : Int32)) % (3 : Int32))), .val (.int (0 : Int32)), .val (.ref a_SAFE)] [(.int (-32 : Int32))]))
      refine own_go (fun _ k => XS.iloadN X4.here hx rfl (hb hby at_55) rfl k) ?_
      show own_Ends _ _ _ _ (T4.setTop (mkF mM 56 #[.val (.int p0), .val (.int p1), .val (.int ((p0 &&& (2147483647 : Int32)) % (3 : Int32))), .val (.int (0 : Int32)), .val (.ref a_SAFE)] [(.int ((p0 &&& (2147483647 : Int32)) % (3 : Int32))), (.int (-32 : Int32))]))
      refine own_go (fun _ k => XS.iloadN X4.here hx rfl (hb hby at_56) rfl k) ?_
      show own_Ends _ _ _ _ (T4.setTop (mkF mM 57 #[.val (.int p0), .val (.int p1), .val (.int ((p0 &&& (2147483647 : Int32)) % (3 : Int32))), .val (.int (0 : Int32)), .val (.ref a_SAFE)] [(.int (0 : Int32)), (.int ((p0 &&& (2147483647 : Int32)) % (3 : Int32))), (.int (-32 : Int32))]))
      obtain ⟨_, _, ⟨T5, Lz5, kz5, nz5⟩, -, X5, ⟨Lc5, hQ5, l5, y5, z5⟩, st5⟩ := Jvm.LawKit.callS X4 hx (y := (⟨"com/example/abstract_and_refine/abstractandrefine/VerdictScorePinLaw", "expectedPoints", "(IZ)I"⟩ : MethodName)) hown (mvT hZ (hw _ (List.mem_of_getElem? (i := 11) rfl))) (mvT hZ (hw _ (List.mem_of_getElem? (i := 12) rfl))) (mvT hZ (hw _ (List.mem_of_getElem? (i := 13) rfl))) (mvT hZ (hw _ (List.mem_of_getElem? (i := 14) rfl))) (by decide) (backOf (W := 1) (own_expected l Z a0 hw [] ((p0 &&& (2147483647 : Int32)) % (3 : Int32)) (0 : Int32) (-32 : Int32) h0 n0 O0 (by rw [if_pos hc20_1]; decide +kernel)) hZ (hw _ (List.mem_of_getElem? (i := 14) rfl)) (hw _ (List.mem_of_getElem? (i := 13) rfl)) (by decide) (by decide)) (g := (mkF mM 57 #[.val (.int p0), .val (.int p1), .val (.int ((p0 &&& (2147483647 : Int32)) % (3 : Int32))), .val (.int (0 : Int32)), .val (.ref a_SAFE)] [(.int (0 : Int32)), (.int ((p0 &&& (2147483647 : Int32)) % (3 : Int32))), (.int (-32 : Int32))])) rfl (by rw [hml]; rfl) (argsL := [(.int ((p0 &&& (2147483647 : Int32)) % (3 : Int32))), (.int (0 : Int32))]) (rest := [(.int (-32 : Int32))]) (lenOf own_pd1 rfl) rfl (by show 2 * 0 + _ ≤ _; exact Nat.le_of_eq rfl) (hb hby at_57) (fun _ _ => ⟨rfl, e4, (by decide : 0 + 0 ≤ _), (by decide : 0 + 0 ≤ _)⟩)
      dsimp only [Pt.U, Pt.locs, Pt.cells, Pt.slots] at X5 l5 y5 z5 st5 hQ5
      subst l5 y5 z5
      obtain ⟨rfl, Nq5, e5⟩ := hQ5
      have N5 := Fr.app N4 Nq5
      refine own_go st5 ?_
      show own_Ends _ _ _ _ (T5.setTop (mkF mM 60 #[.val (.int p0), .val (.int p1), .val (.int ((p0 &&& (2147483647 : Int32)) % (3 : Int32))), .val (.int (0 : Int32)), .val (.ref a_SAFE)] [(.int (-32 : Int32)), (.int (-32 : Int32))]))
      refine own_go (fun _ k => XS.icmpNo X5.here hx rfl (hb hby at_60) rfl (teq (by decide : (-32 : Int32) = (-32 : Int32))).2 k) ?_
      show own_Ends _ _ _ _ (T5.setTop (mkF mM 63 #[.val (.int p0), .val (.int p1), .val (.int ((p0 &&& (2147483647 : Int32)) % (3 : Int32))), .val (.int (0 : Int32)), .val (.ref a_SAFE)] []))
      refine own_go (fun _ k => XS.iconst X5.here hx rfl (hb hby at_63) k) ?_
      show own_Ends _ _ _ _ (T5.setTop (mkF mM 64 #[.val (.int p0), .val (.int p1), .val (.int ((p0 &&& (2147483647 : Int32)) % (3 : Int32))), .val (.int (0 : Int32)), .val (.ref a_SAFE)] [(.int (1 : Int32))]))
      refine own_go (fun _ k => XS.goto X5.here hx rfl (pc0 := 64) (pc' := 68) rfl (hb hby at_64) (by decide) (by decide) k) ?_
      show own_Ends _ _ _ _ (T5.setTop (mkF mM 68 #[.val (.int p0), .val (.int p1), .val (.int ((p0 &&& (2147483647 : Int32)) % (3 : Int32))), .val (.int (0 : Int32)), .val (.ref a_SAFE)] [(.int (1 : Int32))]))
      exact own_retZ X5 hx (BodyLoose.notSynchronized Bd) Bd.returns rfl (hb hby at_68) (by decide) (by decide) (by rw [e5]; exact ⟨rfl, N5⟩)
    · refine own_go (fun _ k => XS.ifYes X0.here hx rfl (pc0 := 20) (pc' := 31) rfl (hb hby at_20) rfl ((if0 _ _).trans (feq hc20_1).2) (by decide) (by decide) k) ?_
      show own_Ends _ _ _ _ (s₁.setTop (mkF mM 31 #[.val (.int p0), .val (.int p1), .val (.int ((p0 &&& (2147483647 : Int32)) % (3 : Int32))), .val (.int (0 : Int32)), .unset] []))
      refine own_go (fun _ k => XS.iloadN X0.here hx rfl (hb hby at_31) rfl k) ?_
      show own_Ends _ _ _ _ (s₁.setTop (mkF mM 32 #[.val (.int p0), .val (.int p1), .val (.int ((p0 &&& (2147483647 : Int32)) % (3 : Int32))), .val (.int (0 : Int32)), .unset] [(.int ((p0 &&& (2147483647 : Int32)) % (3 : Int32)))]))
      refine own_go (fun _ k => XS.iconst X0.here hx rfl (hb hby at_32) k) ?_
      show own_Ends _ _ _ _ (s₁.setTop (mkF mM 33 #[.val (.int p0), .val (.int p1), .val (.int ((p0 &&& (2147483647 : Int32)) % (3 : Int32))), .val (.int (0 : Int32)), .unset] [(.int (1 : Int32)), (.int ((p0 &&& (2147483647 : Int32)) % (3 : Int32)))]))
      by_cases hc33_5 : ((p0 &&& (2147483647 : Int32)) % (3 : Int32)) = (1 : Int32)
      · refine own_go (fun _ k => XS.icmpNo X0.here hx rfl (hb hby at_33) rfl (teq hc33_5).2 k) ?_
        show own_Ends _ _ _ _ (s₁.setTop (mkF mM 36 #[.val (.int p0), .val (.int p1), .val (.int ((p0 &&& (2147483647 : Int32)) % (3 : Int32))), .val (.int (0 : Int32)), .unset] []))
        obtain ⟨T7, X7, e7, st7⟩ := getS2 X0 hx hZ hown (host := "") (Or.inl (hw _ (List.mem_of_getElem? (i := 19) rfl))) Via.refl e0 (S_UNSAFE.ext O0.2) (g := (mkF mM 36 #[.val (.int p0), .val (.int p1), .val (.int ((p0 &&& (2147483647 : Int32)) % (3 : Int32))), .val (.int (0 : Int32)), .unset] [])) rfl (hb hby at_36)
        refine own_go st7 ?_
        show own_Ends _ _ _ _ (T7.setTop (mkF mM 39 #[.val (.int p0), .val (.int p1), .val (.int ((p0 &&& (2147483647 : Int32)) % (3 : Int32))), .val (.int (0 : Int32)), .unset] [(.ref a_UNSAFE)]))
        refine own_go (fun _ k => XS.astore X7.here hx rfl (hb hby at_39) rfl rfl (l' := #[.val (.int p0), .val (.int p1), .val (.int ((p0 &&& (2147483647 : Int32)) % (3 : Int32))), .val (.int (0 : Int32)), .val (.ref a_UNSAFE)]) rfl k) ?_
        show own_Ends _ _ _ _ (T7.setTop (mkF mM 41 #[.val (.int p0), .val (.int p1), .val (.int ((p0 &&& (2147483647 : Int32)) % (3 : Int32))), .val (.int (0 : Int32)), .val (.ref a_UNSAFE)] []))
        refine own_go (fun _ k => XS.goto X7.here hx rfl (pc0 := 41) (pc' := 49) rfl (hb hby at_41) (by decide) (by decide) k) ?_
        show own_Ends _ _ _ _ (T7.setTop (mkF mM 49 #[.val (.int p0), .val (.int p1), .val (.int ((p0 &&& (2147483647 : Int32)) % (3 : Int32))), .val (.int (0 : Int32)), .val (.ref a_UNSAFE)] []))
        refine own_go (fun _ k => XS.aload X7.here hx rfl (hb hby at_49) rfl rfl k) ?_
        show own_Ends _ _ _ _ (T7.setTop (mkF mM 51 #[.val (.int p0), .val (.int p1), .val (.int ((p0 &&& (2147483647 : Int32)) % (3 : Int32))), .val (.int (0 : Int32)), .val (.ref a_UNSAFE)] [(.ref a_UNSAFE)]))
        refine own_go (fun _ k => XS.iloadN X7.here hx rfl (hb hby at_51) rfl k) ?_
        show own_Ends _ _ _ _ (T7.setTop (mkF mM 52 #[.val (.int p0), .val (.int p1), .val (.int ((p0 &&& (2147483647 : Int32)) % (3 : Int32))), .val (.int (0 : Int32)), .val (.ref a_UNSAFE)] [(.int (0 : Int32)), (.ref a_UNSAFE)]))
        obtain ⟨cq8, kq8, q8a, q8b, q8c⟩ := isOf hZ e7 (E_UNSAFE.ext O0.2)
        obtain ⟨_, _, ⟨T8, Lz8, kz8, nz8⟩, -, X8, ⟨Lc8, hQ8, l8, y8, z8⟩, st8⟩ := X7.virtualBack hx (y := (⟨"com/example/abstract_and_refine/abstractandrefine/Verdict", "score", "(Z)I"⟩ : MethodName)) (z := (⟨"com/example/abstract_and_refine/abstractandrefine/Verdict", "score", "(Z)I"⟩ : MethodName)) hown (mvT hZ (hw _ (List.mem_of_getElem? (i := 4) rfl))) (mvT hZ (hw _ (List.mem_of_getElem? (i := 5) rfl))) (notFace_of_selects (args := #[]) (mvT hZ (hw _ (List.mem_of_getElem? (i := 7) rfl)))) (mvT hZ (hw _ (List.mem_of_getElem? (i := 7) rfl))) (mvT hZ (hw _ (List.mem_of_getElem? (i := 6) rfl))) (by decide) (backOf (W := 0) (own_score l Z a0 hw [] a_UNSAFE (0 : Int32) (-16 : Int32) (1 : Int32) (1 : Int32) h0 n0 O0 F_UNSAFE_pointsOnSafeTask F_UNSAFE_pointsOnUnsafeTask (by decide +kernel)) hZ (hw _ (List.mem_of_getElem? (i := 8) rfl)) (hw _ (List.mem_of_getElem? (i := 2) rfl)) (by decide) (by decide)) q8a q8c (g := (mkF mM 52 #[.val (.int p0), .val (.int p1), .val (.int ((p0 &&& (2147483647 : Int32)) % (3 : Int32))), .val (.int (0 : Int32)), .val (.ref a_UNSAFE)] [(.int (0 : Int32)), (.ref a_UNSAFE)])) rfl (by rw [hml]; rfl) (Steps.refl _) (argsL := [(.int (0 : Int32))]) (rest := []) (lenOf own_pd0 rfl) rfl (by show 2 * 0 + _ ≤ _; exact Nat.le_of_eq rfl) (hb hby at_52) (fun _ _ => ⟨rfl, e7, (by decide : 0 + 0 ≤ _), (by decide : 0 + 0 ≤ _)⟩)
        dsimp only [Pt.U, Pt.locs, Pt.cells, Pt.slots] at X8 l8 y8 z8 st8 hQ8
        subst l8 y8 z8
        obtain ⟨rfl, Nq8, e8⟩ := hQ8
        have N8 := Fr.app N0 Nq8
        refine own_tr st8 ?_
        show own_Ends _ _ _ _ (T8.setTop (mkF mM 55 #[.val (.int p0), .val (.int p1), .val (.int ((p0 &&& (2147483647 : Int32)) % (3 : Int32))), .val (.int (0 : Int32)), .val (.ref a_UNSAFE)] [(.int (1 : Int32))]))
        refine own_go (fun _ k => XS.iloadN X8.here hx rfl (hb hby at_55) rfl k) ?_
        show own_Ends _ _ _ _ (T8.setTop (mkF mM 56 #[.val (.int p0), .val (.int p1), .val (.int ((p0 &&& (2147483647 : Int32)) % (3 : Int32))), .val (.int (0 : Int32)), .val (.ref a_UNSAFE)] [(.int ((p0 &&& (2147483647 : Int32)) % (3 : Int32))), (.int (1 : Int32))]))
        refine own_go (fun _ k => XS.iloadN X8.here hx rfl (hb hby at_56) rfl k) ?_
        show own_Ends _ _ _ _ (T8.setTop (mkF mM 57 #[.val (.int p0), .val (.int p1), .val (.int ((p0 &&& (2147483647 : Int32)) % (3 : Int32))), .val (.int (0 : Int32)), .val (.ref a_UNSAFE)] [(.int (0 : Int32)), (.int ((p0 &&& (2147483647 : Int32)) % (3 : Int32))), (.int (1 : Int32))]))
        obtain ⟨_, _, ⟨T9, Lz9, kz9, nz9⟩, -, X9, ⟨Lc9, hQ9, l9, y9, z9⟩, st9⟩ := Jvm.LawKit.callS X8 hx (y := (⟨"com/example/abstract_and_refine/abstractandrefine/VerdictScorePinLaw", "expectedPoints", "(IZ)I"⟩ : MethodName)) hown (mvT hZ (hw _ (List.mem_of_getElem? (i := 11) rfl))) (mvT hZ (hw _ (List.mem_of_getElem? (i := 12) rfl))) (mvT hZ (hw _ (List.mem_of_getElem? (i := 13) rfl))) (mvT hZ (hw _ (List.mem_of_getElem? (i := 14) rfl))) (by decide) (backOf (W := 1) (own_expected l Z a0 hw [] ((p0 &&& (2147483647 : Int32)) % (3 : Int32)) (0 : Int32) (1 : Int32) h0 n0 O0 (by rw [if_neg hc20_1, if_pos hc33_5]; decide +kernel)) hZ (hw _ (List.mem_of_getElem? (i := 14) rfl)) (hw _ (List.mem_of_getElem? (i := 13) rfl)) (by decide) (by decide)) (g := (mkF mM 57 #[.val (.int p0), .val (.int p1), .val (.int ((p0 &&& (2147483647 : Int32)) % (3 : Int32))), .val (.int (0 : Int32)), .val (.ref a_UNSAFE)] [(.int (0 : Int32)), (.int ((p0 &&& (2147483647 : Int32)) % (3 : Int32))), (.int (1 : Int32))])) rfl (by rw [hml]; rfl) (argsL := [(.int ((p0 &&& (2147483647 : Int32)) % (3 : Int32))), (.int (0 : Int32))]) (rest := [(.int (1 : Int32))]) (lenOf own_pd1 rfl) rfl (by show 2 * 0 + _ ≤ _; exact Nat.le_of_eq rfl) (hb hby at_57) (fun _ _ => ⟨rfl, e8, (by decide : 0 + 0 ≤ _), (by decide : 0 + 0 ≤ _)⟩)
        dsimp only [Pt.U, Pt.locs, Pt.cells, Pt.slots] at X9 l9 y9 z9 st9 hQ9
        subst l9 y9 z9
        obtain ⟨rfl, Nq9, e9⟩ := hQ9
        have N9 := Fr.app N8 Nq9
        refine own_go st9 ?_
        show own_Ends _ _ _ _ (T9.setTop (mkF mM 60 #[.val (.int p0), .val (.int p1), .val (.int ((p0 &&& (2147483647 : Int32)) % (3 : Int32))), .val (.int (0 : Int32)), .val (.ref a_UNSAFE)] [(.int (1 : Int32)), (.int (1 : Int32))]))
        refine own_go (fun _ k => XS.icmpNo X9.here hx rfl (hb hby at_60) rfl (teq (by decide : (1 : Int32) = (1 : Int32))).2 k) ?_
        show own_Ends _ _ _ _ (T9.setTop (mkF mM 63 #[.val (.int p0), .val (.int p1), .val (.int ((p0 &&& (2147483647 : Int32)) % (3 : Int32))), .val (.int (0 : Int32)), .val (.ref a_UNSAFE)] []))
        refine own_go (fun _ k => XS.iconst X9.here hx rfl (hb hby at_63) k) ?_
        show own_Ends _ _ _ _ (T9.setTop (mkF mM 64 #[.val (.int p0), .val (.int p1), .val (.int ((p0 &&& (2147483647 : Int32)) % (3 : Int32))), .val (.int (0 : Int32)), .val (.ref a_UNSAFE)] [(.int (1 : Int32))]))
        refine own_go (fun _ k => XS.goto X9.here hx rfl (pc0 := 64) (pc' := 68) rfl (hb hby at_64) (by decide) (by decide) k) ?_
        show own_Ends _ _ _ _ (T9.setTop (mkF mM 68 #[.val (.int p0), .val (.int p1), .val (.int ((p0 &&& (2147483647 : Int32)) % (3 : Int32))), .val (.int (0 : Int32)), .val (.ref a_UNSAFE)] [(.int (1 : Int32))]))
        exact own_retZ X9 hx (BodyLoose.notSynchronized Bd) Bd.returns rfl (hb hby at_68) (by decide) (by decide) (by rw [e9]; exact ⟨rfl, N9⟩)
      · refine own_go (fun _ k => XS.icmpYes X0.here hx rfl (pc0 := 33) (pc' := 44) rfl (hb hby at_33) rfl (feq hc33_5).2 (by decide) (by decide) k) ?_
        show own_Ends _ _ _ _ (s₁.setTop (mkF mM 44 #[.val (.int p0), .val (.int p1), .val (.int ((p0 &&& (2147483647 : Int32)) % (3 : Int32))), .val (.int (0 : Int32)), .unset] []))
        obtain ⟨T10, X10, e10, st10⟩ := getS2 X0 hx hZ hown (host := "") (Or.inl (hw _ (List.mem_of_getElem? (i := 15) rfl))) Via.refl e0 (S_UNKNOWN.ext O0.2) (g := (mkF mM 44 #[.val (.int p0), .val (.int p1), .val (.int ((p0 &&& (2147483647 : Int32)) % (3 : Int32))), .val (.int (0 : Int32)), .unset] [])) rfl (hb hby at_44)
        refine own_go st10 ?_
        show own_Ends _ _ _ _ (T10.setTop (mkF mM 47 #[.val (.int p0), .val (.int p1), .val (.int ((p0 &&& (2147483647 : Int32)) % (3 : Int32))), .val (.int (0 : Int32)), .unset] [(.ref a_UNKNOWN)]))
        refine own_go (fun _ k => XS.astore X10.here hx rfl (hb hby at_47) rfl rfl (l' := #[.val (.int p0), .val (.int p1), .val (.int ((p0 &&& (2147483647 : Int32)) % (3 : Int32))), .val (.int (0 : Int32)), .val (.ref a_UNKNOWN)]) rfl k) ?_
        show own_Ends _ _ _ _ (T10.setTop (mkF mM 49 #[.val (.int p0), .val (.int p1), .val (.int ((p0 &&& (2147483647 : Int32)) % (3 : Int32))), .val (.int (0 : Int32)), .val (.ref a_UNKNOWN)] []))
        refine own_go (fun _ k => XS.aload X10.here hx rfl (hb hby at_49) rfl rfl k) ?_
        show own_Ends _ _ _ _ (T10.setTop (mkF mM 51 #[.val (.int p0), .val (.int p1), .val (.int ((p0 &&& (2147483647 : Int32)) % (3 : Int32))), .val (.int (0 : Int32)), .val (.ref a_UNKNOWN)] [(.ref a_UNKNOWN)]))
        refine own_go (fun _ k => XS.iloadN X10.here hx rfl (hb hby at_51) rfl k) ?_
        show own_Ends _ _ _ _ (T10.setTop (mkF mM 52 #[.val (.int p0), .val (.int p1), .val (.int ((p0 &&& (2147483647 : Int32)) % (3 : Int32))), .val (.int (0 : Int32)), .val (.ref a_UNKNOWN)] [(.int (0 : Int32)), (.ref a_UNKNOWN)]))
        obtain ⟨cq11, kq11, q11a, q11b, q11c⟩ := isOf hZ e10 (E_UNKNOWN.ext O0.2)
        obtain ⟨_, _, ⟨T11, Lz11, kz11, nz11⟩, -, X11, ⟨Lc11, hQ11, l11, y11, z11⟩, st11⟩ := X10.virtualBack hx (y := (⟨"com/example/abstract_and_refine/abstractandrefine/Verdict", "score", "(Z)I"⟩ : MethodName)) (z := (⟨"com/example/abstract_and_refine/abstractandrefine/Verdict", "score", "(Z)I"⟩ : MethodName)) hown (mvT hZ (hw _ (List.mem_of_getElem? (i := 4) rfl))) (mvT hZ (hw _ (List.mem_of_getElem? (i := 5) rfl))) (notFace_of_selects (args := #[]) (mvT hZ (hw _ (List.mem_of_getElem? (i := 7) rfl)))) (mvT hZ (hw _ (List.mem_of_getElem? (i := 7) rfl))) (mvT hZ (hw _ (List.mem_of_getElem? (i := 6) rfl))) (by decide) (backOf (W := 0) (own_score l Z a0 hw [] a_UNKNOWN (0 : Int32) (0 : Int32) (0 : Int32) (0 : Int32) h0 n0 O0 F_UNKNOWN_pointsOnSafeTask F_UNKNOWN_pointsOnUnsafeTask (by decide +kernel)) hZ (hw _ (List.mem_of_getElem? (i := 8) rfl)) (hw _ (List.mem_of_getElem? (i := 2) rfl)) (by decide) (by decide)) q11a q11c (g := (mkF mM 52 #[.val (.int p0), .val (.int p1), .val (.int ((p0 &&& (2147483647 : Int32)) % (3 : Int32))), .val (.int (0 : Int32)), .val (.ref a_UNKNOWN)] [(.int (0 : Int32)), (.ref a_UNKNOWN)])) rfl (by rw [hml]; rfl) (Steps.refl _) (argsL := [(.int (0 : Int32))]) (rest := []) (lenOf own_pd0 rfl) rfl (by show 2 * 0 + _ ≤ _; exact Nat.le_of_eq rfl) (hb hby at_52) (fun _ _ => ⟨rfl, e10, (by decide : 0 + 0 ≤ _), (by decide : 0 + 0 ≤ _)⟩)
        dsimp only [Pt.U, Pt.locs, Pt.cells, Pt.slots] at X11 l11 y11 z11 st11 hQ11
        subst l11 y11 z11
        obtain ⟨rfl, Nq11, e11⟩ := hQ11
        have N11 := Fr.app N0 Nq11
        refine own_tr st11 ?_
        show own_Ends _ _ _ _ (T11.setTop (mkF mM 55 #[.val (.int p0), .val (.int p1), .val (.int ((p0 &&& (2147483647 : Int32)) % (3 : Int32))), .val (.int (0 : Int32)), .val (.ref a_UNKNOWN)] [(.int (0 : Int32))]))
        refine own_go (fun _ k => XS.iloadN X11.here hx rfl (hb hby at_55) rfl k) ?_
        show own_Ends _ _ _ _ (T11.setTop (mkF mM 56 #[.val (.int p0), .val (.int p1), .val (.int ((p0 &&& (2147483647 : Int32)) % (3 : Int32))), .val (.int (0 : Int32)), .val (.ref a_UNKNOWN)] [(.int ((p0 &&& (2147483647 : Int32)) % (3 : Int32))), (.int (0 : Int32))]))
        refine own_go (fun _ k => XS.iloadN X11.here hx rfl (hb hby at_56) rfl k) ?_
        show own_Ends _ _ _ _ (T11.setTop (mkF mM 57 #[.val (.int p0), .val (.int p1), .val (.int ((p0 &&& (2147483647 : Int32)) % (3 : Int32))), .val (.int (0 : Int32)), .val (.ref a_UNKNOWN)] [(.int (0 : Int32)), (.int ((p0 &&& (2147483647 : Int32)) % (3 : Int32))), (.int (0 : Int32))]))
        obtain ⟨_, _, ⟨T12, Lz12, kz12, nz12⟩, -, X12, ⟨Lc12, hQ12, l12, y12, z12⟩, st12⟩ := Jvm.LawKit.callS X11 hx (y := (⟨"com/example/abstract_and_refine/abstractandrefine/VerdictScorePinLaw", "expectedPoints", "(IZ)I"⟩ : MethodName)) hown (mvT hZ (hw _ (List.mem_of_getElem? (i := 11) rfl))) (mvT hZ (hw _ (List.mem_of_getElem? (i := 12) rfl))) (mvT hZ (hw _ (List.mem_of_getElem? (i := 13) rfl))) (mvT hZ (hw _ (List.mem_of_getElem? (i := 14) rfl))) (by decide) (backOf (W := 1) (own_expected l Z a0 hw [] ((p0 &&& (2147483647 : Int32)) % (3 : Int32)) (0 : Int32) (0 : Int32) h0 n0 O0 (by rw [if_neg hc20_1, if_neg hc33_5])) hZ (hw _ (List.mem_of_getElem? (i := 14) rfl)) (hw _ (List.mem_of_getElem? (i := 13) rfl)) (by decide) (by decide)) (g := (mkF mM 57 #[.val (.int p0), .val (.int p1), .val (.int ((p0 &&& (2147483647 : Int32)) % (3 : Int32))), .val (.int (0 : Int32)), .val (.ref a_UNKNOWN)] [(.int (0 : Int32)), (.int ((p0 &&& (2147483647 : Int32)) % (3 : Int32))), (.int (0 : Int32))])) rfl (by rw [hml]; rfl) (argsL := [(.int ((p0 &&& (2147483647 : Int32)) % (3 : Int32))), (.int (0 : Int32))]) (rest := [(.int (0 : Int32))]) (lenOf own_pd1 rfl) rfl (by show 2 * 0 + _ ≤ _; exact Nat.le_of_eq rfl) (hb hby at_57) (fun _ _ => ⟨rfl, e11, (by decide : 0 + 0 ≤ _), (by decide : 0 + 0 ≤ _)⟩)
        dsimp only [Pt.U, Pt.locs, Pt.cells, Pt.slots] at X12 l12 y12 z12 st12 hQ12
        subst l12 y12 z12
        obtain ⟨rfl, Nq12, e12⟩ := hQ12
        have N12 := Fr.app N11 Nq12
        refine own_go st12 ?_
        show own_Ends _ _ _ _ (T12.setTop (mkF mM 60 #[.val (.int p0), .val (.int p1), .val (.int ((p0 &&& (2147483647 : Int32)) % (3 : Int32))), .val (.int (0 : Int32)), .val (.ref a_UNKNOWN)] [(.int (0 : Int32)), (.int (0 : Int32))]))
        refine own_go (fun _ k => XS.icmpNo X12.here hx rfl (hb hby at_60) rfl (teq (by decide : (0 : Int32) = (0 : Int32))).2 k) ?_
        show own_Ends _ _ _ _ (T12.setTop (mkF mM 63 #[.val (.int p0), .val (.int p1), .val (.int ((p0 &&& (2147483647 : Int32)) % (3 : Int32))), .val (.int (0 : Int32)), .val (.ref a_UNKNOWN)] []))
        refine own_go (fun _ k => XS.iconst X12.here hx rfl (hb hby at_63) k) ?_
        show own_Ends _ _ _ _ (T12.setTop (mkF mM 64 #[.val (.int p0), .val (.int p1), .val (.int ((p0 &&& (2147483647 : Int32)) % (3 : Int32))), .val (.int (0 : Int32)), .val (.ref a_UNKNOWN)] [(.int (1 : Int32))]))
        refine own_go (fun _ k => XS.goto X12.here hx rfl (pc0 := 64) (pc' := 68) rfl (hb hby at_64) (by decide) (by decide) k) ?_
        show own_Ends _ _ _ _ (T12.setTop (mkF mM 68 #[.val (.int p0), .val (.int p1), .val (.int ((p0 &&& (2147483647 : Int32)) % (3 : Int32))), .val (.int (0 : Int32)), .val (.ref a_UNKNOWN)] [(.int (1 : Int32))]))
        exact own_retZ X12 hx (BodyLoose.notSynchronized Bd) Bd.returns rfl (hb hby at_68) (by decide) (by decide) (by rw [e12]; exact ⟨rfl, N12⟩)
  · refine own_go (fun _ k => XS.ifNo X0.here hx rfl (hb hby at_10) rfl ((if0 _ _).trans (feq hc10_0).1) k) ?_
    show own_Ends _ _ _ _ (s₁.setTop (mkF mM 13 #[.val (.int p0), .val (.int p1), .val (.int ((p0 &&& (2147483647 : Int32)) % (3 : Int32))), .unset, .unset] []))
    refine own_go (fun _ k => XS.iconst X0.here hx rfl (hb hby at_13) k) ?_
    show own_Ends _ _ _ _ (s₁.setTop (mkF mM 14 #[.val (.int p0), .val (.int p1), .val (.int ((p0 &&& (2147483647 : Int32)) % (3 : Int32))), .unset, .unset] [(.int (1 : Int32))]))
    refine own_go (fun _ k => XS.goto X0.here hx rfl (pc0 := 14) (pc' := 18) rfl (hb hby at_14) (by decide) (by decide) k) ?_
    show own_Ends _ _ _ _ (s₁.setTop (mkF mM 18 #[.val (.int p0), .val (.int p1), .val (.int ((p0 &&& (2147483647 : Int32)) % (3 : Int32))), .unset, .unset] [(.int (1 : Int32))]))
    refine own_go (fun _ k => XS.istoreN X0.here hx rfl (hb hby at_18) rfl (l' := #[.val (.int p0), .val (.int p1), .val (.int ((p0 &&& (2147483647 : Int32)) % (3 : Int32))), .val (.int (1 : Int32)), .unset]) rfl k) ?_
    show own_Ends _ _ _ _ (s₁.setTop (mkF mM 19 #[.val (.int p0), .val (.int p1), .val (.int ((p0 &&& (2147483647 : Int32)) % (3 : Int32))), .val (.int (1 : Int32)), .unset] []))
    refine own_go (fun _ k => XS.iloadN X0.here hx rfl (hb hby at_19) rfl k) ?_
    show own_Ends _ _ _ _ (s₁.setTop (mkF mM 20 #[.val (.int p0), .val (.int p1), .val (.int ((p0 &&& (2147483647 : Int32)) % (3 : Int32))), .val (.int (1 : Int32)), .unset] [(.int ((p0 &&& (2147483647 : Int32)) % (3 : Int32)))]))
    by_cases hc20_12 : ((p0 &&& (2147483647 : Int32)) % (3 : Int32)) = (0 : Int32)
    · refine own_go (fun _ k => XS.ifNo X0.here hx rfl (hb hby at_20) rfl ((if0 _ _).trans (teq hc20_12).2) k) ?_
      show own_Ends _ _ _ _ (s₁.setTop (mkF mM 23 #[.val (.int p0), .val (.int p1), .val (.int ((p0 &&& (2147483647 : Int32)) % (3 : Int32))), .val (.int (1 : Int32)), .unset] []))
      obtain ⟨T14, X14, e14, st14⟩ := getS2 X0 hx hZ hown (host := "") (Or.inl (hw _ (List.mem_of_getElem? (i := 1) rfl))) Via.refl e0 (S_SAFE.ext O0.2) (g := (mkF mM 23 #[.val (.int p0), .val (.int p1), .val (.int ((p0 &&& (2147483647 : Int32)) % (3 : Int32))), .val (.int (1 : Int32)), .unset] [])) rfl (hb hby at_23)
      refine own_go st14 ?_
      show own_Ends _ _ _ _ (T14.setTop (mkF mM 26 #[.val (.int p0), .val (.int p1), .val (.int ((p0 &&& (2147483647 : Int32)) % (3 : Int32))), .val (.int (1 : Int32)), .unset] [(.ref a_SAFE)]))
      refine own_go (fun _ k => XS.astore X14.here hx rfl (hb hby at_26) rfl rfl (l' := #[.val (.int p0), .val (.int p1), .val (.int ((p0 &&& (2147483647 : Int32)) % (3 : Int32))), .val (.int (1 : Int32)), .val (.ref a_SAFE)]) rfl k) ?_
      show own_Ends _ _ _ _ (T14.setTop (mkF mM 28 #[.val (.int p0), .val (.int p1), .val (.int ((p0 &&& (2147483647 : Int32)) % (3 : Int32))), .val (.int (1 : Int32)), .val (.ref a_SAFE)] []))
      refine own_go (fun _ k => XS.goto X14.here hx rfl (pc0 := 28) (pc' := 49) rfl (hb hby at_28) (by decide) (by decide) k) ?_
      show own_Ends _ _ _ _ (T14.setTop (mkF mM 49 #[.val (.int p0), .val (.int p1), .val (.int ((p0 &&& (2147483647 : Int32)) % (3 : Int32))), .val (.int (1 : Int32)), .val (.ref a_SAFE)] []))
      refine own_go (fun _ k => XS.aload X14.here hx rfl (hb hby at_49) rfl rfl k) ?_
      show own_Ends _ _ _ _ (T14.setTop (mkF mM 51 #[.val (.int p0), .val (.int p1), .val (.int ((p0 &&& (2147483647 : Int32)) % (3 : Int32))), .val (.int (1 : Int32)), .val (.ref a_SAFE)] [(.ref a_SAFE)]))
      refine own_go (fun _ k => XS.iloadN X14.here hx rfl (hb hby at_51) rfl k) ?_
      show own_Ends _ _ _ _ (T14.setTop (mkF mM 52 #[.val (.int p0), .val (.int p1), .val (.int ((p0 &&& (2147483647 : Int32)) % (3 : Int32))), .val (.int (1 : Int32)), .val (.ref a_SAFE)] [(.int (1 : Int32)), (.ref a_SAFE)]))
      obtain ⟨cq15, kq15, q15a, q15b, q15c⟩ := isOf hZ e14 (E_SAFE.ext O0.2)
      obtain ⟨_, _, ⟨T15, Lz15, kz15, nz15⟩, -, X15, ⟨Lc15, hQ15, l15, y15, z15⟩, st15⟩ := X14.virtualBack hx (y := (⟨"com/example/abstract_and_refine/abstractandrefine/Verdict", "score", "(Z)I"⟩ : MethodName)) (z := (⟨"com/example/abstract_and_refine/abstractandrefine/Verdict", "score", "(Z)I"⟩ : MethodName)) hown (mvT hZ (hw _ (List.mem_of_getElem? (i := 4) rfl))) (mvT hZ (hw _ (List.mem_of_getElem? (i := 5) rfl))) (notFace_of_selects (args := #[]) (mvT hZ (hw _ (List.mem_of_getElem? (i := 7) rfl)))) (mvT hZ (hw _ (List.mem_of_getElem? (i := 7) rfl))) (mvT hZ (hw _ (List.mem_of_getElem? (i := 6) rfl))) (by decide) (backOf (W := 0) (own_score l Z a0 hw [] a_SAFE (1 : Int32) (2 : Int32) (-32 : Int32) (2 : Int32) h0 n0 O0 F_SAFE_pointsOnSafeTask F_SAFE_pointsOnUnsafeTask (by decide +kernel)) hZ (hw _ (List.mem_of_getElem? (i := 8) rfl)) (hw _ (List.mem_of_getElem? (i := 2) rfl)) (by decide) (by decide)) q15a q15c (g := (mkF mM 52 #[.val (.int p0), .val (.int p1), .val (.int ((p0 &&& (2147483647 : Int32)) % (3 : Int32))), .val (.int (1 : Int32)), .val (.ref a_SAFE)] [(.int (1 : Int32)), (.ref a_SAFE)])) rfl (by rw [hml]; rfl) (Steps.refl _) (argsL := [(.int (1 : Int32))]) (rest := []) (lenOf own_pd0 rfl) rfl (by show 2 * 0 + _ ≤ _; exact Nat.le_of_eq rfl) (hb hby at_52) (fun _ _ => ⟨rfl, e14, (by decide : 0 + 0 ≤ _), (by decide : 0 + 0 ≤ _)⟩)
      dsimp only [Pt.U, Pt.locs, Pt.cells, Pt.slots] at X15 l15 y15 z15 st15 hQ15
      subst l15 y15 z15
      obtain ⟨rfl, Nq15, e15⟩ := hQ15
      have N15 := Fr.app N0 Nq15
      refine own_tr st15 ?_
      show own_Ends _ _ _ _ (T15.setTop (mkF mM 55 #[.val (.int p0), .val (.int p1), .val (.int ((p0 &&& (2147483647 : Int32)) % (3 : Int32))), .val (.int (1 : Int32)), .val (.ref a_SAFE)] [(.int (2 : Int32))]))
      refine own_go (fun _ k => XS.iloadN X15.here hx rfl (hb hby at_55) rfl k) ?_
      show own_Ends _ _ _ _ (T15.setTop (mkF mM 56 #[.val (.int p0), .val (.int p1), .val (.int ((p0 &&& (2147483647 : Int32)) % (3 : Int32))), .val (.int (1 : Int32)), .val (.ref a_SAFE)] [(.int ((p0 &&& (2147483647 : Int32)) % (3 : Int32))), (.int (2 : Int32))]))
      refine own_go (fun _ k => XS.iloadN X15.here hx rfl (hb hby at_56) rfl k) ?_
      show own_Ends _ _ _ _ (T15.setTop (mkF mM 57 #[.val (.int p0), .val (.int p1), .val (.int ((p0 &&& (2147483647 : Int32)) % (3 : Int32))), .val (.int (1 : Int32)), .val (.ref a_SAFE)] [(.int (1 : Int32)), (.int ((p0 &&& (2147483647 : Int32)) % (3 : Int32))), (.int (2 : Int32))]))
      obtain ⟨_, _, ⟨T16, Lz16, kz16, nz16⟩, -, X16, ⟨Lc16, hQ16, l16, y16, z16⟩, st16⟩ := Jvm.LawKit.callS X15 hx (y := (⟨"com/example/abstract_and_refine/abstractandrefine/VerdictScorePinLaw", "expectedPoints", "(IZ)I"⟩ : MethodName)) hown (mvT hZ (hw _ (List.mem_of_getElem? (i := 11) rfl))) (mvT hZ (hw _ (List.mem_of_getElem? (i := 12) rfl))) (mvT hZ (hw _ (List.mem_of_getElem? (i := 13) rfl))) (mvT hZ (hw _ (List.mem_of_getElem? (i := 14) rfl))) (by decide) (backOf (W := 1) (own_expected l Z a0 hw [] ((p0 &&& (2147483647 : Int32)) % (3 : Int32)) (1 : Int32) (2 : Int32) h0 n0 O0 (by rw [if_pos hc20_12]; decide +kernel)) hZ (hw _ (List.mem_of_getElem? (i := 14) rfl)) (hw _ (List.mem_of_getElem? (i := 13) rfl)) (by decide) (by decide)) (g := (mkF mM 57 #[.val (.int p0), .val (.int p1), .val (.int ((p0 &&& (2147483647 : Int32)) % (3 : Int32))), .val (.int (1 : Int32)), .val (.ref a_SAFE)] [(.int (1 : Int32)), (.int ((p0 &&& (2147483647 : Int32)) % (3 : Int32))), (.int (2 : Int32))])) rfl (by rw [hml]; rfl) (argsL := [(.int ((p0 &&& (2147483647 : Int32)) % (3 : Int32))), (.int (1 : Int32))]) (rest := [(.int (2 : Int32))]) (lenOf own_pd1 rfl) rfl (by show 2 * 0 + _ ≤ _; exact Nat.le_of_eq rfl) (hb hby at_57) (fun _ _ => ⟨rfl, e15, (by decide : 0 + 0 ≤ _), (by decide : 0 + 0 ≤ _)⟩)
      dsimp only [Pt.U, Pt.locs, Pt.cells, Pt.slots] at X16 l16 y16 z16 st16 hQ16
      subst l16 y16 z16
      obtain ⟨rfl, Nq16, e16⟩ := hQ16
      have N16 := Fr.app N15 Nq16
      refine own_go st16 ?_
      show own_Ends _ _ _ _ (T16.setTop (mkF mM 60 #[.val (.int p0), .val (.int p1), .val (.int ((p0 &&& (2147483647 : Int32)) % (3 : Int32))), .val (.int (1 : Int32)), .val (.ref a_SAFE)] [(.int (2 : Int32)), (.int (2 : Int32))]))
      refine own_go (fun _ k => XS.icmpNo X16.here hx rfl (hb hby at_60) rfl (teq (by decide : (2 : Int32) = (2 : Int32))).2 k) ?_
      show own_Ends _ _ _ _ (T16.setTop (mkF mM 63 #[.val (.int p0), .val (.int p1), .val (.int ((p0 &&& (2147483647 : Int32)) % (3 : Int32))), .val (.int (1 : Int32)), .val (.ref a_SAFE)] []))
      refine own_go (fun _ k => XS.iconst X16.here hx rfl (hb hby at_63) k) ?_
      show own_Ends _ _ _ _ (T16.setTop (mkF mM 64 #[.val (.int p0), .val (.int p1), .val (.int ((p0 &&& (2147483647 : Int32)) % (3 : Int32))), .val (.int (1 : Int32)), .val (.ref a_SAFE)] [(.int (1 : Int32))]))
      refine own_go (fun _ k => XS.goto X16.here hx rfl (pc0 := 64) (pc' := 68) rfl (hb hby at_64) (by decide) (by decide) k) ?_
      show own_Ends _ _ _ _ (T16.setTop (mkF mM 68 #[.val (.int p0), .val (.int p1), .val (.int ((p0 &&& (2147483647 : Int32)) % (3 : Int32))), .val (.int (1 : Int32)), .val (.ref a_SAFE)] [(.int (1 : Int32))]))
      exact own_retZ X16 hx (BodyLoose.notSynchronized Bd) Bd.returns rfl (hb hby at_68) (by decide) (by decide) (by rw [e16]; exact ⟨rfl, N16⟩)
    · refine own_go (fun _ k => XS.ifYes X0.here hx rfl (pc0 := 20) (pc' := 31) rfl (hb hby at_20) rfl ((if0 _ _).trans (feq hc20_12).2) (by decide) (by decide) k) ?_
      show own_Ends _ _ _ _ (s₁.setTop (mkF mM 31 #[.val (.int p0), .val (.int p1), .val (.int ((p0 &&& (2147483647 : Int32)) % (3 : Int32))), .val (.int (1 : Int32)), .unset] []))
      refine own_go (fun _ k => XS.iloadN X0.here hx rfl (hb hby at_31) rfl k) ?_
      show own_Ends _ _ _ _ (s₁.setTop (mkF mM 32 #[.val (.int p0), .val (.int p1), .val (.int ((p0 &&& (2147483647 : Int32)) % (3 : Int32))), .val (.int (1 : Int32)), .unset] [(.int ((p0 &&& (2147483647 : Int32)) % (3 : Int32)))]))
      refine own_go (fun _ k => XS.iconst X0.here hx rfl (hb hby at_32) k) ?_
      show own_Ends _ _ _ _ (s₁.setTop (mkF mM 33 #[.val (.int p0), .val (.int p1), .val (.int ((p0 &&& (2147483647 : Int32)) % (3 : Int32))), .val (.int (1 : Int32)), .unset] [(.int (1 : Int32)), (.int ((p0 &&& (2147483647 : Int32)) % (3 : Int32)))]))
      by_cases hc33_16 : ((p0 &&& (2147483647 : Int32)) % (3 : Int32)) = (1 : Int32)
      · refine own_go (fun _ k => XS.icmpNo X0.here hx rfl (hb hby at_33) rfl (teq hc33_16).2 k) ?_
        show own_Ends _ _ _ _ (s₁.setTop (mkF mM 36 #[.val (.int p0), .val (.int p1), .val (.int ((p0 &&& (2147483647 : Int32)) % (3 : Int32))), .val (.int (1 : Int32)), .unset] []))
        obtain ⟨T18, X18, e18, st18⟩ := getS2 X0 hx hZ hown (host := "") (Or.inl (hw _ (List.mem_of_getElem? (i := 19) rfl))) Via.refl e0 (S_UNSAFE.ext O0.2) (g := (mkF mM 36 #[.val (.int p0), .val (.int p1), .val (.int ((p0 &&& (2147483647 : Int32)) % (3 : Int32))), .val (.int (1 : Int32)), .unset] [])) rfl (hb hby at_36)
        refine own_go st18 ?_
        show own_Ends _ _ _ _ (T18.setTop (mkF mM 39 #[.val (.int p0), .val (.int p1), .val (.int ((p0 &&& (2147483647 : Int32)) % (3 : Int32))), .val (.int (1 : Int32)), .unset] [(.ref a_UNSAFE)]))
        refine own_go (fun _ k => XS.astore X18.here hx rfl (hb hby at_39) rfl rfl (l' := #[.val (.int p0), .val (.int p1), .val (.int ((p0 &&& (2147483647 : Int32)) % (3 : Int32))), .val (.int (1 : Int32)), .val (.ref a_UNSAFE)]) rfl k) ?_
        show own_Ends _ _ _ _ (T18.setTop (mkF mM 41 #[.val (.int p0), .val (.int p1), .val (.int ((p0 &&& (2147483647 : Int32)) % (3 : Int32))), .val (.int (1 : Int32)), .val (.ref a_UNSAFE)] []))
        refine own_go (fun _ k => XS.goto X18.here hx rfl (pc0 := 41) (pc' := 49) rfl (hb hby at_41) (by decide) (by decide) k) ?_
        show own_Ends _ _ _ _ (T18.setTop (mkF mM 49 #[.val (.int p0), .val (.int p1), .val (.int ((p0 &&& (2147483647 : Int32)) % (3 : Int32))), .val (.int (1 : Int32)), .val (.ref a_UNSAFE)] []))
        refine own_go (fun _ k => XS.aload X18.here hx rfl (hb hby at_49) rfl rfl k) ?_
        show own_Ends _ _ _ _ (T18.setTop (mkF mM 51 #[.val (.int p0), .val (.int p1), .val (.int ((p0 &&& (2147483647 : Int32)) % (3 : Int32))), .val (.int (1 : Int32)), .val (.ref a_UNSAFE)] [(.ref a_UNSAFE)]))
        refine own_go (fun _ k => XS.iloadN X18.here hx rfl (hb hby at_51) rfl k) ?_
        show own_Ends _ _ _ _ (T18.setTop (mkF mM 52 #[.val (.int p0), .val (.int p1), .val (.int ((p0 &&& (2147483647 : Int32)) % (3 : Int32))), .val (.int (1 : Int32)), .val (.ref a_UNSAFE)] [(.int (1 : Int32)), (.ref a_UNSAFE)]))
        obtain ⟨cq19, kq19, q19a, q19b, q19c⟩ := isOf hZ e18 (E_UNSAFE.ext O0.2)
        obtain ⟨_, _, ⟨T19, Lz19, kz19, nz19⟩, -, X19, ⟨Lc19, hQ19, l19, y19, z19⟩, st19⟩ := X18.virtualBack hx (y := (⟨"com/example/abstract_and_refine/abstractandrefine/Verdict", "score", "(Z)I"⟩ : MethodName)) (z := (⟨"com/example/abstract_and_refine/abstractandrefine/Verdict", "score", "(Z)I"⟩ : MethodName)) hown (mvT hZ (hw _ (List.mem_of_getElem? (i := 4) rfl))) (mvT hZ (hw _ (List.mem_of_getElem? (i := 5) rfl))) (notFace_of_selects (args := #[]) (mvT hZ (hw _ (List.mem_of_getElem? (i := 7) rfl)))) (mvT hZ (hw _ (List.mem_of_getElem? (i := 7) rfl))) (mvT hZ (hw _ (List.mem_of_getElem? (i := 6) rfl))) (by decide) (backOf (W := 0) (own_score l Z a0 hw [] a_UNSAFE (1 : Int32) (-16 : Int32) (1 : Int32) (-16 : Int32) h0 n0 O0 F_UNSAFE_pointsOnSafeTask F_UNSAFE_pointsOnUnsafeTask (by decide +kernel)) hZ (hw _ (List.mem_of_getElem? (i := 8) rfl)) (hw _ (List.mem_of_getElem? (i := 2) rfl)) (by decide) (by decide)) q19a q19c (g := (mkF mM 52 #[.val (.int p0), .val (.int p1), .val (.int ((p0 &&& (2147483647 : Int32)) % (3 : Int32))), .val (.int (1 : Int32)), .val (.ref a_UNSAFE)] [(.int (1 : Int32)), (.ref a_UNSAFE)])) rfl (by rw [hml]; rfl) (Steps.refl _) (argsL := [(.int (1 : Int32))]) (rest := []) (lenOf own_pd0 rfl) rfl (by show 2 * 0 + _ ≤ _; exact Nat.le_of_eq rfl) (hb hby at_52) (fun _ _ => ⟨rfl, e18, (by decide : 0 + 0 ≤ _), (by decide : 0 + 0 ≤ _)⟩)
        dsimp only [Pt.U, Pt.locs, Pt.cells, Pt.slots] at X19 l19 y19 z19 st19 hQ19
        subst l19 y19 z19
        obtain ⟨rfl, Nq19, e19⟩ := hQ19
        have N19 := Fr.app N0 Nq19
        refine own_tr st19 ?_
        show own_Ends _ _ _ _ (T19.setTop (mkF mM 55 #[.val (.int p0), .val (.int p1), .val (.int ((p0 &&& (2147483647 : Int32)) % (3 : Int32))), .val (.int (1 : Int32)), .val (.ref a_UNSAFE)] [(.int (-16 : Int32))]))
        refine own_go (fun _ k => XS.iloadN X19.here hx rfl (hb hby at_55) rfl k) ?_
        show own_Ends _ _ _ _ (T19.setTop (mkF mM 56 #[.val (.int p0), .val (.int p1), .val (.int ((p0 &&& (2147483647 : Int32)) % (3 : Int32))), .val (.int (1 : Int32)), .val (.ref a_UNSAFE)] [(.int ((p0 &&& (2147483647 : Int32)) % (3 : Int32))), (.int (-16 : Int32))]))
        refine own_go (fun _ k => XS.iloadN X19.here hx rfl (hb hby at_56) rfl k) ?_
        show own_Ends _ _ _ _ (T19.setTop (mkF mM 57 #[.val (.int p0), .val (.int p1), .val (.int ((p0 &&& (2147483647 : Int32)) % (3 : Int32))), .val (.int (1 : Int32)), .val (.ref a_UNSAFE)] [(.int (1 : Int32)), (.int ((p0 &&& (2147483647 : Int32)) % (3 : Int32))), (.int (-16 : Int32))]))
        obtain ⟨_, _, ⟨T20, Lz20, kz20, nz20⟩, -, X20, ⟨Lc20, hQ20, l20, y20, z20⟩, st20⟩ := Jvm.LawKit.callS X19 hx (y := (⟨"com/example/abstract_and_refine/abstractandrefine/VerdictScorePinLaw", "expectedPoints", "(IZ)I"⟩ : MethodName)) hown (mvT hZ (hw _ (List.mem_of_getElem? (i := 11) rfl))) (mvT hZ (hw _ (List.mem_of_getElem? (i := 12) rfl))) (mvT hZ (hw _ (List.mem_of_getElem? (i := 13) rfl))) (mvT hZ (hw _ (List.mem_of_getElem? (i := 14) rfl))) (by decide) (backOf (W := 1) (own_expected l Z a0 hw [] ((p0 &&& (2147483647 : Int32)) % (3 : Int32)) (1 : Int32) (-16 : Int32) h0 n0 O0 (by rw [if_neg hc20_12, if_pos hc33_16]; decide +kernel)) hZ (hw _ (List.mem_of_getElem? (i := 14) rfl)) (hw _ (List.mem_of_getElem? (i := 13) rfl)) (by decide) (by decide)) (g := (mkF mM 57 #[.val (.int p0), .val (.int p1), .val (.int ((p0 &&& (2147483647 : Int32)) % (3 : Int32))), .val (.int (1 : Int32)), .val (.ref a_UNSAFE)] [(.int (1 : Int32)), (.int ((p0 &&& (2147483647 : Int32)) % (3 : Int32))), (.int (-16 : Int32))])) rfl (by rw [hml]; rfl) (argsL := [(.int ((p0 &&& (2147483647 : Int32)) % (3 : Int32))), (.int (1 : Int32))]) (rest := [(.int (-16 : Int32))]) (lenOf own_pd1 rfl) rfl (by show 2 * 0 + _ ≤ _; exact Nat.le_of_eq rfl) (hb hby at_57) (fun _ _ => ⟨rfl, e19, (by decide : 0 + 0 ≤ _), (by decide : 0 + 0 ≤ _)⟩)
        dsimp only [Pt.U, Pt.locs, Pt.cells, Pt.slots] at X20 l20 y20 z20 st20 hQ20
        subst l20 y20 z20
        obtain ⟨rfl, Nq20, e20⟩ := hQ20
        have N20 := Fr.app N19 Nq20
        refine own_go st20 ?_
        show own_Ends _ _ _ _ (T20.setTop (mkF mM 60 #[.val (.int p0), .val (.int p1), .val (.int ((p0 &&& (2147483647 : Int32)) % (3 : Int32))), .val (.int (1 : Int32)), .val (.ref a_UNSAFE)] [(.int (-16 : Int32)), (.int (-16 : Int32))]))
        refine own_go (fun _ k => XS.icmpNo X20.here hx rfl (hb hby at_60) rfl (teq (by decide : (-16 : Int32) = (-16 : Int32))).2 k) ?_
        show own_Ends _ _ _ _ (T20.setTop (mkF mM 63 #[.val (.int p0), .val (.int p1), .val (.int ((p0 &&& (2147483647 : Int32)) % (3 : Int32))), .val (.int (1 : Int32)), .val (.ref a_UNSAFE)] []))
        refine own_go (fun _ k => XS.iconst X20.here hx rfl (hb hby at_63) k) ?_
        show own_Ends _ _ _ _ (T20.setTop (mkF mM 64 #[.val (.int p0), .val (.int p1), .val (.int ((p0 &&& (2147483647 : Int32)) % (3 : Int32))), .val (.int (1 : Int32)), .val (.ref a_UNSAFE)] [(.int (1 : Int32))]))
        refine own_go (fun _ k => XS.goto X20.here hx rfl (pc0 := 64) (pc' := 68) rfl (hb hby at_64) (by decide) (by decide) k) ?_
        show own_Ends _ _ _ _ (T20.setTop (mkF mM 68 #[.val (.int p0), .val (.int p1), .val (.int ((p0 &&& (2147483647 : Int32)) % (3 : Int32))), .val (.int (1 : Int32)), .val (.ref a_UNSAFE)] [(.int (1 : Int32))]))
        exact own_retZ X20 hx (BodyLoose.notSynchronized Bd) Bd.returns rfl (hb hby at_68) (by decide) (by decide) (by rw [e20]; exact ⟨rfl, N20⟩)
      · refine own_go (fun _ k => XS.icmpYes X0.here hx rfl (pc0 := 33) (pc' := 44) rfl (hb hby at_33) rfl (feq hc33_16).2 (by decide) (by decide) k) ?_
        show own_Ends _ _ _ _ (s₁.setTop (mkF mM 44 #[.val (.int p0), .val (.int p1), .val (.int ((p0 &&& (2147483647 : Int32)) % (3 : Int32))), .val (.int (1 : Int32)), .unset] []))
        obtain ⟨T21, X21, e21, st21⟩ := getS2 X0 hx hZ hown (host := "") (Or.inl (hw _ (List.mem_of_getElem? (i := 15) rfl))) Via.refl e0 (S_UNKNOWN.ext O0.2) (g := (mkF mM 44 #[.val (.int p0), .val (.int p1), .val (.int ((p0 &&& (2147483647 : Int32)) % (3 : Int32))), .val (.int (1 : Int32)), .unset] [])) rfl (hb hby at_44)
        refine own_go st21 ?_
        show own_Ends _ _ _ _ (T21.setTop (mkF mM 47 #[.val (.int p0), .val (.int p1), .val (.int ((p0 &&& (2147483647 : Int32)) % (3 : Int32))), .val (.int (1 : Int32)), .unset] [(.ref a_UNKNOWN)]))
        refine own_go (fun _ k => XS.astore X21.here hx rfl (hb hby at_47) rfl rfl (l' := #[.val (.int p0), .val (.int p1), .val (.int ((p0 &&& (2147483647 : Int32)) % (3 : Int32))), .val (.int (1 : Int32)), .val (.ref a_UNKNOWN)]) rfl k) ?_
        show own_Ends _ _ _ _ (T21.setTop (mkF mM 49 #[.val (.int p0), .val (.int p1), .val (.int ((p0 &&& (2147483647 : Int32)) % (3 : Int32))), .val (.int (1 : Int32)), .val (.ref a_UNKNOWN)] []))
        refine own_go (fun _ k => XS.aload X21.here hx rfl (hb hby at_49) rfl rfl k) ?_
        show own_Ends _ _ _ _ (T21.setTop (mkF mM 51 #[.val (.int p0), .val (.int p1), .val (.int ((p0 &&& (2147483647 : Int32)) % (3 : Int32))), .val (.int (1 : Int32)), .val (.ref a_UNKNOWN)] [(.ref a_UNKNOWN)]))
        refine own_go (fun _ k => XS.iloadN X21.here hx rfl (hb hby at_51) rfl k) ?_
        show own_Ends _ _ _ _ (T21.setTop (mkF mM 52 #[.val (.int p0), .val (.int p1), .val (.int ((p0 &&& (2147483647 : Int32)) % (3 : Int32))), .val (.int (1 : Int32)), .val (.ref a_UNKNOWN)] [(.int (1 : Int32)), (.ref a_UNKNOWN)]))
        obtain ⟨cq22, kq22, q22a, q22b, q22c⟩ := isOf hZ e21 (E_UNKNOWN.ext O0.2)
        obtain ⟨_, _, ⟨T22, Lz22, kz22, nz22⟩, -, X22, ⟨Lc22, hQ22, l22, y22, z22⟩, st22⟩ := X21.virtualBack hx (y := (⟨"com/example/abstract_and_refine/abstractandrefine/Verdict", "score", "(Z)I"⟩ : MethodName)) (z := (⟨"com/example/abstract_and_refine/abstractandrefine/Verdict", "score", "(Z)I"⟩ : MethodName)) hown (mvT hZ (hw _ (List.mem_of_getElem? (i := 4) rfl))) (mvT hZ (hw _ (List.mem_of_getElem? (i := 5) rfl))) (notFace_of_selects (args := #[]) (mvT hZ (hw _ (List.mem_of_getElem? (i := 7) rfl)))) (mvT hZ (hw _ (List.mem_of_getElem? (i := 7) rfl))) (mvT hZ (hw _ (List.mem_of_getElem? (i := 6) rfl))) (by decide) (backOf (W := 0) (own_score l Z a0 hw [] a_UNKNOWN (1 : Int32) (0 : Int32) (0 : Int32) (0 : Int32) h0 n0 O0 F_UNKNOWN_pointsOnSafeTask F_UNKNOWN_pointsOnUnsafeTask (by decide +kernel)) hZ (hw _ (List.mem_of_getElem? (i := 8) rfl)) (hw _ (List.mem_of_getElem? (i := 2) rfl)) (by decide) (by decide)) q22a q22c (g := (mkF mM 52 #[.val (.int p0), .val (.int p1), .val (.int ((p0 &&& (2147483647 : Int32)) % (3 : Int32))), .val (.int (1 : Int32)), .val (.ref a_UNKNOWN)] [(.int (1 : Int32)), (.ref a_UNKNOWN)])) rfl (by rw [hml]; rfl) (Steps.refl _) (argsL := [(.int (1 : Int32))]) (rest := []) (lenOf own_pd0 rfl) rfl (by show 2 * 0 + _ ≤ _; exact Nat.le_of_eq rfl) (hb hby at_52) (fun _ _ => ⟨rfl, e21, (by decide : 0 + 0 ≤ _), (by decide : 0 + 0 ≤ _)⟩)
        dsimp only [Pt.U, Pt.locs, Pt.cells, Pt.slots] at X22 l22 y22 z22 st22 hQ22
        subst l22 y22 z22
        obtain ⟨rfl, Nq22, e22⟩ := hQ22
        have N22 := Fr.app N0 Nq22
        refine own_tr st22 ?_
        show own_Ends _ _ _ _ (T22.setTop (mkF mM 55 #[.val (.int p0), .val (.int p1), .val (.int ((p0 &&& (2147483647 : Int32)) % (3 : Int32))), .val (.int (1 : Int32)), .val (.ref a_UNKNOWN)] [(.int (0 : Int32))]))
        refine own_go (fun _ k => XS.iloadN X22.here hx rfl (hb hby at_55) rfl k) ?_
        show own_Ends _ _ _ _ (T22.setTop (mkF mM 56 #[.val (.int p0), .val (.int p1), .val (.int ((p0 &&& (2147483647 : Int32)) % (3 : Int32))), .val (.int (1 : Int32)), .val (.ref a_UNKNOWN)] [(.int ((p0 &&& (2147483647 : Int32)) % (3 : Int32))), (.int (0 : Int32))]))
        refine own_go (fun _ k => XS.iloadN X22.here hx rfl (hb hby at_56) rfl k) ?_
        show own_Ends _ _ _ _ (T22.setTop (mkF mM 57 #[.val (.int p0), .val (.int p1), .val (.int ((p0 &&& (2147483647 : Int32)) % (3 : Int32))), .val (.int (1 : Int32)), .val (.ref a_UNKNOWN)] [(.int (1 : Int32)), (.int ((p0 &&& (2147483647 : Int32)) % (3 : Int32))), (.int (0 : Int32))]))
        obtain ⟨_, _, ⟨T23, Lz23, kz23, nz23⟩, -, X23, ⟨Lc23, hQ23, l23, y23, z23⟩, st23⟩ := Jvm.LawKit.callS X22 hx (y := (⟨"com/example/abstract_and_refine/abstractandrefine/VerdictScorePinLaw", "expectedPoints", "(IZ)I"⟩ : MethodName)) hown (mvT hZ (hw _ (List.mem_of_getElem? (i := 11) rfl))) (mvT hZ (hw _ (List.mem_of_getElem? (i := 12) rfl))) (mvT hZ (hw _ (List.mem_of_getElem? (i := 13) rfl))) (mvT hZ (hw _ (List.mem_of_getElem? (i := 14) rfl))) (by decide) (backOf (W := 1) (own_expected l Z a0 hw [] ((p0 &&& (2147483647 : Int32)) % (3 : Int32)) (1 : Int32) (0 : Int32) h0 n0 O0 (by rw [if_neg hc20_12, if_neg hc33_16])) hZ (hw _ (List.mem_of_getElem? (i := 14) rfl)) (hw _ (List.mem_of_getElem? (i := 13) rfl)) (by decide) (by decide)) (g := (mkF mM 57 #[.val (.int p0), .val (.int p1), .val (.int ((p0 &&& (2147483647 : Int32)) % (3 : Int32))), .val (.int (1 : Int32)), .val (.ref a_UNKNOWN)] [(.int (1 : Int32)), (.int ((p0 &&& (2147483647 : Int32)) % (3 : Int32))), (.int (0 : Int32))])) rfl (by rw [hml]; rfl) (argsL := [(.int ((p0 &&& (2147483647 : Int32)) % (3 : Int32))), (.int (1 : Int32))]) (rest := [(.int (0 : Int32))]) (lenOf own_pd1 rfl) rfl (by show 2 * 0 + _ ≤ _; exact Nat.le_of_eq rfl) (hb hby at_57) (fun _ _ => ⟨rfl, e22, (by decide : 0 + 0 ≤ _), (by decide : 0 + 0 ≤ _)⟩)
        dsimp only [Pt.U, Pt.locs, Pt.cells, Pt.slots] at X23 l23 y23 z23 st23 hQ23
        subst l23 y23 z23
        obtain ⟨rfl, Nq23, e23⟩ := hQ23
        have N23 := Fr.app N22 Nq23
        refine own_go st23 ?_
        show own_Ends _ _ _ _ (T23.setTop (mkF mM 60 #[.val (.int p0), .val (.int p1), .val (.int ((p0 &&& (2147483647 : Int32)) % (3 : Int32))), .val (.int (1 : Int32)), .val (.ref a_UNKNOWN)] [(.int (0 : Int32)), (.int (0 : Int32))]))
        refine own_go (fun _ k => XS.icmpNo X23.here hx rfl (hb hby at_60) rfl (teq (by decide : (0 : Int32) = (0 : Int32))).2 k) ?_
        show own_Ends _ _ _ _ (T23.setTop (mkF mM 63 #[.val (.int p0), .val (.int p1), .val (.int ((p0 &&& (2147483647 : Int32)) % (3 : Int32))), .val (.int (1 : Int32)), .val (.ref a_UNKNOWN)] []))
        refine own_go (fun _ k => XS.iconst X23.here hx rfl (hb hby at_63) k) ?_
        show own_Ends _ _ _ _ (T23.setTop (mkF mM 64 #[.val (.int p0), .val (.int p1), .val (.int ((p0 &&& (2147483647 : Int32)) % (3 : Int32))), .val (.int (1 : Int32)), .val (.ref a_UNKNOWN)] [(.int (1 : Int32))]))
        refine own_go (fun _ k => XS.goto X23.here hx rfl (pc0 := 64) (pc' := 68) rfl (hb hby at_64) (by decide) (by decide) k) ?_
        show own_Ends _ _ _ _ (T23.setTop (mkF mM 68 #[.val (.int p0), .val (.int p1), .val (.int ((p0 &&& (2147483647 : Int32)) % (3 : Int32))), .val (.int (1 : Int32)), .val (.ref a_UNKNOWN)] [(.int (1 : Int32))]))
        exact own_retZ X23 hx (BodyLoose.notSynchronized Bd) Bd.returns rfl (hb hby at_68) (by decide) (by decide) (by rw [e23]; exact ⟨rfl, N23⟩)
set_option maxRecDepth 65536 in
set_option maxHeartbeats 40000000 in
theorem comes_1 {Post : Tables → Env → Array Value → State → Outcome → State → Prop} (hpost : ∀ tb e args s v u, (limb_1_1.after args s (.returned v) u = true ∧ limb_1_2.after args s (.returned v) u = true ∧ True) → FrameEnd s (.returned v) u (Jvm.fieldLocs frame_1_writes args s ++ Jvm.arrayLocs frame_1_arrays args s ++ Jvm.staticLocs frame_1_statics s) 0 0 → Post tb e args s (.returned v) u) :
    ArmFor flags0 classFile x code maxLocals ret World_1 tables_1 room_1 Calls_1 rest_1 Pre_1 Post := by
  intro l hfl _ _ p e ha hc hk s m args below hf hA hF happ hP
  obtain ⟨hcalls, hrest, hpre⟩ := hP
  obtain ⟨-, -, -, hnamed, -, -, -, hat⟩ := (Spec.applies_iff hf).mp happ
  obtain ⟨hg, hn⟩ := and_e (Cond.before_iff.mp (show (Jvm.Cond.and given_1 narrow_1).before args s = true from hpre))
  obtain ⟨hg0, hr0⟩ := and_e hg
  obtain ⟨hg1, hg2⟩ := and_e hr0
  obtain ⟨w0, w1, rfl⟩ : ∃ w0 w1 : Value, args = #[w0, w1] := by
    have hs : args.size = 2 := by simpa [Cond.value, given_1] using hg0
    obtain ⟨L⟩ := args
    match L, hs with
    | [w0, w1], _ => exact ⟨w0, w1, rfl⟩
  have hw := fun d (hd : d ∈ tables_1) => atoms_spec (ws := Jvm.Cond.code x code maxLocals ret :: tables_1) hat d (List.mem_cons_of_mem _ hd)
  have hfit : Fit s := fun {y c} hc i hi => by
    obtain ⟨ha, rfl⟩ := Array.getElem?_eq_some_iff.mp hc
    have q := List.all_eq_true.mp ((Array.all_eq_true_iff_forall_mem.mp hF) _ (Array.getElem_mem ha)) i (List.mem_range.mpr hi)
    simpa [Array.getElem?_eq_getElem hi] using q
  obtain ⟨i0, ei0⟩ := is_v hg1
  obtain rfl : w0 = (.int i0) := Option.some.inj ei0
  obtain ⟨i1, ei1⟩ := is_v hg2
  obtain rfl : w1 = (.int i1) := Option.some.inj ei1
  obtain ⟨hn0, hm0⟩ := and_e hn
  obtain ⟨a_SAFE, ev_SAFE⟩ := exa_v hn0
  have S_SAFE : Sta s s.heap "com/example/abstract_and_refine/abstractandrefine/Verdict" "SAFE" "Lcom/example/abstract_and_refine/abstractandrefine/Verdict;" (.ref a_SAFE) := Sta.start ev_SAFE (Or.inr ⟨(hw _ (List.mem_of_getElem? (i := 2) rfl)), (hw _ (List.mem_of_getElem? (i := 3) rfl))⟩)
  have E_SAFE : Exa s s.heap a_SAFE "com/example/abstract_and_refine/abstractandrefine/Verdict" := Exa.start ev_SAFE hn0
  obtain ⟨hn1, hm1⟩ := and_e hm0
  have F_SAFE_pointsOnSafeTask : Fld s s.heap a_SAFE "com/example/abstract_and_refine/abstractandrefine/Verdict" "pointsOnSafeTask" "I" (.int (2 : Int32)) := own_fldI ev_SAFE hn1
  obtain ⟨hn2, hm2⟩ := and_e hm1
  obtain ⟨a_UNKNOWN, ev_UNKNOWN⟩ := exa_v hn2
  have S_UNKNOWN : Sta s s.heap "com/example/abstract_and_refine/abstractandrefine/Verdict" "UNKNOWN" "Lcom/example/abstract_and_refine/abstractandrefine/Verdict;" (.ref a_UNKNOWN) := Sta.start ev_UNKNOWN (Or.inr ⟨(hw _ (List.mem_of_getElem? (i := 2) rfl)), (hw _ (List.mem_of_getElem? (i := 16) rfl))⟩)
  have E_UNKNOWN : Exa s s.heap a_UNKNOWN "com/example/abstract_and_refine/abstractandrefine/Verdict" := Exa.start ev_UNKNOWN hn2
  obtain ⟨hn3, hm3⟩ := and_e hm2
  have F_UNKNOWN_pointsOnSafeTask : Fld s s.heap a_UNKNOWN "com/example/abstract_and_refine/abstractandrefine/Verdict" "pointsOnSafeTask" "I" (.int (0 : Int32)) := own_fldI ev_UNKNOWN hn3
  obtain ⟨hn4, hm4⟩ := and_e hm3
  have F_UNKNOWN_pointsOnUnsafeTask : Fld s s.heap a_UNKNOWN "com/example/abstract_and_refine/abstractandrefine/Verdict" "pointsOnUnsafeTask" "I" (.int (0 : Int32)) := own_fldI ev_UNKNOWN hn4
  obtain ⟨hn5, hm5⟩ := and_e hm4
  obtain ⟨a_UNSAFE, ev_UNSAFE⟩ := exa_v hn5
  have S_UNSAFE : Sta s s.heap "com/example/abstract_and_refine/abstractandrefine/Verdict" "UNSAFE" "Lcom/example/abstract_and_refine/abstractandrefine/Verdict;" (.ref a_UNSAFE) := Sta.start ev_UNSAFE (Or.inr ⟨(hw _ (List.mem_of_getElem? (i := 2) rfl)), (hw _ (List.mem_of_getElem? (i := 20) rfl))⟩)
  have E_UNSAFE : Exa s s.heap a_UNSAFE "com/example/abstract_and_refine/abstractandrefine/Verdict" := Exa.start ev_UNSAFE hn5
  obtain ⟨hn6, hm6⟩ := and_e hm5
  have F_UNSAFE_pointsOnUnsafeTask : Fld s s.heap a_UNSAFE "com/example/abstract_and_refine/abstractandrefine/Verdict" "pointsOnUnsafeTask" "I" (.int (1 : Int32)) := own_fldI ev_UNSAFE hn6
  obtain ⟨hn7, hm7⟩ := and_e hm6
  have F_UNSAFE_pointsOnSafeTask : Fld s s.heap a_UNSAFE "com/example/abstract_and_refine/abstractandrefine/Verdict" "pointsOnSafeTask" "I" (.int (-16 : Int32)) := own_fldI ev_UNSAFE hn7
  have F_SAFE_pointsOnUnsafeTask : Fld s s.heap a_SAFE "com/example/abstract_and_refine/abstractandrefine/Verdict" "pointsOnUnsafeTask" "I" (.int (-32 : Int32)) := own_fldI ev_SAFE hm7
  obtain ⟨n, o, h1, h2, h3, _, L, rfl, ⟨rfl, N⟩, hq⟩ := own_law l s _ hw tables_1 i0 i1 a_SAFE a_UNKNOWN a_UNSAFE s.heap s.heap.size (Old.start s) S_SAFE E_SAFE F_SAFE_pointsOnSafeTask F_SAFE_pointsOnUnsafeTask S_UNKNOWN E_UNKNOWN F_UNKNOWN_pointsOnSafeTask F_UNKNOWN_pointsOnUnsafeTask S_UNSAFE E_UNSAFE F_UNSAFE_pointsOnUnsafeTask F_UNSAFE_pointsOnSafeTask p e ha hc hk s m _ below hf ((Spec.applies_iff_loose hf).mp happ).1 ⟨rfl, State.Warmed39.refl s, rfl⟩ trivial
  refine ⟨n, _, h1, h2, h3, hpost _ _ _ _ _ _ ⟨Cond.after_iff.mpr rfl, Cond.after_iff.mpr (eq_i res_at (Term.int_eval (1)) rfl), trivial⟩ ⟨hq.1, hq.2.1, (hq.2.2.sift fun y hy => Or.inr (N y hy)).mono (by decide) (by decide)⟩⟩
theorem main_1_1 : Claimed_1_1 := comes_1 fun _ _ _ _ _ _ h hF => ⟨h.1, hF⟩
theorem main_1_2 : Claimed_1_2 := comes_1 fun _ _ _ _ _ _ h hF => ⟨h.2.1, hF⟩
end Jvm.Pilot.@@N@@
namespace Jvm.Pilot.@@N@@
open Jvm Jvm.ClassFile Sem Op Lib Jvm.Free Jvm.Stand Jvm.Pilot.@@N@@.Jvm.D
/-! MADE BY PROGRAM (witnessworld.py) out of the Statement's table words and the real class files: 12 classes; the members and pool entries that the words name. The judged class is class 1, her method 2. -/
namespace start1
open Jvm.ClassFile
def u (s : String) : CpInfo := .utf8 (stringToUtf16 s)
/-- a pool by its gaps: so many unusable entries, then the entry; so many at the end -/
def gap : Nat → List CpInfo → List CpInfo
  | 0, r => r
  | n + 1, r => .unusable :: gap n r
def poolList (es : List (Nat × CpInfo)) (last : Nat) : List CpInfo := es.foldr (fun e r => gap e.1 (e.2 :: r)) (gap last [])
def pool (es : List (Nat × CpInfo)) (last : Nat) : Array CpInfo := ⟨poolList es last⟩
def fileOf (pool : Array CpInfo) (this : Nat) (attrs : Array Attribute := #[]) (ms : Array MethodInfo := #[]) (fl : Nat := 33) (sup : Nat := 0) (ifs : Array Nat := #[]) (fds : Array FieldInfo := #[]) : ClassFile where
  minorVersion := 0
  majorVersion := 65
  constantPool := pool
  accessFlags := fl
  thisClass := this
  superClass := sup
  interfaces := ifs
  fields := fds
  methods := ms
  attributes := attrs
def plain (name : String) (sup : Option ClassId) : Class where
  name := name
  kind := .ordinary
  loader := none
  accessFlags := 33
  super := sup
  interfaces := #[]
  cf := none
  fields := #[]
  methods := #[]
  instanceTypes := #[]
  staticTypes := #[]
  resolved := #[]
  callSites := []
  init := .initialized
  statics := none
  mirror := none

def pool0 : Array CpInfo := pool [(5, u "<init>"), (0, u "()V"), (1, .class_ 10), (1, u "java/lang/Object")] 113

def k0m0 : Method := { name := "<init>", desc := "()V", sig := { parameters := [], returnType := none }, accessFlags := 1, code := none }
/-- java/lang/Object -/
def k0 : Class := { plain "java/lang/Object" none with
  accessFlags := 33
  interfaces := #[]
  cf := some (fileOf pool0 8 #[] #[{ accessFlags := 1, nameIndex := 5, descriptorIndex := 6, attributes := #[] }] 33 0 #[] #[])
  fields := #[]
  methods := #[k0m0]
  instanceTypes := #[]
  staticTypes := #[]
  resolved := Array.replicate 124 none
  statics := none }

def pool1 : Array CpInfo := pool [(2, .class_ 4), (1, u "java/lang/Object"), (0, u "<init>"), (0, u "()V"), (0, .integer 2147483647), (0, .fieldref 9 10), (0, .class_ 11), (0, .nameAndType 12 13), (0, u "com/example/abstract_and_refine/abstractandrefine/Verdict"), (0, u "SAFE"), (0, u "Lcom/example/abstract_and_refine/abstractandrefine/Verdict;"), (0, .fieldref 9 15), (0, .nameAndType 16 13), (0, u "UNSAFE"), (0, .fieldref 9 18), (0, .nameAndType 19 13), (0, u "UNKNOWN"), (0, .methodref 9 21), (0, .nameAndType 22 23), (0, u "score"), (0, u "(Z)I"), (0, .methodref 25 26), (0, .class_ 27), (0, .nameAndType 28 29), (0, u "com/example/abstract_and_refine/abstractandrefine/VerdictScorePinLaw"), (0, u "expectedPoints"), (0, u "(IZ)I"), (3, u "law"), (0, u "(II)Z")] 2

def k1m0 : Method := { name := "<init>", desc := "()V", sig := { parameters := [], returnType := none }, accessFlags := 2, code := none }
def k1c1 : Code := { maxStack := 2, maxLocals := 2, code := method_2_code, exceptionTable := #[], attributes := #[] }
def k1m1 : Method := { name := "expectedPoints", desc := "(IZ)I", sig := { parameters := [.int, .boolean], returnType := some .int }, accessFlags := 10, code := some k1c1 }
def k1c2 : Code := { maxStack := 3, maxLocals := 5, code := code, exceptionTable := #[], attributes := #[] }
def k1m2 : Method := { name := "law", desc := "(II)Z", sig := { parameters := [.int, .int], returnType := some .boolean }, accessFlags := 9, code := some k1c2 }
/-- com/example/abstract_and_refine/abstractandrefine/VerdictScorePinLaw -/
def k1 : Class := { plain "com/example/abstract_and_refine/abstractandrefine/VerdictScorePinLaw" (some 0) with
  accessFlags := 49
  interfaces := #[]
  cf := some (fileOf pool1 25 #[] #[{ accessFlags := 2, nameIndex := 5, descriptorIndex := 6, attributes := #[] }, { accessFlags := 10, nameIndex := 28, descriptorIndex := 29, attributes := #[] }, { accessFlags := 9, nameIndex := 33, descriptorIndex := 34, attributes := #[] }] 49 2 #[] #[])
  fields := #[]
  methods := #[k1m0, k1m1, k1m2]
  instanceTypes := #[]
  staticTypes := #[]
  resolved := Array.replicate 37 none
  statics := none }

def pool2 : Array CpInfo := pool [(1, .class_ 2), (0, u "java/lang/constant/Constable"), (0, .class_ 4), (0, u "java/lang/Object")] 6

/-- java/lang/constant/Constable -/
def k2 : Class := { plain "java/lang/constant/Constable" (some 0) with
  accessFlags := 1537
  interfaces := #[]
  cf := some (fileOf pool2 1 #[] #[] 1537 3 #[] #[])
  fields := #[]
  methods := #[]
  instanceTypes := #[]
  staticTypes := #[]
  resolved := Array.replicate 11 none
  statics := none }

def pool3 : Array CpInfo := pool [(1, .class_ 2), (0, u "java/lang/Comparable"), (0, .class_ 4), (0, u "java/lang/Object")] 7

/-- java/lang/Comparable -/
def k3 : Class := { plain "java/lang/Comparable" (some 0) with
  accessFlags := 1537
  interfaces := #[]
  cf := some (fileOf pool3 1 #[] #[] 1537 3 #[] #[])
  fields := #[]
  methods := #[]
  instanceTypes := #[]
  staticTypes := #[]
  resolved := Array.replicate 12 none
  statics := none }

def pool4 : Array CpInfo := pool [(1, .class_ 2), (0, u "java/io/Serializable"), (0, .class_ 4), (0, u "java/lang/Object")] 2

/-- java/io/Serializable -/
def k4 : Class := { plain "java/io/Serializable" (some 0) with
  accessFlags := 1537
  interfaces := #[]
  cf := some (fileOf pool4 1 #[] #[] 1537 3 #[] #[])
  fields := #[]
  methods := #[]
  instanceTypes := #[]
  staticTypes := #[]
  resolved := Array.replicate 7 none
  statics := none }

def pool5 : Array CpInfo := pool [(2, .class_ 4), (1, u "java/lang/Enum"), (0, u "name"), (0, u "Ljava/lang/String;"), (2, u "ordinal"), (0, u "I"), (1, .class_ 14), (1, u "java/lang/Object"), (4, u "hash"), (86, .class_ 108), (1, u "java/lang/Enum$EnumDesc"), (2, .class_ 112), (0, u "java/lang/constant/Constable"), (0, .class_ 114), (0, u "java/lang/Comparable"), (0, .class_ 116), (0, u "java/io/Serializable")] 87

/-- java/lang/Enum -/
def k5 : Class := { plain "java/lang/Enum" (some 0) with
  accessFlags := 1057
  interfaces := #[2, 3, 4]
  cf := some (fileOf pool5 2 #[.nestMembers #[106]] #[] 1057 12 #[111, 113, 115] #[{ accessFlags := 18, nameIndex := 5, descriptorIndex := 6, attributes := #[] }, { accessFlags := 18, nameIndex := 9, descriptorIndex := 10, attributes := #[] }, { accessFlags := 2, nameIndex := 19, descriptorIndex := 10, attributes := #[] }])
  fields := #[{ name := "name", type := (.object "java/lang/String"), accessFlags := 18, slot := 0, constantValue := 0 }, { name := "ordinal", type := .int, accessFlags := 18, slot := 1, constantValue := 0 }, { name := "hash", type := .int, accessFlags := 2, slot := 2, constantValue := 0 }]
  methods := #[]
  instanceTypes := #[(.object "java/lang/String"), .int, .int]
  staticTypes := #[]
  resolved := Array.replicate 204 none
  statics := none }

def pool6 : Array CpInfo := pool [(1, .class_ 2), (0, u "com/example/abstract_and_refine/abstractandrefine/Verdict"), (2, u "SAFE"), (0, u "Lcom/example/abstract_and_refine/abstractandrefine/Verdict;"), (2, u "UNSAFE"), (2, u "UNKNOWN"), (2, u "$VALUES"), (0, u "[Lcom/example/abstract_and_refine/abstractandrefine/Verdict;"), (6, .class_ 25), (1, u "java/lang/Enum"), (6, .fieldref 1 33), (0, .nameAndType 34 35), (0, u "pointsOnSafeTask"), (0, u "I"), (0, .fieldref 1 37), (0, .nameAndType 38 35), (0, u "pointsOnUnsafeTask"), (17, u "score"), (0, u "(Z)I")] 6

def k6c0 : Code := { maxStack := 1, maxLocals := 2, code := prog_6_method_4_code, exceptionTable := #[], attributes := #[] }
def k6m0 : Method := { name := "score", desc := "(Z)I", sig := { parameters := [.boolean], returnType := some .int }, accessFlags := 1, code := some k6c0 }
/-- com/example/abstract_and_refine/abstractandrefine/Verdict -/
def k6 : Class := { plain "com/example/abstract_and_refine/abstractandrefine/Verdict" (some 5) with
  accessFlags := 16433
  interfaces := #[]
  cf := some (fileOf pool6 1 #[] #[{ accessFlags := 1, nameIndex := 56, descriptorIndex := 57, attributes := #[] }] 16433 23 #[] #[{ accessFlags := 16409, nameIndex := 5, descriptorIndex := 6, attributes := #[] }, { accessFlags := 16409, nameIndex := 9, descriptorIndex := 6, attributes := #[] }, { accessFlags := 16409, nameIndex := 12, descriptorIndex := 6, attributes := #[] }, { accessFlags := 18, nameIndex := 34, descriptorIndex := 35, attributes := #[] }, { accessFlags := 18, nameIndex := 38, descriptorIndex := 35, attributes := #[] }, { accessFlags := 4122, nameIndex := 15, descriptorIndex := 16, attributes := #[] }])
  fields := #[{ name := "SAFE", type := (.object "com/example/abstract_and_refine/abstractandrefine/Verdict"), accessFlags := 16409, slot := 0, constantValue := 0 }, { name := "UNSAFE", type := (.object "com/example/abstract_and_refine/abstractandrefine/Verdict"), accessFlags := 16409, slot := 1, constantValue := 0 }, { name := "UNKNOWN", type := (.object "com/example/abstract_and_refine/abstractandrefine/Verdict"), accessFlags := 16409, slot := 2, constantValue := 0 }, { name := "pointsOnSafeTask", type := .int, accessFlags := 18, slot := 3, constantValue := 0 }, { name := "pointsOnUnsafeTask", type := .int, accessFlags := 18, slot := 4, constantValue := 0 }, { name := "$VALUES", type := (.array (.object "com/example/abstract_and_refine/abstractandrefine/Verdict")), accessFlags := 4122, slot := 3, constantValue := 0 }]
  methods := #[k6m0]
  instanceTypes := #[(.object "java/lang/String"), .int, .int, .int, .int]
  staticTypes := #[(.object "com/example/abstract_and_refine/abstractandrefine/Verdict"), (.object "com/example/abstract_and_refine/abstractandrefine/Verdict"), (.object "com/example/abstract_and_refine/abstractandrefine/Verdict"), (.array (.object "com/example/abstract_and_refine/abstractandrefine/Verdict"))]
  resolved := Array.replicate 64 none
  statics := some 0 }

def pool7 : Array CpInfo := pool [(1, u "java/lang/Cloneable"), (0, .class_ 1), (0, u "java/lang/Object"), (0, .class_ 3)] 3

/-- java/lang/Cloneable -/
def k7 : Class := { plain "java/lang/Cloneable" (some 0) with
  accessFlags := 1537
  interfaces := #[]
  cf := some (fileOf pool7 2 #[] #[] 1537 4 #[] #[])
  fields := #[]
  methods := #[]
  instanceTypes := #[]
  staticTypes := #[]
  resolved := Array.replicate 8 none
  statics := none }

/-- the primitive byte -/
def k8 : Class := { plain "byte" none with kind := .primitive 'B', accessFlags := 0x411 }
/-- [B -/
def k9 : Class := { plain "[B" (some 0) with kind := .array 8 .byte, interfaces := #[7, 4], accessFlags := 1041 }

/-- the primitive int -/
def k10 : Class := { plain "int" none with kind := .primitive 'I', accessFlags := 0x411 }
/-- [I -/
def k11 : Class := { plain "[I" (some 0) with kind := .array 10 .int, interfaces := #[7, 4], accessFlags := 1041 }

def heap : Heap := #[{ cls := 6, slots := #[.ref 1, .ref 3, .ref 2, .null], vm := .statics 6 },
  { cls := 6, slots := #[.null, .int 0, .int 0, .int 2, .int (-32)], vm := .none },
  { cls := 6, slots := #[.null, .int 0, .int 0, .int 0, .int 0], vm := .none },
  { cls := 6, slots := #[.null, .int 0, .int 0, .int (-16), .int 1], vm := .none }]
def classes : Array Class := #[k0, k1, k2, k3, k4, k5, k6, k7, k8, k9, k10, k11]
def interned : List (Array UInt16 × Addr) := []
def slotsUsed : Nat := 19
def theMethod : MethodId := ⟨1, 2⟩
def args0 : Array Value := #[.int 1, .int 1]
def aboutOver (below : List Frame) : State where
  vm := { classes := classes, interned := interned.toArray }
  heap := heap
  slotsUsed := slotsUsed
  threads := #[{ frames := .invoking theMethod args0 :: below }]
def below0 : List Frame := [.native { method := ⟨0, 0⟩, args := #[] }]
def about1 : State := aboutOver below0
def p0 : Program := .bare "" "" ""
def e0 : Env := launch0.env 0 0 0
theorem w_frames : about1.frames = Frame.invoking theMethod args0 :: below0 := rfl
set_option maxRecDepth 65536 in
theorem w_args : argsFit about1.vm theMethod args0 = true := by decide +kernel
set_option maxRecDepth 65536 in
theorem w_heap : heapFits about1 = true := by decide +kernel
set_option maxRecDepth 65536 in
theorem w_runnable : about1.curStatus? = some .runnable := by decide +kernel
set_option maxRecDepth 65536 in
theorem w_alone : about1.alone = true := by decide +kernel
set_option maxRecDepth 65536 in
theorem w_named : about1.methodNamed? x = some theMethod := by decide +kernel
set_option maxRecDepth 65536 in
theorem w_hears : about1.hears theMethod below0 = true := by decide +kernel
set_option maxRecDepth 65536 in
theorem w_ripe : about1.ripe theMethod args0 below0 = true := by decide +kernel
theorem w_running : about1.status = .running := rfl
set_option maxRecDepth 65536 in
theorem w_room : about1.hasRoom e0.platform room_1 = true :=
  launch0.hasRoom_least _ room_1 (by decide +kernel) (by decide +kernel) (by decide +kernel) (by decide +kernel) (by decide +kernel) (by decide +kernel)
theorem allAtoms_all (ts : List Jvm.Cond) (a : Array Jvm.Value) (st : Jvm.State) : (allAtoms ts).before a st = ts.all (fun c => c.before a st) := by
  induction ts with
  | nil => rfl
  | cons c t ih =>
    show (Jvm.Cond.and c (allAtoms t)).before a st = _
    rw [Jvm.Cond.before_and, ih, List.all_cons]
def words1 : List Jvm.Cond := Jvm.Cond.code x code maxLocals ret :: tables_1
/-- a 'code' word, met by the world's own term for the bytes: nothing is compared byte by byte -/
theorem code_word {y : MethodName} {bytes : ByteArray} {mx : Nat} {rt : Option FieldType} {a : Array Value} {s : State} {m : MethodId} {meth : Method} {c : Code} (h1 : s.methodNamed? y = some m) (h2 : s.vm.method? m = some meth) (h3 : meth.code = some c) (h4 : c.code = bytes)
    (h5 : (c.maxLocals == mx && c.exceptionTable.isEmpty && decide (c.maxStack ≤ mostOperands) && decide (meth.sig.returnType = rt) && !meth.locks && decide (parseMethodDescriptor y.desc = some meth.sig)) = true) : (Jvm.Cond.code y bytes mx rt).before a s = true := by
  simp only [Bool.and_eq_true, beq_iff_eq, Bool.not_eq_true', decide_eq_true_eq] at h5
  obtain ⟨⟨⟨⟨⟨g1, g2⟩, g3⟩, g4⟩, g5⟩, g6⟩ := h5
  simp [Cond.before, Cond.holds, Cond.value, h1, h2, h3, h4, g1, g2, g3, g4, g5, g6]
def isCode : Jvm.Cond → Bool
  | .code _ _ _ _ => true
  | _ => false
theorem all_split {L : List Jvm.Cond} {P : Jvm.Cond → Bool} (h1 : L.all (fun c => isCode c || P c) = true) (h2 : ∀ c ∈ L.filter isCode, P c = true) : L.all P = true := by
  refine List.all_eq_true.mpr fun c hc => ?_
  have h := List.all_eq_true.mp h1 c hc
  rcases Bool.eq_false_or_eq_true (isCode c) with hi | hi
  · exact h2 c (List.mem_filter.mpr ⟨hc, hi⟩)
  · simpa [hi] using h
set_option maxRecDepth 65536 in
theorem w_c0 : (Jvm.Cond.code x code maxLocals ret).before args0 about1 = true := code_word (m := ⟨1, 2⟩) (meth := k1m2) (c := k1c2) (by decide +kernel) rfl rfl rfl (by decide +kernel)
set_option maxRecDepth 65536 in
theorem w_c1 : (Jvm.Cond.code ({ cls := "com/example/abstract_and_refine/abstractandrefine/Verdict", name := "score", desc := "(Z)I" } : Jvm.MethodName) prog_6_method_4_code (2 : Nat) (Option.some Jvm.ClassFile.FieldType.int)).before args0 about1 = true := code_word (m := ⟨6, 0⟩) (meth := k6m0) (c := k6c0) (by decide +kernel) rfl rfl rfl (by decide +kernel)
set_option maxRecDepth 65536 in
theorem w_c2 : (Jvm.Cond.code ({ cls := "com/example/abstract_and_refine/abstractandrefine/VerdictScorePinLaw", name := "expectedPoints", desc := "(IZ)I" } : Jvm.MethodName) method_2_code (2 : Nat) (Option.some Jvm.ClassFile.FieldType.int)).before args0 about1 = true := code_word (m := ⟨1, 1⟩) (meth := k1m1) (c := k1c1) (by decide +kernel) rfl rfl rfl (by decide +kernel)
def codes1 : List Jvm.Cond := [Jvm.Cond.code x code maxLocals ret, Jvm.Cond.code ({ cls := "com/example/abstract_and_refine/abstractandrefine/Verdict", name := "score", desc := "(Z)I" } : Jvm.MethodName) prog_6_method_4_code (2 : Nat) (Option.some Jvm.ClassFile.FieldType.int), Jvm.Cond.code ({ cls := "com/example/abstract_and_refine/abstractandrefine/VerdictScorePinLaw", name := "expectedPoints", desc := "(IZ)I" } : Jvm.MethodName) method_2_code (2 : Nat) (Option.some Jvm.ClassFile.FieldType.int)]
set_option maxRecDepth 65536 in
theorem codes_eq : words1.filter isCode = codes1 := rfl
theorem w_codes : ∀ c ∈ words1.filter isCode, c.before args0 about1 = true := by
  rw [codes_eq]
  intro c hc
  simp only [codes1, List.mem_cons, List.not_mem_nil, or_false] at hc
  rcases hc with rfl | rfl | rfl
  · exact w_c0
  · exact w_c1
  · exact w_c2
set_option maxRecDepth 65536 in
theorem w_t1 : words1.all (fun c => isCode c || c.before args0 about1) = true := by decide +kernel
theorem w_tables : (allAtoms (Jvm.Cond.code x code maxLocals ret :: tables_1)).before args0 about1 = true := by
  rw [allAtoms_all]
  show words1.all (fun c => c.before args0 about1) = true
  refine all_split ?_ w_codes
  rw [w_t1]
set_option maxRecDepth 65536 in
theorem w_case : (Jvm.Cond.and given_1 narrow_1).before args0 about1 = true := by decide +kernel
theorem w_applies : (headSpec (Jvm.Cond.code x code maxLocals ret :: tables_1) room_1).applies x e0.platform about1 = true :=
  (Spec.applies_iff w_frames).mpr ⟨w_running, w_runnable, w_alone, w_named, w_hears, w_ripe, w_room, w_tables⟩
theorem atStart : AtStart classFile x code maxLocals ret World_1 tables_1 room_1 Calls_1 rest_1 Pre_1 launch0 p0 e0 about1 theMethod args0 below0 :=
  ⟨lists_1, trivial, launch0.admits_env _ _ _, launch0.least_env, fairChoices_fair.cas, fairChoices_fair.clock, w_frames, w_args, w_heap, w_applies, trivial, trivial, w_case⟩
end start1
theorem witness_1 : WitnessClaimed_1 := ⟨start1.p0, start1.e0, start1.about1, start1.theMethod, start1.args0, start1.below0, start1.atStart⟩
end Jvm.Pilot.@@N@@
