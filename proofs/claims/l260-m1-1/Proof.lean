import JvmDerived
import JvmDerived.Pilot.@@N@@Statement
import JvmDerived.Pilot.@@N@@Code
set_option linter.unusedVariables false
set_option linter.unusedSimpArgs false
namespace Jvm.Pilot.@@N@@
open Jvm Jvm.ClassFile Sem Op Lib Jvm.Free Jvm.Stand Jvm.LawKit Jvm.RoadKit Bundle Jvm.Pilot.@@N@@.Jvm.D
/-! own_Ends: from the state T the run ends well -/
def own_Ends (p : Program) (e : Env) (below : List Frame) (P : State → Outcome → Prop) (T : State) : Prop := ∃ U o, Steps p.tables e below T U ∧ U.status = .running ∧ Ended U below o ∧ P U o
def own_Got (s : State) (Q : Option Value → Heap → List Loc → Prop) (C N : Nat) (U : State) (o : Outcome) : Prop := ∃ v L, o = .returned v ∧ Q v U.heap L ∧ FrameEnd s o U L C N
section Own
variable {p : Program} {l : Launch} {e : Env} {R : Room} {s : State} {m : MethodId} {args : Array Value} {below : List Frame} {meth : Method} {c : Code} {T T' : State} {locs : List Loc} {cells slots : Nat} {P : State → Outcome → Prop}
theorem own_go (h : ∀ target, Steps p.tables e below T' target → Steps p.tables e below T target) (k : own_Ends p e below P T') : own_Ends p e below P T := by
  obtain ⟨U, o, h1, h2⟩ := k; exact ⟨U, o, h _ h1, h2⟩
theorem own_tr (h : Steps p.tables e below T T') (k : own_Ends p e below P T') : own_Ends p e below P T := by
  obtain ⟨U, o, h1, h2⟩ := k; exact ⟨U, o, h.trans h1, h2⟩
variable {Q : Option Value → Heap → List Loc → Prop} {C N : Nat}
theorem own_ret (X : Stand p l e R s m args below meth c T locs cells slots) (hx : p.tables.exec = Jvm.exec) (lk : meth.locks = false) {pc : Nat} {Ls : Array Slot} {w : Value} {t : FieldType} {i : Instr} {rest : List Value} (hret : meth.sig.returnType = some t) (hn : narrow t w = w)
    (hi : (i = .ireturn ∧ (t = .int ∨ t = .boolean ∨ t = .byte ∨ t = .char ∨ t = .short) ∧ ∃ z, w = .int z) ∨ (i = .lreturn ∧ t = .long ∧ ∃ z, w = .long z) ∨ (i = .dreturn ∧ t = .double ∧ ∃ z, w = .double z) ∨ (i = .freturn ∧ t = .float ∧ ∃ z, w = .float z) ∨ (i = .areturn ∧ t.isReference = true ∧ w.isRef = true))
    (hd : decode c.code pc = .ok (i, 1)) (hC : cells ≤ C) (hN : slots ≤ N) (hq : Q (some w) T.heap locs) : own_Ends p e below (own_Got s Q C N) (T.setTop (mkF m pc Ls (w :: rest))) := by
  obtain ⟨fs, hr, hrun, hended, hW, hsame⟩ := X.leave (v := some w) (fun h => by rw [hret] at h; cases h) lk
  exact ⟨_, _, retOut X hx hret hn hi hd hr, hrun, hended, _, _, rfl, hq, ⟨_, rfl⟩, hW, hsame.mono hC hN⟩
theorem own_retI (X : Stand p l e R s m args below meth c T locs cells slots) (hx : p.tables.exec = Jvm.exec) (lk : meth.locks = false) {pc : Nat} {Ls : Array Slot} {z : Int32} {rest : List Value} (hret : meth.sig.returnType = some .int)
    (hd : decode c.code pc = .ok (.ireturn, 1)) (hC : cells ≤ C) (hN : slots ≤ N) (hq : Q (some (.int z)) T.heap locs) : own_Ends p e below (own_Got s Q C N) (T.setTop (mkF m pc Ls (.int z :: rest))) :=
  own_ret X hx lk hret rfl (Or.inl ⟨rfl, Or.inl rfl, _, rfl⟩) hd hC hN hq
theorem own_retZ (X : Stand p l e R s m args below meth c T locs cells slots) (hx : p.tables.exec = Jvm.exec) (lk : meth.locks = false) {pc : Nat} {Ls : Array Slot} {z : Int32} {rest : List Value} (hret : meth.sig.returnType = some .boolean) (hn : narrow .boolean (.int z) = .int z)
    (hd : decode c.code pc = .ok (.ireturn, 1)) (hC : cells ≤ C) (hN : slots ≤ N) (hq : Q (some (.int z)) T.heap locs) : own_Ends p e below (own_Got s Q C N) (T.setTop (mkF m pc Ls (.int z :: rest))) :=
  own_ret X hx lk hret hn (Or.inl ⟨rfl, Or.inr (Or.inl rfl), _, rfl⟩) hd hC hN hq
theorem own_retJ (X : Stand p l e R s m args below meth c T locs cells slots) (hx : p.tables.exec = Jvm.exec) (lk : meth.locks = false) {pc : Nat} {Ls : Array Slot} {z : Int64} {rest : List Value} (hret : meth.sig.returnType = some .long)
    (hd : decode c.code pc = .ok (.lreturn, 1)) (hC : cells ≤ C) (hN : slots ≤ N) (hq : Q (some (.long z)) T.heap locs) : own_Ends p e below (own_Got s Q C N) (T.setTop (mkF m pc Ls (.long z :: rest))) :=
  own_ret X hx lk hret rfl (Or.inr (Or.inl ⟨rfl, rfl, _, rfl⟩)) hd hC hN hq
theorem own_retR (X : Stand p l e R s m args below meth c T locs cells slots) (hx : p.tables.exec = Jvm.exec) (lk : meth.locks = false) {pc : Nat} {Ls : Array Slot} {w : Value} {t : FieldType} {rest : List Value} (hret : meth.sig.returnType = some t) (ht : t.isReference = true) (hw : w.isRef = true)
    (hd : decode c.code pc = .ok (.areturn, 1)) (hC : cells ≤ C) (hN : slots ≤ N) (hq : Q (some w) T.heap locs) : own_Ends p e below (own_Got s Q C N) (T.setTop (mkF m pc Ls (w :: rest))) :=
  own_ret X hx lk hret (by rcases ref_cases hw with rfl | ⟨a, rfl⟩ <;> cases t <;> first | rfl | exact absurd ht (by decide)) (Or.inr (Or.inr (Or.inr (Or.inr ⟨rfl, ht, hw⟩)))) hd hC hN hq
theorem own_retV (X : Stand p l e R s m args below meth c T locs cells slots) (hx : p.tables.exec = Jvm.exec) (lk : meth.locks = false) {pc : Nat} {Ls : Array Slot} {st : List Value} (hret : meth.sig.returnType = none)
    (hd : decode c.code pc = .ok (.return_, 1)) (hC : cells ≤ C) (hN : slots ≤ N) (hq : Q none T.heap locs) : own_Ends p e below (own_Got s Q C N) (T.setTop (mkF m pc Ls [])) := by
  obtain ⟨fs, hr, hrun, hended, hW, hsame⟩ := X.leave (v := none) (fun _ => rfl) lk
  exact ⟨_, _, X.returnOut hx hret hd hr, hrun, hended, _, _, rfl, hq, ⟨_, rfl⟩, hW, hsame.mono hC hN⟩
theorem own_fldI {Z : State} {a : Addr} {av : Array Value} {t : Term} {k : Int32} {C n d : String} (ev : t.eval av Z none [] Z = some (.ref a)) (h : (Jvm.Cond.eq (.field t C n d) (.int k)).value av Z none Z [] = some true) : Fld Z Z.heap a C n d (.int k) := by
  obtain ⟨x, y, ex, ey, k1, k2⟩ := cmp_v (Or.inl h)
  cases (Term.int_eval (args := av) (first := Z) (o := none) (idx := []) (s := Z) k).symm.trans ey
  obtain ⟨z, rfl⟩ := k2
  obtain rfl : z = k := gotT (Cond.eq_ints ex (Term.int_eval k)) h
  exact Fld.start ((fld_at ev).symm.trans ex)
theorem own_fldJ {Z : State} {a : Addr} {av : Array Value} {t : Term} {k : Int64} {C n d : String} (ev : t.eval av Z none [] Z = some (.ref a)) (h : (Jvm.Cond.eq (.field t C n d) (.long k)).value av Z none Z [] = some true) : Fld Z Z.heap a C n d (.long k) := by
  obtain ⟨x, y, ex, ey, k1, k2⟩ := cmp_v (Or.inl h)
  cases (long_at (args := av) (first := Z) (o := none) (idx := []) (s := Z) k).symm.trans ey
  obtain ⟨z, rfl⟩ := k2
  obtain rfl : z = k := gotT (eq_L ex (long_at k)) h
  exact Fld.start ((fld_at ev).symm.trans ex)
theorem own_staJ {Z : State} {av : Array Value} {k : Int64} {t : Term} (h : (Jvm.Cond.eq t (.long k)).value av Z none Z [] = some true) : t.eval av Z none [] Z = some (.long k) := by
  obtain ⟨x, y, ex, ey, k1, k2⟩ := cmp_v (Or.inl h)
  cases (long_at (args := av) (first := Z) (o := none) (idx := []) (s := Z) k).symm.trans ey
  obtain ⟨z, rfl⟩ := k2
  obtain rfl : z = k := gotT (eq_L ex (long_at k)) h
  exact ex
theorem own_staI {Z : State} {av : Array Value} {k : Int32} {t : Term} (h : (Jvm.Cond.eq t (.int k)).value av Z none Z [] = some true) : t.eval av Z none [] Z = some (.int k) := by
  obtain ⟨x, y, ex, ey, k1, k2⟩ := cmp_v (Or.inl h)
  cases (Term.int_eval (args := av) (first := Z) (o := none) (idx := []) (s := Z) k).symm.trans ey
  obtain ⟨z, rfl⟩ := k2
  obtain rfl : z = k := gotT (Cond.eq_ints ex (Term.int_eval k)) h
  exact ex
end Own
theorem own_d1_0 : decode prog_16_method_6_code 0 = .ok (.aload_n 0, 1) := by decide +kernel
theorem own_d1_1 : decode prog_16_method_6_code 1 = .ok (.getstatic 7, 3) := by decide +kernel
theorem own_d1_4 : decode prog_16_method_6_code 4 = .ok (.if_acmp .ne 7, 3) := by decide +kernel
theorem own_d1_7 : decode prog_16_method_6_code 7 = .ok (.iconst 1, 1) := by decide +kernel
theorem own_d1_8 : decode prog_16_method_6_code 8 = .ok (.goto 4, 3) := by decide +kernel
theorem own_d1_11 : decode prog_16_method_6_code 11 = .ok (.iconst 0, 1) := by decide +kernel
theorem own_d1_12 : decode prog_16_method_6_code 12 = .ok (.ireturn, 1) := by decide +kernel
theorem own_ef_own_changesRowsTogether (m : MethodId) (x0 : Addr) : entryFrame m #[(.ref x0)] 1 = mkF m 0 #[.val (.ref x0)] [] := by first | (simp [entryFrame, mkF, argsToLocals, Value.category]; done) | rfl
def Q_own_changesRowsTogether (Z : State) (a : Addr) (r : Int32) (a_PESSIMISTIC : Addr) (h0 : Heap) (n0 : Nat) (v : Option Value) (h : Heap) (L : List Loc) : Prop := v = some (.int r) ∧ Fr n0 L ∧ h = h0
theorem own_pn_com_example_contention_contention_Strategy : plainName "com/example/contention/contention/Strategy" = true := by first | (simp [plainName, overriddenIn]; done) | decide +kernel
set_option maxRecDepth 65536 in
set_option maxHeartbeats 40000000 in
theorem own_changesRowsTogether (l : Launch) (Z : State) (a0 : Array Value) (hw : ∀ d ∈ tables_1, d.before a0 Z = true) (ws : List Jvm.Cond) (a : Addr) (r : Int32) (a_PESSIMISTIC : Addr) (h0 : Heap) (n0 : Nat) (O0 : Old Z n0 h0) (S_PESSIMISTIC : Sta Z Z.heap "com/example/contention/contention/Strategy" "PESSIMISTIC" "Lcom/example/contention/contention/Strategy;" (.ref a_PESSIMISTIC)) (hr : r = if a = a_PESSIMISTIC then 1 else 0) :
    MetFree l (⟨"com/example/contention/contention/Strategy", "changesRowsTogether", "()Z"⟩ : MethodName) (head1 (Jvm.Cond.code (⟨"com/example/contention/contention/Strategy", "changesRowsTogether", "()Z"⟩ : MethodName) prog_16_method_6_code 1 (some .boolean) :: ws) ({ frames := 0, cells := 0, slots := 0, locals := 0 } : Room)) (fun args_ U => args_ = #[(.ref a)] ∧ Z.Warmed39 U.vm ∧ U.heap = h0) (fun _ _ _ _ _ => True) (fun _ U o U' => ∃ v L, o = .returned v ∧ Q_own_changesRowsTogether Z a r a_PESSIMISTIC h0 n0 v U'.heap L ∧ FrameEnd U o U' L ({ frames := 0, cells := 0, slots := 0, locals := 0 } : Room).cells ({ frames := 0, cells := 0, slots := 0, locals := 0 } : Room).slots) := by
  refine MetFree.of_bodySF (plainFor_of_name own_pn_com_example_contention_contention_Strategy) hisR ?_
  intro p e s m args below meth c s₁ Bd hml0 hP hK
  obtain ⟨rfl, hZ, hh⟩ := hP
  have hx := Bd.exec
  have hby := Bd.bytes
  have hml : c.maxLocals = 1 := hml0
  have hown : s.vm.findClass "com/example/contention/contention/Strategy" = some m.cls := findClass_of_methodNamed Bd.named
  have hnm := (name_of_methodNamed Bd.named Bd.method).1
  have X0 : Stand p l e ({ frames := 0, cells := 0, slots := 0, locals := 0 } : Room) s m #[(.ref a)] below meth c s₁ [] 0 0 := Stand.of_body Bd
  have e0 : s₁.heap = h0 := by rw [← hh, Bd.state]; rfl
  have N0 := Fr.nil n0
  show own_Ends p e below (own_Got s (Q_own_changesRowsTogether Z a r a_PESSIMISTIC h0 n0) ({ frames := 0, cells := 0, slots := 0, locals := 0 } : Room).cells ({ frames := 0, cells := 0, slots := 0, locals := 0 } : Room).slots) (s₁.setTop (entryFrame m #[(.ref a)] 1))
  rw [own_ef_own_changesRowsTogether m a]
  refine own_go (fun _ k => XS.aloadN X0.here hx rfl (hb hby own_d1_0) rfl rfl k) ?_
  show own_Ends _ _ _ _ (s₁.setTop (mkF m 1 #[.val (.ref a)] [(.ref a)]))
  obtain ⟨T1, X1, e1, st1⟩ := getS2 X0 hx hZ hown (host := "") (Or.inl (hw _ (List.mem_of_getElem? (i := 9) rfl))) Via.refl e0 (S_PESSIMISTIC.ext O0.2) (g := (mkF m 1 #[.val (.ref a)] [(.ref a)])) rfl (hb hby own_d1_1)
  refine own_go st1 ?_
  show own_Ends _ _ _ _ (T1.setTop (mkF m 4 #[.val (.ref a)] [(.ref a_PESSIMISTIC), (.ref a)]))
  by_cases ha4_1 : a = a_PESSIMISTIC
  · refine own_go (fun _ k => Jvm.RoadKit.acmp (g := (mkF m 4 #[.val (.ref a)] [(.ref a_PESSIMISTIC), (.ref a)])) X1 hx rfl rfl rfl (pc0 := 4) (pc' := 7) (same := true) rfl (hb hby own_d1_4) rfl (decide_eq_true (congrArg Value.ref ha4_1)) (by decide) (by decide) k) ?_
    show own_Ends _ _ _ _ (T1.setTop (mkF m 7 #[.val (.ref a)] []))
    refine own_go (fun _ k => XS.iconst X1.here hx rfl (hb hby own_d1_7) k) ?_
    show own_Ends _ _ _ _ (T1.setTop (mkF m 8 #[.val (.ref a)] [(.int (1 : Int32))]))
    refine own_go (fun _ k => XS.goto X1.here hx rfl (pc0 := 8) (pc' := 12) rfl (hb hby own_d1_8) (by decide) (by decide) k) ?_
    show own_Ends _ _ _ _ (T1.setTop (mkF m 12 #[.val (.ref a)] [(.int (1 : Int32))]))
    exact own_retZ X1 hx (BodyLoose.notSynchronized Bd) Bd.returns rfl (hb hby own_d1_12) (by decide) (by decide) (by rw [e1]; exact ⟨by rw [hr, if_pos ha4_1], N0, rfl⟩)
  · refine own_go (fun _ k => Jvm.RoadKit.acmp (g := (mkF m 4 #[.val (.ref a)] [(.ref a_PESSIMISTIC), (.ref a)])) X1 hx rfl rfl rfl (pc0 := 4) (pc' := 11) (same := false) rfl (hb hby own_d1_4) rfl (decide_eq_false fun q => ha4_1 (Value.ref.inj q)) (by decide) (by decide) k) ?_
    show own_Ends _ _ _ _ (T1.setTop (mkF m 11 #[.val (.ref a)] []))
    refine own_go (fun _ k => XS.iconst X1.here hx rfl (hb hby own_d1_11) k) ?_
    show own_Ends _ _ _ _ (T1.setTop (mkF m 12 #[.val (.ref a)] [(.int (0 : Int32))]))
    exact own_retZ X1 hx (BodyLoose.notSynchronized Bd) Bd.returns rfl (hb hby own_d1_12) (by decide) (by decide) (by rw [e1]; exact ⟨by rw [hr, if_neg ha4_1], N0, rfl⟩)
theorem own_pd0 : parseMethodDescriptor "()Z" = some ⟨[], some .boolean⟩ := by decide +kernel
theorem own_ef_own_law (m : MethodId) (x0 : Int32) : entryFrame m #[(.int x0)] maxLocals = mkF m 0 #[.val (.int x0), .unset, .unset, .unset] [] := by first | (simp [entryFrame, mkF, argsToLocals, Value.category, maxLocals]; done) | rfl
def Q_own_law (Z : State) (p0 : Int32) (a_OPTIMISTIC : Addr) (a_PESSIMISTIC : Addr) (a_ATOMIC : Addr) (a_NAMED_LOCK : Addr) (a_UNPROTECTED : Addr) (a_OPTIMISTIC_THEN_LOCK : Addr) (h0 : Heap) (n0 : Nat) (v : Option Value) (h : Heap) (L : List Loc) : Prop := v = some (.int 1) ∧ Fr n0 L
theorem own_pn_com_example_contention_contention_StrategyChangesRowsTogetherPinLaw : plainName "com/example/contention/contention/StrategyChangesRowsTogetherPinLaw" = true := by first | (simp [plainName, overriddenIn]; done) | decide +kernel
set_option maxRecDepth 65536 in
set_option maxHeartbeats 40000000 in
theorem own_law (l : Launch) (Z : State) (a0 : Array Value) (hw : ∀ d ∈ tables_1, d.before a0 Z = true) (ws : List Jvm.Cond) (p0 : Int32) (a_OPTIMISTIC : Addr) (a_PESSIMISTIC : Addr) (a_ATOMIC : Addr) (a_NAMED_LOCK : Addr) (a_UNPROTECTED : Addr) (a_OPTIMISTIC_THEN_LOCK : Addr) (h0 : Heap) (n0 : Nat) (O0 : Old Z n0 h0) (S_OPTIMISTIC : Sta Z Z.heap "com/example/contention/contention/Strategy" "OPTIMISTIC" "Lcom/example/contention/contention/Strategy;" (.ref a_OPTIMISTIC)) (E_OPTIMISTIC : Exa Z Z.heap a_OPTIMISTIC "com/example/contention/contention/Strategy") (F_OPTIMISTIC_ordinal : Fld Z Z.heap a_OPTIMISTIC "java/lang/Enum" "ordinal" "I" (.int (0 : Int32))) (S_PESSIMISTIC : Sta Z Z.heap "com/example/contention/contention/Strategy" "PESSIMISTIC" "Lcom/example/contention/contention/Strategy;" (.ref a_PESSIMISTIC)) (E_PESSIMISTIC : Exa Z Z.heap a_PESSIMISTIC "com/example/contention/contention/Strategy") (F_PESSIMISTIC_ordinal : Fld Z Z.heap a_PESSIMISTIC "java/lang/Enum" "ordinal" "I" (.int (1 : Int32))) (S_ATOMIC : Sta Z Z.heap "com/example/contention/contention/Strategy" "ATOMIC" "Lcom/example/contention/contention/Strategy;" (.ref a_ATOMIC)) (E_ATOMIC : Exa Z Z.heap a_ATOMIC "com/example/contention/contention/Strategy") (F_ATOMIC_ordinal : Fld Z Z.heap a_ATOMIC "java/lang/Enum" "ordinal" "I" (.int (3 : Int32))) (S_NAMED_LOCK : Sta Z Z.heap "com/example/contention/contention/Strategy" "NAMED_LOCK" "Lcom/example/contention/contention/Strategy;" (.ref a_NAMED_LOCK)) (E_NAMED_LOCK : Exa Z Z.heap a_NAMED_LOCK "com/example/contention/contention/Strategy") (F_NAMED_LOCK_ordinal : Fld Z Z.heap a_NAMED_LOCK "java/lang/Enum" "ordinal" "I" (.int (2 : Int32))) (S_UNPROTECTED : Sta Z Z.heap "com/example/contention/contention/Strategy" "UNPROTECTED" "Lcom/example/contention/contention/Strategy;" (.ref a_UNPROTECTED)) (E_UNPROTECTED : Exa Z Z.heap a_UNPROTECTED "com/example/contention/contention/Strategy") (F_UNPROTECTED_ordinal : Fld Z Z.heap a_UNPROTECTED "java/lang/Enum" "ordinal" "I" (.int (5 : Int32))) (S_OPTIMISTIC_THEN_LOCK : Sta Z Z.heap "com/example/contention/contention/Strategy" "OPTIMISTIC_THEN_LOCK" "Lcom/example/contention/contention/Strategy;" (.ref a_OPTIMISTIC_THEN_LOCK)) (E_OPTIMISTIC_THEN_LOCK : Exa Z Z.heap a_OPTIMISTIC_THEN_LOCK "com/example/contention/contention/Strategy") (F_OPTIMISTIC_THEN_LOCK_ordinal : Fld Z Z.heap a_OPTIMISTIC_THEN_LOCK "java/lang/Enum" "ordinal" "I" (.int (4 : Int32))) :
    MetFree l x (head1 (Jvm.Cond.code x code maxLocals ret :: ws) room_1) (fun args_ U => args_ = #[(.int p0)] ∧ Z.Warmed39 U.vm ∧ U.heap = h0) (fun _ _ _ _ _ => True) (fun _ U o U' => ∃ v L, o = .returned v ∧ Q_own_law Z p0 a_OPTIMISTIC a_PESSIMISTIC a_ATOMIC a_NAMED_LOCK a_UNPROTECTED a_OPTIMISTIC_THEN_LOCK h0 n0 v U'.heap L ∧ FrameEnd U o U' L 0 0) := by
  refine MetFree.of_bodySF (plainFor_of_name own_pn_com_example_contention_contention_StrategyChangesRowsTogetherPinLaw) hisR ?_
  intro p e s m args below meth c s₁ Bd hml0 hP hK
  obtain ⟨rfl, hZ, hh⟩ := hP
  have hx := Bd.exec
  have hby := Bd.bytes
  have hml : c.maxLocals = 4 := hml0
  have hown : s.vm.findClass "com/example/contention/contention/StrategyChangesRowsTogetherPinLaw" = some m.cls := findClass_of_methodNamed Bd.named
  have hnm := (name_of_methodNamed Bd.named Bd.method).1
  have X0 : Stand p l e room_1 s m #[(.int p0)] below meth c s₁ [] 0 0 := Stand.of_body Bd
  have e0 : s₁.heap = h0 := by rw [← hh, Bd.state]; rfl
  have N0 := Fr.nil n0
  show own_Ends p e below (own_Got s (Q_own_law Z p0 a_OPTIMISTIC a_PESSIMISTIC a_ATOMIC a_NAMED_LOCK a_UNPROTECTED a_OPTIMISTIC_THEN_LOCK h0 n0) 0 0) (s₁.setTop (entryFrame m #[(.int p0)] maxLocals))
  rw [own_ef_own_law m p0]
  refine own_go (fun _ k => XS.iloadN X0.here hx rfl (hb hby at_0) rfl k) ?_
  show own_Ends _ _ _ _ (s₁.setTop (mkF m 1 #[.val (.int p0), .unset, .unset, .unset] [(.int p0)]))
  refine own_go (X0.ldcInt hx hown (mvT hZ (hw _ (List.mem_of_getElem? (i := 0) rfl))) (g := (mkF m 1 #[.val (.int p0), .unset, .unset, .unset] [(.int p0)])) rfl (hb hby at_1)) ?_
  show own_Ends _ _ _ _ (s₁.setTop (mkF m 3 #[.val (.int p0), .unset, .unset, .unset] [(.int (2147483647 : Int32)), (.int p0)]))
  refine own_go (fun _ k => XS.iand X0.here hx rfl (hb hby at_3) rfl k) ?_
  show own_Ends _ _ _ _ (s₁.setTop (mkF m 4 #[.val (.int p0), .unset, .unset, .unset] [(.int (p0 &&& (2147483647 : Int32)))]))
  refine own_go (fun _ k => XS.bipush X0.here hx rfl (hb hby at_4) k) ?_
  show own_Ends _ _ _ _ (s₁.setTop (mkF m 6 #[.val (.int p0), .unset, .unset, .unset] [(.int (6 : Int32)), (.int (p0 &&& (2147483647 : Int32)))]))
  refine own_go (fun _ k => iremM X0 hx rfl (hb hby at_6) rfl (by decide) k) ?_
  show own_Ends _ _ _ _ (s₁.setTop (mkF m 7 #[.val (.int p0), .unset, .unset, .unset] [(.int ((p0 &&& (2147483647 : Int32)) % (6 : Int32)))]))
  refine own_go (fun _ k => XS.istoreN X0.here hx rfl (hb hby at_7) rfl (l' := #[.val (.int p0), .val (.int ((p0 &&& (2147483647 : Int32)) % (6 : Int32))), .unset, .unset]) rfl k) ?_
  show own_Ends _ _ _ _ (s₁.setTop (mkF m 8 #[.val (.int p0), .val (.int ((p0 &&& (2147483647 : Int32)) % (6 : Int32))), .unset, .unset] []))
  refine own_go (fun _ k => XS.iloadN X0.here hx rfl (hb hby at_8) rfl k) ?_
  show own_Ends _ _ _ _ (s₁.setTop (mkF m 9 #[.val (.int p0), .val (.int ((p0 &&& (2147483647 : Int32)) % (6 : Int32))), .unset, .unset] [(.int ((p0 &&& (2147483647 : Int32)) % (6 : Int32)))]))
  by_cases hc9_0 : ((p0 &&& (2147483647 : Int32)) % (6 : Int32)) = (0 : Int32)
  · refine own_go (fun _ k => XS.ifNo X0.here hx rfl (hb hby at_9) rfl ((if0 _ _).trans (teq hc9_0).2) k) ?_
    show own_Ends _ _ _ _ (s₁.setTop (mkF m 12 #[.val (.int p0), .val (.int ((p0 &&& (2147483647 : Int32)) % (6 : Int32))), .unset, .unset] []))
    obtain ⟨T2, X2, e2, st2⟩ := getS2 X0 hx hZ hown (host := "") (Or.inl (hw _ (List.mem_of_getElem? (i := 1) rfl))) Via.refl e0 (S_OPTIMISTIC.ext O0.2) (g := (mkF m 12 #[.val (.int p0), .val (.int ((p0 &&& (2147483647 : Int32)) % (6 : Int32))), .unset, .unset] [])) rfl (hb hby at_12)
    refine own_go st2 ?_
    show own_Ends _ _ _ _ (T2.setTop (mkF m 15 #[.val (.int p0), .val (.int ((p0 &&& (2147483647 : Int32)) % (6 : Int32))), .unset, .unset] [(.ref a_OPTIMISTIC)]))
    refine own_go (fun _ k => XS.astoreN X2.here hx rfl (hb hby at_15) rfl rfl (l' := #[.val (.int p0), .val (.int ((p0 &&& (2147483647 : Int32)) % (6 : Int32))), .val (.ref a_OPTIMISTIC), .unset]) rfl k) ?_
    show own_Ends _ _ _ _ (T2.setTop (mkF m 16 #[.val (.int p0), .val (.int ((p0 &&& (2147483647 : Int32)) % (6 : Int32))), .val (.ref a_OPTIMISTIC), .unset] []))
    refine own_go (fun _ k => XS.iconst X2.here hx rfl (hb hby at_16) k) ?_
    show own_Ends _ _ _ _ (T2.setTop (mkF m 17 #[.val (.int p0), .val (.int ((p0 &&& (2147483647 : Int32)) % (6 : Int32))), .val (.ref a_OPTIMISTIC), .unset] [(.int (0 : Int32))]))
    refine own_go (fun _ k => XS.istoreN X2.here hx rfl (hb hby at_17) rfl (l' := #[.val (.int p0), .val (.int ((p0 &&& (2147483647 : Int32)) % (6 : Int32))), .val (.ref a_OPTIMISTIC), .val (.int (0 : Int32))]) rfl k) ?_
    show own_Ends _ _ _ _ (T2.setTop (mkF m 18 #[.val (.int p0), .val (.int ((p0 &&& (2147483647 : Int32)) % (6 : Int32))), .val (.ref a_OPTIMISTIC), .val (.int (0 : Int32))] []))
    refine own_go (fun _ k => XS.goto X2.here hx rfl (pc0 := 18) (pc' := 83) rfl (hb hby at_18) (by decide) (by decide) k) ?_
    show own_Ends _ _ _ _ (T2.setTop (mkF m 83 #[.val (.int p0), .val (.int ((p0 &&& (2147483647 : Int32)) % (6 : Int32))), .val (.ref a_OPTIMISTIC), .val (.int (0 : Int32))] []))
    refine own_go (fun _ k => XS.aloadN X2.here hx rfl (hb hby at_83) rfl rfl k) ?_
    show own_Ends _ _ _ _ (T2.setTop (mkF m 84 #[.val (.int p0), .val (.int ((p0 &&& (2147483647 : Int32)) % (6 : Int32))), .val (.ref a_OPTIMISTIC), .val (.int (0 : Int32))] [(.ref a_OPTIMISTIC)]))
    obtain ⟨cq3, kq3, q3a, q3b, q3c⟩ := isOf hZ e2 (E_OPTIMISTIC.ext O0.2)
    obtain ⟨_, _, ⟨T3, Lz3, kz3, nz3⟩, -, X3, ⟨Lc3, hQ3, l3, y3, z3⟩, st3⟩ := X2.virtualBack hx (y := (⟨"com/example/contention/contention/Strategy", "changesRowsTogether", "()Z"⟩ : MethodName)) (z := (⟨"com/example/contention/contention/Strategy", "changesRowsTogether", "()Z"⟩ : MethodName)) hown (mvT hZ (hw _ (List.mem_of_getElem? (i := 4) rfl))) (mvT hZ (hw _ (List.mem_of_getElem? (i := 5) rfl))) (notFace_of_selects (args := #[]) (mvT hZ (hw _ (List.mem_of_getElem? (i := 7) rfl)))) (mvT hZ (hw _ (List.mem_of_getElem? (i := 7) rfl))) (mvT hZ (hw _ (List.mem_of_getElem? (i := 6) rfl))) (by decide) (backOf (W := 0) (own_changesRowsTogether l Z a0 hw [] a_OPTIMISTIC (0 : Int32) a_PESSIMISTIC h0 n0 O0 S_PESSIMISTIC (by rw [if_neg (Fld.ne F_OPTIMISTIC_ordinal F_PESSIMISTIC_ordinal (fun q => absurd (Value.int.inj q) (by decide)))])) hZ (hw _ (List.mem_of_getElem? (i := 8) rfl)) (hw _ (List.mem_of_getElem? (i := 2) rfl)) (by decide) (by decide)) q3a q3c (g := (mkF m 84 #[.val (.int p0), .val (.int ((p0 &&& (2147483647 : Int32)) % (6 : Int32))), .val (.ref a_OPTIMISTIC), .val (.int (0 : Int32))] [(.ref a_OPTIMISTIC)])) rfl (by rw [hml]; rfl) (Steps.refl _) (argsL := []) (rest := []) (lenOf own_pd0 rfl) rfl (by show 2 * 0 + _ ≤ _; exact Nat.le_of_eq rfl) (hb hby at_84) (fun _ _ => ⟨rfl, e2, (by decide : 0 + 0 ≤ _), (by decide : 0 + 0 ≤ _)⟩)
    dsimp only [Pt.U, Pt.locs, Pt.cells, Pt.slots] at X3 l3 y3 z3 st3 hQ3
    subst l3 y3 z3
    obtain ⟨rfl, Nq3, e3⟩ := hQ3
    have N3 := Fr.app N0 Nq3
    refine own_tr st3 ?_
    show own_Ends _ _ _ _ (T3.setTop (mkF m 87 #[.val (.int p0), .val (.int ((p0 &&& (2147483647 : Int32)) % (6 : Int32))), .val (.ref a_OPTIMISTIC), .val (.int (0 : Int32))] [(.int (0 : Int32))]))
    refine own_go (fun _ k => XS.iloadN X3.here hx rfl (hb hby at_87) rfl k) ?_
    show own_Ends _ _ _ _ (T3.setTop (mkF m 88 #[.val (.int p0), .val (.int ((p0 &&& (2147483647 : Int32)) % (6 : Int32))), .val (.ref a_OPTIMISTIC), .val (.int (0 : Int32))] [(.int (0 : Int32)), (.int (0 : Int32))]))
    refine own_go (fun _ k => XS.icmpNo X3.here hx rfl (hb hby at_88) rfl (teq (by decide : (0 : Int32) = (0 : Int32))).2 k) ?_
    show own_Ends _ _ _ _ (T3.setTop (mkF m 91 #[.val (.int p0), .val (.int ((p0 &&& (2147483647 : Int32)) % (6 : Int32))), .val (.ref a_OPTIMISTIC), .val (.int (0 : Int32))] []))
    refine own_go (fun _ k => XS.iconst X3.here hx rfl (hb hby at_91) k) ?_
    show own_Ends _ _ _ _ (T3.setTop (mkF m 92 #[.val (.int p0), .val (.int ((p0 &&& (2147483647 : Int32)) % (6 : Int32))), .val (.ref a_OPTIMISTIC), .val (.int (0 : Int32))] [(.int (1 : Int32))]))
    refine own_go (fun _ k => XS.goto X3.here hx rfl (pc0 := 92) (pc' := 96) rfl (hb hby at_92) (by decide) (by decide) k) ?_
    show own_Ends _ _ _ _ (T3.setTop (mkF m 96 #[.val (.int p0), .val (.int ((p0 &&& (2147483647 : Int32)) % (6 : Int32))), .val (.ref a_OPTIMISTIC), .val (.int (0 : Int32))] [(.int (1 : Int32))]))
    exact own_retZ X3 hx (BodyLoose.notSynchronized Bd) Bd.returns rfl (hb hby at_96) (by decide) (by decide) (by rw [e3]; exact ⟨rfl, N3⟩)
  · refine own_go (fun _ k => XS.ifYes X0.here hx rfl (pc0 := 9) (pc' := 21) rfl (hb hby at_9) rfl ((if0 _ _).trans (feq hc9_0).2) (by decide) (by decide) k) ?_
    show own_Ends _ _ _ _ (s₁.setTop (mkF m 21 #[.val (.int p0), .val (.int ((p0 &&& (2147483647 : Int32)) % (6 : Int32))), .unset, .unset] []))
    refine own_go (fun _ k => XS.iloadN X0.here hx rfl (hb hby at_21) rfl k) ?_
    show own_Ends _ _ _ _ (s₁.setTop (mkF m 22 #[.val (.int p0), .val (.int ((p0 &&& (2147483647 : Int32)) % (6 : Int32))), .unset, .unset] [(.int ((p0 &&& (2147483647 : Int32)) % (6 : Int32)))]))
    refine own_go (fun _ k => XS.iconst X0.here hx rfl (hb hby at_22) k) ?_
    show own_Ends _ _ _ _ (s₁.setTop (mkF m 23 #[.val (.int p0), .val (.int ((p0 &&& (2147483647 : Int32)) % (6 : Int32))), .unset, .unset] [(.int (1 : Int32)), (.int ((p0 &&& (2147483647 : Int32)) % (6 : Int32)))]))
    by_cases hc23_3 : ((p0 &&& (2147483647 : Int32)) % (6 : Int32)) = (1 : Int32)
    · refine own_go (fun _ k => XS.icmpNo X0.here hx rfl (hb hby at_23) rfl (teq hc23_3).2 k) ?_
      show own_Ends _ _ _ _ (s₁.setTop (mkF m 26 #[.val (.int p0), .val (.int ((p0 &&& (2147483647 : Int32)) % (6 : Int32))), .unset, .unset] []))
      obtain ⟨T5, X5, e5, st5⟩ := getS2 X0 hx hZ hown (host := "") (Or.inl (hw _ (List.mem_of_getElem? (i := 15) rfl))) Via.refl e0 (S_PESSIMISTIC.ext O0.2) (g := (mkF m 26 #[.val (.int p0), .val (.int ((p0 &&& (2147483647 : Int32)) % (6 : Int32))), .unset, .unset] [])) rfl (hb hby at_26)
      refine own_go st5 ?_
      show own_Ends _ _ _ _ (T5.setTop (mkF m 29 #[.val (.int p0), .val (.int ((p0 &&& (2147483647 : Int32)) % (6 : Int32))), .unset, .unset] [(.ref a_PESSIMISTIC)]))
      refine own_go (fun _ k => XS.astoreN X5.here hx rfl (hb hby at_29) rfl rfl (l' := #[.val (.int p0), .val (.int ((p0 &&& (2147483647 : Int32)) % (6 : Int32))), .val (.ref a_PESSIMISTIC), .unset]) rfl k) ?_
      show own_Ends _ _ _ _ (T5.setTop (mkF m 30 #[.val (.int p0), .val (.int ((p0 &&& (2147483647 : Int32)) % (6 : Int32))), .val (.ref a_PESSIMISTIC), .unset] []))
      refine own_go (fun _ k => XS.iconst X5.here hx rfl (hb hby at_30) k) ?_
      show own_Ends _ _ _ _ (T5.setTop (mkF m 31 #[.val (.int p0), .val (.int ((p0 &&& (2147483647 : Int32)) % (6 : Int32))), .val (.ref a_PESSIMISTIC), .unset] [(.int (1 : Int32))]))
      refine own_go (fun _ k => XS.istoreN X5.here hx rfl (hb hby at_31) rfl (l' := #[.val (.int p0), .val (.int ((p0 &&& (2147483647 : Int32)) % (6 : Int32))), .val (.ref a_PESSIMISTIC), .val (.int (1 : Int32))]) rfl k) ?_
      show own_Ends _ _ _ _ (T5.setTop (mkF m 32 #[.val (.int p0), .val (.int ((p0 &&& (2147483647 : Int32)) % (6 : Int32))), .val (.ref a_PESSIMISTIC), .val (.int (1 : Int32))] []))
      refine own_go (fun _ k => XS.goto X5.here hx rfl (pc0 := 32) (pc' := 83) rfl (hb hby at_32) (by decide) (by decide) k) ?_
      show own_Ends _ _ _ _ (T5.setTop (mkF m 83 #[.val (.int p0), .val (.int ((p0 &&& (2147483647 : Int32)) % (6 : Int32))), .val (.ref a_PESSIMISTIC), .val (.int (1 : Int32))] []))
      refine own_go (fun _ k => XS.aloadN X5.here hx rfl (hb hby at_83) rfl rfl k) ?_
      show own_Ends _ _ _ _ (T5.setTop (mkF m 84 #[.val (.int p0), .val (.int ((p0 &&& (2147483647 : Int32)) % (6 : Int32))), .val (.ref a_PESSIMISTIC), .val (.int (1 : Int32))] [(.ref a_PESSIMISTIC)]))
      obtain ⟨cq6, kq6, q6a, q6b, q6c⟩ := isOf hZ e5 (E_PESSIMISTIC.ext O0.2)
      obtain ⟨_, _, ⟨T6, Lz6, kz6, nz6⟩, -, X6, ⟨Lc6, hQ6, l6, y6, z6⟩, st6⟩ := X5.virtualBack hx (y := (⟨"com/example/contention/contention/Strategy", "changesRowsTogether", "()Z"⟩ : MethodName)) (z := (⟨"com/example/contention/contention/Strategy", "changesRowsTogether", "()Z"⟩ : MethodName)) hown (mvT hZ (hw _ (List.mem_of_getElem? (i := 4) rfl))) (mvT hZ (hw _ (List.mem_of_getElem? (i := 5) rfl))) (notFace_of_selects (args := #[]) (mvT hZ (hw _ (List.mem_of_getElem? (i := 7) rfl)))) (mvT hZ (hw _ (List.mem_of_getElem? (i := 7) rfl))) (mvT hZ (hw _ (List.mem_of_getElem? (i := 6) rfl))) (by decide) (backOf (W := 0) (own_changesRowsTogether l Z a0 hw [] a_PESSIMISTIC (1 : Int32) a_PESSIMISTIC h0 n0 O0 S_PESSIMISTIC (by rw [if_pos rfl])) hZ (hw _ (List.mem_of_getElem? (i := 8) rfl)) (hw _ (List.mem_of_getElem? (i := 2) rfl)) (by decide) (by decide)) q6a q6c (g := (mkF m 84 #[.val (.int p0), .val (.int ((p0 &&& (2147483647 : Int32)) % (6 : Int32))), .val (.ref a_PESSIMISTIC), .val (.int (1 : Int32))] [(.ref a_PESSIMISTIC)])) rfl (by rw [hml]; rfl) (Steps.refl _) (argsL := []) (rest := []) (lenOf own_pd0 rfl) rfl (by show 2 * 0 + _ ≤ _; exact Nat.le_of_eq rfl) (hb hby at_84) (fun _ _ => ⟨rfl, e5, (by decide : 0 + 0 ≤ _), (by decide : 0 + 0 ≤ _)⟩)
      dsimp only [Pt.U, Pt.locs, Pt.cells, Pt.slots] at X6 l6 y6 z6 st6 hQ6
      subst l6 y6 z6
      obtain ⟨rfl, Nq6, e6⟩ := hQ6
      have N6 := Fr.app N0 Nq6
      refine own_tr st6 ?_
      show own_Ends _ _ _ _ (T6.setTop (mkF m 87 #[.val (.int p0), .val (.int ((p0 &&& (2147483647 : Int32)) % (6 : Int32))), .val (.ref a_PESSIMISTIC), .val (.int (1 : Int32))] [(.int (1 : Int32))]))
      refine own_go (fun _ k => XS.iloadN X6.here hx rfl (hb hby at_87) rfl k) ?_
      show own_Ends _ _ _ _ (T6.setTop (mkF m 88 #[.val (.int p0), .val (.int ((p0 &&& (2147483647 : Int32)) % (6 : Int32))), .val (.ref a_PESSIMISTIC), .val (.int (1 : Int32))] [(.int (1 : Int32)), (.int (1 : Int32))]))
      refine own_go (fun _ k => XS.icmpNo X6.here hx rfl (hb hby at_88) rfl (teq (by decide : (1 : Int32) = (1 : Int32))).2 k) ?_
      show own_Ends _ _ _ _ (T6.setTop (mkF m 91 #[.val (.int p0), .val (.int ((p0 &&& (2147483647 : Int32)) % (6 : Int32))), .val (.ref a_PESSIMISTIC), .val (.int (1 : Int32))] []))
      refine own_go (fun _ k => XS.iconst X6.here hx rfl (hb hby at_91) k) ?_
      show own_Ends _ _ _ _ (T6.setTop (mkF m 92 #[.val (.int p0), .val (.int ((p0 &&& (2147483647 : Int32)) % (6 : Int32))), .val (.ref a_PESSIMISTIC), .val (.int (1 : Int32))] [(.int (1 : Int32))]))
      refine own_go (fun _ k => XS.goto X6.here hx rfl (pc0 := 92) (pc' := 96) rfl (hb hby at_92) (by decide) (by decide) k) ?_
      show own_Ends _ _ _ _ (T6.setTop (mkF m 96 #[.val (.int p0), .val (.int ((p0 &&& (2147483647 : Int32)) % (6 : Int32))), .val (.ref a_PESSIMISTIC), .val (.int (1 : Int32))] [(.int (1 : Int32))]))
      exact own_retZ X6 hx (BodyLoose.notSynchronized Bd) Bd.returns rfl (hb hby at_96) (by decide) (by decide) (by rw [e6]; exact ⟨rfl, N6⟩)
    · refine own_go (fun _ k => XS.icmpYes X0.here hx rfl (pc0 := 23) (pc' := 35) rfl (hb hby at_23) rfl (feq hc23_3).2 (by decide) (by decide) k) ?_
      show own_Ends _ _ _ _ (s₁.setTop (mkF m 35 #[.val (.int p0), .val (.int ((p0 &&& (2147483647 : Int32)) % (6 : Int32))), .unset, .unset] []))
      refine own_go (fun _ k => XS.iloadN X0.here hx rfl (hb hby at_35) rfl k) ?_
      show own_Ends _ _ _ _ (s₁.setTop (mkF m 36 #[.val (.int p0), .val (.int ((p0 &&& (2147483647 : Int32)) % (6 : Int32))), .unset, .unset] [(.int ((p0 &&& (2147483647 : Int32)) % (6 : Int32)))]))
      refine own_go (fun _ k => XS.iconst X0.here hx rfl (hb hby at_36) k) ?_
      show own_Ends _ _ _ _ (s₁.setTop (mkF m 37 #[.val (.int p0), .val (.int ((p0 &&& (2147483647 : Int32)) % (6 : Int32))), .unset, .unset] [(.int (2 : Int32)), (.int ((p0 &&& (2147483647 : Int32)) % (6 : Int32)))]))
      by_cases hc37_6 : ((p0 &&& (2147483647 : Int32)) % (6 : Int32)) = (2 : Int32)
      · refine own_go (fun _ k => XS.icmpNo X0.here hx rfl (hb hby at_37) rfl (teq hc37_6).2 k) ?_
        show own_Ends _ _ _ _ (s₁.setTop (mkF m 40 #[.val (.int p0), .val (.int ((p0 &&& (2147483647 : Int32)) % (6 : Int32))), .unset, .unset] []))
        obtain ⟨T8, X8, e8, st8⟩ := getS2 X0 hx hZ hown (host := "") (Or.inl (hw _ (List.mem_of_getElem? (i := 13) rfl))) Via.refl e0 (S_NAMED_LOCK.ext O0.2) (g := (mkF m 40 #[.val (.int p0), .val (.int ((p0 &&& (2147483647 : Int32)) % (6 : Int32))), .unset, .unset] [])) rfl (hb hby at_40)
        refine own_go st8 ?_
        show own_Ends _ _ _ _ (T8.setTop (mkF m 43 #[.val (.int p0), .val (.int ((p0 &&& (2147483647 : Int32)) % (6 : Int32))), .unset, .unset] [(.ref a_NAMED_LOCK)]))
        refine own_go (fun _ k => XS.astoreN X8.here hx rfl (hb hby at_43) rfl rfl (l' := #[.val (.int p0), .val (.int ((p0 &&& (2147483647 : Int32)) % (6 : Int32))), .val (.ref a_NAMED_LOCK), .unset]) rfl k) ?_
        show own_Ends _ _ _ _ (T8.setTop (mkF m 44 #[.val (.int p0), .val (.int ((p0 &&& (2147483647 : Int32)) % (6 : Int32))), .val (.ref a_NAMED_LOCK), .unset] []))
        refine own_go (fun _ k => XS.iconst X8.here hx rfl (hb hby at_44) k) ?_
        show own_Ends _ _ _ _ (T8.setTop (mkF m 45 #[.val (.int p0), .val (.int ((p0 &&& (2147483647 : Int32)) % (6 : Int32))), .val (.ref a_NAMED_LOCK), .unset] [(.int (0 : Int32))]))
        refine own_go (fun _ k => XS.istoreN X8.here hx rfl (hb hby at_45) rfl (l' := #[.val (.int p0), .val (.int ((p0 &&& (2147483647 : Int32)) % (6 : Int32))), .val (.ref a_NAMED_LOCK), .val (.int (0 : Int32))]) rfl k) ?_
        show own_Ends _ _ _ _ (T8.setTop (mkF m 46 #[.val (.int p0), .val (.int ((p0 &&& (2147483647 : Int32)) % (6 : Int32))), .val (.ref a_NAMED_LOCK), .val (.int (0 : Int32))] []))
        refine own_go (fun _ k => XS.goto X8.here hx rfl (pc0 := 46) (pc' := 83) rfl (hb hby at_46) (by decide) (by decide) k) ?_
        show own_Ends _ _ _ _ (T8.setTop (mkF m 83 #[.val (.int p0), .val (.int ((p0 &&& (2147483647 : Int32)) % (6 : Int32))), .val (.ref a_NAMED_LOCK), .val (.int (0 : Int32))] []))
        refine own_go (fun _ k => XS.aloadN X8.here hx rfl (hb hby at_83) rfl rfl k) ?_
        show own_Ends _ _ _ _ (T8.setTop (mkF m 84 #[.val (.int p0), .val (.int ((p0 &&& (2147483647 : Int32)) % (6 : Int32))), .val (.ref a_NAMED_LOCK), .val (.int (0 : Int32))] [(.ref a_NAMED_LOCK)]))
        obtain ⟨cq9, kq9, q9a, q9b, q9c⟩ := isOf hZ e8 (E_NAMED_LOCK.ext O0.2)
        obtain ⟨_, _, ⟨T9, Lz9, kz9, nz9⟩, -, X9, ⟨Lc9, hQ9, l9, y9, z9⟩, st9⟩ := X8.virtualBack hx (y := (⟨"com/example/contention/contention/Strategy", "changesRowsTogether", "()Z"⟩ : MethodName)) (z := (⟨"com/example/contention/contention/Strategy", "changesRowsTogether", "()Z"⟩ : MethodName)) hown (mvT hZ (hw _ (List.mem_of_getElem? (i := 4) rfl))) (mvT hZ (hw _ (List.mem_of_getElem? (i := 5) rfl))) (notFace_of_selects (args := #[]) (mvT hZ (hw _ (List.mem_of_getElem? (i := 7) rfl)))) (mvT hZ (hw _ (List.mem_of_getElem? (i := 7) rfl))) (mvT hZ (hw _ (List.mem_of_getElem? (i := 6) rfl))) (by decide) (backOf (W := 0) (own_changesRowsTogether l Z a0 hw [] a_NAMED_LOCK (0 : Int32) a_PESSIMISTIC h0 n0 O0 S_PESSIMISTIC (by rw [if_neg (Fld.ne F_NAMED_LOCK_ordinal F_PESSIMISTIC_ordinal (fun q => absurd (Value.int.inj q) (by decide)))])) hZ (hw _ (List.mem_of_getElem? (i := 8) rfl)) (hw _ (List.mem_of_getElem? (i := 2) rfl)) (by decide) (by decide)) q9a q9c (g := (mkF m 84 #[.val (.int p0), .val (.int ((p0 &&& (2147483647 : Int32)) % (6 : Int32))), .val (.ref a_NAMED_LOCK), .val (.int (0 : Int32))] [(.ref a_NAMED_LOCK)])) rfl (by rw [hml]; rfl) (Steps.refl _) (argsL := []) (rest := []) (lenOf own_pd0 rfl) rfl (by show 2 * 0 + _ ≤ _; exact Nat.le_of_eq rfl) (hb hby at_84) (fun _ _ => ⟨rfl, e8, (by decide : 0 + 0 ≤ _), (by decide : 0 + 0 ≤ _)⟩)
        dsimp only [Pt.U, Pt.locs, Pt.cells, Pt.slots] at X9 l9 y9 z9 st9 hQ9
        subst l9 y9 z9
        obtain ⟨rfl, Nq9, e9⟩ := hQ9
        have N9 := Fr.app N0 Nq9
        refine own_tr st9 ?_
        show own_Ends _ _ _ _ (T9.setTop (mkF m 87 #[.val (.int p0), .val (.int ((p0 &&& (2147483647 : Int32)) % (6 : Int32))), .val (.ref a_NAMED_LOCK), .val (.int (0 : Int32))] [(.int (0 : Int32))]))
        refine own_go (fun _ k => XS.iloadN X9.here hx rfl (hb hby at_87) rfl k) ?_
        show own_Ends _ _ _ _ (T9.setTop (mkF m 88 #[.val (.int p0), .val (.int ((p0 &&& (2147483647 : Int32)) % (6 : Int32))), .val (.ref a_NAMED_LOCK), .val (.int (0 : Int32))] [(.int (0 : Int32)), (.int (0 : Int32))]))
        refine own_go (fun _ k => XS.icmpNo X9.here hx rfl (hb hby at_88) rfl (teq (by decide : (0 : Int32) = (0 : Int32))).2 k) ?_
        show own_Ends _ _ _ _ (T9.setTop (mkF m 91 #[.val (.int p0), .val (.int ((p0 &&& (2147483647 : Int32)) % (6 : Int32))), .val (.ref a_NAMED_LOCK), .val (.int (0 : Int32))] []))
        refine own_go (fun _ k => XS.iconst X9.here hx rfl (hb hby at_91) k) ?_
        show own_Ends _ _ _ _ (T9.setTop (mkF m 92 #[.val (.int p0), .val (.int ((p0 &&& (2147483647 : Int32)) % (6 : Int32))), .val (.ref a_NAMED_LOCK), .val (.int (0 : Int32))] [(.int (1 : Int32))]))
        refine own_go (fun _ k => XS.goto X9.here hx rfl (pc0 := 92) (pc' := 96) rfl (hb hby at_92) (by decide) (by decide) k) ?_
        show own_Ends _ _ _ _ (T9.setTop (mkF m 96 #[.val (.int p0), .val (.int ((p0 &&& (2147483647 : Int32)) % (6 : Int32))), .val (.ref a_NAMED_LOCK), .val (.int (0 : Int32))] [(.int (1 : Int32))]))
        exact own_retZ X9 hx (BodyLoose.notSynchronized Bd) Bd.returns rfl (hb hby at_96) (by decide) (by decide) (by rw [e9]; exact ⟨rfl, N9⟩)
      · refine own_go (fun _ k => XS.icmpYes X0.here hx rfl (pc0 := 37) (pc' := 49) rfl (hb hby at_37) rfl (feq hc37_6).2 (by decide) (by decide) k) ?_
        show own_Ends _ _ _ _ (s₁.setTop (mkF m 49 #[.val (.int p0), .val (.int ((p0 &&& (2147483647 : Int32)) % (6 : Int32))), .unset, .unset] []))
        refine own_go (fun _ k => XS.iloadN X0.here hx rfl (hb hby at_49) rfl k) ?_
        show own_Ends _ _ _ _ (s₁.setTop (mkF m 50 #[.val (.int p0), .val (.int ((p0 &&& (2147483647 : Int32)) % (6 : Int32))), .unset, .unset] [(.int ((p0 &&& (2147483647 : Int32)) % (6 : Int32)))]))
        refine own_go (fun _ k => XS.iconst X0.here hx rfl (hb hby at_50) k) ?_
        show own_Ends _ _ _ _ (s₁.setTop (mkF m 51 #[.val (.int p0), .val (.int ((p0 &&& (2147483647 : Int32)) % (6 : Int32))), .unset, .unset] [(.int (3 : Int32)), (.int ((p0 &&& (2147483647 : Int32)) % (6 : Int32)))]))
        by_cases hc51_9 : ((p0 &&& (2147483647 : Int32)) % (6 : Int32)) = (3 : Int32)
        · refine own_go (fun _ k => XS.icmpNo X0.here hx rfl (hb hby at_51) rfl (teq hc51_9).2 k) ?_
          show own_Ends _ _ _ _ (s₁.setTop (mkF m 54 #[.val (.int p0), .val (.int ((p0 &&& (2147483647 : Int32)) % (6 : Int32))), .unset, .unset] []))
          obtain ⟨T11, X11, e11, st11⟩ := getS2 X0 hx hZ hown (host := "") (Or.inl (hw _ (List.mem_of_getElem? (i := 11) rfl))) Via.refl e0 (S_ATOMIC.ext O0.2) (g := (mkF m 54 #[.val (.int p0), .val (.int ((p0 &&& (2147483647 : Int32)) % (6 : Int32))), .unset, .unset] [])) rfl (hb hby at_54)
          refine own_go st11 ?_
          show own_Ends _ _ _ _ (T11.setTop (mkF m 57 #[.val (.int p0), .val (.int ((p0 &&& (2147483647 : Int32)) % (6 : Int32))), .unset, .unset] [(.ref a_ATOMIC)]))
          refine own_go (fun _ k => XS.astoreN X11.here hx rfl (hb hby at_57) rfl rfl (l' := #[.val (.int p0), .val (.int ((p0 &&& (2147483647 : Int32)) % (6 : Int32))), .val (.ref a_ATOMIC), .unset]) rfl k) ?_
          show own_Ends _ _ _ _ (T11.setTop (mkF m 58 #[.val (.int p0), .val (.int ((p0 &&& (2147483647 : Int32)) % (6 : Int32))), .val (.ref a_ATOMIC), .unset] []))
          refine own_go (fun _ k => XS.iconst X11.here hx rfl (hb hby at_58) k) ?_
          show own_Ends _ _ _ _ (T11.setTop (mkF m 59 #[.val (.int p0), .val (.int ((p0 &&& (2147483647 : Int32)) % (6 : Int32))), .val (.ref a_ATOMIC), .unset] [(.int (0 : Int32))]))
          refine own_go (fun _ k => XS.istoreN X11.here hx rfl (hb hby at_59) rfl (l' := #[.val (.int p0), .val (.int ((p0 &&& (2147483647 : Int32)) % (6 : Int32))), .val (.ref a_ATOMIC), .val (.int (0 : Int32))]) rfl k) ?_
          show own_Ends _ _ _ _ (T11.setTop (mkF m 60 #[.val (.int p0), .val (.int ((p0 &&& (2147483647 : Int32)) % (6 : Int32))), .val (.ref a_ATOMIC), .val (.int (0 : Int32))] []))
          refine own_go (fun _ k => XS.goto X11.here hx rfl (pc0 := 60) (pc' := 83) rfl (hb hby at_60) (by decide) (by decide) k) ?_
          show own_Ends _ _ _ _ (T11.setTop (mkF m 83 #[.val (.int p0), .val (.int ((p0 &&& (2147483647 : Int32)) % (6 : Int32))), .val (.ref a_ATOMIC), .val (.int (0 : Int32))] []))
          refine own_go (fun _ k => XS.aloadN X11.here hx rfl (hb hby at_83) rfl rfl k) ?_
          show own_Ends _ _ _ _ (T11.setTop (mkF m 84 #[.val (.int p0), .val (.int ((p0 &&& (2147483647 : Int32)) % (6 : Int32))), .val (.ref a_ATOMIC), .val (.int (0 : Int32))] [(.ref a_ATOMIC)]))
          obtain ⟨cq12, kq12, q12a, q12b, q12c⟩ := isOf hZ e11 (E_ATOMIC.ext O0.2)
          obtain ⟨_, _, ⟨T12, Lz12, kz12, nz12⟩, -, X12, ⟨Lc12, hQ12, l12, y12, z12⟩, st12⟩ := X11.virtualBack hx (y := (⟨"com/example/contention/contention/Strategy", "changesRowsTogether", "()Z"⟩ : MethodName)) (z := (⟨"com/example/contention/contention/Strategy", "changesRowsTogether", "()Z"⟩ : MethodName)) hown (mvT hZ (hw _ (List.mem_of_getElem? (i := 4) rfl))) (mvT hZ (hw _ (List.mem_of_getElem? (i := 5) rfl))) (notFace_of_selects (args := #[]) (mvT hZ (hw _ (List.mem_of_getElem? (i := 7) rfl)))) (mvT hZ (hw _ (List.mem_of_getElem? (i := 7) rfl))) (mvT hZ (hw _ (List.mem_of_getElem? (i := 6) rfl))) (by decide) (backOf (W := 0) (own_changesRowsTogether l Z a0 hw [] a_ATOMIC (0 : Int32) a_PESSIMISTIC h0 n0 O0 S_PESSIMISTIC (by rw [if_neg (Fld.ne F_ATOMIC_ordinal F_PESSIMISTIC_ordinal (fun q => absurd (Value.int.inj q) (by decide)))])) hZ (hw _ (List.mem_of_getElem? (i := 8) rfl)) (hw _ (List.mem_of_getElem? (i := 2) rfl)) (by decide) (by decide)) q12a q12c (g := (mkF m 84 #[.val (.int p0), .val (.int ((p0 &&& (2147483647 : Int32)) % (6 : Int32))), .val (.ref a_ATOMIC), .val (.int (0 : Int32))] [(.ref a_ATOMIC)])) rfl (by rw [hml]; rfl) (Steps.refl _) (argsL := []) (rest := []) (lenOf own_pd0 rfl) rfl (by show 2 * 0 + _ ≤ _; exact Nat.le_of_eq rfl) (hb hby at_84) (fun _ _ => ⟨rfl, e11, (by decide : 0 + 0 ≤ _), (by decide : 0 + 0 ≤ _)⟩)
          dsimp only [Pt.U, Pt.locs, Pt.cells, Pt.slots] at X12 l12 y12 z12 st12 hQ12
          subst l12 y12 z12
          obtain ⟨rfl, Nq12, e12⟩ := hQ12
          have N12 := Fr.app N0 Nq12
          refine own_tr st12 ?_
          show own_Ends _ _ _ _ (T12.setTop (mkF m 87 #[.val (.int p0), .val (.int ((p0 &&& (2147483647 : Int32)) % (6 : Int32))), .val (.ref a_ATOMIC), .val (.int (0 : Int32))] [(.int (0 : Int32))]))
          refine own_go (fun _ k => XS.iloadN X12.here hx rfl (hb hby at_87) rfl k) ?_
          show own_Ends _ _ _ _ (T12.setTop (mkF m 88 #[.val (.int p0), .val (.int ((p0 &&& (2147483647 : Int32)) % (6 : Int32))), .val (.ref a_ATOMIC), .val (.int (0 : Int32))] [(.int (0 : Int32)), (.int (0 : Int32))]))
          refine own_go (fun _ k => XS.icmpNo X12.here hx rfl (hb hby at_88) rfl (teq (by decide : (0 : Int32) = (0 : Int32))).2 k) ?_
          show own_Ends _ _ _ _ (T12.setTop (mkF m 91 #[.val (.int p0), .val (.int ((p0 &&& (2147483647 : Int32)) % (6 : Int32))), .val (.ref a_ATOMIC), .val (.int (0 : Int32))] []))
          refine own_go (fun _ k => XS.iconst X12.here hx rfl (hb hby at_91) k) ?_
          show own_Ends _ _ _ _ (T12.setTop (mkF m 92 #[.val (.int p0), .val (.int ((p0 &&& (2147483647 : Int32)) % (6 : Int32))), .val (.ref a_ATOMIC), .val (.int (0 : Int32))] [(.int (1 : Int32))]))
          refine own_go (fun _ k => XS.goto X12.here hx rfl (pc0 := 92) (pc' := 96) rfl (hb hby at_92) (by decide) (by decide) k) ?_
          show own_Ends _ _ _ _ (T12.setTop (mkF m 96 #[.val (.int p0), .val (.int ((p0 &&& (2147483647 : Int32)) % (6 : Int32))), .val (.ref a_ATOMIC), .val (.int (0 : Int32))] [(.int (1 : Int32))]))
          exact own_retZ X12 hx (BodyLoose.notSynchronized Bd) Bd.returns rfl (hb hby at_96) (by decide) (by decide) (by rw [e12]; exact ⟨rfl, N12⟩)
        · refine own_go (fun _ k => XS.icmpYes X0.here hx rfl (pc0 := 51) (pc' := 63) rfl (hb hby at_51) rfl (feq hc51_9).2 (by decide) (by decide) k) ?_
          show own_Ends _ _ _ _ (s₁.setTop (mkF m 63 #[.val (.int p0), .val (.int ((p0 &&& (2147483647 : Int32)) % (6 : Int32))), .unset, .unset] []))
          refine own_go (fun _ k => XS.iloadN X0.here hx rfl (hb hby at_63) rfl k) ?_
          show own_Ends _ _ _ _ (s₁.setTop (mkF m 64 #[.val (.int p0), .val (.int ((p0 &&& (2147483647 : Int32)) % (6 : Int32))), .unset, .unset] [(.int ((p0 &&& (2147483647 : Int32)) % (6 : Int32)))]))
          refine own_go (fun _ k => XS.iconst X0.here hx rfl (hb hby at_64) k) ?_
          show own_Ends _ _ _ _ (s₁.setTop (mkF m 65 #[.val (.int p0), .val (.int ((p0 &&& (2147483647 : Int32)) % (6 : Int32))), .unset, .unset] [(.int (4 : Int32)), (.int ((p0 &&& (2147483647 : Int32)) % (6 : Int32)))]))
          by_cases hc65_12 : ((p0 &&& (2147483647 : Int32)) % (6 : Int32)) = (4 : Int32)
          · refine own_go (fun _ k => XS.icmpNo X0.here hx rfl (hb hby at_65) rfl (teq hc65_12).2 k) ?_
            show own_Ends _ _ _ _ (s₁.setTop (mkF m 68 #[.val (.int p0), .val (.int ((p0 &&& (2147483647 : Int32)) % (6 : Int32))), .unset, .unset] []))
            obtain ⟨T14, X14, e14, st14⟩ := getS2 X0 hx hZ hown (host := "") (Or.inl (hw _ (List.mem_of_getElem? (i := 18) rfl))) Via.refl e0 (S_OPTIMISTIC_THEN_LOCK.ext O0.2) (g := (mkF m 68 #[.val (.int p0), .val (.int ((p0 &&& (2147483647 : Int32)) % (6 : Int32))), .unset, .unset] [])) rfl (hb hby at_68)
            refine own_go st14 ?_
            show own_Ends _ _ _ _ (T14.setTop (mkF m 71 #[.val (.int p0), .val (.int ((p0 &&& (2147483647 : Int32)) % (6 : Int32))), .unset, .unset] [(.ref a_OPTIMISTIC_THEN_LOCK)]))
            refine own_go (fun _ k => XS.astoreN X14.here hx rfl (hb hby at_71) rfl rfl (l' := #[.val (.int p0), .val (.int ((p0 &&& (2147483647 : Int32)) % (6 : Int32))), .val (.ref a_OPTIMISTIC_THEN_LOCK), .unset]) rfl k) ?_
            show own_Ends _ _ _ _ (T14.setTop (mkF m 72 #[.val (.int p0), .val (.int ((p0 &&& (2147483647 : Int32)) % (6 : Int32))), .val (.ref a_OPTIMISTIC_THEN_LOCK), .unset] []))
            refine own_go (fun _ k => XS.iconst X14.here hx rfl (hb hby at_72) k) ?_
            show own_Ends _ _ _ _ (T14.setTop (mkF m 73 #[.val (.int p0), .val (.int ((p0 &&& (2147483647 : Int32)) % (6 : Int32))), .val (.ref a_OPTIMISTIC_THEN_LOCK), .unset] [(.int (0 : Int32))]))
            refine own_go (fun _ k => XS.istoreN X14.here hx rfl (hb hby at_73) rfl (l' := #[.val (.int p0), .val (.int ((p0 &&& (2147483647 : Int32)) % (6 : Int32))), .val (.ref a_OPTIMISTIC_THEN_LOCK), .val (.int (0 : Int32))]) rfl k) ?_
            show own_Ends _ _ _ _ (T14.setTop (mkF m 74 #[.val (.int p0), .val (.int ((p0 &&& (2147483647 : Int32)) % (6 : Int32))), .val (.ref a_OPTIMISTIC_THEN_LOCK), .val (.int (0 : Int32))] []))
            refine own_go (fun _ k => XS.goto X14.here hx rfl (pc0 := 74) (pc' := 83) rfl (hb hby at_74) (by decide) (by decide) k) ?_
            show own_Ends _ _ _ _ (T14.setTop (mkF m 83 #[.val (.int p0), .val (.int ((p0 &&& (2147483647 : Int32)) % (6 : Int32))), .val (.ref a_OPTIMISTIC_THEN_LOCK), .val (.int (0 : Int32))] []))
            refine own_go (fun _ k => XS.aloadN X14.here hx rfl (hb hby at_83) rfl rfl k) ?_
            show own_Ends _ _ _ _ (T14.setTop (mkF m 84 #[.val (.int p0), .val (.int ((p0 &&& (2147483647 : Int32)) % (6 : Int32))), .val (.ref a_OPTIMISTIC_THEN_LOCK), .val (.int (0 : Int32))] [(.ref a_OPTIMISTIC_THEN_LOCK)]))
            obtain ⟨cq15, kq15, q15a, q15b, q15c⟩ := isOf hZ e14 (E_OPTIMISTIC_THEN_LOCK.ext O0.2)
            obtain ⟨_, _, ⟨T15, Lz15, kz15, nz15⟩, -, X15, ⟨Lc15, hQ15, l15, y15, z15⟩, st15⟩ := X14.virtualBack hx (y := (⟨"com/example/contention/contention/Strategy", "changesRowsTogether", "()Z"⟩ : MethodName)) (z := (⟨"com/example/contention/contention/Strategy", "changesRowsTogether", "()Z"⟩ : MethodName)) hown (mvT hZ (hw _ (List.mem_of_getElem? (i := 4) rfl))) (mvT hZ (hw _ (List.mem_of_getElem? (i := 5) rfl))) (notFace_of_selects (args := #[]) (mvT hZ (hw _ (List.mem_of_getElem? (i := 7) rfl)))) (mvT hZ (hw _ (List.mem_of_getElem? (i := 7) rfl))) (mvT hZ (hw _ (List.mem_of_getElem? (i := 6) rfl))) (by decide) (backOf (W := 0) (own_changesRowsTogether l Z a0 hw [] a_OPTIMISTIC_THEN_LOCK (0 : Int32) a_PESSIMISTIC h0 n0 O0 S_PESSIMISTIC (by rw [if_neg (Fld.ne F_OPTIMISTIC_THEN_LOCK_ordinal F_PESSIMISTIC_ordinal (fun q => absurd (Value.int.inj q) (by decide)))])) hZ (hw _ (List.mem_of_getElem? (i := 8) rfl)) (hw _ (List.mem_of_getElem? (i := 2) rfl)) (by decide) (by decide)) q15a q15c (g := (mkF m 84 #[.val (.int p0), .val (.int ((p0 &&& (2147483647 : Int32)) % (6 : Int32))), .val (.ref a_OPTIMISTIC_THEN_LOCK), .val (.int (0 : Int32))] [(.ref a_OPTIMISTIC_THEN_LOCK)])) rfl (by rw [hml]; rfl) (Steps.refl _) (argsL := []) (rest := []) (lenOf own_pd0 rfl) rfl (by show 2 * 0 + _ ≤ _; exact Nat.le_of_eq rfl) (hb hby at_84) (fun _ _ => ⟨rfl, e14, (by decide : 0 + 0 ≤ _), (by decide : 0 + 0 ≤ _)⟩)
            dsimp only [Pt.U, Pt.locs, Pt.cells, Pt.slots] at X15 l15 y15 z15 st15 hQ15
            subst l15 y15 z15
            obtain ⟨rfl, Nq15, e15⟩ := hQ15
            have N15 := Fr.app N0 Nq15
            refine own_tr st15 ?_
            show own_Ends _ _ _ _ (T15.setTop (mkF m 87 #[.val (.int p0), .val (.int ((p0 &&& (2147483647 : Int32)) % (6 : Int32))), .val (.ref a_OPTIMISTIC_THEN_LOCK), .val (.int (0 : Int32))] [(.int (0 : Int32))]))
            refine own_go (fun _ k => XS.iloadN X15.here hx rfl (hb hby at_87) rfl k) ?_
            show own_Ends _ _ _ _ (T15.setTop (mkF m 88 #[.val (.int p0), .val (.int ((p0 &&& (2147483647 : Int32)) % (6 : Int32))), .val (.ref a_OPTIMISTIC_THEN_LOCK), .val (.int (0 : Int32))] [(.int (0 : Int32)), (.int (0 : Int32))]))
            refine own_go (fun _ k => XS.icmpNo X15.here hx rfl (hb hby at_88) rfl (teq (by decide : (0 : Int32) = (0 : Int32))).2 k) ?_
            show own_Ends _ _ _ _ (T15.setTop (mkF m 91 #[.val (.int p0), .val (.int ((p0 &&& (2147483647 : Int32)) % (6 : Int32))), .val (.ref a_OPTIMISTIC_THEN_LOCK), .val (.int (0 : Int32))] []))
            refine own_go (fun _ k => XS.iconst X15.here hx rfl (hb hby at_91) k) ?_
            show own_Ends _ _ _ _ (T15.setTop (mkF m 92 #[.val (.int p0), .val (.int ((p0 &&& (2147483647 : Int32)) % (6 : Int32))), .val (.ref a_OPTIMISTIC_THEN_LOCK), .val (.int (0 : Int32))] [(.int (1 : Int32))]))
            refine own_go (fun _ k => XS.goto X15.here hx rfl (pc0 := 92) (pc' := 96) rfl (hb hby at_92) (by decide) (by decide) k) ?_
            show own_Ends _ _ _ _ (T15.setTop (mkF m 96 #[.val (.int p0), .val (.int ((p0 &&& (2147483647 : Int32)) % (6 : Int32))), .val (.ref a_OPTIMISTIC_THEN_LOCK), .val (.int (0 : Int32))] [(.int (1 : Int32))]))
            exact own_retZ X15 hx (BodyLoose.notSynchronized Bd) Bd.returns rfl (hb hby at_96) (by decide) (by decide) (by rw [e15]; exact ⟨rfl, N15⟩)
          · refine own_go (fun _ k => XS.icmpYes X0.here hx rfl (pc0 := 65) (pc' := 77) rfl (hb hby at_65) rfl (feq hc65_12).2 (by decide) (by decide) k) ?_
            show own_Ends _ _ _ _ (s₁.setTop (mkF m 77 #[.val (.int p0), .val (.int ((p0 &&& (2147483647 : Int32)) % (6 : Int32))), .unset, .unset] []))
            obtain ⟨T16, X16, e16, st16⟩ := getS2 X0 hx hZ hown (host := "") (Or.inl (hw _ (List.mem_of_getElem? (i := 16) rfl))) Via.refl e0 (S_UNPROTECTED.ext O0.2) (g := (mkF m 77 #[.val (.int p0), .val (.int ((p0 &&& (2147483647 : Int32)) % (6 : Int32))), .unset, .unset] [])) rfl (hb hby at_77)
            refine own_go st16 ?_
            show own_Ends _ _ _ _ (T16.setTop (mkF m 80 #[.val (.int p0), .val (.int ((p0 &&& (2147483647 : Int32)) % (6 : Int32))), .unset, .unset] [(.ref a_UNPROTECTED)]))
            refine own_go (fun _ k => XS.astoreN X16.here hx rfl (hb hby at_80) rfl rfl (l' := #[.val (.int p0), .val (.int ((p0 &&& (2147483647 : Int32)) % (6 : Int32))), .val (.ref a_UNPROTECTED), .unset]) rfl k) ?_
            show own_Ends _ _ _ _ (T16.setTop (mkF m 81 #[.val (.int p0), .val (.int ((p0 &&& (2147483647 : Int32)) % (6 : Int32))), .val (.ref a_UNPROTECTED), .unset] []))
            refine own_go (fun _ k => XS.iconst X16.here hx rfl (hb hby at_81) k) ?_
            show own_Ends _ _ _ _ (T16.setTop (mkF m 82 #[.val (.int p0), .val (.int ((p0 &&& (2147483647 : Int32)) % (6 : Int32))), .val (.ref a_UNPROTECTED), .unset] [(.int (0 : Int32))]))
            refine own_go (fun _ k => XS.istoreN X16.here hx rfl (hb hby at_82) rfl (l' := #[.val (.int p0), .val (.int ((p0 &&& (2147483647 : Int32)) % (6 : Int32))), .val (.ref a_UNPROTECTED), .val (.int (0 : Int32))]) rfl k) ?_
            show own_Ends _ _ _ _ (T16.setTop (mkF m 83 #[.val (.int p0), .val (.int ((p0 &&& (2147483647 : Int32)) % (6 : Int32))), .val (.ref a_UNPROTECTED), .val (.int (0 : Int32))] []))
            refine own_go (fun _ k => XS.aloadN X16.here hx rfl (hb hby at_83) rfl rfl k) ?_
            show own_Ends _ _ _ _ (T16.setTop (mkF m 84 #[.val (.int p0), .val (.int ((p0 &&& (2147483647 : Int32)) % (6 : Int32))), .val (.ref a_UNPROTECTED), .val (.int (0 : Int32))] [(.ref a_UNPROTECTED)]))
            obtain ⟨cq17, kq17, q17a, q17b, q17c⟩ := isOf hZ e16 (E_UNPROTECTED.ext O0.2)
            obtain ⟨_, _, ⟨T17, Lz17, kz17, nz17⟩, -, X17, ⟨Lc17, hQ17, l17, y17, z17⟩, st17⟩ := X16.virtualBack hx (y := (⟨"com/example/contention/contention/Strategy", "changesRowsTogether", "()Z"⟩ : MethodName)) (z := (⟨"com/example/contention/contention/Strategy", "changesRowsTogether", "()Z"⟩ : MethodName)) hown (mvT hZ (hw _ (List.mem_of_getElem? (i := 4) rfl))) (mvT hZ (hw _ (List.mem_of_getElem? (i := 5) rfl))) (notFace_of_selects (args := #[]) (mvT hZ (hw _ (List.mem_of_getElem? (i := 7) rfl)))) (mvT hZ (hw _ (List.mem_of_getElem? (i := 7) rfl))) (mvT hZ (hw _ (List.mem_of_getElem? (i := 6) rfl))) (by decide) (backOf (W := 0) (own_changesRowsTogether l Z a0 hw [] a_UNPROTECTED (0 : Int32) a_PESSIMISTIC h0 n0 O0 S_PESSIMISTIC (by rw [if_neg (Fld.ne F_UNPROTECTED_ordinal F_PESSIMISTIC_ordinal (fun q => absurd (Value.int.inj q) (by decide)))])) hZ (hw _ (List.mem_of_getElem? (i := 8) rfl)) (hw _ (List.mem_of_getElem? (i := 2) rfl)) (by decide) (by decide)) q17a q17c (g := (mkF m 84 #[.val (.int p0), .val (.int ((p0 &&& (2147483647 : Int32)) % (6 : Int32))), .val (.ref a_UNPROTECTED), .val (.int (0 : Int32))] [(.ref a_UNPROTECTED)])) rfl (by rw [hml]; rfl) (Steps.refl _) (argsL := []) (rest := []) (lenOf own_pd0 rfl) rfl (by show 2 * 0 + _ ≤ _; exact Nat.le_of_eq rfl) (hb hby at_84) (fun _ _ => ⟨rfl, e16, (by decide : 0 + 0 ≤ _), (by decide : 0 + 0 ≤ _)⟩)
            dsimp only [Pt.U, Pt.locs, Pt.cells, Pt.slots] at X17 l17 y17 z17 st17 hQ17
            subst l17 y17 z17
            obtain ⟨rfl, Nq17, e17⟩ := hQ17
            have N17 := Fr.app N0 Nq17
            refine own_tr st17 ?_
            show own_Ends _ _ _ _ (T17.setTop (mkF m 87 #[.val (.int p0), .val (.int ((p0 &&& (2147483647 : Int32)) % (6 : Int32))), .val (.ref a_UNPROTECTED), .val (.int (0 : Int32))] [(.int (0 : Int32))]))
            refine own_go (fun _ k => XS.iloadN X17.here hx rfl (hb hby at_87) rfl k) ?_
            show own_Ends _ _ _ _ (T17.setTop (mkF m 88 #[.val (.int p0), .val (.int ((p0 &&& (2147483647 : Int32)) % (6 : Int32))), .val (.ref a_UNPROTECTED), .val (.int (0 : Int32))] [(.int (0 : Int32)), (.int (0 : Int32))]))
            refine own_go (fun _ k => XS.icmpNo X17.here hx rfl (hb hby at_88) rfl (teq (by decide : (0 : Int32) = (0 : Int32))).2 k) ?_
            show own_Ends _ _ _ _ (T17.setTop (mkF m 91 #[.val (.int p0), .val (.int ((p0 &&& (2147483647 : Int32)) % (6 : Int32))), .val (.ref a_UNPROTECTED), .val (.int (0 : Int32))] []))
            refine own_go (fun _ k => XS.iconst X17.here hx rfl (hb hby at_91) k) ?_
            show own_Ends _ _ _ _ (T17.setTop (mkF m 92 #[.val (.int p0), .val (.int ((p0 &&& (2147483647 : Int32)) % (6 : Int32))), .val (.ref a_UNPROTECTED), .val (.int (0 : Int32))] [(.int (1 : Int32))]))
            refine own_go (fun _ k => XS.goto X17.here hx rfl (pc0 := 92) (pc' := 96) rfl (hb hby at_92) (by decide) (by decide) k) ?_
            show own_Ends _ _ _ _ (T17.setTop (mkF m 96 #[.val (.int p0), .val (.int ((p0 &&& (2147483647 : Int32)) % (6 : Int32))), .val (.ref a_UNPROTECTED), .val (.int (0 : Int32))] [(.int (1 : Int32))]))
            exact own_retZ X17 hx (BodyLoose.notSynchronized Bd) Bd.returns rfl (hb hby at_96) (by decide) (by decide) (by rw [e17]; exact ⟨rfl, N17⟩)
set_option maxRecDepth 65536 in
set_option maxHeartbeats 40000000 in
theorem comes_1 {Post : Tables → Env → Array Value → State → Outcome → State → Prop} (hpost : ∀ tb e args s v u, (limb_1_1.after args s (.returned v) u = true ∧ limb_1_2.after args s (.returned v) u = true ∧ True) → FrameEnd s (.returned v) u (Jvm.fieldLocs frame_1_writes args s ++ Jvm.arrayLocs frame_1_arrays args s ++ Jvm.staticLocs frame_1_statics s) 0 0 → Post tb e args s (.returned v) u) :
    ArmFor flags0 classFile x code maxLocals ret World_1 tables_1 room_1 Calls_1 rest_1 Pre_1 Post := by
  intro l hfl _ _ p e ha hc hk s m args below hf hA hF happ hP
  obtain ⟨hcalls, hrest, hpre⟩ := hP
  obtain ⟨-, -, -, hnamed, -, -, -, hat⟩ := (Spec.applies_iff hf).mp happ
  obtain ⟨hg, hn⟩ := and_e (Cond.before_iff.mp (show (Jvm.Cond.and given_1 narrow_1).before args s = true from hpre))
  obtain ⟨hg0, hg1⟩ := and_e hg
  obtain ⟨w0, rfl⟩ : ∃ w0 : Value, args = #[w0] := by
    have hs : args.size = 1 := by simpa [Cond.value, given_1] using hg0
    obtain ⟨L⟩ := args
    match L, hs with
    | [w0], _ => exact ⟨w0, rfl⟩
  have hw := fun d (hd : d ∈ tables_1) => atoms_spec (ws := Jvm.Cond.code x code maxLocals ret :: tables_1) hat d (List.mem_cons_of_mem _ hd)
  have hfit : Fit s := fun {y c} hc i hi => by
    obtain ⟨ha, rfl⟩ := Array.getElem?_eq_some_iff.mp hc
    have q := List.all_eq_true.mp ((Array.all_eq_true_iff_forall_mem.mp hF) _ (Array.getElem_mem ha)) i (List.mem_range.mpr hi)
    simpa [Array.getElem?_eq_getElem hi] using q
  obtain ⟨i0, ei0⟩ := is_v hg1
  obtain rfl : w0 = (.int i0) := Option.some.inj ei0
  obtain ⟨hn0, hm0⟩ := and_e hn
  obtain ⟨a_OPTIMISTIC, ev_OPTIMISTIC⟩ := exa_v hn0
  have S_OPTIMISTIC : Sta s s.heap "com/example/contention/contention/Strategy" "OPTIMISTIC" "Lcom/example/contention/contention/Strategy;" (.ref a_OPTIMISTIC) := Sta.start ev_OPTIMISTIC (Or.inr ⟨(hw _ (List.mem_of_getElem? (i := 2) rfl)), (hw _ (List.mem_of_getElem? (i := 3) rfl))⟩)
  have E_OPTIMISTIC : Exa s s.heap a_OPTIMISTIC "com/example/contention/contention/Strategy" := Exa.start ev_OPTIMISTIC hn0
  obtain ⟨hn1, hm1⟩ := and_e hm0
  obtain ⟨a_PESSIMISTIC, ev_PESSIMISTIC⟩ := exa_v hn1
  have S_PESSIMISTIC : Sta s s.heap "com/example/contention/contention/Strategy" "PESSIMISTIC" "Lcom/example/contention/contention/Strategy;" (.ref a_PESSIMISTIC) := Sta.start ev_PESSIMISTIC (Or.inr ⟨(hw _ (List.mem_of_getElem? (i := 2) rfl)), (hw _ (List.mem_of_getElem? (i := 10) rfl))⟩)
  have E_PESSIMISTIC : Exa s s.heap a_PESSIMISTIC "com/example/contention/contention/Strategy" := Exa.start ev_PESSIMISTIC hn1
  obtain ⟨hn2, hm2⟩ := and_e hm1
  have F_OPTIMISTIC_ordinal : Fld s s.heap a_OPTIMISTIC "java/lang/Enum" "ordinal" "I" (.int (0 : Int32)) := own_fldI ev_OPTIMISTIC hn2
  obtain ⟨hn3, hm3⟩ := and_e hm2
  have F_PESSIMISTIC_ordinal : Fld s s.heap a_PESSIMISTIC "java/lang/Enum" "ordinal" "I" (.int (1 : Int32)) := own_fldI ev_PESSIMISTIC hn3
  obtain ⟨hn4, hm4⟩ := and_e hm3
  obtain ⟨a_ATOMIC, ev_ATOMIC⟩ := exa_v hn4
  have S_ATOMIC : Sta s s.heap "com/example/contention/contention/Strategy" "ATOMIC" "Lcom/example/contention/contention/Strategy;" (.ref a_ATOMIC) := Sta.start ev_ATOMIC (Or.inr ⟨(hw _ (List.mem_of_getElem? (i := 2) rfl)), (hw _ (List.mem_of_getElem? (i := 12) rfl))⟩)
  have E_ATOMIC : Exa s s.heap a_ATOMIC "com/example/contention/contention/Strategy" := Exa.start ev_ATOMIC hn4
  obtain ⟨hn5, hm5⟩ := and_e hm4
  have F_ATOMIC_ordinal : Fld s s.heap a_ATOMIC "java/lang/Enum" "ordinal" "I" (.int (3 : Int32)) := own_fldI ev_ATOMIC hn5
  obtain ⟨hn6, hm6⟩ := and_e hm5
  obtain ⟨a_NAMED_LOCK, ev_NAMED_LOCK⟩ := exa_v hn6
  have S_NAMED_LOCK : Sta s s.heap "com/example/contention/contention/Strategy" "NAMED_LOCK" "Lcom/example/contention/contention/Strategy;" (.ref a_NAMED_LOCK) := Sta.start ev_NAMED_LOCK (Or.inr ⟨(hw _ (List.mem_of_getElem? (i := 2) rfl)), (hw _ (List.mem_of_getElem? (i := 14) rfl))⟩)
  have E_NAMED_LOCK : Exa s s.heap a_NAMED_LOCK "com/example/contention/contention/Strategy" := Exa.start ev_NAMED_LOCK hn6
  obtain ⟨hn7, hm7⟩ := and_e hm6
  have F_NAMED_LOCK_ordinal : Fld s s.heap a_NAMED_LOCK "java/lang/Enum" "ordinal" "I" (.int (2 : Int32)) := own_fldI ev_NAMED_LOCK hn7
  obtain ⟨hn8, hm8⟩ := and_e hm7
  obtain ⟨a_UNPROTECTED, ev_UNPROTECTED⟩ := exa_v hn8
  have S_UNPROTECTED : Sta s s.heap "com/example/contention/contention/Strategy" "UNPROTECTED" "Lcom/example/contention/contention/Strategy;" (.ref a_UNPROTECTED) := Sta.start ev_UNPROTECTED (Or.inr ⟨(hw _ (List.mem_of_getElem? (i := 2) rfl)), (hw _ (List.mem_of_getElem? (i := 17) rfl))⟩)
  have E_UNPROTECTED : Exa s s.heap a_UNPROTECTED "com/example/contention/contention/Strategy" := Exa.start ev_UNPROTECTED hn8
  obtain ⟨hn9, hm9⟩ := and_e hm8
  have F_UNPROTECTED_ordinal : Fld s s.heap a_UNPROTECTED "java/lang/Enum" "ordinal" "I" (.int (5 : Int32)) := own_fldI ev_UNPROTECTED hn9
  obtain ⟨hn10, hm10⟩ := and_e hm9
  obtain ⟨a_OPTIMISTIC_THEN_LOCK, ev_OPTIMISTIC_THEN_LOCK⟩ := exa_v hn10
  have S_OPTIMISTIC_THEN_LOCK : Sta s s.heap "com/example/contention/contention/Strategy" "OPTIMISTIC_THEN_LOCK" "Lcom/example/contention/contention/Strategy;" (.ref a_OPTIMISTIC_THEN_LOCK) := Sta.start ev_OPTIMISTIC_THEN_LOCK (Or.inr ⟨(hw _ (List.mem_of_getElem? (i := 2) rfl)), (hw _ (List.mem_of_getElem? (i := 19) rfl))⟩)
  have E_OPTIMISTIC_THEN_LOCK : Exa s s.heap a_OPTIMISTIC_THEN_LOCK "com/example/contention/contention/Strategy" := Exa.start ev_OPTIMISTIC_THEN_LOCK hn10
  have F_OPTIMISTIC_THEN_LOCK_ordinal : Fld s s.heap a_OPTIMISTIC_THEN_LOCK "java/lang/Enum" "ordinal" "I" (.int (4 : Int32)) := own_fldI ev_OPTIMISTIC_THEN_LOCK hm10
  obtain ⟨n, o, h1, h2, h3, _, L, rfl, ⟨rfl, N⟩, hq⟩ := own_law l s _ hw tables_1 i0 a_OPTIMISTIC a_PESSIMISTIC a_ATOMIC a_NAMED_LOCK a_UNPROTECTED a_OPTIMISTIC_THEN_LOCK s.heap s.heap.size (Old.start s) S_OPTIMISTIC E_OPTIMISTIC F_OPTIMISTIC_ordinal S_PESSIMISTIC E_PESSIMISTIC F_PESSIMISTIC_ordinal S_ATOMIC E_ATOMIC F_ATOMIC_ordinal S_NAMED_LOCK E_NAMED_LOCK F_NAMED_LOCK_ordinal S_UNPROTECTED E_UNPROTECTED F_UNPROTECTED_ordinal S_OPTIMISTIC_THEN_LOCK E_OPTIMISTIC_THEN_LOCK F_OPTIMISTIC_THEN_LOCK_ordinal p e ha hc hk s m _ below hf ((Spec.applies_iff_loose hf).mp happ).1 ⟨rfl, State.Warmed39.refl s, rfl⟩ trivial
  refine ⟨n, _, h1, h2, h3, hpost _ _ _ _ _ _ ⟨Cond.after_iff.mpr rfl, Cond.after_iff.mpr (eq_i res_at (Term.int_eval (1)) rfl), trivial⟩ ⟨hq.1, hq.2.1, (hq.2.2.sift fun y hy => Or.inr (N y hy)).mono (by decide) (by decide)⟩⟩
theorem main_1_1 : Claimed_1_1 := comes_1 fun _ _ _ _ _ _ h hF => ⟨h.1, hF⟩
theorem main_1_2 : Claimed_1_2 := comes_1 fun _ _ _ _ _ _ h hF => ⟨h.2.1, hF⟩
end Jvm.Pilot.@@N@@
namespace Jvm.Pilot.@@N@@
open Jvm Jvm.ClassFile Sem Op Lib Jvm.Free Jvm.Stand Jvm.Pilot.@@N@@.Jvm.D
/-! MADE BY PROGRAM (witnessworld.py) out of the Statement's table words and the real class files: 12 classes; the members and pool entries that the words name. The judged class is class 1, her method 1. -/
namespace start1
open Jvm.ClassFile
def u (s : String) : CpInfo := .utf8 (stringToUtf16 s)
/-- a pool by its gaps: so many unusable entries, then the entry; so many at the end -/
def gap : Nat → List CpInfo → List CpInfo
  | 0, r => r
  | n + 1, r => .unusable :: gap n r
def poolList (es : List (Nat × CpInfo)) (last : Nat) : List CpInfo := es.foldr (fun e r => gap e.1 (e.2 :: r)) (gap last [])
def pool (es : List (Nat × CpInfo)) (last : Nat) : Array CpInfo := ⟨poolList es last⟩
def fileOf (pool : Array CpInfo) (this : Nat) (attrs : Array Attribute := #[]) (ms : Array MethodInfo := #[]) (fl : Nat := 33) (sup : Nat := 0) (ifs : Array Nat := #[]) (fds : Array FieldInfo := #[]) : ClassFile where
  minorVersion := 0
  majorVersion := 65
  constantPool := pool
  accessFlags := fl
  thisClass := this
  superClass := sup
  interfaces := ifs
  fields := fds
  methods := ms
  attributes := attrs
def plain (name : String) (sup : Option ClassId) : Class where
  name := name
  kind := .ordinary
  loader := none
  accessFlags := 33
  super := sup
  interfaces := #[]
  cf := none
  fields := #[]
  methods := #[]
  instanceTypes := #[]
  staticTypes := #[]
  resolved := #[]
  callSites := []
  init := .initialized
  statics := none
  mirror := none

def pool0 : Array CpInfo := pool [(5, u "<init>"), (0, u "()V"), (1, .class_ 10), (1, u "java/lang/Object")] 113

def k0m0 : Method := { name := "<init>", desc := "()V", sig := { parameters := [], returnType := none }, accessFlags := 1, code := none }
/-- java/lang/Object -/
def k0 : Class := { plain "java/lang/Object" none with
  accessFlags := 33
  interfaces := #[]
  cf := some (fileOf pool0 8 #[] #[{ accessFlags := 1, nameIndex := 5, descriptorIndex := 6, attributes := #[] }] 33 0 #[] #[])
  fields := #[]
  methods := #[k0m0]
  instanceTypes := #[]
  staticTypes := #[]
  resolved := Array.replicate 124 none
  statics := none }

def pool1 : Array CpInfo := pool [(2, .class_ 4), (1, u "java/lang/Object"), (0, u "<init>"), (0, u "()V"), (0, .integer 2147483647), (0, .fieldref 9 10), (0, .class_ 11), (0, .nameAndType 12 13), (0, u "com/example/contention/contention/Strategy"), (0, u "OPTIMISTIC"), (0, u "Lcom/example/contention/contention/Strategy;"), (0, .fieldref 9 15), (0, .nameAndType 16 13), (0, u "PESSIMISTIC"), (0, .fieldref 9 18), (0, .nameAndType 19 13), (0, u "NAMED_LOCK"), (0, .fieldref 9 21), (0, .nameAndType 22 13), (0, u "ATOMIC"), (0, .fieldref 9 24), (0, .nameAndType 25 13), (0, u "OPTIMISTIC_THEN_LOCK"), (0, .fieldref 9 27), (0, .nameAndType 28 13), (0, u "UNPROTECTED"), (0, .methodref 9 30), (0, .nameAndType 31 32), (0, u "changesRowsTogether"), (0, u "()Z"), (0, .class_ 34), (0, u "com/example/contention/contention/StrategyChangesRowsTogetherPinLaw"), (2, u "law"), (0, u "(I)Z")] 3

def k1m0 : Method := { name := "<init>", desc := "()V", sig := { parameters := [], returnType := none }, accessFlags := 1, code := none }
def k1c1 : Code := { maxStack := 2, maxLocals := 4, code := code, exceptionTable := #[], attributes := #[] }
def k1m1 : Method := { name := "law", desc := "(I)Z", sig := { parameters := [.int], returnType := some .boolean }, accessFlags := 9, code := some k1c1 }
/-- com/example/contention/contention/StrategyChangesRowsTogetherPinLaw -/
def k1 : Class := { plain "com/example/contention/contention/StrategyChangesRowsTogetherPinLaw" (some 0) with
  accessFlags := 49
  interfaces := #[]
  cf := some (fileOf pool1 33 #[] #[{ accessFlags := 1, nameIndex := 5, descriptorIndex := 6, attributes := #[] }, { accessFlags := 9, nameIndex := 37, descriptorIndex := 38, attributes := #[] }] 49 2 #[] #[])
  fields := #[]
  methods := #[k1m0, k1m1]
  instanceTypes := #[]
  staticTypes := #[]
  resolved := Array.replicate 42 none
  statics := none }

def pool2 : Array CpInfo := pool [(1, .class_ 2), (0, u "java/lang/constant/Constable"), (0, .class_ 4), (0, u "java/lang/Object")] 6

/-- java/lang/constant/Constable -/
def k2 : Class := { plain "java/lang/constant/Constable" (some 0) with
  accessFlags := 1537
  interfaces := #[]
  cf := some (fileOf pool2 1 #[] #[] 1537 3 #[] #[])
  fields := #[]
  methods := #[]
  instanceTypes := #[]
  staticTypes := #[]
  resolved := Array.replicate 11 none
  statics := none }

def pool3 : Array CpInfo := pool [(1, .class_ 2), (0, u "java/lang/Comparable"), (0, .class_ 4), (0, u "java/lang/Object")] 7

/-- java/lang/Comparable -/
def k3 : Class := { plain "java/lang/Comparable" (some 0) with
  accessFlags := 1537
  interfaces := #[]
  cf := some (fileOf pool3 1 #[] #[] 1537 3 #[] #[])
  fields := #[]
  methods := #[]
  instanceTypes := #[]
  staticTypes := #[]
  resolved := Array.replicate 12 none
  statics := none }

def pool4 : Array CpInfo := pool [(1, .class_ 2), (0, u "java/io/Serializable"), (0, .class_ 4), (0, u "java/lang/Object")] 2

/-- java/io/Serializable -/
def k4 : Class := { plain "java/io/Serializable" (some 0) with
  accessFlags := 1537
  interfaces := #[]
  cf := some (fileOf pool4 1 #[] #[] 1537 3 #[] #[])
  fields := #[]
  methods := #[]
  instanceTypes := #[]
  staticTypes := #[]
  resolved := Array.replicate 7 none
  statics := none }

def pool5 : Array CpInfo := pool [(2, .class_ 4), (1, u "java/lang/Enum"), (0, u "name"), (0, u "Ljava/lang/String;"), (2, u "ordinal"), (0, u "I"), (1, .class_ 14), (1, u "java/lang/Object"), (4, u "hash"), (86, .class_ 108), (1, u "java/lang/Enum$EnumDesc"), (2, .class_ 112), (0, u "java/lang/constant/Constable"), (0, .class_ 114), (0, u "java/lang/Comparable"), (0, .class_ 116), (0, u "java/io/Serializable")] 87

/-- java/lang/Enum -/
def k5 : Class := { plain "java/lang/Enum" (some 0) with
  accessFlags := 1057
  interfaces := #[2, 3, 4]
  cf := some (fileOf pool5 2 #[.nestMembers #[106]] #[] 1057 12 #[111, 113, 115] #[{ accessFlags := 18, nameIndex := 5, descriptorIndex := 6, attributes := #[] }, { accessFlags := 18, nameIndex := 9, descriptorIndex := 10, attributes := #[] }, { accessFlags := 2, nameIndex := 19, descriptorIndex := 10, attributes := #[] }])
  fields := #[{ name := "name", type := (.object "java/lang/String"), accessFlags := 18, slot := 0, constantValue := 0 }, { name := "ordinal", type := .int, accessFlags := 18, slot := 1, constantValue := 0 }, { name := "hash", type := .int, accessFlags := 2, slot := 2, constantValue := 0 }]
  methods := #[]
  instanceTypes := #[(.object "java/lang/String"), .int, .int]
  staticTypes := #[]
  resolved := Array.replicate 204 none
  statics := none }

def pool6 : Array CpInfo := pool [(1, .class_ 2), (0, u "com/example/contention/contention/Strategy"), (2, u "OPTIMISTIC"), (0, u "Lcom/example/contention/contention/Strategy;"), (0, .fieldref 1 8), (0, .nameAndType 9 6), (0, u "PESSIMISTIC"), (2, u "NAMED_LOCK"), (2, u "ATOMIC"), (2, u "OPTIMISTIC_THEN_LOCK"), (2, u "UNPROTECTED"), (2, u "$VALUES"), (0, u "[Lcom/example/contention/contention/Strategy;"), (6, .class_ 34), (1, u "java/lang/Enum"), (8, u "defaultMaxAttempts"), (0, u "I"), (2, u "leastMaxAttempts"), (43, u "changesRowsTogether"), (0, u "()Z")] 29

def k6c0 : Code := { maxStack := 2, maxLocals := 1, code := prog_16_method_6_code, exceptionTable := #[], attributes := #[] }
def k6m0 : Method := { name := "changesRowsTogether", desc := "()Z", sig := { parameters := [], returnType := some .boolean }, accessFlags := 0, code := some k6c0 }
/-- com/example/contention/contention/Strategy -/
def k6 : Class := { plain "com/example/contention/contention/Strategy" (some 5) with
  accessFlags := 16433
  interfaces := #[]
  cf := some (fileOf pool6 1 #[] #[{ accessFlags := 0, nameIndex := 91, descriptorIndex := 92, attributes := #[] }] 16433 32 #[] #[{ accessFlags := 16409, nameIndex := 5, descriptorIndex := 6, attributes := #[] }, { accessFlags := 16409, nameIndex := 9, descriptorIndex := 6, attributes := #[] }, { accessFlags := 16409, nameIndex := 12, descriptorIndex := 6, attributes := #[] }, { accessFlags := 16409, nameIndex := 15, descriptorIndex := 6, attributes := #[] }, { accessFlags := 16409, nameIndex := 18, descriptorIndex := 6, attributes := #[] }, { accessFlags := 16409, nameIndex := 21, descriptorIndex := 6, attributes := #[] }, { accessFlags := 18, nameIndex := 43, descriptorIndex := 44, attributes := #[] }, { accessFlags := 18, nameIndex := 47, descriptorIndex := 44, attributes := #[] }, { accessFlags := 4122, nameIndex := 24, descriptorIndex := 25, attributes := #[] }])
  fields := #[{ name := "OPTIMISTIC", type := (.object "com/example/contention/contention/Strategy"), accessFlags := 16409, slot := 0, constantValue := 0 }, { name := "PESSIMISTIC", type := (.object "com/example/contention/contention/Strategy"), accessFlags := 16409, slot := 1, constantValue := 0 }, { name := "NAMED_LOCK", type := (.object "com/example/contention/contention/Strategy"), accessFlags := 16409, slot := 2, constantValue := 0 }, { name := "ATOMIC", type := (.object "com/example/contention/contention/Strategy"), accessFlags := 16409, slot := 3, constantValue := 0 }, { name := "OPTIMISTIC_THEN_LOCK", type := (.object "com/example/contention/contention/Strategy"), accessFlags := 16409, slot := 4, constantValue := 0 }, { name := "UNPROTECTED", type := (.object "com/example/contention/contention/Strategy"), accessFlags := 16409, slot := 5, constantValue := 0 }, { name := "defaultMaxAttempts", type := .int, accessFlags := 18, slot := 3, constantValue := 0 }, { name := "leastMaxAttempts", type := .int, accessFlags := 18, slot := 4, constantValue := 0 }, { name := "$VALUES", type := (.array (.object "com/example/contention/contention/Strategy")), accessFlags := 4122, slot := 6, constantValue := 0 }]
  methods := #[k6m0]
  instanceTypes := #[(.object "java/lang/String"), .int, .int, .int, .int]
  staticTypes := #[(.object "com/example/contention/contention/Strategy"), (.object "com/example/contention/contention/Strategy"), (.object "com/example/contention/contention/Strategy"), (.object "com/example/contention/contention/Strategy"), (.object "com/example/contention/contention/Strategy"), (.object "com/example/contention/contention/Strategy"), (.array (.object "com/example/contention/contention/Strategy"))]
  resolved := Array.replicate 122 none
  statics := some 0 }

def pool7 : Array CpInfo := pool [(1, u "java/lang/Cloneable"), (0, .class_ 1), (0, u "java/lang/Object"), (0, .class_ 3)] 3

/-- java/lang/Cloneable -/
def k7 : Class := { plain "java/lang/Cloneable" (some 0) with
  accessFlags := 1537
  interfaces := #[]
  cf := some (fileOf pool7 2 #[] #[] 1537 4 #[] #[])
  fields := #[]
  methods := #[]
  instanceTypes := #[]
  staticTypes := #[]
  resolved := Array.replicate 8 none
  statics := none }

/-- the primitive byte -/
def k8 : Class := { plain "byte" none with kind := .primitive 'B', accessFlags := 0x411 }
/-- [B -/
def k9 : Class := { plain "[B" (some 0) with kind := .array 8 .byte, interfaces := #[7, 4], accessFlags := 1041 }

/-- the primitive int -/
def k10 : Class := { plain "int" none with kind := .primitive 'I', accessFlags := 0x411 }
/-- [I -/
def k11 : Class := { plain "[I" (some 0) with kind := .array 10 .int, interfaces := #[7, 4], accessFlags := 1041 }

def heap : Heap := #[{ cls := 6, slots := #[.ref 1, .ref 2, .ref 4, .ref 3, .ref 6, .ref 5, .null], vm := .statics 6 },
  { cls := 6, slots := #[.null, .int 0, .int 0, .int 0, .int 0], vm := .none },
  { cls := 6, slots := #[.null, .int 1, .int 0, .int 0, .int 0], vm := .none },
  { cls := 6, slots := #[.null, .int 3, .int 0, .int 0, .int 0], vm := .none },
  { cls := 6, slots := #[.null, .int 2, .int 0, .int 0, .int 0], vm := .none },
  { cls := 6, slots := #[.null, .int 5, .int 0, .int 0, .int 0], vm := .none },
  { cls := 6, slots := #[.null, .int 4, .int 0, .int 0, .int 0], vm := .none }]
def classes : Array Class := #[k0, k1, k2, k3, k4, k5, k6, k7, k8, k9, k10, k11]
def interned : List (Array UInt16 × Addr) := []
def slotsUsed : Nat := 37
def theMethod : MethodId := ⟨1, 1⟩
def args0 : Array Value := #[.int 5]
def aboutOver (below : List Frame) : State where
  vm := { classes := classes, interned := interned.toArray }
  heap := heap
  slotsUsed := slotsUsed
  threads := #[{ frames := .invoking theMethod args0 :: below }]
def below0 : List Frame := [.native { method := ⟨0, 0⟩, args := #[] }]
def about1 : State := aboutOver below0
def p0 : Program := .bare "" "" ""
def e0 : Env := launch0.env 0 0 0
theorem w_frames : about1.frames = Frame.invoking theMethod args0 :: below0 := rfl
set_option maxRecDepth 65536 in
theorem w_args : argsFit about1.vm theMethod args0 = true := by decide +kernel
set_option maxRecDepth 65536 in
theorem w_heap : heapFits about1 = true := by decide +kernel
set_option maxRecDepth 65536 in
theorem w_runnable : about1.curStatus? = some .runnable := by decide +kernel
set_option maxRecDepth 65536 in
theorem w_alone : about1.alone = true := by decide +kernel
set_option maxRecDepth 65536 in
theorem w_named : about1.methodNamed? x = some theMethod := by decide +kernel
set_option maxRecDepth 65536 in
theorem w_hears : about1.hears theMethod below0 = true := by decide +kernel
set_option maxRecDepth 65536 in
theorem w_ripe : about1.ripe theMethod args0 below0 = true := by decide +kernel
theorem w_running : about1.status = .running := rfl
set_option maxRecDepth 65536 in
theorem w_room : about1.hasRoom e0.platform room_1 = true :=
  launch0.hasRoom_least _ room_1 (by decide +kernel) (by decide +kernel) (by decide +kernel) (by decide +kernel) (by decide +kernel) (by decide +kernel)
theorem allAtoms_all (ts : List Jvm.Cond) (a : Array Jvm.Value) (st : Jvm.State) : (allAtoms ts).before a st = ts.all (fun c => c.before a st) := by
  induction ts with
  | nil => rfl
  | cons c t ih =>
    show (Jvm.Cond.and c (allAtoms t)).before a st = _
    rw [Jvm.Cond.before_and, ih, List.all_cons]
def words1 : List Jvm.Cond := Jvm.Cond.code x code maxLocals ret :: tables_1
/-- a 'code' word, met by the world's own term for the bytes: nothing is compared byte by byte -/
theorem code_word {y : MethodName} {bytes : ByteArray} {mx : Nat} {rt : Option FieldType} {a : Array Value} {s : State} {m : MethodId} {meth : Method} {c : Code} (h1 : s.methodNamed? y = some m) (h2 : s.vm.method? m = some meth) (h3 : meth.code = some c) (h4 : c.code = bytes)
    (h5 : (c.maxLocals == mx && c.exceptionTable.isEmpty && decide (c.maxStack ≤ mostOperands) && decide (meth.sig.returnType = rt) && !meth.locks && decide (parseMethodDescriptor y.desc = some meth.sig)) = true) : (Jvm.Cond.code y bytes mx rt).before a s = true := by
  simp only [Bool.and_eq_true, beq_iff_eq, Bool.not_eq_true', decide_eq_true_eq] at h5
  obtain ⟨⟨⟨⟨⟨g1, g2⟩, g3⟩, g4⟩, g5⟩, g6⟩ := h5
  simp [Cond.before, Cond.holds, Cond.value, h1, h2, h3, h4, g1, g2, g3, g4, g5, g6]
def isCode : Jvm.Cond → Bool
  | .code _ _ _ _ => true
  | _ => false
theorem all_split {L : List Jvm.Cond} {P : Jvm.Cond → Bool} (h1 : L.all (fun c => isCode c || P c) = true) (h2 : ∀ c ∈ L.filter isCode, P c = true) : L.all P = true := by
  refine List.all_eq_true.mpr fun c hc => ?_
  have h := List.all_eq_true.mp h1 c hc
  rcases Bool.eq_false_or_eq_true (isCode c) with hi | hi
  · exact h2 c (List.mem_filter.mpr ⟨hc, hi⟩)
  · simpa [hi] using h
set_option maxRecDepth 65536 in
theorem w_c0 : (Jvm.Cond.code x code maxLocals ret).before args0 about1 = true := code_word (m := ⟨1, 1⟩) (meth := k1m1) (c := k1c1) (by decide +kernel) rfl rfl rfl (by decide +kernel)
set_option maxRecDepth 65536 in
theorem w_c1 : (Jvm.Cond.code ({ cls := "com/example/contention/contention/Strategy", name := "changesRowsTogether", desc := "()Z" } : Jvm.MethodName) prog_16_method_6_code (1 : Nat) (Option.some Jvm.ClassFile.FieldType.boolean)).before args0 about1 = true := code_word (m := ⟨6, 0⟩) (meth := k6m0) (c := k6c0) (by decide +kernel) rfl rfl rfl (by decide +kernel)
def codes1 : List Jvm.Cond := [Jvm.Cond.code x code maxLocals ret, Jvm.Cond.code ({ cls := "com/example/contention/contention/Strategy", name := "changesRowsTogether", desc := "()Z" } : Jvm.MethodName) prog_16_method_6_code (1 : Nat) (Option.some Jvm.ClassFile.FieldType.boolean)]
set_option maxRecDepth 65536 in
theorem codes_eq : words1.filter isCode = codes1 := rfl
theorem w_codes : ∀ c ∈ words1.filter isCode, c.before args0 about1 = true := by
  rw [codes_eq]
  intro c hc
  simp only [codes1, List.mem_cons, List.not_mem_nil, or_false] at hc
  rcases hc with rfl | rfl
  · exact w_c0
  · exact w_c1
set_option maxRecDepth 65536 in
theorem w_t1 : words1.all (fun c => isCode c || c.before args0 about1) = true := by decide +kernel
theorem w_tables : (allAtoms (Jvm.Cond.code x code maxLocals ret :: tables_1)).before args0 about1 = true := by
  rw [allAtoms_all]
  show words1.all (fun c => c.before args0 about1) = true
  refine all_split ?_ w_codes
  rw [w_t1]
set_option maxRecDepth 65536 in
theorem w_case : (Jvm.Cond.and given_1 narrow_1).before args0 about1 = true := by decide +kernel
theorem w_applies : (headSpec (Jvm.Cond.code x code maxLocals ret :: tables_1) room_1).applies x e0.platform about1 = true :=
  (Spec.applies_iff w_frames).mpr ⟨w_running, w_runnable, w_alone, w_named, w_hears, w_ripe, w_room, w_tables⟩
theorem atStart : AtStart classFile x code maxLocals ret World_1 tables_1 room_1 Calls_1 rest_1 Pre_1 launch0 p0 e0 about1 theMethod args0 below0 :=
  ⟨lists_1, trivial, launch0.admits_env _ _ _, launch0.least_env, fairChoices_fair.cas, fairChoices_fair.clock, w_frames, w_args, w_heap, w_applies, trivial, trivial, w_case⟩
end start1
theorem witness_1 : WitnessClaimed_1 := ⟨start1.p0, start1.e0, start1.about1, start1.theMethod, start1.args0, start1.below0, start1.atStart⟩
end Jvm.Pilot.@@N@@
