import JvmDerived
import JvmDerived.Pilot.@@N@@Statement
import JvmDerived.Pilot.@@N@@Code
set_option linter.unusedVariables false
set_option linter.unusedSimpArgs false
namespace Jvm.Pilot.@@N@@
open Jvm Jvm.ClassFile Sem Op Lib Jvm.Free Jvm.Stand Jvm.LawKit Jvm.RoadKit Bundle Jvm.Pilot.@@N@@.Jvm.D
/-! own_Ends: from the state T the run ends well -/
def own_Ends (p : Program) (e : Env) (below : List Frame) (P : State → Outcome → Prop) (T : State) : Prop := ∃ U o, Steps p.tables e below T U ∧ U.status = .running ∧ Ended U below o ∧ P U o
def own_Got (s : State) (Q : Option Value → Heap → List Loc → Prop) (C N : Nat) (U : State) (o : Outcome) : Prop := ∃ v L, o = .returned v ∧ Q v U.heap L ∧ FrameEnd s o U L C N
section Own
variable {p : Program} {l : Launch} {e : Env} {R : Room} {s : State} {m : MethodId} {args : Array Value} {below : List Frame} {meth : Method} {c : Code} {T T' : State} {locs : List Loc} {cells slots : Nat} {P : State → Outcome → Prop}
theorem own_go (h : ∀ target, Steps p.tables e below T' target → Steps p.tables e below T target) (k : own_Ends p e below P T') : own_Ends p e below P T := by
  obtain ⟨U, o, h1, h2⟩ := k; exact ⟨U, o, h _ h1, h2⟩
theorem own_tr (h : Steps p.tables e below T T') (k : own_Ends p e below P T') : own_Ends p e below P T := by
  obtain ⟨U, o, h1, h2⟩ := k; exact ⟨U, o, h.trans h1, h2⟩
variable {Q : Option Value → Heap → List Loc → Prop} {C N : Nat}
theorem own_ret (X : Stand p l e R s m args below meth c T locs cells slots) (hx : p.tables.exec = Jvm.exec) (lk : meth.locks = false) {pc : Nat} {Ls : Array Slot} {w : Value} {t : FieldType} {i : Instr} {rest : List Value} (hret : meth.sig.returnType = some t) (hn : narrow t w = w)
    (hi : (i = .ireturn ∧ (t = .int ∨ t = .boolean ∨ t = .byte ∨ t = .char ∨ t = .short) ∧ ∃ z, w = .int z) ∨ (i = .lreturn ∧ t = .long ∧ ∃ z, w = .long z) ∨ (i = .dreturn ∧ t = .double ∧ ∃ z, w = .double z) ∨ (i = .freturn ∧ t = .float ∧ ∃ z, w = .float z) ∨ (i = .areturn ∧ t.isReference = true ∧ w.isRef = true))
    (hd : decode c.code pc = .ok (i, 1)) (hC : cells ≤ C) (hN : slots ≤ N) (hq : Q (some w) T.heap locs) : own_Ends p e below (own_Got s Q C N) (T.setTop (mkF m pc Ls (w :: rest))) := by
  obtain ⟨fs, hr, hrun, hended, hW, hsame⟩ := X.leave (v := some w) (fun h => by rw [hret] at h; cases h) lk
  exact ⟨_, _, retOut X hx hret hn hi hd hr, hrun, hended, _, _, rfl, hq, ⟨_, rfl⟩, hW, hsame.mono hC hN⟩
theorem own_retI (X : Stand p l e R s m args below meth c T locs cells slots) (hx : p.tables.exec = Jvm.exec) (lk : meth.locks = false) {pc : Nat} {Ls : Array Slot} {z : Int32} {rest : List Value} (hret : meth.sig.returnType = some .int)
    (hd : decode c.code pc = .ok (.ireturn, 1)) (hC : cells ≤ C) (hN : slots ≤ N) (hq : Q (some (.int z)) T.heap locs) : own_Ends p e below (own_Got s Q C N) (T.setTop (mkF m pc Ls (.int z :: rest))) :=
  own_ret X hx lk hret rfl (Or.inl ⟨rfl, Or.inl rfl, _, rfl⟩) hd hC hN hq
theorem own_retZ (X : Stand p l e R s m args below meth c T locs cells slots) (hx : p.tables.exec = Jvm.exec) (lk : meth.locks = false) {pc : Nat} {Ls : Array Slot} {z : Int32} {rest : List Value} (hret : meth.sig.returnType = some .boolean) (hn : narrow .boolean (.int z) = .int z)
    (hd : decode c.code pc = .ok (.ireturn, 1)) (hC : cells ≤ C) (hN : slots ≤ N) (hq : Q (some (.int z)) T.heap locs) : own_Ends p e below (own_Got s Q C N) (T.setTop (mkF m pc Ls (.int z :: rest))) :=
  own_ret X hx lk hret hn (Or.inl ⟨rfl, Or.inr (Or.inl rfl), _, rfl⟩) hd hC hN hq
theorem own_retJ (X : Stand p l e R s m args below meth c T locs cells slots) (hx : p.tables.exec = Jvm.exec) (lk : meth.locks = false) {pc : Nat} {Ls : Array Slot} {z : Int64} {rest : List Value} (hret : meth.sig.returnType = some .long)
    (hd : decode c.code pc = .ok (.lreturn, 1)) (hC : cells ≤ C) (hN : slots ≤ N) (hq : Q (some (.long z)) T.heap locs) : own_Ends p e below (own_Got s Q C N) (T.setTop (mkF m pc Ls (.long z :: rest))) :=
  own_ret X hx lk hret rfl (Or.inr (Or.inl ⟨rfl, rfl, _, rfl⟩)) hd hC hN hq
theorem own_retR (X : Stand p l e R s m args below meth c T locs cells slots) (hx : p.tables.exec = Jvm.exec) (lk : meth.locks = false) {pc : Nat} {Ls : Array Slot} {w : Value} {t : FieldType} {rest : List Value} (hret : meth.sig.returnType = some t) (ht : t.isReference = true) (hw : w.isRef = true)
    (hd : decode c.code pc = .ok (.areturn, 1)) (hC : cells ≤ C) (hN : slots ≤ N) (hq : Q (some w) T.heap locs) : own_Ends p e below (own_Got s Q C N) (T.setTop (mkF m pc Ls (w :: rest))) :=
  own_ret X hx lk hret (by rcases ref_cases hw with rfl | ⟨a, rfl⟩ <;> cases t <;> first | rfl | exact absurd ht (by decide)) (Or.inr (Or.inr (Or.inr (Or.inr ⟨rfl, ht, hw⟩)))) hd hC hN hq
theorem own_retV (X : Stand p l e R s m args below meth c T locs cells slots) (hx : p.tables.exec = Jvm.exec) (lk : meth.locks = false) {pc : Nat} {Ls : Array Slot} {st : List Value} (hret : meth.sig.returnType = none)
    (hd : decode c.code pc = .ok (.return_, 1)) (hC : cells ≤ C) (hN : slots ≤ N) (hq : Q none T.heap locs) : own_Ends p e below (own_Got s Q C N) (T.setTop (mkF m pc Ls [])) := by
  obtain ⟨fs, hr, hrun, hended, hW, hsame⟩ := X.leave (v := none) (fun _ => rfl) lk
  exact ⟨_, _, X.returnOut hx hret hd hr, hrun, hended, _, _, rfl, hq, ⟨_, rfl⟩, hW, hsame.mono hC hN⟩
theorem own_fldI {Z : State} {a : Addr} {av : Array Value} {t : Term} {k : Int32} {C n d : String} (ev : t.eval av Z none [] Z = some (.ref a)) (h : (Jvm.Cond.eq (.field t C n d) (.int k)).value av Z none Z [] = some true) : Fld Z Z.heap a C n d (.int k) := by
  obtain ⟨x, y, ex, ey, k1, k2⟩ := cmp_v (Or.inl h)
  cases (Term.int_eval (args := av) (first := Z) (o := none) (idx := []) (s := Z) k).symm.trans ey
  obtain ⟨z, rfl⟩ := k2
  obtain rfl : z = k := gotT (Cond.eq_ints ex (Term.int_eval k)) h
  exact Fld.start ((fld_at ev).symm.trans ex)
theorem own_fldJ {Z : State} {a : Addr} {av : Array Value} {t : Term} {k : Int64} {C n d : String} (ev : t.eval av Z none [] Z = some (.ref a)) (h : (Jvm.Cond.eq (.field t C n d) (.long k)).value av Z none Z [] = some true) : Fld Z Z.heap a C n d (.long k) := by
  obtain ⟨x, y, ex, ey, k1, k2⟩ := cmp_v (Or.inl h)
  cases (long_at (args := av) (first := Z) (o := none) (idx := []) (s := Z) k).symm.trans ey
  obtain ⟨z, rfl⟩ := k2
  obtain rfl : z = k := gotT (eq_L ex (long_at k)) h
  exact Fld.start ((fld_at ev).symm.trans ex)
theorem own_staJ {Z : State} {av : Array Value} {k : Int64} {t : Term} (h : (Jvm.Cond.eq t (.long k)).value av Z none Z [] = some true) : t.eval av Z none [] Z = some (.long k) := by
  obtain ⟨x, y, ex, ey, k1, k2⟩ := cmp_v (Or.inl h)
  cases (long_at (args := av) (first := Z) (o := none) (idx := []) (s := Z) k).symm.trans ey
  obtain ⟨z, rfl⟩ := k2
  obtain rfl : z = k := gotT (eq_L ex (long_at k)) h
  exact ex
theorem own_staI {Z : State} {av : Array Value} {k : Int32} {t : Term} (h : (Jvm.Cond.eq t (.int k)).value av Z none Z [] = some true) : t.eval av Z none [] Z = some (.int k) := by
  obtain ⟨x, y, ex, ey, k1, k2⟩ := cmp_v (Or.inl h)
  cases (Term.int_eval (args := av) (first := Z) (o := none) (idx := []) (s := Z) k).symm.trans ey
  obtain ⟨z, rfl⟩ := k2
  obtain rfl : z = k := gotT (Cond.eq_ints ex (Term.int_eval k)) h
  exact ex
end Own
theorem own_d3_0 : decode jdk_32_method_1_code 0 = .ok (.getstatic 1, 3) := by decide +kernel
theorem own_d3_3 : decode jdk_32_method_1_code 3 = .ok (.astore_n 0, 1) := by decide +kernel
theorem own_d3_4 : decode jdk_32_method_1_code 4 = .ok (.aload_n 0, 1) := by decide +kernel
theorem own_d3_5 : decode jdk_32_method_1_code 5 = .ok (.areturn, 1) := by decide +kernel
theorem own_ef_own_empty (m : MethodId)  : entryFrame m #[] 1 = mkF m 0 #[.unset] [] := by first | (simp [entryFrame, mkF, argsToLocals, Value.category]; done) | rfl
def Q_own_empty (Z : State) (a_EMPTY : Addr) (h0 : Heap) (n0 : Nat) (v : Option Value) (h : Heap) (L : List Loc) : Prop := v = some (.ref a_EMPTY) ∧ Fr n0 L ∧ h = h0
theorem own_pn_java_util_Optional : plainName "java/util/Optional" = true := by first | (simp [plainName, overriddenIn]; done) | decide +kernel
set_option maxRecDepth 65536 in
set_option maxHeartbeats 40000000 in
theorem own_empty (l : Launch) (Z : State) (a0 : Array Value) (hw : ∀ d ∈ tables_1, d.before a0 Z = true) (ws : List Jvm.Cond) (a_EMPTY : Addr) (h0 : Heap) (n0 : Nat) (O0 : Old Z n0 h0) (S_EMPTY : Sta Z Z.heap "java/util/Optional" "EMPTY" "Ljava/util/Optional;" (.ref a_EMPTY)) :
    MetFree l (⟨"java/util/Optional", "empty", "()Ljava/util/Optional;"⟩ : MethodName) (head1 (Jvm.Cond.code (⟨"java/util/Optional", "empty", "()Ljava/util/Optional;"⟩ : MethodName) jdk_32_method_1_code 1 (some (.object "java/util/Optional")) :: ws) ({ frames := 0, cells := 0, slots := 0, locals := 0 } : Room)) (fun args_ U => args_ = #[] ∧ Z.Warmed39 U.vm ∧ U.heap = h0) (fun _ _ _ _ _ => True) (fun _ U o U' => ∃ v L, o = .returned v ∧ Q_own_empty Z a_EMPTY h0 n0 v U'.heap L ∧ FrameEnd U o U' L ({ frames := 0, cells := 0, slots := 0, locals := 0 } : Room).cells ({ frames := 0, cells := 0, slots := 0, locals := 0 } : Room).slots) := by
  refine MetFree.of_bodySF (plainFor_of_name own_pn_java_util_Optional) hisR ?_
  intro pP eE sS mM args below meth cC s₁ Bd hml0 hP hK
  obtain ⟨rfl, hZ, hh⟩ := hP
  have hx := Bd.exec
  have hby := Bd.bytes
  have hml : cC.maxLocals = 1 := hml0
  have hown : sS.vm.findClass "java/util/Optional" = some mM.cls := findClass_of_methodNamed Bd.named
  have hnm := (name_of_methodNamed Bd.named Bd.method).1
  have X0 : Stand pP l eE ({ frames := 0, cells := 0, slots := 0, locals := 0 } : Room) sS mM #[] below meth cC s₁ [] 0 0 := Stand.of_body Bd
  have e0 : s₁.heap = h0 := by rw [← hh, Bd.state]; rfl
  have N0 := Fr.nil n0
  show own_Ends pP eE below (own_Got sS (Q_own_empty Z a_EMPTY h0 n0) ({ frames := 0, cells := 0, slots := 0, locals := 0 } : Room).cells ({ frames := 0, cells := 0, slots := 0, locals := 0 } : Room).slots) (s₁.setTop (entryFrame mM #[] 1))
  rw [own_ef_own_empty mM ]
  obtain ⟨T1, X1, e1, st1⟩ := getS2 X0 hx hZ hown (host := "") (Or.inl (hw _ (List.mem_of_getElem? (i := 17) rfl))) Via.refl e0 (S_EMPTY.ext O0.2) (g := (mkF mM 0 #[.unset] [])) rfl (hb hby own_d3_0)
  refine own_go st1 ?_
  show own_Ends _ _ _ _ (T1.setTop (mkF mM 3 #[.unset] [(.ref a_EMPTY)]))
  refine own_go (fun _ k => XS.astoreN X1.here hx rfl (hb hby own_d3_3) rfl rfl (l' := #[.val (.ref a_EMPTY)]) rfl k) ?_
  show own_Ends _ _ _ _ (T1.setTop (mkF mM 4 #[.val (.ref a_EMPTY)] []))
  refine own_go (fun _ k => XS.aloadN X1.here hx rfl (hb hby own_d3_4) rfl rfl k) ?_
  show own_Ends _ _ _ _ (T1.setTop (mkF mM 5 #[.val (.ref a_EMPTY)] [(.ref a_EMPTY)]))
  exact own_retR X1 hx (BodyLoose.notSynchronized Bd) Bd.returns rfl rfl (hb hby own_d3_5) (by decide) (by decide) (by rw [e1]; exact ⟨rfl, N0, rfl⟩)
theorem own_d4_0 : decode jdk_32_method_6_code 0 = .ok (.aload_n 0, 1) := by decide +kernel
theorem own_d4_1 : decode jdk_32_method_6_code 1 = .ok (.getfield 13, 3) := by decide +kernel
theorem own_d4_4 : decode jdk_32_method_6_code 4 = .ok (.ifnull 7, 3) := by decide +kernel
theorem own_d4_7 : decode jdk_32_method_6_code 7 = .ok (.iconst 1, 1) := by decide +kernel
theorem own_d4_8 : decode jdk_32_method_6_code 8 = .ok (.goto 4, 3) := by decide +kernel
theorem own_d4_12 : decode jdk_32_method_6_code 12 = .ok (.ireturn, 1) := by decide +kernel
theorem own_ef_own_present (m : MethodId) (x0 : Addr) : entryFrame m #[(.ref x0)] 1 = mkF m 0 #[.val (.ref x0)] [] := by first | (simp [entryFrame, mkF, argsToLocals, Value.category]; done) | rfl
def Q_own_present (Z : State) (a : Addr) (x : Addr) (h0 : Heap) (n0 : Nat) (v : Option Value) (h : Heap) (L : List Loc) : Prop := v = some (.int 1) ∧ Fr n0 L ∧ h = h0
set_option maxRecDepth 65536 in
set_option maxHeartbeats 40000000 in
theorem own_present (l : Launch) (Z : State) (a0 : Array Value) (hw : ∀ d ∈ tables_1, d.before a0 Z = true) (ws : List Jvm.Cond) (a : Addr) (x : Addr) (h0 : Heap) (n0 : Nat) (O0 : Old Z n0 h0) (F : Fld Z h0 a "java/util/Optional" "value" "Ljava/lang/Object;" (.ref x)) :
    MetFree l (⟨"java/util/Optional", "isPresent", "()Z"⟩ : MethodName) (head1 (Jvm.Cond.code (⟨"java/util/Optional", "isPresent", "()Z"⟩ : MethodName) jdk_32_method_6_code 1 (some .boolean) :: ws) ({ frames := 0, cells := 0, slots := 0, locals := 0 } : Room)) (fun args_ U => args_ = #[(.ref a)] ∧ Z.Warmed39 U.vm ∧ U.heap = h0) (fun _ _ _ _ _ => True) (fun _ U o U' => ∃ v L, o = .returned v ∧ Q_own_present Z a x h0 n0 v U'.heap L ∧ FrameEnd U o U' L ({ frames := 0, cells := 0, slots := 0, locals := 0 } : Room).cells ({ frames := 0, cells := 0, slots := 0, locals := 0 } : Room).slots) := by
  refine MetFree.of_bodySF (plainFor_of_name own_pn_java_util_Optional) hisR ?_
  intro pP eE sS mM args below meth cC s₁ Bd hml0 hP hK
  obtain ⟨rfl, hZ, hh⟩ := hP
  have hx := Bd.exec
  have hby := Bd.bytes
  have hml : cC.maxLocals = 1 := hml0
  have hown : sS.vm.findClass "java/util/Optional" = some mM.cls := findClass_of_methodNamed Bd.named
  have hnm := (name_of_methodNamed Bd.named Bd.method).1
  have X0 : Stand pP l eE ({ frames := 0, cells := 0, slots := 0, locals := 0 } : Room) sS mM #[(.ref a)] below meth cC s₁ [] 0 0 := Stand.of_body Bd
  have e0 : s₁.heap = h0 := by rw [← hh, Bd.state]; rfl
  have N0 := Fr.nil n0
  show own_Ends pP eE below (own_Got sS (Q_own_present Z a x h0 n0) ({ frames := 0, cells := 0, slots := 0, locals := 0 } : Room).cells ({ frames := 0, cells := 0, slots := 0, locals := 0 } : Room).slots) (s₁.setTop (entryFrame mM #[(.ref a)] 1))
  rw [own_ef_own_present mM a]
  refine own_go (fun _ k => XS.aloadN X0.here hx rfl (hb hby own_d4_0) rfl rfl k) ?_
  show own_Ends _ _ _ _ (s₁.setTop (mkF mM 1 #[.val (.ref a)] [(.ref a)]))
  obtain ⟨T1, X1, e1, st1⟩ := getF X0 hx hZ hown (host := "") (Or.inl (hw _ (List.mem_of_getElem? (i := 23) rfl))) Via.refl e0 F (g := (mkF mM 1 #[.val (.ref a)] [(.ref a)])) rfl rfl (hb hby own_d4_1)
  refine own_go st1 ?_
  show own_Ends _ _ _ _ (T1.setTop (mkF mM 4 #[.val (.ref a)] [(.ref x)]))
  refine own_go (fun _ k => XS.ifnullNo X1.here hx rfl (hb hby own_d4_4) rfl k) ?_
  show own_Ends _ _ _ _ (T1.setTop (mkF mM 7 #[.val (.ref a)] []))
  refine own_go (fun _ k => XS.iconst X1.here hx rfl (hb hby own_d4_7) k) ?_
  show own_Ends _ _ _ _ (T1.setTop (mkF mM 8 #[.val (.ref a)] [(.int (1 : Int32))]))
  refine own_go (fun _ k => XS.goto X1.here hx rfl (pc0 := 8) (pc' := 12) rfl (hb hby own_d4_8) (by decide) (by decide) k) ?_
  show own_Ends _ _ _ _ (T1.setTop (mkF mM 12 #[.val (.ref a)] [(.int (1 : Int32))]))
  exact own_retZ X1 hx (BodyLoose.notSynchronized Bd) Bd.returns rfl (hb hby own_d4_12) (by decide) (by decide) (by rw [e1]; exact ⟨rfl, N0, rfl⟩)
theorem own_d4_11 : decode jdk_32_method_6_code 11 = .ok (.iconst 0, 1) := by decide +kernel
theorem own_ef_own_absent (m : MethodId) (x0 : Addr) : entryFrame m #[(.ref x0)] 1 = mkF m 0 #[.val (.ref x0)] [] := by first | (simp [entryFrame, mkF, argsToLocals, Value.category]; done) | rfl
def Q_own_absent (Z : State) (a : Addr) (h0 : Heap) (n0 : Nat) (v : Option Value) (h : Heap) (L : List Loc) : Prop := v = some (.int 0) ∧ Fr n0 L ∧ h = h0
set_option maxRecDepth 65536 in
set_option maxHeartbeats 40000000 in
theorem own_absent (l : Launch) (Z : State) (a0 : Array Value) (hw : ∀ d ∈ tables_1, d.before a0 Z = true) (ws : List Jvm.Cond) (a : Addr) (h0 : Heap) (n0 : Nat) (O0 : Old Z n0 h0) (F : Fld Z h0 a "java/util/Optional" "value" "Ljava/lang/Object;" .null) :
    MetFree l (⟨"java/util/Optional", "isPresent", "()Z"⟩ : MethodName) (head1 (Jvm.Cond.code (⟨"java/util/Optional", "isPresent", "()Z"⟩ : MethodName) jdk_32_method_6_code 1 (some .boolean) :: ws) ({ frames := 0, cells := 0, slots := 0, locals := 0 } : Room)) (fun args_ U => args_ = #[(.ref a)] ∧ Z.Warmed39 U.vm ∧ U.heap = h0) (fun _ _ _ _ _ => True) (fun _ U o U' => ∃ v L, o = .returned v ∧ Q_own_absent Z a h0 n0 v U'.heap L ∧ FrameEnd U o U' L ({ frames := 0, cells := 0, slots := 0, locals := 0 } : Room).cells ({ frames := 0, cells := 0, slots := 0, locals := 0 } : Room).slots) := by
  refine MetFree.of_bodySF (plainFor_of_name own_pn_java_util_Optional) hisR ?_
  intro pP eE sS mM args below meth cC s₁ Bd hml0 hP hK
  obtain ⟨rfl, hZ, hh⟩ := hP
  have hx := Bd.exec
  have hby := Bd.bytes
  have hml : cC.maxLocals = 1 := hml0
  have hown : sS.vm.findClass "java/util/Optional" = some mM.cls := findClass_of_methodNamed Bd.named
  have hnm := (name_of_methodNamed Bd.named Bd.method).1
  have X0 : Stand pP l eE ({ frames := 0, cells := 0, slots := 0, locals := 0 } : Room) sS mM #[(.ref a)] below meth cC s₁ [] 0 0 := Stand.of_body Bd
  have e0 : s₁.heap = h0 := by rw [← hh, Bd.state]; rfl
  have N0 := Fr.nil n0
  show own_Ends pP eE below (own_Got sS (Q_own_absent Z a h0 n0) ({ frames := 0, cells := 0, slots := 0, locals := 0 } : Room).cells ({ frames := 0, cells := 0, slots := 0, locals := 0 } : Room).slots) (s₁.setTop (entryFrame mM #[(.ref a)] 1))
  rw [own_ef_own_absent mM a]
  refine own_go (fun _ k => XS.aloadN X0.here hx rfl (hb hby own_d4_0) rfl rfl k) ?_
  show own_Ends _ _ _ _ (s₁.setTop (mkF mM 1 #[.val (.ref a)] [(.ref a)]))
  obtain ⟨T1, X1, e1, st1⟩ := getF X0 hx hZ hown (host := "") (Or.inl (hw _ (List.mem_of_getElem? (i := 23) rfl))) Via.refl e0 F (g := (mkF mM 1 #[.val (.ref a)] [(.ref a)])) rfl rfl (hb hby own_d4_1)
  refine own_go st1 ?_
  show own_Ends _ _ _ _ (T1.setTop (mkF mM 4 #[.val (.ref a)] [.null]))
  refine own_go (fun _ k => XS.ifnullYes X1.here hx rfl (pc0 := 4) (pc' := 11) rfl (hb hby own_d4_4) rfl (by decide) (by decide) k) ?_
  show own_Ends _ _ _ _ (T1.setTop (mkF mM 11 #[.val (.ref a)] []))
  refine own_go (fun _ k => XS.iconst X1.here hx rfl (hb hby own_d4_11) k) ?_
  show own_Ends _ _ _ _ (T1.setTop (mkF mM 12 #[.val (.ref a)] [(.int (0 : Int32))]))
  exact own_retZ X1 hx (BodyLoose.notSynchronized Bd) Bd.returns rfl (hb hby own_d4_12) (by decide) (by decide) (by rw [e1]; exact ⟨rfl, N0, rfl⟩)
theorem own_d9_0 : decode jdk_32_method_5_code 0 = .ok (.aload_n 0, 1) := by decide +kernel
theorem own_d9_1 : decode jdk_32_method_5_code 1 = .ok (.getfield 13, 3) := by decide +kernel
theorem own_d9_4 : decode jdk_32_method_5_code 4 = .ok (.ifnonnull 13, 3) := by decide +kernel
theorem own_d9_17 : decode jdk_32_method_5_code 17 = .ok (.aload_n 0, 1) := by decide +kernel
theorem own_d9_18 : decode jdk_32_method_5_code 18 = .ok (.getfield 13, 3) := by decide +kernel
theorem own_d9_21 : decode jdk_32_method_5_code 21 = .ok (.areturn, 1) := by decide +kernel
theorem own_ef_own_get (m : MethodId) (x0 : Addr) : entryFrame m #[(.ref x0)] 1 = mkF m 0 #[.val (.ref x0)] [] := by first | (simp [entryFrame, mkF, argsToLocals, Value.category]; done) | rfl
def Q_own_get (Z : State) (a : Addr) (x : Addr) (h0 : Heap) (n0 : Nat) (v : Option Value) (h : Heap) (L : List Loc) : Prop := v = some (.ref x) ∧ Fr n0 L ∧ h = h0
set_option maxRecDepth 65536 in
set_option maxHeartbeats 40000000 in
theorem own_get (l : Launch) (Z : State) (a0 : Array Value) (hw : ∀ d ∈ tables_1, d.before a0 Z = true) (ws : List Jvm.Cond) (a : Addr) (x : Addr) (h0 : Heap) (n0 : Nat) (O0 : Old Z n0 h0) (F : Fld Z h0 a "java/util/Optional" "value" "Ljava/lang/Object;" (.ref x)) :
    MetFree l (⟨"java/util/Optional", "get", "()Ljava/lang/Object;"⟩ : MethodName) (head1 (Jvm.Cond.code (⟨"java/util/Optional", "get", "()Ljava/lang/Object;"⟩ : MethodName) jdk_32_method_5_code 1 (some (.object "java/lang/Object")) :: ws) ({ frames := 0, cells := 0, slots := 0, locals := 0 } : Room)) (fun args_ U => args_ = #[(.ref a)] ∧ Z.Warmed39 U.vm ∧ U.heap = h0) (fun _ _ _ _ _ => True) (fun _ U o U' => ∃ v L, o = .returned v ∧ Q_own_get Z a x h0 n0 v U'.heap L ∧ FrameEnd U o U' L ({ frames := 0, cells := 0, slots := 0, locals := 0 } : Room).cells ({ frames := 0, cells := 0, slots := 0, locals := 0 } : Room).slots) := by
  refine MetFree.of_bodySF (plainFor_of_name own_pn_java_util_Optional) hisR ?_
  intro pP eE sS mM args below meth cC s₁ Bd hml0 hP hK
  obtain ⟨rfl, hZ, hh⟩ := hP
  have hx := Bd.exec
  have hby := Bd.bytes
  have hml : cC.maxLocals = 1 := hml0
  have hown : sS.vm.findClass "java/util/Optional" = some mM.cls := findClass_of_methodNamed Bd.named
  have hnm := (name_of_methodNamed Bd.named Bd.method).1
  have X0 : Stand pP l eE ({ frames := 0, cells := 0, slots := 0, locals := 0 } : Room) sS mM #[(.ref a)] below meth cC s₁ [] 0 0 := Stand.of_body Bd
  have e0 : s₁.heap = h0 := by rw [← hh, Bd.state]; rfl
  have N0 := Fr.nil n0
  show own_Ends pP eE below (own_Got sS (Q_own_get Z a x h0 n0) ({ frames := 0, cells := 0, slots := 0, locals := 0 } : Room).cells ({ frames := 0, cells := 0, slots := 0, locals := 0 } : Room).slots) (s₁.setTop (entryFrame mM #[(.ref a)] 1))
  rw [own_ef_own_get mM a]
  refine own_go (fun _ k => XS.aloadN X0.here hx rfl (hb hby own_d9_0) rfl rfl k) ?_
  show own_Ends _ _ _ _ (s₁.setTop (mkF mM 1 #[.val (.ref a)] [(.ref a)]))
  obtain ⟨T1, X1, e1, st1⟩ := getF X0 hx hZ hown (host := "") (Or.inl (hw _ (List.mem_of_getElem? (i := 23) rfl))) Via.refl e0 F (g := (mkF mM 1 #[.val (.ref a)] [(.ref a)])) rfl rfl (hb hby own_d9_1)
  refine own_go st1 ?_
  show own_Ends _ _ _ _ (T1.setTop (mkF mM 4 #[.val (.ref a)] [(.ref x)]))
  refine own_go (fun _ k => XS.ifnonnullYes X1.here hx rfl (pc0 := 4) (pc' := 17) rfl (hb hby own_d9_4) rfl (by decide) (by decide) k) ?_
  show own_Ends _ _ _ _ (T1.setTop (mkF mM 17 #[.val (.ref a)] []))
  refine own_go (fun _ k => XS.aloadN X1.here hx rfl (hb hby own_d9_17) rfl rfl k) ?_
  show own_Ends _ _ _ _ (T1.setTop (mkF mM 18 #[.val (.ref a)] [(.ref a)]))
  obtain ⟨T2, X2, e2, st2⟩ := getF X1 hx hZ hown (host := "") (Or.inl (hw _ (List.mem_of_getElem? (i := 23) rfl))) Via.refl e1 F (g := (mkF mM 18 #[.val (.ref a)] [(.ref a)])) rfl rfl (hb hby own_d9_18)
  refine own_go st2 ?_
  show own_Ends _ _ _ _ (T2.setTop (mkF mM 21 #[.val (.ref a)] [(.ref x)]))
  exact own_retR X2 hx (BodyLoose.notSynchronized Bd) Bd.returns rfl rfl (hb hby own_d9_21) (by decide) (by decide) (by rw [e2]; exact ⟨rfl, N0, rfl⟩)
theorem own_d6_0 : decode jdk_31_method_10_code 0 = .ok (.aload_n 0, 1) := by decide +kernel
theorem own_d6_1 : decode jdk_31_method_10_code 1 = .ok (.ifnonnull 11, 3) := by decide +kernel
theorem own_d6_12 : decode jdk_31_method_10_code 12 = .ok (.aload_n 0, 1) := by decide +kernel
theorem own_d6_13 : decode jdk_31_method_10_code 13 = .ok (.areturn, 1) := by decide +kernel
theorem own_ef_own_nonnull (m : MethodId) (x0 : Addr) : entryFrame m #[(.ref x0)] 1 = mkF m 0 #[.val (.ref x0)] [] := by first | (simp [entryFrame, mkF, argsToLocals, Value.category]; done) | rfl
def Q_own_nonnull (Z : State) (x : Addr) (h0 : Heap) (n0 : Nat) (v : Option Value) (h : Heap) (L : List Loc) : Prop := v = some (.ref x) ∧ Fr n0 L ∧ h = h0
theorem own_pn_java_util_Objects : plainName "java/util/Objects" = true := by first | (simp [plainName, overriddenIn]; done) | decide +kernel
set_option maxRecDepth 65536 in
set_option maxHeartbeats 40000000 in
theorem own_nonnull (l : Launch) (Z : State) (a0 : Array Value) (hw : ∀ d ∈ tables_1, d.before a0 Z = true) (ws : List Jvm.Cond) (x : Addr) (h0 : Heap) (n0 : Nat) (O0 : Old Z n0 h0) :
    MetFree l (⟨"java/util/Objects", "requireNonNull", "(Ljava/lang/Object;)Ljava/lang/Object;"⟩ : MethodName) (head1 (Jvm.Cond.code (⟨"java/util/Objects", "requireNonNull", "(Ljava/lang/Object;)Ljava/lang/Object;"⟩ : MethodName) jdk_31_method_10_code 1 (some (.object "java/lang/Object")) :: ws) ({ frames := 0, cells := 0, slots := 0, locals := 0 } : Room)) (fun args_ U => args_ = #[(.ref x)] ∧ Z.Warmed39 U.vm ∧ U.heap = h0) (fun _ _ _ _ _ => True) (fun _ U o U' => ∃ v L, o = .returned v ∧ Q_own_nonnull Z x h0 n0 v U'.heap L ∧ FrameEnd U o U' L ({ frames := 0, cells := 0, slots := 0, locals := 0 } : Room).cells ({ frames := 0, cells := 0, slots := 0, locals := 0 } : Room).slots) := by
  refine MetFree.of_bodySF (plainFor_of_name own_pn_java_util_Objects) hisR ?_
  intro pP eE sS mM args below meth cC s₁ Bd hml0 hP hK
  obtain ⟨rfl, hZ, hh⟩ := hP
  have hx := Bd.exec
  have hby := Bd.bytes
  have hml : cC.maxLocals = 1 := hml0
  have hown : sS.vm.findClass "java/util/Objects" = some mM.cls := findClass_of_methodNamed Bd.named
  have hnm := (name_of_methodNamed Bd.named Bd.method).1
  have X0 : Stand pP l eE ({ frames := 0, cells := 0, slots := 0, locals := 0 } : Room) sS mM #[(.ref x)] below meth cC s₁ [] 0 0 := Stand.of_body Bd
  have e0 : s₁.heap = h0 := by rw [← hh, Bd.state]; rfl
  have N0 := Fr.nil n0
  show own_Ends pP eE below (own_Got sS (Q_own_nonnull Z x h0 n0) ({ frames := 0, cells := 0, slots := 0, locals := 0 } : Room).cells ({ frames := 0, cells := 0, slots := 0, locals := 0 } : Room).slots) (s₁.setTop (entryFrame mM #[(.ref x)] 1))
  rw [own_ef_own_nonnull mM x]
  refine own_go (fun _ k => XS.aloadN X0.here hx rfl (hb hby own_d6_0) rfl rfl k) ?_
  show own_Ends _ _ _ _ (s₁.setTop (mkF mM 1 #[.val (.ref x)] [(.ref x)]))
  refine own_go (fun _ k => XS.ifnonnullYes X0.here hx rfl (pc0 := 1) (pc' := 12) rfl (hb hby own_d6_1) rfl (by decide) (by decide) k) ?_
  show own_Ends _ _ _ _ (s₁.setTop (mkF mM 12 #[.val (.ref x)] []))
  refine own_go (fun _ k => XS.aloadN X0.here hx rfl (hb hby own_d6_12) rfl rfl k) ?_
  show own_Ends _ _ _ _ (s₁.setTop (mkF mM 13 #[.val (.ref x)] [(.ref x)]))
  exact own_retR X0 hx (BodyLoose.notSynchronized Bd) Bd.returns rfl rfl (hb hby own_d6_13) (by decide) (by decide) (by rw [e0]; exact ⟨rfl, N0, rfl⟩)
theorem own_d7_0 : decode jdk_32_method_2_code 0 = .ok (.aload_n 0, 1) := by decide +kernel
theorem own_d7_1 : decode jdk_32_method_2_code 1 = .ok (.invokespecial 7, 3) := by decide +kernel
theorem own_d7_4 : decode jdk_32_method_2_code 4 = .ok (.aload_n 0, 1) := by decide +kernel
theorem own_d7_5 : decode jdk_32_method_2_code 5 = .ok (.aload_n 1, 1) := by decide +kernel
theorem own_d7_6 : decode jdk_32_method_2_code 6 = .ok (.putfield 13, 3) := by decide +kernel
theorem own_d7_9 : decode jdk_32_method_2_code 9 = .ok (.return_, 1) := by decide +kernel
theorem own_ef_own_optinit (m : MethodId) (x0 : Addr) (x1 : Addr) : entryFrame m #[(.ref x0), (.ref x1)] 2 = mkF m 0 #[.val (.ref x0), .val (.ref x1)] [] := by first | (simp [entryFrame, mkF, argsToLocals, Value.category]; done) | rfl
def Q_own_optinit (Z : State) (a : Addr) (x : Addr) (h0 : Heap) (n0 : Nat) (v : Option Value) (h : Heap) (L : List Loc) : Prop := v = none ∧ Fr n0 L ∧ Keep h0 h [a] ∧ Exa Z h a "java/util/Optional" ∧ Fld Z h a "java/util/Optional" "value" "Ljava/lang/Object;" (.ref x)
set_option maxRecDepth 65536 in
set_option maxHeartbeats 40000000 in
theorem own_optinit (l : Launch) (Z : State) (a0 : Array Value) (hw : ∀ d ∈ tables_1, d.before a0 Z = true) (ws : List Jvm.Cond) (a : Addr) (x : Addr) (h0 : Heap) (n0 : Nat) (O0 : Old Z n0 h0) (g_a : n0 ≤ a) (E : Exa Z h0 a "java/util/Optional") (F : Fld Z h0 a "java/util/Optional" "value" "Ljava/lang/Object;" .null) :
    MetFree l (⟨"java/util/Optional", "<init>", "(Ljava/lang/Object;)V"⟩ : MethodName) (head1 (Jvm.Cond.code (⟨"java/util/Optional", "<init>", "(Ljava/lang/Object;)V"⟩ : MethodName) jdk_32_method_2_code 2 none :: ws) ({ frames := 1, cells := 0, slots := 0, locals := 12 } : Room)) (fun args_ U => args_ = #[(.ref a), (.ref x)] ∧ Z.Warmed39 U.vm ∧ U.heap = h0) (fun _ _ _ _ _ => True) (fun _ U o U' => ∃ v L, o = .returned v ∧ Q_own_optinit Z a x h0 n0 v U'.heap L ∧ FrameEnd U o U' L ({ frames := 1, cells := 0, slots := 0, locals := 12 } : Room).cells ({ frames := 1, cells := 0, slots := 0, locals := 12 } : Room).slots) := by
  refine MetFree.of_bodySF (plainFor_of_name own_pn_java_util_Optional) hisR ?_
  intro pP eE sS mM args below meth cC s₁ Bd hml0 hP hK
  obtain ⟨rfl, hZ, hh⟩ := hP
  have hx := Bd.exec
  have hby := Bd.bytes
  have hml : cC.maxLocals = 2 := hml0
  have hown : sS.vm.findClass "java/util/Optional" = some mM.cls := findClass_of_methodNamed Bd.named
  have hnm := (name_of_methodNamed Bd.named Bd.method).1
  have X0 : Stand pP l eE ({ frames := 1, cells := 0, slots := 0, locals := 12 } : Room) sS mM #[(.ref a), (.ref x)] below meth cC s₁ [] 0 0 := Stand.of_body Bd
  have e0 : s₁.heap = h0 := by rw [← hh, Bd.state]; rfl
  have N0 := Fr.nil n0
  show own_Ends pP eE below (own_Got sS (Q_own_optinit Z a x h0 n0) ({ frames := 1, cells := 0, slots := 0, locals := 12 } : Room).cells ({ frames := 1, cells := 0, slots := 0, locals := 12 } : Room).slots) (s₁.setTop (entryFrame mM #[(.ref a), (.ref x)] 2))
  rw [own_ef_own_optinit mM a x]
  refine own_go (fun _ k => XS.aloadN X0.here hx rfl (hb hby own_d7_0) rfl rfl k) ?_
  show own_Ends _ _ _ _ (s₁.setTop (mkF mM 1 #[.val (.ref a), .val (.ref x)] [(.ref a)]))
  obtain ⟨T1, X1, e1, st1⟩ := initO X0 hx hZ hown (hw _ (List.mem_of_getElem? (i := 41) rfl)) (hw _ (List.mem_of_getElem? (i := 42) rfl)) (hw _ (List.mem_of_getElem? (i := 43) rfl)) e0 (g := (mkF mM 1 #[.val (.ref a), .val (.ref x)] [(.ref a)])) rfl (by rw [hml]; rfl) rfl (hb hby own_d7_1) (by decide) (W := 0) (by show 2 * 0 + _ ≤ _; exact Nat.le_of_eq rfl) (by decide)
  refine own_go st1 ?_
  show own_Ends _ _ _ _ (T1.setTop (mkF mM 4 #[.val (.ref a), .val (.ref x)] []))
  refine own_go (fun _ k => XS.aloadN X1.here hx rfl (hb hby own_d7_4) rfl rfl k) ?_
  show own_Ends _ _ _ _ (T1.setTop (mkF mM 5 #[.val (.ref a), .val (.ref x)] [(.ref a)]))
  refine own_go (fun _ k => XS.aloadN X1.here hx rfl (hb hby own_d7_5) rfl rfl k) ?_
  show own_Ends _ _ _ _ (T1.setTop (mkF mM 6 #[.val (.ref a), .val (.ref x)] [(.ref x), (.ref a)]))
  obtain ⟨T2, h2, X2, e2, W2, st2⟩ := putF X1 hx hZ hown (host := "") (Or.inl (hw _ (List.mem_of_getElem? (i := 23) rfl))) Via.refl e1 F E (Or.inr ⟨(hw _ (List.mem_of_getElem? (i := 24) rfl)), rfl, hnm⟩) (hw _ (List.mem_of_getElem? (i := 32) rfl)) (ty := (.object "java/lang/Object")) (by decide) rfl rfl (g := (mkF mM 6 #[.val (.ref a), .val (.ref x)] [(.ref x), (.ref a)])) rfl rfl (hb hby own_d7_6)
  have Fw2 := F.same W2
  have O2 := O0.wr W2 g_a
  have K2 := (Keep.refl h0 [a]).wr W2 (Or.inl (List.mem_of_getElem? (i := 0) rfl))
  have N2 := Fr.snoc X2 N0 g_a
  refine own_go st2 ?_
  show own_Ends _ _ _ _ (T2.setTop (mkF mM 9 #[.val (.ref a), .val (.ref x)] []))
  exact own_retV X2 hx (BodyLoose.notSynchronized Bd) (st := []) Bd.returns (hb hby own_d7_9) (by decide) (by decide) (by rw [e2]; exact ⟨rfl, N2, K2, (E.wr W2), Fw2⟩)
theorem own_pd0 : parseMethodDescriptor "(Ljava/lang/Object;)Ljava/lang/Object;" = some ⟨[(.object "java/lang/Object")], some (.object "java/lang/Object")⟩ := by decide +kernel
theorem own_pd1 : parseMethodDescriptor "(Ljava/lang/Object;)V" = some ⟨[(.object "java/lang/Object")], none⟩ := by decide +kernel
theorem own_d5_0 : decode jdk_32_method_3_code 0 = .ok (.new 2, 3) := by decide +kernel
theorem own_d5_3 : decode jdk_32_method_3_code 3 = .ok (.dup, 1) := by decide +kernel
theorem own_d5_4 : decode jdk_32_method_3_code 4 = .ok (.aload_n 0, 1) := by decide +kernel
theorem own_d5_5 : decode jdk_32_method_3_code 5 = .ok (.invokestatic 17, 3) := by decide +kernel
theorem own_d5_8 : decode jdk_32_method_3_code 8 = .ok (.invokespecial 23, 3) := by decide +kernel
theorem own_d5_11 : decode jdk_32_method_3_code 11 = .ok (.areturn, 1) := by decide +kernel
theorem own_ef_own_of (m : MethodId) (x0 : Addr) : entryFrame m #[(.ref x0)] 1 = mkF m 0 #[.val (.ref x0)] [] := by first | (simp [entryFrame, mkF, argsToLocals, Value.category]; done) | rfl
def Q_own_of (Z : State) (x : Addr) (h0 : Heap) (n0 : Nat) (v : Option Value) (h : Heap) (L : List Loc) : Prop := ∃ b : Addr, v = some (.ref b) ∧ Fr n0 L ∧ n0 ≤ b ∧ Keep h0 h [] ∧ Exa Z h b "java/util/Optional" ∧ Fld Z h b "java/util/Optional" "value" "Ljava/lang/Object;" (.ref x)
set_option maxRecDepth 65536 in
set_option maxHeartbeats 40000000 in
theorem own_of (l : Launch) (Z : State) (a0 : Array Value) (hw : ∀ d ∈ tables_1, d.before a0 Z = true) (ws : List Jvm.Cond) (x : Addr) (h0 : Heap) (n0 : Nat) (O0 : Old Z n0 h0) :
    MetFree l (⟨"java/util/Optional", "of", "(Ljava/lang/Object;)Ljava/util/Optional;"⟩ : MethodName) (head1 (Jvm.Cond.code (⟨"java/util/Optional", "of", "(Ljava/lang/Object;)Ljava/util/Optional;"⟩ : MethodName) jdk_32_method_3_code 1 (some (.object "java/util/Optional")) :: ws) ({ frames := 2, cells := 1, slots := 1, locals := 26 } : Room)) (fun args_ U => args_ = #[(.ref x)] ∧ Z.Warmed39 U.vm ∧ U.heap = h0) (fun _ _ _ _ _ => True) (fun _ U o U' => ∃ v L, o = .returned v ∧ Q_own_of Z x h0 n0 v U'.heap L ∧ FrameEnd U o U' L ({ frames := 2, cells := 1, slots := 1, locals := 26 } : Room).cells ({ frames := 2, cells := 1, slots := 1, locals := 26 } : Room).slots) := by
  refine MetFree.of_bodySF (plainFor_of_name own_pn_java_util_Optional) hisR ?_
  intro pP eE sS mM args below meth cC s₁ Bd hml0 hP hK
  obtain ⟨rfl, hZ, hh⟩ := hP
  have hx := Bd.exec
  have hby := Bd.bytes
  have hml : cC.maxLocals = 1 := hml0
  have hown : sS.vm.findClass "java/util/Optional" = some mM.cls := findClass_of_methodNamed Bd.named
  have hnm := (name_of_methodNamed Bd.named Bd.method).1
  have X0 : Stand pP l eE ({ frames := 2, cells := 1, slots := 1, locals := 26 } : Room) sS mM #[(.ref x)] below meth cC s₁ [] 0 0 := Stand.of_body Bd
  have e0 : s₁.heap = h0 := by rw [← hh, Bd.state]; rfl
  have N0 := Fr.nil n0
  show own_Ends pP eE below (own_Got sS (Q_own_of Z x h0 n0) ({ frames := 2, cells := 1, slots := 1, locals := 26 } : Room).cells ({ frames := 2, cells := 1, slots := 1, locals := 26 } : Room).slots) (s₁.setTop (entryFrame mM #[(.ref x)] 1))
  rw [own_ef_own_of mM x]
  obtain ⟨T1, h1, X1, e1, E1, A1, D1, -, st1⟩ := newO X0 hx hZ hown (hw _ (List.mem_of_getElem? (i := 31) rfl)) (hw _ (List.mem_of_getElem? (i := 32) rfl)) (hw _ (List.mem_of_getElem? (i := 15) rfl)) e0 (g := (mkF mM 0 #[.val (.ref x)] [])) rfl (hb hby own_d5_0) (by decide) (by decide)
  obtain ⟨b1, g1⟩ : ∃ z, z = h0.size := ⟨_, rfl⟩
  rw [← g1] at A1 D1 st1
  have O1 := O0.ext E1
  have g_b1 : n0 ≤ b1 := by rw [g1, ← O0.1]; exact O0.2.1
  have sz_b1 : h0.size ≤ b1 := Nat.le_trans (Keep.refl h0 []).1 (Nat.le_of_eq g1.symm)
  have K1 := (Keep.refl h0 []).ext E1
  have E_b1 : Exa Z h1 b1 "java/util/Optional" := A1
  have F_value_b1 : Fld Z h1 b1 "java/util/Optional" "value" "Ljava/lang/Object;" .null := D1 (Or.inr (hw _ (List.mem_of_getElem? (i := 24) rfl))) (ty := (.object "java/lang/Object")) (by decide)
  refine own_go st1 ?_
  show own_Ends _ _ _ _ (T1.setTop (mkF mM 3 #[.val (.ref x)] [(.ref b1)]))
  refine own_go (fun _ k => XS.dup X1.here hx rfl (hb hby own_d5_3) rfl rfl k) ?_
  show own_Ends _ _ _ _ (T1.setTop (mkF mM 4 #[.val (.ref x)] [(.ref b1), (.ref b1)]))
  refine own_go (fun _ k => XS.aloadN X1.here hx rfl (hb hby own_d5_4) rfl rfl k) ?_
  show own_Ends _ _ _ _ (T1.setTop (mkF mM 5 #[.val (.ref x)] [(.ref x), (.ref b1), (.ref b1)]))
  obtain ⟨_, _, ⟨T2, Lz2, kz2, nz2⟩, -, X2, ⟨Lc2, hQ2, l2, y2, z2⟩, st2⟩ := Jvm.LawKit.callS X1 hx (y := (⟨"java/util/Objects", "requireNonNull", "(Ljava/lang/Object;)Ljava/lang/Object;"⟩ : MethodName)) hown (mvT hZ (hw _ (List.mem_of_getElem? (i := 33) rfl))) (mvT hZ (hw _ (List.mem_of_getElem? (i := 34) rfl))) (mvT hZ (hw _ (List.mem_of_getElem? (i := 35) rfl))) (mvT hZ (hw _ (List.mem_of_getElem? (i := 36) rfl))) (by decide) (backOf (W := 2) (own_nonnull l Z a0 hw [] x h1 n0 O1) hZ (hw _ (List.mem_of_getElem? (i := 36) rfl)) (hw _ (List.mem_of_getElem? (i := 35) rfl)) (by decide) (by decide)) (g := (mkF mM 5 #[.val (.ref x)] [(.ref x), (.ref b1), (.ref b1)])) rfl (by rw [hml]; rfl) (argsL := [(.ref x)]) (rest := [(.ref b1), (.ref b1)]) (lenOf own_pd0 rfl) rfl (by show 2 * 0 + _ ≤ _; exact Nat.le_of_eq rfl) (hb hby own_d5_5) (fun _ _ => ⟨rfl, e1, (by decide : 1 + 0 ≤ _), (by decide : 1 + 0 ≤ _)⟩)
  dsimp only [Pt.U, Pt.locs, Pt.cells, Pt.slots] at X2 l2 y2 z2 st2 hQ2
  subst l2 y2 z2
  obtain ⟨rfl, Nq2, e2⟩ := hQ2
  have N2 := Fr.app N0 Nq2
  refine own_go st2 ?_
  show own_Ends _ _ _ _ (T2.setTop (mkF mM 8 #[.val (.ref x)] [(.ref x), (.ref b1), (.ref b1)]))
  obtain ⟨_, _, ⟨T3, Lz3, kz3, nz3⟩, -, X3, ⟨Lc3, hQ3, l3, y3, z3⟩, st3⟩ := X2.specialBack hx (y := (⟨"java/util/Optional", "<init>", "(Ljava/lang/Object;)V"⟩ : MethodName)) rfl hown (mvT hZ (hw _ (List.mem_of_getElem? (i := 37) rfl))) (mvT hZ (hw _ (List.mem_of_getElem? (i := 38) rfl))) (mvT hZ (hw _ (List.mem_of_getElem? (i := 40) rfl))) (by decide) (backOf (W := 1) (own_optinit l Z a0 hw [] b1 x h1 n0 O1 g_b1 E_b1 F_value_b1) hZ (hw _ (List.mem_of_getElem? (i := 40) rfl)) (hw _ (List.mem_of_getElem? (i := 15) rfl)) (by decide) (by decide)) (g := (mkF mM 8 #[.val (.ref x)] [(.ref x), (.ref b1), (.ref b1)])) rfl (by rw [hml]; rfl) (Steps.refl _) (a := b1) (argsL := [(.ref x)]) (rest := [(.ref b1)]) (lenOf own_pd1 rfl) rfl (by show 2 * 0 + _ ≤ _; exact Nat.le_of_eq rfl) (hb hby own_d5_8) (fun _ _ => ⟨rfl, e2, (by decide : 1 + 0 ≤ _), (by decide : 1 + 0 ≤ _)⟩)
  dsimp only [Pt.U, Pt.locs, Pt.cells, Pt.slots] at X3 l3 y3 z3 st3 hQ3
  subst l3 y3 z3
  obtain ⟨rfl, Nq3, K3, E_b1_3, F_b1_3⟩ := hQ3
  have N3 := Fr.app N2 Nq3
  have O3 := O1.keep K3 (allS g_b1 all0)
  have Kk3 := K1.trans K3 (allS (Or.inr sz_b1) (all0))
  refine own_tr st3 ?_
  show own_Ends _ _ _ _ (T3.setTop (mkF mM 11 #[.val (.ref x)] [(.ref b1)]))
  exact own_retR X3 hx (BodyLoose.notSynchronized Bd) Bd.returns rfl rfl (hb hby own_d5_11) (by decide) (by decide) (⟨b1, rfl, N3, g_b1, Kk3, E_b1_3, F_b1_3⟩)
theorem own_d2_0 : decode prog_24_method_6_code 0 = .ok (.iload_n 1, 1) := by decide +kernel
theorem own_d2_1 : decode prog_24_method_6_code 1 = .ok (.aload_n 0, 1) := by decide +kernel
theorem own_d2_2 : decode prog_24_method_6_code 2 = .ok (.getfield 39, 3) := by decide +kernel
theorem own_d2_5 : decode prog_24_method_6_code 5 = .ok (.if_icmp .le 7, 3) := by decide +kernel
theorem own_d2_8 : decode prog_24_method_6_code 8 = .ok (.iconst 1, 1) := by decide +kernel
theorem own_d2_9 : decode prog_24_method_6_code 9 = .ok (.goto 4, 3) := by decide +kernel
theorem own_d2_12 : decode prog_24_method_6_code 12 = .ok (.iconst 0, 1) := by decide +kernel
theorem own_d2_13 : decode prog_24_method_6_code 13 = .ok (.ireturn, 1) := by decide +kernel
theorem own_ef_own_exceeded (m : MethodId) (x0 : Addr) (x1 : Int32) : entryFrame m #[(.ref x0), (.int x1)] 2 = mkF m 0 #[.val (.ref x0), .val (.int x1)] [] := by first | (simp [entryFrame, mkF, argsToLocals, Value.category]; done) | rfl
def Q_own_exceeded (Z : State) (a : Addr) (p : Int32) (b : Int32) (r : Int32) (h0 : Heap) (n0 : Nat) (v : Option Value) (h : Heap) (L : List Loc) : Prop := v = some (.int r) ∧ Fr n0 L ∧ h = h0
theorem own_pn_com_example_warmline_warmline_core_Limit : plainName "com/example/warmline/warmline/core/Limit" = true := by first | (simp [plainName, overriddenIn]; done) | decide +kernel
set_option maxRecDepth 65536 in
set_option maxHeartbeats 40000000 in
theorem own_exceeded (l : Launch) (Z : State) (a0 : Array Value) (hw : ∀ d ∈ tables_1, d.before a0 Z = true) (ws : List Jvm.Cond) (a : Addr) (p : Int32) (b : Int32) (r : Int32) (h0 : Heap) (n0 : Nat) (O0 : Old Z n0 h0) (F : Fld Z Z.heap a "com/example/warmline/warmline/core/Limit" "bytes" "I" (.int b)) (hr : r = if b < p then 1 else 0) :
    MetFree l (⟨"com/example/warmline/warmline/core/Limit", "isExceededBy", "(I)Z"⟩ : MethodName) (head1 (Jvm.Cond.code (⟨"com/example/warmline/warmline/core/Limit", "isExceededBy", "(I)Z"⟩ : MethodName) prog_24_method_6_code 2 (some .boolean) :: ws) ({ frames := 0, cells := 0, slots := 0, locals := 0 } : Room)) (fun args_ U => args_ = #[(.ref a), (.int p)] ∧ Z.Warmed39 U.vm ∧ U.heap = h0) (fun _ _ _ _ _ => True) (fun _ U o U' => ∃ v L, o = .returned v ∧ Q_own_exceeded Z a p b r h0 n0 v U'.heap L ∧ FrameEnd U o U' L ({ frames := 0, cells := 0, slots := 0, locals := 0 } : Room).cells ({ frames := 0, cells := 0, slots := 0, locals := 0 } : Room).slots) := by
  refine MetFree.of_bodySF (plainFor_of_name own_pn_com_example_warmline_warmline_core_Limit) hisR ?_
  intro pP eE sS mM args below meth cC s₁ Bd hml0 hP hK
  obtain ⟨rfl, hZ, hh⟩ := hP
  have hx := Bd.exec
  have hby := Bd.bytes
  have hml : cC.maxLocals = 2 := hml0
  have hown : sS.vm.findClass "com/example/warmline/warmline/core/Limit" = some mM.cls := findClass_of_methodNamed Bd.named
  have hnm := (name_of_methodNamed Bd.named Bd.method).1
  have X0 : Stand pP l eE ({ frames := 0, cells := 0, slots := 0, locals := 0 } : Room) sS mM #[(.ref a), (.int p)] below meth cC s₁ [] 0 0 := Stand.of_body Bd
  have e0 : s₁.heap = h0 := by rw [← hh, Bd.state]; rfl
  have N0 := Fr.nil n0
  show own_Ends pP eE below (own_Got sS (Q_own_exceeded Z a p b r h0 n0) ({ frames := 0, cells := 0, slots := 0, locals := 0 } : Room).cells ({ frames := 0, cells := 0, slots := 0, locals := 0 } : Room).slots) (s₁.setTop (entryFrame mM #[(.ref a), (.int p)] 2))
  rw [own_ef_own_exceeded mM a p]
  refine own_go (fun _ k => XS.iloadN X0.here hx rfl (hb hby own_d2_0) rfl k) ?_
  show own_Ends _ _ _ _ (s₁.setTop (mkF mM 1 #[.val (.ref a), .val (.int p)] [(.int p)]))
  refine own_go (fun _ k => XS.aloadN X0.here hx rfl (hb hby own_d2_1) rfl rfl k) ?_
  show own_Ends _ _ _ _ (s₁.setTop (mkF mM 2 #[.val (.ref a), .val (.int p)] [(.ref a), (.int p)]))
  obtain ⟨T1, X1, e1, st1⟩ := getF X0 hx hZ hown (host := "") (Or.inl (hw _ (List.mem_of_getElem? (i := 11) rfl))) Via.refl e0 (F.ext O0.2) (g := (mkF mM 2 #[.val (.ref a), .val (.int p)] [(.ref a), (.int p)])) rfl rfl (hb hby own_d2_2)
  refine own_go st1 ?_
  show own_Ends _ _ _ _ (T1.setTop (mkF mM 5 #[.val (.ref a), .val (.int p)] [(.int b), (.int p)]))
  by_cases hc5_1 : b < p
  · refine own_go (fun _ k => XS.icmpNo X1.here hx rfl (hb hby own_d2_5) rfl (tlt hc5_1).2.2.2 k) ?_
    show own_Ends _ _ _ _ (T1.setTop (mkF mM 8 #[.val (.ref a), .val (.int p)] []))
    refine own_go (fun _ k => XS.iconst X1.here hx rfl (hb hby own_d2_8) k) ?_
    show own_Ends _ _ _ _ (T1.setTop (mkF mM 9 #[.val (.ref a), .val (.int p)] [(.int (1 : Int32))]))
    refine own_go (fun _ k => XS.goto X1.here hx rfl (pc0 := 9) (pc' := 13) rfl (hb hby own_d2_9) (by decide) (by decide) k) ?_
    show own_Ends _ _ _ _ (T1.setTop (mkF mM 13 #[.val (.ref a), .val (.int p)] [(.int (1 : Int32))]))
    exact own_retZ X1 hx (BodyLoose.notSynchronized Bd) Bd.returns rfl (hb hby own_d2_13) (by decide) (by decide) (by rw [e1]; exact ⟨by rw [hr, if_pos hc5_1], N0, rfl⟩)
  · refine own_go (fun _ k => XS.icmpYes X1.here hx rfl (pc0 := 5) (pc' := 12) rfl (hb hby own_d2_5) rfl (flt hc5_1).2.2.2 (by decide) (by decide) k) ?_
    show own_Ends _ _ _ _ (T1.setTop (mkF mM 12 #[.val (.ref a), .val (.int p)] []))
    refine own_go (fun _ k => XS.iconst X1.here hx rfl (hb hby own_d2_12) k) ?_
    show own_Ends _ _ _ _ (T1.setTop (mkF mM 13 #[.val (.ref a), .val (.int p)] [(.int (0 : Int32))]))
    exact own_retZ X1 hx (BodyLoose.notSynchronized Bd) Bd.returns rfl (hb hby own_d2_13) (by decide) (by decide) (by rw [e1]; exact ⟨by rw [hr, if_neg hc5_1], N0, rfl⟩)
theorem own_pd2 : parseMethodDescriptor "(I)Z" = some ⟨[.int], some .boolean⟩ := by decide +kernel
theorem own_pd3 : parseMethodDescriptor "(Ljava/lang/Object;)Ljava/util/Optional;" = some ⟨[(.object "java/lang/Object")], some (.object "java/util/Optional")⟩ := by decide +kernel
theorem own_d1_0 : decode prog_24_method_7_code 0 = .ok (.getstatic 13, 3) := by decide +kernel
theorem own_d1_3 : decode prog_24_method_7_code 3 = .ok (.iload_n 0, 1) := by decide +kernel
theorem own_d1_4 : decode prog_24_method_7_code 4 = .ok (.invokevirtual 43, 3) := by decide +kernel
theorem own_d1_7 : decode prog_24_method_7_code 7 = .ok (.ifCond .eq 13, 3) := by decide +kernel
theorem own_d1_10 : decode prog_24_method_7_code 10 = .ok (.getstatic 13, 3) := by decide +kernel
theorem own_d1_13 : decode prog_24_method_7_code 13 = .ok (.invokestatic 47, 3) := by decide +kernel
theorem own_d1_16 : decode prog_24_method_7_code 16 = .ok (.astore_n 2, 1) := by decide +kernel
theorem own_d1_17 : decode prog_24_method_7_code 17 = .ok (.goto 31, 3) := by decide +kernel
theorem own_d1_48 : decode prog_24_method_7_code 48 = .ok (.aload_n 2, 1) := by decide +kernel
theorem own_d1_49 : decode prog_24_method_7_code 49 = .ok (.areturn, 1) := by decide +kernel
theorem own_ef_own_lgHuge (m : MethodId) (x0 : Int32) (x1 : Int32) : entryFrame m #[(.int x0), (.int x1)] 3 = mkF m 0 #[.val (.int x0), .val (.int x1), .unset] [] := by first | (simp [entryFrame, mkF, argsToLocals, Value.category]; done) | rfl
def Q_own_lgHuge (Z : State) (n1 : Int32) (sg : Int32) (a_EMPTY : Addr) (a_HUGE_METHOD_LIMIT : Addr) (a_FREQ_INLINE_SIZE : Addr) (h0 : Heap) (n0 : Nat) (v : Option Value) (h : Heap) (L : List Loc) : Prop := ∃ b : Addr, v = some (.ref b) ∧ Fr n0 L ∧ n0 ≤ b ∧ Keep h0 h [] ∧ Exa Z h b "java/util/Optional" ∧ Fld Z h b "java/util/Optional" "value" "Ljava/lang/Object;" (.ref a_HUGE_METHOD_LIMIT)
set_option maxRecDepth 65536 in
set_option maxHeartbeats 40000000 in
theorem own_lgHuge (l : Launch) (Z : State) (a0 : Array Value) (hw : ∀ d ∈ tables_1, d.before a0 Z = true) (ws : List Jvm.Cond) (n1 : Int32) (sg : Int32) (a_EMPTY : Addr) (a_HUGE_METHOD_LIMIT : Addr) (a_FREQ_INLINE_SIZE : Addr) (h0 : Heap) (n0 : Nat) (O0 : Old Z n0 h0) (S_HUGE_METHOD_LIMIT : Sta Z Z.heap "com/example/warmline/warmline/core/Limit" "HUGE_METHOD_LIMIT" "Lcom/example/warmline/warmline/core/Limit;" (.ref a_HUGE_METHOD_LIMIT)) (E_HUGE_METHOD_LIMIT : Exa Z Z.heap a_HUGE_METHOD_LIMIT "com/example/warmline/warmline/core/Limit") (F_HUGE_METHOD_LIMIT_bytes : Fld Z Z.heap a_HUGE_METHOD_LIMIT "com/example/warmline/warmline/core/Limit" "bytes" "I" (.int (8000 : Int32))) (S_FREQ_INLINE_SIZE : Sta Z Z.heap "com/example/warmline/warmline/core/Limit" "FREQ_INLINE_SIZE" "Lcom/example/warmline/warmline/core/Limit;" (.ref a_FREQ_INLINE_SIZE)) (E_FREQ_INLINE_SIZE : Exa Z Z.heap a_FREQ_INLINE_SIZE "com/example/warmline/warmline/core/Limit") (F_FREQ_INLINE_SIZE_bytes : Fld Z Z.heap a_FREQ_INLINE_SIZE "com/example/warmline/warmline/core/Limit" "bytes" "I" (.int (325 : Int32))) (S_EMPTY : Sta Z Z.heap "java/util/Optional" "EMPTY" "Ljava/util/Optional;" (.ref a_EMPTY)) (hb8 : (8000 : Int32) < n1) :
    MetFree l (⟨"com/example/warmline/warmline/core/Limit", "largestGuarded", "(IZ)Ljava/util/Optional;"⟩ : MethodName) (head1 (Jvm.Cond.code (⟨"com/example/warmline/warmline/core/Limit", "largestGuarded", "(IZ)Ljava/util/Optional;"⟩ : MethodName) prog_24_method_7_code 3 (some (.object "java/util/Optional")) :: ws) ({ frames := 3, cells := 1, slots := 1, locals := 38 } : Room)) (fun args_ U => args_ = #[(.int n1), (.int sg)] ∧ Z.Warmed39 U.vm ∧ U.heap = h0) (fun _ _ _ _ _ => True) (fun _ U o U' => ∃ v L, o = .returned v ∧ Q_own_lgHuge Z n1 sg a_EMPTY a_HUGE_METHOD_LIMIT a_FREQ_INLINE_SIZE h0 n0 v U'.heap L ∧ FrameEnd U o U' L ({ frames := 3, cells := 1, slots := 1, locals := 38 } : Room).cells ({ frames := 3, cells := 1, slots := 1, locals := 38 } : Room).slots) := by
  refine MetFree.of_bodySF (plainFor_of_name own_pn_com_example_warmline_warmline_core_Limit) hisR ?_
  intro pP eE sS mM args below meth cC s₁ Bd hml0 hP hK
  obtain ⟨rfl, hZ, hh⟩ := hP
  have hx := Bd.exec
  have hby := Bd.bytes
  have hml : cC.maxLocals = 3 := hml0
  have hown : sS.vm.findClass "com/example/warmline/warmline/core/Limit" = some mM.cls := findClass_of_methodNamed Bd.named
  have hnm := (name_of_methodNamed Bd.named Bd.method).1
  have X0 : Stand pP l eE ({ frames := 3, cells := 1, slots := 1, locals := 38 } : Room) sS mM #[(.int n1), (.int sg)] below meth cC s₁ [] 0 0 := Stand.of_body Bd
  have e0 : s₁.heap = h0 := by rw [← hh, Bd.state]; rfl
  have N0 := Fr.nil n0
  show own_Ends pP eE below (own_Got sS (Q_own_lgHuge Z n1 sg a_EMPTY a_HUGE_METHOD_LIMIT a_FREQ_INLINE_SIZE h0 n0) ({ frames := 3, cells := 1, slots := 1, locals := 38 } : Room).cells ({ frames := 3, cells := 1, slots := 1, locals := 38 } : Room).slots) (s₁.setTop (entryFrame mM #[(.int n1), (.int sg)] 3))
  rw [own_ef_own_lgHuge mM n1 sg]
  obtain ⟨T1, X1, e1, st1⟩ := getS2 X0 hx hZ hown (host := "") (Or.inl (hw _ (List.mem_of_getElem? (i := 4) rfl))) Via.refl e0 (S_HUGE_METHOD_LIMIT.ext O0.2) (g := (mkF mM 0 #[.val (.int n1), .val (.int sg), .unset] [])) rfl (hb hby own_d1_0)
  refine own_go st1 ?_
  show own_Ends _ _ _ _ (T1.setTop (mkF mM 3 #[.val (.int n1), .val (.int sg), .unset] [(.ref a_HUGE_METHOD_LIMIT)]))
  refine own_go (fun _ k => XS.iloadN X1.here hx rfl (hb hby own_d1_3) rfl k) ?_
  show own_Ends _ _ _ _ (T1.setTop (mkF mM 4 #[.val (.int n1), .val (.int sg), .unset] [(.int n1), (.ref a_HUGE_METHOD_LIMIT)]))
  obtain ⟨cq2, kq2, q2a, q2b, q2c⟩ := isOf hZ e1 (E_HUGE_METHOD_LIMIT.ext O0.2)
  obtain ⟨_, _, ⟨T2, Lz2, kz2, nz2⟩, -, X2, ⟨Lc2, hQ2, l2, y2, z2⟩, st2⟩ := X1.virtualBack hx (y := (⟨"com/example/warmline/warmline/core/Limit", "isExceededBy", "(I)Z"⟩ : MethodName)) (z := (⟨"com/example/warmline/warmline/core/Limit", "isExceededBy", "(I)Z"⟩ : MethodName)) hown (mvT hZ (hw _ (List.mem_of_getElem? (i := 6) rfl))) (mvT hZ (hw _ (List.mem_of_getElem? (i := 7) rfl))) (notFace_of_selects (args := #[]) (mvT hZ (hw _ (List.mem_of_getElem? (i := 9) rfl)))) (mvT hZ (hw _ (List.mem_of_getElem? (i := 9) rfl))) (mvT hZ (hw _ (List.mem_of_getElem? (i := 8) rfl))) (by decide) (backOf (W := 0) (own_exceeded l Z a0 hw [] a_HUGE_METHOD_LIMIT n1 (8000 : Int32) (1 : Int32) h0 n0 O0 F_HUGE_METHOD_LIMIT_bytes (by rw [if_pos hb8])) hZ (hw _ (List.mem_of_getElem? (i := 10) rfl)) (hw _ (List.mem_of_getElem? (i := 2) rfl)) (by decide) (by decide)) q2a q2c (g := (mkF mM 4 #[.val (.int n1), .val (.int sg), .unset] [(.int n1), (.ref a_HUGE_METHOD_LIMIT)])) rfl (by rw [hml]; rfl) (Steps.refl _) (argsL := [(.int n1)]) (rest := []) (lenOf own_pd2 rfl) rfl (by show 2 * 0 + _ ≤ _; exact Nat.le_of_eq rfl) (hb hby own_d1_4) (fun _ _ => ⟨rfl, e1, (by decide : 0 + 0 ≤ _), (by decide : 0 + 0 ≤ _)⟩)
  dsimp only [Pt.U, Pt.locs, Pt.cells, Pt.slots] at X2 l2 y2 z2 st2 hQ2
  subst l2 y2 z2
  obtain ⟨rfl, Nq2, e2⟩ := hQ2
  have N2 := Fr.app N0 Nq2
  refine own_tr st2 ?_
  show own_Ends _ _ _ _ (T2.setTop (mkF mM 7 #[.val (.int n1), .val (.int sg), .unset] [(.int (1 : Int32))]))
  refine own_go (fun _ k => XS.ifNo X2.here hx rfl (hb hby own_d1_7) rfl ((if0 _ _).trans (feq (by decide : ¬ ((1 : Int32) = (0 : Int32)))).1) k) ?_
  show own_Ends _ _ _ _ (T2.setTop (mkF mM 10 #[.val (.int n1), .val (.int sg), .unset] []))
  obtain ⟨T3, X3, e3, st3⟩ := getS2 X2 hx hZ hown (host := "") (Or.inl (hw _ (List.mem_of_getElem? (i := 4) rfl))) Via.refl e2 (S_HUGE_METHOD_LIMIT.ext O0.2) (g := (mkF mM 10 #[.val (.int n1), .val (.int sg), .unset] [])) rfl (hb hby own_d1_10)
  refine own_go st3 ?_
  show own_Ends _ _ _ _ (T3.setTop (mkF mM 13 #[.val (.int n1), .val (.int sg), .unset] [(.ref a_HUGE_METHOD_LIMIT)]))
  obtain ⟨_, _, ⟨T4, Lz4, kz4, nz4⟩, -, X4, ⟨Lc4, hQ4, l4, y4, z4⟩, st4⟩ := Jvm.LawKit.callS X3 hx (y := (⟨"java/util/Optional", "of", "(Ljava/lang/Object;)Ljava/util/Optional;"⟩ : MethodName)) hown (mvT hZ (hw _ (List.mem_of_getElem? (i := 28) rfl))) (mvT hZ (hw _ (List.mem_of_getElem? (i := 29) rfl))) (mvT hZ (hw _ (List.mem_of_getElem? (i := 15) rfl))) (mvT hZ (hw _ (List.mem_of_getElem? (i := 30) rfl))) (by decide) (backOf (W := 0) (own_of l Z a0 hw [] a_HUGE_METHOD_LIMIT h0 n0 O0) hZ (hw _ (List.mem_of_getElem? (i := 30) rfl)) (hw _ (List.mem_of_getElem? (i := 15) rfl)) (by decide) (by decide)) (g := (mkF mM 13 #[.val (.int n1), .val (.int sg), .unset] [(.ref a_HUGE_METHOD_LIMIT)])) rfl (by rw [hml]; rfl) (argsL := [(.ref a_HUGE_METHOD_LIMIT)]) (rest := []) (lenOf own_pd3 rfl) rfl (by show 2 * 0 + _ ≤ _; exact Nat.le_of_eq rfl) (hb hby own_d1_13) (fun _ _ => ⟨rfl, e3, (by decide : 0 + 1 ≤ _), (by decide : 0 + 1 ≤ _)⟩)
  dsimp only [Pt.U, Pt.locs, Pt.cells, Pt.slots] at X4 l4 y4 z4 st4 hQ4
  subst l4 y4 z4
  obtain ⟨c4, rfl, Nq4, g_c4, K4, E_c4, F_c4⟩ := hQ4
  have N4 := Fr.app N2 Nq4
  have O4 := O0.keep K4 all0
  have Kk4 := (Keep.refl h0 []).trans K4 (all0)
  refine own_go st4 ?_
  show own_Ends _ _ _ _ (T4.setTop (mkF mM 16 #[.val (.int n1), .val (.int sg), .unset] [(.ref c4)]))
  refine own_go (fun _ k => XS.astoreN X4.here hx rfl (hb hby own_d1_16) rfl rfl (l' := #[.val (.int n1), .val (.int sg), .val (.ref c4)]) rfl k) ?_
  show own_Ends _ _ _ _ (T4.setTop (mkF mM 17 #[.val (.int n1), .val (.int sg), .val (.ref c4)] []))
  refine own_go (fun _ k => XS.goto X4.here hx rfl (pc0 := 17) (pc' := 48) rfl (hb hby own_d1_17) (by decide) (by decide) k) ?_
  show own_Ends _ _ _ _ (T4.setTop (mkF mM 48 #[.val (.int n1), .val (.int sg), .val (.ref c4)] []))
  refine own_go (fun _ k => XS.aloadN X4.here hx rfl (hb hby own_d1_48) rfl rfl k) ?_
  show own_Ends _ _ _ _ (T4.setTop (mkF mM 49 #[.val (.int n1), .val (.int sg), .val (.ref c4)] [(.ref c4)]))
  exact own_retR X4 hx (BodyLoose.notSynchronized Bd) Bd.returns rfl rfl (hb hby own_d1_49) (by decide) (by decide) (⟨c4, rfl, N4, g_c4, Kk4, E_c4, F_c4⟩)
theorem own_d1_20 : decode prog_24_method_7_code 20 = .ok (.iload_n 1, 1) := by decide +kernel
theorem own_d1_21 : decode prog_24_method_7_code 21 = .ok (.ifCond .ne 23, 3) := by decide +kernel
theorem own_d1_24 : decode prog_24_method_7_code 24 = .ok (.getstatic 7, 3) := by decide +kernel
theorem own_d1_27 : decode prog_24_method_7_code 27 = .ok (.iload_n 0, 1) := by decide +kernel
theorem own_d1_28 : decode prog_24_method_7_code 28 = .ok (.invokevirtual 43, 3) := by decide +kernel
theorem own_d1_31 : decode prog_24_method_7_code 31 = .ok (.ifCond .eq 13, 3) := by decide +kernel
theorem own_d1_34 : decode prog_24_method_7_code 34 = .ok (.getstatic 7, 3) := by decide +kernel
theorem own_d1_37 : decode prog_24_method_7_code 37 = .ok (.invokestatic 47, 3) := by decide +kernel
theorem own_d1_40 : decode prog_24_method_7_code 40 = .ok (.astore_n 2, 1) := by decide +kernel
theorem own_d1_41 : decode prog_24_method_7_code 41 = .ok (.goto 7, 3) := by decide +kernel
theorem own_ef_own_lgFreq (m : MethodId) (x0 : Int32) (x1 : Int32) : entryFrame m #[(.int x0), (.int x1)] 3 = mkF m 0 #[.val (.int x0), .val (.int x1), .unset] [] := by first | (simp [entryFrame, mkF, argsToLocals, Value.category]; done) | rfl
def Q_own_lgFreq (Z : State) (n1 : Int32) (sg : Int32) (a_EMPTY : Addr) (a_HUGE_METHOD_LIMIT : Addr) (a_FREQ_INLINE_SIZE : Addr) (h0 : Heap) (n0 : Nat) (v : Option Value) (h : Heap) (L : List Loc) : Prop := ∃ b : Addr, v = some (.ref b) ∧ Fr n0 L ∧ n0 ≤ b ∧ Keep h0 h [] ∧ Exa Z h b "java/util/Optional" ∧ Fld Z h b "java/util/Optional" "value" "Ljava/lang/Object;" (.ref a_FREQ_INLINE_SIZE)
set_option maxRecDepth 65536 in
set_option maxHeartbeats 40000000 in
theorem own_lgFreq (l : Launch) (Z : State) (a0 : Array Value) (hw : ∀ d ∈ tables_1, d.before a0 Z = true) (ws : List Jvm.Cond) (n1 : Int32) (sg : Int32) (a_EMPTY : Addr) (a_HUGE_METHOD_LIMIT : Addr) (a_FREQ_INLINE_SIZE : Addr) (h0 : Heap) (n0 : Nat) (O0 : Old Z n0 h0) (S_HUGE_METHOD_LIMIT : Sta Z Z.heap "com/example/warmline/warmline/core/Limit" "HUGE_METHOD_LIMIT" "Lcom/example/warmline/warmline/core/Limit;" (.ref a_HUGE_METHOD_LIMIT)) (E_HUGE_METHOD_LIMIT : Exa Z Z.heap a_HUGE_METHOD_LIMIT "com/example/warmline/warmline/core/Limit") (F_HUGE_METHOD_LIMIT_bytes : Fld Z Z.heap a_HUGE_METHOD_LIMIT "com/example/warmline/warmline/core/Limit" "bytes" "I" (.int (8000 : Int32))) (S_FREQ_INLINE_SIZE : Sta Z Z.heap "com/example/warmline/warmline/core/Limit" "FREQ_INLINE_SIZE" "Lcom/example/warmline/warmline/core/Limit;" (.ref a_FREQ_INLINE_SIZE)) (E_FREQ_INLINE_SIZE : Exa Z Z.heap a_FREQ_INLINE_SIZE "com/example/warmline/warmline/core/Limit") (F_FREQ_INLINE_SIZE_bytes : Fld Z Z.heap a_FREQ_INLINE_SIZE "com/example/warmline/warmline/core/Limit" "bytes" "I" (.int (325 : Int32))) (S_EMPTY : Sta Z Z.heap "java/util/Optional" "EMPTY" "Ljava/util/Optional;" (.ref a_EMPTY)) (hb8 : ¬ (8000 : Int32) < n1) (hs : sg = (0 : Int32)) (hb3 : (325 : Int32) < n1) :
    MetFree l (⟨"com/example/warmline/warmline/core/Limit", "largestGuarded", "(IZ)Ljava/util/Optional;"⟩ : MethodName) (head1 (Jvm.Cond.code (⟨"com/example/warmline/warmline/core/Limit", "largestGuarded", "(IZ)Ljava/util/Optional;"⟩ : MethodName) prog_24_method_7_code 3 (some (.object "java/util/Optional")) :: ws) ({ frames := 3, cells := 1, slots := 1, locals := 38 } : Room)) (fun args_ U => args_ = #[(.int n1), (.int sg)] ∧ Z.Warmed39 U.vm ∧ U.heap = h0) (fun _ _ _ _ _ => True) (fun _ U o U' => ∃ v L, o = .returned v ∧ Q_own_lgFreq Z n1 sg a_EMPTY a_HUGE_METHOD_LIMIT a_FREQ_INLINE_SIZE h0 n0 v U'.heap L ∧ FrameEnd U o U' L ({ frames := 3, cells := 1, slots := 1, locals := 38 } : Room).cells ({ frames := 3, cells := 1, slots := 1, locals := 38 } : Room).slots) := by
  refine MetFree.of_bodySF (plainFor_of_name own_pn_com_example_warmline_warmline_core_Limit) hisR ?_
  intro pP eE sS mM args below meth cC s₁ Bd hml0 hP hK
  obtain ⟨rfl, hZ, hh⟩ := hP
  have hx := Bd.exec
  have hby := Bd.bytes
  have hml : cC.maxLocals = 3 := hml0
  have hown : sS.vm.findClass "com/example/warmline/warmline/core/Limit" = some mM.cls := findClass_of_methodNamed Bd.named
  have hnm := (name_of_methodNamed Bd.named Bd.method).1
  have X0 : Stand pP l eE ({ frames := 3, cells := 1, slots := 1, locals := 38 } : Room) sS mM #[(.int n1), (.int sg)] below meth cC s₁ [] 0 0 := Stand.of_body Bd
  have e0 : s₁.heap = h0 := by rw [← hh, Bd.state]; rfl
  have N0 := Fr.nil n0
  show own_Ends pP eE below (own_Got sS (Q_own_lgFreq Z n1 sg a_EMPTY a_HUGE_METHOD_LIMIT a_FREQ_INLINE_SIZE h0 n0) ({ frames := 3, cells := 1, slots := 1, locals := 38 } : Room).cells ({ frames := 3, cells := 1, slots := 1, locals := 38 } : Room).slots) (s₁.setTop (entryFrame mM #[(.int n1), (.int sg)] 3))
  rw [own_ef_own_lgFreq mM n1 sg]
  obtain ⟨T1, X1, e1, st1⟩ := getS2 X0 hx hZ hown (host := "") (Or.inl (hw _ (List.mem_of_getElem? (i := 4) rfl))) Via.refl e0 (S_HUGE_METHOD_LIMIT.ext O0.2) (g := (mkF mM 0 #[.val (.int n1), .val (.int sg), .unset] [])) rfl (hb hby own_d1_0)
  refine own_go st1 ?_
  show own_Ends _ _ _ _ (T1.setTop (mkF mM 3 #[.val (.int n1), .val (.int sg), .unset] [(.ref a_HUGE_METHOD_LIMIT)]))
  refine own_go (fun _ k => XS.iloadN X1.here hx rfl (hb hby own_d1_3) rfl k) ?_
  show own_Ends _ _ _ _ (T1.setTop (mkF mM 4 #[.val (.int n1), .val (.int sg), .unset] [(.int n1), (.ref a_HUGE_METHOD_LIMIT)]))
  obtain ⟨cq2, kq2, q2a, q2b, q2c⟩ := isOf hZ e1 (E_HUGE_METHOD_LIMIT.ext O0.2)
  obtain ⟨_, _, ⟨T2, Lz2, kz2, nz2⟩, -, X2, ⟨Lc2, hQ2, l2, y2, z2⟩, st2⟩ := X1.virtualBack hx (y := (⟨"com/example/warmline/warmline/core/Limit", "isExceededBy", "(I)Z"⟩ : MethodName)) (z := (⟨"com/example/warmline/warmline/core/Limit", "isExceededBy", "(I)Z"⟩ : MethodName)) hown (mvT hZ (hw _ (List.mem_of_getElem? (i := 6) rfl))) (mvT hZ (hw _ (List.mem_of_getElem? (i := 7) rfl))) (notFace_of_selects (args := #[]) (mvT hZ (hw _ (List.mem_of_getElem? (i := 9) rfl)))) (mvT hZ (hw _ (List.mem_of_getElem? (i := 9) rfl))) (mvT hZ (hw _ (List.mem_of_getElem? (i := 8) rfl))) (by decide) (backOf (W := 0) (own_exceeded l Z a0 hw [] a_HUGE_METHOD_LIMIT n1 (8000 : Int32) (0 : Int32) h0 n0 O0 F_HUGE_METHOD_LIMIT_bytes (by rw [if_neg hb8])) hZ (hw _ (List.mem_of_getElem? (i := 10) rfl)) (hw _ (List.mem_of_getElem? (i := 2) rfl)) (by decide) (by decide)) q2a q2c (g := (mkF mM 4 #[.val (.int n1), .val (.int sg), .unset] [(.int n1), (.ref a_HUGE_METHOD_LIMIT)])) rfl (by rw [hml]; rfl) (Steps.refl _) (argsL := [(.int n1)]) (rest := []) (lenOf own_pd2 rfl) rfl (by show 2 * 0 + _ ≤ _; exact Nat.le_of_eq rfl) (hb hby own_d1_4) (fun _ _ => ⟨rfl, e1, (by decide : 0 + 0 ≤ _), (by decide : 0 + 0 ≤ _)⟩)
  dsimp only [Pt.U, Pt.locs, Pt.cells, Pt.slots] at X2 l2 y2 z2 st2 hQ2
  subst l2 y2 z2
  obtain ⟨rfl, Nq2, e2⟩ := hQ2
  have N2 := Fr.app N0 Nq2
  refine own_tr st2 ?_
  show own_Ends _ _ _ _ (T2.setTop (mkF mM 7 #[.val (.int n1), .val (.int sg), .unset] [(.int (0 : Int32))]))
  refine own_go (fun _ k => XS.ifYes X2.here hx rfl (pc0 := 7) (pc' := 20) rfl (hb hby own_d1_7) rfl ((if0 _ _).trans (teq (by decide : (0 : Int32) = (0 : Int32))).1) (by decide) (by decide) k) ?_
  show own_Ends _ _ _ _ (T2.setTop (mkF mM 20 #[.val (.int n1), .val (.int sg), .unset] []))
  refine own_go (fun _ k => XS.iloadN X2.here hx rfl (hb hby own_d1_20) rfl k) ?_
  show own_Ends _ _ _ _ (T2.setTop (mkF mM 21 #[.val (.int n1), .val (.int sg), .unset] [(.int sg)]))
  refine own_go (fun _ k => XS.ifNo X2.here hx rfl (hb hby own_d1_21) rfl ((if0 _ _).trans (teq hs).2) k) ?_
  show own_Ends _ _ _ _ (T2.setTop (mkF mM 24 #[.val (.int n1), .val (.int sg), .unset] []))
  obtain ⟨T3, X3, e3, st3⟩ := getS2 X2 hx hZ hown (host := "") (Or.inl (hw _ (List.mem_of_getElem? (i := 25) rfl))) Via.refl e2 (S_FREQ_INLINE_SIZE.ext O0.2) (g := (mkF mM 24 #[.val (.int n1), .val (.int sg), .unset] [])) rfl (hb hby own_d1_24)
  refine own_go st3 ?_
  show own_Ends _ _ _ _ (T3.setTop (mkF mM 27 #[.val (.int n1), .val (.int sg), .unset] [(.ref a_FREQ_INLINE_SIZE)]))
  refine own_go (fun _ k => XS.iloadN X3.here hx rfl (hb hby own_d1_27) rfl k) ?_
  show own_Ends _ _ _ _ (T3.setTop (mkF mM 28 #[.val (.int n1), .val (.int sg), .unset] [(.int n1), (.ref a_FREQ_INLINE_SIZE)]))
  obtain ⟨cq4, kq4, q4a, q4b, q4c⟩ := isOf hZ e3 (E_FREQ_INLINE_SIZE.ext O0.2)
  obtain ⟨_, _, ⟨T4, Lz4, kz4, nz4⟩, -, X4, ⟨Lc4, hQ4, l4, y4, z4⟩, st4⟩ := X3.virtualBack hx (y := (⟨"com/example/warmline/warmline/core/Limit", "isExceededBy", "(I)Z"⟩ : MethodName)) (z := (⟨"com/example/warmline/warmline/core/Limit", "isExceededBy", "(I)Z"⟩ : MethodName)) hown (mvT hZ (hw _ (List.mem_of_getElem? (i := 6) rfl))) (mvT hZ (hw _ (List.mem_of_getElem? (i := 7) rfl))) (notFace_of_selects (args := #[]) (mvT hZ (hw _ (List.mem_of_getElem? (i := 9) rfl)))) (mvT hZ (hw _ (List.mem_of_getElem? (i := 9) rfl))) (mvT hZ (hw _ (List.mem_of_getElem? (i := 8) rfl))) (by decide) (backOf (W := 0) (own_exceeded l Z a0 hw [] a_FREQ_INLINE_SIZE n1 (325 : Int32) (1 : Int32) h0 n0 O0 F_FREQ_INLINE_SIZE_bytes (by rw [if_pos hb3])) hZ (hw _ (List.mem_of_getElem? (i := 10) rfl)) (hw _ (List.mem_of_getElem? (i := 2) rfl)) (by decide) (by decide)) q4a q4c (g := (mkF mM 28 #[.val (.int n1), .val (.int sg), .unset] [(.int n1), (.ref a_FREQ_INLINE_SIZE)])) rfl (by rw [hml]; rfl) (Steps.refl _) (argsL := [(.int n1)]) (rest := []) (lenOf own_pd2 rfl) rfl (by show 2 * 0 + _ ≤ _; exact Nat.le_of_eq rfl) (hb hby own_d1_28) (fun _ _ => ⟨rfl, e3, (by decide : 0 + 0 ≤ _), (by decide : 0 + 0 ≤ _)⟩)
  dsimp only [Pt.U, Pt.locs, Pt.cells, Pt.slots] at X4 l4 y4 z4 st4 hQ4
  subst l4 y4 z4
  obtain ⟨rfl, Nq4, e4⟩ := hQ4
  have N4 := Fr.app N2 Nq4
  refine own_tr st4 ?_
  show own_Ends _ _ _ _ (T4.setTop (mkF mM 31 #[.val (.int n1), .val (.int sg), .unset] [(.int (1 : Int32))]))
  refine own_go (fun _ k => XS.ifNo X4.here hx rfl (hb hby own_d1_31) rfl ((if0 _ _).trans (feq (by decide : ¬ ((1 : Int32) = (0 : Int32)))).1) k) ?_
  show own_Ends _ _ _ _ (T4.setTop (mkF mM 34 #[.val (.int n1), .val (.int sg), .unset] []))
  obtain ⟨T5, X5, e5, st5⟩ := getS2 X4 hx hZ hown (host := "") (Or.inl (hw _ (List.mem_of_getElem? (i := 25) rfl))) Via.refl e4 (S_FREQ_INLINE_SIZE.ext O0.2) (g := (mkF mM 34 #[.val (.int n1), .val (.int sg), .unset] [])) rfl (hb hby own_d1_34)
  refine own_go st5 ?_
  show own_Ends _ _ _ _ (T5.setTop (mkF mM 37 #[.val (.int n1), .val (.int sg), .unset] [(.ref a_FREQ_INLINE_SIZE)]))
  obtain ⟨_, _, ⟨T6, Lz6, kz6, nz6⟩, -, X6, ⟨Lc6, hQ6, l6, y6, z6⟩, st6⟩ := Jvm.LawKit.callS X5 hx (y := (⟨"java/util/Optional", "of", "(Ljava/lang/Object;)Ljava/util/Optional;"⟩ : MethodName)) hown (mvT hZ (hw _ (List.mem_of_getElem? (i := 28) rfl))) (mvT hZ (hw _ (List.mem_of_getElem? (i := 29) rfl))) (mvT hZ (hw _ (List.mem_of_getElem? (i := 15) rfl))) (mvT hZ (hw _ (List.mem_of_getElem? (i := 30) rfl))) (by decide) (backOf (W := 0) (own_of l Z a0 hw [] a_FREQ_INLINE_SIZE h0 n0 O0) hZ (hw _ (List.mem_of_getElem? (i := 30) rfl)) (hw _ (List.mem_of_getElem? (i := 15) rfl)) (by decide) (by decide)) (g := (mkF mM 37 #[.val (.int n1), .val (.int sg), .unset] [(.ref a_FREQ_INLINE_SIZE)])) rfl (by rw [hml]; rfl) (argsL := [(.ref a_FREQ_INLINE_SIZE)]) (rest := []) (lenOf own_pd3 rfl) rfl (by show 2 * 0 + _ ≤ _; exact Nat.le_of_eq rfl) (hb hby own_d1_37) (fun _ _ => ⟨rfl, e5, (by decide : 0 + 1 ≤ _), (by decide : 0 + 1 ≤ _)⟩)
  dsimp only [Pt.U, Pt.locs, Pt.cells, Pt.slots] at X6 l6 y6 z6 st6 hQ6
  subst l6 y6 z6
  obtain ⟨c6, rfl, Nq6, g_c6, K6, E_c6, F_c6⟩ := hQ6
  have N6 := Fr.app N4 Nq6
  have O6 := O0.keep K6 all0
  have Kk6 := (Keep.refl h0 []).trans K6 (all0)
  refine own_go st6 ?_
  show own_Ends _ _ _ _ (T6.setTop (mkF mM 40 #[.val (.int n1), .val (.int sg), .unset] [(.ref c6)]))
  refine own_go (fun _ k => XS.astoreN X6.here hx rfl (hb hby own_d1_40) rfl rfl (l' := #[.val (.int n1), .val (.int sg), .val (.ref c6)]) rfl k) ?_
  show own_Ends _ _ _ _ (T6.setTop (mkF mM 41 #[.val (.int n1), .val (.int sg), .val (.ref c6)] []))
  refine own_go (fun _ k => XS.goto X6.here hx rfl (pc0 := 41) (pc' := 48) rfl (hb hby own_d1_41) (by decide) (by decide) k) ?_
  show own_Ends _ _ _ _ (T6.setTop (mkF mM 48 #[.val (.int n1), .val (.int sg), .val (.ref c6)] []))
  refine own_go (fun _ k => XS.aloadN X6.here hx rfl (hb hby own_d1_48) rfl rfl k) ?_
  show own_Ends _ _ _ _ (T6.setTop (mkF mM 49 #[.val (.int n1), .val (.int sg), .val (.ref c6)] [(.ref c6)]))
  exact own_retR X6 hx (BodyLoose.notSynchronized Bd) Bd.returns rfl rfl (hb hby own_d1_49) (by decide) (by decide) (⟨c6, rfl, N6, g_c6, Kk6, E_c6, F_c6⟩)
theorem own_pd4 : parseMethodDescriptor "()Ljava/util/Optional;" = some ⟨[], some (.object "java/util/Optional")⟩ := by decide +kernel
theorem own_d1_44 : decode prog_24_method_7_code 44 = .ok (.invokestatic 53, 3) := by decide +kernel
theorem own_d1_47 : decode prog_24_method_7_code 47 = .ok (.astore_n 2, 1) := by decide +kernel
theorem own_ef_own_lgNone (m : MethodId) (x0 : Int32) (x1 : Int32) : entryFrame m #[(.int x0), (.int x1)] 3 = mkF m 0 #[.val (.int x0), .val (.int x1), .unset] [] := by first | (simp [entryFrame, mkF, argsToLocals, Value.category]; done) | rfl
def Q_own_lgNone (Z : State) (n1 : Int32) (sg : Int32) (a_EMPTY : Addr) (a_HUGE_METHOD_LIMIT : Addr) (a_FREQ_INLINE_SIZE : Addr) (h0 : Heap) (n0 : Nat) (v : Option Value) (h : Heap) (L : List Loc) : Prop := v = some (.ref a_EMPTY) ∧ Fr n0 L ∧ h = h0
set_option maxRecDepth 65536 in
set_option maxHeartbeats 40000000 in
theorem own_lgNone (l : Launch) (Z : State) (a0 : Array Value) (hw : ∀ d ∈ tables_1, d.before a0 Z = true) (ws : List Jvm.Cond) (n1 : Int32) (sg : Int32) (a_EMPTY : Addr) (a_HUGE_METHOD_LIMIT : Addr) (a_FREQ_INLINE_SIZE : Addr) (h0 : Heap) (n0 : Nat) (O0 : Old Z n0 h0) (S_HUGE_METHOD_LIMIT : Sta Z Z.heap "com/example/warmline/warmline/core/Limit" "HUGE_METHOD_LIMIT" "Lcom/example/warmline/warmline/core/Limit;" (.ref a_HUGE_METHOD_LIMIT)) (E_HUGE_METHOD_LIMIT : Exa Z Z.heap a_HUGE_METHOD_LIMIT "com/example/warmline/warmline/core/Limit") (F_HUGE_METHOD_LIMIT_bytes : Fld Z Z.heap a_HUGE_METHOD_LIMIT "com/example/warmline/warmline/core/Limit" "bytes" "I" (.int (8000 : Int32))) (S_FREQ_INLINE_SIZE : Sta Z Z.heap "com/example/warmline/warmline/core/Limit" "FREQ_INLINE_SIZE" "Lcom/example/warmline/warmline/core/Limit;" (.ref a_FREQ_INLINE_SIZE)) (E_FREQ_INLINE_SIZE : Exa Z Z.heap a_FREQ_INLINE_SIZE "com/example/warmline/warmline/core/Limit") (F_FREQ_INLINE_SIZE_bytes : Fld Z Z.heap a_FREQ_INLINE_SIZE "com/example/warmline/warmline/core/Limit" "bytes" "I" (.int (325 : Int32))) (S_EMPTY : Sta Z Z.heap "java/util/Optional" "EMPTY" "Ljava/util/Optional;" (.ref a_EMPTY)) (hb8 : ¬ (8000 : Int32) < n1) (hs : sg = (0 : Int32)) (hb3 : ¬ (325 : Int32) < n1) :
    MetFree l (⟨"com/example/warmline/warmline/core/Limit", "largestGuarded", "(IZ)Ljava/util/Optional;"⟩ : MethodName) (head1 (Jvm.Cond.code (⟨"com/example/warmline/warmline/core/Limit", "largestGuarded", "(IZ)Ljava/util/Optional;"⟩ : MethodName) prog_24_method_7_code 3 (some (.object "java/util/Optional")) :: ws) ({ frames := 1, cells := 0, slots := 0, locals := 13 } : Room)) (fun args_ U => args_ = #[(.int n1), (.int sg)] ∧ Z.Warmed39 U.vm ∧ U.heap = h0) (fun _ _ _ _ _ => True) (fun _ U o U' => ∃ v L, o = .returned v ∧ Q_own_lgNone Z n1 sg a_EMPTY a_HUGE_METHOD_LIMIT a_FREQ_INLINE_SIZE h0 n0 v U'.heap L ∧ FrameEnd U o U' L ({ frames := 1, cells := 0, slots := 0, locals := 13 } : Room).cells ({ frames := 1, cells := 0, slots := 0, locals := 13 } : Room).slots) := by
  refine MetFree.of_bodySF (plainFor_of_name own_pn_com_example_warmline_warmline_core_Limit) hisR ?_
  intro pP eE sS mM args below meth cC s₁ Bd hml0 hP hK
  obtain ⟨rfl, hZ, hh⟩ := hP
  have hx := Bd.exec
  have hby := Bd.bytes
  have hml : cC.maxLocals = 3 := hml0
  have hown : sS.vm.findClass "com/example/warmline/warmline/core/Limit" = some mM.cls := findClass_of_methodNamed Bd.named
  have hnm := (name_of_methodNamed Bd.named Bd.method).1
  have X0 : Stand pP l eE ({ frames := 1, cells := 0, slots := 0, locals := 13 } : Room) sS mM #[(.int n1), (.int sg)] below meth cC s₁ [] 0 0 := Stand.of_body Bd
  have e0 : s₁.heap = h0 := by rw [← hh, Bd.state]; rfl
  have N0 := Fr.nil n0
  show own_Ends pP eE below (own_Got sS (Q_own_lgNone Z n1 sg a_EMPTY a_HUGE_METHOD_LIMIT a_FREQ_INLINE_SIZE h0 n0) ({ frames := 1, cells := 0, slots := 0, locals := 13 } : Room).cells ({ frames := 1, cells := 0, slots := 0, locals := 13 } : Room).slots) (s₁.setTop (entryFrame mM #[(.int n1), (.int sg)] 3))
  rw [own_ef_own_lgNone mM n1 sg]
  obtain ⟨T1, X1, e1, st1⟩ := getS2 X0 hx hZ hown (host := "") (Or.inl (hw _ (List.mem_of_getElem? (i := 4) rfl))) Via.refl e0 (S_HUGE_METHOD_LIMIT.ext O0.2) (g := (mkF mM 0 #[.val (.int n1), .val (.int sg), .unset] [])) rfl (hb hby own_d1_0)
  refine own_go st1 ?_
  show own_Ends _ _ _ _ (T1.setTop (mkF mM 3 #[.val (.int n1), .val (.int sg), .unset] [(.ref a_HUGE_METHOD_LIMIT)]))
  refine own_go (fun _ k => XS.iloadN X1.here hx rfl (hb hby own_d1_3) rfl k) ?_
  show own_Ends _ _ _ _ (T1.setTop (mkF mM 4 #[.val (.int n1), .val (.int sg), .unset] [(.int n1), (.ref a_HUGE_METHOD_LIMIT)]))
  obtain ⟨cq2, kq2, q2a, q2b, q2c⟩ := isOf hZ e1 (E_HUGE_METHOD_LIMIT.ext O0.2)
  obtain ⟨_, _, ⟨T2, Lz2, kz2, nz2⟩, -, X2, ⟨Lc2, hQ2, l2, y2, z2⟩, st2⟩ := X1.virtualBack hx (y := (⟨"com/example/warmline/warmline/core/Limit", "isExceededBy", "(I)Z"⟩ : MethodName)) (z := (⟨"com/example/warmline/warmline/core/Limit", "isExceededBy", "(I)Z"⟩ : MethodName)) hown (mvT hZ (hw _ (List.mem_of_getElem? (i := 6) rfl))) (mvT hZ (hw _ (List.mem_of_getElem? (i := 7) rfl))) (notFace_of_selects (args := #[]) (mvT hZ (hw _ (List.mem_of_getElem? (i := 9) rfl)))) (mvT hZ (hw _ (List.mem_of_getElem? (i := 9) rfl))) (mvT hZ (hw _ (List.mem_of_getElem? (i := 8) rfl))) (by decide) (backOf (W := 0) (own_exceeded l Z a0 hw [] a_HUGE_METHOD_LIMIT n1 (8000 : Int32) (0 : Int32) h0 n0 O0 F_HUGE_METHOD_LIMIT_bytes (by rw [if_neg hb8])) hZ (hw _ (List.mem_of_getElem? (i := 10) rfl)) (hw _ (List.mem_of_getElem? (i := 2) rfl)) (by decide) (by decide)) q2a q2c (g := (mkF mM 4 #[.val (.int n1), .val (.int sg), .unset] [(.int n1), (.ref a_HUGE_METHOD_LIMIT)])) rfl (by rw [hml]; rfl) (Steps.refl _) (argsL := [(.int n1)]) (rest := []) (lenOf own_pd2 rfl) rfl (by show 2 * 0 + _ ≤ _; exact Nat.le_of_eq rfl) (hb hby own_d1_4) (fun _ _ => ⟨rfl, e1, (by decide : 0 + 0 ≤ _), (by decide : 0 + 0 ≤ _)⟩)
  dsimp only [Pt.U, Pt.locs, Pt.cells, Pt.slots] at X2 l2 y2 z2 st2 hQ2
  subst l2 y2 z2
  obtain ⟨rfl, Nq2, e2⟩ := hQ2
  have N2 := Fr.app N0 Nq2
  refine own_tr st2 ?_
  show own_Ends _ _ _ _ (T2.setTop (mkF mM 7 #[.val (.int n1), .val (.int sg), .unset] [(.int (0 : Int32))]))
  refine own_go (fun _ k => XS.ifYes X2.here hx rfl (pc0 := 7) (pc' := 20) rfl (hb hby own_d1_7) rfl ((if0 _ _).trans (teq (by decide : (0 : Int32) = (0 : Int32))).1) (by decide) (by decide) k) ?_
  show own_Ends _ _ _ _ (T2.setTop (mkF mM 20 #[.val (.int n1), .val (.int sg), .unset] []))
  refine own_go (fun _ k => XS.iloadN X2.here hx rfl (hb hby own_d1_20) rfl k) ?_
  show own_Ends _ _ _ _ (T2.setTop (mkF mM 21 #[.val (.int n1), .val (.int sg), .unset] [(.int sg)]))
  refine own_go (fun _ k => XS.ifNo X2.here hx rfl (hb hby own_d1_21) rfl ((if0 _ _).trans (teq hs).2) k) ?_
  show own_Ends _ _ _ _ (T2.setTop (mkF mM 24 #[.val (.int n1), .val (.int sg), .unset] []))
  obtain ⟨T3, X3, e3, st3⟩ := getS2 X2 hx hZ hown (host := "") (Or.inl (hw _ (List.mem_of_getElem? (i := 25) rfl))) Via.refl e2 (S_FREQ_INLINE_SIZE.ext O0.2) (g := (mkF mM 24 #[.val (.int n1), .val (.int sg), .unset] [])) rfl (hb hby own_d1_24)
  refine own_go st3 ?_
  show own_Ends _ _ _ _ (T3.setTop (mkF mM 27 #[.val (.int n1), .val (.int sg), .unset] [(.ref a_FREQ_INLINE_SIZE)]))
  refine own_go (fun _ k => XS.iloadN X3.here hx rfl (hb hby own_d1_27) rfl k) ?_
  show own_Ends _ _ _ _ (T3.setTop (mkF mM 28 #[.val (.int n1), .val (.int sg), .unset] [(.int n1), (.ref a_FREQ_INLINE_SIZE)]))
  obtain ⟨cq4, kq4, q4a, q4b, q4c⟩ := isOf hZ e3 (E_FREQ_INLINE_SIZE.ext O0.2)
  obtain ⟨_, _, ⟨T4, Lz4, kz4, nz4⟩, -, X4, ⟨Lc4, hQ4, l4, y4, z4⟩, st4⟩ := X3.virtualBack hx (y := (⟨"com/example/warmline/warmline/core/Limit", "isExceededBy", "(I)Z"⟩ : MethodName)) (z := (⟨"com/example/warmline/warmline/core/Limit", "isExceededBy", "(I)Z"⟩ : MethodName)) hown (mvT hZ (hw _ (List.mem_of_getElem? (i := 6) rfl))) (mvT hZ (hw _ (List.mem_of_getElem? (i := 7) rfl))) (notFace_of_selects (args := #[]) (mvT hZ (hw _ (List.mem_of_getElem? (i := 9) rfl)))) (mvT hZ (hw _ (List.mem_of_getElem? (i := 9) rfl))) (mvT hZ (hw _ (List.mem_of_getElem? (i := 8) rfl))) (by decide) (backOf (W := 0) (own_exceeded l Z a0 hw [] a_FREQ_INLINE_SIZE n1 (325 : Int32) (0 : Int32) h0 n0 O0 F_FREQ_INLINE_SIZE_bytes (by rw [if_neg hb3])) hZ (hw _ (List.mem_of_getElem? (i := 10) rfl)) (hw _ (List.mem_of_getElem? (i := 2) rfl)) (by decide) (by decide)) q4a q4c (g := (mkF mM 28 #[.val (.int n1), .val (.int sg), .unset] [(.int n1), (.ref a_FREQ_INLINE_SIZE)])) rfl (by rw [hml]; rfl) (Steps.refl _) (argsL := [(.int n1)]) (rest := []) (lenOf own_pd2 rfl) rfl (by show 2 * 0 + _ ≤ _; exact Nat.le_of_eq rfl) (hb hby own_d1_28) (fun _ _ => ⟨rfl, e3, (by decide : 0 + 0 ≤ _), (by decide : 0 + 0 ≤ _)⟩)
  dsimp only [Pt.U, Pt.locs, Pt.cells, Pt.slots] at X4 l4 y4 z4 st4 hQ4
  subst l4 y4 z4
  obtain ⟨rfl, Nq4, e4⟩ := hQ4
  have N4 := Fr.app N2 Nq4
  refine own_tr st4 ?_
  show own_Ends _ _ _ _ (T4.setTop (mkF mM 31 #[.val (.int n1), .val (.int sg), .unset] [(.int (0 : Int32))]))
  refine own_go (fun _ k => XS.ifYes X4.here hx rfl (pc0 := 31) (pc' := 44) rfl (hb hby own_d1_31) rfl ((if0 _ _).trans (teq (by decide : (0 : Int32) = (0 : Int32))).1) (by decide) (by decide) k) ?_
  show own_Ends _ _ _ _ (T4.setTop (mkF mM 44 #[.val (.int n1), .val (.int sg), .unset] []))
  obtain ⟨_, _, ⟨T5, Lz5, kz5, nz5⟩, -, X5, ⟨Lc5, hQ5, l5, y5, z5⟩, st5⟩ := Jvm.LawKit.callS X4 hx (y := (⟨"java/util/Optional", "empty", "()Ljava/util/Optional;"⟩ : MethodName)) hown (mvT hZ (hw _ (List.mem_of_getElem? (i := 13) rfl))) (mvT hZ (hw _ (List.mem_of_getElem? (i := 14) rfl))) (mvT hZ (hw _ (List.mem_of_getElem? (i := 15) rfl))) (mvT hZ (hw _ (List.mem_of_getElem? (i := 16) rfl))) (by decide) (backOf (W := 0) (own_empty l Z a0 hw [] a_EMPTY h0 n0 O0 S_EMPTY) hZ (hw _ (List.mem_of_getElem? (i := 16) rfl)) (hw _ (List.mem_of_getElem? (i := 15) rfl)) (by decide) (by decide)) (g := (mkF mM 44 #[.val (.int n1), .val (.int sg), .unset] [])) rfl (by rw [hml]; rfl) (argsL := []) (rest := []) (lenOf own_pd4 rfl) rfl (by show 2 * 0 + _ ≤ _; exact Nat.le_of_eq rfl) (hb hby own_d1_44) (fun _ _ => ⟨rfl, e4, (by decide : 0 + 0 ≤ _), (by decide : 0 + 0 ≤ _)⟩)
  dsimp only [Pt.U, Pt.locs, Pt.cells, Pt.slots] at X5 l5 y5 z5 st5 hQ5
  subst l5 y5 z5
  obtain ⟨rfl, Nq5, e5⟩ := hQ5
  have N5 := Fr.app N4 Nq5
  refine own_go st5 ?_
  show own_Ends _ _ _ _ (T5.setTop (mkF mM 47 #[.val (.int n1), .val (.int sg), .unset] [(.ref a_EMPTY)]))
  refine own_go (fun _ k => XS.astoreN X5.here hx rfl (hb hby own_d1_47) rfl rfl (l' := #[.val (.int n1), .val (.int sg), .val (.ref a_EMPTY)]) rfl k) ?_
  show own_Ends _ _ _ _ (T5.setTop (mkF mM 48 #[.val (.int n1), .val (.int sg), .val (.ref a_EMPTY)] []))
  refine own_go (fun _ k => XS.aloadN X5.here hx rfl (hb hby own_d1_48) rfl rfl k) ?_
  show own_Ends _ _ _ _ (T5.setTop (mkF mM 49 #[.val (.int n1), .val (.int sg), .val (.ref a_EMPTY)] [(.ref a_EMPTY)]))
  exact own_retR X5 hx (BodyLoose.notSynchronized Bd) Bd.returns rfl rfl (hb hby own_d1_49) (by decide) (by decide) (by rw [e5]; exact ⟨rfl, N5, rfl⟩)
theorem own_ef_own_lgSkip (m : MethodId) (x0 : Int32) (x1 : Int32) : entryFrame m #[(.int x0), (.int x1)] 3 = mkF m 0 #[.val (.int x0), .val (.int x1), .unset] [] := by first | (simp [entryFrame, mkF, argsToLocals, Value.category]; done) | rfl
def Q_own_lgSkip (Z : State) (n1 : Int32) (sg : Int32) (a_EMPTY : Addr) (a_HUGE_METHOD_LIMIT : Addr) (a_FREQ_INLINE_SIZE : Addr) (h0 : Heap) (n0 : Nat) (v : Option Value) (h : Heap) (L : List Loc) : Prop := v = some (.ref a_EMPTY) ∧ Fr n0 L ∧ h = h0
set_option maxRecDepth 65536 in
set_option maxHeartbeats 40000000 in
theorem own_lgSkip (l : Launch) (Z : State) (a0 : Array Value) (hw : ∀ d ∈ tables_1, d.before a0 Z = true) (ws : List Jvm.Cond) (n1 : Int32) (sg : Int32) (a_EMPTY : Addr) (a_HUGE_METHOD_LIMIT : Addr) (a_FREQ_INLINE_SIZE : Addr) (h0 : Heap) (n0 : Nat) (O0 : Old Z n0 h0) (S_HUGE_METHOD_LIMIT : Sta Z Z.heap "com/example/warmline/warmline/core/Limit" "HUGE_METHOD_LIMIT" "Lcom/example/warmline/warmline/core/Limit;" (.ref a_HUGE_METHOD_LIMIT)) (E_HUGE_METHOD_LIMIT : Exa Z Z.heap a_HUGE_METHOD_LIMIT "com/example/warmline/warmline/core/Limit") (F_HUGE_METHOD_LIMIT_bytes : Fld Z Z.heap a_HUGE_METHOD_LIMIT "com/example/warmline/warmline/core/Limit" "bytes" "I" (.int (8000 : Int32))) (S_FREQ_INLINE_SIZE : Sta Z Z.heap "com/example/warmline/warmline/core/Limit" "FREQ_INLINE_SIZE" "Lcom/example/warmline/warmline/core/Limit;" (.ref a_FREQ_INLINE_SIZE)) (E_FREQ_INLINE_SIZE : Exa Z Z.heap a_FREQ_INLINE_SIZE "com/example/warmline/warmline/core/Limit") (F_FREQ_INLINE_SIZE_bytes : Fld Z Z.heap a_FREQ_INLINE_SIZE "com/example/warmline/warmline/core/Limit" "bytes" "I" (.int (325 : Int32))) (S_EMPTY : Sta Z Z.heap "java/util/Optional" "EMPTY" "Ljava/util/Optional;" (.ref a_EMPTY)) (hb8 : ¬ (8000 : Int32) < n1) (hs : ¬ sg = (0 : Int32)) :
    MetFree l (⟨"com/example/warmline/warmline/core/Limit", "largestGuarded", "(IZ)Ljava/util/Optional;"⟩ : MethodName) (head1 (Jvm.Cond.code (⟨"com/example/warmline/warmline/core/Limit", "largestGuarded", "(IZ)Ljava/util/Optional;"⟩ : MethodName) prog_24_method_7_code 3 (some (.object "java/util/Optional")) :: ws) ({ frames := 1, cells := 0, slots := 0, locals := 13 } : Room)) (fun args_ U => args_ = #[(.int n1), (.int sg)] ∧ Z.Warmed39 U.vm ∧ U.heap = h0) (fun _ _ _ _ _ => True) (fun _ U o U' => ∃ v L, o = .returned v ∧ Q_own_lgSkip Z n1 sg a_EMPTY a_HUGE_METHOD_LIMIT a_FREQ_INLINE_SIZE h0 n0 v U'.heap L ∧ FrameEnd U o U' L ({ frames := 1, cells := 0, slots := 0, locals := 13 } : Room).cells ({ frames := 1, cells := 0, slots := 0, locals := 13 } : Room).slots) := by
  refine MetFree.of_bodySF (plainFor_of_name own_pn_com_example_warmline_warmline_core_Limit) hisR ?_
  intro pP eE sS mM args below meth cC s₁ Bd hml0 hP hK
  obtain ⟨rfl, hZ, hh⟩ := hP
  have hx := Bd.exec
  have hby := Bd.bytes
  have hml : cC.maxLocals = 3 := hml0
  have hown : sS.vm.findClass "com/example/warmline/warmline/core/Limit" = some mM.cls := findClass_of_methodNamed Bd.named
  have hnm := (name_of_methodNamed Bd.named Bd.method).1
  have X0 : Stand pP l eE ({ frames := 1, cells := 0, slots := 0, locals := 13 } : Room) sS mM #[(.int n1), (.int sg)] below meth cC s₁ [] 0 0 := Stand.of_body Bd
  have e0 : s₁.heap = h0 := by rw [← hh, Bd.state]; rfl
  have N0 := Fr.nil n0
  show own_Ends pP eE below (own_Got sS (Q_own_lgSkip Z n1 sg a_EMPTY a_HUGE_METHOD_LIMIT a_FREQ_INLINE_SIZE h0 n0) ({ frames := 1, cells := 0, slots := 0, locals := 13 } : Room).cells ({ frames := 1, cells := 0, slots := 0, locals := 13 } : Room).slots) (s₁.setTop (entryFrame mM #[(.int n1), (.int sg)] 3))
  rw [own_ef_own_lgSkip mM n1 sg]
  obtain ⟨T1, X1, e1, st1⟩ := getS2 X0 hx hZ hown (host := "") (Or.inl (hw _ (List.mem_of_getElem? (i := 4) rfl))) Via.refl e0 (S_HUGE_METHOD_LIMIT.ext O0.2) (g := (mkF mM 0 #[.val (.int n1), .val (.int sg), .unset] [])) rfl (hb hby own_d1_0)
  refine own_go st1 ?_
  show own_Ends _ _ _ _ (T1.setTop (mkF mM 3 #[.val (.int n1), .val (.int sg), .unset] [(.ref a_HUGE_METHOD_LIMIT)]))
  refine own_go (fun _ k => XS.iloadN X1.here hx rfl (hb hby own_d1_3) rfl k) ?_
  show own_Ends _ _ _ _ (T1.setTop (mkF mM 4 #[.val (.int n1), .val (.int sg), .unset] [(.int n1), (.ref a_HUGE_METHOD_LIMIT)]))
  obtain ⟨cq2, kq2, q2a, q2b, q2c⟩ := isOf hZ e1 (E_HUGE_METHOD_LIMIT.ext O0.2)
  obtain ⟨_, _, ⟨T2, Lz2, kz2, nz2⟩, -, X2, ⟨Lc2, hQ2, l2, y2, z2⟩, st2⟩ := X1.virtualBack hx (y := (⟨"com/example/warmline/warmline/core/Limit", "isExceededBy", "(I)Z"⟩ : MethodName)) (z := (⟨"com/example/warmline/warmline/core/Limit", "isExceededBy", "(I)Z"⟩ : MethodName)) hown (mvT hZ (hw _ (List.mem_of_getElem? (i := 6) rfl))) (mvT hZ (hw _ (List.mem_of_getElem? (i := 7) rfl))) (notFace_of_selects (args := #[]) (mvT hZ (hw _ (List.mem_of_getElem? (i := 9) rfl)))) (mvT hZ (hw _ (List.mem_of_getElem? (i := 9) rfl))) (mvT hZ (hw _ (List.mem_of_getElem? (i := 8) rfl))) (by decide) (backOf (W := 0) (own_exceeded l Z a0 hw [] a_HUGE_METHOD_LIMIT n1 (8000 : Int32) (0 : Int32) h0 n0 O0 F_HUGE_METHOD_LIMIT_bytes (by rw [if_neg hb8])) hZ (hw _ (List.mem_of_getElem? (i := 10) rfl)) (hw _ (List.mem_of_getElem? (i := 2) rfl)) (by decide) (by decide)) q2a q2c (g := (mkF mM 4 #[.val (.int n1), .val (.int sg), .unset] [(.int n1), (.ref a_HUGE_METHOD_LIMIT)])) rfl (by rw [hml]; rfl) (Steps.refl _) (argsL := [(.int n1)]) (rest := []) (lenOf own_pd2 rfl) rfl (by show 2 * 0 + _ ≤ _; exact Nat.le_of_eq rfl) (hb hby own_d1_4) (fun _ _ => ⟨rfl, e1, (by decide : 0 + 0 ≤ _), (by decide : 0 + 0 ≤ _)⟩)
  dsimp only [Pt.U, Pt.locs, Pt.cells, Pt.slots] at X2 l2 y2 z2 st2 hQ2
  subst l2 y2 z2
  obtain ⟨rfl, Nq2, e2⟩ := hQ2
  have N2 := Fr.app N0 Nq2
  refine own_tr st2 ?_
  show own_Ends _ _ _ _ (T2.setTop (mkF mM 7 #[.val (.int n1), .val (.int sg), .unset] [(.int (0 : Int32))]))
  refine own_go (fun _ k => XS.ifYes X2.here hx rfl (pc0 := 7) (pc' := 20) rfl (hb hby own_d1_7) rfl ((if0 _ _).trans (teq (by decide : (0 : Int32) = (0 : Int32))).1) (by decide) (by decide) k) ?_
  show own_Ends _ _ _ _ (T2.setTop (mkF mM 20 #[.val (.int n1), .val (.int sg), .unset] []))
  refine own_go (fun _ k => XS.iloadN X2.here hx rfl (hb hby own_d1_20) rfl k) ?_
  show own_Ends _ _ _ _ (T2.setTop (mkF mM 21 #[.val (.int n1), .val (.int sg), .unset] [(.int sg)]))
  refine own_go (fun _ k => XS.ifYes X2.here hx rfl (pc0 := 21) (pc' := 44) rfl (hb hby own_d1_21) rfl ((if0 _ _).trans (feq hs).2) (by decide) (by decide) k) ?_
  show own_Ends _ _ _ _ (T2.setTop (mkF mM 44 #[.val (.int n1), .val (.int sg), .unset] []))
  obtain ⟨_, _, ⟨T3, Lz3, kz3, nz3⟩, -, X3, ⟨Lc3, hQ3, l3, y3, z3⟩, st3⟩ := Jvm.LawKit.callS X2 hx (y := (⟨"java/util/Optional", "empty", "()Ljava/util/Optional;"⟩ : MethodName)) hown (mvT hZ (hw _ (List.mem_of_getElem? (i := 13) rfl))) (mvT hZ (hw _ (List.mem_of_getElem? (i := 14) rfl))) (mvT hZ (hw _ (List.mem_of_getElem? (i := 15) rfl))) (mvT hZ (hw _ (List.mem_of_getElem? (i := 16) rfl))) (by decide) (backOf (W := 0) (own_empty l Z a0 hw [] a_EMPTY h0 n0 O0 S_EMPTY) hZ (hw _ (List.mem_of_getElem? (i := 16) rfl)) (hw _ (List.mem_of_getElem? (i := 15) rfl)) (by decide) (by decide)) (g := (mkF mM 44 #[.val (.int n1), .val (.int sg), .unset] [])) rfl (by rw [hml]; rfl) (argsL := []) (rest := []) (lenOf own_pd4 rfl) rfl (by show 2 * 0 + _ ≤ _; exact Nat.le_of_eq rfl) (hb hby own_d1_44) (fun _ _ => ⟨rfl, e2, (by decide : 0 + 0 ≤ _), (by decide : 0 + 0 ≤ _)⟩)
  dsimp only [Pt.U, Pt.locs, Pt.cells, Pt.slots] at X3 l3 y3 z3 st3 hQ3
  subst l3 y3 z3
  obtain ⟨rfl, Nq3, e3⟩ := hQ3
  have N3 := Fr.app N2 Nq3
  refine own_go st3 ?_
  show own_Ends _ _ _ _ (T3.setTop (mkF mM 47 #[.val (.int n1), .val (.int sg), .unset] [(.ref a_EMPTY)]))
  refine own_go (fun _ k => XS.astoreN X3.here hx rfl (hb hby own_d1_47) rfl rfl (l' := #[.val (.int n1), .val (.int sg), .val (.ref a_EMPTY)]) rfl k) ?_
  show own_Ends _ _ _ _ (T3.setTop (mkF mM 48 #[.val (.int n1), .val (.int sg), .val (.ref a_EMPTY)] []))
  refine own_go (fun _ k => XS.aloadN X3.here hx rfl (hb hby own_d1_48) rfl rfl k) ?_
  show own_Ends _ _ _ _ (T3.setTop (mkF mM 49 #[.val (.int n1), .val (.int sg), .val (.ref a_EMPTY)] [(.ref a_EMPTY)]))
  exact own_retR X3 hx (BodyLoose.notSynchronized Bd) Bd.returns rfl rfl (hb hby own_d1_49) (by decide) (by decide) (by rw [e3]; exact ⟨rfl, N3, rfl⟩)
theorem own_pd5 : parseMethodDescriptor "(IZ)Ljava/util/Optional;" = some ⟨[.int, .boolean], some (.object "java/util/Optional")⟩ := by decide +kernel
theorem own_pd6 : parseMethodDescriptor "()Z" = some ⟨[], some .boolean⟩ := by decide +kernel
theorem own_pd7 : parseMethodDescriptor "()Ljava/lang/Object;" = some ⟨[], some (.object "java/lang/Object")⟩ := by decide +kernel
theorem own_ef_own_law (m : MethodId) (x0 : Int32) (x1 : Int32) : entryFrame m #[(.int x0), (.int x1)] maxLocals = mkF m 0 #[.val (.int x0), .val (.int x1), .unset, .unset, .unset, .unset, .unset, .unset] [] := by first | (simp [entryFrame, mkF, argsToLocals, Value.category, maxLocals]; done) | rfl
def Q_own_law (Z : State) (p0 : Int32) (p1 : Int32) (a_EMPTY : Addr) (a_HUGE_METHOD_LIMIT : Addr) (a_FREQ_INLINE_SIZE : Addr) (h0 : Heap) (n0 : Nat) (v : Option Value) (h : Heap) (L : List Loc) : Prop := v = some (.int 1) ∧ Fr n0 L
theorem own_pn_com_example_warmline_warmline_core_LimitLargestGuardedPinLaw : plainName "com/example/warmline/warmline/core/LimitLargestGuardedPinLaw" = true := by first | (simp [plainName, overriddenIn]; done) | decide +kernel
set_option maxRecDepth 65536 in
set_option maxHeartbeats 40000000 in
theorem own_law (l : Launch) (Z : State) (a0 : Array Value) (hw : ∀ d ∈ tables_1, d.before a0 Z = true) (ws : List Jvm.Cond) (p0 : Int32) (p1 : Int32) (a_EMPTY : Addr) (a_HUGE_METHOD_LIMIT : Addr) (a_FREQ_INLINE_SIZE : Addr) (h0 : Heap) (n0 : Nat) (O0 : Old Z n0 h0) (S_HUGE_METHOD_LIMIT : Sta Z Z.heap "com/example/warmline/warmline/core/Limit" "HUGE_METHOD_LIMIT" "Lcom/example/warmline/warmline/core/Limit;" (.ref a_HUGE_METHOD_LIMIT)) (E_HUGE_METHOD_LIMIT : Exa Z Z.heap a_HUGE_METHOD_LIMIT "com/example/warmline/warmline/core/Limit") (F_HUGE_METHOD_LIMIT_bytes : Fld Z Z.heap a_HUGE_METHOD_LIMIT "com/example/warmline/warmline/core/Limit" "bytes" "I" (.int (8000 : Int32))) (S_FREQ_INLINE_SIZE : Sta Z Z.heap "com/example/warmline/warmline/core/Limit" "FREQ_INLINE_SIZE" "Lcom/example/warmline/warmline/core/Limit;" (.ref a_FREQ_INLINE_SIZE)) (E_FREQ_INLINE_SIZE : Exa Z Z.heap a_FREQ_INLINE_SIZE "com/example/warmline/warmline/core/Limit") (F_FREQ_INLINE_SIZE_bytes : Fld Z Z.heap a_FREQ_INLINE_SIZE "com/example/warmline/warmline/core/Limit" "bytes" "I" (.int (325 : Int32))) (S_EMPTY : Sta Z Z.heap "java/util/Optional" "EMPTY" "Ljava/util/Optional;" (.ref a_EMPTY)) (E_EMPTY : Exa Z Z.heap a_EMPTY "java/util/Optional") (F_EMPTY_value : Fld Z Z.heap a_EMPTY "java/util/Optional" "value" "Ljava/lang/Object;" .null) :
    MetFree l x (head1 (Jvm.Cond.code x code maxLocals ret :: ws) room_1) (fun args_ U => args_ = #[(.int p0), (.int p1)] ∧ Z.Warmed39 U.vm ∧ U.heap = h0) (fun _ _ _ _ _ => True) (fun _ U o U' => ∃ v L, o = .returned v ∧ Q_own_law Z p0 p1 a_EMPTY a_HUGE_METHOD_LIMIT a_FREQ_INLINE_SIZE h0 n0 v U'.heap L ∧ FrameEnd U o U' L 16 128) := by
  refine MetFree.of_bodySF (plainFor_of_name own_pn_com_example_warmline_warmline_core_LimitLargestGuardedPinLaw) hisR ?_
  intro pP eE sS mM args below meth cC s₁ Bd hml0 hP hK
  obtain ⟨rfl, hZ, hh⟩ := hP
  have hx := Bd.exec
  have hby := Bd.bytes
  have hml : cC.maxLocals = 8 := hml0
  have hown : sS.vm.findClass "com/example/warmline/warmline/core/LimitLargestGuardedPinLaw" = some mM.cls := findClass_of_methodNamed Bd.named
  have hnm := (name_of_methodNamed Bd.named Bd.method).1
  have X0 : Stand pP l eE room_1 sS mM #[(.int p0), (.int p1)] below meth cC s₁ [] 0 0 := Stand.of_body Bd
  have e0 : s₁.heap = h0 := by rw [← hh, Bd.state]; rfl
  have N0 := Fr.nil n0
  show own_Ends pP eE below (own_Got sS (Q_own_law Z p0 p1 a_EMPTY a_HUGE_METHOD_LIMIT a_FREQ_INLINE_SIZE h0 n0) 16 128) (s₁.setTop (entryFrame mM #[(.int p0), (.int p1)] maxLocals))
  rw [own_ef_own_law mM p0 p1]
  have cut : ∀ (sg : Int32) (md : Int32) (n1 : Int32), own_Ends pP eE below (own_Got sS (Q_own_law Z p0 p1 a_EMPTY a_HUGE_METHOD_LIMIT a_FREQ_INLINE_SIZE h0 n0) 16 128) (s₁.setTop (mkF mM 55 #[.val (.int p0), .val (.int p1), .val (.int sg), .val (.int md), .val (.int n1), .unset, .unset, .unset] [])) := by
    intro sg md n1
    show own_Ends _ _ _ _ (s₁.setTop (mkF mM 55 #[.val (.int p0), .val (.int p1), .val (.int sg), .val (.int md), .val (.int n1), .unset, .unset, .unset] []))
    refine own_go (fun _ k => XS.iload X0.here hx rfl (hb hby at_55) rfl k) ?_
    show own_Ends _ _ _ _ (s₁.setTop (mkF mM 57 #[.val (.int p0), .val (.int p1), .val (.int sg), .val (.int md), .val (.int n1), .unset, .unset, .unset] [(.int n1)]))
    refine own_go (fun _ k => XS.sipush X0.here hx rfl (hb hby at_57) k) ?_
    show own_Ends _ _ _ _ (s₁.setTop (mkF mM 60 #[.val (.int p0), .val (.int p1), .val (.int sg), .val (.int md), .val (.int n1), .unset, .unset, .unset] [(.int (8000 : Int32)), (.int n1)]))
    by_cases hc60_0 : (8000 : Int32) < n1
    · refine own_go (fun _ k => XS.icmpNo X0.here hx rfl (hb hby at_60) rfl (tlt hc60_0).2.2.2 k) ?_
      show own_Ends _ _ _ _ (s₁.setTop (mkF mM 63 #[.val (.int p0), .val (.int p1), .val (.int sg), .val (.int md), .val (.int n1), .unset, .unset, .unset] []))
      obtain ⟨T2, X2, e2, st2⟩ := getS2 X0 hx hZ hown (host := "") (Or.inl (hw _ (List.mem_of_getElem? (i := 27) rfl))) Via.refl e0 (S_HUGE_METHOD_LIMIT.ext O0.2) (g := (mkF mM 63 #[.val (.int p0), .val (.int p1), .val (.int sg), .val (.int md), .val (.int n1), .unset, .unset, .unset] [])) rfl (hb hby at_63)
      refine own_go st2 ?_
      show own_Ends _ _ _ _ (T2.setTop (mkF mM 66 #[.val (.int p0), .val (.int p1), .val (.int sg), .val (.int md), .val (.int n1), .unset, .unset, .unset] [(.ref a_HUGE_METHOD_LIMIT)]))
      refine own_go (fun _ k => XS.astore X2.here hx rfl (hb hby at_66) rfl rfl (l' := #[.val (.int p0), .val (.int p1), .val (.int sg), .val (.int md), .val (.int n1), .val (.ref a_HUGE_METHOD_LIMIT), .unset, .unset]) rfl k) ?_
      show own_Ends _ _ _ _ (T2.setTop (mkF mM 68 #[.val (.int p0), .val (.int p1), .val (.int sg), .val (.int md), .val (.int n1), .val (.ref a_HUGE_METHOD_LIMIT), .unset, .unset] []))
      refine own_go (fun _ k => XS.goto X2.here hx rfl (pc0 := 68) (pc' := 94) rfl (hb hby at_68) (by decide) (by decide) k) ?_
      show own_Ends _ _ _ _ (T2.setTop (mkF mM 94 #[.val (.int p0), .val (.int p1), .val (.int sg), .val (.int md), .val (.int n1), .val (.ref a_HUGE_METHOD_LIMIT), .unset, .unset] []))
      refine own_go (fun _ k => XS.iload X2.here hx rfl (hb hby at_94) rfl k) ?_
      show own_Ends _ _ _ _ (T2.setTop (mkF mM 96 #[.val (.int p0), .val (.int p1), .val (.int sg), .val (.int md), .val (.int n1), .val (.ref a_HUGE_METHOD_LIMIT), .unset, .unset] [(.int n1)]))
      refine own_go (fun _ k => XS.iloadN X2.here hx rfl (hb hby at_96) rfl k) ?_
      show own_Ends _ _ _ _ (T2.setTop (mkF mM 97 #[.val (.int p0), .val (.int p1), .val (.int sg), .val (.int md), .val (.int n1), .val (.ref a_HUGE_METHOD_LIMIT), .unset, .unset] [(.int sg), (.int n1)]))
      obtain ⟨_, _, ⟨T3, Lz3, kz3, nz3⟩, -, X3, ⟨Lc3, hQ3, l3, y3, z3⟩, st3⟩ := Jvm.LawKit.callS X2 hx (y := (⟨"com/example/warmline/warmline/core/Limit", "largestGuarded", "(IZ)Ljava/util/Optional;"⟩ : MethodName)) hown (mvT hZ (hw _ (List.mem_of_getElem? (i := 0) rfl))) (mvT hZ (hw _ (List.mem_of_getElem? (i := 1) rfl))) (mvT hZ (hw _ (List.mem_of_getElem? (i := 2) rfl))) (mvT hZ (hw _ (List.mem_of_getElem? (i := 3) rfl))) (by decide) (backOf (W := 0) (own_lgHuge l Z a0 hw [] n1 sg a_EMPTY a_HUGE_METHOD_LIMIT a_FREQ_INLINE_SIZE h0 n0 O0 S_HUGE_METHOD_LIMIT E_HUGE_METHOD_LIMIT F_HUGE_METHOD_LIMIT_bytes S_FREQ_INLINE_SIZE E_FREQ_INLINE_SIZE F_FREQ_INLINE_SIZE_bytes S_EMPTY hc60_0) hZ (hw _ (List.mem_of_getElem? (i := 3) rfl)) (hw _ (List.mem_of_getElem? (i := 2) rfl)) (by decide) (by decide)) (g := (mkF mM 97 #[.val (.int p0), .val (.int p1), .val (.int sg), .val (.int md), .val (.int n1), .val (.ref a_HUGE_METHOD_LIMIT), .unset, .unset] [(.int sg), (.int n1)])) rfl (by rw [hml]; rfl) (argsL := [(.int n1), (.int sg)]) (rest := []) (lenOf own_pd5 rfl) rfl (by show 2 * 0 + _ ≤ _; exact Nat.le_of_eq rfl) (hb hby at_97) (fun _ _ => ⟨rfl, e2, (by decide : 0 + 1 ≤ _), (by decide : 0 + 1 ≤ _)⟩)
      dsimp only [Pt.U, Pt.locs, Pt.cells, Pt.slots] at X3 l3 y3 z3 st3 hQ3
      subst l3 y3 z3
      obtain ⟨c3, rfl, Nq3, g_c3, K3, E_c3, F_c3⟩ := hQ3
      have N3 := Fr.app N0 Nq3
      have O3 := O0.keep K3 all0
      refine own_go st3 ?_
      show own_Ends _ _ _ _ (T3.setTop (mkF mM 100 #[.val (.int p0), .val (.int p1), .val (.int sg), .val (.int md), .val (.int n1), .val (.ref a_HUGE_METHOD_LIMIT), .unset, .unset] [(.ref c3)]))
      refine own_go (fun _ k => XS.astore X3.here hx rfl (hb hby at_100) rfl rfl (l' := #[.val (.int p0), .val (.int p1), .val (.int sg), .val (.int md), .val (.int n1), .val (.ref a_HUGE_METHOD_LIMIT), .val (.ref c3), .unset]) rfl k) ?_
      show own_Ends _ _ _ _ (T3.setTop (mkF mM 102 #[.val (.int p0), .val (.int p1), .val (.int sg), .val (.int md), .val (.int n1), .val (.ref a_HUGE_METHOD_LIMIT), .val (.ref c3), .unset] []))
      refine own_go (fun _ k => XS.aload X3.here hx rfl (hb hby at_102) rfl rfl k) ?_
      show own_Ends _ _ _ _ (T3.setTop (mkF mM 104 #[.val (.int p0), .val (.int p1), .val (.int sg), .val (.int md), .val (.int n1), .val (.ref a_HUGE_METHOD_LIMIT), .val (.ref c3), .unset] [(.ref c3)]))
      obtain ⟨cq4, kq4, q4a, q4b, q4c⟩ := isOf hZ rfl E_c3
      obtain ⟨_, _, ⟨T4, Lz4, kz4, nz4⟩, -, X4, ⟨Lc4, hQ4, l4, y4, z4⟩, st4⟩ := X3.virtualBack hx (y := (⟨"java/util/Optional", "isPresent", "()Z"⟩ : MethodName)) (z := (⟨"java/util/Optional", "isPresent", "()Z"⟩ : MethodName)) hown (mvT hZ (hw _ (List.mem_of_getElem? (i := 18) rfl))) (mvT hZ (hw _ (List.mem_of_getElem? (i := 19) rfl))) (notFace_of_selects (args := #[]) (mvT hZ (hw _ (List.mem_of_getElem? (i := 21) rfl)))) (mvT hZ (hw _ (List.mem_of_getElem? (i := 21) rfl))) (mvT hZ (hw _ (List.mem_of_getElem? (i := 20) rfl))) (by decide) (backOf (W := 0) (own_present l Z a0 hw [] c3 a_HUGE_METHOD_LIMIT T3.heap n0 O3 F_c3) hZ (hw _ (List.mem_of_getElem? (i := 22) rfl)) (hw _ (List.mem_of_getElem? (i := 15) rfl)) (by decide) (by decide)) q4a q4c (g := (mkF mM 104 #[.val (.int p0), .val (.int p1), .val (.int sg), .val (.int md), .val (.int n1), .val (.ref a_HUGE_METHOD_LIMIT), .val (.ref c3), .unset] [(.ref c3)])) rfl (by rw [hml]; rfl) (Steps.refl _) (argsL := []) (rest := []) (lenOf own_pd6 rfl) rfl (by show 2 * 0 + _ ≤ _; exact Nat.le_of_eq rfl) (hb hby at_104) (fun _ _ => ⟨rfl, rfl, (by decide : 1 + 0 ≤ _), (by decide : 1 + 0 ≤ _)⟩)
      dsimp only [Pt.U, Pt.locs, Pt.cells, Pt.slots] at X4 l4 y4 z4 st4 hQ4
      subst l4 y4 z4
      obtain ⟨rfl, Nq4, e4⟩ := hQ4
      have N4 := Fr.app N3 Nq4
      refine own_tr st4 ?_
      show own_Ends _ _ _ _ (T4.setTop (mkF mM 107 #[.val (.int p0), .val (.int p1), .val (.int sg), .val (.int md), .val (.int n1), .val (.ref a_HUGE_METHOD_LIMIT), .val (.ref c3), .unset] [(.int (1 : Int32))]))
      refine own_go (fun _ k => XS.ifNo X4.here hx rfl (hb hby at_107) rfl ((if0 _ _).trans (feq (by decide : ¬ ((1 : Int32) = (0 : Int32)))).1) k) ?_
      show own_Ends _ _ _ _ (T4.setTop (mkF mM 110 #[.val (.int p0), .val (.int p1), .val (.int sg), .val (.int md), .val (.int n1), .val (.ref a_HUGE_METHOD_LIMIT), .val (.ref c3), .unset] []))
      refine own_go (fun _ k => XS.aload X4.here hx rfl (hb hby at_110) rfl rfl k) ?_
      show own_Ends _ _ _ _ (T4.setTop (mkF mM 112 #[.val (.int p0), .val (.int p1), .val (.int sg), .val (.int md), .val (.int n1), .val (.ref a_HUGE_METHOD_LIMIT), .val (.ref c3), .unset] [(.ref c3)]))
      obtain ⟨cq5, kq5, q5a, q5b, q5c⟩ := isOf hZ e4 E_c3
      obtain ⟨_, _, ⟨T5, Lz5, kz5, nz5⟩, -, X5, ⟨Lc5, hQ5, l5, y5, z5⟩, st5⟩ := X4.virtualBack hx (y := (⟨"java/util/Optional", "get", "()Ljava/lang/Object;"⟩ : MethodName)) (z := (⟨"java/util/Optional", "get", "()Ljava/lang/Object;"⟩ : MethodName)) hown (mvT hZ (hw _ (List.mem_of_getElem? (i := 44) rfl))) (mvT hZ (hw _ (List.mem_of_getElem? (i := 45) rfl))) (notFace_of_selects (args := #[]) (mvT hZ (hw _ (List.mem_of_getElem? (i := 47) rfl)))) (mvT hZ (hw _ (List.mem_of_getElem? (i := 47) rfl))) (mvT hZ (hw _ (List.mem_of_getElem? (i := 46) rfl))) (by decide) (backOf (W := 0) (own_get l Z a0 hw [] c3 a_HUGE_METHOD_LIMIT T3.heap n0 O3 F_c3) hZ (hw _ (List.mem_of_getElem? (i := 48) rfl)) (hw _ (List.mem_of_getElem? (i := 15) rfl)) (by decide) (by decide)) q5a q5c (g := (mkF mM 112 #[.val (.int p0), .val (.int p1), .val (.int sg), .val (.int md), .val (.int n1), .val (.ref a_HUGE_METHOD_LIMIT), .val (.ref c3), .unset] [(.ref c3)])) rfl (by rw [hml]; rfl) (Steps.refl _) (argsL := []) (rest := []) (lenOf own_pd7 rfl) rfl (by show 2 * 0 + _ ≤ _; exact Nat.le_of_eq rfl) (hb hby at_112) (fun _ _ => ⟨rfl, e4, (by decide : 1 + 0 ≤ _), (by decide : 1 + 0 ≤ _)⟩)
      dsimp only [Pt.U, Pt.locs, Pt.cells, Pt.slots] at X5 l5 y5 z5 st5 hQ5
      subst l5 y5 z5
      obtain ⟨rfl, Nq5, e5⟩ := hQ5
      have N5 := Fr.app N4 Nq5
      refine own_tr st5 ?_
      show own_Ends _ _ _ _ (T5.setTop (mkF mM 115 #[.val (.int p0), .val (.int p1), .val (.int sg), .val (.int md), .val (.int n1), .val (.ref a_HUGE_METHOD_LIMIT), .val (.ref c3), .unset] [(.ref a_HUGE_METHOD_LIMIT)]))
      obtain ⟨T6, X6, e6, st6⟩ := castY X5 hx hZ hown (hw _ (List.mem_of_getElem? (i := 49) rfl)) e5 (Ins.self (E_HUGE_METHOD_LIMIT.ext O3.2)) (g := (mkF mM 115 #[.val (.int p0), .val (.int p1), .val (.int sg), .val (.int md), .val (.int n1), .val (.ref a_HUGE_METHOD_LIMIT), .val (.ref c3), .unset] [(.ref a_HUGE_METHOD_LIMIT)])) rfl rfl (hb hby at_115)
      refine own_go st6 ?_
      show own_Ends _ _ _ _ (T6.setTop (mkF mM 118 #[.val (.int p0), .val (.int p1), .val (.int sg), .val (.int md), .val (.int n1), .val (.ref a_HUGE_METHOD_LIMIT), .val (.ref c3), .unset] [(.ref a_HUGE_METHOD_LIMIT)]))
      refine own_go (fun _ k => XS.goto X6.here hx rfl (pc0 := 118) (pc' := 122) rfl (hb hby at_118) (by decide) (by decide) k) ?_
      show own_Ends _ _ _ _ (T6.setTop (mkF mM 122 #[.val (.int p0), .val (.int p1), .val (.int sg), .val (.int md), .val (.int n1), .val (.ref a_HUGE_METHOD_LIMIT), .val (.ref c3), .unset] [(.ref a_HUGE_METHOD_LIMIT)]))
      refine own_go (fun _ k => XS.astore X6.here hx rfl (hb hby at_122) rfl rfl (l' := #[.val (.int p0), .val (.int p1), .val (.int sg), .val (.int md), .val (.int n1), .val (.ref a_HUGE_METHOD_LIMIT), .val (.ref c3), .val (.ref a_HUGE_METHOD_LIMIT)]) rfl k) ?_
      show own_Ends _ _ _ _ (T6.setTop (mkF mM 124 #[.val (.int p0), .val (.int p1), .val (.int sg), .val (.int md), .val (.int n1), .val (.ref a_HUGE_METHOD_LIMIT), .val (.ref c3), .val (.ref a_HUGE_METHOD_LIMIT)] []))
      refine own_go (fun _ k => XS.aload X6.here hx rfl (hb hby at_124) rfl rfl k) ?_
      show own_Ends _ _ _ _ (T6.setTop (mkF mM 126 #[.val (.int p0), .val (.int p1), .val (.int sg), .val (.int md), .val (.int n1), .val (.ref a_HUGE_METHOD_LIMIT), .val (.ref c3), .val (.ref a_HUGE_METHOD_LIMIT)] [(.ref a_HUGE_METHOD_LIMIT)]))
      refine own_go (fun _ k => XS.aload X6.here hx rfl (hb hby at_126) rfl rfl k) ?_
      show own_Ends _ _ _ _ (T6.setTop (mkF mM 128 #[.val (.int p0), .val (.int p1), .val (.int sg), .val (.int md), .val (.int n1), .val (.ref a_HUGE_METHOD_LIMIT), .val (.ref c3), .val (.ref a_HUGE_METHOD_LIMIT)] [(.ref a_HUGE_METHOD_LIMIT), (.ref a_HUGE_METHOD_LIMIT)]))
      refine own_go (fun _ k => Jvm.RoadKit.acmp (g := (mkF mM 128 #[.val (.int p0), .val (.int p1), .val (.int sg), .val (.int md), .val (.int n1), .val (.ref a_HUGE_METHOD_LIMIT), .val (.ref c3), .val (.ref a_HUGE_METHOD_LIMIT)] [(.ref a_HUGE_METHOD_LIMIT), (.ref a_HUGE_METHOD_LIMIT)])) X6 hx rfl rfl rfl (pc0 := 128) (pc' := 131) (same := true) rfl (hb hby at_128) rfl (decide_eq_true rfl) (by decide) (by decide) k) ?_
      show own_Ends _ _ _ _ (T6.setTop (mkF mM 131 #[.val (.int p0), .val (.int p1), .val (.int sg), .val (.int md), .val (.int n1), .val (.ref a_HUGE_METHOD_LIMIT), .val (.ref c3), .val (.ref a_HUGE_METHOD_LIMIT)] []))
      refine own_go (fun _ k => XS.iconst X6.here hx rfl (hb hby at_131) k) ?_
      show own_Ends _ _ _ _ (T6.setTop (mkF mM 132 #[.val (.int p0), .val (.int p1), .val (.int sg), .val (.int md), .val (.int n1), .val (.ref a_HUGE_METHOD_LIMIT), .val (.ref c3), .val (.ref a_HUGE_METHOD_LIMIT)] [(.int (1 : Int32))]))
      refine own_go (fun _ k => XS.goto X6.here hx rfl (pc0 := 132) (pc' := 136) rfl (hb hby at_132) (by decide) (by decide) k) ?_
      show own_Ends _ _ _ _ (T6.setTop (mkF mM 136 #[.val (.int p0), .val (.int p1), .val (.int sg), .val (.int md), .val (.int n1), .val (.ref a_HUGE_METHOD_LIMIT), .val (.ref c3), .val (.ref a_HUGE_METHOD_LIMIT)] [(.int (1 : Int32))]))
      exact own_retZ X6 hx (BodyLoose.notSynchronized Bd) Bd.returns rfl (hb hby at_136) (by decide) (by decide) (by rw [e6]; exact ⟨rfl, N5⟩)
    · refine own_go (fun _ k => XS.icmpYes X0.here hx rfl (pc0 := 60) (pc' := 71) rfl (hb hby at_60) rfl (flt hc60_0).2.2.2 (by decide) (by decide) k) ?_
      show own_Ends _ _ _ _ (s₁.setTop (mkF mM 71 #[.val (.int p0), .val (.int p1), .val (.int sg), .val (.int md), .val (.int n1), .unset, .unset, .unset] []))
      refine own_go (fun _ k => XS.iloadN X0.here hx rfl (hb hby at_71) rfl k) ?_
      show own_Ends _ _ _ _ (s₁.setTop (mkF mM 72 #[.val (.int p0), .val (.int p1), .val (.int sg), .val (.int md), .val (.int n1), .unset, .unset, .unset] [(.int sg)]))
      by_cases hc72_6 : sg = (0 : Int32)
      · refine own_go (fun _ k => XS.ifNo X0.here hx rfl (hb hby at_72) rfl ((if0 _ _).trans (teq hc72_6).2) k) ?_
        show own_Ends _ _ _ _ (s₁.setTop (mkF mM 75 #[.val (.int p0), .val (.int p1), .val (.int sg), .val (.int md), .val (.int n1), .unset, .unset, .unset] []))
        refine own_go (fun _ k => XS.iload X0.here hx rfl (hb hby at_75) rfl k) ?_
        show own_Ends _ _ _ _ (s₁.setTop (mkF mM 77 #[.val (.int p0), .val (.int p1), .val (.int sg), .val (.int md), .val (.int n1), .unset, .unset, .unset] [(.int n1)]))
        refine own_go (fun _ k => XS.sipush X0.here hx rfl (hb hby at_77) k) ?_
        show own_Ends _ _ _ _ (s₁.setTop (mkF mM 80 #[.val (.int p0), .val (.int p1), .val (.int sg), .val (.int md), .val (.int n1), .unset, .unset, .unset] [(.int (325 : Int32)), (.int n1)]))
        by_cases hc80_7 : (325 : Int32) < n1
        · refine own_go (fun _ k => XS.icmpNo X0.here hx rfl (hb hby at_80) rfl (tlt hc80_7).2.2.2 k) ?_
          show own_Ends _ _ _ _ (s₁.setTop (mkF mM 83 #[.val (.int p0), .val (.int p1), .val (.int sg), .val (.int md), .val (.int n1), .unset, .unset, .unset] []))
          obtain ⟨T9, X9, e9, st9⟩ := getS2 X0 hx hZ hown (host := "") (Or.inl (hw _ (List.mem_of_getElem? (i := 51) rfl))) Via.refl e0 (S_FREQ_INLINE_SIZE.ext O0.2) (g := (mkF mM 83 #[.val (.int p0), .val (.int p1), .val (.int sg), .val (.int md), .val (.int n1), .unset, .unset, .unset] [])) rfl (hb hby at_83)
          refine own_go st9 ?_
          show own_Ends _ _ _ _ (T9.setTop (mkF mM 86 #[.val (.int p0), .val (.int p1), .val (.int sg), .val (.int md), .val (.int n1), .unset, .unset, .unset] [(.ref a_FREQ_INLINE_SIZE)]))
          refine own_go (fun _ k => XS.astore X9.here hx rfl (hb hby at_86) rfl rfl (l' := #[.val (.int p0), .val (.int p1), .val (.int sg), .val (.int md), .val (.int n1), .val (.ref a_FREQ_INLINE_SIZE), .unset, .unset]) rfl k) ?_
          show own_Ends _ _ _ _ (T9.setTop (mkF mM 88 #[.val (.int p0), .val (.int p1), .val (.int sg), .val (.int md), .val (.int n1), .val (.ref a_FREQ_INLINE_SIZE), .unset, .unset] []))
          refine own_go (fun _ k => XS.goto X9.here hx rfl (pc0 := 88) (pc' := 94) rfl (hb hby at_88) (by decide) (by decide) k) ?_
          show own_Ends _ _ _ _ (T9.setTop (mkF mM 94 #[.val (.int p0), .val (.int p1), .val (.int sg), .val (.int md), .val (.int n1), .val (.ref a_FREQ_INLINE_SIZE), .unset, .unset] []))
          refine own_go (fun _ k => XS.iload X9.here hx rfl (hb hby at_94) rfl k) ?_
          show own_Ends _ _ _ _ (T9.setTop (mkF mM 96 #[.val (.int p0), .val (.int p1), .val (.int sg), .val (.int md), .val (.int n1), .val (.ref a_FREQ_INLINE_SIZE), .unset, .unset] [(.int n1)]))
          refine own_go (fun _ k => XS.iloadN X9.here hx rfl (hb hby at_96) rfl k) ?_
          show own_Ends _ _ _ _ (T9.setTop (mkF mM 97 #[.val (.int p0), .val (.int p1), .val (.int sg), .val (.int md), .val (.int n1), .val (.ref a_FREQ_INLINE_SIZE), .unset, .unset] [(.int sg), (.int n1)]))
          obtain ⟨_, _, ⟨T10, Lz10, kz10, nz10⟩, -, X10, ⟨Lc10, hQ10, l10, y10, z10⟩, st10⟩ := Jvm.LawKit.callS X9 hx (y := (⟨"com/example/warmline/warmline/core/Limit", "largestGuarded", "(IZ)Ljava/util/Optional;"⟩ : MethodName)) hown (mvT hZ (hw _ (List.mem_of_getElem? (i := 0) rfl))) (mvT hZ (hw _ (List.mem_of_getElem? (i := 1) rfl))) (mvT hZ (hw _ (List.mem_of_getElem? (i := 2) rfl))) (mvT hZ (hw _ (List.mem_of_getElem? (i := 3) rfl))) (by decide) (backOf (W := 0) (own_lgFreq l Z a0 hw [] n1 sg a_EMPTY a_HUGE_METHOD_LIMIT a_FREQ_INLINE_SIZE h0 n0 O0 S_HUGE_METHOD_LIMIT E_HUGE_METHOD_LIMIT F_HUGE_METHOD_LIMIT_bytes S_FREQ_INLINE_SIZE E_FREQ_INLINE_SIZE F_FREQ_INLINE_SIZE_bytes S_EMPTY hc60_0 hc72_6 hc80_7) hZ (hw _ (List.mem_of_getElem? (i := 3) rfl)) (hw _ (List.mem_of_getElem? (i := 2) rfl)) (by decide) (by decide)) (g := (mkF mM 97 #[.val (.int p0), .val (.int p1), .val (.int sg), .val (.int md), .val (.int n1), .val (.ref a_FREQ_INLINE_SIZE), .unset, .unset] [(.int sg), (.int n1)])) rfl (by rw [hml]; rfl) (argsL := [(.int n1), (.int sg)]) (rest := []) (lenOf own_pd5 rfl) rfl (by show 2 * 0 + _ ≤ _; exact Nat.le_of_eq rfl) (hb hby at_97) (fun _ _ => ⟨rfl, e9, (by decide : 0 + 1 ≤ _), (by decide : 0 + 1 ≤ _)⟩)
          dsimp only [Pt.U, Pt.locs, Pt.cells, Pt.slots] at X10 l10 y10 z10 st10 hQ10
          subst l10 y10 z10
          obtain ⟨c10, rfl, Nq10, g_c10, K10, E_c10, F_c10⟩ := hQ10
          have N10 := Fr.app N0 Nq10
          have O10 := O0.keep K10 all0
          refine own_go st10 ?_
          show own_Ends _ _ _ _ (T10.setTop (mkF mM 100 #[.val (.int p0), .val (.int p1), .val (.int sg), .val (.int md), .val (.int n1), .val (.ref a_FREQ_INLINE_SIZE), .unset, .unset] [(.ref c10)]))
          refine own_go (fun _ k => XS.astore X10.here hx rfl (hb hby at_100) rfl rfl (l' := #[.val (.int p0), .val (.int p1), .val (.int sg), .val (.int md), .val (.int n1), .val (.ref a_FREQ_INLINE_SIZE), .val (.ref c10), .unset]) rfl k) ?_
          show own_Ends _ _ _ _ (T10.setTop (mkF mM 102 #[.val (.int p0), .val (.int p1), .val (.int sg), .val (.int md), .val (.int n1), .val (.ref a_FREQ_INLINE_SIZE), .val (.ref c10), .unset] []))
          refine own_go (fun _ k => XS.aload X10.here hx rfl (hb hby at_102) rfl rfl k) ?_
          show own_Ends _ _ _ _ (T10.setTop (mkF mM 104 #[.val (.int p0), .val (.int p1), .val (.int sg), .val (.int md), .val (.int n1), .val (.ref a_FREQ_INLINE_SIZE), .val (.ref c10), .unset] [(.ref c10)]))
          obtain ⟨cq11, kq11, q11a, q11b, q11c⟩ := isOf hZ rfl E_c10
          obtain ⟨_, _, ⟨T11, Lz11, kz11, nz11⟩, -, X11, ⟨Lc11, hQ11, l11, y11, z11⟩, st11⟩ := X10.virtualBack hx (y := (⟨"java/util/Optional", "isPresent", "()Z"⟩ : MethodName)) (z := (⟨"java/util/Optional", "isPresent", "()Z"⟩ : MethodName)) hown (mvT hZ (hw _ (List.mem_of_getElem? (i := 18) rfl))) (mvT hZ (hw _ (List.mem_of_getElem? (i := 19) rfl))) (notFace_of_selects (args := #[]) (mvT hZ (hw _ (List.mem_of_getElem? (i := 21) rfl)))) (mvT hZ (hw _ (List.mem_of_getElem? (i := 21) rfl))) (mvT hZ (hw _ (List.mem_of_getElem? (i := 20) rfl))) (by decide) (backOf (W := 0) (own_present l Z a0 hw [] c10 a_FREQ_INLINE_SIZE T10.heap n0 O10 F_c10) hZ (hw _ (List.mem_of_getElem? (i := 22) rfl)) (hw _ (List.mem_of_getElem? (i := 15) rfl)) (by decide) (by decide)) q11a q11c (g := (mkF mM 104 #[.val (.int p0), .val (.int p1), .val (.int sg), .val (.int md), .val (.int n1), .val (.ref a_FREQ_INLINE_SIZE), .val (.ref c10), .unset] [(.ref c10)])) rfl (by rw [hml]; rfl) (Steps.refl _) (argsL := []) (rest := []) (lenOf own_pd6 rfl) rfl (by show 2 * 0 + _ ≤ _; exact Nat.le_of_eq rfl) (hb hby at_104) (fun _ _ => ⟨rfl, rfl, (by decide : 1 + 0 ≤ _), (by decide : 1 + 0 ≤ _)⟩)
          dsimp only [Pt.U, Pt.locs, Pt.cells, Pt.slots] at X11 l11 y11 z11 st11 hQ11
          subst l11 y11 z11
          obtain ⟨rfl, Nq11, e11⟩ := hQ11
          have N11 := Fr.app N10 Nq11
          refine own_tr st11 ?_
          show own_Ends _ _ _ _ (T11.setTop (mkF mM 107 #[.val (.int p0), .val (.int p1), .val (.int sg), .val (.int md), .val (.int n1), .val (.ref a_FREQ_INLINE_SIZE), .val (.ref c10), .unset] [(.int (1 : Int32))]))
          refine own_go (fun _ k => XS.ifNo X11.here hx rfl (hb hby at_107) rfl ((if0 _ _).trans (feq (by decide : ¬ ((1 : Int32) = (0 : Int32)))).1) k) ?_
          show own_Ends _ _ _ _ (T11.setTop (mkF mM 110 #[.val (.int p0), .val (.int p1), .val (.int sg), .val (.int md), .val (.int n1), .val (.ref a_FREQ_INLINE_SIZE), .val (.ref c10), .unset] []))
          refine own_go (fun _ k => XS.aload X11.here hx rfl (hb hby at_110) rfl rfl k) ?_
          show own_Ends _ _ _ _ (T11.setTop (mkF mM 112 #[.val (.int p0), .val (.int p1), .val (.int sg), .val (.int md), .val (.int n1), .val (.ref a_FREQ_INLINE_SIZE), .val (.ref c10), .unset] [(.ref c10)]))
          obtain ⟨cq12, kq12, q12a, q12b, q12c⟩ := isOf hZ e11 E_c10
          obtain ⟨_, _, ⟨T12, Lz12, kz12, nz12⟩, -, X12, ⟨Lc12, hQ12, l12, y12, z12⟩, st12⟩ := X11.virtualBack hx (y := (⟨"java/util/Optional", "get", "()Ljava/lang/Object;"⟩ : MethodName)) (z := (⟨"java/util/Optional", "get", "()Ljava/lang/Object;"⟩ : MethodName)) hown (mvT hZ (hw _ (List.mem_of_getElem? (i := 44) rfl))) (mvT hZ (hw _ (List.mem_of_getElem? (i := 45) rfl))) (notFace_of_selects (args := #[]) (mvT hZ (hw _ (List.mem_of_getElem? (i := 47) rfl)))) (mvT hZ (hw _ (List.mem_of_getElem? (i := 47) rfl))) (mvT hZ (hw _ (List.mem_of_getElem? (i := 46) rfl))) (by decide) (backOf (W := 0) (own_get l Z a0 hw [] c10 a_FREQ_INLINE_SIZE T10.heap n0 O10 F_c10) hZ (hw _ (List.mem_of_getElem? (i := 48) rfl)) (hw _ (List.mem_of_getElem? (i := 15) rfl)) (by decide) (by decide)) q12a q12c (g := (mkF mM 112 #[.val (.int p0), .val (.int p1), .val (.int sg), .val (.int md), .val (.int n1), .val (.ref a_FREQ_INLINE_SIZE), .val (.ref c10), .unset] [(.ref c10)])) rfl (by rw [hml]; rfl) (Steps.refl _) (argsL := []) (rest := []) (lenOf own_pd7 rfl) rfl (by show 2 * 0 + _ ≤ _; exact Nat.le_of_eq rfl) (hb hby at_112) (fun _ _ => ⟨rfl, e11, (by decide : 1 + 0 ≤ _), (by decide : 1 + 0 ≤ _)⟩)
          dsimp only [Pt.U, Pt.locs, Pt.cells, Pt.slots] at X12 l12 y12 z12 st12 hQ12
          subst l12 y12 z12
          obtain ⟨rfl, Nq12, e12⟩ := hQ12
          have N12 := Fr.app N11 Nq12
          refine own_tr st12 ?_
          show own_Ends _ _ _ _ (T12.setTop (mkF mM 115 #[.val (.int p0), .val (.int p1), .val (.int sg), .val (.int md), .val (.int n1), .val (.ref a_FREQ_INLINE_SIZE), .val (.ref c10), .unset] [(.ref a_FREQ_INLINE_SIZE)]))
          obtain ⟨T13, X13, e13, st13⟩ := castY X12 hx hZ hown (hw _ (List.mem_of_getElem? (i := 49) rfl)) e12 (Ins.self (E_FREQ_INLINE_SIZE.ext O10.2)) (g := (mkF mM 115 #[.val (.int p0), .val (.int p1), .val (.int sg), .val (.int md), .val (.int n1), .val (.ref a_FREQ_INLINE_SIZE), .val (.ref c10), .unset] [(.ref a_FREQ_INLINE_SIZE)])) rfl rfl (hb hby at_115)
          refine own_go st13 ?_
          show own_Ends _ _ _ _ (T13.setTop (mkF mM 118 #[.val (.int p0), .val (.int p1), .val (.int sg), .val (.int md), .val (.int n1), .val (.ref a_FREQ_INLINE_SIZE), .val (.ref c10), .unset] [(.ref a_FREQ_INLINE_SIZE)]))
          refine own_go (fun _ k => XS.goto X13.here hx rfl (pc0 := 118) (pc' := 122) rfl (hb hby at_118) (by decide) (by decide) k) ?_
          show own_Ends _ _ _ _ (T13.setTop (mkF mM 122 #[.val (.int p0), .val (.int p1), .val (.int sg), .val (.int md), .val (.int n1), .val (.ref a_FREQ_INLINE_SIZE), .val (.ref c10), .unset] [(.ref a_FREQ_INLINE_SIZE)]))
          refine own_go (fun _ k => XS.astore X13.here hx rfl (hb hby at_122) rfl rfl (l' := #[.val (.int p0), .val (.int p1), .val (.int sg), .val (.int md), .val (.int n1), .val (.ref a_FREQ_INLINE_SIZE), .val (.ref c10), .val (.ref a_FREQ_INLINE_SIZE)]) rfl k) ?_
          show own_Ends _ _ _ _ (T13.setTop (mkF mM 124 #[.val (.int p0), .val (.int p1), .val (.int sg), .val (.int md), .val (.int n1), .val (.ref a_FREQ_INLINE_SIZE), .val (.ref c10), .val (.ref a_FREQ_INLINE_SIZE)] []))
          refine own_go (fun _ k => XS.aload X13.here hx rfl (hb hby at_124) rfl rfl k) ?_
          show own_Ends _ _ _ _ (T13.setTop (mkF mM 126 #[.val (.int p0), .val (.int p1), .val (.int sg), .val (.int md), .val (.int n1), .val (.ref a_FREQ_INLINE_SIZE), .val (.ref c10), .val (.ref a_FREQ_INLINE_SIZE)] [(.ref a_FREQ_INLINE_SIZE)]))
          refine own_go (fun _ k => XS.aload X13.here hx rfl (hb hby at_126) rfl rfl k) ?_
          show own_Ends _ _ _ _ (T13.setTop (mkF mM 128 #[.val (.int p0), .val (.int p1), .val (.int sg), .val (.int md), .val (.int n1), .val (.ref a_FREQ_INLINE_SIZE), .val (.ref c10), .val (.ref a_FREQ_INLINE_SIZE)] [(.ref a_FREQ_INLINE_SIZE), (.ref a_FREQ_INLINE_SIZE)]))
          refine own_go (fun _ k => Jvm.RoadKit.acmp (g := (mkF mM 128 #[.val (.int p0), .val (.int p1), .val (.int sg), .val (.int md), .val (.int n1), .val (.ref a_FREQ_INLINE_SIZE), .val (.ref c10), .val (.ref a_FREQ_INLINE_SIZE)] [(.ref a_FREQ_INLINE_SIZE), (.ref a_FREQ_INLINE_SIZE)])) X13 hx rfl rfl rfl (pc0 := 128) (pc' := 131) (same := true) rfl (hb hby at_128) rfl (decide_eq_true rfl) (by decide) (by decide) k) ?_
          show own_Ends _ _ _ _ (T13.setTop (mkF mM 131 #[.val (.int p0), .val (.int p1), .val (.int sg), .val (.int md), .val (.int n1), .val (.ref a_FREQ_INLINE_SIZE), .val (.ref c10), .val (.ref a_FREQ_INLINE_SIZE)] []))
          refine own_go (fun _ k => XS.iconst X13.here hx rfl (hb hby at_131) k) ?_
          show own_Ends _ _ _ _ (T13.setTop (mkF mM 132 #[.val (.int p0), .val (.int p1), .val (.int sg), .val (.int md), .val (.int n1), .val (.ref a_FREQ_INLINE_SIZE), .val (.ref c10), .val (.ref a_FREQ_INLINE_SIZE)] [(.int (1 : Int32))]))
          refine own_go (fun _ k => XS.goto X13.here hx rfl (pc0 := 132) (pc' := 136) rfl (hb hby at_132) (by decide) (by decide) k) ?_
          show own_Ends _ _ _ _ (T13.setTop (mkF mM 136 #[.val (.int p0), .val (.int p1), .val (.int sg), .val (.int md), .val (.int n1), .val (.ref a_FREQ_INLINE_SIZE), .val (.ref c10), .val (.ref a_FREQ_INLINE_SIZE)] [(.int (1 : Int32))]))
          exact own_retZ X13 hx (BodyLoose.notSynchronized Bd) Bd.returns rfl (hb hby at_136) (by decide) (by decide) (by rw [e13]; exact ⟨rfl, N12⟩)
        · refine own_go (fun _ k => XS.icmpYes X0.here hx rfl (pc0 := 80) (pc' := 91) rfl (hb hby at_80) rfl (flt hc80_7).2.2.2 (by decide) (by decide) k) ?_
          show own_Ends _ _ _ _ (s₁.setTop (mkF mM 91 #[.val (.int p0), .val (.int p1), .val (.int sg), .val (.int md), .val (.int n1), .unset, .unset, .unset] []))
          refine own_go (fun _ k => XS.aconstNull X0.here hx rfl (hb hby at_91) k) ?_
          show own_Ends _ _ _ _ (s₁.setTop (mkF mM 92 #[.val (.int p0), .val (.int p1), .val (.int sg), .val (.int md), .val (.int n1), .unset, .unset, .unset] [.null]))
          refine own_go (fun _ k => XS.astore X0.here hx rfl (hb hby at_92) rfl rfl (l' := #[.val (.int p0), .val (.int p1), .val (.int sg), .val (.int md), .val (.int n1), .val .null, .unset, .unset]) rfl k) ?_
          show own_Ends _ _ _ _ (s₁.setTop (mkF mM 94 #[.val (.int p0), .val (.int p1), .val (.int sg), .val (.int md), .val (.int n1), .val .null, .unset, .unset] []))
          refine own_go (fun _ k => XS.iload X0.here hx rfl (hb hby at_94) rfl k) ?_
          show own_Ends _ _ _ _ (s₁.setTop (mkF mM 96 #[.val (.int p0), .val (.int p1), .val (.int sg), .val (.int md), .val (.int n1), .val .null, .unset, .unset] [(.int n1)]))
          refine own_go (fun _ k => XS.iloadN X0.here hx rfl (hb hby at_96) rfl k) ?_
          show own_Ends _ _ _ _ (s₁.setTop (mkF mM 97 #[.val (.int p0), .val (.int p1), .val (.int sg), .val (.int md), .val (.int n1), .val .null, .unset, .unset] [(.int sg), (.int n1)]))
          obtain ⟨_, _, ⟨T14, Lz14, kz14, nz14⟩, -, X14, ⟨Lc14, hQ14, l14, y14, z14⟩, st14⟩ := Jvm.LawKit.callS X0 hx (y := (⟨"com/example/warmline/warmline/core/Limit", "largestGuarded", "(IZ)Ljava/util/Optional;"⟩ : MethodName)) hown (mvT hZ (hw _ (List.mem_of_getElem? (i := 0) rfl))) (mvT hZ (hw _ (List.mem_of_getElem? (i := 1) rfl))) (mvT hZ (hw _ (List.mem_of_getElem? (i := 2) rfl))) (mvT hZ (hw _ (List.mem_of_getElem? (i := 3) rfl))) (by decide) (backOf (W := 0) (own_lgNone l Z a0 hw [] n1 sg a_EMPTY a_HUGE_METHOD_LIMIT a_FREQ_INLINE_SIZE h0 n0 O0 S_HUGE_METHOD_LIMIT E_HUGE_METHOD_LIMIT F_HUGE_METHOD_LIMIT_bytes S_FREQ_INLINE_SIZE E_FREQ_INLINE_SIZE F_FREQ_INLINE_SIZE_bytes S_EMPTY hc60_0 hc72_6 hc80_7) hZ (hw _ (List.mem_of_getElem? (i := 3) rfl)) (hw _ (List.mem_of_getElem? (i := 2) rfl)) (by decide) (by decide)) (g := (mkF mM 97 #[.val (.int p0), .val (.int p1), .val (.int sg), .val (.int md), .val (.int n1), .val .null, .unset, .unset] [(.int sg), (.int n1)])) rfl (by rw [hml]; rfl) (argsL := [(.int n1), (.int sg)]) (rest := []) (lenOf own_pd5 rfl) rfl (by show 2 * 0 + _ ≤ _; exact Nat.le_of_eq rfl) (hb hby at_97) (fun _ _ => ⟨rfl, e0, (by decide : 0 + 0 ≤ _), (by decide : 0 + 0 ≤ _)⟩)
          dsimp only [Pt.U, Pt.locs, Pt.cells, Pt.slots] at X14 l14 y14 z14 st14 hQ14
          subst l14 y14 z14
          obtain ⟨rfl, Nq14, e14⟩ := hQ14
          have N14 := Fr.app N0 Nq14
          refine own_go st14 ?_
          show own_Ends _ _ _ _ (T14.setTop (mkF mM 100 #[.val (.int p0), .val (.int p1), .val (.int sg), .val (.int md), .val (.int n1), .val .null, .unset, .unset] [(.ref a_EMPTY)]))
          refine own_go (fun _ k => XS.astore X14.here hx rfl (hb hby at_100) rfl rfl (l' := #[.val (.int p0), .val (.int p1), .val (.int sg), .val (.int md), .val (.int n1), .val .null, .val (.ref a_EMPTY), .unset]) rfl k) ?_
          show own_Ends _ _ _ _ (T14.setTop (mkF mM 102 #[.val (.int p0), .val (.int p1), .val (.int sg), .val (.int md), .val (.int n1), .val .null, .val (.ref a_EMPTY), .unset] []))
          refine own_go (fun _ k => XS.aload X14.here hx rfl (hb hby at_102) rfl rfl k) ?_
          show own_Ends _ _ _ _ (T14.setTop (mkF mM 104 #[.val (.int p0), .val (.int p1), .val (.int sg), .val (.int md), .val (.int n1), .val .null, .val (.ref a_EMPTY), .unset] [(.ref a_EMPTY)]))
          obtain ⟨cq15, kq15, q15a, q15b, q15c⟩ := isOf hZ e14 (E_EMPTY.ext O0.2)
          obtain ⟨_, _, ⟨T15, Lz15, kz15, nz15⟩, -, X15, ⟨Lc15, hQ15, l15, y15, z15⟩, st15⟩ := X14.virtualBack hx (y := (⟨"java/util/Optional", "isPresent", "()Z"⟩ : MethodName)) (z := (⟨"java/util/Optional", "isPresent", "()Z"⟩ : MethodName)) hown (mvT hZ (hw _ (List.mem_of_getElem? (i := 18) rfl))) (mvT hZ (hw _ (List.mem_of_getElem? (i := 19) rfl))) (notFace_of_selects (args := #[]) (mvT hZ (hw _ (List.mem_of_getElem? (i := 21) rfl)))) (mvT hZ (hw _ (List.mem_of_getElem? (i := 21) rfl))) (mvT hZ (hw _ (List.mem_of_getElem? (i := 20) rfl))) (by decide) (backOf (W := 0) (own_absent l Z a0 hw [] a_EMPTY h0 n0 O0 (F_EMPTY_value.ext O0.2)) hZ (hw _ (List.mem_of_getElem? (i := 22) rfl)) (hw _ (List.mem_of_getElem? (i := 15) rfl)) (by decide) (by decide)) q15a q15c (g := (mkF mM 104 #[.val (.int p0), .val (.int p1), .val (.int sg), .val (.int md), .val (.int n1), .val .null, .val (.ref a_EMPTY), .unset] [(.ref a_EMPTY)])) rfl (by rw [hml]; rfl) (Steps.refl _) (argsL := []) (rest := []) (lenOf own_pd6 rfl) rfl (by show 2 * 0 + _ ≤ _; exact Nat.le_of_eq rfl) (hb hby at_104) (fun _ _ => ⟨rfl, e14, (by decide : 0 + 0 ≤ _), (by decide : 0 + 0 ≤ _)⟩)
          dsimp only [Pt.U, Pt.locs, Pt.cells, Pt.slots] at X15 l15 y15 z15 st15 hQ15
          subst l15 y15 z15
          obtain ⟨rfl, Nq15, e15⟩ := hQ15
          have N15 := Fr.app N14 Nq15
          refine own_tr st15 ?_
          show own_Ends _ _ _ _ (T15.setTop (mkF mM 107 #[.val (.int p0), .val (.int p1), .val (.int sg), .val (.int md), .val (.int n1), .val .null, .val (.ref a_EMPTY), .unset] [(.int (0 : Int32))]))
          refine own_go (fun _ k => XS.ifYes X15.here hx rfl (pc0 := 107) (pc' := 121) rfl (hb hby at_107) rfl ((if0 _ _).trans (teq (by decide : (0 : Int32) = (0 : Int32))).1) (by decide) (by decide) k) ?_
          show own_Ends _ _ _ _ (T15.setTop (mkF mM 121 #[.val (.int p0), .val (.int p1), .val (.int sg), .val (.int md), .val (.int n1), .val .null, .val (.ref a_EMPTY), .unset] []))
          refine own_go (fun _ k => XS.aconstNull X15.here hx rfl (hb hby at_121) k) ?_
          show own_Ends _ _ _ _ (T15.setTop (mkF mM 122 #[.val (.int p0), .val (.int p1), .val (.int sg), .val (.int md), .val (.int n1), .val .null, .val (.ref a_EMPTY), .unset] [.null]))
          refine own_go (fun _ k => XS.astore X15.here hx rfl (hb hby at_122) rfl rfl (l' := #[.val (.int p0), .val (.int p1), .val (.int sg), .val (.int md), .val (.int n1), .val .null, .val (.ref a_EMPTY), .val .null]) rfl k) ?_
          show own_Ends _ _ _ _ (T15.setTop (mkF mM 124 #[.val (.int p0), .val (.int p1), .val (.int sg), .val (.int md), .val (.int n1), .val .null, .val (.ref a_EMPTY), .val .null] []))
          refine own_go (fun _ k => XS.aload X15.here hx rfl (hb hby at_124) rfl rfl k) ?_
          show own_Ends _ _ _ _ (T15.setTop (mkF mM 126 #[.val (.int p0), .val (.int p1), .val (.int sg), .val (.int md), .val (.int n1), .val .null, .val (.ref a_EMPTY), .val .null] [.null]))
          refine own_go (fun _ k => XS.aload X15.here hx rfl (hb hby at_126) rfl rfl k) ?_
          show own_Ends _ _ _ _ (T15.setTop (mkF mM 128 #[.val (.int p0), .val (.int p1), .val (.int sg), .val (.int md), .val (.int n1), .val .null, .val (.ref a_EMPTY), .val .null] [.null, .null]))
          refine own_go (fun _ k => Jvm.RoadKit.acmp (g := (mkF mM 128 #[.val (.int p0), .val (.int p1), .val (.int sg), .val (.int md), .val (.int n1), .val .null, .val (.ref a_EMPTY), .val .null] [.null, .null])) X15 hx rfl rfl rfl (pc0 := 128) (pc' := 131) (same := true) rfl (hb hby at_128) rfl (decide_eq_true rfl) (by decide) (by decide) k) ?_
          show own_Ends _ _ _ _ (T15.setTop (mkF mM 131 #[.val (.int p0), .val (.int p1), .val (.int sg), .val (.int md), .val (.int n1), .val .null, .val (.ref a_EMPTY), .val .null] []))
          refine own_go (fun _ k => XS.iconst X15.here hx rfl (hb hby at_131) k) ?_
          show own_Ends _ _ _ _ (T15.setTop (mkF mM 132 #[.val (.int p0), .val (.int p1), .val (.int sg), .val (.int md), .val (.int n1), .val .null, .val (.ref a_EMPTY), .val .null] [(.int (1 : Int32))]))
          refine own_go (fun _ k => XS.goto X15.here hx rfl (pc0 := 132) (pc' := 136) rfl (hb hby at_132) (by decide) (by decide) k) ?_
          show own_Ends _ _ _ _ (T15.setTop (mkF mM 136 #[.val (.int p0), .val (.int p1), .val (.int sg), .val (.int md), .val (.int n1), .val .null, .val (.ref a_EMPTY), .val .null] [(.int (1 : Int32))]))
          exact own_retZ X15 hx (BodyLoose.notSynchronized Bd) Bd.returns rfl (hb hby at_136) (by decide) (by decide) (by rw [e15]; exact ⟨rfl, N15⟩)
      · refine own_go (fun _ k => XS.ifYes X0.here hx rfl (pc0 := 72) (pc' := 91) rfl (hb hby at_72) rfl ((if0 _ _).trans (feq hc72_6).2) (by decide) (by decide) k) ?_
        show own_Ends _ _ _ _ (s₁.setTop (mkF mM 91 #[.val (.int p0), .val (.int p1), .val (.int sg), .val (.int md), .val (.int n1), .unset, .unset, .unset] []))
        refine own_go (fun _ k => XS.aconstNull X0.here hx rfl (hb hby at_91) k) ?_
        show own_Ends _ _ _ _ (s₁.setTop (mkF mM 92 #[.val (.int p0), .val (.int p1), .val (.int sg), .val (.int md), .val (.int n1), .unset, .unset, .unset] [.null]))
        refine own_go (fun _ k => XS.astore X0.here hx rfl (hb hby at_92) rfl rfl (l' := #[.val (.int p0), .val (.int p1), .val (.int sg), .val (.int md), .val (.int n1), .val .null, .unset, .unset]) rfl k) ?_
        show own_Ends _ _ _ _ (s₁.setTop (mkF mM 94 #[.val (.int p0), .val (.int p1), .val (.int sg), .val (.int md), .val (.int n1), .val .null, .unset, .unset] []))
        refine own_go (fun _ k => XS.iload X0.here hx rfl (hb hby at_94) rfl k) ?_
        show own_Ends _ _ _ _ (s₁.setTop (mkF mM 96 #[.val (.int p0), .val (.int p1), .val (.int sg), .val (.int md), .val (.int n1), .val .null, .unset, .unset] [(.int n1)]))
        refine own_go (fun _ k => XS.iloadN X0.here hx rfl (hb hby at_96) rfl k) ?_
        show own_Ends _ _ _ _ (s₁.setTop (mkF mM 97 #[.val (.int p0), .val (.int p1), .val (.int sg), .val (.int md), .val (.int n1), .val .null, .unset, .unset] [(.int sg), (.int n1)]))
        obtain ⟨_, _, ⟨T16, Lz16, kz16, nz16⟩, -, X16, ⟨Lc16, hQ16, l16, y16, z16⟩, st16⟩ := Jvm.LawKit.callS X0 hx (y := (⟨"com/example/warmline/warmline/core/Limit", "largestGuarded", "(IZ)Ljava/util/Optional;"⟩ : MethodName)) hown (mvT hZ (hw _ (List.mem_of_getElem? (i := 0) rfl))) (mvT hZ (hw _ (List.mem_of_getElem? (i := 1) rfl))) (mvT hZ (hw _ (List.mem_of_getElem? (i := 2) rfl))) (mvT hZ (hw _ (List.mem_of_getElem? (i := 3) rfl))) (by decide) (backOf (W := 0) (own_lgSkip l Z a0 hw [] n1 sg a_EMPTY a_HUGE_METHOD_LIMIT a_FREQ_INLINE_SIZE h0 n0 O0 S_HUGE_METHOD_LIMIT E_HUGE_METHOD_LIMIT F_HUGE_METHOD_LIMIT_bytes S_FREQ_INLINE_SIZE E_FREQ_INLINE_SIZE F_FREQ_INLINE_SIZE_bytes S_EMPTY hc60_0 hc72_6) hZ (hw _ (List.mem_of_getElem? (i := 3) rfl)) (hw _ (List.mem_of_getElem? (i := 2) rfl)) (by decide) (by decide)) (g := (mkF mM 97 #[.val (.int p0), .val (.int p1), .val (.int sg), .val (.int md), .val (.int n1), .val .null, .unset, .unset] [(.int sg), (.int n1)])) rfl (by rw [hml]; rfl) (argsL := [(.int n1), (.int sg)]) (rest := []) (lenOf own_pd5 rfl) rfl (by show 2 * 0 + _ ≤ _; exact Nat.le_of_eq rfl) (hb hby at_97) (fun _ _ => ⟨rfl, e0, (by decide : 0 + 0 ≤ _), (by decide : 0 + 0 ≤ _)⟩)
        dsimp only [Pt.U, Pt.locs, Pt.cells, Pt.slots] at X16 l16 y16 z16 st16 hQ16
        subst l16 y16 z16
        obtain ⟨rfl, Nq16, e16⟩ := hQ16
        have N16 := Fr.app N0 Nq16
        refine own_go st16 ?_
        show own_Ends _ _ _ _ (T16.setTop (mkF mM 100 #[.val (.int p0), .val (.int p1), .val (.int sg), .val (.int md), .val (.int n1), .val .null, .unset, .unset] [(.ref a_EMPTY)]))
        refine own_go (fun _ k => XS.astore X16.here hx rfl (hb hby at_100) rfl rfl (l' := #[.val (.int p0), .val (.int p1), .val (.int sg), .val (.int md), .val (.int n1), .val .null, .val (.ref a_EMPTY), .unset]) rfl k) ?_
        show own_Ends _ _ _ _ (T16.setTop (mkF mM 102 #[.val (.int p0), .val (.int p1), .val (.int sg), .val (.int md), .val (.int n1), .val .null, .val (.ref a_EMPTY), .unset] []))
        refine own_go (fun _ k => XS.aload X16.here hx rfl (hb hby at_102) rfl rfl k) ?_
        show own_Ends _ _ _ _ (T16.setTop (mkF mM 104 #[.val (.int p0), .val (.int p1), .val (.int sg), .val (.int md), .val (.int n1), .val .null, .val (.ref a_EMPTY), .unset] [(.ref a_EMPTY)]))
        obtain ⟨cq17, kq17, q17a, q17b, q17c⟩ := isOf hZ e16 (E_EMPTY.ext O0.2)
        obtain ⟨_, _, ⟨T17, Lz17, kz17, nz17⟩, -, X17, ⟨Lc17, hQ17, l17, y17, z17⟩, st17⟩ := X16.virtualBack hx (y := (⟨"java/util/Optional", "isPresent", "()Z"⟩ : MethodName)) (z := (⟨"java/util/Optional", "isPresent", "()Z"⟩ : MethodName)) hown (mvT hZ (hw _ (List.mem_of_getElem? (i := 18) rfl))) (mvT hZ (hw _ (List.mem_of_getElem? (i := 19) rfl))) (notFace_of_selects (args := #[]) (mvT hZ (hw _ (List.mem_of_getElem? (i := 21) rfl)))) (mvT hZ (hw _ (List.mem_of_getElem? (i := 21) rfl))) (mvT hZ (hw _ (List.mem_of_getElem? (i := 20) rfl))) (by decide) (backOf (W := 0) (own_absent l Z a0 hw [] a_EMPTY h0 n0 O0 (F_EMPTY_value.ext O0.2)) hZ (hw _ (List.mem_of_getElem? (i := 22) rfl)) (hw _ (List.mem_of_getElem? (i := 15) rfl)) (by decide) (by decide)) q17a q17c (g := (mkF mM 104 #[.val (.int p0), .val (.int p1), .val (.int sg), .val (.int md), .val (.int n1), .val .null, .val (.ref a_EMPTY), .unset] [(.ref a_EMPTY)])) rfl (by rw [hml]; rfl) (Steps.refl _) (argsL := []) (rest := []) (lenOf own_pd6 rfl) rfl (by show 2 * 0 + _ ≤ _; exact Nat.le_of_eq rfl) (hb hby at_104) (fun _ _ => ⟨rfl, e16, (by decide : 0 + 0 ≤ _), (by decide : 0 + 0 ≤ _)⟩)
        dsimp only [Pt.U, Pt.locs, Pt.cells, Pt.slots] at X17 l17 y17 z17 st17 hQ17
        subst l17 y17 z17
        obtain ⟨rfl, Nq17, e17⟩ := hQ17
        have N17 := Fr.app N16 Nq17
        refine own_tr st17 ?_
        show own_Ends _ _ _ _ (T17.setTop (mkF mM 107 #[.val (.int p0), .val (.int p1), .val (.int sg), .val (.int md), .val (.int n1), .val .null, .val (.ref a_EMPTY), .unset] [(.int (0 : Int32))]))
        refine own_go (fun _ k => XS.ifYes X17.here hx rfl (pc0 := 107) (pc' := 121) rfl (hb hby at_107) rfl ((if0 _ _).trans (teq (by decide : (0 : Int32) = (0 : Int32))).1) (by decide) (by decide) k) ?_
        show own_Ends _ _ _ _ (T17.setTop (mkF mM 121 #[.val (.int p0), .val (.int p1), .val (.int sg), .val (.int md), .val (.int n1), .val .null, .val (.ref a_EMPTY), .unset] []))
        refine own_go (fun _ k => XS.aconstNull X17.here hx rfl (hb hby at_121) k) ?_
        show own_Ends _ _ _ _ (T17.setTop (mkF mM 122 #[.val (.int p0), .val (.int p1), .val (.int sg), .val (.int md), .val (.int n1), .val .null, .val (.ref a_EMPTY), .unset] [.null]))
        refine own_go (fun _ k => XS.astore X17.here hx rfl (hb hby at_122) rfl rfl (l' := #[.val (.int p0), .val (.int p1), .val (.int sg), .val (.int md), .val (.int n1), .val .null, .val (.ref a_EMPTY), .val .null]) rfl k) ?_
        show own_Ends _ _ _ _ (T17.setTop (mkF mM 124 #[.val (.int p0), .val (.int p1), .val (.int sg), .val (.int md), .val (.int n1), .val .null, .val (.ref a_EMPTY), .val .null] []))
        refine own_go (fun _ k => XS.aload X17.here hx rfl (hb hby at_124) rfl rfl k) ?_
        show own_Ends _ _ _ _ (T17.setTop (mkF mM 126 #[.val (.int p0), .val (.int p1), .val (.int sg), .val (.int md), .val (.int n1), .val .null, .val (.ref a_EMPTY), .val .null] [.null]))
        refine own_go (fun _ k => XS.aload X17.here hx rfl (hb hby at_126) rfl rfl k) ?_
        show own_Ends _ _ _ _ (T17.setTop (mkF mM 128 #[.val (.int p0), .val (.int p1), .val (.int sg), .val (.int md), .val (.int n1), .val .null, .val (.ref a_EMPTY), .val .null] [.null, .null]))
        refine own_go (fun _ k => Jvm.RoadKit.acmp (g := (mkF mM 128 #[.val (.int p0), .val (.int p1), .val (.int sg), .val (.int md), .val (.int n1), .val .null, .val (.ref a_EMPTY), .val .null] [.null, .null])) X17 hx rfl rfl rfl (pc0 := 128) (pc' := 131) (same := true) rfl (hb hby at_128) rfl (decide_eq_true rfl) (by decide) (by decide) k) ?_
        show own_Ends _ _ _ _ (T17.setTop (mkF mM 131 #[.val (.int p0), .val (.int p1), .val (.int sg), .val (.int md), .val (.int n1), .val .null, .val (.ref a_EMPTY), .val .null] []))
        refine own_go (fun _ k => XS.iconst X17.here hx rfl (hb hby at_131) k) ?_
        show own_Ends _ _ _ _ (T17.setTop (mkF mM 132 #[.val (.int p0), .val (.int p1), .val (.int sg), .val (.int md), .val (.int n1), .val .null, .val (.ref a_EMPTY), .val .null] [(.int (1 : Int32))]))
        refine own_go (fun _ k => XS.goto X17.here hx rfl (pc0 := 132) (pc' := 136) rfl (hb hby at_132) (by decide) (by decide) k) ?_
        show own_Ends _ _ _ _ (T17.setTop (mkF mM 136 #[.val (.int p0), .val (.int p1), .val (.int sg), .val (.int md), .val (.int n1), .val .null, .val (.ref a_EMPTY), .val .null] [(.int (1 : Int32))]))
        exact own_retZ X17 hx (BodyLoose.notSynchronized Bd) Bd.returns rfl (hb hby at_136) (by decide) (by decide) (by rw [e17]; exact ⟨rfl, N17⟩)
  refine own_go (fun _ k => XS.iloadN X0.here hx rfl (hb hby at_0) rfl k) ?_
  show own_Ends _ _ _ _ (s₁.setTop (mkF mM 1 #[.val (.int p0), .val (.int p1), .unset, .unset, .unset, .unset, .unset, .unset] [(.int p1)]))
  refine own_go (fun _ k => XS.iconst X0.here hx rfl (hb hby at_1) k) ?_
  show own_Ends _ _ _ _ (s₁.setTop (mkF mM 2 #[.val (.int p0), .val (.int p1), .unset, .unset, .unset, .unset, .unset, .unset] [(.int (1 : Int32)), (.int p1)]))
  refine own_go (fun _ k => XS.iand X0.here hx rfl (hb hby at_2) rfl k) ?_
  show own_Ends _ _ _ _ (s₁.setTop (mkF mM 3 #[.val (.int p0), .val (.int p1), .unset, .unset, .unset, .unset, .unset, .unset] [(.int (p1 &&& (1 : Int32)))]))
  by_cases hc3_17 : (p1 &&& (1 : Int32)) = (0 : Int32)
  · refine own_go (fun _ k => XS.ifYes X0.here hx rfl (pc0 := 3) (pc' := 10) rfl (hb hby at_3) rfl ((if0 _ _).trans (teq hc3_17).1) (by decide) (by decide) k) ?_
    show own_Ends _ _ _ _ (s₁.setTop (mkF mM 10 #[.val (.int p0), .val (.int p1), .unset, .unset, .unset, .unset, .unset, .unset] []))
    refine own_go (fun _ k => XS.iconst X0.here hx rfl (hb hby at_10) k) ?_
    show own_Ends _ _ _ _ (s₁.setTop (mkF mM 11 #[.val (.int p0), .val (.int p1), .unset, .unset, .unset, .unset, .unset, .unset] [(.int (0 : Int32))]))
    refine own_go (fun _ k => XS.istoreN X0.here hx rfl (hb hby at_11) rfl (l' := #[.val (.int p0), .val (.int p1), .val (.int (0 : Int32)), .unset, .unset, .unset, .unset, .unset]) rfl k) ?_
    show own_Ends _ _ _ _ (s₁.setTop (mkF mM 12 #[.val (.int p0), .val (.int p1), .val (.int (0 : Int32)), .unset, .unset, .unset, .unset, .unset] []))
    refine own_go (fun _ k => XS.iloadN X0.here hx rfl (hb hby at_12) rfl k) ?_
    show own_Ends _ _ _ _ (s₁.setTop (mkF mM 13 #[.val (.int p0), .val (.int p1), .val (.int (0 : Int32)), .unset, .unset, .unset, .unset, .unset] [(.int p1)]))
    refine own_go (fun _ k => XS.iconst X0.here hx rfl (hb hby at_13) k) ?_
    show own_Ends _ _ _ _ (s₁.setTop (mkF mM 14 #[.val (.int p0), .val (.int p1), .val (.int (0 : Int32)), .unset, .unset, .unset, .unset, .unset] [(.int (1 : Int32)), (.int p1)]))
    refine own_go (fun _ k => XS.iushr X0.here hx rfl (hb hby at_14) rfl k) ?_
    show own_Ends _ _ _ _ (s₁.setTop (mkF mM 15 #[.val (.int p0), .val (.int p1), .val (.int (0 : Int32)), .unset, .unset, .unset, .unset, .unset] [(.int ((p1.toUInt32 >>> ((1 : Int32) &&& 31).toUInt32).toInt32))]))
    refine own_go (fun _ k => XS.iconst X0.here hx rfl (hb hby at_15) k) ?_
    show own_Ends _ _ _ _ (s₁.setTop (mkF mM 16 #[.val (.int p0), .val (.int p1), .val (.int (0 : Int32)), .unset, .unset, .unset, .unset, .unset] [(.int (3 : Int32)), (.int ((p1.toUInt32 >>> ((1 : Int32) &&& 31).toUInt32).toInt32))]))
    refine own_go (fun _ k => XS.iand X0.here hx rfl (hb hby at_16) rfl k) ?_
    show own_Ends _ _ _ _ (s₁.setTop (mkF mM 17 #[.val (.int p0), .val (.int p1), .val (.int (0 : Int32)), .unset, .unset, .unset, .unset, .unset] [(.int (((p1.toUInt32 >>> ((1 : Int32) &&& 31).toUInt32).toInt32) &&& (3 : Int32)))]))
    refine own_go (fun _ k => XS.istoreN X0.here hx rfl (hb hby at_17) rfl (l' := #[.val (.int p0), .val (.int p1), .val (.int (0 : Int32)), .val (.int (((p1.toUInt32 >>> ((1 : Int32) &&& 31).toUInt32).toInt32) &&& (3 : Int32))), .unset, .unset, .unset, .unset]) rfl k) ?_
    show own_Ends _ _ _ _ (s₁.setTop (mkF mM 18 #[.val (.int p0), .val (.int p1), .val (.int (0 : Int32)), .val (.int (((p1.toUInt32 >>> ((1 : Int32) &&& 31).toUInt32).toInt32) &&& (3 : Int32))), .unset, .unset, .unset, .unset] []))
    refine own_go (fun _ k => XS.iloadN X0.here hx rfl (hb hby at_18) rfl k) ?_
    show own_Ends _ _ _ _ (s₁.setTop (mkF mM 19 #[.val (.int p0), .val (.int p1), .val (.int (0 : Int32)), .val (.int (((p1.toUInt32 >>> ((1 : Int32) &&& 31).toUInt32).toInt32) &&& (3 : Int32))), .unset, .unset, .unset, .unset] [(.int (((p1.toUInt32 >>> ((1 : Int32) &&& 31).toUInt32).toInt32) &&& (3 : Int32)))]))
    refine own_go (fun _ k => XS.iconst X0.here hx rfl (hb hby at_19) k) ?_
    show own_Ends _ _ _ _ (s₁.setTop (mkF mM 20 #[.val (.int p0), .val (.int p1), .val (.int (0 : Int32)), .val (.int (((p1.toUInt32 >>> ((1 : Int32) &&& 31).toUInt32).toInt32) &&& (3 : Int32))), .unset, .unset, .unset, .unset] [(.int (1 : Int32)), (.int (((p1.toUInt32 >>> ((1 : Int32) &&& 31).toUInt32).toInt32) &&& (3 : Int32)))]))
    by_cases hc20_18 : (((p1.toUInt32 >>> ((1 : Int32) &&& 31).toUInt32).toInt32) &&& (3 : Int32)) = (1 : Int32)
    · refine own_go (fun _ k => XS.icmpNo X0.here hx rfl (hb hby at_20) rfl (teq hc20_18).2 k) ?_
      show own_Ends _ _ _ _ (s₁.setTop (mkF mM 23 #[.val (.int p0), .val (.int p1), .val (.int (0 : Int32)), .val (.int (((p1.toUInt32 >>> ((1 : Int32) &&& 31).toUInt32).toInt32) &&& (3 : Int32))), .unset, .unset, .unset, .unset] []))
      refine own_go (fun _ k => XS.sipush X0.here hx rfl (hb hby at_23) k) ?_
      show own_Ends _ _ _ _ (s₁.setTop (mkF mM 26 #[.val (.int p0), .val (.int p1), .val (.int (0 : Int32)), .val (.int (((p1.toUInt32 >>> ((1 : Int32) &&& 31).toUInt32).toInt32) &&& (3 : Int32))), .unset, .unset, .unset, .unset] [(.int (7999 : Int32))]))
      refine own_go (fun _ k => XS.iloadN X0.here hx rfl (hb hby at_26) rfl k) ?_
      show own_Ends _ _ _ _ (s₁.setTop (mkF mM 27 #[.val (.int p0), .val (.int p1), .val (.int (0 : Int32)), .val (.int (((p1.toUInt32 >>> ((1 : Int32) &&& 31).toUInt32).toInt32) &&& (3 : Int32))), .unset, .unset, .unset, .unset] [(.int p0), (.int (7999 : Int32))]))
      refine own_go (fun _ k => XS.iconst X0.here hx rfl (hb hby at_27) k) ?_
      show own_Ends _ _ _ _ (s₁.setTop (mkF mM 28 #[.val (.int p0), .val (.int p1), .val (.int (0 : Int32)), .val (.int (((p1.toUInt32 >>> ((1 : Int32) &&& 31).toUInt32).toInt32) &&& (3 : Int32))), .unset, .unset, .unset, .unset] [(.int (3 : Int32)), (.int p0), (.int (7999 : Int32))]))
      refine own_go (fun _ k => XS.iand X0.here hx rfl (hb hby at_28) rfl k) ?_
      show own_Ends _ _ _ _ (s₁.setTop (mkF mM 29 #[.val (.int p0), .val (.int p1), .val (.int (0 : Int32)), .val (.int (((p1.toUInt32 >>> ((1 : Int32) &&& 31).toUInt32).toInt32) &&& (3 : Int32))), .unset, .unset, .unset, .unset] [(.int (p0 &&& (3 : Int32))), (.int (7999 : Int32))]))
      refine own_go (fun _ k => XS.iadd X0.here hx rfl (hb hby at_29) rfl k) ?_
      show own_Ends _ _ _ _ (s₁.setTop (mkF mM 30 #[.val (.int p0), .val (.int p1), .val (.int (0 : Int32)), .val (.int (((p1.toUInt32 >>> ((1 : Int32) &&& 31).toUInt32).toInt32) &&& (3 : Int32))), .unset, .unset, .unset, .unset] [(.int ((7999 : Int32) + (p0 &&& (3 : Int32))))]))
      refine own_go (fun _ k => XS.istore X0.here hx rfl (hb hby at_30) rfl (l' := #[.val (.int p0), .val (.int p1), .val (.int (0 : Int32)), .val (.int (((p1.toUInt32 >>> ((1 : Int32) &&& 31).toUInt32).toInt32) &&& (3 : Int32))), .val (.int ((7999 : Int32) + (p0 &&& (3 : Int32)))), .unset, .unset, .unset]) rfl k) ?_
      show own_Ends _ _ _ _ (s₁.setTop (mkF mM 32 #[.val (.int p0), .val (.int p1), .val (.int (0 : Int32)), .val (.int (((p1.toUInt32 >>> ((1 : Int32) &&& 31).toUInt32).toInt32) &&& (3 : Int32))), .val (.int ((7999 : Int32) + (p0 &&& (3 : Int32)))), .unset, .unset, .unset] []))
      refine own_go (fun _ k => XS.goto X0.here hx rfl (pc0 := 32) (pc' := 55) rfl (hb hby at_32) (by decide) (by decide) k) ?_
      show own_Ends _ _ _ _ (s₁.setTop (mkF mM 55 #[.val (.int p0), .val (.int p1), .val (.int (0 : Int32)), .val (.int (((p1.toUInt32 >>> ((1 : Int32) &&& 31).toUInt32).toInt32) &&& (3 : Int32))), .val (.int ((7999 : Int32) + (p0 &&& (3 : Int32)))), .unset, .unset, .unset] []))
      exact cut (0 : Int32) (((p1.toUInt32 >>> ((1 : Int32) &&& 31).toUInt32).toInt32) &&& (3 : Int32)) ((7999 : Int32) + (p0 &&& (3 : Int32)))
    · refine own_go (fun _ k => XS.icmpYes X0.here hx rfl (pc0 := 20) (pc' := 35) rfl (hb hby at_20) rfl (feq hc20_18).2 (by decide) (by decide) k) ?_
      show own_Ends _ _ _ _ (s₁.setTop (mkF mM 35 #[.val (.int p0), .val (.int p1), .val (.int (0 : Int32)), .val (.int (((p1.toUInt32 >>> ((1 : Int32) &&& 31).toUInt32).toInt32) &&& (3 : Int32))), .unset, .unset, .unset, .unset] []))
      refine own_go (fun _ k => XS.iloadN X0.here hx rfl (hb hby at_35) rfl k) ?_
      show own_Ends _ _ _ _ (s₁.setTop (mkF mM 36 #[.val (.int p0), .val (.int p1), .val (.int (0 : Int32)), .val (.int (((p1.toUInt32 >>> ((1 : Int32) &&& 31).toUInt32).toInt32) &&& (3 : Int32))), .unset, .unset, .unset, .unset] [(.int (((p1.toUInt32 >>> ((1 : Int32) &&& 31).toUInt32).toInt32) &&& (3 : Int32)))]))
      refine own_go (fun _ k => XS.iconst X0.here hx rfl (hb hby at_36) k) ?_
      show own_Ends _ _ _ _ (s₁.setTop (mkF mM 37 #[.val (.int p0), .val (.int p1), .val (.int (0 : Int32)), .val (.int (((p1.toUInt32 >>> ((1 : Int32) &&& 31).toUInt32).toInt32) &&& (3 : Int32))), .unset, .unset, .unset, .unset] [(.int (2 : Int32)), (.int (((p1.toUInt32 >>> ((1 : Int32) &&& 31).toUInt32).toInt32) &&& (3 : Int32)))]))
      by_cases hc37_19 : (((p1.toUInt32 >>> ((1 : Int32) &&& 31).toUInt32).toInt32) &&& (3 : Int32)) = (2 : Int32)
      · refine own_go (fun _ k => XS.icmpNo X0.here hx rfl (hb hby at_37) rfl (teq hc37_19).2 k) ?_
        show own_Ends _ _ _ _ (s₁.setTop (mkF mM 40 #[.val (.int p0), .val (.int p1), .val (.int (0 : Int32)), .val (.int (((p1.toUInt32 >>> ((1 : Int32) &&& 31).toUInt32).toInt32) &&& (3 : Int32))), .unset, .unset, .unset, .unset] []))
        refine own_go (fun _ k => XS.sipush X0.here hx rfl (hb hby at_40) k) ?_
        show own_Ends _ _ _ _ (s₁.setTop (mkF mM 43 #[.val (.int p0), .val (.int p1), .val (.int (0 : Int32)), .val (.int (((p1.toUInt32 >>> ((1 : Int32) &&& 31).toUInt32).toInt32) &&& (3 : Int32))), .unset, .unset, .unset, .unset] [(.int (324 : Int32))]))
        refine own_go (fun _ k => XS.iloadN X0.here hx rfl (hb hby at_43) rfl k) ?_
        show own_Ends _ _ _ _ (s₁.setTop (mkF mM 44 #[.val (.int p0), .val (.int p1), .val (.int (0 : Int32)), .val (.int (((p1.toUInt32 >>> ((1 : Int32) &&& 31).toUInt32).toInt32) &&& (3 : Int32))), .unset, .unset, .unset, .unset] [(.int p0), (.int (324 : Int32))]))
        refine own_go (fun _ k => XS.iconst X0.here hx rfl (hb hby at_44) k) ?_
        show own_Ends _ _ _ _ (s₁.setTop (mkF mM 45 #[.val (.int p0), .val (.int p1), .val (.int (0 : Int32)), .val (.int (((p1.toUInt32 >>> ((1 : Int32) &&& 31).toUInt32).toInt32) &&& (3 : Int32))), .unset, .unset, .unset, .unset] [(.int (3 : Int32)), (.int p0), (.int (324 : Int32))]))
        refine own_go (fun _ k => XS.iand X0.here hx rfl (hb hby at_45) rfl k) ?_
        show own_Ends _ _ _ _ (s₁.setTop (mkF mM 46 #[.val (.int p0), .val (.int p1), .val (.int (0 : Int32)), .val (.int (((p1.toUInt32 >>> ((1 : Int32) &&& 31).toUInt32).toInt32) &&& (3 : Int32))), .unset, .unset, .unset, .unset] [(.int (p0 &&& (3 : Int32))), (.int (324 : Int32))]))
        refine own_go (fun _ k => XS.iadd X0.here hx rfl (hb hby at_46) rfl k) ?_
        show own_Ends _ _ _ _ (s₁.setTop (mkF mM 47 #[.val (.int p0), .val (.int p1), .val (.int (0 : Int32)), .val (.int (((p1.toUInt32 >>> ((1 : Int32) &&& 31).toUInt32).toInt32) &&& (3 : Int32))), .unset, .unset, .unset, .unset] [(.int ((324 : Int32) + (p0 &&& (3 : Int32))))]))
        refine own_go (fun _ k => XS.istore X0.here hx rfl (hb hby at_47) rfl (l' := #[.val (.int p0), .val (.int p1), .val (.int (0 : Int32)), .val (.int (((p1.toUInt32 >>> ((1 : Int32) &&& 31).toUInt32).toInt32) &&& (3 : Int32))), .val (.int ((324 : Int32) + (p0 &&& (3 : Int32)))), .unset, .unset, .unset]) rfl k) ?_
        show own_Ends _ _ _ _ (s₁.setTop (mkF mM 49 #[.val (.int p0), .val (.int p1), .val (.int (0 : Int32)), .val (.int (((p1.toUInt32 >>> ((1 : Int32) &&& 31).toUInt32).toInt32) &&& (3 : Int32))), .val (.int ((324 : Int32) + (p0 &&& (3 : Int32)))), .unset, .unset, .unset] []))
        refine own_go (fun _ k => XS.goto X0.here hx rfl (pc0 := 49) (pc' := 55) rfl (hb hby at_49) (by decide) (by decide) k) ?_
        show own_Ends _ _ _ _ (s₁.setTop (mkF mM 55 #[.val (.int p0), .val (.int p1), .val (.int (0 : Int32)), .val (.int (((p1.toUInt32 >>> ((1 : Int32) &&& 31).toUInt32).toInt32) &&& (3 : Int32))), .val (.int ((324 : Int32) + (p0 &&& (3 : Int32)))), .unset, .unset, .unset] []))
        exact cut (0 : Int32) (((p1.toUInt32 >>> ((1 : Int32) &&& 31).toUInt32).toInt32) &&& (3 : Int32)) ((324 : Int32) + (p0 &&& (3 : Int32)))
      · refine own_go (fun _ k => XS.icmpYes X0.here hx rfl (pc0 := 37) (pc' := 52) rfl (hb hby at_37) rfl (feq hc37_19).2 (by decide) (by decide) k) ?_
        show own_Ends _ _ _ _ (s₁.setTop (mkF mM 52 #[.val (.int p0), .val (.int p1), .val (.int (0 : Int32)), .val (.int (((p1.toUInt32 >>> ((1 : Int32) &&& 31).toUInt32).toInt32) &&& (3 : Int32))), .unset, .unset, .unset, .unset] []))
        refine own_go (fun _ k => XS.iloadN X0.here hx rfl (hb hby at_52) rfl k) ?_
        show own_Ends _ _ _ _ (s₁.setTop (mkF mM 53 #[.val (.int p0), .val (.int p1), .val (.int (0 : Int32)), .val (.int (((p1.toUInt32 >>> ((1 : Int32) &&& 31).toUInt32).toInt32) &&& (3 : Int32))), .unset, .unset, .unset, .unset] [(.int p0)]))
        refine own_go (fun _ k => XS.istore X0.here hx rfl (hb hby at_53) rfl (l' := #[.val (.int p0), .val (.int p1), .val (.int (0 : Int32)), .val (.int (((p1.toUInt32 >>> ((1 : Int32) &&& 31).toUInt32).toInt32) &&& (3 : Int32))), .val (.int p0), .unset, .unset, .unset]) rfl k) ?_
        show own_Ends _ _ _ _ (s₁.setTop (mkF mM 55 #[.val (.int p0), .val (.int p1), .val (.int (0 : Int32)), .val (.int (((p1.toUInt32 >>> ((1 : Int32) &&& 31).toUInt32).toInt32) &&& (3 : Int32))), .val (.int p0), .unset, .unset, .unset] []))
        exact cut (0 : Int32) (((p1.toUInt32 >>> ((1 : Int32) &&& 31).toUInt32).toInt32) &&& (3 : Int32)) p0
  · refine own_go (fun _ k => XS.ifNo X0.here hx rfl (hb hby at_3) rfl ((if0 _ _).trans (feq hc3_17).1) k) ?_
    show own_Ends _ _ _ _ (s₁.setTop (mkF mM 6 #[.val (.int p0), .val (.int p1), .unset, .unset, .unset, .unset, .unset, .unset] []))
    refine own_go (fun _ k => XS.iconst X0.here hx rfl (hb hby at_6) k) ?_
    show own_Ends _ _ _ _ (s₁.setTop (mkF mM 7 #[.val (.int p0), .val (.int p1), .unset, .unset, .unset, .unset, .unset, .unset] [(.int (1 : Int32))]))
    refine own_go (fun _ k => XS.goto X0.here hx rfl (pc0 := 7) (pc' := 11) rfl (hb hby at_7) (by decide) (by decide) k) ?_
    show own_Ends _ _ _ _ (s₁.setTop (mkF mM 11 #[.val (.int p0), .val (.int p1), .unset, .unset, .unset, .unset, .unset, .unset] [(.int (1 : Int32))]))
    refine own_go (fun _ k => XS.istoreN X0.here hx rfl (hb hby at_11) rfl (l' := #[.val (.int p0), .val (.int p1), .val (.int (1 : Int32)), .unset, .unset, .unset, .unset, .unset]) rfl k) ?_
    show own_Ends _ _ _ _ (s₁.setTop (mkF mM 12 #[.val (.int p0), .val (.int p1), .val (.int (1 : Int32)), .unset, .unset, .unset, .unset, .unset] []))
    refine own_go (fun _ k => XS.iloadN X0.here hx rfl (hb hby at_12) rfl k) ?_
    show own_Ends _ _ _ _ (s₁.setTop (mkF mM 13 #[.val (.int p0), .val (.int p1), .val (.int (1 : Int32)), .unset, .unset, .unset, .unset, .unset] [(.int p1)]))
    refine own_go (fun _ k => XS.iconst X0.here hx rfl (hb hby at_13) k) ?_
    show own_Ends _ _ _ _ (s₁.setTop (mkF mM 14 #[.val (.int p0), .val (.int p1), .val (.int (1 : Int32)), .unset, .unset, .unset, .unset, .unset] [(.int (1 : Int32)), (.int p1)]))
    refine own_go (fun _ k => XS.iushr X0.here hx rfl (hb hby at_14) rfl k) ?_
    show own_Ends _ _ _ _ (s₁.setTop (mkF mM 15 #[.val (.int p0), .val (.int p1), .val (.int (1 : Int32)), .unset, .unset, .unset, .unset, .unset] [(.int ((p1.toUInt32 >>> ((1 : Int32) &&& 31).toUInt32).toInt32))]))
    refine own_go (fun _ k => XS.iconst X0.here hx rfl (hb hby at_15) k) ?_
    show own_Ends _ _ _ _ (s₁.setTop (mkF mM 16 #[.val (.int p0), .val (.int p1), .val (.int (1 : Int32)), .unset, .unset, .unset, .unset, .unset] [(.int (3 : Int32)), (.int ((p1.toUInt32 >>> ((1 : Int32) &&& 31).toUInt32).toInt32))]))
    refine own_go (fun _ k => XS.iand X0.here hx rfl (hb hby at_16) rfl k) ?_
    show own_Ends _ _ _ _ (s₁.setTop (mkF mM 17 #[.val (.int p0), .val (.int p1), .val (.int (1 : Int32)), .unset, .unset, .unset, .unset, .unset] [(.int (((p1.toUInt32 >>> ((1 : Int32) &&& 31).toUInt32).toInt32) &&& (3 : Int32)))]))
    refine own_go (fun _ k => XS.istoreN X0.here hx rfl (hb hby at_17) rfl (l' := #[.val (.int p0), .val (.int p1), .val (.int (1 : Int32)), .val (.int (((p1.toUInt32 >>> ((1 : Int32) &&& 31).toUInt32).toInt32) &&& (3 : Int32))), .unset, .unset, .unset, .unset]) rfl k) ?_
    show own_Ends _ _ _ _ (s₁.setTop (mkF mM 18 #[.val (.int p0), .val (.int p1), .val (.int (1 : Int32)), .val (.int (((p1.toUInt32 >>> ((1 : Int32) &&& 31).toUInt32).toInt32) &&& (3 : Int32))), .unset, .unset, .unset, .unset] []))
    refine own_go (fun _ k => XS.iloadN X0.here hx rfl (hb hby at_18) rfl k) ?_
    show own_Ends _ _ _ _ (s₁.setTop (mkF mM 19 #[.val (.int p0), .val (.int p1), .val (.int (1 : Int32)), .val (.int (((p1.toUInt32 >>> ((1 : Int32) &&& 31).toUInt32).toInt32) &&& (3 : Int32))), .unset, .unset, .unset, .unset] [(.int (((p1.toUInt32 >>> ((1 : Int32) &&& 31).toUInt32).toInt32) &&& (3 : Int32)))]))
    refine own_go (fun _ k => XS.iconst X0.here hx rfl (hb hby at_19) k) ?_
    show own_Ends _ _ _ _ (s₁.setTop (mkF mM 20 #[.val (.int p0), .val (.int p1), .val (.int (1 : Int32)), .val (.int (((p1.toUInt32 >>> ((1 : Int32) &&& 31).toUInt32).toInt32) &&& (3 : Int32))), .unset, .unset, .unset, .unset] [(.int (1 : Int32)), (.int (((p1.toUInt32 >>> ((1 : Int32) &&& 31).toUInt32).toInt32) &&& (3 : Int32)))]))
    by_cases hc20_20 : (((p1.toUInt32 >>> ((1 : Int32) &&& 31).toUInt32).toInt32) &&& (3 : Int32)) = (1 : Int32)
    · refine own_go (fun _ k => XS.icmpNo X0.here hx rfl (hb hby at_20) rfl (teq hc20_20).2 k) ?_
      show own_Ends _ _ _ _ (s₁.setTop (mkF mM 23 #[.val (.int p0), .val (.int p1), .val (.int (1 : Int32)), .val (.int (((p1.toUInt32 >>> ((1 : Int32) &&& 31).toUInt32).toInt32) &&& (3 : Int32))), .unset, .unset, .unset, .unset] []))
      refine own_go (fun _ k => XS.sipush X0.here hx rfl (hb hby at_23) k) ?_
      show own_Ends _ _ _ _ (s₁.setTop (mkF mM 26 #[.val (.int p0), .val (.int p1), .val (.int (1 : Int32)), .val (.int (((p1.toUInt32 >>> ((1 : Int32) &&& 31).toUInt32).toInt32) &&& (3 : Int32))), .unset, .unset, .unset, .unset] [(.int (7999 : Int32))]))
      refine own_go (fun _ k => XS.iloadN X0.here hx rfl (hb hby at_26) rfl k) ?_
      show own_Ends _ _ _ _ (s₁.setTop (mkF mM 27 #[.val (.int p0), .val (.int p1), .val (.int (1 : Int32)), .val (.int (((p1.toUInt32 >>> ((1 : Int32) &&& 31).toUInt32).toInt32) &&& (3 : Int32))), .unset, .unset, .unset, .unset] [(.int p0), (.int (7999 : Int32))]))
      refine own_go (fun _ k => XS.iconst X0.here hx rfl (hb hby at_27) k) ?_
      show own_Ends _ _ _ _ (s₁.setTop (mkF mM 28 #[.val (.int p0), .val (.int p1), .val (.int (1 : Int32)), .val (.int (((p1.toUInt32 >>> ((1 : Int32) &&& 31).toUInt32).toInt32) &&& (3 : Int32))), .unset, .unset, .unset, .unset] [(.int (3 : Int32)), (.int p0), (.int (7999 : Int32))]))
      refine own_go (fun _ k => XS.iand X0.here hx rfl (hb hby at_28) rfl k) ?_
      show own_Ends _ _ _ _ (s₁.setTop (mkF mM 29 #[.val (.int p0), .val (.int p1), .val (.int (1 : Int32)), .val (.int (((p1.toUInt32 >>> ((1 : Int32) &&& 31).toUInt32).toInt32) &&& (3 : Int32))), .unset, .unset, .unset, .unset] [(.int (p0 &&& (3 : Int32))), (.int (7999 : Int32))]))
      refine own_go (fun _ k => XS.iadd X0.here hx rfl (hb hby at_29) rfl k) ?_
      show own_Ends _ _ _ _ (s₁.setTop (mkF mM 30 #[.val (.int p0), .val (.int p1), .val (.int (1 : Int32)), .val (.int (((p1.toUInt32 >>> ((1 : Int32) &&& 31).toUInt32).toInt32) &&& (3 : Int32))), .unset, .unset, .unset, .unset] [(.int ((7999 : Int32) + (p0 &&& (3 : Int32))))]))
      refine own_go (fun _ k => XS.istore X0.here hx rfl (hb hby at_30) rfl (l' := #[.val (.int p0), .val (.int p1), .val (.int (1 : Int32)), .val (.int (((p1.toUInt32 >>> ((1 : Int32) &&& 31).toUInt32).toInt32) &&& (3 : Int32))), .val (.int ((7999 : Int32) + (p0 &&& (3 : Int32)))), .unset, .unset, .unset]) rfl k) ?_
      show own_Ends _ _ _ _ (s₁.setTop (mkF mM 32 #[.val (.int p0), .val (.int p1), .val (.int (1 : Int32)), .val (.int (((p1.toUInt32 >>> ((1 : Int32) &&& 31).toUInt32).toInt32) &&& (3 : Int32))), .val (.int ((7999 : Int32) + (p0 &&& (3 : Int32)))), .unset, .unset, .unset] []))
      refine own_go (fun _ k => XS.goto X0.here hx rfl (pc0 := 32) (pc' := 55) rfl (hb hby at_32) (by decide) (by decide) k) ?_
      show own_Ends _ _ _ _ (s₁.setTop (mkF mM 55 #[.val (.int p0), .val (.int p1), .val (.int (1 : Int32)), .val (.int (((p1.toUInt32 >>> ((1 : Int32) &&& 31).toUInt32).toInt32) &&& (3 : Int32))), .val (.int ((7999 : Int32) + (p0 &&& (3 : Int32)))), .unset, .unset, .unset] []))
      exact cut (1 : Int32) (((p1.toUInt32 >>> ((1 : Int32) &&& 31).toUInt32).toInt32) &&& (3 : Int32)) ((7999 : Int32) + (p0 &&& (3 : Int32)))
    · refine own_go (fun _ k => XS.icmpYes X0.here hx rfl (pc0 := 20) (pc' := 35) rfl (hb hby at_20) rfl (feq hc20_20).2 (by decide) (by decide) k) ?_
      show own_Ends _ _ _ _ (s₁.setTop (mkF mM 35 #[.val (.int p0), .val (.int p1), .val (.int (1 : Int32)), .val (.int (((p1.toUInt32 >>> ((1 : Int32) &&& 31).toUInt32).toInt32) &&& (3 : Int32))), .unset, .unset, .unset, .unset] []))
      refine own_go (fun _ k => XS.iloadN X0.here hx rfl (hb hby at_35) rfl k) ?_
      show own_Ends _ _ _ _ (s₁.setTop (mkF mM 36 #[.val (.int p0), .val (.int p1), .val (.int (1 : Int32)), .val (.int (((p1.toUInt32 >>> ((1 : Int32) &&& 31).toUInt32).toInt32) &&& (3 : Int32))), .unset, .unset, .unset, .unset] [(.int (((p1.toUInt32 >>> ((1 : Int32) &&& 31).toUInt32).toInt32) &&& (3 : Int32)))]))
      refine own_go (fun _ k => XS.iconst X0.here hx rfl (hb hby at_36) k) ?_
      show own_Ends _ _ _ _ (s₁.setTop (mkF mM 37 #[.val (.int p0), .val (.int p1), .val (.int (1 : Int32)), .val (.int (((p1.toUInt32 >>> ((1 : Int32) &&& 31).toUInt32).toInt32) &&& (3 : Int32))), .unset, .unset, .unset, .unset] [(.int (2 : Int32)), (.int (((p1.toUInt32 >>> ((1 : Int32) &&& 31).toUInt32).toInt32) &&& (3 : Int32)))]))
      by_cases hc37_21 : (((p1.toUInt32 >>> ((1 : Int32) &&& 31).toUInt32).toInt32) &&& (3 : Int32)) = (2 : Int32)
      · refine own_go (fun _ k => XS.icmpNo X0.here hx rfl (hb hby at_37) rfl (teq hc37_21).2 k) ?_
        show own_Ends _ _ _ _ (s₁.setTop (mkF mM 40 #[.val (.int p0), .val (.int p1), .val (.int (1 : Int32)), .val (.int (((p1.toUInt32 >>> ((1 : Int32) &&& 31).toUInt32).toInt32) &&& (3 : Int32))), .unset, .unset, .unset, .unset] []))
        refine own_go (fun _ k => XS.sipush X0.here hx rfl (hb hby at_40) k) ?_
        show own_Ends _ _ _ _ (s₁.setTop (mkF mM 43 #[.val (.int p0), .val (.int p1), .val (.int (1 : Int32)), .val (.int (((p1.toUInt32 >>> ((1 : Int32) &&& 31).toUInt32).toInt32) &&& (3 : Int32))), .unset, .unset, .unset, .unset] [(.int (324 : Int32))]))
        refine own_go (fun _ k => XS.iloadN X0.here hx rfl (hb hby at_43) rfl k) ?_
        show own_Ends _ _ _ _ (s₁.setTop (mkF mM 44 #[.val (.int p0), .val (.int p1), .val (.int (1 : Int32)), .val (.int (((p1.toUInt32 >>> ((1 : Int32) &&& 31).toUInt32).toInt32) &&& (3 : Int32))), .unset, .unset, .unset, .unset] [(.int p0), (.int (324 : Int32))]))
        refine own_go (fun _ k => XS.iconst X0.here hx rfl (hb hby at_44) k) ?_
        show own_Ends _ _ _ _ (s₁.setTop (mkF mM 45 #[.val (.int p0), .val (.int p1), .val (.int (1 : Int32)), .val (.int (((p1.toUInt32 >>> ((1 : Int32) &&& 31).toUInt32).toInt32) &&& (3 : Int32))), .unset, .unset, .unset, .unset] [(.int (3 : Int32)), (.int p0), (.int (324 : Int32))]))
        refine own_go (fun _ k => XS.iand X0.here hx rfl (hb hby at_45) rfl k) ?_
        show own_Ends _ _ _ _ (s₁.setTop (mkF mM 46 #[.val (.int p0), .val (.int p1), .val (.int (1 : Int32)), .val (.int (((p1.toUInt32 >>> ((1 : Int32) &&& 31).toUInt32).toInt32) &&& (3 : Int32))), .unset, .unset, .unset, .unset] [(.int (p0 &&& (3 : Int32))), (.int (324 : Int32))]))
        refine own_go (fun _ k => XS.iadd X0.here hx rfl (hb hby at_46) rfl k) ?_
        show own_Ends _ _ _ _ (s₁.setTop (mkF mM 47 #[.val (.int p0), .val (.int p1), .val (.int (1 : Int32)), .val (.int (((p1.toUInt32 >>> ((1 : Int32) &&& 31).toUInt32).toInt32) &&& (3 : Int32))), .unset, .unset, .unset, .unset] [(.int ((324 : Int32) + (p0 &&& (3 : Int32))))]))
        refine own_go (fun _ k => XS.istore X0.here hx rfl (hb hby at_47) rfl (l' := #[.val (.int p0), .val (.int p1), .val (.int (1 : Int32)), .val (.int (((p1.toUInt32 >>> ((1 : Int32) &&& 31).toUInt32).toInt32) &&& (3 : Int32))), .val (.int ((324 : Int32) + (p0 &&& (3 : Int32)))), .unset, .unset, .unset]) rfl k) ?_
        show own_Ends _ _ _ _ (s₁.setTop (mkF mM 49 #[.val (.int p0), .val (.int p1), .val (.int (1 : Int32)), .val (.int (((p1.toUInt32 >>> ((1 : Int32) &&& 31).toUInt32).toInt32) &&& (3 : Int32))), .val (.int ((324 : Int32) + (p0 &&& (3 : Int32)))), .unset, .unset, .unset] []))
        refine own_go (fun _ k => XS.goto X0.here hx rfl (pc0 := 49) (pc' := 55) rfl (hb hby at_49) (by decide) (by decide) k) ?_
        show own_Ends _ _ _ _ (s₁.setTop (mkF mM 55 #[.val (.int p0), .val (.int p1), .val (.int (1 : Int32)), .val (.int (((p1.toUInt32 >>> ((1 : Int32) &&& 31).toUInt32).toInt32) &&& (3 : Int32))), .val (.int ((324 : Int32) + (p0 &&& (3 : Int32)))), .unset, .unset, .unset] []))
        exact cut (1 : Int32) (((p1.toUInt32 >>> ((1 : Int32) &&& 31).toUInt32).toInt32) &&& (3 : Int32)) ((324 : Int32) + (p0 &&& (3 : Int32)))
      · refine own_go (fun _ k => XS.icmpYes X0.here hx rfl (pc0 := 37) (pc' := 52) rfl (hb hby at_37) rfl (feq hc37_21).2 (by decide) (by decide) k) ?_
        show own_Ends _ _ _ _ (s₁.setTop (mkF mM 52 #[.val (.int p0), .val (.int p1), .val (.int (1 : Int32)), .val (.int (((p1.toUInt32 >>> ((1 : Int32) &&& 31).toUInt32).toInt32) &&& (3 : Int32))), .unset, .unset, .unset, .unset] []))
        refine own_go (fun _ k => XS.iloadN X0.here hx rfl (hb hby at_52) rfl k) ?_
        show own_Ends _ _ _ _ (s₁.setTop (mkF mM 53 #[.val (.int p0), .val (.int p1), .val (.int (1 : Int32)), .val (.int (((p1.toUInt32 >>> ((1 : Int32) &&& 31).toUInt32).toInt32) &&& (3 : Int32))), .unset, .unset, .unset, .unset] [(.int p0)]))
        refine own_go (fun _ k => XS.istore X0.here hx rfl (hb hby at_53) rfl (l' := #[.val (.int p0), .val (.int p1), .val (.int (1 : Int32)), .val (.int (((p1.toUInt32 >>> ((1 : Int32) &&& 31).toUInt32).toInt32) &&& (3 : Int32))), .val (.int p0), .unset, .unset, .unset]) rfl k) ?_
        show own_Ends _ _ _ _ (s₁.setTop (mkF mM 55 #[.val (.int p0), .val (.int p1), .val (.int (1 : Int32)), .val (.int (((p1.toUInt32 >>> ((1 : Int32) &&& 31).toUInt32).toInt32) &&& (3 : Int32))), .val (.int p0), .unset, .unset, .unset] []))
        exact cut (1 : Int32) (((p1.toUInt32 >>> ((1 : Int32) &&& 31).toUInt32).toInt32) &&& (3 : Int32)) p0
set_option maxRecDepth 65536 in
set_option maxHeartbeats 40000000 in
theorem comes_1 {Post : Tables → Env → Array Value → State → Outcome → State → Prop} (hpost : ∀ tb e args s v u, (limb_1_1.after args s (.returned v) u = true ∧ limb_1_2.after args s (.returned v) u = true ∧ True) → FrameEnd s (.returned v) u (Jvm.fieldLocs frame_1_writes args s ++ Jvm.arrayLocs frame_1_arrays args s ++ Jvm.staticLocs frame_1_statics s) 16 128 → Post tb e args s (.returned v) u) :
    ArmFor flags0 classFile x code maxLocals ret World_1 tables_1 room_1 Calls_1 rest_1 Pre_1 Post := by
  intro l hfl _ _ p e ha hc hk s m args below hf hA hF happ hP
  obtain ⟨hcalls, hrest, hpre⟩ := hP
  obtain ⟨-, -, -, hnamed, -, -, -, hat⟩ := (Spec.applies_iff hf).mp happ
  obtain ⟨hg, hn⟩ := and_e (Cond.before_iff.mp (show (Jvm.Cond.and given_1 narrow_1).before args s = true from hpre))
  obtain ⟨hg0, hr0⟩ := and_e hg
  obtain ⟨hg1, hg2⟩ := and_e hr0
  obtain ⟨w0, w1, rfl⟩ : ∃ w0 w1 : Value, args = #[w0, w1] := by
    have hs : args.size = 2 := by simpa [Cond.value, given_1] using hg0
    obtain ⟨L⟩ := args
    match L, hs with
    | [w0, w1], _ => exact ⟨w0, w1, rfl⟩
  have hw := fun d (hd : d ∈ tables_1) => atoms_spec (ws := Jvm.Cond.code x code maxLocals ret :: tables_1) hat d (List.mem_cons_of_mem _ hd)
  have hfit : Fit s := fun {y c} hc i hi => by
    obtain ⟨ha, rfl⟩ := Array.getElem?_eq_some_iff.mp hc
    have q := List.all_eq_true.mp ((Array.all_eq_true_iff_forall_mem.mp hF) _ (Array.getElem_mem ha)) i (List.mem_range.mpr hi)
    simpa [Array.getElem?_eq_getElem hi] using q
  obtain ⟨hsets, hown0⟩ := atoms_of _ (rest_1_c_eq ▸ (show rest_1_c.before _ s = true from hrest))
  obtain ⟨i0, ei0⟩ := is_v hg1
  obtain rfl : w0 = (.int i0) := Option.some.inj ei0
  obtain ⟨i1, ei1⟩ := is_v hg2
  obtain rfl : w1 = (.int i1) := Option.some.inj ei1
  obtain ⟨hn0, hm0⟩ := and_e hn
  obtain ⟨a_HUGE_METHOD_LIMIT, ev_HUGE_METHOD_LIMIT⟩ := exa_v hn0
  have S_HUGE_METHOD_LIMIT : Sta s s.heap "com/example/warmline/warmline/core/Limit" "HUGE_METHOD_LIMIT" "Lcom/example/warmline/warmline/core/Limit;" (.ref a_HUGE_METHOD_LIMIT) := Sta.start ev_HUGE_METHOD_LIMIT (Or.inr ⟨(hw _ (List.mem_of_getElem? (i := 2) rfl)), (hw _ (List.mem_of_getElem? (i := 5) rfl))⟩)
  have E_HUGE_METHOD_LIMIT : Exa s s.heap a_HUGE_METHOD_LIMIT "com/example/warmline/warmline/core/Limit" := Exa.start ev_HUGE_METHOD_LIMIT hn0
  obtain ⟨hn1, hm1⟩ := and_e hm0
  have F_HUGE_METHOD_LIMIT_bytes : Fld s s.heap a_HUGE_METHOD_LIMIT "com/example/warmline/warmline/core/Limit" "bytes" "I" (.int (8000 : Int32)) := own_fldI ev_HUGE_METHOD_LIMIT hn1
  obtain ⟨hn2, hm2⟩ := and_e hm1
  obtain ⟨a_FREQ_INLINE_SIZE, ev_FREQ_INLINE_SIZE⟩ := exa_v hn2
  have S_FREQ_INLINE_SIZE : Sta s s.heap "com/example/warmline/warmline/core/Limit" "FREQ_INLINE_SIZE" "Lcom/example/warmline/warmline/core/Limit;" (.ref a_FREQ_INLINE_SIZE) := Sta.start ev_FREQ_INLINE_SIZE (Or.inr ⟨(hw _ (List.mem_of_getElem? (i := 2) rfl)), (hw _ (List.mem_of_getElem? (i := 26) rfl))⟩)
  have E_FREQ_INLINE_SIZE : Exa s s.heap a_FREQ_INLINE_SIZE "com/example/warmline/warmline/core/Limit" := Exa.start ev_FREQ_INLINE_SIZE hn2
  have F_FREQ_INLINE_SIZE_bytes : Fld s s.heap a_FREQ_INLINE_SIZE "com/example/warmline/warmline/core/Limit" "bytes" "I" (.int (325 : Int32)) := own_fldI ev_FREQ_INLINE_SIZE hm2
  have hj2 := Cond.before_iff.mp (hsets _ (List.mem_of_getElem? (i := 2) rfl))
  obtain ⟨a_EMPTY, ev_EMPTY⟩ := exa_v hj2
  have S_EMPTY : Sta s s.heap "java/util/Optional" "EMPTY" "Ljava/util/Optional;" (.ref a_EMPTY) := Sta.start ev_EMPTY (Or.inl (hsets _ (List.mem_of_getElem? (i := 1) rfl)))
  have E_EMPTY : Exa s s.heap a_EMPTY "java/util/Optional" := Exa.start ev_EMPTY hj2
  have hj3 := Cond.before_iff.mp (hsets _ (List.mem_of_getElem? (i := 3) rfl))
  have F_EMPTY_value : Fld s s.heap a_EMPTY "java/util/Optional" "value" "Ljava/lang/Object;" .null := Fld.start ((fld_at ev_EMPTY).symm.trans (null_v hj3))
  obtain ⟨n, o, h1, h2, h3, _, L, rfl, ⟨rfl, N⟩, hq⟩ := own_law l s _ hw tables_1 i0 i1 a_EMPTY a_HUGE_METHOD_LIMIT a_FREQ_INLINE_SIZE s.heap s.heap.size (Old.start s) S_HUGE_METHOD_LIMIT E_HUGE_METHOD_LIMIT F_HUGE_METHOD_LIMIT_bytes S_FREQ_INLINE_SIZE E_FREQ_INLINE_SIZE F_FREQ_INLINE_SIZE_bytes S_EMPTY E_EMPTY F_EMPTY_value p e ha hc hk s m _ below hf ((Spec.applies_iff_loose hf).mp happ).1 ⟨rfl, State.Warmed39.refl s, rfl⟩ trivial
  refine ⟨n, _, h1, h2, h3, hpost _ _ _ _ _ _ ⟨Cond.after_iff.mpr rfl, Cond.after_iff.mpr (eq_i res_at (Term.int_eval (1)) rfl), trivial⟩ ⟨hq.1, hq.2.1, (hq.2.2.sift fun y hy => Or.inr (N y hy)).mono (by decide) (by decide)⟩⟩
theorem main_1_1 : Claimed_1_1 := comes_1 fun _ _ _ _ _ _ h hF => ⟨h.1, hF⟩
theorem main_1_2 : Claimed_1_2 := comes_1 fun _ _ _ _ _ _ h hF => ⟨h.2.1, hF⟩
end Jvm.Pilot.@@N@@
namespace Jvm.Pilot.@@N@@
open Jvm Jvm.ClassFile Sem Op Lib Jvm.Free Jvm.Stand Jvm.Pilot.@@N@@.Jvm.D
/-! MADE BY PROGRAM (witnessworld.py) out of the Statement's table words and the real class files: 14 classes; the members and pool entries that the words name. The judged class is class 1, her method 1. -/
namespace start1
open Jvm.ClassFile
def u (s : String) : CpInfo := .utf8 (stringToUtf16 s)
/-- a pool by its gaps: so many unusable entries, then the entry; so many at the end -/
def gap : Nat → List CpInfo → List CpInfo
  | 0, r => r
  | n + 1, r => .unusable :: gap n r
def poolList (es : List (Nat × CpInfo)) (last : Nat) : List CpInfo := es.foldr (fun e r => gap e.1 (e.2 :: r)) (gap last [])
def pool (es : List (Nat × CpInfo)) (last : Nat) : Array CpInfo := ⟨poolList es last⟩
def fileOf (pool : Array CpInfo) (this : Nat) (attrs : Array Attribute := #[]) (ms : Array MethodInfo := #[]) (fl : Nat := 33) (sup : Nat := 0) (ifs : Array Nat := #[]) (fds : Array FieldInfo := #[]) : ClassFile where
  minorVersion := 0
  majorVersion := 65
  constantPool := pool
  accessFlags := fl
  thisClass := this
  superClass := sup
  interfaces := ifs
  fields := fds
  methods := ms
  attributes := attrs
def plain (name : String) (sup : Option ClassId) : Class where
  name := name
  kind := .ordinary
  loader := none
  accessFlags := 33
  super := sup
  interfaces := #[]
  cf := none
  fields := #[]
  methods := #[]
  instanceTypes := #[]
  staticTypes := #[]
  resolved := #[]
  callSites := []
  init := .initialized
  statics := none
  mirror := none

def pool0 : Array CpInfo := pool [(5, u "<init>"), (0, u "()V"), (1, .class_ 10), (1, u "java/lang/Object")] 113

def k0c0 : Code := { maxStack := 0, maxLocals := 1, code := object_method_1_code, exceptionTable := #[], attributes := #[] }
def k0m0 : Method := { name := "<init>", desc := "()V", sig := { parameters := [], returnType := none }, accessFlags := 1, code := some k0c0 }
/-- java/lang/Object -/
def k0 : Class := { plain "java/lang/Object" none with
  accessFlags := 33
  interfaces := #[]
  cf := some (fileOf pool0 8 #[] #[{ accessFlags := 1, nameIndex := 5, descriptorIndex := 6, attributes := #[] }] 33 0 #[] #[])
  fields := #[]
  methods := #[k0m0]
  instanceTypes := #[]
  staticTypes := #[]
  resolved := Array.replicate 124 none
  statics := none }

def pool1 : Array CpInfo := pool [(2, .class_ 4), (1, u "java/lang/Object"), (0, u "<init>"), (0, u "()V"), (0, .fieldref 8 9), (0, .class_ 10), (0, .nameAndType 11 12), (0, u "com/example/warmline/warmline/core/Limit"), (0, u "HUGE_METHOD_LIMIT"), (0, u "Lcom/example/warmline/warmline/core/Limit;"), (0, .fieldref 8 14), (0, .nameAndType 15 12), (0, u "FREQ_INLINE_SIZE"), (0, .methodref 8 17), (0, .nameAndType 18 19), (0, u "largestGuarded"), (0, u "(IZ)Ljava/util/Optional;"), (0, .methodref 21 22), (0, .class_ 23), (0, .nameAndType 24 25), (0, u "java/util/Optional"), (0, u "isPresent"), (0, u "()Z"), (0, .methodref 21 27), (0, .nameAndType 28 29), (0, u "get"), (0, u "()Ljava/lang/Object;"), (0, .class_ 31), (0, u "com/example/warmline/warmline/core/LimitLargestGuardedPinLaw"), (2, u "law"), (0, u "(II)Z")] 3

def k1m0 : Method := { name := "<init>", desc := "()V", sig := { parameters := [], returnType := none }, accessFlags := 1, code := none }
def k1c1 : Code := { maxStack := 3, maxLocals := 8, code := code, exceptionTable := #[], attributes := #[] }
def k1m1 : Method := { name := "law", desc := "(II)Z", sig := { parameters := [.int, .int], returnType := some .boolean }, accessFlags := 9, code := some k1c1 }
/-- com/example/warmline/warmline/core/LimitLargestGuardedPinLaw -/
def k1 : Class := { plain "com/example/warmline/warmline/core/LimitLargestGuardedPinLaw" (some 0) with
  accessFlags := 49
  interfaces := #[]
  cf := some (fileOf pool1 30 #[] #[{ accessFlags := 1, nameIndex := 5, descriptorIndex := 6, attributes := #[] }, { accessFlags := 9, nameIndex := 34, descriptorIndex := 35, attributes := #[] }] 49 2 #[] #[])
  fields := #[]
  methods := #[k1m0, k1m1]
  instanceTypes := #[]
  staticTypes := #[]
  resolved := Array.replicate 39 none
  statics := none }

def pool2 : Array CpInfo := pool [(1, .class_ 2), (0, u "java/lang/constant/Constable"), (0, .class_ 4), (0, u "java/lang/Object")] 6

/-- java/lang/constant/Constable -/
def k2 : Class := { plain "java/lang/constant/Constable" (some 0) with
  accessFlags := 1537
  interfaces := #[]
  cf := some (fileOf pool2 1 #[] #[] 1537 3 #[] #[])
  fields := #[]
  methods := #[]
  instanceTypes := #[]
  staticTypes := #[]
  resolved := Array.replicate 11 none
  statics := none }

def pool3 : Array CpInfo := pool [(1, .class_ 2), (0, u "java/lang/Comparable"), (0, .class_ 4), (0, u "java/lang/Object")] 7

/-- java/lang/Comparable -/
def k3 : Class := { plain "java/lang/Comparable" (some 0) with
  accessFlags := 1537
  interfaces := #[]
  cf := some (fileOf pool3 1 #[] #[] 1537 3 #[] #[])
  fields := #[]
  methods := #[]
  instanceTypes := #[]
  staticTypes := #[]
  resolved := Array.replicate 12 none
  statics := none }

def pool4 : Array CpInfo := pool [(1, .class_ 2), (0, u "java/io/Serializable"), (0, .class_ 4), (0, u "java/lang/Object")] 2

/-- java/io/Serializable -/
def k4 : Class := { plain "java/io/Serializable" (some 0) with
  accessFlags := 1537
  interfaces := #[]
  cf := some (fileOf pool4 1 #[] #[] 1537 3 #[] #[])
  fields := #[]
  methods := #[]
  instanceTypes := #[]
  staticTypes := #[]
  resolved := Array.replicate 7 none
  statics := none }

def pool5 : Array CpInfo := pool [(2, .class_ 4), (1, u "java/lang/Enum"), (0, u "name"), (0, u "Ljava/lang/String;"), (2, u "ordinal"), (0, u "I"), (1, .class_ 14), (1, u "java/lang/Object"), (4, u "hash"), (86, .class_ 108), (1, u "java/lang/Enum$EnumDesc"), (2, .class_ 112), (0, u "java/lang/constant/Constable"), (0, .class_ 114), (0, u "java/lang/Comparable"), (0, .class_ 116), (0, u "java/io/Serializable")] 87

/-- java/lang/Enum -/
def k5 : Class := { plain "java/lang/Enum" (some 0) with
  accessFlags := 1057
  interfaces := #[2, 3, 4]
  cf := some (fileOf pool5 2 #[.nestMembers #[106]] #[] 1057 12 #[111, 113, 115] #[{ accessFlags := 18, nameIndex := 5, descriptorIndex := 6, attributes := #[] }, { accessFlags := 18, nameIndex := 9, descriptorIndex := 10, attributes := #[] }, { accessFlags := 2, nameIndex := 19, descriptorIndex := 10, attributes := #[] }])
  fields := #[{ name := "name", type := (.object "java/lang/String"), accessFlags := 18, slot := 0, constantValue := 0 }, { name := "ordinal", type := .int, accessFlags := 18, slot := 1, constantValue := 0 }, { name := "hash", type := .int, accessFlags := 2, slot := 2, constantValue := 0 }]
  methods := #[]
  instanceTypes := #[(.object "java/lang/String"), .int, .int]
  staticTypes := #[]
  resolved := Array.replicate 204 none
  statics := none }

def pool6 : Array CpInfo := pool [(1, .class_ 2), (0, u "com/example/warmline/warmline/core/Limit"), (2, u "MAX_INLINE_SIZE"), (0, u "Lcom/example/warmline/warmline/core/Limit;"), (0, .fieldref 1 8), (0, .nameAndType 9 6), (0, u "FREQ_INLINE_SIZE"), (2, u "C1_MAX_INLINE_SIZE"), (0, .fieldref 1 14), (0, .nameAndType 15 6), (0, u "HUGE_METHOD_LIMIT"), (2, u "$VALUES"), (0, u "[Lcom/example/warmline/warmline/core/Limit;"), (6, .class_ 28), (1, u "java/lang/Enum"), (8, u "flag"), (0, u "Ljava/lang/String;"), (0, .fieldref 1 40), (0, .nameAndType 41 42), (0, u "bytes"), (0, u "I"), (0, .methodref 1 44), (0, .nameAndType 45 46), (0, u "isExceededBy"), (0, u "(I)Z"), (0, .methodref 48 49), (0, .class_ 50), (0, .nameAndType 51 52), (0, u "java/util/Optional"), (0, u "of"), (0, u "(Ljava/lang/Object;)Ljava/util/Optional;"), (0, .methodref 48 54), (0, .nameAndType 55 56), (0, u "empty"), (0, u "()Ljava/util/Optional;"), (28, u "largestGuarded"), (0, u "(IZ)Ljava/util/Optional;")] 6

def k6c0 : Code := { maxStack := 2, maxLocals := 2, code := prog_24_method_6_code, exceptionTable := #[], attributes := #[] }
def k6m0 : Method := { name := "isExceededBy", desc := "(I)Z", sig := { parameters := [.int], returnType := some .boolean }, accessFlags := 1, code := some k6c0 }
def k6c1 : Code := { maxStack := 2, maxLocals := 3, code := prog_24_method_7_code, exceptionTable := #[], attributes := #[] }
def k6m1 : Method := { name := "largestGuarded", desc := "(IZ)Ljava/util/Optional;", sig := { parameters := [.int, .boolean], returnType := some (.object "java/util/Optional") }, accessFlags := 9, code := some k6c1 }
/-- com/example/warmline/warmline/core/Limit -/
def k6 : Class := { plain "com/example/warmline/warmline/core/Limit" (some 5) with
  accessFlags := 16433
  interfaces := #[]
  cf := some (fileOf pool6 1 #[] #[{ accessFlags := 1, nameIndex := 45, descriptorIndex := 46, attributes := #[] }, { accessFlags := 9, nameIndex := 85, descriptorIndex := 86, attributes := #[] }] 16433 26 #[] #[{ accessFlags := 16409, nameIndex := 5, descriptorIndex := 6, attributes := #[] }, { accessFlags := 16409, nameIndex := 9, descriptorIndex := 6, attributes := #[] }, { accessFlags := 16409, nameIndex := 12, descriptorIndex := 6, attributes := #[] }, { accessFlags := 16409, nameIndex := 15, descriptorIndex := 6, attributes := #[] }, { accessFlags := 18, nameIndex := 37, descriptorIndex := 38, attributes := #[] }, { accessFlags := 18, nameIndex := 41, descriptorIndex := 42, attributes := #[] }, { accessFlags := 4122, nameIndex := 18, descriptorIndex := 19, attributes := #[] }])
  fields := #[{ name := "MAX_INLINE_SIZE", type := (.object "com/example/warmline/warmline/core/Limit"), accessFlags := 16409, slot := 0, constantValue := 0 }, { name := "FREQ_INLINE_SIZE", type := (.object "com/example/warmline/warmline/core/Limit"), accessFlags := 16409, slot := 1, constantValue := 0 }, { name := "C1_MAX_INLINE_SIZE", type := (.object "com/example/warmline/warmline/core/Limit"), accessFlags := 16409, slot := 2, constantValue := 0 }, { name := "HUGE_METHOD_LIMIT", type := (.object "com/example/warmline/warmline/core/Limit"), accessFlags := 16409, slot := 3, constantValue := 0 }, { name := "flag", type := (.object "java/lang/String"), accessFlags := 18, slot := 3, constantValue := 0 }, { name := "bytes", type := .int, accessFlags := 18, slot := 4, constantValue := 0 }, { name := "$VALUES", type := (.array (.object "com/example/warmline/warmline/core/Limit")), accessFlags := 4122, slot := 4, constantValue := 0 }]
  methods := #[k6m0, k6m1]
  instanceTypes := #[(.object "java/lang/String"), .int, .int, (.object "java/lang/String"), .int]
  staticTypes := #[(.object "com/example/warmline/warmline/core/Limit"), (.object "com/example/warmline/warmline/core/Limit"), (.object "com/example/warmline/warmline/core/Limit"), (.object "com/example/warmline/warmline/core/Limit"), (.array (.object "com/example/warmline/warmline/core/Limit"))]
  resolved := Array.replicate 93 none
  statics := some 0 }

def pool7 : Array CpInfo := pool [(1, .fieldref 2 3), (0, .class_ 4), (0, .nameAndType 5 6), (0, u "java/util/Optional"), (0, u "EMPTY"), (0, u "Ljava/util/Optional;"), (0, .methodref 8 9), (0, .class_ 10), (0, .nameAndType 11 12), (0, u "java/lang/Object"), (0, u "<init>"), (0, u "()V"), (0, .fieldref 2 14), (0, .nameAndType 15 16), (0, u "value"), (0, u "Ljava/lang/Object;"), (0, .methodref 18 19), (0, .class_ 20), (0, .nameAndType 21 22), (0, u "java/util/Objects"), (0, u "requireNonNull"), (0, u "(Ljava/lang/Object;)Ljava/lang/Object;"), (0, .methodref 2 24), (0, .nameAndType 11 25), (0, u "(Ljava/lang/Object;)V"), (20, u "()Z"), (8, u "empty"), (0, u "()Ljava/util/Optional;"), (8, u "(Ljava/lang/Object;)Ljava/util/Optional;"), (2, u "isPresent"), (4, u "get"), (0, u "()Ljava/lang/Object;"), (7, u "of")] 104

def k7c0 : Code := { maxStack := 1, maxLocals := 1, code := jdk_32_method_1_code, exceptionTable := #[], attributes := #[] }
def k7m0 : Method := { name := "empty", desc := "()Ljava/util/Optional;", sig := { parameters := [], returnType := some (.object "java/util/Optional") }, accessFlags := 9, code := some k7c0 }
def k7c1 : Code := { maxStack := 2, maxLocals := 2, code := jdk_32_method_2_code, exceptionTable := #[], attributes := #[] }
def k7m1 : Method := { name := "<init>", desc := "(Ljava/lang/Object;)V", sig := { parameters := [(.object "java/lang/Object")], returnType := none }, accessFlags := 2, code := some k7c1 }
def k7c2 : Code := { maxStack := 3, maxLocals := 1, code := jdk_32_method_3_code, exceptionTable := #[], attributes := #[] }
def k7m2 : Method := { name := "of", desc := "(Ljava/lang/Object;)Ljava/util/Optional;", sig := { parameters := [(.object "java/lang/Object")], returnType := some (.object "java/util/Optional") }, accessFlags := 9, code := some k7c2 }
def k7c3 : Code := { maxStack := 3, maxLocals := 1, code := jdk_32_method_5_code, exceptionTable := #[], attributes := #[] }
def k7m3 : Method := { name := "get", desc := "()Ljava/lang/Object;", sig := { parameters := [], returnType := some (.object "java/lang/Object") }, accessFlags := 1, code := some k7c3 }
def k7c4 : Code := { maxStack := 1, maxLocals := 1, code := jdk_32_method_6_code, exceptionTable := #[], attributes := #[] }
def k7m4 : Method := { name := "isPresent", desc := "()Z", sig := { parameters := [], returnType := some .boolean }, accessFlags := 1, code := some k7c4 }
/-- java/util/Optional -/
def k7 : Class := { plain "java/util/Optional" (some 0) with
  accessFlags := 49
  interfaces := #[]
  cf := some (fileOf pool7 2 #[] #[{ accessFlags := 9, nameIndex := 55, descriptorIndex := 56, attributes := #[] }, { accessFlags := 2, nameIndex := 11, descriptorIndex := 25, attributes := #[] }, { accessFlags := 9, nameIndex := 82, descriptorIndex := 65, attributes := #[] }, { accessFlags := 1, nameIndex := 73, descriptorIndex := 74, attributes := #[] }, { accessFlags := 1, nameIndex := 68, descriptorIndex := 46, attributes := #[] }] 49 8 #[] #[{ accessFlags := 26, nameIndex := 5, descriptorIndex := 6, attributes := #[] }, { accessFlags := 18, nameIndex := 15, descriptorIndex := 16, attributes := #[] }])
  fields := #[{ name := "EMPTY", type := (.object "java/util/Optional"), accessFlags := 26, slot := 0, constantValue := 0 }, { name := "value", type := (.object "java/lang/Object"), accessFlags := 18, slot := 0, constantValue := 0 }]
  methods := #[k7m0, k7m1, k7m2, k7m3, k7m4]
  instanceTypes := #[(.object "java/lang/Object")]
  staticTypes := #[(.object "java/util/Optional")]
  resolved := Array.replicate 187 none
  statics := some 1 }

def pool8 : Array CpInfo := pool [(2, .class_ 4), (1, u "java/lang/Object"), (0, u "<init>"), (0, u "()V"), (35, .class_ 44), (1, u "java/util/Objects"), (0, u "requireNonNull"), (0, u "(Ljava/lang/Object;)Ljava/lang/Object;")] 137

def k8m0 : Method := { name := "<init>", desc := "()V", sig := { parameters := [], returnType := none }, accessFlags := 2, code := none }
def k8c1 : Code := { maxStack := 2, maxLocals := 1, code := jdk_31_method_10_code, exceptionTable := #[], attributes := #[] }
def k8m1 : Method := { name := "requireNonNull", desc := "(Ljava/lang/Object;)Ljava/lang/Object;", sig := { parameters := [(.object "java/lang/Object")], returnType := some (.object "java/lang/Object") }, accessFlags := 9, code := some k8c1 }
/-- java/util/Objects -/
def k8 : Class := { plain "java/util/Objects" (some 0) with
  accessFlags := 49
  interfaces := #[]
  cf := some (fileOf pool8 42 #[] #[{ accessFlags := 2, nameIndex := 5, descriptorIndex := 6, attributes := #[] }, { accessFlags := 9, nameIndex := 45, descriptorIndex := 46, attributes := #[] }] 49 2 #[] #[])
  fields := #[]
  methods := #[k8m0, k8m1]
  instanceTypes := #[]
  staticTypes := #[]
  resolved := Array.replicate 184 none
  statics := none }

def pool9 : Array CpInfo := pool [(1, u "java/lang/Cloneable"), (0, .class_ 1), (0, u "java/lang/Object"), (0, .class_ 3)] 3

/-- java/lang/Cloneable -/
def k9 : Class := { plain "java/lang/Cloneable" (some 0) with
  accessFlags := 1537
  interfaces := #[]
  cf := some (fileOf pool9 2 #[] #[] 1537 4 #[] #[])
  fields := #[]
  methods := #[]
  instanceTypes := #[]
  staticTypes := #[]
  resolved := Array.replicate 8 none
  statics := none }

/-- the primitive byte -/
def k10 : Class := { plain "byte" none with kind := .primitive 'B', accessFlags := 0x411 }
/-- [B -/
def k11 : Class := { plain "[B" (some 0) with kind := .array 10 .byte, interfaces := #[9, 4], accessFlags := 1041 }

/-- the primitive int -/
def k12 : Class := { plain "int" none with kind := .primitive 'I', accessFlags := 0x411 }
/-- [I -/
def k13 : Class := { plain "[I" (some 0) with kind := .array 12 .int, interfaces := #[9, 4], accessFlags := 1041 }

def heap : Heap := #[{ cls := 6, slots := #[.null, .ref 3, .null, .ref 2, .null], vm := .statics 6 },
  { cls := 7, slots := #[.ref 4], vm := .statics 7 },
  { cls := 6, slots := #[.null, .int 0, .int 0, .null, .int 8000], vm := .none },
  { cls := 6, slots := #[.null, .int 0, .int 0, .null, .int 325], vm := .none },
  { cls := 7, slots := #[.null], vm := .none }]
def classes : Array Class := #[k0, k1, k2, k3, k4, k5, k6, k7, k8, k9, k10, k11, k12, k13]
def interned : List (Array UInt16 × Addr) := []
def slotsUsed : Nat := 17
def theMethod : MethodId := ⟨1, 1⟩
def args0 : Array Value := #[.int 3, .int 4]
def aboutOver (below : List Frame) : State where
  vm := { classes := classes, interned := interned.toArray }
  heap := heap
  slotsUsed := slotsUsed
  threads := #[{ frames := .invoking theMethod args0 :: below }]
def below0 : List Frame := [.native { method := ⟨0, 0⟩, args := #[] }]
def about1 : State := aboutOver below0
def p0 : Program := .bare "" "" ""
def e0 : Env := launch0.env 0 0 0
theorem w_frames : about1.frames = Frame.invoking theMethod args0 :: below0 := rfl
set_option maxRecDepth 65536 in
theorem w_args : argsFit about1.vm theMethod args0 = true := by decide +kernel
set_option maxRecDepth 65536 in
theorem w_heap : heapFits about1 = true := by decide +kernel
set_option maxRecDepth 65536 in
theorem w_runnable : about1.curStatus? = some .runnable := by decide +kernel
set_option maxRecDepth 65536 in
theorem w_alone : about1.alone = true := by decide +kernel
set_option maxRecDepth 65536 in
theorem w_named : about1.methodNamed? x = some theMethod := by decide +kernel
set_option maxRecDepth 65536 in
theorem w_hears : about1.hears theMethod below0 = true := by decide +kernel
set_option maxRecDepth 65536 in
theorem w_ripe : about1.ripe theMethod args0 below0 = true := by decide +kernel
theorem w_running : about1.status = .running := rfl
set_option maxRecDepth 65536 in
theorem w_room : about1.hasRoom e0.platform room_1 = true :=
  launch0.hasRoom_least _ room_1 (by decide +kernel) (by decide +kernel) (by decide +kernel) (by decide +kernel) (by decide +kernel) (by decide +kernel)
theorem allAtoms_all (ts : List Jvm.Cond) (a : Array Jvm.Value) (st : Jvm.State) : (allAtoms ts).before a st = ts.all (fun c => c.before a st) := by
  induction ts with
  | nil => rfl
  | cons c t ih =>
    show (Jvm.Cond.and c (allAtoms t)).before a st = _
    rw [Jvm.Cond.before_and, ih, List.all_cons]
def words1 : List Jvm.Cond := Jvm.Cond.code x code maxLocals ret :: tables_1
/-- a 'code' word, met by the world's own term for the bytes: nothing is compared byte by byte -/
theorem code_word {y : MethodName} {bytes : ByteArray} {mx : Nat} {rt : Option FieldType} {a : Array Value} {s : State} {m : MethodId} {meth : Method} {c : Code} (h1 : s.methodNamed? y = some m) (h2 : s.vm.method? m = some meth) (h3 : meth.code = some c) (h4 : c.code = bytes)
    (h5 : (c.maxLocals == mx && c.exceptionTable.isEmpty && decide (c.maxStack ≤ mostOperands) && decide (meth.sig.returnType = rt) && !meth.locks && decide (parseMethodDescriptor y.desc = some meth.sig)) = true) : (Jvm.Cond.code y bytes mx rt).before a s = true := by
  simp only [Bool.and_eq_true, beq_iff_eq, Bool.not_eq_true', decide_eq_true_eq] at h5
  obtain ⟨⟨⟨⟨⟨g1, g2⟩, g3⟩, g4⟩, g5⟩, g6⟩ := h5
  simp [Cond.before, Cond.holds, Cond.value, h1, h2, h3, h4, g1, g2, g3, g4, g5, g6]
def isCode : Jvm.Cond → Bool
  | .code _ _ _ _ => true
  | _ => false
theorem all_split {L : List Jvm.Cond} {P : Jvm.Cond → Bool} (h1 : L.all (fun c => isCode c || P c) = true) (h2 : ∀ c ∈ L.filter isCode, P c = true) : L.all P = true := by
  refine List.all_eq_true.mpr fun c hc => ?_
  have h := List.all_eq_true.mp h1 c hc
  rcases Bool.eq_false_or_eq_true (isCode c) with hi | hi
  · exact h2 c (List.mem_filter.mpr ⟨hc, hi⟩)
  · simpa [hi] using h
set_option maxRecDepth 65536 in
theorem w_c0 : (Jvm.Cond.code x code maxLocals ret).before args0 about1 = true := code_word (m := ⟨1, 1⟩) (meth := k1m1) (c := k1c1) (by decide +kernel) rfl rfl rfl (by decide +kernel)
set_option maxRecDepth 65536 in
theorem w_c1 : (Jvm.Cond.code ({ cls := "com/example/warmline/warmline/core/Limit", name := "largestGuarded", desc := "(IZ)Ljava/util/Optional;" } : Jvm.MethodName) prog_24_method_7_code (3 : Nat) (Option.some (Jvm.ClassFile.FieldType.object "java/util/Optional"))).before args0 about1 = true := code_word (m := ⟨6, 1⟩) (meth := k6m1) (c := k6c1) (by decide +kernel) rfl rfl rfl (by decide +kernel)
set_option maxRecDepth 65536 in
theorem w_c2 : (Jvm.Cond.code ({ cls := "com/example/warmline/warmline/core/Limit", name := "isExceededBy", desc := "(I)Z" } : Jvm.MethodName) prog_24_method_6_code (2 : Nat) (Option.some Jvm.ClassFile.FieldType.boolean)).before args0 about1 = true := code_word (m := ⟨6, 0⟩) (meth := k6m0) (c := k6c0) (by decide +kernel) rfl rfl rfl (by decide +kernel)
set_option maxRecDepth 65536 in
theorem w_c3 : (Jvm.Cond.code ({ cls := "java/util/Optional", name := "empty", desc := "()Ljava/util/Optional;" } : Jvm.MethodName) jdk_32_method_1_code (1 : Nat) (Option.some (Jvm.ClassFile.FieldType.object "java/util/Optional"))).before args0 about1 = true := code_word (m := ⟨7, 0⟩) (meth := k7m0) (c := k7c0) (by decide +kernel) rfl rfl rfl (by decide +kernel)
set_option maxRecDepth 65536 in
theorem w_c4 : (Jvm.Cond.code ({ cls := "java/util/Optional", name := "isPresent", desc := "()Z" } : Jvm.MethodName) jdk_32_method_6_code (1 : Nat) (Option.some Jvm.ClassFile.FieldType.boolean)).before args0 about1 = true := code_word (m := ⟨7, 4⟩) (meth := k7m4) (c := k7c4) (by decide +kernel) rfl rfl rfl (by decide +kernel)
set_option maxRecDepth 65536 in
theorem w_c5 : (Jvm.Cond.code ({ cls := "java/util/Optional", name := "of", desc := "(Ljava/lang/Object;)Ljava/util/Optional;" } : Jvm.MethodName) jdk_32_method_3_code (1 : Nat) (Option.some (Jvm.ClassFile.FieldType.object "java/util/Optional"))).before args0 about1 = true := code_word (m := ⟨7, 2⟩) (meth := k7m2) (c := k7c2) (by decide +kernel) rfl rfl rfl (by decide +kernel)
set_option maxRecDepth 65536 in
theorem w_c6 : (Jvm.Cond.code ({ cls := "java/util/Objects", name := "requireNonNull", desc := "(Ljava/lang/Object;)Ljava/lang/Object;" } : Jvm.MethodName) jdk_31_method_10_code (1 : Nat) (Option.some (Jvm.ClassFile.FieldType.object "java/lang/Object"))).before args0 about1 = true := code_word (m := ⟨8, 1⟩) (meth := k8m1) (c := k8c1) (by decide +kernel) rfl rfl rfl (by decide +kernel)
set_option maxRecDepth 65536 in
theorem w_c7 : (Jvm.Cond.code ({ cls := "java/util/Optional", name := "<init>", desc := "(Ljava/lang/Object;)V" } : Jvm.MethodName) jdk_32_method_2_code (2 : Nat) (Option.none : Option Jvm.ClassFile.FieldType)).before args0 about1 = true := code_word (m := ⟨7, 1⟩) (meth := k7m1) (c := k7c1) (by decide +kernel) rfl rfl rfl (by decide +kernel)
set_option maxRecDepth 65536 in
theorem w_c8 : (Jvm.Cond.code ({ cls := "java/lang/Object", name := "<init>", desc := "()V" } : Jvm.MethodName) object_method_1_code (1 : Nat) (Option.none : Option Jvm.ClassFile.FieldType)).before args0 about1 = true := code_word (m := ⟨0, 0⟩) (meth := k0m0) (c := k0c0) (by decide +kernel) rfl rfl rfl (by decide +kernel)
set_option maxRecDepth 65536 in
theorem w_c9 : (Jvm.Cond.code ({ cls := "java/util/Optional", name := "get", desc := "()Ljava/lang/Object;" } : Jvm.MethodName) jdk_32_method_5_code (1 : Nat) (Option.some (Jvm.ClassFile.FieldType.object "java/lang/Object"))).before args0 about1 = true := code_word (m := ⟨7, 3⟩) (meth := k7m3) (c := k7c3) (by decide +kernel) rfl rfl rfl (by decide +kernel)
def codes1 : List Jvm.Cond := [Jvm.Cond.code x code maxLocals ret, Jvm.Cond.code ({ cls := "com/example/warmline/warmline/core/Limit", name := "largestGuarded", desc := "(IZ)Ljava/util/Optional;" } : Jvm.MethodName) prog_24_method_7_code (3 : Nat) (Option.some (Jvm.ClassFile.FieldType.object "java/util/Optional")), Jvm.Cond.code ({ cls := "com/example/warmline/warmline/core/Limit", name := "isExceededBy", desc := "(I)Z" } : Jvm.MethodName) prog_24_method_6_code (2 : Nat) (Option.some Jvm.ClassFile.FieldType.boolean), Jvm.Cond.code ({ cls := "java/util/Optional", name := "empty", desc := "()Ljava/util/Optional;" } : Jvm.MethodName) jdk_32_method_1_code (1 : Nat) (Option.some (Jvm.ClassFile.FieldType.object "java/util/Optional")), Jvm.Cond.code ({ cls := "java/util/Optional", name := "isPresent", desc := "()Z" } : Jvm.MethodName) jdk_32_method_6_code (1 : Nat) (Option.some Jvm.ClassFile.FieldType.boolean), Jvm.Cond.code ({ cls := "java/util/Optional", name := "of", desc := "(Ljava/lang/Object;)Ljava/util/Optional;" } : Jvm.MethodName) jdk_32_method_3_code (1 : Nat) (Option.some (Jvm.ClassFile.FieldType.object "java/util/Optional")), Jvm.Cond.code ({ cls := "java/util/Objects", name := "requireNonNull", desc := "(Ljava/lang/Object;)Ljava/lang/Object;" } : Jvm.MethodName) jdk_31_method_10_code (1 : Nat) (Option.some (Jvm.ClassFile.FieldType.object "java/lang/Object")), Jvm.Cond.code ({ cls := "java/util/Optional", name := "<init>", desc := "(Ljava/lang/Object;)V" } : Jvm.MethodName) jdk_32_method_2_code (2 : Nat) (Option.none : Option Jvm.ClassFile.FieldType), Jvm.Cond.code ({ cls := "java/lang/Object", name := "<init>", desc := "()V" } : Jvm.MethodName) object_method_1_code (1 : Nat) (Option.none : Option Jvm.ClassFile.FieldType), Jvm.Cond.code ({ cls := "java/util/Optional", name := "get", desc := "()Ljava/lang/Object;" } : Jvm.MethodName) jdk_32_method_5_code (1 : Nat) (Option.some (Jvm.ClassFile.FieldType.object "java/lang/Object"))]
set_option maxRecDepth 65536 in
theorem codes_eq : words1.filter isCode = codes1 := rfl
theorem w_codes : ∀ c ∈ words1.filter isCode, c.before args0 about1 = true := by
  rw [codes_eq]
  intro c hc
  simp only [codes1, List.mem_cons, List.not_mem_nil, or_false] at hc
  rcases hc with rfl | rfl | rfl | rfl | rfl | rfl | rfl | rfl | rfl | rfl
  · exact w_c0
  · exact w_c1
  · exact w_c2
  · exact w_c3
  · exact w_c4
  · exact w_c5
  · exact w_c6
  · exact w_c7
  · exact w_c8
  · exact w_c9
set_option maxRecDepth 65536 in
theorem w_t1 : (words1.take 24).all (fun c => isCode c || c.before args0 about1) = true := by decide +kernel
set_option maxRecDepth 65536 in
theorem w_t2 : ((words1.drop 24).take 24).all (fun c => isCode c || c.before args0 about1) = true := by decide +kernel
set_option maxRecDepth 65536 in
theorem w_t3 : ((words1.drop 24).drop 24).all (fun c => isCode c || c.before args0 about1) = true := by decide +kernel
theorem w_tables : (allAtoms (Jvm.Cond.code x code maxLocals ret :: tables_1)).before args0 about1 = true := by
  rw [allAtoms_all]
  show words1.all (fun c => c.before args0 about1) = true
  refine all_split ?_ w_codes
  rw [← List.take_append_drop 24 words1, List.all_append, w_t1, ← List.take_append_drop 24 (words1.drop 24), List.all_append, w_t2, w_t3]
  rfl
set_option maxRecDepth 65536 in
theorem w_rest : rest_1_c.before args0 about1 = true := by decide +kernel
set_option maxRecDepth 65536 in
theorem w_case : (Jvm.Cond.and given_1 narrow_1).before args0 about1 = true := by decide +kernel
theorem w_applies : (headSpec (Jvm.Cond.code x code maxLocals ret :: tables_1) room_1).applies x e0.platform about1 = true :=
  (Spec.applies_iff w_frames).mpr ⟨w_running, w_runnable, w_alone, w_named, w_hears, w_ripe, w_room, w_tables⟩
theorem atStart : AtStart classFile x code maxLocals ret World_1 tables_1 room_1 Calls_1 rest_1 Pre_1 launch0 p0 e0 about1 theMethod args0 below0 :=
  ⟨lists_1, trivial, launch0.admits_env _ _ _, launch0.least_env, fairChoices_fair.cas, fairChoices_fair.clock, w_frames, w_args, w_heap, w_applies, trivial, w_rest, w_case⟩
end start1
theorem witness_1 : WitnessClaimed_1 := ⟨start1.p0, start1.e0, start1.about1, start1.theMethod, start1.args0, start1.below0, start1.atStart⟩
end Jvm.Pilot.@@N@@
