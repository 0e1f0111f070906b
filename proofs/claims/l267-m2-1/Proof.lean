import JvmDerived
import JvmDerived.Pilot.@@N@@Statement
import JvmDerived.Pilot.@@N@@Code
set_option linter.unusedVariables false
set_option linter.unusedSimpArgs false
namespace Jvm.Pilot.@@N@@
open Jvm Jvm.ClassFile Sem Op Lib Jvm.Free Jvm.Stand Jvm.LawKit Jvm.RoadKit Bundle Jvm.Pilot.@@N@@.Jvm.D
/-! own_Ends: from the state T the run ends well -/
def own_Ends (p : Program) (e : Env) (below : List Frame) (P : State → Outcome → Prop) (T : State) : Prop := ∃ U o, Steps p.tables e below T U ∧ U.status = .running ∧ Ended U below o ∧ P U o
def own_Got (s : State) (Q : Option Value → Heap → List Loc → Prop) (C N : Nat) (U : State) (o : Outcome) : Prop := ∃ v L, o = .returned v ∧ Q v U.heap L ∧ FrameEnd s o U L C N
section Own
variable {p : Program} {l : Launch} {e : Env} {R : Room} {s : State} {m : MethodId} {args : Array Value} {below : List Frame} {meth : Method} {c : Code} {T T' : State} {locs : List Loc} {cells slots : Nat} {P : State → Outcome → Prop}
theorem own_go (h : ∀ target, Steps p.tables e below T' target → Steps p.tables e below T target) (k : own_Ends p e below P T') : own_Ends p e below P T := by
  obtain ⟨U, o, h1, h2⟩ := k; exact ⟨U, o, h _ h1, h2⟩
theorem own_tr (h : Steps p.tables e below T T') (k : own_Ends p e below P T') : own_Ends p e below P T := by
  obtain ⟨U, o, h1, h2⟩ := k; exact ⟨U, o, h.trans h1, h2⟩
variable {Q : Option Value → Heap → List Loc → Prop} {C N : Nat}
theorem own_ret (X : Stand p l e R s m args below meth c T locs cells slots) (hx : p.tables.exec = Jvm.exec) (lk : meth.locks = false) {pc : Nat} {Ls : Array Slot} {w : Value} {t : FieldType} {i : Instr} {rest : List Value} (hret : meth.sig.returnType = some t) (hn : narrow t w = w)
    (hi : (i = .ireturn ∧ (t = .int ∨ t = .boolean ∨ t = .byte ∨ t = .char ∨ t = .short) ∧ ∃ z, w = .int z) ∨ (i = .lreturn ∧ t = .long ∧ ∃ z, w = .long z) ∨ (i = .dreturn ∧ t = .double ∧ ∃ z, w = .double z) ∨ (i = .freturn ∧ t = .float ∧ ∃ z, w = .float z) ∨ (i = .areturn ∧ t.isReference = true ∧ w.isRef = true))
    (hd : decode c.code pc = .ok (i, 1)) (hC : cells ≤ C) (hN : slots ≤ N) (hq : Q (some w) T.heap locs) : own_Ends p e below (own_Got s Q C N) (T.setTop (mkF m pc Ls (w :: rest))) := by
  obtain ⟨fs, hr, hrun, hended, hW, hsame⟩ := X.leave (v := some w) (fun h => by rw [hret] at h; cases h) lk
  exact ⟨_, _, retOut X hx hret hn hi hd hr, hrun, hended, _, _, rfl, hq, ⟨_, rfl⟩, hW, hsame.mono hC hN⟩
theorem own_retI (X : Stand p l e R s m args below meth c T locs cells slots) (hx : p.tables.exec = Jvm.exec) (lk : meth.locks = false) {pc : Nat} {Ls : Array Slot} {z : Int32} {rest : List Value} (hret : meth.sig.returnType = some .int)
    (hd : decode c.code pc = .ok (.ireturn, 1)) (hC : cells ≤ C) (hN : slots ≤ N) (hq : Q (some (.int z)) T.heap locs) : own_Ends p e below (own_Got s Q C N) (T.setTop (mkF m pc Ls (.int z :: rest))) :=
  own_ret X hx lk hret rfl (Or.inl ⟨rfl, Or.inl rfl, _, rfl⟩) hd hC hN hq
theorem own_retZ (X : Stand p l e R s m args below meth c T locs cells slots) (hx : p.tables.exec = Jvm.exec) (lk : meth.locks = false) {pc : Nat} {Ls : Array Slot} {z : Int32} {rest : List Value} (hret : meth.sig.returnType = some .boolean) (hn : narrow .boolean (.int z) = .int z)
    (hd : decode c.code pc = .ok (.ireturn, 1)) (hC : cells ≤ C) (hN : slots ≤ N) (hq : Q (some (.int z)) T.heap locs) : own_Ends p e below (own_Got s Q C N) (T.setTop (mkF m pc Ls (.int z :: rest))) :=
  own_ret X hx lk hret hn (Or.inl ⟨rfl, Or.inr (Or.inl rfl), _, rfl⟩) hd hC hN hq
theorem own_retJ (X : Stand p l e R s m args below meth c T locs cells slots) (hx : p.tables.exec = Jvm.exec) (lk : meth.locks = false) {pc : Nat} {Ls : Array Slot} {z : Int64} {rest : List Value} (hret : meth.sig.returnType = some .long)
    (hd : decode c.code pc = .ok (.lreturn, 1)) (hC : cells ≤ C) (hN : slots ≤ N) (hq : Q (some (.long z)) T.heap locs) : own_Ends p e below (own_Got s Q C N) (T.setTop (mkF m pc Ls (.long z :: rest))) :=
  own_ret X hx lk hret rfl (Or.inr (Or.inl ⟨rfl, rfl, _, rfl⟩)) hd hC hN hq
theorem own_retR (X : Stand p l e R s m args below meth c T locs cells slots) (hx : p.tables.exec = Jvm.exec) (lk : meth.locks = false) {pc : Nat} {Ls : Array Slot} {w : Value} {t : FieldType} {rest : List Value} (hret : meth.sig.returnType = some t) (ht : t.isReference = true) (hw : w.isRef = true)
    (hd : decode c.code pc = .ok (.areturn, 1)) (hC : cells ≤ C) (hN : slots ≤ N) (hq : Q (some w) T.heap locs) : own_Ends p e below (own_Got s Q C N) (T.setTop (mkF m pc Ls (w :: rest))) :=
  own_ret X hx lk hret (by rcases ref_cases hw with rfl | ⟨a, rfl⟩ <;> cases t <;> first | rfl | exact absurd ht (by decide)) (Or.inr (Or.inr (Or.inr (Or.inr ⟨rfl, ht, hw⟩)))) hd hC hN hq
theorem own_retV (X : Stand p l e R s m args below meth c T locs cells slots) (hx : p.tables.exec = Jvm.exec) (lk : meth.locks = false) {pc : Nat} {Ls : Array Slot} {st : List Value} (hret : meth.sig.returnType = none)
    (hd : decode c.code pc = .ok (.return_, 1)) (hC : cells ≤ C) (hN : slots ≤ N) (hq : Q none T.heap locs) : own_Ends p e below (own_Got s Q C N) (T.setTop (mkF m pc Ls [])) := by
  obtain ⟨fs, hr, hrun, hended, hW, hsame⟩ := X.leave (v := none) (fun _ => rfl) lk
  exact ⟨_, _, X.returnOut hx hret hd hr, hrun, hended, _, _, rfl, hq, ⟨_, rfl⟩, hW, hsame.mono hC hN⟩
theorem own_fldI {Z : State} {a : Addr} {av : Array Value} {t : Term} {k : Int32} {C n d : String} (ev : t.eval av Z none [] Z = some (.ref a)) (h : (Jvm.Cond.eq (.field t C n d) (.int k)).value av Z none Z [] = some true) : Fld Z Z.heap a C n d (.int k) := by
  obtain ⟨x, y, ex, ey, k1, k2⟩ := cmp_v (Or.inl h)
  cases (Term.int_eval (args := av) (first := Z) (o := none) (idx := []) (s := Z) k).symm.trans ey
  obtain ⟨z, rfl⟩ := k2
  obtain rfl : z = k := gotT (Cond.eq_ints ex (Term.int_eval k)) h
  exact Fld.start ((fld_at ev).symm.trans ex)
theorem own_fldJ {Z : State} {a : Addr} {av : Array Value} {t : Term} {k : Int64} {C n d : String} (ev : t.eval av Z none [] Z = some (.ref a)) (h : (Jvm.Cond.eq (.field t C n d) (.long k)).value av Z none Z [] = some true) : Fld Z Z.heap a C n d (.long k) := by
  obtain ⟨x, y, ex, ey, k1, k2⟩ := cmp_v (Or.inl h)
  cases (long_at (args := av) (first := Z) (o := none) (idx := []) (s := Z) k).symm.trans ey
  obtain ⟨z, rfl⟩ := k2
  obtain rfl : z = k := gotT (eq_L ex (long_at k)) h
  exact Fld.start ((fld_at ev).symm.trans ex)
theorem own_staJ {Z : State} {av : Array Value} {k : Int64} {t : Term} (h : (Jvm.Cond.eq t (.long k)).value av Z none Z [] = some true) : t.eval av Z none [] Z = some (.long k) := by
  obtain ⟨x, y, ex, ey, k1, k2⟩ := cmp_v (Or.inl h)
  cases (long_at (args := av) (first := Z) (o := none) (idx := []) (s := Z) k).symm.trans ey
  obtain ⟨z, rfl⟩ := k2
  obtain rfl : z = k := gotT (eq_L ex (long_at k)) h
  exact ex
theorem own_staI {Z : State} {av : Array Value} {k : Int32} {t : Term} (h : (Jvm.Cond.eq t (.int k)).value av Z none Z [] = some true) : t.eval av Z none [] Z = some (.int k) := by
  obtain ⟨x, y, ex, ey, k1, k2⟩ := cmp_v (Or.inl h)
  cases (Term.int_eval (args := av) (first := Z) (o := none) (idx := []) (s := Z) k).symm.trans ey
  obtain ⟨z, rfl⟩ := k2
  obtain rfl : z = k := gotT (Cond.eq_ints ex (Term.int_eval k)) h
  exact ex
end Own
theorem own_d3_0 : decode jdk_32_method_1_code 0 = .ok (.getstatic 1, 3) := by decide +kernel
theorem own_d3_3 : decode jdk_32_method_1_code 3 = .ok (.astore_n 0, 1) := by decide +kernel
theorem own_d3_4 : decode jdk_32_method_1_code 4 = .ok (.aload_n 0, 1) := by decide +kernel
theorem own_d3_5 : decode jdk_32_method_1_code 5 = .ok (.areturn, 1) := by decide +kernel
theorem own_ef_own_empty (m : MethodId)  : entryFrame m #[] 1 = mkF m 0 #[.unset] [] := by first | (simp [entryFrame, mkF, argsToLocals, Value.category]; done) | rfl
def Q_own_empty (Z : State) (a_EMPTY : Addr) (h0 : Heap) (n0 : Nat) (v : Option Value) (h : Heap) (L : List Loc) : Prop := v = some (.ref a_EMPTY) ∧ Fr n0 L ∧ h = h0
theorem own_pn_java_util_Optional : plainName "java/util/Optional" = true := by first | (simp [plainName, overriddenIn]; done) | decide +kernel
set_option maxRecDepth 65536 in
set_option maxHeartbeats 40000000 in
theorem own_empty (l : Launch) (Z : State) (a0 : Array Value) (hw : ∀ d ∈ tables_1, d.before a0 Z = true) (ws : List Jvm.Cond) (a_EMPTY : Addr) (h0 : Heap) (n0 : Nat) (O0 : Old Z n0 h0) (S_EMPTY : Sta Z Z.heap "java/util/Optional" "EMPTY" "Ljava/util/Optional;" (.ref a_EMPTY)) :
    MetFree l (⟨"java/util/Optional", "empty", "()Ljava/util/Optional;"⟩ : MethodName) (head1 (Jvm.Cond.code (⟨"java/util/Optional", "empty", "()Ljava/util/Optional;"⟩ : MethodName) jdk_32_method_1_code 1 (some (.object "java/util/Optional")) :: ws) ({ frames := 0, cells := 0, slots := 0, locals := 0 } : Room)) (fun args_ U => args_ = #[] ∧ Z.Warmed39 U.vm ∧ U.heap = h0) (fun _ _ _ _ _ => True) (fun _ U o U' => ∃ v L, o = .returned v ∧ Q_own_empty Z a_EMPTY h0 n0 v U'.heap L ∧ FrameEnd U o U' L ({ frames := 0, cells := 0, slots := 0, locals := 0 } : Room).cells ({ frames := 0, cells := 0, slots := 0, locals := 0 } : Room).slots) := by
  refine MetFree.of_bodySF (plainFor_of_name own_pn_java_util_Optional) hisR ?_
  intro pP eE sS mM args below meth cC s₁ Bd hml0 hP hK
  obtain ⟨rfl, hZ, hh⟩ := hP
  have hx := Bd.exec
  have hby := Bd.bytes
  have hml : cC.maxLocals = 1 := hml0
  have hown : sS.vm.findClass "java/util/Optional" = some mM.cls := findClass_of_methodNamed Bd.named
  have hnm := (name_of_methodNamed Bd.named Bd.method).1
  have X0 : Stand pP l eE ({ frames := 0, cells := 0, slots := 0, locals := 0 } : Room) sS mM #[] below meth cC s₁ [] 0 0 := Stand.of_body Bd
  have e0 : s₁.heap = h0 := by rw [← hh, Bd.state]; rfl
  have N0 := Fr.nil n0
  show own_Ends pP eE below (own_Got sS (Q_own_empty Z a_EMPTY h0 n0) ({ frames := 0, cells := 0, slots := 0, locals := 0 } : Room).cells ({ frames := 0, cells := 0, slots := 0, locals := 0 } : Room).slots) (s₁.setTop (entryFrame mM #[] 1))
  rw [own_ef_own_empty mM ]
  obtain ⟨T1, X1, e1, st1⟩ := getS2 X0 hx hZ hown (host := "") (Or.inl (hw _ (List.mem_of_getElem? (i := 18) rfl))) Via.refl e0 (S_EMPTY.ext O0.2) (g := (mkF mM 0 #[.unset] [])) rfl (hb hby own_d3_0)
  refine own_go st1 ?_
  show own_Ends _ _ _ _ (T1.setTop (mkF mM 3 #[.unset] [(.ref a_EMPTY)]))
  refine own_go (fun _ k => XS.astoreN X1.here hx rfl (hb hby own_d3_3) rfl rfl (l' := #[.val (.ref a_EMPTY)]) rfl k) ?_
  show own_Ends _ _ _ _ (T1.setTop (mkF mM 4 #[.val (.ref a_EMPTY)] []))
  refine own_go (fun _ k => XS.aloadN X1.here hx rfl (hb hby own_d3_4) rfl rfl k) ?_
  show own_Ends _ _ _ _ (T1.setTop (mkF mM 5 #[.val (.ref a_EMPTY)] [(.ref a_EMPTY)]))
  exact own_retR X1 hx (BodyLoose.notSynchronized Bd) Bd.returns rfl rfl (hb hby own_d3_5) (by decide) (by decide) (by rw [e1]; exact ⟨rfl, N0, rfl⟩)
theorem own_d4_0 : decode jdk_32_method_6_code 0 = .ok (.aload_n 0, 1) := by decide +kernel
theorem own_d4_1 : decode jdk_32_method_6_code 1 = .ok (.getfield 13, 3) := by decide +kernel
theorem own_d4_4 : decode jdk_32_method_6_code 4 = .ok (.ifnull 7, 3) := by decide +kernel
theorem own_d4_7 : decode jdk_32_method_6_code 7 = .ok (.iconst 1, 1) := by decide +kernel
theorem own_d4_8 : decode jdk_32_method_6_code 8 = .ok (.goto 4, 3) := by decide +kernel
theorem own_d4_12 : decode jdk_32_method_6_code 12 = .ok (.ireturn, 1) := by decide +kernel
theorem own_ef_own_present (m : MethodId) (x0 : Addr) : entryFrame m #[(.ref x0)] 1 = mkF m 0 #[.val (.ref x0)] [] := by first | (simp [entryFrame, mkF, argsToLocals, Value.category]; done) | rfl
def Q_own_present (Z : State) (a : Addr) (x : Addr) (h0 : Heap) (n0 : Nat) (v : Option Value) (h : Heap) (L : List Loc) : Prop := v = some (.int 1) ∧ Fr n0 L ∧ h = h0
set_option maxRecDepth 65536 in
set_option maxHeartbeats 40000000 in
theorem own_present (l : Launch) (Z : State) (a0 : Array Value) (hw : ∀ d ∈ tables_1, d.before a0 Z = true) (ws : List Jvm.Cond) (a : Addr) (x : Addr) (h0 : Heap) (n0 : Nat) (O0 : Old Z n0 h0) (F : Fld Z h0 a "java/util/Optional" "value" "Ljava/lang/Object;" (.ref x)) :
    MetFree l (⟨"java/util/Optional", "isPresent", "()Z"⟩ : MethodName) (head1 (Jvm.Cond.code (⟨"java/util/Optional", "isPresent", "()Z"⟩ : MethodName) jdk_32_method_6_code 1 (some .boolean) :: ws) ({ frames := 0, cells := 0, slots := 0, locals := 0 } : Room)) (fun args_ U => args_ = #[(.ref a)] ∧ Z.Warmed39 U.vm ∧ U.heap = h0) (fun _ _ _ _ _ => True) (fun _ U o U' => ∃ v L, o = .returned v ∧ Q_own_present Z a x h0 n0 v U'.heap L ∧ FrameEnd U o U' L ({ frames := 0, cells := 0, slots := 0, locals := 0 } : Room).cells ({ frames := 0, cells := 0, slots := 0, locals := 0 } : Room).slots) := by
  refine MetFree.of_bodySF (plainFor_of_name own_pn_java_util_Optional) hisR ?_
  intro pP eE sS mM args below meth cC s₁ Bd hml0 hP hK
  obtain ⟨rfl, hZ, hh⟩ := hP
  have hx := Bd.exec
  have hby := Bd.bytes
  have hml : cC.maxLocals = 1 := hml0
  have hown : sS.vm.findClass "java/util/Optional" = some mM.cls := findClass_of_methodNamed Bd.named
  have hnm := (name_of_methodNamed Bd.named Bd.method).1
  have X0 : Stand pP l eE ({ frames := 0, cells := 0, slots := 0, locals := 0 } : Room) sS mM #[(.ref a)] below meth cC s₁ [] 0 0 := Stand.of_body Bd
  have e0 : s₁.heap = h0 := by rw [← hh, Bd.state]; rfl
  have N0 := Fr.nil n0
  show own_Ends pP eE below (own_Got sS (Q_own_present Z a x h0 n0) ({ frames := 0, cells := 0, slots := 0, locals := 0 } : Room).cells ({ frames := 0, cells := 0, slots := 0, locals := 0 } : Room).slots) (s₁.setTop (entryFrame mM #[(.ref a)] 1))
  rw [own_ef_own_present mM a]
  refine own_go (fun _ k => XS.aloadN X0.here hx rfl (hb hby own_d4_0) rfl rfl k) ?_
  show own_Ends _ _ _ _ (s₁.setTop (mkF mM 1 #[.val (.ref a)] [(.ref a)]))
  obtain ⟨T1, X1, e1, st1⟩ := getF X0 hx hZ hown (host := "") (Or.inl (hw _ (List.mem_of_getElem? (i := 24) rfl))) Via.refl e0 F (g := (mkF mM 1 #[.val (.ref a)] [(.ref a)])) rfl rfl (hb hby own_d4_1)
  refine own_go st1 ?_
  show own_Ends _ _ _ _ (T1.setTop (mkF mM 4 #[.val (.ref a)] [(.ref x)]))
  refine own_go (fun _ k => XS.ifnullNo X1.here hx rfl (hb hby own_d4_4) rfl k) ?_
  show own_Ends _ _ _ _ (T1.setTop (mkF mM 7 #[.val (.ref a)] []))
  refine own_go (fun _ k => XS.iconst X1.here hx rfl (hb hby own_d4_7) k) ?_
  show own_Ends _ _ _ _ (T1.setTop (mkF mM 8 #[.val (.ref a)] [(.int (1 : Int32))]))
  refine own_go (fun _ k => XS.goto X1.here hx rfl (pc0 := 8) (pc' := 12) rfl (hb hby own_d4_8) (by decide) (by decide) k) ?_
  show own_Ends _ _ _ _ (T1.setTop (mkF mM 12 #[.val (.ref a)] [(.int (1 : Int32))]))
  exact own_retZ X1 hx (BodyLoose.notSynchronized Bd) Bd.returns rfl (hb hby own_d4_12) (by decide) (by decide) (by rw [e1]; exact ⟨rfl, N0, rfl⟩)
theorem own_d4_11 : decode jdk_32_method_6_code 11 = .ok (.iconst 0, 1) := by decide +kernel
theorem own_ef_own_absent (m : MethodId) (x0 : Addr) : entryFrame m #[(.ref x0)] 1 = mkF m 0 #[.val (.ref x0)] [] := by first | (simp [entryFrame, mkF, argsToLocals, Value.category]; done) | rfl
def Q_own_absent (Z : State) (a : Addr) (h0 : Heap) (n0 : Nat) (v : Option Value) (h : Heap) (L : List Loc) : Prop := v = some (.int 0) ∧ Fr n0 L ∧ h = h0
set_option maxRecDepth 65536 in
set_option maxHeartbeats 40000000 in
theorem own_absent (l : Launch) (Z : State) (a0 : Array Value) (hw : ∀ d ∈ tables_1, d.before a0 Z = true) (ws : List Jvm.Cond) (a : Addr) (h0 : Heap) (n0 : Nat) (O0 : Old Z n0 h0) (F : Fld Z h0 a "java/util/Optional" "value" "Ljava/lang/Object;" .null) :
    MetFree l (⟨"java/util/Optional", "isPresent", "()Z"⟩ : MethodName) (head1 (Jvm.Cond.code (⟨"java/util/Optional", "isPresent", "()Z"⟩ : MethodName) jdk_32_method_6_code 1 (some .boolean) :: ws) ({ frames := 0, cells := 0, slots := 0, locals := 0 } : Room)) (fun args_ U => args_ = #[(.ref a)] ∧ Z.Warmed39 U.vm ∧ U.heap = h0) (fun _ _ _ _ _ => True) (fun _ U o U' => ∃ v L, o = .returned v ∧ Q_own_absent Z a h0 n0 v U'.heap L ∧ FrameEnd U o U' L ({ frames := 0, cells := 0, slots := 0, locals := 0 } : Room).cells ({ frames := 0, cells := 0, slots := 0, locals := 0 } : Room).slots) := by
  refine MetFree.of_bodySF (plainFor_of_name own_pn_java_util_Optional) hisR ?_
  intro pP eE sS mM args below meth cC s₁ Bd hml0 hP hK
  obtain ⟨rfl, hZ, hh⟩ := hP
  have hx := Bd.exec
  have hby := Bd.bytes
  have hml : cC.maxLocals = 1 := hml0
  have hown : sS.vm.findClass "java/util/Optional" = some mM.cls := findClass_of_methodNamed Bd.named
  have hnm := (name_of_methodNamed Bd.named Bd.method).1
  have X0 : Stand pP l eE ({ frames := 0, cells := 0, slots := 0, locals := 0 } : Room) sS mM #[(.ref a)] below meth cC s₁ [] 0 0 := Stand.of_body Bd
  have e0 : s₁.heap = h0 := by rw [← hh, Bd.state]; rfl
  have N0 := Fr.nil n0
  show own_Ends pP eE below (own_Got sS (Q_own_absent Z a h0 n0) ({ frames := 0, cells := 0, slots := 0, locals := 0 } : Room).cells ({ frames := 0, cells := 0, slots := 0, locals := 0 } : Room).slots) (s₁.setTop (entryFrame mM #[(.ref a)] 1))
  rw [own_ef_own_absent mM a]
  refine own_go (fun _ k => XS.aloadN X0.here hx rfl (hb hby own_d4_0) rfl rfl k) ?_
  show own_Ends _ _ _ _ (s₁.setTop (mkF mM 1 #[.val (.ref a)] [(.ref a)]))
  obtain ⟨T1, X1, e1, st1⟩ := getF X0 hx hZ hown (host := "") (Or.inl (hw _ (List.mem_of_getElem? (i := 24) rfl))) Via.refl e0 F (g := (mkF mM 1 #[.val (.ref a)] [(.ref a)])) rfl rfl (hb hby own_d4_1)
  refine own_go st1 ?_
  show own_Ends _ _ _ _ (T1.setTop (mkF mM 4 #[.val (.ref a)] [.null]))
  refine own_go (fun _ k => XS.ifnullYes X1.here hx rfl (pc0 := 4) (pc' := 11) rfl (hb hby own_d4_4) rfl (by decide) (by decide) k) ?_
  show own_Ends _ _ _ _ (T1.setTop (mkF mM 11 #[.val (.ref a)] []))
  refine own_go (fun _ k => XS.iconst X1.here hx rfl (hb hby own_d4_11) k) ?_
  show own_Ends _ _ _ _ (T1.setTop (mkF mM 12 #[.val (.ref a)] [(.int (0 : Int32))]))
  exact own_retZ X1 hx (BodyLoose.notSynchronized Bd) Bd.returns rfl (hb hby own_d4_12) (by decide) (by decide) (by rw [e1]; exact ⟨rfl, N0, rfl⟩)
theorem own_d9_0 : decode jdk_32_method_5_code 0 = .ok (.aload_n 0, 1) := by decide +kernel
theorem own_d9_1 : decode jdk_32_method_5_code 1 = .ok (.getfield 13, 3) := by decide +kernel
theorem own_d9_4 : decode jdk_32_method_5_code 4 = .ok (.ifnonnull 13, 3) := by decide +kernel
theorem own_d9_17 : decode jdk_32_method_5_code 17 = .ok (.aload_n 0, 1) := by decide +kernel
theorem own_d9_18 : decode jdk_32_method_5_code 18 = .ok (.getfield 13, 3) := by decide +kernel
theorem own_d9_21 : decode jdk_32_method_5_code 21 = .ok (.areturn, 1) := by decide +kernel
theorem own_ef_own_get (m : MethodId) (x0 : Addr) : entryFrame m #[(.ref x0)] 1 = mkF m 0 #[.val (.ref x0)] [] := by first | (simp [entryFrame, mkF, argsToLocals, Value.category]; done) | rfl
def Q_own_get (Z : State) (a : Addr) (x : Addr) (h0 : Heap) (n0 : Nat) (v : Option Value) (h : Heap) (L : List Loc) : Prop := v = some (.ref x) ∧ Fr n0 L ∧ h = h0
set_option maxRecDepth 65536 in
set_option maxHeartbeats 40000000 in
theorem own_get (l : Launch) (Z : State) (a0 : Array Value) (hw : ∀ d ∈ tables_1, d.before a0 Z = true) (ws : List Jvm.Cond) (a : Addr) (x : Addr) (h0 : Heap) (n0 : Nat) (O0 : Old Z n0 h0) (F : Fld Z h0 a "java/util/Optional" "value" "Ljava/lang/Object;" (.ref x)) :
    MetFree l (⟨"java/util/Optional", "get", "()Ljava/lang/Object;"⟩ : MethodName) (head1 (Jvm.Cond.code (⟨"java/util/Optional", "get", "()Ljava/lang/Object;"⟩ : MethodName) jdk_32_method_5_code 1 (some (.object "java/lang/Object")) :: ws) ({ frames := 0, cells := 0, slots := 0, locals := 0 } : Room)) (fun args_ U => args_ = #[(.ref a)] ∧ Z.Warmed39 U.vm ∧ U.heap = h0) (fun _ _ _ _ _ => True) (fun _ U o U' => ∃ v L, o = .returned v ∧ Q_own_get Z a x h0 n0 v U'.heap L ∧ FrameEnd U o U' L ({ frames := 0, cells := 0, slots := 0, locals := 0 } : Room).cells ({ frames := 0, cells := 0, slots := 0, locals := 0 } : Room).slots) := by
  refine MetFree.of_bodySF (plainFor_of_name own_pn_java_util_Optional) hisR ?_
  intro pP eE sS mM args below meth cC s₁ Bd hml0 hP hK
  obtain ⟨rfl, hZ, hh⟩ := hP
  have hx := Bd.exec
  have hby := Bd.bytes
  have hml : cC.maxLocals = 1 := hml0
  have hown : sS.vm.findClass "java/util/Optional" = some mM.cls := findClass_of_methodNamed Bd.named
  have hnm := (name_of_methodNamed Bd.named Bd.method).1
  have X0 : Stand pP l eE ({ frames := 0, cells := 0, slots := 0, locals := 0 } : Room) sS mM #[(.ref a)] below meth cC s₁ [] 0 0 := Stand.of_body Bd
  have e0 : s₁.heap = h0 := by rw [← hh, Bd.state]; rfl
  have N0 := Fr.nil n0
  show own_Ends pP eE below (own_Got sS (Q_own_get Z a x h0 n0) ({ frames := 0, cells := 0, slots := 0, locals := 0 } : Room).cells ({ frames := 0, cells := 0, slots := 0, locals := 0 } : Room).slots) (s₁.setTop (entryFrame mM #[(.ref a)] 1))
  rw [own_ef_own_get mM a]
  refine own_go (fun _ k => XS.aloadN X0.here hx rfl (hb hby own_d9_0) rfl rfl k) ?_
  show own_Ends _ _ _ _ (s₁.setTop (mkF mM 1 #[.val (.ref a)] [(.ref a)]))
  obtain ⟨T1, X1, e1, st1⟩ := getF X0 hx hZ hown (host := "") (Or.inl (hw _ (List.mem_of_getElem? (i := 24) rfl))) Via.refl e0 F (g := (mkF mM 1 #[.val (.ref a)] [(.ref a)])) rfl rfl (hb hby own_d9_1)
  refine own_go st1 ?_
  show own_Ends _ _ _ _ (T1.setTop (mkF mM 4 #[.val (.ref a)] [(.ref x)]))
  refine own_go (fun _ k => XS.ifnonnullYes X1.here hx rfl (pc0 := 4) (pc' := 17) rfl (hb hby own_d9_4) rfl (by decide) (by decide) k) ?_
  show own_Ends _ _ _ _ (T1.setTop (mkF mM 17 #[.val (.ref a)] []))
  refine own_go (fun _ k => XS.aloadN X1.here hx rfl (hb hby own_d9_17) rfl rfl k) ?_
  show own_Ends _ _ _ _ (T1.setTop (mkF mM 18 #[.val (.ref a)] [(.ref a)]))
  obtain ⟨T2, X2, e2, st2⟩ := getF X1 hx hZ hown (host := "") (Or.inl (hw _ (List.mem_of_getElem? (i := 24) rfl))) Via.refl e1 F (g := (mkF mM 18 #[.val (.ref a)] [(.ref a)])) rfl rfl (hb hby own_d9_18)
  refine own_go st2 ?_
  show own_Ends _ _ _ _ (T2.setTop (mkF mM 21 #[.val (.ref a)] [(.ref x)]))
  exact own_retR X2 hx (BodyLoose.notSynchronized Bd) Bd.returns rfl rfl (hb hby own_d9_21) (by decide) (by decide) (by rw [e2]; exact ⟨rfl, N0, rfl⟩)
theorem own_d6_0 : decode jdk_31_method_10_code 0 = .ok (.aload_n 0, 1) := by decide +kernel
theorem own_d6_1 : decode jdk_31_method_10_code 1 = .ok (.ifnonnull 11, 3) := by decide +kernel
theorem own_d6_12 : decode jdk_31_method_10_code 12 = .ok (.aload_n 0, 1) := by decide +kernel
theorem own_d6_13 : decode jdk_31_method_10_code 13 = .ok (.areturn, 1) := by decide +kernel
theorem own_ef_own_nonnull (m : MethodId) (x0 : Addr) : entryFrame m #[(.ref x0)] 1 = mkF m 0 #[.val (.ref x0)] [] := by first | (simp [entryFrame, mkF, argsToLocals, Value.category]; done) | rfl
def Q_own_nonnull (Z : State) (x : Addr) (h0 : Heap) (n0 : Nat) (v : Option Value) (h : Heap) (L : List Loc) : Prop := v = some (.ref x) ∧ Fr n0 L ∧ h = h0
theorem own_pn_java_util_Objects : plainName "java/util/Objects" = true := by first | (simp [plainName, overriddenIn]; done) | decide +kernel
set_option maxRecDepth 65536 in
set_option maxHeartbeats 40000000 in
theorem own_nonnull (l : Launch) (Z : State) (a0 : Array Value) (hw : ∀ d ∈ tables_1, d.before a0 Z = true) (ws : List Jvm.Cond) (x : Addr) (h0 : Heap) (n0 : Nat) (O0 : Old Z n0 h0) :
    MetFree l (⟨"java/util/Objects", "requireNonNull", "(Ljava/lang/Object;)Ljava/lang/Object;"⟩ : MethodName) (head1 (Jvm.Cond.code (⟨"java/util/Objects", "requireNonNull", "(Ljava/lang/Object;)Ljava/lang/Object;"⟩ : MethodName) jdk_31_method_10_code 1 (some (.object "java/lang/Object")) :: ws) ({ frames := 0, cells := 0, slots := 0, locals := 0 } : Room)) (fun args_ U => args_ = #[(.ref x)] ∧ Z.Warmed39 U.vm ∧ U.heap = h0) (fun _ _ _ _ _ => True) (fun _ U o U' => ∃ v L, o = .returned v ∧ Q_own_nonnull Z x h0 n0 v U'.heap L ∧ FrameEnd U o U' L ({ frames := 0, cells := 0, slots := 0, locals := 0 } : Room).cells ({ frames := 0, cells := 0, slots := 0, locals := 0 } : Room).slots) := by
  refine MetFree.of_bodySF (plainFor_of_name own_pn_java_util_Objects) hisR ?_
  intro pP eE sS mM args below meth cC s₁ Bd hml0 hP hK
  obtain ⟨rfl, hZ, hh⟩ := hP
  have hx := Bd.exec
  have hby := Bd.bytes
  have hml : cC.maxLocals = 1 := hml0
  have hown : sS.vm.findClass "java/util/Objects" = some mM.cls := findClass_of_methodNamed Bd.named
  have hnm := (name_of_methodNamed Bd.named Bd.method).1
  have X0 : Stand pP l eE ({ frames := 0, cells := 0, slots := 0, locals := 0 } : Room) sS mM #[(.ref x)] below meth cC s₁ [] 0 0 := Stand.of_body Bd
  have e0 : s₁.heap = h0 := by rw [← hh, Bd.state]; rfl
  have N0 := Fr.nil n0
  show own_Ends pP eE below (own_Got sS (Q_own_nonnull Z x h0 n0) ({ frames := 0, cells := 0, slots := 0, locals := 0 } : Room).cells ({ frames := 0, cells := 0, slots := 0, locals := 0 } : Room).slots) (s₁.setTop (entryFrame mM #[(.ref x)] 1))
  rw [own_ef_own_nonnull mM x]
  refine own_go (fun _ k => XS.aloadN X0.here hx rfl (hb hby own_d6_0) rfl rfl k) ?_
  show own_Ends _ _ _ _ (s₁.setTop (mkF mM 1 #[.val (.ref x)] [(.ref x)]))
  refine own_go (fun _ k => XS.ifnonnullYes X0.here hx rfl (pc0 := 1) (pc' := 12) rfl (hb hby own_d6_1) rfl (by decide) (by decide) k) ?_
  show own_Ends _ _ _ _ (s₁.setTop (mkF mM 12 #[.val (.ref x)] []))
  refine own_go (fun _ k => XS.aloadN X0.here hx rfl (hb hby own_d6_12) rfl rfl k) ?_
  show own_Ends _ _ _ _ (s₁.setTop (mkF mM 13 #[.val (.ref x)] [(.ref x)]))
  exact own_retR X0 hx (BodyLoose.notSynchronized Bd) Bd.returns rfl rfl (hb hby own_d6_13) (by decide) (by decide) (by rw [e0]; exact ⟨rfl, N0, rfl⟩)
theorem own_d7_0 : decode jdk_32_method_2_code 0 = .ok (.aload_n 0, 1) := by decide +kernel
theorem own_d7_1 : decode jdk_32_method_2_code 1 = .ok (.invokespecial 7, 3) := by decide +kernel
theorem own_d7_4 : decode jdk_32_method_2_code 4 = .ok (.aload_n 0, 1) := by decide +kernel
theorem own_d7_5 : decode jdk_32_method_2_code 5 = .ok (.aload_n 1, 1) := by decide +kernel
theorem own_d7_6 : decode jdk_32_method_2_code 6 = .ok (.putfield 13, 3) := by decide +kernel
theorem own_d7_9 : decode jdk_32_method_2_code 9 = .ok (.return_, 1) := by decide +kernel
theorem own_ef_own_optinit (m : MethodId) (x0 : Addr) (x1 : Addr) : entryFrame m #[(.ref x0), (.ref x1)] 2 = mkF m 0 #[.val (.ref x0), .val (.ref x1)] [] := by first | (simp [entryFrame, mkF, argsToLocals, Value.category]; done) | rfl
def Q_own_optinit (Z : State) (a : Addr) (x : Addr) (h0 : Heap) (n0 : Nat) (v : Option Value) (h : Heap) (L : List Loc) : Prop := v = none ∧ Fr n0 L ∧ Keep h0 h [a] ∧ Exa Z h a "java/util/Optional" ∧ Fld Z h a "java/util/Optional" "value" "Ljava/lang/Object;" (.ref x)
set_option maxRecDepth 65536 in
set_option maxHeartbeats 40000000 in
theorem own_optinit (l : Launch) (Z : State) (a0 : Array Value) (hw : ∀ d ∈ tables_1, d.before a0 Z = true) (ws : List Jvm.Cond) (a : Addr) (x : Addr) (h0 : Heap) (n0 : Nat) (O0 : Old Z n0 h0) (g_a : n0 ≤ a) (E : Exa Z h0 a "java/util/Optional") (F : Fld Z h0 a "java/util/Optional" "value" "Ljava/lang/Object;" .null) :
    MetFree l (⟨"java/util/Optional", "<init>", "(Ljava/lang/Object;)V"⟩ : MethodName) (head1 (Jvm.Cond.code (⟨"java/util/Optional", "<init>", "(Ljava/lang/Object;)V"⟩ : MethodName) jdk_32_method_2_code 2 none :: ws) ({ frames := 1, cells := 0, slots := 0, locals := 12 } : Room)) (fun args_ U => args_ = #[(.ref a), (.ref x)] ∧ Z.Warmed39 U.vm ∧ U.heap = h0) (fun _ _ _ _ _ => True) (fun _ U o U' => ∃ v L, o = .returned v ∧ Q_own_optinit Z a x h0 n0 v U'.heap L ∧ FrameEnd U o U' L ({ frames := 1, cells := 0, slots := 0, locals := 12 } : Room).cells ({ frames := 1, cells := 0, slots := 0, locals := 12 } : Room).slots) := by
  refine MetFree.of_bodySF (plainFor_of_name own_pn_java_util_Optional) hisR ?_
  intro pP eE sS mM args below meth cC s₁ Bd hml0 hP hK
  obtain ⟨rfl, hZ, hh⟩ := hP
  have hx := Bd.exec
  have hby := Bd.bytes
  have hml : cC.maxLocals = 2 := hml0
  have hown : sS.vm.findClass "java/util/Optional" = some mM.cls := findClass_of_methodNamed Bd.named
  have hnm := (name_of_methodNamed Bd.named Bd.method).1
  have X0 : Stand pP l eE ({ frames := 1, cells := 0, slots := 0, locals := 12 } : Room) sS mM #[(.ref a), (.ref x)] below meth cC s₁ [] 0 0 := Stand.of_body Bd
  have e0 : s₁.heap = h0 := by rw [← hh, Bd.state]; rfl
  have N0 := Fr.nil n0
  show own_Ends pP eE below (own_Got sS (Q_own_optinit Z a x h0 n0) ({ frames := 1, cells := 0, slots := 0, locals := 12 } : Room).cells ({ frames := 1, cells := 0, slots := 0, locals := 12 } : Room).slots) (s₁.setTop (entryFrame mM #[(.ref a), (.ref x)] 2))
  rw [own_ef_own_optinit mM a x]
  refine own_go (fun _ k => XS.aloadN X0.here hx rfl (hb hby own_d7_0) rfl rfl k) ?_
  show own_Ends _ _ _ _ (s₁.setTop (mkF mM 1 #[.val (.ref a), .val (.ref x)] [(.ref a)]))
  obtain ⟨T1, X1, e1, st1⟩ := initO X0 hx hZ hown (hw _ (List.mem_of_getElem? (i := 39) rfl)) (hw _ (List.mem_of_getElem? (i := 40) rfl)) (hw _ (List.mem_of_getElem? (i := 41) rfl)) e0 (g := (mkF mM 1 #[.val (.ref a), .val (.ref x)] [(.ref a)])) rfl (by rw [hml]; rfl) rfl (hb hby own_d7_1) (by decide) (W := 0) (by show 2 * 0 + _ ≤ _; exact Nat.le_of_eq rfl) (by decide)
  refine own_go st1 ?_
  show own_Ends _ _ _ _ (T1.setTop (mkF mM 4 #[.val (.ref a), .val (.ref x)] []))
  refine own_go (fun _ k => XS.aloadN X1.here hx rfl (hb hby own_d7_4) rfl rfl k) ?_
  show own_Ends _ _ _ _ (T1.setTop (mkF mM 5 #[.val (.ref a), .val (.ref x)] [(.ref a)]))
  refine own_go (fun _ k => XS.aloadN X1.here hx rfl (hb hby own_d7_5) rfl rfl k) ?_
  show own_Ends _ _ _ _ (T1.setTop (mkF mM 6 #[.val (.ref a), .val (.ref x)] [(.ref x), (.ref a)]))
  obtain ⟨T2, h2, X2, e2, W2, st2⟩ := putF X1 hx hZ hown (host := "") (Or.inl (hw _ (List.mem_of_getElem? (i := 24) rfl))) Via.refl e1 F E (Or.inr ⟨(hw _ (List.mem_of_getElem? (i := 25) rfl)), rfl, hnm⟩) (hw _ (List.mem_of_getElem? (i := 30) rfl)) (ty := (.object "java/lang/Object")) (by decide) rfl rfl (g := (mkF mM 6 #[.val (.ref a), .val (.ref x)] [(.ref x), (.ref a)])) rfl rfl (hb hby own_d7_6)
  have Fw2 := F.same W2
  have O2 := O0.wr W2 g_a
  have K2 := (Keep.refl h0 [a]).wr W2 (Or.inl (List.mem_of_getElem? (i := 0) rfl))
  have N2 := Fr.snoc X2 N0 g_a
  refine own_go st2 ?_
  show own_Ends _ _ _ _ (T2.setTop (mkF mM 9 #[.val (.ref a), .val (.ref x)] []))
  exact own_retV X2 hx (BodyLoose.notSynchronized Bd) (st := []) Bd.returns (hb hby own_d7_9) (by decide) (by decide) (by rw [e2]; exact ⟨rfl, N2, K2, (E.wr W2), Fw2⟩)
theorem own_pd0 : parseMethodDescriptor "(Ljava/lang/Object;)Ljava/lang/Object;" = some ⟨[(.object "java/lang/Object")], some (.object "java/lang/Object")⟩ := by decide +kernel
theorem own_pd1 : parseMethodDescriptor "(Ljava/lang/Object;)V" = some ⟨[(.object "java/lang/Object")], none⟩ := by decide +kernel
theorem own_d5_0 : decode jdk_32_method_3_code 0 = .ok (.new 2, 3) := by decide +kernel
theorem own_d5_3 : decode jdk_32_method_3_code 3 = .ok (.dup, 1) := by decide +kernel
theorem own_d5_4 : decode jdk_32_method_3_code 4 = .ok (.aload_n 0, 1) := by decide +kernel
theorem own_d5_5 : decode jdk_32_method_3_code 5 = .ok (.invokestatic 17, 3) := by decide +kernel
theorem own_d5_8 : decode jdk_32_method_3_code 8 = .ok (.invokespecial 23, 3) := by decide +kernel
theorem own_d5_11 : decode jdk_32_method_3_code 11 = .ok (.areturn, 1) := by decide +kernel
theorem own_ef_own_of (m : MethodId) (x0 : Addr) : entryFrame m #[(.ref x0)] 1 = mkF m 0 #[.val (.ref x0)] [] := by first | (simp [entryFrame, mkF, argsToLocals, Value.category]; done) | rfl
def Q_own_of (Z : State) (x : Addr) (h0 : Heap) (n0 : Nat) (v : Option Value) (h : Heap) (L : List Loc) : Prop := ∃ b : Addr, v = some (.ref b) ∧ Fr n0 L ∧ n0 ≤ b ∧ Keep h0 h [] ∧ Exa Z h b "java/util/Optional" ∧ Fld Z h b "java/util/Optional" "value" "Ljava/lang/Object;" (.ref x)
set_option maxRecDepth 65536 in
set_option maxHeartbeats 40000000 in
theorem own_of (l : Launch) (Z : State) (a0 : Array Value) (hw : ∀ d ∈ tables_1, d.before a0 Z = true) (ws : List Jvm.Cond) (x : Addr) (h0 : Heap) (n0 : Nat) (O0 : Old Z n0 h0) :
    MetFree l (⟨"java/util/Optional", "of", "(Ljava/lang/Object;)Ljava/util/Optional;"⟩ : MethodName) (head1 (Jvm.Cond.code (⟨"java/util/Optional", "of", "(Ljava/lang/Object;)Ljava/util/Optional;"⟩ : MethodName) jdk_32_method_3_code 1 (some (.object "java/util/Optional")) :: ws) ({ frames := 2, cells := 1, slots := 1, locals := 26 } : Room)) (fun args_ U => args_ = #[(.ref x)] ∧ Z.Warmed39 U.vm ∧ U.heap = h0) (fun _ _ _ _ _ => True) (fun _ U o U' => ∃ v L, o = .returned v ∧ Q_own_of Z x h0 n0 v U'.heap L ∧ FrameEnd U o U' L ({ frames := 2, cells := 1, slots := 1, locals := 26 } : Room).cells ({ frames := 2, cells := 1, slots := 1, locals := 26 } : Room).slots) := by
  refine MetFree.of_bodySF (plainFor_of_name own_pn_java_util_Optional) hisR ?_
  intro pP eE sS mM args below meth cC s₁ Bd hml0 hP hK
  obtain ⟨rfl, hZ, hh⟩ := hP
  have hx := Bd.exec
  have hby := Bd.bytes
  have hml : cC.maxLocals = 1 := hml0
  have hown : sS.vm.findClass "java/util/Optional" = some mM.cls := findClass_of_methodNamed Bd.named
  have hnm := (name_of_methodNamed Bd.named Bd.method).1
  have X0 : Stand pP l eE ({ frames := 2, cells := 1, slots := 1, locals := 26 } : Room) sS mM #[(.ref x)] below meth cC s₁ [] 0 0 := Stand.of_body Bd
  have e0 : s₁.heap = h0 := by rw [← hh, Bd.state]; rfl
  have N0 := Fr.nil n0
  show own_Ends pP eE below (own_Got sS (Q_own_of Z x h0 n0) ({ frames := 2, cells := 1, slots := 1, locals := 26 } : Room).cells ({ frames := 2, cells := 1, slots := 1, locals := 26 } : Room).slots) (s₁.setTop (entryFrame mM #[(.ref x)] 1))
  rw [own_ef_own_of mM x]
  obtain ⟨T1, h1, X1, e1, E1, A1, D1, -, st1⟩ := newO X0 hx hZ hown (hw _ (List.mem_of_getElem? (i := 29) rfl)) (hw _ (List.mem_of_getElem? (i := 30) rfl)) (hw _ (List.mem_of_getElem? (i := 16) rfl)) e0 (g := (mkF mM 0 #[.val (.ref x)] [])) rfl (hb hby own_d5_0) (by decide) (by decide)
  obtain ⟨b1, g1⟩ : ∃ z, z = h0.size := ⟨_, rfl⟩
  rw [← g1] at A1 D1 st1
  have O1 := O0.ext E1
  have g_b1 : n0 ≤ b1 := by rw [g1, ← O0.1]; exact O0.2.1
  have sz_b1 : h0.size ≤ b1 := Nat.le_trans (Keep.refl h0 []).1 (Nat.le_of_eq g1.symm)
  have K1 := (Keep.refl h0 []).ext E1
  have E_b1 : Exa Z h1 b1 "java/util/Optional" := A1
  have F_value_b1 : Fld Z h1 b1 "java/util/Optional" "value" "Ljava/lang/Object;" .null := D1 (Or.inr (hw _ (List.mem_of_getElem? (i := 25) rfl))) (ty := (.object "java/lang/Object")) (by decide)
  refine own_go st1 ?_
  show own_Ends _ _ _ _ (T1.setTop (mkF mM 3 #[.val (.ref x)] [(.ref b1)]))
  refine own_go (fun _ k => XS.dup X1.here hx rfl (hb hby own_d5_3) rfl rfl k) ?_
  show own_Ends _ _ _ _ (T1.setTop (mkF mM 4 #[.val (.ref x)] [(.ref b1), (.ref b1)]))
  refine own_go (fun _ k => XS.aloadN X1.here hx rfl (hb hby own_d5_4) rfl rfl k) ?_
  show own_Ends _ _ _ _ (T1.setTop (mkF mM 5 #[.val (.ref x)] [(.ref x), (.ref b1), (.ref b1)]))
  obtain ⟨_, _, ⟨T2, Lz2, kz2, nz2⟩, -, X2, ⟨Lc2, hQ2, l2, y2, z2⟩, st2⟩ := Jvm.LawKit.callS X1 hx (y := (⟨"java/util/Objects", "requireNonNull", "(Ljava/lang/Object;)Ljava/lang/Object;"⟩ : MethodName)) hown (mvT hZ (hw _ (List.mem_of_getElem? (i := 31) rfl))) (mvT hZ (hw _ (List.mem_of_getElem? (i := 32) rfl))) (mvT hZ (hw _ (List.mem_of_getElem? (i := 33) rfl))) (mvT hZ (hw _ (List.mem_of_getElem? (i := 34) rfl))) (by decide) (backOf (W := 2) (own_nonnull l Z a0 hw [] x h1 n0 O1) hZ (hw _ (List.mem_of_getElem? (i := 34) rfl)) (hw _ (List.mem_of_getElem? (i := 33) rfl)) (by decide) (by decide)) (g := (mkF mM 5 #[.val (.ref x)] [(.ref x), (.ref b1), (.ref b1)])) rfl (by rw [hml]; rfl) (argsL := [(.ref x)]) (rest := [(.ref b1), (.ref b1)]) (lenOf own_pd0 rfl) rfl (by show 2 * 0 + _ ≤ _; exact Nat.le_of_eq rfl) (hb hby own_d5_5) (fun _ _ => ⟨rfl, e1, (by decide : 1 + 0 ≤ _), (by decide : 1 + 0 ≤ _)⟩)
  dsimp only [Pt.U, Pt.locs, Pt.cells, Pt.slots] at X2 l2 y2 z2 st2 hQ2
  subst l2 y2 z2
  obtain ⟨rfl, Nq2, e2⟩ := hQ2
  have N2 := Fr.app N0 Nq2
  refine own_go st2 ?_
  show own_Ends _ _ _ _ (T2.setTop (mkF mM 8 #[.val (.ref x)] [(.ref x), (.ref b1), (.ref b1)]))
  obtain ⟨_, _, ⟨T3, Lz3, kz3, nz3⟩, -, X3, ⟨Lc3, hQ3, l3, y3, z3⟩, st3⟩ := X2.specialBack hx (y := (⟨"java/util/Optional", "<init>", "(Ljava/lang/Object;)V"⟩ : MethodName)) rfl hown (mvT hZ (hw _ (List.mem_of_getElem? (i := 35) rfl))) (mvT hZ (hw _ (List.mem_of_getElem? (i := 36) rfl))) (mvT hZ (hw _ (List.mem_of_getElem? (i := 38) rfl))) (by decide) (backOf (W := 1) (own_optinit l Z a0 hw [] b1 x h1 n0 O1 g_b1 E_b1 F_value_b1) hZ (hw _ (List.mem_of_getElem? (i := 38) rfl)) (hw _ (List.mem_of_getElem? (i := 16) rfl)) (by decide) (by decide)) (g := (mkF mM 8 #[.val (.ref x)] [(.ref x), (.ref b1), (.ref b1)])) rfl (by rw [hml]; rfl) (Steps.refl _) (a := b1) (argsL := [(.ref x)]) (rest := [(.ref b1)]) (lenOf own_pd1 rfl) rfl (by show 2 * 0 + _ ≤ _; exact Nat.le_of_eq rfl) (hb hby own_d5_8) (fun _ _ => ⟨rfl, e2, (by decide : 1 + 0 ≤ _), (by decide : 1 + 0 ≤ _)⟩)
  dsimp only [Pt.U, Pt.locs, Pt.cells, Pt.slots] at X3 l3 y3 z3 st3 hQ3
  subst l3 y3 z3
  obtain ⟨rfl, Nq3, K3, E_b1_3, F_b1_3⟩ := hQ3
  have N3 := Fr.app N2 Nq3
  have O3 := O1.keep K3 (allS g_b1 all0)
  have Kk3 := K1.trans K3 (allS (Or.inr sz_b1) (all0))
  refine own_tr st3 ?_
  show own_Ends _ _ _ _ (T3.setTop (mkF mM 11 #[.val (.ref x)] [(.ref b1)]))
  exact own_retR X3 hx (BodyLoose.notSynchronized Bd) Bd.returns rfl rfl (hb hby own_d5_11) (by decide) (by decide) (⟨b1, rfl, N3, g_b1, Kk3, E_b1_3, F_b1_3⟩)
theorem own_d1_0 : decode method_2_code 0 = .ok (.iload_n 1, 1) := by decide +kernel
theorem own_d1_1 : decode method_2_code 1 = .ok (.bipush 7, 2) := by decide +kernel
theorem own_d1_3 : decode method_2_code 3 = .ok (.iand, 1) := by decide +kernel
theorem own_d1_4 : decode method_2_code 4 = .ok (.istore_n 2, 1) := by decide +kernel
theorem own_d1_5 : decode method_2_code 5 = .ok (.iload_n 2, 1) := by decide +kernel
theorem own_d1_6 : decode method_2_code 6 = .ok (.ifCond .ne 5, 3) := by decide +kernel
theorem own_d1_9 : decode method_2_code 9 = .ok (.iconst 0, 1) := by decide +kernel
theorem own_d1_10 : decode method_2_code 10 = .ok (.ireturn, 1) := by decide +kernel
theorem own_d1_11 : decode method_2_code 11 = .ok (.iload_n 2, 1) := by decide +kernel
theorem own_d1_12 : decode method_2_code 12 = .ok (.iconst 1, 1) := by decide +kernel
theorem own_d1_13 : decode method_2_code 13 = .ok (.if_icmp .ne 5, 3) := by decide +kernel
theorem own_d1_16 : decode method_2_code 16 = .ok (.iconst 1, 1) := by decide +kernel
theorem own_d1_17 : decode method_2_code 17 = .ok (.ireturn, 1) := by decide +kernel
theorem own_d1_18 : decode method_2_code 18 = .ok (.iload_n 2, 1) := by decide +kernel
theorem own_d1_19 : decode method_2_code 19 = .ok (.iconst 2, 1) := by decide +kernel
theorem own_d1_20 : decode method_2_code 20 = .ok (.if_icmp .ne 5, 3) := by decide +kernel
theorem own_d1_23 : decode method_2_code 23 = .ok (.iconst (-1), 1) := by decide +kernel
theorem own_d1_24 : decode method_2_code 24 = .ok (.ireturn, 1) := by decide +kernel
theorem own_d1_25 : decode method_2_code 25 = .ok (.iload_n 2, 1) := by decide +kernel
theorem own_d1_26 : decode method_2_code 26 = .ok (.iconst 3, 1) := by decide +kernel
theorem own_d1_27 : decode method_2_code 27 = .ok (.if_icmp .ne 5, 3) := by decide +kernel
theorem own_d1_30 : decode method_2_code 30 = .ok (.iconst 2, 1) := by decide +kernel
theorem own_d1_31 : decode method_2_code 31 = .ok (.ireturn, 1) := by decide +kernel
theorem own_d1_32 : decode method_2_code 32 = .ok (.iload_n 0, 1) := by decide +kernel
theorem own_d1_33 : decode method_2_code 33 = .ok (.ireturn, 1) := by decide +kernel
theorem own_ef_own_pickCode (m : MethodId) (x0 : Int32) (x1 : Int32) : entryFrame m #[(.int x0), (.int x1)] 3 = mkF m 0 #[.val (.int x0), .val (.int x1), .unset] [] := by first | (simp [entryFrame, mkF, argsToLocals, Value.category]; done) | rfl
def Q_own_pickCode (Z : State) (p : Int32) (q : Int32) (r : Int32) (h0 : Heap) (n0 : Nat) (v : Option Value) (h : Heap) (L : List Loc) : Prop := v = some (.int r) ∧ Fr n0 L ∧ h = h0
theorem own_pn_com_example_letters_over_wire_lettersoverwire_HeaderEncodingForCodePinLaw : plainName "com/example/letters_over_wire/lettersoverwire/HeaderEncodingForCodePinLaw" = true := by first | (simp [plainName, overriddenIn]; done) | decide +kernel
set_option maxRecDepth 65536 in
set_option maxHeartbeats 40000000 in
theorem own_pickCode (l : Launch) (Z : State) (a0 : Array Value) (hw : ∀ d ∈ tables_1, d.before a0 Z = true) (ws : List Jvm.Cond) (p : Int32) (q : Int32) (r : Int32) (h0 : Heap) (n0 : Nat) (O0 : Old Z n0 h0) (hr : r = if (q &&& (7 : Int32)) = (0 : Int32) then 0 else if (q &&& (7 : Int32)) = (1 : Int32) then 1 else if (q &&& (7 : Int32)) = (2 : Int32) then -1 else if (q &&& (7 : Int32)) = (3 : Int32) then 2 else p) :
    MetFree l (⟨"com/example/letters_over_wire/lettersoverwire/HeaderEncodingForCodePinLaw", "pickCode", "(II)I"⟩ : MethodName) (head1 (Jvm.Cond.code (⟨"com/example/letters_over_wire/lettersoverwire/HeaderEncodingForCodePinLaw", "pickCode", "(II)I"⟩ : MethodName) method_2_code 3 (some .int) :: ws) ({ frames := 0, cells := 0, slots := 0, locals := 0 } : Room)) (fun args_ U => args_ = #[(.int p), (.int q)] ∧ Z.Warmed39 U.vm ∧ U.heap = h0) (fun _ _ _ _ _ => True) (fun _ U o U' => ∃ v L, o = .returned v ∧ Q_own_pickCode Z p q r h0 n0 v U'.heap L ∧ FrameEnd U o U' L ({ frames := 0, cells := 0, slots := 0, locals := 0 } : Room).cells ({ frames := 0, cells := 0, slots := 0, locals := 0 } : Room).slots) := by
  refine MetFree.of_bodySF (plainFor_of_name own_pn_com_example_letters_over_wire_lettersoverwire_HeaderEncodingForCodePinLaw) hisR ?_
  intro pP eE sS mM args below meth cC s₁ Bd hml0 hP hK
  obtain ⟨rfl, hZ, hh⟩ := hP
  have hx := Bd.exec
  have hby := Bd.bytes
  have hml : cC.maxLocals = 3 := hml0
  have hown : sS.vm.findClass "com/example/letters_over_wire/lettersoverwire/HeaderEncodingForCodePinLaw" = some mM.cls := findClass_of_methodNamed Bd.named
  have hnm := (name_of_methodNamed Bd.named Bd.method).1
  have X0 : Stand pP l eE ({ frames := 0, cells := 0, slots := 0, locals := 0 } : Room) sS mM #[(.int p), (.int q)] below meth cC s₁ [] 0 0 := Stand.of_body Bd
  have e0 : s₁.heap = h0 := by rw [← hh, Bd.state]; rfl
  have N0 := Fr.nil n0
  show own_Ends pP eE below (own_Got sS (Q_own_pickCode Z p q r h0 n0) ({ frames := 0, cells := 0, slots := 0, locals := 0 } : Room).cells ({ frames := 0, cells := 0, slots := 0, locals := 0 } : Room).slots) (s₁.setTop (entryFrame mM #[(.int p), (.int q)] 3))
  rw [own_ef_own_pickCode mM p q]
  refine own_go (fun _ k => XS.iloadN X0.here hx rfl (hb hby own_d1_0) rfl k) ?_
  show own_Ends _ _ _ _ (s₁.setTop (mkF mM 1 #[.val (.int p), .val (.int q), .unset] [(.int q)]))
  refine own_go (fun _ k => XS.bipush X0.here hx rfl (hb hby own_d1_1) k) ?_
  show own_Ends _ _ _ _ (s₁.setTop (mkF mM 3 #[.val (.int p), .val (.int q), .unset] [(.int (7 : Int32)), (.int q)]))
  refine own_go (fun _ k => XS.iand X0.here hx rfl (hb hby own_d1_3) rfl k) ?_
  show own_Ends _ _ _ _ (s₁.setTop (mkF mM 4 #[.val (.int p), .val (.int q), .unset] [(.int (q &&& (7 : Int32)))]))
  refine own_go (fun _ k => XS.istoreN X0.here hx rfl (hb hby own_d1_4) rfl (l' := #[.val (.int p), .val (.int q), .val (.int (q &&& (7 : Int32)))]) rfl k) ?_
  show own_Ends _ _ _ _ (s₁.setTop (mkF mM 5 #[.val (.int p), .val (.int q), .val (.int (q &&& (7 : Int32)))] []))
  refine own_go (fun _ k => XS.iloadN X0.here hx rfl (hb hby own_d1_5) rfl k) ?_
  show own_Ends _ _ _ _ (s₁.setTop (mkF mM 6 #[.val (.int p), .val (.int q), .val (.int (q &&& (7 : Int32)))] [(.int (q &&& (7 : Int32)))]))
  by_cases hc6_0 : (q &&& (7 : Int32)) = (0 : Int32)
  · refine own_go (fun _ k => XS.ifNo X0.here hx rfl (hb hby own_d1_6) rfl ((if0 _ _).trans (teq hc6_0).2) k) ?_
    show own_Ends _ _ _ _ (s₁.setTop (mkF mM 9 #[.val (.int p), .val (.int q), .val (.int (q &&& (7 : Int32)))] []))
    refine own_go (fun _ k => XS.iconst X0.here hx rfl (hb hby own_d1_9) k) ?_
    show own_Ends _ _ _ _ (s₁.setTop (mkF mM 10 #[.val (.int p), .val (.int q), .val (.int (q &&& (7 : Int32)))] [(.int (0 : Int32))]))
    exact own_retI X0 hx (BodyLoose.notSynchronized Bd) Bd.returns (hb hby own_d1_10) (by decide) (by decide) (by rw [e0]; exact ⟨by rw [hr, if_pos hc6_0], N0, rfl⟩)
  · refine own_go (fun _ k => XS.ifYes X0.here hx rfl (pc0 := 6) (pc' := 11) rfl (hb hby own_d1_6) rfl ((if0 _ _).trans (feq hc6_0).2) (by decide) (by decide) k) ?_
    show own_Ends _ _ _ _ (s₁.setTop (mkF mM 11 #[.val (.int p), .val (.int q), .val (.int (q &&& (7 : Int32)))] []))
    refine own_go (fun _ k => XS.iloadN X0.here hx rfl (hb hby own_d1_11) rfl k) ?_
    show own_Ends _ _ _ _ (s₁.setTop (mkF mM 12 #[.val (.int p), .val (.int q), .val (.int (q &&& (7 : Int32)))] [(.int (q &&& (7 : Int32)))]))
    refine own_go (fun _ k => XS.iconst X0.here hx rfl (hb hby own_d1_12) k) ?_
    show own_Ends _ _ _ _ (s₁.setTop (mkF mM 13 #[.val (.int p), .val (.int q), .val (.int (q &&& (7 : Int32)))] [(.int (1 : Int32)), (.int (q &&& (7 : Int32)))]))
    by_cases hc13_1 : (q &&& (7 : Int32)) = (1 : Int32)
    · refine own_go (fun _ k => XS.icmpNo X0.here hx rfl (hb hby own_d1_13) rfl (teq hc13_1).2 k) ?_
      show own_Ends _ _ _ _ (s₁.setTop (mkF mM 16 #[.val (.int p), .val (.int q), .val (.int (q &&& (7 : Int32)))] []))
      refine own_go (fun _ k => XS.iconst X0.here hx rfl (hb hby own_d1_16) k) ?_
      show own_Ends _ _ _ _ (s₁.setTop (mkF mM 17 #[.val (.int p), .val (.int q), .val (.int (q &&& (7 : Int32)))] [(.int (1 : Int32))]))
      exact own_retI X0 hx (BodyLoose.notSynchronized Bd) Bd.returns (hb hby own_d1_17) (by decide) (by decide) (by rw [e0]; exact ⟨by rw [hr, if_neg hc6_0, if_pos hc13_1], N0, rfl⟩)
    · refine own_go (fun _ k => XS.icmpYes X0.here hx rfl (pc0 := 13) (pc' := 18) rfl (hb hby own_d1_13) rfl (feq hc13_1).2 (by decide) (by decide) k) ?_
      show own_Ends _ _ _ _ (s₁.setTop (mkF mM 18 #[.val (.int p), .val (.int q), .val (.int (q &&& (7 : Int32)))] []))
      refine own_go (fun _ k => XS.iloadN X0.here hx rfl (hb hby own_d1_18) rfl k) ?_
      show own_Ends _ _ _ _ (s₁.setTop (mkF mM 19 #[.val (.int p), .val (.int q), .val (.int (q &&& (7 : Int32)))] [(.int (q &&& (7 : Int32)))]))
      refine own_go (fun _ k => XS.iconst X0.here hx rfl (hb hby own_d1_19) k) ?_
      show own_Ends _ _ _ _ (s₁.setTop (mkF mM 20 #[.val (.int p), .val (.int q), .val (.int (q &&& (7 : Int32)))] [(.int (2 : Int32)), (.int (q &&& (7 : Int32)))]))
      by_cases hc20_2 : (q &&& (7 : Int32)) = (2 : Int32)
      · refine own_go (fun _ k => XS.icmpNo X0.here hx rfl (hb hby own_d1_20) rfl (teq hc20_2).2 k) ?_
        show own_Ends _ _ _ _ (s₁.setTop (mkF mM 23 #[.val (.int p), .val (.int q), .val (.int (q &&& (7 : Int32)))] []))
        refine own_go (fun _ k => XS.iconst X0.here hx rfl (hb hby own_d1_23) k) ?_
        show own_Ends _ _ _ _ (s₁.setTop (mkF mM 24 #[.val (.int p), .val (.int q), .val (.int (q &&& (7 : Int32)))] [(.int (-1 : Int32))]))
        exact own_retI X0 hx (BodyLoose.notSynchronized Bd) Bd.returns (hb hby own_d1_24) (by decide) (by decide) (by rw [e0]; exact ⟨by rw [hr, if_neg hc6_0, if_neg hc13_1, if_pos hc20_2], N0, rfl⟩)
      · refine own_go (fun _ k => XS.icmpYes X0.here hx rfl (pc0 := 20) (pc' := 25) rfl (hb hby own_d1_20) rfl (feq hc20_2).2 (by decide) (by decide) k) ?_
        show own_Ends _ _ _ _ (s₁.setTop (mkF mM 25 #[.val (.int p), .val (.int q), .val (.int (q &&& (7 : Int32)))] []))
        refine own_go (fun _ k => XS.iloadN X0.here hx rfl (hb hby own_d1_25) rfl k) ?_
        show own_Ends _ _ _ _ (s₁.setTop (mkF mM 26 #[.val (.int p), .val (.int q), .val (.int (q &&& (7 : Int32)))] [(.int (q &&& (7 : Int32)))]))
        refine own_go (fun _ k => XS.iconst X0.here hx rfl (hb hby own_d1_26) k) ?_
        show own_Ends _ _ _ _ (s₁.setTop (mkF mM 27 #[.val (.int p), .val (.int q), .val (.int (q &&& (7 : Int32)))] [(.int (3 : Int32)), (.int (q &&& (7 : Int32)))]))
        by_cases hc27_3 : (q &&& (7 : Int32)) = (3 : Int32)
        · refine own_go (fun _ k => XS.icmpNo X0.here hx rfl (hb hby own_d1_27) rfl (teq hc27_3).2 k) ?_
          show own_Ends _ _ _ _ (s₁.setTop (mkF mM 30 #[.val (.int p), .val (.int q), .val (.int (q &&& (7 : Int32)))] []))
          refine own_go (fun _ k => XS.iconst X0.here hx rfl (hb hby own_d1_30) k) ?_
          show own_Ends _ _ _ _ (s₁.setTop (mkF mM 31 #[.val (.int p), .val (.int q), .val (.int (q &&& (7 : Int32)))] [(.int (2 : Int32))]))
          exact own_retI X0 hx (BodyLoose.notSynchronized Bd) Bd.returns (hb hby own_d1_31) (by decide) (by decide) (by rw [e0]; exact ⟨by rw [hr, if_neg hc6_0, if_neg hc13_1, if_neg hc20_2, if_pos hc27_3], N0, rfl⟩)
        · refine own_go (fun _ k => XS.icmpYes X0.here hx rfl (pc0 := 27) (pc' := 32) rfl (hb hby own_d1_27) rfl (feq hc27_3).2 (by decide) (by decide) k) ?_
          show own_Ends _ _ _ _ (s₁.setTop (mkF mM 32 #[.val (.int p), .val (.int q), .val (.int (q &&& (7 : Int32)))] []))
          refine own_go (fun _ k => XS.iloadN X0.here hx rfl (hb hby own_d1_32) rfl k) ?_
          show own_Ends _ _ _ _ (s₁.setTop (mkF mM 33 #[.val (.int p), .val (.int q), .val (.int (q &&& (7 : Int32)))] [(.int p)]))
          exact own_retI X0 hx (BodyLoose.notSynchronized Bd) Bd.returns (hb hby own_d1_33) (by decide) (by decide) (by rw [e0]; exact ⟨by rw [hr, if_neg hc6_0, if_neg hc13_1, if_neg hc20_2, if_neg hc27_3], N0, rfl⟩)
theorem own_pd2 : parseMethodDescriptor "(Ljava/lang/Object;)Ljava/util/Optional;" = some ⟨[(.object "java/lang/Object")], some (.object "java/util/Optional")⟩ := by decide +kernel
theorem own_d2_0 : decode prog_10_method_5_code 0 = .ok (.getstatic 33, 3) := by decide +kernel
theorem own_d2_3 : decode prog_10_method_5_code 3 = .ok (.astore_n 1, 1) := by decide +kernel
theorem own_d2_4 : decode prog_10_method_5_code 4 = .ok (.aload_n 1, 1) := by decide +kernel
theorem own_d2_5 : decode prog_10_method_5_code 5 = .ok (.arraylength, 1) := by decide +kernel
theorem own_d2_6 : decode prog_10_method_5_code 6 = .ok (.istore_n 2, 1) := by decide +kernel
theorem own_d2_7 : decode prog_10_method_5_code 7 = .ok (.iconst 0, 1) := by decide +kernel
theorem own_d2_8 : decode prog_10_method_5_code 8 = .ok (.istore_n 3, 1) := by decide +kernel
theorem own_d2_9 : decode prog_10_method_5_code 9 = .ok (.iload_n 3, 1) := by decide +kernel
theorem own_d2_10 : decode prog_10_method_5_code 10 = .ok (.iload_n 2, 1) := by decide +kernel
theorem own_d2_11 : decode prog_10_method_5_code 11 = .ok (.if_icmp .ge 29, 3) := by decide +kernel
theorem own_d2_14 : decode prog_10_method_5_code 14 = .ok (.aload_n 1, 1) := by decide +kernel
theorem own_d2_15 : decode prog_10_method_5_code 15 = .ok (.iload_n 3, 1) := by decide +kernel
theorem own_d2_16 : decode prog_10_method_5_code 16 = .ok (.aaload, 1) := by decide +kernel
theorem own_d2_17 : decode prog_10_method_5_code 17 = .ok (.astore 4, 2) := by decide +kernel
theorem own_d2_19 : decode prog_10_method_5_code 19 = .ok (.aload 4, 2) := by decide +kernel
theorem own_d2_21 : decode prog_10_method_5_code 21 = .ok (.getfield 29, 3) := by decide +kernel
theorem own_d2_24 : decode prog_10_method_5_code 24 = .ok (.iload_n 0, 1) := by decide +kernel
theorem own_d2_25 : decode prog_10_method_5_code 25 = .ok (.if_icmp .ne 9, 3) := by decide +kernel
theorem own_d2_28 : decode prog_10_method_5_code 28 = .ok (.aload 4, 2) := by decide +kernel
theorem own_d2_30 : decode prog_10_method_5_code 30 = .ok (.invokestatic 36, 3) := by decide +kernel
theorem own_d2_33 : decode prog_10_method_5_code 33 = .ok (.areturn, 1) := by decide +kernel
theorem own_ef_own_for0 (m : MethodId) (x0 : Int32) : entryFrame m #[(.int x0)] 5 = mkF m 0 #[.val (.int x0), .unset, .unset, .unset, .unset] [] := by first | (simp [entryFrame, mkF, argsToLocals, Value.category]; done) | rfl
def Q_own_for0 (Z : State) (p : Int32) (arr : Addr) (kk : ClassId) (a_JSON : Addr) (a_BINARY : Addr) (h0 : Heap) (n0 : Nat) (v : Option Value) (h : Heap) (L : List Loc) : Prop := ∃ b : Addr, v = some (.ref b) ∧ Fr n0 L ∧ n0 ≤ b ∧ Keep h0 h [] ∧ Exa Z h b "java/util/Optional" ∧ Fld Z h b "java/util/Optional" "value" "Ljava/lang/Object;" (.ref a_JSON)
theorem own_pn_com_example_letters_over_wire_lettersoverwire_HeaderEncoding : plainName "com/example/letters_over_wire/lettersoverwire/HeaderEncoding" = true := by first | (simp [plainName, overriddenIn]; done) | decide +kernel
set_option maxRecDepth 65536 in
set_option maxHeartbeats 40000000 in
theorem own_for0 (l : Launch) (Z : State) (a0 : Array Value) (hw : ∀ d ∈ tables_1, d.before a0 Z = true) (ws : List Jvm.Cond) (p : Int32) (arr : Addr) (kk : ClassId) (a_JSON : Addr) (a_BINARY : Addr) (h0 : Heap) (n0 : Nat) (O0 : Old Z n0 h0) (S_ALL : Sta Z Z.heap "com/example/letters_over_wire/lettersoverwire/HeaderEncoding" "ALL" "[Lcom/example/letters_over_wire/lettersoverwire/HeaderEncoding;" (.ref arr)) (V_arr : Arv Z Z.heap arr kk (.object "com/example/letters_over_wire/lettersoverwire/HeaderEncoding") (2 : Int32) [(.ref a_JSON), (.ref a_BINARY)] .null) (F_JSON_code : Fld Z Z.heap a_JSON "com/example/letters_over_wire/lettersoverwire/HeaderEncoding" "code" "I" (.int (0 : Int32))) (F_BINARY_code : Fld Z Z.heap a_BINARY "com/example/letters_over_wire/lettersoverwire/HeaderEncoding" "code" "I" (.int (1 : Int32))) (hp : p = (0 : Int32)) :
    MetFree l (⟨"com/example/letters_over_wire/lettersoverwire/HeaderEncoding", "forCode", "(I)Ljava/util/Optional;"⟩ : MethodName) (head1 (Jvm.Cond.code (⟨"com/example/letters_over_wire/lettersoverwire/HeaderEncoding", "forCode", "(I)Ljava/util/Optional;"⟩ : MethodName) prog_10_method_5_code 5 (some (.object "java/util/Optional")) :: ws) ({ frames := 3, cells := 1, slots := 1, locals := 38 } : Room)) (fun args_ U => args_ = #[(.int p)] ∧ Z.Warmed39 U.vm ∧ U.heap = h0) (fun _ _ _ _ _ => True) (fun _ U o U' => ∃ v L, o = .returned v ∧ Q_own_for0 Z p arr kk a_JSON a_BINARY h0 n0 v U'.heap L ∧ FrameEnd U o U' L ({ frames := 3, cells := 1, slots := 1, locals := 38 } : Room).cells ({ frames := 3, cells := 1, slots := 1, locals := 38 } : Room).slots) := by
  refine MetFree.of_bodySF (plainFor_of_name own_pn_com_example_letters_over_wire_lettersoverwire_HeaderEncoding) hisR ?_
  intro pP eE sS mM args below meth cC s₁ Bd hml0 hP hK
  obtain ⟨rfl, hZ, hh⟩ := hP
  have hx := Bd.exec
  have hby := Bd.bytes
  have hml : cC.maxLocals = 5 := hml0
  have hown : sS.vm.findClass "com/example/letters_over_wire/lettersoverwire/HeaderEncoding" = some mM.cls := findClass_of_methodNamed Bd.named
  have hnm := (name_of_methodNamed Bd.named Bd.method).1
  have X0 : Stand pP l eE ({ frames := 3, cells := 1, slots := 1, locals := 38 } : Room) sS mM #[(.int p)] below meth cC s₁ [] 0 0 := Stand.of_body Bd
  have e0 : s₁.heap = h0 := by rw [← hh, Bd.state]; rfl
  have N0 := Fr.nil n0
  show own_Ends pP eE below (own_Got sS (Q_own_for0 Z p arr kk a_JSON a_BINARY h0 n0) ({ frames := 3, cells := 1, slots := 1, locals := 38 } : Room).cells ({ frames := 3, cells := 1, slots := 1, locals := 38 } : Room).slots) (s₁.setTop (entryFrame mM #[(.int p)] 5))
  rw [own_ef_own_for0 mM p]
  obtain ⟨T1, X1, e1, st1⟩ := getS2 X0 hx hZ hown (host := "") (Or.inl (hw _ (List.mem_of_getElem? (i := 8) rfl))) Via.refl e0 (S_ALL.ext O0.2) (g := (mkF mM 0 #[.val (.int p), .unset, .unset, .unset, .unset] [])) rfl (hb hby own_d2_0)
  refine own_go st1 ?_
  show own_Ends _ _ _ _ (T1.setTop (mkF mM 3 #[.val (.int p), .unset, .unset, .unset, .unset] [(.ref arr)]))
  refine own_go (fun _ k => XS.astoreN X1.here hx rfl (hb hby own_d2_3) rfl rfl (l' := #[.val (.int p), .val (.ref arr), .unset, .unset, .unset]) rfl k) ?_
  show own_Ends _ _ _ _ (T1.setTop (mkF mM 4 #[.val (.int p), .val (.ref arr), .unset, .unset, .unset] []))
  refine own_go (fun _ k => XS.aloadN X1.here hx rfl (hb hby own_d2_4) rfl rfl k) ?_
  show own_Ends _ _ _ _ (T1.setTop (mkF mM 5 #[.val (.int p), .val (.ref arr), .unset, .unset, .unset] [(.ref arr)]))
  obtain ⟨cl2, Ar2, aq2, aS2, aN2, aH2, aG2⟩ := id (V_arr.ext O0.2)
  refine own_go (X1.arraylength hx (by rw [e1]; exact Ar2.1) (State.isArrayOf_alike hZ.alike Ar2.2.1) (g := (mkF mM 5 #[.val (.int p), .val (.ref arr), .unset, .unset, .unset] [(.ref arr)])) rfl rfl (hb hby own_d2_5)) ?_
  rw [len_of aS2 aN2]
  show own_Ends _ _ _ _ (T1.setTop (mkF mM 6 #[.val (.int p), .val (.ref arr), .unset, .unset, .unset] [(.int (2 : Int32))]))
  refine own_go (fun _ k => XS.istoreN X1.here hx rfl (hb hby own_d2_6) rfl (l' := #[.val (.int p), .val (.ref arr), .val (.int (2 : Int32)), .unset, .unset]) rfl k) ?_
  show own_Ends _ _ _ _ (T1.setTop (mkF mM 7 #[.val (.int p), .val (.ref arr), .val (.int (2 : Int32)), .unset, .unset] []))
  refine own_go (fun _ k => XS.iconst X1.here hx rfl (hb hby own_d2_7) k) ?_
  show own_Ends _ _ _ _ (T1.setTop (mkF mM 8 #[.val (.int p), .val (.ref arr), .val (.int (2 : Int32)), .unset, .unset] [(.int (0 : Int32))]))
  refine own_go (fun _ k => XS.istoreN X1.here hx rfl (hb hby own_d2_8) rfl (l' := #[.val (.int p), .val (.ref arr), .val (.int (2 : Int32)), .val (.int (0 : Int32)), .unset]) rfl k) ?_
  show own_Ends _ _ _ _ (T1.setTop (mkF mM 9 #[.val (.int p), .val (.ref arr), .val (.int (2 : Int32)), .val (.int (0 : Int32)), .unset] []))
  refine own_go (fun _ k => XS.iloadN X1.here hx rfl (hb hby own_d2_9) rfl k) ?_
  show own_Ends _ _ _ _ (T1.setTop (mkF mM 10 #[.val (.int p), .val (.ref arr), .val (.int (2 : Int32)), .val (.int (0 : Int32)), .unset] [(.int (0 : Int32))]))
  refine own_go (fun _ k => XS.iloadN X1.here hx rfl (hb hby own_d2_10) rfl k) ?_
  show own_Ends _ _ _ _ (T1.setTop (mkF mM 11 #[.val (.int p), .val (.ref arr), .val (.int (2 : Int32)), .val (.int (0 : Int32)), .unset] [(.int (2 : Int32)), (.int (0 : Int32))]))
  refine own_go (fun _ k => XS.icmpNo X1.here hx rfl (hb hby own_d2_11) rfl (tlt (by decide : (0 : Int32) < (2 : Int32))).2.1 k) ?_
  show own_Ends _ _ _ _ (T1.setTop (mkF mM 14 #[.val (.int p), .val (.ref arr), .val (.int (2 : Int32)), .val (.int (0 : Int32)), .unset] []))
  refine own_go (fun _ k => XS.aloadN X1.here hx rfl (hb hby own_d2_14) rfl rfl k) ?_
  show own_Ends _ _ _ _ (T1.setTop (mkF mM 15 #[.val (.int p), .val (.ref arr), .val (.int (2 : Int32)), .val (.int (0 : Int32)), .unset] [(.ref arr)]))
  refine own_go (fun _ k => XS.iloadN X1.here hx rfl (hb hby own_d2_15) rfl k) ?_
  show own_Ends _ _ _ _ (T1.setTop (mkF mM 16 #[.val (.int p), .val (.ref arr), .val (.int (2 : Int32)), .val (.int (0 : Int32)), .unset] [(.int (0 : Int32)), (.ref arr)]))
  obtain ⟨cl3, Ar3, aq3, aS3, aN3, aH3, aG3⟩ := id (V_arr.ext O0.2)
  have hin3 : ¬ ((0 : Int32) < 0 ∨ cl3.slots.size ≤ ((0 : Int32)).toNatClampNeg) := inb_of aS3 ⟨by decide, by decide⟩
  refine own_go (X1.aaload hx (j := (0 : Int32)) (v := (.ref a_JSON)) (by rw [e1]; exact Ar3.1) (State.isArrayOf_alike hZ.alike Ar3.2.1) rfl Ar3.2.2 hin3 (aH3.at hin3 rfl) (g := (mkF mM 16 #[.val (.int p), .val (.ref arr), .val (.int (2 : Int32)), .val (.int (0 : Int32)), .unset] [(.int (0 : Int32)), (.ref arr)])) rfl rfl (hb hby own_d2_16)) ?_
  show own_Ends _ _ _ _ (T1.setTop (mkF mM 17 #[.val (.int p), .val (.ref arr), .val (.int (2 : Int32)), .val (.int (0 : Int32)), .unset] [(.ref a_JSON)]))
  refine own_go (fun _ k => XS.astore X1.here hx rfl (hb hby own_d2_17) rfl rfl (l' := #[.val (.int p), .val (.ref arr), .val (.int (2 : Int32)), .val (.int (0 : Int32)), .val (.ref a_JSON)]) rfl k) ?_
  show own_Ends _ _ _ _ (T1.setTop (mkF mM 19 #[.val (.int p), .val (.ref arr), .val (.int (2 : Int32)), .val (.int (0 : Int32)), .val (.ref a_JSON)] []))
  refine own_go (fun _ k => XS.aload X1.here hx rfl (hb hby own_d2_19) rfl rfl k) ?_
  show own_Ends _ _ _ _ (T1.setTop (mkF mM 21 #[.val (.int p), .val (.ref arr), .val (.int (2 : Int32)), .val (.int (0 : Int32)), .val (.ref a_JSON)] [(.ref a_JSON)]))
  obtain ⟨T4, X4, e4, st4⟩ := getF X1 hx hZ hown (host := "") (Or.inl (hw _ (List.mem_of_getElem? (i := 11) rfl))) Via.refl e1 (F_JSON_code.ext O0.2) (g := (mkF mM 21 #[.val (.int p), .val (.ref arr), .val (.int (2 : Int32)), .val (.int (0 : Int32)), .val (.ref a_JSON)] [(.ref a_JSON)])) rfl rfl (hb hby own_d2_21)
  refine own_go st4 ?_
  show own_Ends _ _ _ _ (T4.setTop (mkF mM 24 #[.val (.int p), .val (.ref arr), .val (.int (2 : Int32)), .val (.int (0 : Int32)), .val (.ref a_JSON)] [(.int (0 : Int32))]))
  refine own_go (fun _ k => XS.iloadN X4.here hx rfl (hb hby own_d2_24) rfl k) ?_
  show own_Ends _ _ _ _ (T4.setTop (mkF mM 25 #[.val (.int p), .val (.ref arr), .val (.int (2 : Int32)), .val (.int (0 : Int32)), .val (.ref a_JSON)] [(.int p), (.int (0 : Int32))]))
  refine own_go (fun _ k => XS.icmpNo X4.here hx rfl (hb hby own_d2_25) rfl (teq hp.symm).2 k) ?_
  show own_Ends _ _ _ _ (T4.setTop (mkF mM 28 #[.val (.int p), .val (.ref arr), .val (.int (2 : Int32)), .val (.int (0 : Int32)), .val (.ref a_JSON)] []))
  refine own_go (fun _ k => XS.aload X4.here hx rfl (hb hby own_d2_28) rfl rfl k) ?_
  show own_Ends _ _ _ _ (T4.setTop (mkF mM 30 #[.val (.int p), .val (.ref arr), .val (.int (2 : Int32)), .val (.int (0 : Int32)), .val (.ref a_JSON)] [(.ref a_JSON)]))
  obtain ⟨_, _, ⟨T5, Lz5, kz5, nz5⟩, -, X5, ⟨Lc5, hQ5, l5, y5, z5⟩, st5⟩ := Jvm.LawKit.callS X4 hx (y := (⟨"java/util/Optional", "of", "(Ljava/lang/Object;)Ljava/util/Optional;"⟩ : MethodName)) hown (mvT hZ (hw _ (List.mem_of_getElem? (i := 26) rfl))) (mvT hZ (hw _ (List.mem_of_getElem? (i := 27) rfl))) (mvT hZ (hw _ (List.mem_of_getElem? (i := 16) rfl))) (mvT hZ (hw _ (List.mem_of_getElem? (i := 28) rfl))) (by decide) (backOf (W := 0) (own_of l Z a0 hw [] a_JSON h0 n0 O0) hZ (hw _ (List.mem_of_getElem? (i := 28) rfl)) (hw _ (List.mem_of_getElem? (i := 16) rfl)) (by decide) (by decide)) (g := (mkF mM 30 #[.val (.int p), .val (.ref arr), .val (.int (2 : Int32)), .val (.int (0 : Int32)), .val (.ref a_JSON)] [(.ref a_JSON)])) rfl (by rw [hml]; rfl) (argsL := [(.ref a_JSON)]) (rest := []) (lenOf own_pd2 rfl) rfl (by show 2 * 0 + _ ≤ _; exact Nat.le_of_eq rfl) (hb hby own_d2_30) (fun _ _ => ⟨rfl, e4, (by decide : 0 + 1 ≤ _), (by decide : 0 + 1 ≤ _)⟩)
  dsimp only [Pt.U, Pt.locs, Pt.cells, Pt.slots] at X5 l5 y5 z5 st5 hQ5
  subst l5 y5 z5
  obtain ⟨c5, rfl, Nq5, g_c5, K5, E_c5, F_c5⟩ := hQ5
  have N5 := Fr.app N0 Nq5
  have O5 := O0.keep K5 all0
  have Kk5 := (Keep.refl h0 []).trans K5 (all0)
  refine own_go st5 ?_
  show own_Ends _ _ _ _ (T5.setTop (mkF mM 33 #[.val (.int p), .val (.ref arr), .val (.int (2 : Int32)), .val (.int (0 : Int32)), .val (.ref a_JSON)] [(.ref c5)]))
  exact own_retR X5 hx (BodyLoose.notSynchronized Bd) Bd.returns rfl rfl (hb hby own_d2_33) (by decide) (by decide) (⟨c5, rfl, N5, g_c5, Kk5, E_c5, F_c5⟩)
theorem own_d2_34 : decode prog_10_method_5_code 34 = .ok (.iinc 3 1, 3) := by decide +kernel
theorem own_d2_37 : decode prog_10_method_5_code 37 = .ok (.goto (-28), 3) := by decide +kernel
theorem own_ef_own_for1 (m : MethodId) (x0 : Int32) : entryFrame m #[(.int x0)] 5 = mkF m 0 #[.val (.int x0), .unset, .unset, .unset, .unset] [] := by first | (simp [entryFrame, mkF, argsToLocals, Value.category]; done) | rfl
def Q_own_for1 (Z : State) (p : Int32) (arr : Addr) (kk : ClassId) (a_JSON : Addr) (a_BINARY : Addr) (h0 : Heap) (n0 : Nat) (v : Option Value) (h : Heap) (L : List Loc) : Prop := ∃ b : Addr, v = some (.ref b) ∧ Fr n0 L ∧ n0 ≤ b ∧ Keep h0 h [] ∧ Exa Z h b "java/util/Optional" ∧ Fld Z h b "java/util/Optional" "value" "Ljava/lang/Object;" (.ref a_BINARY)
set_option maxRecDepth 65536 in
set_option maxHeartbeats 40000000 in
theorem own_for1 (l : Launch) (Z : State) (a0 : Array Value) (hw : ∀ d ∈ tables_1, d.before a0 Z = true) (ws : List Jvm.Cond) (p : Int32) (arr : Addr) (kk : ClassId) (a_JSON : Addr) (a_BINARY : Addr) (h0 : Heap) (n0 : Nat) (O0 : Old Z n0 h0) (S_ALL : Sta Z Z.heap "com/example/letters_over_wire/lettersoverwire/HeaderEncoding" "ALL" "[Lcom/example/letters_over_wire/lettersoverwire/HeaderEncoding;" (.ref arr)) (V_arr : Arv Z Z.heap arr kk (.object "com/example/letters_over_wire/lettersoverwire/HeaderEncoding") (2 : Int32) [(.ref a_JSON), (.ref a_BINARY)] .null) (F_JSON_code : Fld Z Z.heap a_JSON "com/example/letters_over_wire/lettersoverwire/HeaderEncoding" "code" "I" (.int (0 : Int32))) (F_BINARY_code : Fld Z Z.heap a_BINARY "com/example/letters_over_wire/lettersoverwire/HeaderEncoding" "code" "I" (.int (1 : Int32))) (hp : p = (1 : Int32)) :
    MetFree l (⟨"com/example/letters_over_wire/lettersoverwire/HeaderEncoding", "forCode", "(I)Ljava/util/Optional;"⟩ : MethodName) (head1 (Jvm.Cond.code (⟨"com/example/letters_over_wire/lettersoverwire/HeaderEncoding", "forCode", "(I)Ljava/util/Optional;"⟩ : MethodName) prog_10_method_5_code 5 (some (.object "java/util/Optional")) :: ws) ({ frames := 3, cells := 1, slots := 1, locals := 38 } : Room)) (fun args_ U => args_ = #[(.int p)] ∧ Z.Warmed39 U.vm ∧ U.heap = h0) (fun _ _ _ _ _ => True) (fun _ U o U' => ∃ v L, o = .returned v ∧ Q_own_for1 Z p arr kk a_JSON a_BINARY h0 n0 v U'.heap L ∧ FrameEnd U o U' L ({ frames := 3, cells := 1, slots := 1, locals := 38 } : Room).cells ({ frames := 3, cells := 1, slots := 1, locals := 38 } : Room).slots) := by
  refine MetFree.of_bodySF (plainFor_of_name own_pn_com_example_letters_over_wire_lettersoverwire_HeaderEncoding) hisR ?_
  intro pP eE sS mM args below meth cC s₁ Bd hml0 hP hK
  obtain ⟨rfl, hZ, hh⟩ := hP
  have hx := Bd.exec
  have hby := Bd.bytes
  have hml : cC.maxLocals = 5 := hml0
  have hown : sS.vm.findClass "com/example/letters_over_wire/lettersoverwire/HeaderEncoding" = some mM.cls := findClass_of_methodNamed Bd.named
  have hnm := (name_of_methodNamed Bd.named Bd.method).1
  have X0 : Stand pP l eE ({ frames := 3, cells := 1, slots := 1, locals := 38 } : Room) sS mM #[(.int p)] below meth cC s₁ [] 0 0 := Stand.of_body Bd
  have e0 : s₁.heap = h0 := by rw [← hh, Bd.state]; rfl
  have N0 := Fr.nil n0
  show own_Ends pP eE below (own_Got sS (Q_own_for1 Z p arr kk a_JSON a_BINARY h0 n0) ({ frames := 3, cells := 1, slots := 1, locals := 38 } : Room).cells ({ frames := 3, cells := 1, slots := 1, locals := 38 } : Room).slots) (s₁.setTop (entryFrame mM #[(.int p)] 5))
  rw [own_ef_own_for1 mM p]
  obtain ⟨T1, X1, e1, st1⟩ := getS2 X0 hx hZ hown (host := "") (Or.inl (hw _ (List.mem_of_getElem? (i := 8) rfl))) Via.refl e0 (S_ALL.ext O0.2) (g := (mkF mM 0 #[.val (.int p), .unset, .unset, .unset, .unset] [])) rfl (hb hby own_d2_0)
  refine own_go st1 ?_
  show own_Ends _ _ _ _ (T1.setTop (mkF mM 3 #[.val (.int p), .unset, .unset, .unset, .unset] [(.ref arr)]))
  refine own_go (fun _ k => XS.astoreN X1.here hx rfl (hb hby own_d2_3) rfl rfl (l' := #[.val (.int p), .val (.ref arr), .unset, .unset, .unset]) rfl k) ?_
  show own_Ends _ _ _ _ (T1.setTop (mkF mM 4 #[.val (.int p), .val (.ref arr), .unset, .unset, .unset] []))
  refine own_go (fun _ k => XS.aloadN X1.here hx rfl (hb hby own_d2_4) rfl rfl k) ?_
  show own_Ends _ _ _ _ (T1.setTop (mkF mM 5 #[.val (.int p), .val (.ref arr), .unset, .unset, .unset] [(.ref arr)]))
  obtain ⟨cl2, Ar2, aq2, aS2, aN2, aH2, aG2⟩ := id (V_arr.ext O0.2)
  refine own_go (X1.arraylength hx (by rw [e1]; exact Ar2.1) (State.isArrayOf_alike hZ.alike Ar2.2.1) (g := (mkF mM 5 #[.val (.int p), .val (.ref arr), .unset, .unset, .unset] [(.ref arr)])) rfl rfl (hb hby own_d2_5)) ?_
  rw [len_of aS2 aN2]
  show own_Ends _ _ _ _ (T1.setTop (mkF mM 6 #[.val (.int p), .val (.ref arr), .unset, .unset, .unset] [(.int (2 : Int32))]))
  refine own_go (fun _ k => XS.istoreN X1.here hx rfl (hb hby own_d2_6) rfl (l' := #[.val (.int p), .val (.ref arr), .val (.int (2 : Int32)), .unset, .unset]) rfl k) ?_
  show own_Ends _ _ _ _ (T1.setTop (mkF mM 7 #[.val (.int p), .val (.ref arr), .val (.int (2 : Int32)), .unset, .unset] []))
  refine own_go (fun _ k => XS.iconst X1.here hx rfl (hb hby own_d2_7) k) ?_
  show own_Ends _ _ _ _ (T1.setTop (mkF mM 8 #[.val (.int p), .val (.ref arr), .val (.int (2 : Int32)), .unset, .unset] [(.int (0 : Int32))]))
  refine own_go (fun _ k => XS.istoreN X1.here hx rfl (hb hby own_d2_8) rfl (l' := #[.val (.int p), .val (.ref arr), .val (.int (2 : Int32)), .val (.int (0 : Int32)), .unset]) rfl k) ?_
  show own_Ends _ _ _ _ (T1.setTop (mkF mM 9 #[.val (.int p), .val (.ref arr), .val (.int (2 : Int32)), .val (.int (0 : Int32)), .unset] []))
  refine own_go (fun _ k => XS.iloadN X1.here hx rfl (hb hby own_d2_9) rfl k) ?_
  show own_Ends _ _ _ _ (T1.setTop (mkF mM 10 #[.val (.int p), .val (.ref arr), .val (.int (2 : Int32)), .val (.int (0 : Int32)), .unset] [(.int (0 : Int32))]))
  refine own_go (fun _ k => XS.iloadN X1.here hx rfl (hb hby own_d2_10) rfl k) ?_
  show own_Ends _ _ _ _ (T1.setTop (mkF mM 11 #[.val (.int p), .val (.ref arr), .val (.int (2 : Int32)), .val (.int (0 : Int32)), .unset] [(.int (2 : Int32)), (.int (0 : Int32))]))
  refine own_go (fun _ k => XS.icmpNo X1.here hx rfl (hb hby own_d2_11) rfl (tlt (by decide : (0 : Int32) < (2 : Int32))).2.1 k) ?_
  show own_Ends _ _ _ _ (T1.setTop (mkF mM 14 #[.val (.int p), .val (.ref arr), .val (.int (2 : Int32)), .val (.int (0 : Int32)), .unset] []))
  refine own_go (fun _ k => XS.aloadN X1.here hx rfl (hb hby own_d2_14) rfl rfl k) ?_
  show own_Ends _ _ _ _ (T1.setTop (mkF mM 15 #[.val (.int p), .val (.ref arr), .val (.int (2 : Int32)), .val (.int (0 : Int32)), .unset] [(.ref arr)]))
  refine own_go (fun _ k => XS.iloadN X1.here hx rfl (hb hby own_d2_15) rfl k) ?_
  show own_Ends _ _ _ _ (T1.setTop (mkF mM 16 #[.val (.int p), .val (.ref arr), .val (.int (2 : Int32)), .val (.int (0 : Int32)), .unset] [(.int (0 : Int32)), (.ref arr)]))
  obtain ⟨cl3, Ar3, aq3, aS3, aN3, aH3, aG3⟩ := id (V_arr.ext O0.2)
  have hin3 : ¬ ((0 : Int32) < 0 ∨ cl3.slots.size ≤ ((0 : Int32)).toNatClampNeg) := inb_of aS3 ⟨by decide, by decide⟩
  refine own_go (X1.aaload hx (j := (0 : Int32)) (v := (.ref a_JSON)) (by rw [e1]; exact Ar3.1) (State.isArrayOf_alike hZ.alike Ar3.2.1) rfl Ar3.2.2 hin3 (aH3.at hin3 rfl) (g := (mkF mM 16 #[.val (.int p), .val (.ref arr), .val (.int (2 : Int32)), .val (.int (0 : Int32)), .unset] [(.int (0 : Int32)), (.ref arr)])) rfl rfl (hb hby own_d2_16)) ?_
  show own_Ends _ _ _ _ (T1.setTop (mkF mM 17 #[.val (.int p), .val (.ref arr), .val (.int (2 : Int32)), .val (.int (0 : Int32)), .unset] [(.ref a_JSON)]))
  refine own_go (fun _ k => XS.astore X1.here hx rfl (hb hby own_d2_17) rfl rfl (l' := #[.val (.int p), .val (.ref arr), .val (.int (2 : Int32)), .val (.int (0 : Int32)), .val (.ref a_JSON)]) rfl k) ?_
  show own_Ends _ _ _ _ (T1.setTop (mkF mM 19 #[.val (.int p), .val (.ref arr), .val (.int (2 : Int32)), .val (.int (0 : Int32)), .val (.ref a_JSON)] []))
  refine own_go (fun _ k => XS.aload X1.here hx rfl (hb hby own_d2_19) rfl rfl k) ?_
  show own_Ends _ _ _ _ (T1.setTop (mkF mM 21 #[.val (.int p), .val (.ref arr), .val (.int (2 : Int32)), .val (.int (0 : Int32)), .val (.ref a_JSON)] [(.ref a_JSON)]))
  obtain ⟨T4, X4, e4, st4⟩ := getF X1 hx hZ hown (host := "") (Or.inl (hw _ (List.mem_of_getElem? (i := 11) rfl))) Via.refl e1 (F_JSON_code.ext O0.2) (g := (mkF mM 21 #[.val (.int p), .val (.ref arr), .val (.int (2 : Int32)), .val (.int (0 : Int32)), .val (.ref a_JSON)] [(.ref a_JSON)])) rfl rfl (hb hby own_d2_21)
  refine own_go st4 ?_
  show own_Ends _ _ _ _ (T4.setTop (mkF mM 24 #[.val (.int p), .val (.ref arr), .val (.int (2 : Int32)), .val (.int (0 : Int32)), .val (.ref a_JSON)] [(.int (0 : Int32))]))
  refine own_go (fun _ k => XS.iloadN X4.here hx rfl (hb hby own_d2_24) rfl k) ?_
  show own_Ends _ _ _ _ (T4.setTop (mkF mM 25 #[.val (.int p), .val (.ref arr), .val (.int (2 : Int32)), .val (.int (0 : Int32)), .val (.ref a_JSON)] [(.int p), (.int (0 : Int32))]))
  refine own_go (fun _ k => XS.icmpYes X4.here hx rfl (pc0 := 25) (pc' := 34) rfl (hb hby own_d2_25) rfl (feq (by rw [hp]; decide)).2 (by decide) (by decide) k) ?_
  show own_Ends _ _ _ _ (T4.setTop (mkF mM 34 #[.val (.int p), .val (.ref arr), .val (.int (2 : Int32)), .val (.int (0 : Int32)), .val (.ref a_JSON)] []))
  refine own_go (fun _ k => XS.iinc X4.here hx rfl (hb hby own_d2_34) rfl (l' := #[.val (.int p), .val (.ref arr), .val (.int (2 : Int32)), .val (.int (1 : Int32)), .val (.ref a_JSON)]) rfl k) ?_
  show own_Ends _ _ _ _ (T4.setTop (mkF mM 37 #[.val (.int p), .val (.ref arr), .val (.int (2 : Int32)), .val (.int (1 : Int32)), .val (.ref a_JSON)] []))
  refine own_go (fun _ k => XS.goto X4.here hx rfl (pc0 := 37) (pc' := 9) rfl (hb hby own_d2_37) (by decide) (by decide) k) ?_
  show own_Ends _ _ _ _ (T4.setTop (mkF mM 9 #[.val (.int p), .val (.ref arr), .val (.int (2 : Int32)), .val (.int (1 : Int32)), .val (.ref a_JSON)] []))
  refine own_go (fun _ k => XS.iloadN X4.here hx rfl (hb hby own_d2_9) rfl k) ?_
  show own_Ends _ _ _ _ (T4.setTop (mkF mM 10 #[.val (.int p), .val (.ref arr), .val (.int (2 : Int32)), .val (.int (1 : Int32)), .val (.ref a_JSON)] [(.int (1 : Int32))]))
  refine own_go (fun _ k => XS.iloadN X4.here hx rfl (hb hby own_d2_10) rfl k) ?_
  show own_Ends _ _ _ _ (T4.setTop (mkF mM 11 #[.val (.int p), .val (.ref arr), .val (.int (2 : Int32)), .val (.int (1 : Int32)), .val (.ref a_JSON)] [(.int (2 : Int32)), (.int (1 : Int32))]))
  refine own_go (fun _ k => XS.icmpNo X4.here hx rfl (hb hby own_d2_11) rfl (tlt (by decide : (1 : Int32) < (2 : Int32))).2.1 k) ?_
  show own_Ends _ _ _ _ (T4.setTop (mkF mM 14 #[.val (.int p), .val (.ref arr), .val (.int (2 : Int32)), .val (.int (1 : Int32)), .val (.ref a_JSON)] []))
  refine own_go (fun _ k => XS.aloadN X4.here hx rfl (hb hby own_d2_14) rfl rfl k) ?_
  show own_Ends _ _ _ _ (T4.setTop (mkF mM 15 #[.val (.int p), .val (.ref arr), .val (.int (2 : Int32)), .val (.int (1 : Int32)), .val (.ref a_JSON)] [(.ref arr)]))
  refine own_go (fun _ k => XS.iloadN X4.here hx rfl (hb hby own_d2_15) rfl k) ?_
  show own_Ends _ _ _ _ (T4.setTop (mkF mM 16 #[.val (.int p), .val (.ref arr), .val (.int (2 : Int32)), .val (.int (1 : Int32)), .val (.ref a_JSON)] [(.int (1 : Int32)), (.ref arr)]))
  obtain ⟨cl5, Ar5, aq5, aS5, aN5, aH5, aG5⟩ := id (V_arr.ext O0.2)
  have hin5 : ¬ ((1 : Int32) < 0 ∨ cl5.slots.size ≤ ((1 : Int32)).toNatClampNeg) := inb_of aS5 ⟨by decide, by decide⟩
  refine own_go (X4.aaload hx (j := (1 : Int32)) (v := (.ref a_BINARY)) (by rw [e4]; exact Ar5.1) (State.isArrayOf_alike hZ.alike Ar5.2.1) rfl Ar5.2.2 hin5 (aH5.at hin5 rfl) (g := (mkF mM 16 #[.val (.int p), .val (.ref arr), .val (.int (2 : Int32)), .val (.int (1 : Int32)), .val (.ref a_JSON)] [(.int (1 : Int32)), (.ref arr)])) rfl rfl (hb hby own_d2_16)) ?_
  show own_Ends _ _ _ _ (T4.setTop (mkF mM 17 #[.val (.int p), .val (.ref arr), .val (.int (2 : Int32)), .val (.int (1 : Int32)), .val (.ref a_JSON)] [(.ref a_BINARY)]))
  refine own_go (fun _ k => XS.astore X4.here hx rfl (hb hby own_d2_17) rfl rfl (l' := #[.val (.int p), .val (.ref arr), .val (.int (2 : Int32)), .val (.int (1 : Int32)), .val (.ref a_BINARY)]) rfl k) ?_
  show own_Ends _ _ _ _ (T4.setTop (mkF mM 19 #[.val (.int p), .val (.ref arr), .val (.int (2 : Int32)), .val (.int (1 : Int32)), .val (.ref a_BINARY)] []))
  refine own_go (fun _ k => XS.aload X4.here hx rfl (hb hby own_d2_19) rfl rfl k) ?_
  show own_Ends _ _ _ _ (T4.setTop (mkF mM 21 #[.val (.int p), .val (.ref arr), .val (.int (2 : Int32)), .val (.int (1 : Int32)), .val (.ref a_BINARY)] [(.ref a_BINARY)]))
  obtain ⟨T6, X6, e6, st6⟩ := getF X4 hx hZ hown (host := "") (Or.inl (hw _ (List.mem_of_getElem? (i := 11) rfl))) Via.refl e4 (F_BINARY_code.ext O0.2) (g := (mkF mM 21 #[.val (.int p), .val (.ref arr), .val (.int (2 : Int32)), .val (.int (1 : Int32)), .val (.ref a_BINARY)] [(.ref a_BINARY)])) rfl rfl (hb hby own_d2_21)
  refine own_go st6 ?_
  show own_Ends _ _ _ _ (T6.setTop (mkF mM 24 #[.val (.int p), .val (.ref arr), .val (.int (2 : Int32)), .val (.int (1 : Int32)), .val (.ref a_BINARY)] [(.int (1 : Int32))]))
  refine own_go (fun _ k => XS.iloadN X6.here hx rfl (hb hby own_d2_24) rfl k) ?_
  show own_Ends _ _ _ _ (T6.setTop (mkF mM 25 #[.val (.int p), .val (.ref arr), .val (.int (2 : Int32)), .val (.int (1 : Int32)), .val (.ref a_BINARY)] [(.int p), (.int (1 : Int32))]))
  refine own_go (fun _ k => XS.icmpNo X6.here hx rfl (hb hby own_d2_25) rfl (teq hp.symm).2 k) ?_
  show own_Ends _ _ _ _ (T6.setTop (mkF mM 28 #[.val (.int p), .val (.ref arr), .val (.int (2 : Int32)), .val (.int (1 : Int32)), .val (.ref a_BINARY)] []))
  refine own_go (fun _ k => XS.aload X6.here hx rfl (hb hby own_d2_28) rfl rfl k) ?_
  show own_Ends _ _ _ _ (T6.setTop (mkF mM 30 #[.val (.int p), .val (.ref arr), .val (.int (2 : Int32)), .val (.int (1 : Int32)), .val (.ref a_BINARY)] [(.ref a_BINARY)]))
  obtain ⟨_, _, ⟨T7, Lz7, kz7, nz7⟩, -, X7, ⟨Lc7, hQ7, l7, y7, z7⟩, st7⟩ := Jvm.LawKit.callS X6 hx (y := (⟨"java/util/Optional", "of", "(Ljava/lang/Object;)Ljava/util/Optional;"⟩ : MethodName)) hown (mvT hZ (hw _ (List.mem_of_getElem? (i := 26) rfl))) (mvT hZ (hw _ (List.mem_of_getElem? (i := 27) rfl))) (mvT hZ (hw _ (List.mem_of_getElem? (i := 16) rfl))) (mvT hZ (hw _ (List.mem_of_getElem? (i := 28) rfl))) (by decide) (backOf (W := 0) (own_of l Z a0 hw [] a_BINARY h0 n0 O0) hZ (hw _ (List.mem_of_getElem? (i := 28) rfl)) (hw _ (List.mem_of_getElem? (i := 16) rfl)) (by decide) (by decide)) (g := (mkF mM 30 #[.val (.int p), .val (.ref arr), .val (.int (2 : Int32)), .val (.int (1 : Int32)), .val (.ref a_BINARY)] [(.ref a_BINARY)])) rfl (by rw [hml]; rfl) (argsL := [(.ref a_BINARY)]) (rest := []) (lenOf own_pd2 rfl) rfl (by show 2 * 0 + _ ≤ _; exact Nat.le_of_eq rfl) (hb hby own_d2_30) (fun _ _ => ⟨rfl, e6, (by decide : 0 + 1 ≤ _), (by decide : 0 + 1 ≤ _)⟩)
  dsimp only [Pt.U, Pt.locs, Pt.cells, Pt.slots] at X7 l7 y7 z7 st7 hQ7
  subst l7 y7 z7
  obtain ⟨c7, rfl, Nq7, g_c7, K7, E_c7, F_c7⟩ := hQ7
  have N7 := Fr.app N0 Nq7
  have O7 := O0.keep K7 all0
  have Kk7 := (Keep.refl h0 []).trans K7 (all0)
  refine own_go st7 ?_
  show own_Ends _ _ _ _ (T7.setTop (mkF mM 33 #[.val (.int p), .val (.ref arr), .val (.int (2 : Int32)), .val (.int (1 : Int32)), .val (.ref a_BINARY)] [(.ref c7)]))
  exact own_retR X7 hx (BodyLoose.notSynchronized Bd) Bd.returns rfl rfl (hb hby own_d2_33) (by decide) (by decide) (⟨c7, rfl, N7, g_c7, Kk7, E_c7, F_c7⟩)
theorem own_pd3 : parseMethodDescriptor "()Ljava/util/Optional;" = some ⟨[], some (.object "java/util/Optional")⟩ := by decide +kernel
theorem own_d2_40 : decode prog_10_method_5_code 40 = .ok (.invokestatic 42, 3) := by decide +kernel
theorem own_d2_43 : decode prog_10_method_5_code 43 = .ok (.areturn, 1) := by decide +kernel
theorem own_ef_own_forNone (m : MethodId) (x0 : Int32) : entryFrame m #[(.int x0)] 5 = mkF m 0 #[.val (.int x0), .unset, .unset, .unset, .unset] [] := by first | (simp [entryFrame, mkF, argsToLocals, Value.category]; done) | rfl
def Q_own_forNone (Z : State) (p : Int32) (a_EMPTY : Addr) (arr : Addr) (kk : ClassId) (a_JSON : Addr) (a_BINARY : Addr) (h0 : Heap) (n0 : Nat) (v : Option Value) (h : Heap) (L : List Loc) : Prop := v = some (.ref a_EMPTY) ∧ Fr n0 L ∧ h = h0
set_option maxRecDepth 65536 in
set_option maxHeartbeats 40000000 in
theorem own_forNone (l : Launch) (Z : State) (a0 : Array Value) (hw : ∀ d ∈ tables_1, d.before a0 Z = true) (ws : List Jvm.Cond) (p : Int32) (a_EMPTY : Addr) (arr : Addr) (kk : ClassId) (a_JSON : Addr) (a_BINARY : Addr) (h0 : Heap) (n0 : Nat) (O0 : Old Z n0 h0) (S_ALL : Sta Z Z.heap "com/example/letters_over_wire/lettersoverwire/HeaderEncoding" "ALL" "[Lcom/example/letters_over_wire/lettersoverwire/HeaderEncoding;" (.ref arr)) (V_arr : Arv Z Z.heap arr kk (.object "com/example/letters_over_wire/lettersoverwire/HeaderEncoding") (2 : Int32) [(.ref a_JSON), (.ref a_BINARY)] .null) (S_EMPTY : Sta Z Z.heap "java/util/Optional" "EMPTY" "Ljava/util/Optional;" (.ref a_EMPTY)) (F_JSON_code : Fld Z Z.heap a_JSON "com/example/letters_over_wire/lettersoverwire/HeaderEncoding" "code" "I" (.int (0 : Int32))) (F_BINARY_code : Fld Z Z.heap a_BINARY "com/example/letters_over_wire/lettersoverwire/HeaderEncoding" "code" "I" (.int (1 : Int32))) (hp0 : ¬ p = (0 : Int32)) (hp1 : ¬ p = (1 : Int32)) :
    MetFree l (⟨"com/example/letters_over_wire/lettersoverwire/HeaderEncoding", "forCode", "(I)Ljava/util/Optional;"⟩ : MethodName) (head1 (Jvm.Cond.code (⟨"com/example/letters_over_wire/lettersoverwire/HeaderEncoding", "forCode", "(I)Ljava/util/Optional;"⟩ : MethodName) prog_10_method_5_code 5 (some (.object "java/util/Optional")) :: ws) ({ frames := 1, cells := 0, slots := 0, locals := 12 } : Room)) (fun args_ U => args_ = #[(.int p)] ∧ Z.Warmed39 U.vm ∧ U.heap = h0) (fun _ _ _ _ _ => True) (fun _ U o U' => ∃ v L, o = .returned v ∧ Q_own_forNone Z p a_EMPTY arr kk a_JSON a_BINARY h0 n0 v U'.heap L ∧ FrameEnd U o U' L ({ frames := 1, cells := 0, slots := 0, locals := 12 } : Room).cells ({ frames := 1, cells := 0, slots := 0, locals := 12 } : Room).slots) := by
  refine MetFree.of_bodySF (plainFor_of_name own_pn_com_example_letters_over_wire_lettersoverwire_HeaderEncoding) hisR ?_
  intro pP eE sS mM args below meth cC s₁ Bd hml0 hP hK
  obtain ⟨rfl, hZ, hh⟩ := hP
  have hx := Bd.exec
  have hby := Bd.bytes
  have hml : cC.maxLocals = 5 := hml0
  have hown : sS.vm.findClass "com/example/letters_over_wire/lettersoverwire/HeaderEncoding" = some mM.cls := findClass_of_methodNamed Bd.named
  have hnm := (name_of_methodNamed Bd.named Bd.method).1
  have X0 : Stand pP l eE ({ frames := 1, cells := 0, slots := 0, locals := 12 } : Room) sS mM #[(.int p)] below meth cC s₁ [] 0 0 := Stand.of_body Bd
  have e0 : s₁.heap = h0 := by rw [← hh, Bd.state]; rfl
  have N0 := Fr.nil n0
  show own_Ends pP eE below (own_Got sS (Q_own_forNone Z p a_EMPTY arr kk a_JSON a_BINARY h0 n0) ({ frames := 1, cells := 0, slots := 0, locals := 12 } : Room).cells ({ frames := 1, cells := 0, slots := 0, locals := 12 } : Room).slots) (s₁.setTop (entryFrame mM #[(.int p)] 5))
  rw [own_ef_own_forNone mM p]
  obtain ⟨T1, X1, e1, st1⟩ := getS2 X0 hx hZ hown (host := "") (Or.inl (hw _ (List.mem_of_getElem? (i := 8) rfl))) Via.refl e0 (S_ALL.ext O0.2) (g := (mkF mM 0 #[.val (.int p), .unset, .unset, .unset, .unset] [])) rfl (hb hby own_d2_0)
  refine own_go st1 ?_
  show own_Ends _ _ _ _ (T1.setTop (mkF mM 3 #[.val (.int p), .unset, .unset, .unset, .unset] [(.ref arr)]))
  refine own_go (fun _ k => XS.astoreN X1.here hx rfl (hb hby own_d2_3) rfl rfl (l' := #[.val (.int p), .val (.ref arr), .unset, .unset, .unset]) rfl k) ?_
  show own_Ends _ _ _ _ (T1.setTop (mkF mM 4 #[.val (.int p), .val (.ref arr), .unset, .unset, .unset] []))
  refine own_go (fun _ k => XS.aloadN X1.here hx rfl (hb hby own_d2_4) rfl rfl k) ?_
  show own_Ends _ _ _ _ (T1.setTop (mkF mM 5 #[.val (.int p), .val (.ref arr), .unset, .unset, .unset] [(.ref arr)]))
  obtain ⟨cl2, Ar2, aq2, aS2, aN2, aH2, aG2⟩ := id (V_arr.ext O0.2)
  refine own_go (X1.arraylength hx (by rw [e1]; exact Ar2.1) (State.isArrayOf_alike hZ.alike Ar2.2.1) (g := (mkF mM 5 #[.val (.int p), .val (.ref arr), .unset, .unset, .unset] [(.ref arr)])) rfl rfl (hb hby own_d2_5)) ?_
  rw [len_of aS2 aN2]
  show own_Ends _ _ _ _ (T1.setTop (mkF mM 6 #[.val (.int p), .val (.ref arr), .unset, .unset, .unset] [(.int (2 : Int32))]))
  refine own_go (fun _ k => XS.istoreN X1.here hx rfl (hb hby own_d2_6) rfl (l' := #[.val (.int p), .val (.ref arr), .val (.int (2 : Int32)), .unset, .unset]) rfl k) ?_
  show own_Ends _ _ _ _ (T1.setTop (mkF mM 7 #[.val (.int p), .val (.ref arr), .val (.int (2 : Int32)), .unset, .unset] []))
  refine own_go (fun _ k => XS.iconst X1.here hx rfl (hb hby own_d2_7) k) ?_
  show own_Ends _ _ _ _ (T1.setTop (mkF mM 8 #[.val (.int p), .val (.ref arr), .val (.int (2 : Int32)), .unset, .unset] [(.int (0 : Int32))]))
  refine own_go (fun _ k => XS.istoreN X1.here hx rfl (hb hby own_d2_8) rfl (l' := #[.val (.int p), .val (.ref arr), .val (.int (2 : Int32)), .val (.int (0 : Int32)), .unset]) rfl k) ?_
  show own_Ends _ _ _ _ (T1.setTop (mkF mM 9 #[.val (.int p), .val (.ref arr), .val (.int (2 : Int32)), .val (.int (0 : Int32)), .unset] []))
  refine own_go (fun _ k => XS.iloadN X1.here hx rfl (hb hby own_d2_9) rfl k) ?_
  show own_Ends _ _ _ _ (T1.setTop (mkF mM 10 #[.val (.int p), .val (.ref arr), .val (.int (2 : Int32)), .val (.int (0 : Int32)), .unset] [(.int (0 : Int32))]))
  refine own_go (fun _ k => XS.iloadN X1.here hx rfl (hb hby own_d2_10) rfl k) ?_
  show own_Ends _ _ _ _ (T1.setTop (mkF mM 11 #[.val (.int p), .val (.ref arr), .val (.int (2 : Int32)), .val (.int (0 : Int32)), .unset] [(.int (2 : Int32)), (.int (0 : Int32))]))
  refine own_go (fun _ k => XS.icmpNo X1.here hx rfl (hb hby own_d2_11) rfl (tlt (by decide : (0 : Int32) < (2 : Int32))).2.1 k) ?_
  show own_Ends _ _ _ _ (T1.setTop (mkF mM 14 #[.val (.int p), .val (.ref arr), .val (.int (2 : Int32)), .val (.int (0 : Int32)), .unset] []))
  refine own_go (fun _ k => XS.aloadN X1.here hx rfl (hb hby own_d2_14) rfl rfl k) ?_
  show own_Ends _ _ _ _ (T1.setTop (mkF mM 15 #[.val (.int p), .val (.ref arr), .val (.int (2 : Int32)), .val (.int (0 : Int32)), .unset] [(.ref arr)]))
  refine own_go (fun _ k => XS.iloadN X1.here hx rfl (hb hby own_d2_15) rfl k) ?_
  show own_Ends _ _ _ _ (T1.setTop (mkF mM 16 #[.val (.int p), .val (.ref arr), .val (.int (2 : Int32)), .val (.int (0 : Int32)), .unset] [(.int (0 : Int32)), (.ref arr)]))
  obtain ⟨cl3, Ar3, aq3, aS3, aN3, aH3, aG3⟩ := id (V_arr.ext O0.2)
  have hin3 : ¬ ((0 : Int32) < 0 ∨ cl3.slots.size ≤ ((0 : Int32)).toNatClampNeg) := inb_of aS3 ⟨by decide, by decide⟩
  refine own_go (X1.aaload hx (j := (0 : Int32)) (v := (.ref a_JSON)) (by rw [e1]; exact Ar3.1) (State.isArrayOf_alike hZ.alike Ar3.2.1) rfl Ar3.2.2 hin3 (aH3.at hin3 rfl) (g := (mkF mM 16 #[.val (.int p), .val (.ref arr), .val (.int (2 : Int32)), .val (.int (0 : Int32)), .unset] [(.int (0 : Int32)), (.ref arr)])) rfl rfl (hb hby own_d2_16)) ?_
  show own_Ends _ _ _ _ (T1.setTop (mkF mM 17 #[.val (.int p), .val (.ref arr), .val (.int (2 : Int32)), .val (.int (0 : Int32)), .unset] [(.ref a_JSON)]))
  refine own_go (fun _ k => XS.astore X1.here hx rfl (hb hby own_d2_17) rfl rfl (l' := #[.val (.int p), .val (.ref arr), .val (.int (2 : Int32)), .val (.int (0 : Int32)), .val (.ref a_JSON)]) rfl k) ?_
  show own_Ends _ _ _ _ (T1.setTop (mkF mM 19 #[.val (.int p), .val (.ref arr), .val (.int (2 : Int32)), .val (.int (0 : Int32)), .val (.ref a_JSON)] []))
  refine own_go (fun _ k => XS.aload X1.here hx rfl (hb hby own_d2_19) rfl rfl k) ?_
  show own_Ends _ _ _ _ (T1.setTop (mkF mM 21 #[.val (.int p), .val (.ref arr), .val (.int (2 : Int32)), .val (.int (0 : Int32)), .val (.ref a_JSON)] [(.ref a_JSON)]))
  obtain ⟨T4, X4, e4, st4⟩ := getF X1 hx hZ hown (host := "") (Or.inl (hw _ (List.mem_of_getElem? (i := 11) rfl))) Via.refl e1 (F_JSON_code.ext O0.2) (g := (mkF mM 21 #[.val (.int p), .val (.ref arr), .val (.int (2 : Int32)), .val (.int (0 : Int32)), .val (.ref a_JSON)] [(.ref a_JSON)])) rfl rfl (hb hby own_d2_21)
  refine own_go st4 ?_
  show own_Ends _ _ _ _ (T4.setTop (mkF mM 24 #[.val (.int p), .val (.ref arr), .val (.int (2 : Int32)), .val (.int (0 : Int32)), .val (.ref a_JSON)] [(.int (0 : Int32))]))
  refine own_go (fun _ k => XS.iloadN X4.here hx rfl (hb hby own_d2_24) rfl k) ?_
  show own_Ends _ _ _ _ (T4.setTop (mkF mM 25 #[.val (.int p), .val (.ref arr), .val (.int (2 : Int32)), .val (.int (0 : Int32)), .val (.ref a_JSON)] [(.int p), (.int (0 : Int32))]))
  refine own_go (fun _ k => XS.icmpYes X4.here hx rfl (pc0 := 25) (pc' := 34) rfl (hb hby own_d2_25) rfl (feq (Ne.symm hp0)).2 (by decide) (by decide) k) ?_
  show own_Ends _ _ _ _ (T4.setTop (mkF mM 34 #[.val (.int p), .val (.ref arr), .val (.int (2 : Int32)), .val (.int (0 : Int32)), .val (.ref a_JSON)] []))
  refine own_go (fun _ k => XS.iinc X4.here hx rfl (hb hby own_d2_34) rfl (l' := #[.val (.int p), .val (.ref arr), .val (.int (2 : Int32)), .val (.int (1 : Int32)), .val (.ref a_JSON)]) rfl k) ?_
  show own_Ends _ _ _ _ (T4.setTop (mkF mM 37 #[.val (.int p), .val (.ref arr), .val (.int (2 : Int32)), .val (.int (1 : Int32)), .val (.ref a_JSON)] []))
  refine own_go (fun _ k => XS.goto X4.here hx rfl (pc0 := 37) (pc' := 9) rfl (hb hby own_d2_37) (by decide) (by decide) k) ?_
  show own_Ends _ _ _ _ (T4.setTop (mkF mM 9 #[.val (.int p), .val (.ref arr), .val (.int (2 : Int32)), .val (.int (1 : Int32)), .val (.ref a_JSON)] []))
  refine own_go (fun _ k => XS.iloadN X4.here hx rfl (hb hby own_d2_9) rfl k) ?_
  show own_Ends _ _ _ _ (T4.setTop (mkF mM 10 #[.val (.int p), .val (.ref arr), .val (.int (2 : Int32)), .val (.int (1 : Int32)), .val (.ref a_JSON)] [(.int (1 : Int32))]))
  refine own_go (fun _ k => XS.iloadN X4.here hx rfl (hb hby own_d2_10) rfl k) ?_
  show own_Ends _ _ _ _ (T4.setTop (mkF mM 11 #[.val (.int p), .val (.ref arr), .val (.int (2 : Int32)), .val (.int (1 : Int32)), .val (.ref a_JSON)] [(.int (2 : Int32)), (.int (1 : Int32))]))
  refine own_go (fun _ k => XS.icmpNo X4.here hx rfl (hb hby own_d2_11) rfl (tlt (by decide : (1 : Int32) < (2 : Int32))).2.1 k) ?_
  show own_Ends _ _ _ _ (T4.setTop (mkF mM 14 #[.val (.int p), .val (.ref arr), .val (.int (2 : Int32)), .val (.int (1 : Int32)), .val (.ref a_JSON)] []))
  refine own_go (fun _ k => XS.aloadN X4.here hx rfl (hb hby own_d2_14) rfl rfl k) ?_
  show own_Ends _ _ _ _ (T4.setTop (mkF mM 15 #[.val (.int p), .val (.ref arr), .val (.int (2 : Int32)), .val (.int (1 : Int32)), .val (.ref a_JSON)] [(.ref arr)]))
  refine own_go (fun _ k => XS.iloadN X4.here hx rfl (hb hby own_d2_15) rfl k) ?_
  show own_Ends _ _ _ _ (T4.setTop (mkF mM 16 #[.val (.int p), .val (.ref arr), .val (.int (2 : Int32)), .val (.int (1 : Int32)), .val (.ref a_JSON)] [(.int (1 : Int32)), (.ref arr)]))
  obtain ⟨cl5, Ar5, aq5, aS5, aN5, aH5, aG5⟩ := id (V_arr.ext O0.2)
  have hin5 : ¬ ((1 : Int32) < 0 ∨ cl5.slots.size ≤ ((1 : Int32)).toNatClampNeg) := inb_of aS5 ⟨by decide, by decide⟩
  refine own_go (X4.aaload hx (j := (1 : Int32)) (v := (.ref a_BINARY)) (by rw [e4]; exact Ar5.1) (State.isArrayOf_alike hZ.alike Ar5.2.1) rfl Ar5.2.2 hin5 (aH5.at hin5 rfl) (g := (mkF mM 16 #[.val (.int p), .val (.ref arr), .val (.int (2 : Int32)), .val (.int (1 : Int32)), .val (.ref a_JSON)] [(.int (1 : Int32)), (.ref arr)])) rfl rfl (hb hby own_d2_16)) ?_
  show own_Ends _ _ _ _ (T4.setTop (mkF mM 17 #[.val (.int p), .val (.ref arr), .val (.int (2 : Int32)), .val (.int (1 : Int32)), .val (.ref a_JSON)] [(.ref a_BINARY)]))
  refine own_go (fun _ k => XS.astore X4.here hx rfl (hb hby own_d2_17) rfl rfl (l' := #[.val (.int p), .val (.ref arr), .val (.int (2 : Int32)), .val (.int (1 : Int32)), .val (.ref a_BINARY)]) rfl k) ?_
  show own_Ends _ _ _ _ (T4.setTop (mkF mM 19 #[.val (.int p), .val (.ref arr), .val (.int (2 : Int32)), .val (.int (1 : Int32)), .val (.ref a_BINARY)] []))
  refine own_go (fun _ k => XS.aload X4.here hx rfl (hb hby own_d2_19) rfl rfl k) ?_
  show own_Ends _ _ _ _ (T4.setTop (mkF mM 21 #[.val (.int p), .val (.ref arr), .val (.int (2 : Int32)), .val (.int (1 : Int32)), .val (.ref a_BINARY)] [(.ref a_BINARY)]))
  obtain ⟨T6, X6, e6, st6⟩ := getF X4 hx hZ hown (host := "") (Or.inl (hw _ (List.mem_of_getElem? (i := 11) rfl))) Via.refl e4 (F_BINARY_code.ext O0.2) (g := (mkF mM 21 #[.val (.int p), .val (.ref arr), .val (.int (2 : Int32)), .val (.int (1 : Int32)), .val (.ref a_BINARY)] [(.ref a_BINARY)])) rfl rfl (hb hby own_d2_21)
  refine own_go st6 ?_
  show own_Ends _ _ _ _ (T6.setTop (mkF mM 24 #[.val (.int p), .val (.ref arr), .val (.int (2 : Int32)), .val (.int (1 : Int32)), .val (.ref a_BINARY)] [(.int (1 : Int32))]))
  refine own_go (fun _ k => XS.iloadN X6.here hx rfl (hb hby own_d2_24) rfl k) ?_
  show own_Ends _ _ _ _ (T6.setTop (mkF mM 25 #[.val (.int p), .val (.ref arr), .val (.int (2 : Int32)), .val (.int (1 : Int32)), .val (.ref a_BINARY)] [(.int p), (.int (1 : Int32))]))
  refine own_go (fun _ k => XS.icmpYes X6.here hx rfl (pc0 := 25) (pc' := 34) rfl (hb hby own_d2_25) rfl (feq (Ne.symm hp1)).2 (by decide) (by decide) k) ?_
  show own_Ends _ _ _ _ (T6.setTop (mkF mM 34 #[.val (.int p), .val (.ref arr), .val (.int (2 : Int32)), .val (.int (1 : Int32)), .val (.ref a_BINARY)] []))
  refine own_go (fun _ k => XS.iinc X6.here hx rfl (hb hby own_d2_34) rfl (l' := #[.val (.int p), .val (.ref arr), .val (.int (2 : Int32)), .val (.int (2 : Int32)), .val (.ref a_BINARY)]) rfl k) ?_
  show own_Ends _ _ _ _ (T6.setTop (mkF mM 37 #[.val (.int p), .val (.ref arr), .val (.int (2 : Int32)), .val (.int (2 : Int32)), .val (.ref a_BINARY)] []))
  refine own_go (fun _ k => XS.goto X6.here hx rfl (pc0 := 37) (pc' := 9) rfl (hb hby own_d2_37) (by decide) (by decide) k) ?_
  show own_Ends _ _ _ _ (T6.setTop (mkF mM 9 #[.val (.int p), .val (.ref arr), .val (.int (2 : Int32)), .val (.int (2 : Int32)), .val (.ref a_BINARY)] []))
  refine own_go (fun _ k => XS.iloadN X6.here hx rfl (hb hby own_d2_9) rfl k) ?_
  show own_Ends _ _ _ _ (T6.setTop (mkF mM 10 #[.val (.int p), .val (.ref arr), .val (.int (2 : Int32)), .val (.int (2 : Int32)), .val (.ref a_BINARY)] [(.int (2 : Int32))]))
  refine own_go (fun _ k => XS.iloadN X6.here hx rfl (hb hby own_d2_10) rfl k) ?_
  show own_Ends _ _ _ _ (T6.setTop (mkF mM 11 #[.val (.int p), .val (.ref arr), .val (.int (2 : Int32)), .val (.int (2 : Int32)), .val (.ref a_BINARY)] [(.int (2 : Int32)), (.int (2 : Int32))]))
  refine own_go (fun _ k => XS.icmpYes X6.here hx rfl (pc0 := 11) (pc' := 40) rfl (hb hby own_d2_11) rfl (flt (by decide : ¬ ((2 : Int32) < (2 : Int32)))).2.1 (by decide) (by decide) k) ?_
  show own_Ends _ _ _ _ (T6.setTop (mkF mM 40 #[.val (.int p), .val (.ref arr), .val (.int (2 : Int32)), .val (.int (2 : Int32)), .val (.ref a_BINARY)] []))
  obtain ⟨_, _, ⟨T7, Lz7, kz7, nz7⟩, -, X7, ⟨Lc7, hQ7, l7, y7, z7⟩, st7⟩ := Jvm.LawKit.callS X6 hx (y := (⟨"java/util/Optional", "empty", "()Ljava/util/Optional;"⟩ : MethodName)) hown (mvT hZ (hw _ (List.mem_of_getElem? (i := 14) rfl))) (mvT hZ (hw _ (List.mem_of_getElem? (i := 15) rfl))) (mvT hZ (hw _ (List.mem_of_getElem? (i := 16) rfl))) (mvT hZ (hw _ (List.mem_of_getElem? (i := 17) rfl))) (by decide) (backOf (W := 0) (own_empty l Z a0 hw [] a_EMPTY h0 n0 O0 S_EMPTY) hZ (hw _ (List.mem_of_getElem? (i := 17) rfl)) (hw _ (List.mem_of_getElem? (i := 16) rfl)) (by decide) (by decide)) (g := (mkF mM 40 #[.val (.int p), .val (.ref arr), .val (.int (2 : Int32)), .val (.int (2 : Int32)), .val (.ref a_BINARY)] [])) rfl (by rw [hml]; rfl) (argsL := []) (rest := []) (lenOf own_pd3 rfl) rfl (by show 2 * 0 + _ ≤ _; exact Nat.le_of_eq rfl) (hb hby own_d2_40) (fun _ _ => ⟨rfl, e6, (by decide : 0 + 0 ≤ _), (by decide : 0 + 0 ≤ _)⟩)
  dsimp only [Pt.U, Pt.locs, Pt.cells, Pt.slots] at X7 l7 y7 z7 st7 hQ7
  subst l7 y7 z7
  obtain ⟨rfl, Nq7, e7⟩ := hQ7
  have N7 := Fr.app N0 Nq7
  refine own_go st7 ?_
  show own_Ends _ _ _ _ (T7.setTop (mkF mM 43 #[.val (.int p), .val (.ref arr), .val (.int (2 : Int32)), .val (.int (2 : Int32)), .val (.ref a_BINARY)] [(.ref a_EMPTY)]))
  exact own_retR X7 hx (BodyLoose.notSynchronized Bd) Bd.returns rfl rfl (hb hby own_d2_43) (by decide) (by decide) (by rw [e7]; exact ⟨rfl, N7, rfl⟩)
theorem own_pd4 : parseMethodDescriptor "(II)I" = some ⟨[.int, .int], some .int⟩ := by decide +kernel
theorem own_pd5 : parseMethodDescriptor "(I)Ljava/util/Optional;" = some ⟨[.int], some (.object "java/util/Optional")⟩ := by decide +kernel
theorem own_pd6 : parseMethodDescriptor "()Z" = some ⟨[], some .boolean⟩ := by decide +kernel
theorem own_pd7 : parseMethodDescriptor "()Ljava/lang/Object;" = some ⟨[], some (.object "java/lang/Object")⟩ := by decide +kernel
theorem own_ef_own_law (m : MethodId) (x0 : Int32) (x1 : Int32) : entryFrame m #[(.int x0), (.int x1)] maxLocals = mkF m 0 #[.val (.int x0), .val (.int x1), .unset, .unset] [] := by first | (simp [entryFrame, mkF, argsToLocals, Value.category, maxLocals]; done) | rfl
def Q_own_law (Z : State) (p0 : Int32) (p1 : Int32) (a_EMPTY : Addr) (arr : Addr) (kk : ClassId) (a_JSON : Addr) (a_BINARY : Addr) (h0 : Heap) (n0 : Nat) (v : Option Value) (h : Heap) (L : List Loc) : Prop := v = some (.int 1) ∧ Fr n0 L
set_option maxRecDepth 65536 in
set_option maxHeartbeats 40000000 in
theorem own_law (l : Launch) (Z : State) (a0 : Array Value) (hw : ∀ d ∈ tables_1, d.before a0 Z = true) (ws : List Jvm.Cond) (p0 : Int32) (p1 : Int32) (a_EMPTY : Addr) (arr : Addr) (kk : ClassId) (a_JSON : Addr) (a_BINARY : Addr) (h0 : Heap) (n0 : Nat) (O0 : Old Z n0 h0) (S_JSON : Sta Z Z.heap "com/example/letters_over_wire/lettersoverwire/HeaderEncoding" "JSON" "Lcom/example/letters_over_wire/lettersoverwire/HeaderEncoding;" (.ref a_JSON)) (E_JSON : Exa Z Z.heap a_JSON "com/example/letters_over_wire/lettersoverwire/HeaderEncoding") (F_JSON_code : Fld Z Z.heap a_JSON "com/example/letters_over_wire/lettersoverwire/HeaderEncoding" "code" "I" (.int (0 : Int32))) (S_BINARY : Sta Z Z.heap "com/example/letters_over_wire/lettersoverwire/HeaderEncoding" "BINARY" "Lcom/example/letters_over_wire/lettersoverwire/HeaderEncoding;" (.ref a_BINARY)) (E_BINARY : Exa Z Z.heap a_BINARY "com/example/letters_over_wire/lettersoverwire/HeaderEncoding") (F_BINARY_code : Fld Z Z.heap a_BINARY "com/example/letters_over_wire/lettersoverwire/HeaderEncoding" "code" "I" (.int (1 : Int32))) (S_ALL : Sta Z Z.heap "com/example/letters_over_wire/lettersoverwire/HeaderEncoding" "ALL" "[Lcom/example/letters_over_wire/lettersoverwire/HeaderEncoding;" (.ref arr)) (V_arr : Arv Z Z.heap arr kk (.object "com/example/letters_over_wire/lettersoverwire/HeaderEncoding") (2 : Int32) [(.ref a_JSON), (.ref a_BINARY)] .null) (S_EMPTY : Sta Z Z.heap "java/util/Optional" "EMPTY" "Ljava/util/Optional;" (.ref a_EMPTY)) (E_EMPTY : Exa Z Z.heap a_EMPTY "java/util/Optional") (F_EMPTY_value : Fld Z Z.heap a_EMPTY "java/util/Optional" "value" "Ljava/lang/Object;" .null) :
    MetFree l x (head1 (Jvm.Cond.code x code maxLocals ret :: ws) room_1) (fun args_ U => args_ = #[(.int p0), (.int p1)] ∧ Z.Warmed39 U.vm ∧ U.heap = h0) (fun _ _ _ _ _ => True) (fun _ U o U' => ∃ v L, o = .returned v ∧ Q_own_law Z p0 p1 a_EMPTY arr kk a_JSON a_BINARY h0 n0 v U'.heap L ∧ FrameEnd U o U' L 16 128) := by
  refine MetFree.of_bodySF (plainFor_of_name own_pn_com_example_letters_over_wire_lettersoverwire_HeaderEncodingForCodePinLaw) hisR ?_
  intro pP eE sS mM args below meth cC s₁ Bd hml0 hP hK
  obtain ⟨rfl, hZ, hh⟩ := hP
  have hx := Bd.exec
  have hby := Bd.bytes
  have hml : cC.maxLocals = 4 := hml0
  have hown : sS.vm.findClass "com/example/letters_over_wire/lettersoverwire/HeaderEncodingForCodePinLaw" = some mM.cls := findClass_of_methodNamed Bd.named
  have hnm := (name_of_methodNamed Bd.named Bd.method).1
  have X0 : Stand pP l eE room_1 sS mM #[(.int p0), (.int p1)] below meth cC s₁ [] 0 0 := Stand.of_body Bd
  have e0 : s₁.heap = h0 := by rw [← hh, Bd.state]; rfl
  have N0 := Fr.nil n0
  show own_Ends pP eE below (own_Got sS (Q_own_law Z p0 p1 a_EMPTY arr kk a_JSON a_BINARY h0 n0) 16 128) (s₁.setTop (entryFrame mM #[(.int p0), (.int p1)] maxLocals))
  rw [own_ef_own_law mM p0 p1]
  obtain ⟨c0, hc0⟩ : ∃ r : Int32, r = if (p1 &&& (7 : Int32)) = (0 : Int32) then 0 else if (p1 &&& (7 : Int32)) = (1 : Int32) then 1 else if (p1 &&& (7 : Int32)) = (2 : Int32) then -1 else if (p1 &&& (7 : Int32)) = (3 : Int32) then 2 else p0 := ⟨_, rfl⟩
  refine own_go (fun _ k => XS.iloadN X0.here hx rfl (hb hby at_0) rfl k) ?_
  show own_Ends _ _ _ _ (s₁.setTop (mkF mM 1 #[.val (.int p0), .val (.int p1), .unset, .unset] [(.int p0)]))
  refine own_go (fun _ k => XS.iloadN X0.here hx rfl (hb hby at_1) rfl k) ?_
  show own_Ends _ _ _ _ (s₁.setTop (mkF mM 2 #[.val (.int p0), .val (.int p1), .unset, .unset] [(.int p1), (.int p0)]))
  obtain ⟨_, _, ⟨T1, Lz1, kz1, nz1⟩, -, X1, ⟨Lc1, hQ1, l1, y1, z1⟩, st1⟩ := Jvm.LawKit.callS X0 hx (y := (⟨"com/example/letters_over_wire/lettersoverwire/HeaderEncodingForCodePinLaw", "pickCode", "(II)I"⟩ : MethodName)) hown (mvT hZ (hw _ (List.mem_of_getElem? (i := 0) rfl))) (mvT hZ (hw _ (List.mem_of_getElem? (i := 1) rfl))) (mvT hZ (hw _ (List.mem_of_getElem? (i := 2) rfl))) (mvT hZ (hw _ (List.mem_of_getElem? (i := 3) rfl))) (by decide) (backOf (W := 0) (own_pickCode l Z a0 hw [] p0 p1 c0 h0 n0 O0 hc0) hZ (hw _ (List.mem_of_getElem? (i := 3) rfl)) (hw _ (List.mem_of_getElem? (i := 2) rfl)) (by decide) (by decide)) (g := (mkF mM 2 #[.val (.int p0), .val (.int p1), .unset, .unset] [(.int p1), (.int p0)])) rfl (by rw [hml]; rfl) (argsL := [(.int p0), (.int p1)]) (rest := []) (lenOf own_pd4 rfl) rfl (by show 2 * 0 + _ ≤ _; exact Nat.le_of_eq rfl) (hb hby at_2) (fun _ _ => ⟨rfl, e0, (by decide : 0 + 0 ≤ _), (by decide : 0 + 0 ≤ _)⟩)
  dsimp only [Pt.U, Pt.locs, Pt.cells, Pt.slots] at X1 l1 y1 z1 st1 hQ1
  subst l1 y1 z1
  obtain ⟨rfl, Nq1, e1⟩ := hQ1
  have N1 := Fr.app N0 Nq1
  refine own_go st1 ?_
  show own_Ends _ _ _ _ (T1.setTop (mkF mM 5 #[.val (.int p0), .val (.int p1), .unset, .unset] [(.int c0)]))
  refine own_go (fun _ k => XS.istoreN X1.here hx rfl (hb hby at_5) rfl (l' := #[.val (.int p0), .val (.int p1), .val (.int c0), .unset]) rfl k) ?_
  show own_Ends _ _ _ _ (T1.setTop (mkF mM 6 #[.val (.int p0), .val (.int p1), .val (.int c0), .unset] []))
  refine own_go (fun _ k => XS.iloadN X1.here hx rfl (hb hby at_6) rfl k) ?_
  show own_Ends _ _ _ _ (T1.setTop (mkF mM 7 #[.val (.int p0), .val (.int p1), .val (.int c0), .unset] [(.int c0)]))
  by_cases hz0 : c0 = (0 : Int32)
  · obtain ⟨_, _, ⟨T2, Lz2, kz2, nz2⟩, -, X2, ⟨Lc2, hQ2, l2, y2, z2⟩, st2⟩ := Jvm.LawKit.callS X1 hx (y := (⟨"com/example/letters_over_wire/lettersoverwire/HeaderEncoding", "forCode", "(I)Ljava/util/Optional;"⟩ : MethodName)) hown (mvT hZ (hw _ (List.mem_of_getElem? (i := 4) rfl))) (mvT hZ (hw _ (List.mem_of_getElem? (i := 5) rfl))) (mvT hZ (hw _ (List.mem_of_getElem? (i := 6) rfl))) (mvT hZ (hw _ (List.mem_of_getElem? (i := 7) rfl))) (by decide) (backOf (W := 0) (own_for0 l Z a0 hw [] c0 arr kk a_JSON a_BINARY h0 n0 O0 S_ALL V_arr F_JSON_code F_BINARY_code hz0) hZ (hw _ (List.mem_of_getElem? (i := 7) rfl)) (hw _ (List.mem_of_getElem? (i := 6) rfl)) (by decide) (by decide)) (g := (mkF mM 7 #[.val (.int p0), .val (.int p1), .val (.int c0), .unset] [(.int c0)])) rfl (by rw [hml]; rfl) (argsL := [(.int c0)]) (rest := []) (lenOf own_pd5 rfl) rfl (by show 2 * 0 + _ ≤ _; exact Nat.le_of_eq rfl) (hb hby at_7) (fun _ _ => ⟨rfl, e1, (by decide : 0 + 1 ≤ _), (by decide : 0 + 1 ≤ _)⟩)
    dsimp only [Pt.U, Pt.locs, Pt.cells, Pt.slots] at X2 l2 y2 z2 st2 hQ2
    subst l2 y2 z2
    obtain ⟨c2, rfl, Nq2, g_c2, K2, E_c2, F_c2⟩ := hQ2
    have N2 := Fr.app N1 Nq2
    have O2 := O0.keep K2 all0
    refine own_go st2 ?_
    show own_Ends _ _ _ _ (T2.setTop (mkF mM 10 #[.val (.int p0), .val (.int p1), .val (.int c0), .unset] [(.ref c2)]))
    refine own_go (fun _ k => XS.astoreN X2.here hx rfl (hb hby at_10) rfl rfl (l' := #[.val (.int p0), .val (.int p1), .val (.int c0), .val (.ref c2)]) rfl k) ?_
    show own_Ends _ _ _ _ (T2.setTop (mkF mM 11 #[.val (.int p0), .val (.int p1), .val (.int c0), .val (.ref c2)] []))
    refine own_go (fun _ k => XS.aloadN X2.here hx rfl (hb hby at_11) rfl rfl k) ?_
    show own_Ends _ _ _ _ (T2.setTop (mkF mM 12 #[.val (.int p0), .val (.int p1), .val (.int c0), .val (.ref c2)] [(.ref c2)]))
    refine own_go (fun _ k => XS.ifnonnullYes X2.here hx rfl (pc0 := 12) (pc' := 17) rfl (hb hby at_12) rfl (by decide) (by decide) k) ?_
    show own_Ends _ _ _ _ (T2.setTop (mkF mM 17 #[.val (.int p0), .val (.int p1), .val (.int c0), .val (.ref c2)] []))
    refine own_go (fun _ k => XS.iloadN X2.here hx rfl (hb hby at_17) rfl k) ?_
    show own_Ends _ _ _ _ (T2.setTop (mkF mM 18 #[.val (.int p0), .val (.int p1), .val (.int c0), .val (.ref c2)] [(.int c0)]))
    refine own_go (fun _ k => XS.ifNo X2.here hx rfl (hb hby at_18) rfl ((if0 _ _).trans (teq hz0).2) k) ?_
    show own_Ends _ _ _ _ (T2.setTop (mkF mM 21 #[.val (.int p0), .val (.int p1), .val (.int c0), .val (.ref c2)] []))
    refine own_go (fun _ k => XS.aloadN X2.here hx rfl (hb hby at_21) rfl rfl k) ?_
    show own_Ends _ _ _ _ (T2.setTop (mkF mM 22 #[.val (.int p0), .val (.int p1), .val (.int c0), .val (.ref c2)] [(.ref c2)]))
    obtain ⟨cq3, kq3, q3a, q3b, q3c⟩ := isOf hZ rfl E_c2
    obtain ⟨_, _, ⟨T3, Lz3, kz3, nz3⟩, -, X3, ⟨Lc3, hQ3, l3, y3, z3⟩, st3⟩ := X2.virtualBack hx (y := (⟨"java/util/Optional", "isPresent", "()Z"⟩ : MethodName)) (z := (⟨"java/util/Optional", "isPresent", "()Z"⟩ : MethodName)) hown (mvT hZ (hw _ (List.mem_of_getElem? (i := 19) rfl))) (mvT hZ (hw _ (List.mem_of_getElem? (i := 20) rfl))) (notFace_of_selects (args := #[]) (mvT hZ (hw _ (List.mem_of_getElem? (i := 22) rfl)))) (mvT hZ (hw _ (List.mem_of_getElem? (i := 22) rfl))) (mvT hZ (hw _ (List.mem_of_getElem? (i := 21) rfl))) (by decide) (backOf (W := 0) (own_present l Z a0 hw [] c2 a_JSON T2.heap n0 O2 F_c2) hZ (hw _ (List.mem_of_getElem? (i := 23) rfl)) (hw _ (List.mem_of_getElem? (i := 16) rfl)) (by decide) (by decide)) q3a q3c (g := (mkF mM 22 #[.val (.int p0), .val (.int p1), .val (.int c0), .val (.ref c2)] [(.ref c2)])) rfl (by rw [hml]; rfl) (Steps.refl _) (argsL := []) (rest := []) (lenOf own_pd6 rfl) rfl (by show 2 * 0 + _ ≤ _; exact Nat.le_of_eq rfl) (hb hby at_22) (fun _ _ => ⟨rfl, rfl, (by decide : 1 + 0 ≤ _), (by decide : 1 + 0 ≤ _)⟩)
    dsimp only [Pt.U, Pt.locs, Pt.cells, Pt.slots] at X3 l3 y3 z3 st3 hQ3
    subst l3 y3 z3
    obtain ⟨rfl, Nq3, e3⟩ := hQ3
    have N3 := Fr.app N2 Nq3
    refine own_tr st3 ?_
    show own_Ends _ _ _ _ (T3.setTop (mkF mM 25 #[.val (.int p0), .val (.int p1), .val (.int c0), .val (.ref c2)] [(.int (1 : Int32))]))
    refine own_go (fun _ k => XS.ifNo X3.here hx rfl (hb hby at_25) rfl ((if0 _ _).trans (feq (by decide : ¬ ((1 : Int32) = (0 : Int32)))).1) k) ?_
    show own_Ends _ _ _ _ (T3.setTop (mkF mM 28 #[.val (.int p0), .val (.int p1), .val (.int c0), .val (.ref c2)] []))
    refine own_go (fun _ k => XS.aloadN X3.here hx rfl (hb hby at_28) rfl rfl k) ?_
    show own_Ends _ _ _ _ (T3.setTop (mkF mM 29 #[.val (.int p0), .val (.int p1), .val (.int c0), .val (.ref c2)] [(.ref c2)]))
    obtain ⟨cq4, kq4, q4a, q4b, q4c⟩ := isOf hZ e3 E_c2
    obtain ⟨_, _, ⟨T4, Lz4, kz4, nz4⟩, -, X4, ⟨Lc4, hQ4, l4, y4, z4⟩, st4⟩ := X3.virtualBack hx (y := (⟨"java/util/Optional", "get", "()Ljava/lang/Object;"⟩ : MethodName)) (z := (⟨"java/util/Optional", "get", "()Ljava/lang/Object;"⟩ : MethodName)) hown (mvT hZ (hw _ (List.mem_of_getElem? (i := 42) rfl))) (mvT hZ (hw _ (List.mem_of_getElem? (i := 43) rfl))) (notFace_of_selects (args := #[]) (mvT hZ (hw _ (List.mem_of_getElem? (i := 45) rfl)))) (mvT hZ (hw _ (List.mem_of_getElem? (i := 45) rfl))) (mvT hZ (hw _ (List.mem_of_getElem? (i := 44) rfl))) (by decide) (backOf (W := 0) (own_get l Z a0 hw [] c2 a_JSON T2.heap n0 O2 F_c2) hZ (hw _ (List.mem_of_getElem? (i := 46) rfl)) (hw _ (List.mem_of_getElem? (i := 16) rfl)) (by decide) (by decide)) q4a q4c (g := (mkF mM 29 #[.val (.int p0), .val (.int p1), .val (.int c0), .val (.ref c2)] [(.ref c2)])) rfl (by rw [hml]; rfl) (Steps.refl _) (argsL := []) (rest := []) (lenOf own_pd7 rfl) rfl (by show 2 * 0 + _ ≤ _; exact Nat.le_of_eq rfl) (hb hby at_29) (fun _ _ => ⟨rfl, e3, (by decide : 1 + 0 ≤ _), (by decide : 1 + 0 ≤ _)⟩)
    dsimp only [Pt.U, Pt.locs, Pt.cells, Pt.slots] at X4 l4 y4 z4 st4 hQ4
    subst l4 y4 z4
    obtain ⟨rfl, Nq4, e4⟩ := hQ4
    have N4 := Fr.app N3 Nq4
    refine own_tr st4 ?_
    show own_Ends _ _ _ _ (T4.setTop (mkF mM 32 #[.val (.int p0), .val (.int p1), .val (.int c0), .val (.ref c2)] [(.ref a_JSON)]))
    obtain ⟨T5, X5, e5, st5⟩ := getS2 X4 hx hZ hown (host := "") (Or.inl (hw _ (List.mem_of_getElem? (i := 48) rfl))) Via.refl e4 (S_JSON.ext O2.2) (g := (mkF mM 32 #[.val (.int p0), .val (.int p1), .val (.int c0), .val (.ref c2)] [(.ref a_JSON)])) rfl (hb hby at_32)
    refine own_go st5 ?_
    show own_Ends _ _ _ _ (T5.setTop (mkF mM 35 #[.val (.int p0), .val (.int p1), .val (.int c0), .val (.ref c2)] [(.ref a_JSON), (.ref a_JSON)]))
    refine own_go (fun _ k => Jvm.RoadKit.acmp (g := (mkF mM 35 #[.val (.int p0), .val (.int p1), .val (.int c0), .val (.ref c2)] [(.ref a_JSON), (.ref a_JSON)])) X5 hx rfl rfl rfl (pc0 := 35) (pc' := 38) (same := true) rfl (hb hby at_35) rfl (decide_eq_true rfl) (by decide) (by decide) k) ?_
    show own_Ends _ _ _ _ (T5.setTop (mkF mM 38 #[.val (.int p0), .val (.int p1), .val (.int c0), .val (.ref c2)] []))
    refine own_go (fun _ k => XS.iconst X5.here hx rfl (hb hby at_38) k) ?_
    show own_Ends _ _ _ _ (T5.setTop (mkF mM 39 #[.val (.int p0), .val (.int p1), .val (.int c0), .val (.ref c2)] [(.int (1 : Int32))]))
    refine own_go (fun _ k => XS.goto X5.here hx rfl (pc0 := 39) (pc' := 43) rfl (hb hby at_39) (by decide) (by decide) k) ?_
    show own_Ends _ _ _ _ (T5.setTop (mkF mM 43 #[.val (.int p0), .val (.int p1), .val (.int c0), .val (.ref c2)] [(.int (1 : Int32))]))
    exact own_retZ X5 hx (BodyLoose.notSynchronized Bd) Bd.returns rfl (hb hby at_43) (by decide) (by decide) (by rw [e5]; exact ⟨rfl, N4⟩)
  · by_cases hz1 : c0 = (1 : Int32)
    · obtain ⟨_, _, ⟨T6, Lz6, kz6, nz6⟩, -, X6, ⟨Lc6, hQ6, l6, y6, z6⟩, st6⟩ := Jvm.LawKit.callS X1 hx (y := (⟨"com/example/letters_over_wire/lettersoverwire/HeaderEncoding", "forCode", "(I)Ljava/util/Optional;"⟩ : MethodName)) hown (mvT hZ (hw _ (List.mem_of_getElem? (i := 4) rfl))) (mvT hZ (hw _ (List.mem_of_getElem? (i := 5) rfl))) (mvT hZ (hw _ (List.mem_of_getElem? (i := 6) rfl))) (mvT hZ (hw _ (List.mem_of_getElem? (i := 7) rfl))) (by decide) (backOf (W := 0) (own_for1 l Z a0 hw [] c0 arr kk a_JSON a_BINARY h0 n0 O0 S_ALL V_arr F_JSON_code F_BINARY_code hz1) hZ (hw _ (List.mem_of_getElem? (i := 7) rfl)) (hw _ (List.mem_of_getElem? (i := 6) rfl)) (by decide) (by decide)) (g := (mkF mM 7 #[.val (.int p0), .val (.int p1), .val (.int c0), .unset] [(.int c0)])) rfl (by rw [hml]; rfl) (argsL := [(.int c0)]) (rest := []) (lenOf own_pd5 rfl) rfl (by show 2 * 0 + _ ≤ _; exact Nat.le_of_eq rfl) (hb hby at_7) (fun _ _ => ⟨rfl, e1, (by decide : 0 + 1 ≤ _), (by decide : 0 + 1 ≤ _)⟩)
      dsimp only [Pt.U, Pt.locs, Pt.cells, Pt.slots] at X6 l6 y6 z6 st6 hQ6
      subst l6 y6 z6
      obtain ⟨c6, rfl, Nq6, g_c6, K6, E_c6, F_c6⟩ := hQ6
      have N6 := Fr.app N1 Nq6
      have O6 := O0.keep K6 all0
      refine own_go st6 ?_
      show own_Ends _ _ _ _ (T6.setTop (mkF mM 10 #[.val (.int p0), .val (.int p1), .val (.int c0), .unset] [(.ref c6)]))
      refine own_go (fun _ k => XS.astoreN X6.here hx rfl (hb hby at_10) rfl rfl (l' := #[.val (.int p0), .val (.int p1), .val (.int c0), .val (.ref c6)]) rfl k) ?_
      show own_Ends _ _ _ _ (T6.setTop (mkF mM 11 #[.val (.int p0), .val (.int p1), .val (.int c0), .val (.ref c6)] []))
      refine own_go (fun _ k => XS.aloadN X6.here hx rfl (hb hby at_11) rfl rfl k) ?_
      show own_Ends _ _ _ _ (T6.setTop (mkF mM 12 #[.val (.int p0), .val (.int p1), .val (.int c0), .val (.ref c6)] [(.ref c6)]))
      refine own_go (fun _ k => XS.ifnonnullYes X6.here hx rfl (pc0 := 12) (pc' := 17) rfl (hb hby at_12) rfl (by decide) (by decide) k) ?_
      show own_Ends _ _ _ _ (T6.setTop (mkF mM 17 #[.val (.int p0), .val (.int p1), .val (.int c0), .val (.ref c6)] []))
      refine own_go (fun _ k => XS.iloadN X6.here hx rfl (hb hby at_17) rfl k) ?_
      show own_Ends _ _ _ _ (T6.setTop (mkF mM 18 #[.val (.int p0), .val (.int p1), .val (.int c0), .val (.ref c6)] [(.int c0)]))
      refine own_go (fun _ k => XS.ifYes X6.here hx rfl (pc0 := 18) (pc' := 44) rfl (hb hby at_18) rfl ((if0 _ _).trans (feq hz0).2) (by decide) (by decide) k) ?_
      show own_Ends _ _ _ _ (T6.setTop (mkF mM 44 #[.val (.int p0), .val (.int p1), .val (.int c0), .val (.ref c6)] []))
      refine own_go (fun _ k => XS.iloadN X6.here hx rfl (hb hby at_44) rfl k) ?_
      show own_Ends _ _ _ _ (T6.setTop (mkF mM 45 #[.val (.int p0), .val (.int p1), .val (.int c0), .val (.ref c6)] [(.int c0)]))
      refine own_go (fun _ k => XS.iconst X6.here hx rfl (hb hby at_45) k) ?_
      show own_Ends _ _ _ _ (T6.setTop (mkF mM 46 #[.val (.int p0), .val (.int p1), .val (.int c0), .val (.ref c6)] [(.int (1 : Int32)), (.int c0)]))
      refine own_go (fun _ k => XS.icmpNo X6.here hx rfl (hb hby at_46) rfl (teq hz1).2 k) ?_
      show own_Ends _ _ _ _ (T6.setTop (mkF mM 49 #[.val (.int p0), .val (.int p1), .val (.int c0), .val (.ref c6)] []))
      refine own_go (fun _ k => XS.aloadN X6.here hx rfl (hb hby at_49) rfl rfl k) ?_
      show own_Ends _ _ _ _ (T6.setTop (mkF mM 50 #[.val (.int p0), .val (.int p1), .val (.int c0), .val (.ref c6)] [(.ref c6)]))
      obtain ⟨cq7, kq7, q7a, q7b, q7c⟩ := isOf hZ rfl E_c6
      obtain ⟨_, _, ⟨T7, Lz7, kz7, nz7⟩, -, X7, ⟨Lc7, hQ7, l7, y7, z7⟩, st7⟩ := X6.virtualBack hx (y := (⟨"java/util/Optional", "isPresent", "()Z"⟩ : MethodName)) (z := (⟨"java/util/Optional", "isPresent", "()Z"⟩ : MethodName)) hown (mvT hZ (hw _ (List.mem_of_getElem? (i := 19) rfl))) (mvT hZ (hw _ (List.mem_of_getElem? (i := 20) rfl))) (notFace_of_selects (args := #[]) (mvT hZ (hw _ (List.mem_of_getElem? (i := 22) rfl)))) (mvT hZ (hw _ (List.mem_of_getElem? (i := 22) rfl))) (mvT hZ (hw _ (List.mem_of_getElem? (i := 21) rfl))) (by decide) (backOf (W := 0) (own_present l Z a0 hw [] c6 a_BINARY T6.heap n0 O6 F_c6) hZ (hw _ (List.mem_of_getElem? (i := 23) rfl)) (hw _ (List.mem_of_getElem? (i := 16) rfl)) (by decide) (by decide)) q7a q7c (g := (mkF mM 50 #[.val (.int p0), .val (.int p1), .val (.int c0), .val (.ref c6)] [(.ref c6)])) rfl (by rw [hml]; rfl) (Steps.refl _) (argsL := []) (rest := []) (lenOf own_pd6 rfl) rfl (by show 2 * 0 + _ ≤ _; exact Nat.le_of_eq rfl) (hb hby at_50) (fun _ _ => ⟨rfl, rfl, (by decide : 1 + 0 ≤ _), (by decide : 1 + 0 ≤ _)⟩)
      dsimp only [Pt.U, Pt.locs, Pt.cells, Pt.slots] at X7 l7 y7 z7 st7 hQ7
      subst l7 y7 z7
      obtain ⟨rfl, Nq7, e7⟩ := hQ7
      have N7 := Fr.app N6 Nq7
      refine own_tr st7 ?_
      show own_Ends _ _ _ _ (T7.setTop (mkF mM 53 #[.val (.int p0), .val (.int p1), .val (.int c0), .val (.ref c6)] [(.int (1 : Int32))]))
      refine own_go (fun _ k => XS.ifNo X7.here hx rfl (hb hby at_53) rfl ((if0 _ _).trans (feq (by decide : ¬ ((1 : Int32) = (0 : Int32)))).1) k) ?_
      show own_Ends _ _ _ _ (T7.setTop (mkF mM 56 #[.val (.int p0), .val (.int p1), .val (.int c0), .val (.ref c6)] []))
      refine own_go (fun _ k => XS.aloadN X7.here hx rfl (hb hby at_56) rfl rfl k) ?_
      show own_Ends _ _ _ _ (T7.setTop (mkF mM 57 #[.val (.int p0), .val (.int p1), .val (.int c0), .val (.ref c6)] [(.ref c6)]))
      obtain ⟨cq8, kq8, q8a, q8b, q8c⟩ := isOf hZ e7 E_c6
      obtain ⟨_, _, ⟨T8, Lz8, kz8, nz8⟩, -, X8, ⟨Lc8, hQ8, l8, y8, z8⟩, st8⟩ := X7.virtualBack hx (y := (⟨"java/util/Optional", "get", "()Ljava/lang/Object;"⟩ : MethodName)) (z := (⟨"java/util/Optional", "get", "()Ljava/lang/Object;"⟩ : MethodName)) hown (mvT hZ (hw _ (List.mem_of_getElem? (i := 42) rfl))) (mvT hZ (hw _ (List.mem_of_getElem? (i := 43) rfl))) (notFace_of_selects (args := #[]) (mvT hZ (hw _ (List.mem_of_getElem? (i := 45) rfl)))) (mvT hZ (hw _ (List.mem_of_getElem? (i := 45) rfl))) (mvT hZ (hw _ (List.mem_of_getElem? (i := 44) rfl))) (by decide) (backOf (W := 0) (own_get l Z a0 hw [] c6 a_BINARY T6.heap n0 O6 F_c6) hZ (hw _ (List.mem_of_getElem? (i := 46) rfl)) (hw _ (List.mem_of_getElem? (i := 16) rfl)) (by decide) (by decide)) q8a q8c (g := (mkF mM 57 #[.val (.int p0), .val (.int p1), .val (.int c0), .val (.ref c6)] [(.ref c6)])) rfl (by rw [hml]; rfl) (Steps.refl _) (argsL := []) (rest := []) (lenOf own_pd7 rfl) rfl (by show 2 * 0 + _ ≤ _; exact Nat.le_of_eq rfl) (hb hby at_57) (fun _ _ => ⟨rfl, e7, (by decide : 1 + 0 ≤ _), (by decide : 1 + 0 ≤ _)⟩)
      dsimp only [Pt.U, Pt.locs, Pt.cells, Pt.slots] at X8 l8 y8 z8 st8 hQ8
      subst l8 y8 z8
      obtain ⟨rfl, Nq8, e8⟩ := hQ8
      have N8 := Fr.app N7 Nq8
      refine own_tr st8 ?_
      show own_Ends _ _ _ _ (T8.setTop (mkF mM 60 #[.val (.int p0), .val (.int p1), .val (.int c0), .val (.ref c6)] [(.ref a_BINARY)]))
      obtain ⟨T9, X9, e9, st9⟩ := getS2 X8 hx hZ hown (host := "") (Or.inl (hw _ (List.mem_of_getElem? (i := 47) rfl))) Via.refl e8 (S_BINARY.ext O6.2) (g := (mkF mM 60 #[.val (.int p0), .val (.int p1), .val (.int c0), .val (.ref c6)] [(.ref a_BINARY)])) rfl (hb hby at_60)
      refine own_go st9 ?_
      show own_Ends _ _ _ _ (T9.setTop (mkF mM 63 #[.val (.int p0), .val (.int p1), .val (.int c0), .val (.ref c6)] [(.ref a_BINARY), (.ref a_BINARY)]))
      refine own_go (fun _ k => Jvm.RoadKit.acmp (g := (mkF mM 63 #[.val (.int p0), .val (.int p1), .val (.int c0), .val (.ref c6)] [(.ref a_BINARY), (.ref a_BINARY)])) X9 hx rfl rfl rfl (pc0 := 63) (pc' := 66) (same := true) rfl (hb hby at_63) rfl (decide_eq_true rfl) (by decide) (by decide) k) ?_
      show own_Ends _ _ _ _ (T9.setTop (mkF mM 66 #[.val (.int p0), .val (.int p1), .val (.int c0), .val (.ref c6)] []))
      refine own_go (fun _ k => XS.iconst X9.here hx rfl (hb hby at_66) k) ?_
      show own_Ends _ _ _ _ (T9.setTop (mkF mM 67 #[.val (.int p0), .val (.int p1), .val (.int c0), .val (.ref c6)] [(.int (1 : Int32))]))
      refine own_go (fun _ k => XS.goto X9.here hx rfl (pc0 := 67) (pc' := 71) rfl (hb hby at_67) (by decide) (by decide) k) ?_
      show own_Ends _ _ _ _ (T9.setTop (mkF mM 71 #[.val (.int p0), .val (.int p1), .val (.int c0), .val (.ref c6)] [(.int (1 : Int32))]))
      exact own_retZ X9 hx (BodyLoose.notSynchronized Bd) Bd.returns rfl (hb hby at_71) (by decide) (by decide) (by rw [e9]; exact ⟨rfl, N8⟩)
    · obtain ⟨_, _, ⟨T10, Lz10, kz10, nz10⟩, -, X10, ⟨Lc10, hQ10, l10, y10, z10⟩, st10⟩ := Jvm.LawKit.callS X1 hx (y := (⟨"com/example/letters_over_wire/lettersoverwire/HeaderEncoding", "forCode", "(I)Ljava/util/Optional;"⟩ : MethodName)) hown (mvT hZ (hw _ (List.mem_of_getElem? (i := 4) rfl))) (mvT hZ (hw _ (List.mem_of_getElem? (i := 5) rfl))) (mvT hZ (hw _ (List.mem_of_getElem? (i := 6) rfl))) (mvT hZ (hw _ (List.mem_of_getElem? (i := 7) rfl))) (by decide) (backOf (W := 0) (own_forNone l Z a0 hw [] c0 a_EMPTY arr kk a_JSON a_BINARY h0 n0 O0 S_ALL V_arr S_EMPTY F_JSON_code F_BINARY_code hz0 hz1) hZ (hw _ (List.mem_of_getElem? (i := 7) rfl)) (hw _ (List.mem_of_getElem? (i := 6) rfl)) (by decide) (by decide)) (g := (mkF mM 7 #[.val (.int p0), .val (.int p1), .val (.int c0), .unset] [(.int c0)])) rfl (by rw [hml]; rfl) (argsL := [(.int c0)]) (rest := []) (lenOf own_pd5 rfl) rfl (by show 2 * 0 + _ ≤ _; exact Nat.le_of_eq rfl) (hb hby at_7) (fun _ _ => ⟨rfl, e1, (by decide : 0 + 0 ≤ _), (by decide : 0 + 0 ≤ _)⟩)
      dsimp only [Pt.U, Pt.locs, Pt.cells, Pt.slots] at X10 l10 y10 z10 st10 hQ10
      subst l10 y10 z10
      obtain ⟨rfl, Nq10, e10⟩ := hQ10
      have N10 := Fr.app N1 Nq10
      refine own_go st10 ?_
      show own_Ends _ _ _ _ (T10.setTop (mkF mM 10 #[.val (.int p0), .val (.int p1), .val (.int c0), .unset] [(.ref a_EMPTY)]))
      refine own_go (fun _ k => XS.astoreN X10.here hx rfl (hb hby at_10) rfl rfl (l' := #[.val (.int p0), .val (.int p1), .val (.int c0), .val (.ref a_EMPTY)]) rfl k) ?_
      show own_Ends _ _ _ _ (T10.setTop (mkF mM 11 #[.val (.int p0), .val (.int p1), .val (.int c0), .val (.ref a_EMPTY)] []))
      refine own_go (fun _ k => XS.aloadN X10.here hx rfl (hb hby at_11) rfl rfl k) ?_
      show own_Ends _ _ _ _ (T10.setTop (mkF mM 12 #[.val (.int p0), .val (.int p1), .val (.int c0), .val (.ref a_EMPTY)] [(.ref a_EMPTY)]))
      refine own_go (fun _ k => XS.ifnonnullYes X10.here hx rfl (pc0 := 12) (pc' := 17) rfl (hb hby at_12) rfl (by decide) (by decide) k) ?_
      show own_Ends _ _ _ _ (T10.setTop (mkF mM 17 #[.val (.int p0), .val (.int p1), .val (.int c0), .val (.ref a_EMPTY)] []))
      refine own_go (fun _ k => XS.iloadN X10.here hx rfl (hb hby at_17) rfl k) ?_
      show own_Ends _ _ _ _ (T10.setTop (mkF mM 18 #[.val (.int p0), .val (.int p1), .val (.int c0), .val (.ref a_EMPTY)] [(.int c0)]))
      refine own_go (fun _ k => XS.ifYes X10.here hx rfl (pc0 := 18) (pc' := 44) rfl (hb hby at_18) rfl ((if0 _ _).trans (feq hz0).2) (by decide) (by decide) k) ?_
      show own_Ends _ _ _ _ (T10.setTop (mkF mM 44 #[.val (.int p0), .val (.int p1), .val (.int c0), .val (.ref a_EMPTY)] []))
      refine own_go (fun _ k => XS.iloadN X10.here hx rfl (hb hby at_44) rfl k) ?_
      show own_Ends _ _ _ _ (T10.setTop (mkF mM 45 #[.val (.int p0), .val (.int p1), .val (.int c0), .val (.ref a_EMPTY)] [(.int c0)]))
      refine own_go (fun _ k => XS.iconst X10.here hx rfl (hb hby at_45) k) ?_
      show own_Ends _ _ _ _ (T10.setTop (mkF mM 46 #[.val (.int p0), .val (.int p1), .val (.int c0), .val (.ref a_EMPTY)] [(.int (1 : Int32)), (.int c0)]))
      refine own_go (fun _ k => XS.icmpYes X10.here hx rfl (pc0 := 46) (pc' := 72) rfl (hb hby at_46) rfl (feq hz1).2 (by decide) (by decide) k) ?_
      show own_Ends _ _ _ _ (T10.setTop (mkF mM 72 #[.val (.int p0), .val (.int p1), .val (.int c0), .val (.ref a_EMPTY)] []))
      refine own_go (fun _ k => XS.aloadN X10.here hx rfl (hb hby at_72) rfl rfl k) ?_
      show own_Ends _ _ _ _ (T10.setTop (mkF mM 73 #[.val (.int p0), .val (.int p1), .val (.int c0), .val (.ref a_EMPTY)] [(.ref a_EMPTY)]))
      obtain ⟨cq11, kq11, q11a, q11b, q11c⟩ := isOf hZ e10 (E_EMPTY.ext O0.2)
      obtain ⟨_, _, ⟨T11, Lz11, kz11, nz11⟩, -, X11, ⟨Lc11, hQ11, l11, y11, z11⟩, st11⟩ := X10.virtualBack hx (y := (⟨"java/util/Optional", "isPresent", "()Z"⟩ : MethodName)) (z := (⟨"java/util/Optional", "isPresent", "()Z"⟩ : MethodName)) hown (mvT hZ (hw _ (List.mem_of_getElem? (i := 19) rfl))) (mvT hZ (hw _ (List.mem_of_getElem? (i := 20) rfl))) (notFace_of_selects (args := #[]) (mvT hZ (hw _ (List.mem_of_getElem? (i := 22) rfl)))) (mvT hZ (hw _ (List.mem_of_getElem? (i := 22) rfl))) (mvT hZ (hw _ (List.mem_of_getElem? (i := 21) rfl))) (by decide) (backOf (W := 0) (own_absent l Z a0 hw [] a_EMPTY h0 n0 O0 (F_EMPTY_value.ext O0.2)) hZ (hw _ (List.mem_of_getElem? (i := 23) rfl)) (hw _ (List.mem_of_getElem? (i := 16) rfl)) (by decide) (by decide)) q11a q11c (g := (mkF mM 73 #[.val (.int p0), .val (.int p1), .val (.int c0), .val (.ref a_EMPTY)] [(.ref a_EMPTY)])) rfl (by rw [hml]; rfl) (Steps.refl _) (argsL := []) (rest := []) (lenOf own_pd6 rfl) rfl (by show 2 * 0 + _ ≤ _; exact Nat.le_of_eq rfl) (hb hby at_73) (fun _ _ => ⟨rfl, e10, (by decide : 0 + 0 ≤ _), (by decide : 0 + 0 ≤ _)⟩)
      dsimp only [Pt.U, Pt.locs, Pt.cells, Pt.slots] at X11 l11 y11 z11 st11 hQ11
      subst l11 y11 z11
      obtain ⟨rfl, Nq11, e11⟩ := hQ11
      have N11 := Fr.app N10 Nq11
      refine own_tr st11 ?_
      show own_Ends _ _ _ _ (T11.setTop (mkF mM 76 #[.val (.int p0), .val (.int p1), .val (.int c0), .val (.ref a_EMPTY)] [(.int (0 : Int32))]))
      refine own_go (fun _ k => XS.ifNo X11.here hx rfl (hb hby at_76) rfl ((if0 _ _).trans (teq (by decide : (0 : Int32) = (0 : Int32))).2) k) ?_
      show own_Ends _ _ _ _ (T11.setTop (mkF mM 79 #[.val (.int p0), .val (.int p1), .val (.int c0), .val (.ref a_EMPTY)] []))
      refine own_go (fun _ k => XS.iconst X11.here hx rfl (hb hby at_79) k) ?_
      show own_Ends _ _ _ _ (T11.setTop (mkF mM 80 #[.val (.int p0), .val (.int p1), .val (.int c0), .val (.ref a_EMPTY)] [(.int (1 : Int32))]))
      refine own_go (fun _ k => XS.goto X11.here hx rfl (pc0 := 80) (pc' := 84) rfl (hb hby at_80) (by decide) (by decide) k) ?_
      show own_Ends _ _ _ _ (T11.setTop (mkF mM 84 #[.val (.int p0), .val (.int p1), .val (.int c0), .val (.ref a_EMPTY)] [(.int (1 : Int32))]))
      exact own_retZ X11 hx (BodyLoose.notSynchronized Bd) Bd.returns rfl (hb hby at_84) (by decide) (by decide) (by rw [e11]; exact ⟨rfl, N11⟩)
theorem own_len {Z : State} {av : Array Value} {t : Term} {a : Addr} {cl : Cell} {ty : FieldType} {k : Int32} (ev : t.eval av Z none [] Z = some (.ref a)) (A : Arr Z Z.heap a cl ty) (h : (Jvm.Cond.eq (.length t) (.int k)).value av Z none Z [] = some true) : cl.slots.size < 2 ^ 31 ∧ cl.slots.size.toInt32 = k := by
  have e := own_staI h
  have ha : Z.arrayAt? a = some cl := A.fin (State.Warmed39.refl Z).alike
  simp [Term.eval, ev, ha] at e
  exact e
theorem own_elem {Z : State} {av : Array Value} {t u : Term} {a b : Addr} {cl : Cell} {ty : FieldType} {j : Int32} (ev : t.eval av Z none [] Z = some (.ref a)) (A : Arr Z Z.heap a cl ty) (eu : u.eval av Z none [] Z = some (.ref b)) (h : (Jvm.Cond.eq (.elem t (.int j)) u).value av Z none Z [] = some true) : cl.slots[j.toNatClampNeg]? = some (.ref b) := by
  obtain ⟨x, y, ex, ey, k1, k2⟩ := cmp_v (Or.inl h)
  cases eu.symm.trans ey
  obtain ⟨hx1, hx2⟩ := elem_in ex ev (Term.int_eval j) A.1
  have q := gotT (eq_R ex eu k2.2 rfl) h
  rw [← q]; exact hx2
set_option maxRecDepth 65536 in
set_option maxHeartbeats 40000000 in
theorem comes_1 {Post : Tables → Env → Array Value → State → Outcome → State → Prop} (hpost : ∀ tb e args s v u, (limb_1_1.after args s (.returned v) u = true ∧ limb_1_2.after args s (.returned v) u = true ∧ True) → FrameEnd s (.returned v) u (Jvm.fieldLocs frame_1_writes args s ++ Jvm.arrayLocs frame_1_arrays args s ++ Jvm.staticLocs frame_1_statics s) 16 128 → Post tb e args s (.returned v) u) :
    ArmFor flags0 classFile x code maxLocals ret World_1 tables_1 room_1 Calls_1 rest_1 Pre_1 Post := by
  intro l hfl _ _ p e ha hc hk s m args below hf hA hF happ hP
  obtain ⟨hcalls, hrest, hpre⟩ := hP
  obtain ⟨-, -, -, hnamed, -, -, -, hat⟩ := (Spec.applies_iff hf).mp happ
  obtain ⟨hg, hn⟩ := and_e (Cond.before_iff.mp (show (Jvm.Cond.and given_1 narrow_1).before args s = true from hpre))
  obtain ⟨hg0, hr0⟩ := and_e hg
  obtain ⟨hg1, hg2⟩ := and_e hr0
  obtain ⟨w0, w1, rfl⟩ : ∃ w0 w1 : Value, args = #[w0, w1] := by
    have hs : args.size = 2 := by simpa [Cond.value, given_1] using hg0
    obtain ⟨L⟩ := args
    match L, hs with
    | [w0, w1], _ => exact ⟨w0, w1, rfl⟩
  have hw := fun d (hd : d ∈ tables_1) => atoms_spec (ws := Jvm.Cond.code x code maxLocals ret :: tables_1) hat d (List.mem_cons_of_mem _ hd)
  have hfit : Fit s := fun {y c} hc i hi => by
    obtain ⟨ha, rfl⟩ := Array.getElem?_eq_some_iff.mp hc
    have q := List.all_eq_true.mp ((Array.all_eq_true_iff_forall_mem.mp hF) _ (Array.getElem_mem ha)) i (List.mem_range.mpr hi)
    simpa [Array.getElem?_eq_getElem hi] using q
  obtain ⟨hsets, hown0⟩ := atoms_of _ (rest_1_c_eq ▸ (show rest_1_c.before _ s = true from hrest))
  obtain ⟨i0, ei0⟩ := is_v hg1
  obtain rfl : w0 = (.int i0) := Option.some.inj ei0
  obtain ⟨i1, ei1⟩ := is_v hg2
  obtain rfl : w1 = (.int i1) := Option.some.inj ei1
  obtain ⟨hn0, hm0⟩ := and_e hn
  obtain ⟨hn1, hm1⟩ := and_e hm0
  obtain ⟨hn2, hm2⟩ := and_e hm1
  obtain ⟨a_JSON, ev_JSON⟩ := exa_v hn2
  have S_JSON : Sta s s.heap "com/example/letters_over_wire/lettersoverwire/HeaderEncoding" "JSON" "Lcom/example/letters_over_wire/lettersoverwire/HeaderEncoding;" (.ref a_JSON) := Sta.start ev_JSON (Or.inr ⟨(hw _ (List.mem_of_getElem? (i := 6) rfl)), (hw _ (List.mem_of_getElem? (i := 10) rfl))⟩)
  have E_JSON : Exa s s.heap a_JSON "com/example/letters_over_wire/lettersoverwire/HeaderEncoding" := Exa.start ev_JSON hn2
  obtain ⟨hn3, hm3⟩ := and_e hm2
  obtain ⟨hn4, hm4⟩ := and_e hm3
  have F_JSON_code : Fld s s.heap a_JSON "com/example/letters_over_wire/lettersoverwire/HeaderEncoding" "code" "I" (.int (0 : Int32)) := own_fldI ev_JSON hn4
  obtain ⟨hn5, hm5⟩ := and_e hm4
  obtain ⟨a_BINARY, ev_BINARY⟩ := exa_v hn5
  have S_BINARY : Sta s s.heap "com/example/letters_over_wire/lettersoverwire/HeaderEncoding" "BINARY" "Lcom/example/letters_over_wire/lettersoverwire/HeaderEncoding;" (.ref a_BINARY) := Sta.start ev_BINARY (Or.inr ⟨(hw _ (List.mem_of_getElem? (i := 6) rfl)), (hw _ (List.mem_of_getElem? (i := 13) rfl))⟩)
  have E_BINARY : Exa s s.heap a_BINARY "com/example/letters_over_wire/lettersoverwire/HeaderEncoding" := Exa.start ev_BINARY hn5
  obtain ⟨hn6, hm6⟩ := and_e hm5
  have F_BINARY_code : Fld s s.heap a_BINARY "com/example/letters_over_wire/lettersoverwire/HeaderEncoding" "code" "I" (.int (1 : Int32)) := own_fldI ev_BINARY hm6
  have hj2 := Cond.before_iff.mp (hsets _ (List.mem_of_getElem? (i := 2) rfl))
  obtain ⟨a_EMPTY, ev_EMPTY⟩ := exa_v hj2
  have S_EMPTY : Sta s s.heap "java/util/Optional" "EMPTY" "Ljava/util/Optional;" (.ref a_EMPTY) := Sta.start ev_EMPTY (Or.inl (hsets _ (List.mem_of_getElem? (i := 1) rfl)))
  have E_EMPTY : Exa s s.heap a_EMPTY "java/util/Optional" := Exa.start ev_EMPTY hj2
  have hj3 := Cond.before_iff.mp (hsets _ (List.mem_of_getElem? (i := 3) rfl))
  have F_EMPTY_value : Fld s s.heap a_EMPTY "java/util/Optional" "value" "Ljava/lang/Object;" .null := Fld.start ((fld_at ev_EMPTY).symm.trans (null_v hj3))
  obtain ⟨arr, ev_arr⟩ := arr_v hn0
  obtain ⟨cl, Aa_arr⟩ := Arr.start ev_arr hn0
  have S_ALL : Sta s s.heap "com/example/letters_over_wire/lettersoverwire/HeaderEncoding" "ALL" "[Lcom/example/letters_over_wire/lettersoverwire/HeaderEncoding;" (.ref arr) := Sta.start ev_arr (Or.inr ⟨(hw _ (List.mem_of_getElem? (i := 6) rfl)), (hw _ (List.mem_of_getElem? (i := 9) rfl))⟩)
  obtain ⟨hsz_arr, hlen_arr⟩ := own_len ev_arr Aa_arr hn1
  have el0 : cl.slots[0]? = some (.ref a_JSON) := own_elem ev_arr Aa_arr (j := (0 : Int32)) ev_JSON hn3
  have el1 : cl.slots[1]? = some (.ref a_BINARY) := own_elem ev_arr Aa_arr (j := (1 : Int32)) ev_BINARY hn6
  have V_arr : Arv s s.heap arr cl.cls (.object "com/example/letters_over_wire/lettersoverwire/HeaderEncoding") (2 : Int32) [(.ref a_JSON), (.ref a_BINARY)] .null := Arv.start hfit Aa_arr hsz_arr hlen_arr (by decide) rfl ⟨el0, el1, trivial⟩
  obtain ⟨n, o, h1, h2, h3, _, L, rfl, ⟨rfl, N⟩, hq⟩ := own_law l s _ hw tables_1 i0 i1 a_EMPTY arr cl.cls a_JSON a_BINARY s.heap s.heap.size (Old.start s) S_JSON E_JSON F_JSON_code S_BINARY E_BINARY F_BINARY_code S_ALL V_arr S_EMPTY E_EMPTY F_EMPTY_value p e ha hc hk s m _ below hf ((Spec.applies_iff_loose hf).mp happ).1 ⟨rfl, State.Warmed39.refl s, rfl⟩ trivial
  refine ⟨n, _, h1, h2, h3, hpost _ _ _ _ _ _ ⟨Cond.after_iff.mpr rfl, Cond.after_iff.mpr (eq_i res_at (Term.int_eval (1)) rfl), trivial⟩ ⟨hq.1, hq.2.1, (hq.2.2.sift fun y hy => Or.inr (N y hy)).mono (by decide) (by decide)⟩⟩
theorem main_1_1 : Claimed_1_1 := comes_1 fun _ _ _ _ _ _ h hF => ⟨h.1, hF⟩
theorem main_1_2 : Claimed_1_2 := comes_1 fun _ _ _ _ _ _ h hF => ⟨h.2.1, hF⟩
end Jvm.Pilot.@@N@@
namespace Jvm.Pilot.@@N@@
open Jvm Jvm.ClassFile Sem Op Lib Jvm.Free Jvm.Stand Jvm.Pilot.@@N@@.Jvm.D
/-! MADE BY PROGRAM (witnessworld.py) out of the Statement's table words and the real class files: 15 classes; the members and pool entries that the words name. The judged class is class 1, her method 2. -/
namespace start1
open Jvm.ClassFile
def u (s : String) : CpInfo := .utf8 (stringToUtf16 s)
/-- a pool by its gaps: so many unusable entries, then the entry; so many at the end -/
def gap : Nat → List CpInfo → List CpInfo
  | 0, r => r
  | n + 1, r => .unusable :: gap n r
def poolList (es : List (Nat × CpInfo)) (last : Nat) : List CpInfo := es.foldr (fun e r => gap e.1 (e.2 :: r)) (gap last [])
def pool (es : List (Nat × CpInfo)) (last : Nat) : Array CpInfo := ⟨poolList es last⟩
def fileOf (pool : Array CpInfo) (this : Nat) (attrs : Array Attribute := #[]) (ms : Array MethodInfo := #[]) (fl : Nat := 33) (sup : Nat := 0) (ifs : Array Nat := #[]) (fds : Array FieldInfo := #[]) : ClassFile where
  minorVersion := 0
  majorVersion := 65
  constantPool := pool
  accessFlags := fl
  thisClass := this
  superClass := sup
  interfaces := ifs
  fields := fds
  methods := ms
  attributes := attrs
def plain (name : String) (sup : Option ClassId) : Class where
  name := name
  kind := .ordinary
  loader := none
  accessFlags := 33
  super := sup
  interfaces := #[]
  cf := none
  fields := #[]
  methods := #[]
  instanceTypes := #[]
  staticTypes := #[]
  resolved := #[]
  callSites := []
  init := .initialized
  statics := none
  mirror := none

def pool0 : Array CpInfo := pool [(5, u "<init>"), (0, u "()V"), (1, .class_ 10), (1, u "java/lang/Object")] 113

def k0c0 : Code := { maxStack := 0, maxLocals := 1, code := object_method_1_code, exceptionTable := #[], attributes := #[] }
def k0m0 : Method := { name := "<init>", desc := "()V", sig := { parameters := [], returnType := none }, accessFlags := 1, code := some k0c0 }
/-- java/lang/Object -/
def k0 : Class := { plain "java/lang/Object" none with
  accessFlags := 33
  interfaces := #[]
  cf := some (fileOf pool0 8 #[] #[{ accessFlags := 1, nameIndex := 5, descriptorIndex := 6, attributes := #[] }] 33 0 #[] #[])
  fields := #[]
  methods := #[k0m0]
  instanceTypes := #[]
  staticTypes := #[]
  resolved := Array.replicate 124 none
  statics := none }

def pool1 : Array CpInfo := pool [(2, .class_ 4), (1, u "java/lang/Object"), (0, u "<init>"), (0, u "()V"), (0, .methodref 8 9), (0, .class_ 10), (0, .nameAndType 11 12), (0, u "com/example/letters_over_wire/lettersoverwire/HeaderEncodingForCodePinLaw"), (0, u "pickCode"), (0, u "(II)I"), (0, .methodref 14 15), (0, .class_ 16), (0, .nameAndType 17 18), (0, u "com/example/letters_over_wire/lettersoverwire/HeaderEncoding"), (0, u "forCode"), (0, u "(I)Ljava/util/Optional;"), (0, .methodref 20 21), (0, .class_ 22), (0, .nameAndType 23 24), (0, u "java/util/Optional"), (0, u "isPresent"), (0, u "()Z"), (0, .methodref 20 26), (0, .nameAndType 27 28), (0, u "get"), (0, u "()Ljava/lang/Object;"), (0, .fieldref 14 30), (0, .nameAndType 31 32), (0, u "JSON"), (0, u "Lcom/example/letters_over_wire/lettersoverwire/HeaderEncoding;"), (0, .fieldref 14 34), (0, .nameAndType 35 32), (0, u "BINARY"), (3, u "law"), (0, u "(II)Z")] 2

def k1m0 : Method := { name := "<init>", desc := "()V", sig := { parameters := [], returnType := none }, accessFlags := 2, code := none }
def k1c1 : Code := { maxStack := 2, maxLocals := 3, code := method_2_code, exceptionTable := #[], attributes := #[] }
def k1m1 : Method := { name := "pickCode", desc := "(II)I", sig := { parameters := [.int, .int], returnType := some .int }, accessFlags := 10, code := some k1c1 }
def k1c2 : Code := { maxStack := 2, maxLocals := 4, code := code, exceptionTable := #[], attributes := #[] }
def k1m2 : Method := { name := "law", desc := "(II)Z", sig := { parameters := [.int, .int], returnType := some .boolean }, accessFlags := 9, code := some k1c2 }
/-- com/example/letters_over_wire/lettersoverwire/HeaderEncodingForCodePinLaw -/
def k1 : Class := { plain "com/example/letters_over_wire/lettersoverwire/HeaderEncodingForCodePinLaw" (some 0) with
  accessFlags := 49
  interfaces := #[]
  cf := some (fileOf pool1 8 #[] #[{ accessFlags := 2, nameIndex := 5, descriptorIndex := 6, attributes := #[] }, { accessFlags := 10, nameIndex := 11, descriptorIndex := 12, attributes := #[] }, { accessFlags := 9, nameIndex := 39, descriptorIndex := 40, attributes := #[] }] 49 2 #[] #[])
  fields := #[]
  methods := #[k1m0, k1m1, k1m2]
  instanceTypes := #[]
  staticTypes := #[]
  resolved := Array.replicate 43 none
  statics := none }

def pool2 : Array CpInfo := pool [(1, .class_ 2), (0, u "java/lang/constant/Constable"), (0, .class_ 4), (0, u "java/lang/Object")] 6

/-- java/lang/constant/Constable -/
def k2 : Class := { plain "java/lang/constant/Constable" (some 0) with
  accessFlags := 1537
  interfaces := #[]
  cf := some (fileOf pool2 1 #[] #[] 1537 3 #[] #[])
  fields := #[]
  methods := #[]
  instanceTypes := #[]
  staticTypes := #[]
  resolved := Array.replicate 11 none
  statics := none }

def pool3 : Array CpInfo := pool [(1, .class_ 2), (0, u "java/lang/Comparable"), (0, .class_ 4), (0, u "java/lang/Object")] 7

/-- java/lang/Comparable -/
def k3 : Class := { plain "java/lang/Comparable" (some 0) with
  accessFlags := 1537
  interfaces := #[]
  cf := some (fileOf pool3 1 #[] #[] 1537 3 #[] #[])
  fields := #[]
  methods := #[]
  instanceTypes := #[]
  staticTypes := #[]
  resolved := Array.replicate 12 none
  statics := none }

def pool4 : Array CpInfo := pool [(1, .class_ 2), (0, u "java/io/Serializable"), (0, .class_ 4), (0, u "java/lang/Object")] 2

/-- java/io/Serializable -/
def k4 : Class := { plain "java/io/Serializable" (some 0) with
  accessFlags := 1537
  interfaces := #[]
  cf := some (fileOf pool4 1 #[] #[] 1537 3 #[] #[])
  fields := #[]
  methods := #[]
  instanceTypes := #[]
  staticTypes := #[]
  resolved := Array.replicate 7 none
  statics := none }

def pool5 : Array CpInfo := pool [(2, .class_ 4), (1, u "java/lang/Enum"), (0, u "name"), (0, u "Ljava/lang/String;"), (2, u "ordinal"), (0, u "I"), (1, .class_ 14), (1, u "java/lang/Object"), (4, u "hash"), (86, .class_ 108), (1, u "java/lang/Enum$EnumDesc"), (2, .class_ 112), (0, u "java/lang/constant/Constable"), (0, .class_ 114), (0, u "java/lang/Comparable"), (0, .class_ 116), (0, u "java/io/Serializable")] 87

/-- java/lang/Enum -/
def k5 : Class := { plain "java/lang/Enum" (some 0) with
  accessFlags := 1057
  interfaces := #[2, 3, 4]
  cf := some (fileOf pool5 2 #[.nestMembers #[106]] #[] 1057 12 #[111, 113, 115] #[{ accessFlags := 18, nameIndex := 5, descriptorIndex := 6, attributes := #[] }, { accessFlags := 18, nameIndex := 9, descriptorIndex := 10, attributes := #[] }, { accessFlags := 2, nameIndex := 19, descriptorIndex := 10, attributes := #[] }])
  fields := #[{ name := "name", type := (.object "java/lang/String"), accessFlags := 18, slot := 0, constantValue := 0 }, { name := "ordinal", type := .int, accessFlags := 18, slot := 1, constantValue := 0 }, { name := "hash", type := .int, accessFlags := 2, slot := 2, constantValue := 0 }]
  methods := #[]
  instanceTypes := #[(.object "java/lang/String"), .int, .int]
  staticTypes := #[]
  resolved := Array.replicate 204 none
  statics := none }

def pool6 : Array CpInfo := pool [(1, .class_ 2), (0, u "com/example/letters_over_wire/lettersoverwire/HeaderEncoding"), (2, u "JSON"), (0, u "Lcom/example/letters_over_wire/lettersoverwire/HeaderEncoding;"), (2, u "BINARY"), (2, u "$VALUES"), (0, u "[Lcom/example/letters_over_wire/lettersoverwire/HeaderEncoding;"), (6, .class_ 22), (1, u "java/lang/Enum"), (6, .fieldref 1 30), (0, .nameAndType 31 32), (0, u "code"), (0, u "I"), (0, .fieldref 1 34), (0, .nameAndType 35 13), (0, u "ALL"), (0, .methodref 37 38), (0, .class_ 39), (0, .nameAndType 40 41), (0, u "java/util/Optional"), (0, u "of"), (0, u "(Ljava/lang/Object;)Ljava/util/Optional;"), (0, .methodref 37 43), (0, .nameAndType 44 45), (0, u "empty"), (0, u "()Ljava/util/Optional;"), (19, u "forCode"), (0, u "(I)Ljava/util/Optional;")] 7

def k6c0 : Code := { maxStack := 2, maxLocals := 5, code := prog_10_method_5_code, exceptionTable := #[], attributes := #[] }
def k6m0 : Method := { name := "forCode", desc := "(I)Ljava/util/Optional;", sig := { parameters := [.int], returnType := some (.object "java/util/Optional") }, accessFlags := 8, code := some k6c0 }
/-- com/example/letters_over_wire/lettersoverwire/HeaderEncoding -/
def k6 : Class := { plain "com/example/letters_over_wire/lettersoverwire/HeaderEncoding" (some 5) with
  accessFlags := 16433
  interfaces := #[]
  cf := some (fileOf pool6 1 #[] #[{ accessFlags := 8, nameIndex := 65, descriptorIndex := 66, attributes := #[] }] 16433 20 #[] #[{ accessFlags := 16409, nameIndex := 5, descriptorIndex := 6, attributes := #[] }, { accessFlags := 16409, nameIndex := 9, descriptorIndex := 6, attributes := #[] }, { accessFlags := 26, nameIndex := 35, descriptorIndex := 13, attributes := #[] }, { accessFlags := 18, nameIndex := 31, descriptorIndex := 32, attributes := #[] }, { accessFlags := 4122, nameIndex := 12, descriptorIndex := 13, attributes := #[] }])
  fields := #[{ name := "JSON", type := (.object "com/example/letters_over_wire/lettersoverwire/HeaderEncoding"), accessFlags := 16409, slot := 0, constantValue := 0 }, { name := "BINARY", type := (.object "com/example/letters_over_wire/lettersoverwire/HeaderEncoding"), accessFlags := 16409, slot := 1, constantValue := 0 }, { name := "ALL", type := (.array (.object "com/example/letters_over_wire/lettersoverwire/HeaderEncoding")), accessFlags := 26, slot := 2, constantValue := 0 }, { name := "code", type := .int, accessFlags := 18, slot := 3, constantValue := 0 }, { name := "$VALUES", type := (.array (.object "com/example/letters_over_wire/lettersoverwire/HeaderEncoding")), accessFlags := 4122, slot := 3, constantValue := 0 }]
  methods := #[k6m0]
  instanceTypes := #[(.object "java/lang/String"), .int, .int, .int]
  staticTypes := #[(.object "com/example/letters_over_wire/lettersoverwire/HeaderEncoding"), (.object "com/example/letters_over_wire/lettersoverwire/HeaderEncoding"), (.array (.object "com/example/letters_over_wire/lettersoverwire/HeaderEncoding")), (.array (.object "com/example/letters_over_wire/lettersoverwire/HeaderEncoding"))]
  resolved := Array.replicate 74 none
  statics := some 0 }

def pool7 : Array CpInfo := pool [(1, .fieldref 2 3), (0, .class_ 4), (0, .nameAndType 5 6), (0, u "java/util/Optional"), (0, u "EMPTY"), (0, u "Ljava/util/Optional;"), (0, .methodref 8 9), (0, .class_ 10), (0, .nameAndType 11 12), (0, u "java/lang/Object"), (0, u "<init>"), (0, u "()V"), (0, .fieldref 2 14), (0, .nameAndType 15 16), (0, u "value"), (0, u "Ljava/lang/Object;"), (0, .methodref 18 19), (0, .class_ 20), (0, .nameAndType 21 22), (0, u "java/util/Objects"), (0, u "requireNonNull"), (0, u "(Ljava/lang/Object;)Ljava/lang/Object;"), (0, .methodref 2 24), (0, .nameAndType 11 25), (0, u "(Ljava/lang/Object;)V"), (20, u "()Z"), (8, u "empty"), (0, u "()Ljava/util/Optional;"), (8, u "(Ljava/lang/Object;)Ljava/util/Optional;"), (2, u "isPresent"), (4, u "get"), (0, u "()Ljava/lang/Object;"), (7, u "of")] 104

def k7c0 : Code := { maxStack := 1, maxLocals := 1, code := jdk_32_method_1_code, exceptionTable := #[], attributes := #[] }
def k7m0 : Method := { name := "empty", desc := "()Ljava/util/Optional;", sig := { parameters := [], returnType := some (.object "java/util/Optional") }, accessFlags := 9, code := some k7c0 }
def k7c1 : Code := { maxStack := 2, maxLocals := 2, code := jdk_32_method_2_code, exceptionTable := #[], attributes := #[] }
def k7m1 : Method := { name := "<init>", desc := "(Ljava/lang/Object;)V", sig := { parameters := [(.object "java/lang/Object")], returnType := none }, accessFlags := 2, code := some k7c1 }
def k7c2 : Code := { maxStack := 3, maxLocals := 1, code := jdk_32_method_3_code, exceptionTable := #[], attributes := #[] }
def k7m2 : Method := { name := "of", desc := "(Ljava/lang/Object;)Ljava/util/Optional;", sig := { parameters := [(.object "java/lang/Object")], returnType := some (.object "java/util/Optional") }, accessFlags := 9, code := some k7c2 }
def k7c3 : Code := { maxStack := 3, maxLocals := 1, code := jdk_32_method_5_code, exceptionTable := #[], attributes := #[] }
def k7m3 : Method := { name := "get", desc := "()Ljava/lang/Object;", sig := { parameters := [], returnType := some (.object "java/lang/Object") }, accessFlags := 1, code := some k7c3 }
def k7c4 : Code := { maxStack := 1, maxLocals := 1, code := jdk_32_method_6_code, exceptionTable := #[], attributes := #[] }
def k7m4 : Method := { name := "isPresent", desc := "()Z", sig := { parameters := [], returnType := some .boolean }, accessFlags := 1, code := some k7c4 }
/-- java/util/Optional -/
def k7 : Class := { plain "java/util/Optional" (some 0) with
  accessFlags := 49
  interfaces := #[]
  cf := some (fileOf pool7 2 #[] #[{ accessFlags := 9, nameIndex := 55, descriptorIndex := 56, attributes := #[] }, { accessFlags := 2, nameIndex := 11, descriptorIndex := 25, attributes := #[] }, { accessFlags := 9, nameIndex := 82, descriptorIndex := 65, attributes := #[] }, { accessFlags := 1, nameIndex := 73, descriptorIndex := 74, attributes := #[] }, { accessFlags := 1, nameIndex := 68, descriptorIndex := 46, attributes := #[] }] 49 8 #[] #[{ accessFlags := 26, nameIndex := 5, descriptorIndex := 6, attributes := #[] }, { accessFlags := 18, nameIndex := 15, descriptorIndex := 16, attributes := #[] }])
  fields := #[{ name := "EMPTY", type := (.object "java/util/Optional"), accessFlags := 26, slot := 0, constantValue := 0 }, { name := "value", type := (.object "java/lang/Object"), accessFlags := 18, slot := 0, constantValue := 0 }]
  methods := #[k7m0, k7m1, k7m2, k7m3, k7m4]
  instanceTypes := #[(.object "java/lang/Object")]
  staticTypes := #[(.object "java/util/Optional")]
  resolved := Array.replicate 187 none
  statics := some 1 }

def pool8 : Array CpInfo := pool [(2, .class_ 4), (1, u "java/lang/Object"), (0, u "<init>"), (0, u "()V"), (35, .class_ 44), (1, u "java/util/Objects"), (0, u "requireNonNull"), (0, u "(Ljava/lang/Object;)Ljava/lang/Object;")] 137

def k8m0 : Method := { name := "<init>", desc := "()V", sig := { parameters := [], returnType := none }, accessFlags := 2, code := none }
def k8c1 : Code := { maxStack := 2, maxLocals := 1, code := jdk_31_method_10_code, exceptionTable := #[], attributes := #[] }
def k8m1 : Method := { name := "requireNonNull", desc := "(Ljava/lang/Object;)Ljava/lang/Object;", sig := { parameters := [(.object "java/lang/Object")], returnType := some (.object "java/lang/Object") }, accessFlags := 9, code := some k8c1 }
/-- java/util/Objects -/
def k8 : Class := { plain "java/util/Objects" (some 0) with
  accessFlags := 49
  interfaces := #[]
  cf := some (fileOf pool8 42 #[] #[{ accessFlags := 2, nameIndex := 5, descriptorIndex := 6, attributes := #[] }, { accessFlags := 9, nameIndex := 45, descriptorIndex := 46, attributes := #[] }] 49 2 #[] #[])
  fields := #[]
  methods := #[k8m0, k8m1]
  instanceTypes := #[]
  staticTypes := #[]
  resolved := Array.replicate 184 none
  statics := none }

def pool9 : Array CpInfo := pool [(1, u "java/lang/Cloneable"), (0, .class_ 1), (0, u "java/lang/Object"), (0, .class_ 3)] 3

/-- java/lang/Cloneable -/
def k9 : Class := { plain "java/lang/Cloneable" (some 0) with
  accessFlags := 1537
  interfaces := #[]
  cf := some (fileOf pool9 2 #[] #[] 1537 4 #[] #[])
  fields := #[]
  methods := #[]
  instanceTypes := #[]
  staticTypes := #[]
  resolved := Array.replicate 8 none
  statics := none }

/-- the primitive byte -/
def k10 : Class := { plain "byte" none with kind := .primitive 'B', accessFlags := 0x411 }
/-- [B -/
def k11 : Class := { plain "[B" (some 0) with kind := .array 10 .byte, interfaces := #[9, 4], accessFlags := 1041 }

/-- the primitive int -/
def k12 : Class := { plain "int" none with kind := .primitive 'I', accessFlags := 0x411 }
/-- [I -/
def k13 : Class := { plain "[I" (some 0) with kind := .array 12 .int, interfaces := #[9, 4], accessFlags := 1041 }

/-- [Lcom/example/letters_over_wire/lettersoverwire/HeaderEncoding; -/
def k14 : Class := { plain "[Lcom/example/letters_over_wire/lettersoverwire/HeaderEncoding;" (some 0) with kind := .array 6 (.object "com/example/letters_over_wire/lettersoverwire/HeaderEncoding"), interfaces := #[9, 4], accessFlags := 1041 }

def heap : Heap := #[{ cls := 6, slots := #[.ref 3, .ref 4, .ref 2, .null], vm := .statics 6 },
  { cls := 7, slots := #[.ref 5], vm := .statics 7 },
  { cls := 14, slots := #[.ref 3, .ref 4], vm := .none },
  { cls := 6, slots := #[.null, .int 0, .int 0, .int 0], vm := .none },
  { cls := 6, slots := #[.null, .int 0, .int 0, .int 1], vm := .none },
  { cls := 7, slots := #[.null], vm := .none }]
def classes : Array Class := #[k0, k1, k2, k3, k4, k5, k6, k7, k8, k9, k10, k11, k12, k13, k14]
def interned : List (Array UInt16 × Addr) := []
def slotsUsed : Nat := 16
def theMethod : MethodId := ⟨1, 2⟩
def args0 : Array Value := #[.int 3, .int 4]
def aboutOver (below : List Frame) : State where
  vm := { classes := classes, interned := interned.toArray }
  heap := heap
  slotsUsed := slotsUsed
  threads := #[{ frames := .invoking theMethod args0 :: below }]
def below0 : List Frame := [.native { method := ⟨0, 0⟩, args := #[] }]
def about1 : State := aboutOver below0
def p0 : Program := .bare "" "" ""
def e0 : Env := launch0.env 0 0 0
theorem w_frames : about1.frames = Frame.invoking theMethod args0 :: below0 := rfl
set_option maxRecDepth 65536 in
theorem w_args : argsFit about1.vm theMethod args0 = true := by decide +kernel
set_option maxRecDepth 65536 in
theorem w_heap : heapFits about1 = true := by decide +kernel
set_option maxRecDepth 65536 in
theorem w_runnable : about1.curStatus? = some .runnable := by decide +kernel
set_option maxRecDepth 65536 in
theorem w_alone : about1.alone = true := by decide +kernel
set_option maxRecDepth 65536 in
theorem w_named : about1.methodNamed? x = some theMethod := by decide +kernel
set_option maxRecDepth 65536 in
theorem w_hears : about1.hears theMethod below0 = true := by decide +kernel
set_option maxRecDepth 65536 in
theorem w_ripe : about1.ripe theMethod args0 below0 = true := by decide +kernel
theorem w_running : about1.status = .running := rfl
set_option maxRecDepth 65536 in
theorem w_room : about1.hasRoom e0.platform room_1 = true :=
  launch0.hasRoom_least _ room_1 (by decide +kernel) (by decide +kernel) (by decide +kernel) (by decide +kernel) (by decide +kernel) (by decide +kernel)
theorem allAtoms_all (ts : List Jvm.Cond) (a : Array Jvm.Value) (st : Jvm.State) : (allAtoms ts).before a st = ts.all (fun c => c.before a st) := by
  induction ts with
  | nil => rfl
  | cons c t ih =>
    show (Jvm.Cond.and c (allAtoms t)).before a st = _
    rw [Jvm.Cond.before_and, ih, List.all_cons]
def words1 : List Jvm.Cond := Jvm.Cond.code x code maxLocals ret :: tables_1
/-- a 'code' word, met by the world's own term for the bytes: nothing is compared byte by byte -/
theorem code_word {y : MethodName} {bytes : ByteArray} {mx : Nat} {rt : Option FieldType} {a : Array Value} {s : State} {m : MethodId} {meth : Method} {c : Code} (h1 : s.methodNamed? y = some m) (h2 : s.vm.method? m = some meth) (h3 : meth.code = some c) (h4 : c.code = bytes)
    (h5 : (c.maxLocals == mx && c.exceptionTable.isEmpty && decide (c.maxStack ≤ mostOperands) && decide (meth.sig.returnType = rt) && !meth.locks && decide (parseMethodDescriptor y.desc = some meth.sig)) = true) : (Jvm.Cond.code y bytes mx rt).before a s = true := by
  simp only [Bool.and_eq_true, beq_iff_eq, Bool.not_eq_true', decide_eq_true_eq] at h5
  obtain ⟨⟨⟨⟨⟨g1, g2⟩, g3⟩, g4⟩, g5⟩, g6⟩ := h5
  simp [Cond.before, Cond.holds, Cond.value, h1, h2, h3, h4, g1, g2, g3, g4, g5, g6]
def isCode : Jvm.Cond → Bool
  | .code _ _ _ _ => true
  | _ => false
theorem all_split {L : List Jvm.Cond} {P : Jvm.Cond → Bool} (h1 : L.all (fun c => isCode c || P c) = true) (h2 : ∀ c ∈ L.filter isCode, P c = true) : L.all P = true := by
  refine List.all_eq_true.mpr fun c hc => ?_
  have h := List.all_eq_true.mp h1 c hc
  rcases Bool.eq_false_or_eq_true (isCode c) with hi | hi
  · exact h2 c (List.mem_filter.mpr ⟨hc, hi⟩)
  · simpa [hi] using h
set_option maxRecDepth 65536 in
theorem w_c0 : (Jvm.Cond.code x code maxLocals ret).before args0 about1 = true := code_word (m := ⟨1, 2⟩) (meth := k1m2) (c := k1c2) (by decide +kernel) rfl rfl rfl (by decide +kernel)
set_option maxRecDepth 65536 in
theorem w_c1 : (Jvm.Cond.code ({ cls := "com/example/letters_over_wire/lettersoverwire/HeaderEncodingForCodePinLaw", name := "pickCode", desc := "(II)I" } : Jvm.MethodName) method_2_code (3 : Nat) (Option.some Jvm.ClassFile.FieldType.int)).before args0 about1 = true := code_word (m := ⟨1, 1⟩) (meth := k1m1) (c := k1c1) (by decide +kernel) rfl rfl rfl (by decide +kernel)
set_option maxRecDepth 65536 in
theorem w_c2 : (Jvm.Cond.code ({ cls := "com/example/letters_over_wire/lettersoverwire/HeaderEncoding", name := "forCode", desc := "(I)Ljava/util/Optional;" } : Jvm.MethodName) prog_10_method_5_code (5 : Nat) (Option.some (Jvm.ClassFile.FieldType.object "java/util/Optional"))).before args0 about1 = true := code_word (m := ⟨6, 0⟩) (meth := k6m0) (c := k6c0) (by decide +kernel) rfl rfl rfl (by decide +kernel)
set_option maxRecDepth 65536 in
theorem w_c3 : (Jvm.Cond.code ({ cls := "java/util/Optional", name := "empty", desc := "()Ljava/util/Optional;" } : Jvm.MethodName) jdk_32_method_1_code (1 : Nat) (Option.some (Jvm.ClassFile.FieldType.object "java/util/Optional"))).before args0 about1 = true := code_word (m := ⟨7, 0⟩) (meth := k7m0) (c := k7c0) (by decide +kernel) rfl rfl rfl (by decide +kernel)
set_option maxRecDepth 65536 in
theorem w_c4 : (Jvm.Cond.code ({ cls := "java/util/Optional", name := "isPresent", desc := "()Z" } : Jvm.MethodName) jdk_32_method_6_code (1 : Nat) (Option.some Jvm.ClassFile.FieldType.boolean)).before args0 about1 = true := code_word (m := ⟨7, 4⟩) (meth := k7m4) (c := k7c4) (by decide +kernel) rfl rfl rfl (by decide +kernel)
set_option maxRecDepth 65536 in
theorem w_c5 : (Jvm.Cond.code ({ cls := "java/util/Optional", name := "of", desc := "(Ljava/lang/Object;)Ljava/util/Optional;" } : Jvm.MethodName) jdk_32_method_3_code (1 : Nat) (Option.some (Jvm.ClassFile.FieldType.object "java/util/Optional"))).before args0 about1 = true := code_word (m := ⟨7, 2⟩) (meth := k7m2) (c := k7c2) (by decide +kernel) rfl rfl rfl (by decide +kernel)
set_option maxRecDepth 65536 in
theorem w_c6 : (Jvm.Cond.code ({ cls := "java/util/Objects", name := "requireNonNull", desc := "(Ljava/lang/Object;)Ljava/lang/Object;" } : Jvm.MethodName) jdk_31_method_10_code (1 : Nat) (Option.some (Jvm.ClassFile.FieldType.object "java/lang/Object"))).before args0 about1 = true := code_word (m := ⟨8, 1⟩) (meth := k8m1) (c := k8c1) (by decide +kernel) rfl rfl rfl (by decide +kernel)
set_option maxRecDepth 65536 in
theorem w_c7 : (Jvm.Cond.code ({ cls := "java/util/Optional", name := "<init>", desc := "(Ljava/lang/Object;)V" } : Jvm.MethodName) jdk_32_method_2_code (2 : Nat) (Option.none : Option Jvm.ClassFile.FieldType)).before args0 about1 = true := code_word (m := ⟨7, 1⟩) (meth := k7m1) (c := k7c1) (by decide +kernel) rfl rfl rfl (by decide +kernel)
set_option maxRecDepth 65536 in
theorem w_c8 : (Jvm.Cond.code ({ cls := "java/lang/Object", name := "<init>", desc := "()V" } : Jvm.MethodName) object_method_1_code (1 : Nat) (Option.none : Option Jvm.ClassFile.FieldType)).before args0 about1 = true := code_word (m := ⟨0, 0⟩) (meth := k0m0) (c := k0c0) (by decide +kernel) rfl rfl rfl (by decide +kernel)
set_option maxRecDepth 65536 in
theorem w_c9 : (Jvm.Cond.code ({ cls := "java/util/Optional", name := "get", desc := "()Ljava/lang/Object;" } : Jvm.MethodName) jdk_32_method_5_code (1 : Nat) (Option.some (Jvm.ClassFile.FieldType.object "java/lang/Object"))).before args0 about1 = true := code_word (m := ⟨7, 3⟩) (meth := k7m3) (c := k7c3) (by decide +kernel) rfl rfl rfl (by decide +kernel)
def codes1 : List Jvm.Cond := [Jvm.Cond.code x code maxLocals ret, Jvm.Cond.code ({ cls := "com/example/letters_over_wire/lettersoverwire/HeaderEncodingForCodePinLaw", name := "pickCode", desc := "(II)I" } : Jvm.MethodName) method_2_code (3 : Nat) (Option.some Jvm.ClassFile.FieldType.int), Jvm.Cond.code ({ cls := "com/example/letters_over_wire/lettersoverwire/HeaderEncoding", name := "forCode", desc := "(I)Ljava/util/Optional;" } : Jvm.MethodName) prog_10_method_5_code (5 : Nat) (Option.some (Jvm.ClassFile.FieldType.object "java/util/Optional")), Jvm.Cond.code ({ cls := "java/util/Optional", name := "empty", desc := "()Ljava/util/Optional;" } : Jvm.MethodName) jdk_32_method_1_code (1 : Nat) (Option.some (Jvm.ClassFile.FieldType.object "java/util/Optional")), Jvm.Cond.code ({ cls := "java/util/Optional", name := "isPresent", desc := "()Z" } : Jvm.MethodName) jdk_32_method_6_code (1 : Nat) (Option.some Jvm.ClassFile.FieldType.boolean), Jvm.Cond.code ({ cls := "java/util/Optional", name := "of", desc := "(Ljava/lang/Object;)Ljava/util/Optional;" } : Jvm.MethodName) jdk_32_method_3_code (1 : Nat) (Option.some (Jvm.ClassFile.FieldType.object "java/util/Optional")), Jvm.Cond.code ({ cls := "java/util/Objects", name := "requireNonNull", desc := "(Ljava/lang/Object;)Ljava/lang/Object;" } : Jvm.MethodName) jdk_31_method_10_code (1 : Nat) (Option.some (Jvm.ClassFile.FieldType.object "java/lang/Object")), Jvm.Cond.code ({ cls := "java/util/Optional", name := "<init>", desc := "(Ljava/lang/Object;)V" } : Jvm.MethodName) jdk_32_method_2_code (2 : Nat) (Option.none : Option Jvm.ClassFile.FieldType), Jvm.Cond.code ({ cls := "java/lang/Object", name := "<init>", desc := "()V" } : Jvm.MethodName) object_method_1_code (1 : Nat) (Option.none : Option Jvm.ClassFile.FieldType), Jvm.Cond.code ({ cls := "java/util/Optional", name := "get", desc := "()Ljava/lang/Object;" } : Jvm.MethodName) jdk_32_method_5_code (1 : Nat) (Option.some (Jvm.ClassFile.FieldType.object "java/lang/Object"))]
set_option maxRecDepth 65536 in
theorem codes_eq : words1.filter isCode = codes1 := rfl
theorem w_codes : ∀ c ∈ words1.filter isCode, c.before args0 about1 = true := by
  rw [codes_eq]
  intro c hc
  simp only [codes1, List.mem_cons, List.not_mem_nil, or_false] at hc
  rcases hc with rfl | rfl | rfl | rfl | rfl | rfl | rfl | rfl | rfl | rfl
  · exact w_c0
  · exact w_c1
  · exact w_c2
  · exact w_c3
  · exact w_c4
  · exact w_c5
  · exact w_c6
  · exact w_c7
  · exact w_c8
  · exact w_c9
set_option maxRecDepth 65536 in
theorem w_t1 : (words1.take 24).all (fun c => isCode c || c.before args0 about1) = true := by decide +kernel
set_option maxRecDepth 65536 in
theorem w_t2 : ((words1.drop 24).take 24).all (fun c => isCode c || c.before args0 about1) = true := by decide +kernel
set_option maxRecDepth 65536 in
theorem w_t3 : ((words1.drop 24).drop 24).all (fun c => isCode c || c.before args0 about1) = true := by decide +kernel
theorem w_tables : (allAtoms (Jvm.Cond.code x code maxLocals ret :: tables_1)).before args0 about1 = true := by
  rw [allAtoms_all]
  show words1.all (fun c => c.before args0 about1) = true
  refine all_split ?_ w_codes
  rw [← List.take_append_drop 24 words1, List.all_append, w_t1, ← List.take_append_drop 24 (words1.drop 24), List.all_append, w_t2, w_t3]
  rfl
set_option maxRecDepth 65536 in
theorem w_rest : rest_1_c.before args0 about1 = true := by decide +kernel
set_option maxRecDepth 65536 in
theorem w_case : (Jvm.Cond.and given_1 narrow_1).before args0 about1 = true := by decide +kernel
theorem w_applies : (headSpec (Jvm.Cond.code x code maxLocals ret :: tables_1) room_1).applies x e0.platform about1 = true :=
  (Spec.applies_iff w_frames).mpr ⟨w_running, w_runnable, w_alone, w_named, w_hears, w_ripe, w_room, w_tables⟩
theorem atStart : AtStart classFile x code maxLocals ret World_1 tables_1 room_1 Calls_1 rest_1 Pre_1 launch0 p0 e0 about1 theMethod args0 below0 :=
  ⟨lists_1, trivial, launch0.admits_env _ _ _, launch0.least_env, fairChoices_fair.cas, fairChoices_fair.clock, w_frames, w_args, w_heap, w_applies, trivial, w_rest, w_case⟩
end start1
theorem witness_1 : WitnessClaimed_1 := ⟨start1.p0, start1.e0, start1.about1, start1.theMethod, start1.args0, start1.below0, start1.atStart⟩
end Jvm.Pilot.@@N@@
