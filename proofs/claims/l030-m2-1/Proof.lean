import JvmDerived
import JvmDerived.Pilot.@@N@@Statement
import JvmDerived.Pilot.@@N@@Code
set_option linter.unusedVariables false
set_option linter.unusedSimpArgs false
namespace Jvm.Pilot.@@N@@
open Jvm Jvm.ClassFile Sem Op Lib Jvm.Free Jvm.Stand Jvm.LawKit Jvm.RoadKit Bundle Jvm.Pilot.@@N@@.Jvm.D
/-! own_Ends: from the state T the run ends well -/
def own_Ends (p : Program) (e : Env) (below : List Frame) (P : State → Outcome → Prop) (T : State) : Prop := ∃ U o, Steps p.tables e below T U ∧ U.status = .running ∧ Ended U below o ∧ P U o
def own_Got (s : State) (Q : Option Value → Heap → List Loc → Prop) (C N : Nat) (U : State) (o : Outcome) : Prop := ∃ v L, o = .returned v ∧ Q v U.heap L ∧ FrameEnd s o U L C N
section Own
variable {p : Program} {l : Launch} {e : Env} {R : Room} {s : State} {m : MethodId} {args : Array Value} {below : List Frame} {meth : Method} {c : Code} {T T' : State} {locs : List Loc} {cells slots : Nat} {P : State → Outcome → Prop}
theorem own_go (h : ∀ target, Steps p.tables e below T' target → Steps p.tables e below T target) (k : own_Ends p e below P T') : own_Ends p e below P T := by
  obtain ⟨U, o, h1, h2⟩ := k; exact ⟨U, o, h _ h1, h2⟩
theorem own_tr (h : Steps p.tables e below T T') (k : own_Ends p e below P T') : own_Ends p e below P T := by
  obtain ⟨U, o, h1, h2⟩ := k; exact ⟨U, o, h.trans h1, h2⟩
theorem own_pack {n0 k' n' : Nat} {L' : List Loc} (X : Stand p l e R s m args below meth c T locs cells slots) (hl : locs = L') (hk : cells = k') (hn : slots = n') (F : Fr n0 L') : ∃ L'', Fr n0 L'' ∧ Stand p l e R s m args below meth c T L'' k' n' := by
  subst hl hk hn; exact ⟨_, F, X⟩
variable {Q : Option Value → Heap → List Loc → Prop} {C N : Nat}
theorem own_ret (X : Stand p l e R s m args below meth c T locs cells slots) (hx : p.tables.exec = Jvm.exec) (lk : meth.locks = false) {pc : Nat} {Ls : Array Slot} {w : Value} {t : FieldType} {i : Instr} {rest : List Value} (hret : meth.sig.returnType = some t) (hn : narrow t w = w)
    (hi : (i = .ireturn ∧ (t = .int ∨ t = .boolean ∨ t = .byte ∨ t = .char ∨ t = .short) ∧ ∃ z, w = .int z) ∨ (i = .lreturn ∧ t = .long ∧ ∃ z, w = .long z) ∨ (i = .dreturn ∧ t = .double ∧ ∃ z, w = .double z) ∨ (i = .freturn ∧ t = .float ∧ ∃ z, w = .float z) ∨ (i = .areturn ∧ t.isReference = true ∧ w.isRef = true))
    (hd : decode c.code pc = .ok (i, 1)) (hC : cells ≤ C) (hN : slots ≤ N) (hq : Q (some w) T.heap locs) : own_Ends p e below (own_Got s Q C N) (T.setTop (mkF m pc Ls (w :: rest))) := by
  obtain ⟨fs, hr, hrun, hended, hW, hsame⟩ := X.leave (v := some w) (fun h => by rw [hret] at h; cases h) lk
  exact ⟨_, _, retOut X hx hret hn hi hd hr, hrun, hended, _, _, rfl, hq, ⟨_, rfl⟩, hW, hsame.mono hC hN⟩
theorem own_retI (X : Stand p l e R s m args below meth c T locs cells slots) (hx : p.tables.exec = Jvm.exec) (lk : meth.locks = false) {pc : Nat} {Ls : Array Slot} {z : Int32} {rest : List Value} (hret : meth.sig.returnType = some .int)
    (hd : decode c.code pc = .ok (.ireturn, 1)) (hC : cells ≤ C) (hN : slots ≤ N) (hq : Q (some (.int z)) T.heap locs) : own_Ends p e below (own_Got s Q C N) (T.setTop (mkF m pc Ls (.int z :: rest))) :=
  own_ret X hx lk hret rfl (Or.inl ⟨rfl, Or.inl rfl, _, rfl⟩) hd hC hN hq
theorem own_retZ (X : Stand p l e R s m args below meth c T locs cells slots) (hx : p.tables.exec = Jvm.exec) (lk : meth.locks = false) {pc : Nat} {Ls : Array Slot} {z : Int32} {rest : List Value} (hret : meth.sig.returnType = some .boolean) (hn : narrow .boolean (.int z) = .int z)
    (hd : decode c.code pc = .ok (.ireturn, 1)) (hC : cells ≤ C) (hN : slots ≤ N) (hq : Q (some (.int z)) T.heap locs) : own_Ends p e below (own_Got s Q C N) (T.setTop (mkF m pc Ls (.int z :: rest))) :=
  own_ret X hx lk hret hn (Or.inl ⟨rfl, Or.inr (Or.inl rfl), _, rfl⟩) hd hC hN hq
theorem own_retJ (X : Stand p l e R s m args below meth c T locs cells slots) (hx : p.tables.exec = Jvm.exec) (lk : meth.locks = false) {pc : Nat} {Ls : Array Slot} {z : Int64} {rest : List Value} (hret : meth.sig.returnType = some .long)
    (hd : decode c.code pc = .ok (.lreturn, 1)) (hC : cells ≤ C) (hN : slots ≤ N) (hq : Q (some (.long z)) T.heap locs) : own_Ends p e below (own_Got s Q C N) (T.setTop (mkF m pc Ls (.long z :: rest))) :=
  own_ret X hx lk hret rfl (Or.inr (Or.inl ⟨rfl, rfl, _, rfl⟩)) hd hC hN hq
theorem own_retR (X : Stand p l e R s m args below meth c T locs cells slots) (hx : p.tables.exec = Jvm.exec) (lk : meth.locks = false) {pc : Nat} {Ls : Array Slot} {w : Value} {t : FieldType} {rest : List Value} (hret : meth.sig.returnType = some t) (ht : t.isReference = true) (hw : w.isRef = true)
    (hd : decode c.code pc = .ok (.areturn, 1)) (hC : cells ≤ C) (hN : slots ≤ N) (hq : Q (some w) T.heap locs) : own_Ends p e below (own_Got s Q C N) (T.setTop (mkF m pc Ls (w :: rest))) :=
  own_ret X hx lk hret (by rcases ref_cases hw with rfl | ⟨a, rfl⟩ <;> cases t <;> first | rfl | exact absurd ht (by decide)) (Or.inr (Or.inr (Or.inr (Or.inr ⟨rfl, ht, hw⟩)))) hd hC hN hq
theorem own_retV (X : Stand p l e R s m args below meth c T locs cells slots) (hx : p.tables.exec = Jvm.exec) (lk : meth.locks = false) {pc : Nat} {Ls : Array Slot} {st : List Value} (hret : meth.sig.returnType = none)
    (hd : decode c.code pc = .ok (.return_, 1)) (hC : cells ≤ C) (hN : slots ≤ N) (hq : Q none T.heap locs) : own_Ends p e below (own_Got s Q C N) (T.setTop (mkF m pc Ls [])) := by
  obtain ⟨fs, hr, hrun, hended, hW, hsame⟩ := X.leave (v := none) (fun _ => rfl) lk
  exact ⟨_, _, X.returnOut hx hret hd hr, hrun, hended, _, _, rfl, hq, ⟨_, rfl⟩, hW, hsame.mono hC hN⟩
theorem own_fldI {Z : State} {a : Addr} {av : Array Value} {t : Term} {k : Int32} {C n d : String} (ev : t.eval av Z none [] Z = some (.ref a)) (h : (Jvm.Cond.eq (.field t C n d) (.int k)).value av Z none Z [] = some true) : Fld Z Z.heap a C n d (.int k) := by
  obtain ⟨x, y, ex, ey, k1, k2⟩ := cmp_v (Or.inl h)
  cases (Term.int_eval (args := av) (first := Z) (o := none) (idx := []) (s := Z) k).symm.trans ey
  obtain ⟨z, rfl⟩ := k2
  obtain rfl : z = k := gotT (Cond.eq_ints ex (Term.int_eval k)) h
  exact Fld.start ((fld_at ev).symm.trans ex)
theorem own_fldJ {Z : State} {a : Addr} {av : Array Value} {t : Term} {k : Int64} {C n d : String} (ev : t.eval av Z none [] Z = some (.ref a)) (h : (Jvm.Cond.eq (.field t C n d) (.long k)).value av Z none Z [] = some true) : Fld Z Z.heap a C n d (.long k) := by
  obtain ⟨x, y, ex, ey, k1, k2⟩ := cmp_v (Or.inl h)
  cases (long_at (args := av) (first := Z) (o := none) (idx := []) (s := Z) k).symm.trans ey
  obtain ⟨z, rfl⟩ := k2
  obtain rfl : z = k := gotT (eq_L ex (long_at k)) h
  exact Fld.start ((fld_at ev).symm.trans ex)
theorem own_staJ {Z : State} {av : Array Value} {k : Int64} {t : Term} (h : (Jvm.Cond.eq t (.long k)).value av Z none Z [] = some true) : t.eval av Z none [] Z = some (.long k) := by
  obtain ⟨x, y, ex, ey, k1, k2⟩ := cmp_v (Or.inl h)
  cases (long_at (args := av) (first := Z) (o := none) (idx := []) (s := Z) k).symm.trans ey
  obtain ⟨z, rfl⟩ := k2
  obtain rfl : z = k := gotT (eq_L ex (long_at k)) h
  exact ex
theorem own_staI {Z : State} {av : Array Value} {k : Int32} {t : Term} (h : (Jvm.Cond.eq t (.int k)).value av Z none Z [] = some true) : t.eval av Z none [] Z = some (.int k) := by
  obtain ⟨x, y, ex, ey, k1, k2⟩ := cmp_v (Or.inl h)
  cases (Term.int_eval (args := av) (first := Z) (o := none) (idx := []) (s := Z) k).symm.trans ey
  obtain ⟨z, rfl⟩ := k2
  obtain rfl : z = k := gotT (Cond.eq_ints ex (Term.int_eval k)) h
  exact ex
end Own
theorem own_place (p : Int64) (h1 : ¬ p < (-128 : Int64)) (h2 : ¬ (127 : Int64) < p) : ¬ ((p.toInt32) + (128 : Int32)) < 0 ∧ ((p.toInt32) + (128 : Int32)) < (256 : Int32) ∧ (((p.toInt32) + (128 : Int32)) - (128 : Int32)).toInt64 = p := by
  rw [Int64.lt_iff_toInt_lt] at h1 h2
  have b1 : (-128 : Int64).toInt = -128 := rfl
  have b2 : (127 : Int64).toInt = 127 := rfl
  have a3 : (128 : Int32).toInt = 128 := rfl
  have a4 : (256 : Int32).toInt = 256 := rfl
  have a5 : (0 : Int32).toInt = 0 := rfl
  have k0 := c_l2i p; have r0 := rng32 p.toInt32
  have k := c_iadd p.toInt32 128; have r := rng32 (p.toInt32 + 128)
  have k2 := c_isub (p.toInt32 + 128) 128; have r2 := rng32 ((p.toInt32 + 128) - 128)
  refine ⟨?_, ?_, Int64.toInt_inj.mp ?_⟩
  · rw [Int32.lt_iff_toInt_lt]; omega
  · rw [Int32.lt_iff_toInt_lt]; omega
  · rw [c_i2l]; omega
theorem own_d14_0 : decode jdk_18_method_1_code 0 = .ok (.aload_n 0, 1) := by decide +kernel
theorem own_d14_1 : decode jdk_18_method_1_code 1 = .ok (.invokespecial 1, 3) := by decide +kernel
theorem own_d14_4 : decode jdk_18_method_1_code 4 = .ok (.return_, 1) := by decide +kernel
theorem own_ef_own_numinit (m : MethodId) (x0 : Addr) : entryFrame m #[(.ref x0)] 1 = mkF m 0 #[.val (.ref x0)] [] := by first | (simp [entryFrame, mkF, argsToLocals, Value.category]; done) | rfl
def Q_own_numinit (Z : State) (a : Addr) (h0 : Heap) (n0 : Nat) (v : Option Value) (h : Heap) (L : List Loc) : Prop := v = none ∧ Fr n0 L ∧ h = h0
theorem own_pn_java_lang_Number : plainName "java/lang/Number" = true := by first | (simp [plainName, overriddenIn]; done) | decide +kernel
set_option maxRecDepth 65536 in
set_option maxHeartbeats 40000000 in
theorem own_numinit (l : Launch) (Z : State) (a0 : Array Value) (hw : ∀ d ∈ tables_1, d.before a0 Z = true) (ws : List Jvm.Cond) (a : Addr) (h0 : Heap) (n0 : Nat) (O0 : Old Z n0 h0) :
    MetFree l (⟨"java/lang/Number", "<init>", "()V"⟩ : MethodName) (head1 (Jvm.Cond.code (⟨"java/lang/Number", "<init>", "()V"⟩ : MethodName) jdk_18_method_1_code 1 none :: ws) ({ frames := 1, cells := 0, slots := 0, locals := 12 } : Room)) (fun args_ U => args_ = #[(.ref a)] ∧ Z.Warmed39 U.vm ∧ U.heap = h0) (fun _ _ _ _ _ => True) (fun _ U o U' => ∃ v L, o = .returned v ∧ Q_own_numinit Z a h0 n0 v U'.heap L ∧ FrameEnd U o U' L ({ frames := 1, cells := 0, slots := 0, locals := 12 } : Room).cells ({ frames := 1, cells := 0, slots := 0, locals := 12 } : Room).slots) := by
  refine MetFree.of_bodySF (plainFor_of_name own_pn_java_lang_Number) hisR ?_
  intro pP eE sS mM args below meth cC s₁ Bd hml0 hP hK
  obtain ⟨rfl, hZ, hh⟩ := hP
  have hx := Bd.exec
  have hby := Bd.bytes
  have hml : cC.maxLocals = 1 := hml0
  have hown : sS.vm.findClass "java/lang/Number" = some mM.cls := findClass_of_methodNamed Bd.named
  have hnm := (name_of_methodNamed Bd.named Bd.method).1
  have X0 : Stand pP l eE ({ frames := 1, cells := 0, slots := 0, locals := 12 } : Room) sS mM #[(.ref a)] below meth cC s₁ [] 0 0 := Stand.of_body Bd
  have e0 : s₁.heap = h0 := by rw [← hh, Bd.state]; rfl
  have N0 := Fr.nil n0
  show own_Ends pP eE below (own_Got sS (Q_own_numinit Z a h0 n0) ({ frames := 1, cells := 0, slots := 0, locals := 12 } : Room).cells ({ frames := 1, cells := 0, slots := 0, locals := 12 } : Room).slots) (s₁.setTop (entryFrame mM #[(.ref a)] 1))
  rw [own_ef_own_numinit mM a]
  refine own_go (fun _ k => XS.aloadN X0.here hx rfl (hb hby own_d14_0) rfl rfl k) ?_
  show own_Ends _ _ _ _ (s₁.setTop (mkF mM 1 #[.val (.ref a)] [(.ref a)]))
  obtain ⟨T1, X1, e1, st1⟩ := initO X0 hx hZ hown (hw _ (List.mem_of_getElem? (i := 83) rfl)) (hw _ (List.mem_of_getElem? (i := 18) rfl)) (hw _ (List.mem_of_getElem? (i := 19) rfl)) e0 (g := (mkF mM 1 #[.val (.ref a)] [(.ref a)])) rfl (by rw [hml]; rfl) rfl (hb hby own_d14_1) (by decide) (W := 0) (by show 2 * 0 + _ ≤ _; exact Nat.le_of_eq rfl) (by decide)
  refine own_go st1 ?_
  show own_Ends _ _ _ _ (T1.setTop (mkF mM 4 #[.val (.ref a)] []))
  exact own_retV X1 hx (BodyLoose.notSynchronized Bd) (st := []) Bd.returns (hb hby own_d14_4) (by decide) (by decide) (by rw [e1]; exact ⟨rfl, N0, rfl⟩)
theorem own_d3_0 : decode jdk_22_method_1_code 0 = .ok (.aload_n 0, 1) := by decide +kernel
theorem own_d3_1 : decode jdk_22_method_1_code 1 = .ok (.invokespecial 1, 3) := by decide +kernel
theorem own_d3_4 : decode jdk_22_method_1_code 4 = .ok (.return_, 1) := by decide +kernel
theorem own_ef_own_acinit (m : MethodId) (x0 : Addr) : entryFrame m #[(.ref x0)] 1 = mkF m 0 #[.val (.ref x0)] [] := by first | (simp [entryFrame, mkF, argsToLocals, Value.category]; done) | rfl
def Q_own_acinit (Z : State) (a : Addr) (h0 : Heap) (n0 : Nat) (v : Option Value) (h : Heap) (L : List Loc) : Prop := v = none ∧ Fr n0 L ∧ h = h0
theorem own_pn_java_util_AbstractCollection : plainName "java/util/AbstractCollection" = true := by first | (simp [plainName, overriddenIn]; done) | decide +kernel
set_option maxRecDepth 65536 in
set_option maxHeartbeats 40000000 in
theorem own_acinit (l : Launch) (Z : State) (a0 : Array Value) (hw : ∀ d ∈ tables_1, d.before a0 Z = true) (ws : List Jvm.Cond) (a : Addr) (h0 : Heap) (n0 : Nat) (O0 : Old Z n0 h0) :
    MetFree l (⟨"java/util/AbstractCollection", "<init>", "()V"⟩ : MethodName) (head1 (Jvm.Cond.code (⟨"java/util/AbstractCollection", "<init>", "()V"⟩ : MethodName) jdk_22_method_1_code 1 none :: ws) ({ frames := 1, cells := 0, slots := 0, locals := 12 } : Room)) (fun args_ U => args_ = #[(.ref a)] ∧ Z.Warmed39 U.vm ∧ U.heap = h0) (fun _ _ _ _ _ => True) (fun _ U o U' => ∃ v L, o = .returned v ∧ Q_own_acinit Z a h0 n0 v U'.heap L ∧ FrameEnd U o U' L ({ frames := 1, cells := 0, slots := 0, locals := 12 } : Room).cells ({ frames := 1, cells := 0, slots := 0, locals := 12 } : Room).slots) := by
  refine MetFree.of_bodySF (plainFor_of_name own_pn_java_util_AbstractCollection) hisR ?_
  intro pP eE sS mM args below meth cC s₁ Bd hml0 hP hK
  obtain ⟨rfl, hZ, hh⟩ := hP
  have hx := Bd.exec
  have hby := Bd.bytes
  have hml : cC.maxLocals = 1 := hml0
  have hown : sS.vm.findClass "java/util/AbstractCollection" = some mM.cls := findClass_of_methodNamed Bd.named
  have hnm := (name_of_methodNamed Bd.named Bd.method).1
  have X0 : Stand pP l eE ({ frames := 1, cells := 0, slots := 0, locals := 12 } : Room) sS mM #[(.ref a)] below meth cC s₁ [] 0 0 := Stand.of_body Bd
  have e0 : s₁.heap = h0 := by rw [← hh, Bd.state]; rfl
  have N0 := Fr.nil n0
  show own_Ends pP eE below (own_Got sS (Q_own_acinit Z a h0 n0) ({ frames := 1, cells := 0, slots := 0, locals := 12 } : Room).cells ({ frames := 1, cells := 0, slots := 0, locals := 12 } : Room).slots) (s₁.setTop (entryFrame mM #[(.ref a)] 1))
  rw [own_ef_own_acinit mM a]
  refine own_go (fun _ k => XS.aloadN X0.here hx rfl (hb hby own_d3_0) rfl rfl k) ?_
  show own_Ends _ _ _ _ (s₁.setTop (mkF mM 1 #[.val (.ref a)] [(.ref a)]))
  obtain ⟨T1, X1, e1, st1⟩ := initO X0 hx hZ hown (hw _ (List.mem_of_getElem? (i := 17) rfl)) (hw _ (List.mem_of_getElem? (i := 18) rfl)) (hw _ (List.mem_of_getElem? (i := 19) rfl)) e0 (g := (mkF mM 1 #[.val (.ref a)] [(.ref a)])) rfl (by rw [hml]; rfl) rfl (hb hby own_d3_1) (by decide) (W := 0) (by show 2 * 0 + _ ≤ _; exact Nat.le_of_eq rfl) (by decide)
  refine own_go st1 ?_
  show own_Ends _ _ _ _ (T1.setTop (mkF mM 4 #[.val (.ref a)] []))
  exact own_retV X1 hx (BodyLoose.notSynchronized Bd) (st := []) Bd.returns (hb hby own_d3_4) (by decide) (by decide) (by rw [e1]; exact ⟨rfl, N0, rfl⟩)
theorem own_d11_0 : decode jdk_35_method_31_code 0 = .ok (.aload_n 0, 1) := by decide +kernel
theorem own_d11_1 : decode jdk_35_method_31_code 1 = .ok (.getfield 273, 3) := by decide +kernel
theorem own_d11_4 : decode jdk_35_method_31_code 4 = .ok (.lreturn, 1) := by decide +kernel
theorem own_ef_own_longValue (m : MethodId) (x0 : Addr) : entryFrame m #[(.ref x0)] 1 = mkF m 0 #[.val (.ref x0)] [] := by first | (simp [entryFrame, mkF, argsToLocals, Value.category]; done) | rfl
def Q_own_longValue (Z : State) (a : Addr) (x : Int64) (h0 : Heap) (n0 : Nat) (v : Option Value) (h : Heap) (L : List Loc) : Prop := v = some (.long x) ∧ Fr n0 L ∧ h = h0
theorem own_pn_java_lang_Long : plainName "java/lang/Long" = true := by first | (simp [plainName, overriddenIn]; done) | decide +kernel
set_option maxRecDepth 65536 in
set_option maxHeartbeats 40000000 in
theorem own_longValue (l : Launch) (Z : State) (a0 : Array Value) (hw : ∀ d ∈ tables_1, d.before a0 Z = true) (ws : List Jvm.Cond) (a : Addr) (x : Int64) (h0 : Heap) (n0 : Nat) (O0 : Old Z n0 h0) (F : Fld Z h0 a "java/lang/Long" "value" "J" (.long x)) :
    MetFree l (⟨"java/lang/Long", "longValue", "()J"⟩ : MethodName) (head1 (Jvm.Cond.code (⟨"java/lang/Long", "longValue", "()J"⟩ : MethodName) jdk_35_method_31_code 1 (some .long) :: ws) ({ frames := 0, cells := 0, slots := 0, locals := 0 } : Room)) (fun args_ U => args_ = #[(.ref a)] ∧ Z.Warmed39 U.vm ∧ U.heap = h0) (fun _ _ _ _ _ => True) (fun _ U o U' => ∃ v L, o = .returned v ∧ Q_own_longValue Z a x h0 n0 v U'.heap L ∧ FrameEnd U o U' L ({ frames := 0, cells := 0, slots := 0, locals := 0 } : Room).cells ({ frames := 0, cells := 0, slots := 0, locals := 0 } : Room).slots) := by
  refine MetFree.of_bodySF (plainFor_of_name own_pn_java_lang_Long) hisR ?_
  intro pP eE sS mM args below meth cC s₁ Bd hml0 hP hK
  obtain ⟨rfl, hZ, hh⟩ := hP
  have hx := Bd.exec
  have hby := Bd.bytes
  have hml : cC.maxLocals = 1 := hml0
  have hown : sS.vm.findClass "java/lang/Long" = some mM.cls := findClass_of_methodNamed Bd.named
  have hnm := (name_of_methodNamed Bd.named Bd.method).1
  have X0 : Stand pP l eE ({ frames := 0, cells := 0, slots := 0, locals := 0 } : Room) sS mM #[(.ref a)] below meth cC s₁ [] 0 0 := Stand.of_body Bd
  have e0 : s₁.heap = h0 := by rw [← hh, Bd.state]; rfl
  have N0 := Fr.nil n0
  show own_Ends pP eE below (own_Got sS (Q_own_longValue Z a x h0 n0) ({ frames := 0, cells := 0, slots := 0, locals := 0 } : Room).cells ({ frames := 0, cells := 0, slots := 0, locals := 0 } : Room).slots) (s₁.setTop (entryFrame mM #[(.ref a)] 1))
  rw [own_ef_own_longValue mM a]
  refine own_go (fun _ k => XS.aloadN X0.here hx rfl (hb hby own_d11_0) rfl rfl k) ?_
  show own_Ends _ _ _ _ (s₁.setTop (mkF mM 1 #[.val (.ref a)] [(.ref a)]))
  obtain ⟨T1, X1, e1, st1⟩ := getF X0 hx hZ hown (host := "") (Or.inl (hw _ (List.mem_of_getElem? (i := 65) rfl))) Via.refl e0 F (g := (mkF mM 1 #[.val (.ref a)] [(.ref a)])) rfl rfl (hb hby own_d11_1)
  refine own_go st1 ?_
  show own_Ends _ _ _ _ (T1.setTop (mkF mM 4 #[.val (.ref a)] [(.long x)]))
  exact own_retJ X1 hx (BodyLoose.notSynchronized Bd) Bd.returns (hb hby own_d11_4) (by decide) (by decide) (by rw [e1]; exact ⟨rfl, N0, rfl⟩)
theorem own_pd0 : parseMethodDescriptor "()V" = some ⟨[], none⟩ := by decide +kernel
theorem own_d13_0 : decode jdk_35_method_26_code 0 = .ok (.aload_n 0, 1) := by decide +kernel
theorem own_d13_1 : decode jdk_35_method_26_code 1 = .ok (.invokespecial 270, 3) := by decide +kernel
theorem own_d13_4 : decode jdk_35_method_26_code 4 = .ok (.aload_n 0, 1) := by decide +kernel
theorem own_d13_5 : decode jdk_35_method_26_code 5 = .ok (.lload_n 1, 1) := by decide +kernel
theorem own_d13_6 : decode jdk_35_method_26_code 6 = .ok (.putfield 273, 3) := by decide +kernel
theorem own_d13_9 : decode jdk_35_method_26_code 9 = .ok (.return_, 1) := by decide +kernel
theorem own_ef_own_longinit (m : MethodId) (x0 : Addr) (x1 : Int64) : entryFrame m #[(.ref x0), (.long x1)] 3 = mkF m 0 #[.val (.ref x0), .val (.long x1), .second] [] := by first | (simp [entryFrame, mkF, argsToLocals, Value.category]; done) | rfl
def Q_own_longinit (Z : State) (a : Addr) (x : Int64) (h0 : Heap) (n0 : Nat) (v : Option Value) (h : Heap) (L : List Loc) : Prop := v = none ∧ Fr n0 L ∧ Keep h0 h [a] ∧ Exa Z h a "java/lang/Long" ∧ Fld Z h a "java/lang/Long" "value" "J" (.long x)
set_option maxRecDepth 65536 in
set_option maxHeartbeats 40000000 in
theorem own_longinit (l : Launch) (Z : State) (a0 : Array Value) (hw : ∀ d ∈ tables_1, d.before a0 Z = true) (ws : List Jvm.Cond) (a : Addr) (x : Int64) (h0 : Heap) (n0 : Nat) (O0 : Old Z n0 h0) (g_a : n0 ≤ a) (E : Exa Z h0 a "java/lang/Long") (F : Fld Z h0 a "java/lang/Long" "value" "J" (.long (0 : Int64))) :
    MetFree l (⟨"java/lang/Long", "<init>", "(J)V"⟩ : MethodName) (head1 (Jvm.Cond.code (⟨"java/lang/Long", "<init>", "(J)V"⟩ : MethodName) jdk_35_method_26_code 3 none :: ws) ({ frames := 2, cells := 0, slots := 0, locals := 24 } : Room)) (fun args_ U => args_ = #[(.ref a), (.long x)] ∧ Z.Warmed39 U.vm ∧ U.heap = h0) (fun _ _ _ _ _ => True) (fun _ U o U' => ∃ v L, o = .returned v ∧ Q_own_longinit Z a x h0 n0 v U'.heap L ∧ FrameEnd U o U' L ({ frames := 2, cells := 0, slots := 0, locals := 24 } : Room).cells ({ frames := 2, cells := 0, slots := 0, locals := 24 } : Room).slots) := by
  refine MetFree.of_bodySF (plainFor_of_name own_pn_java_lang_Long) hisR ?_
  intro pP eE sS mM args below meth cC s₁ Bd hml0 hP hK
  obtain ⟨rfl, hZ, hh⟩ := hP
  have hx := Bd.exec
  have hby := Bd.bytes
  have hml : cC.maxLocals = 3 := hml0
  have hown : sS.vm.findClass "java/lang/Long" = some mM.cls := findClass_of_methodNamed Bd.named
  have hnm := (name_of_methodNamed Bd.named Bd.method).1
  have X0 : Stand pP l eE ({ frames := 2, cells := 0, slots := 0, locals := 24 } : Room) sS mM #[(.ref a), (.long x)] below meth cC s₁ [] 0 0 := Stand.of_body Bd
  have e0 : s₁.heap = h0 := by rw [← hh, Bd.state]; rfl
  have N0 := Fr.nil n0
  show own_Ends pP eE below (own_Got sS (Q_own_longinit Z a x h0 n0) ({ frames := 2, cells := 0, slots := 0, locals := 24 } : Room).cells ({ frames := 2, cells := 0, slots := 0, locals := 24 } : Room).slots) (s₁.setTop (entryFrame mM #[(.ref a), (.long x)] 3))
  rw [own_ef_own_longinit mM a x]
  refine own_go (fun _ k => XS.aloadN X0.here hx rfl (hb hby own_d13_0) rfl rfl k) ?_
  show own_Ends _ _ _ _ (s₁.setTop (mkF mM 1 #[.val (.ref a), .val (.long x), .second] [(.ref a)]))
  obtain ⟨_, _, ⟨T1, Lz1, kz1, nz1⟩, -, X1, ⟨Lc1, hQ1, l1, y1, z1⟩, st1⟩ := X0.specialBack hx (y := (⟨"java/lang/Number", "<init>", "()V"⟩ : MethodName)) rfl hown (mvT hZ (hw _ (List.mem_of_getElem? (i := 77) rfl))) (mvT hZ (hw _ (List.mem_of_getElem? (i := 78) rfl))) (mvT hZ (hw _ (List.mem_of_getElem? (i := 82) rfl))) (by decide) (backOf (W := 0) (own_numinit l Z a0 hw [] a h0 n0 O0) hZ (hw _ (List.mem_of_getElem? (i := 82) rfl)) (hw _ (List.mem_of_getElem? (i := 81) rfl)) (by decide) (by decide)) (g := (mkF mM 1 #[.val (.ref a), .val (.long x), .second] [(.ref a)])) rfl (by rw [hml]; rfl) (Steps.refl _) (a := a) (argsL := []) (rest := []) (lenOf own_pd0 rfl) rfl (by show 2 * 0 + _ ≤ _; exact Nat.le_of_eq rfl) (hb hby own_d13_1) (fun _ _ => ⟨rfl, e0, (by decide : 0 + 0 ≤ _), (by decide : 0 + 0 ≤ _)⟩)
  dsimp only [Pt.U, Pt.locs, Pt.cells, Pt.slots] at X1 l1 y1 z1 st1 hQ1
  obtain ⟨rfl, Nq1, e1⟩ := hQ1
  have N1 := Fr.app N0 Nq1
  obtain ⟨Lw1, Nw1, Xw1⟩ := own_pack (k' := 0) (n' := 0) X1 l1 y1 z1 N1
  clear X1
  refine own_tr st1 ?_
  show own_Ends _ _ _ _ (T1.setTop (mkF mM 4 #[.val (.ref a), .val (.long x), .second] []))
  refine own_go (fun _ k => XS.aloadN Xw1.here hx rfl (hb hby own_d13_4) rfl rfl k) ?_
  show own_Ends _ _ _ _ (T1.setTop (mkF mM 5 #[.val (.ref a), .val (.long x), .second] [(.ref a)]))
  refine own_go (fun _ k => XS.lloadN Xw1.here hx rfl (hb hby own_d13_5) rfl k) ?_
  show own_Ends _ _ _ _ (T1.setTop (mkF mM 6 #[.val (.ref a), .val (.long x), .second] [(.long x), (.ref a)]))
  obtain ⟨T2, h2, X2, e2, W2, st2⟩ := putF Xw1 hx hZ hown (host := "") (Or.inl (hw _ (List.mem_of_getElem? (i := 65) rfl))) Via.refl e1 F E (Or.inr ⟨(hw _ (List.mem_of_getElem? (i := 66) rfl)), rfl, hnm⟩) (hw _ (List.mem_of_getElem? (i := 72) rfl)) (ty := .long) (by decide) rfl rfl (g := (mkF mM 6 #[.val (.ref a), .val (.long x), .second] [(.long x), (.ref a)])) rfl rfl (hb hby own_d13_6)
  have Fw2 := F.same W2
  have O2 := O0.wr W2 g_a
  have K2 := (Keep.refl h0 [a]).wr W2 (Or.inl (List.mem_of_getElem? (i := 0) rfl))
  have N2 := Fr.snoc X2 Nw1 g_a
  refine own_go st2 ?_
  show own_Ends _ _ _ _ (T2.setTop (mkF mM 9 #[.val (.ref a), .val (.long x), .second] []))
  exact own_retV X2 hx (BodyLoose.notSynchronized Bd) (st := []) Bd.returns (hb hby own_d13_9) (by decide) (by decide) (by rw [e2]; exact ⟨rfl, N2, K2, (E.wr W2), Fw2⟩)
theorem own_pd1 : parseMethodDescriptor "(J)V" = some ⟨[.long], none⟩ := by decide +kernel
theorem own_d10_0 : decode jdk_35_method_24_code 0 = .ok (.sipush 128, 3) := by decide +kernel
theorem own_d10_3 : decode jdk_35_method_24_code 3 = .ok (.istore_n 2, 1) := by decide +kernel
theorem own_d10_4 : decode jdk_35_method_24_code 4 = .ok (.lload_n 0, 1) := by decide +kernel
theorem own_d10_5 : decode jdk_35_method_24_code 5 = .ok (.ldc2_w 230, 3) := by decide +kernel
theorem own_d10_8 : decode jdk_35_method_24_code 8 = .ok (.lcmp, 1) := by decide +kernel
theorem own_d10_9 : decode jdk_35_method_24_code 9 = .ok (.ifCond .lt 22, 3) := by decide +kernel
theorem own_d10_12 : decode jdk_35_method_24_code 12 = .ok (.lload_n 0, 1) := by decide +kernel
theorem own_d10_13 : decode jdk_35_method_24_code 13 = .ok (.ldc2_w 232, 3) := by decide +kernel
theorem own_d10_16 : decode jdk_35_method_24_code 16 = .ok (.lcmp, 1) := by decide +kernel
theorem own_d10_17 : decode jdk_35_method_24_code 17 = .ok (.ifCond .gt 14, 3) := by decide +kernel
theorem own_d10_20 : decode jdk_35_method_24_code 20 = .ok (.getstatic 234, 3) := by decide +kernel
theorem own_d10_23 : decode jdk_35_method_24_code 23 = .ok (.lload_n 0, 1) := by decide +kernel
theorem own_d10_24 : decode jdk_35_method_24_code 24 = .ok (.l2i, 1) := by decide +kernel
theorem own_d10_25 : decode jdk_35_method_24_code 25 = .ok (.sipush 128, 3) := by decide +kernel
theorem own_d10_28 : decode jdk_35_method_24_code 28 = .ok (.iadd, 1) := by decide +kernel
theorem own_d10_29 : decode jdk_35_method_24_code 29 = .ok (.aaload, 1) := by decide +kernel
theorem own_d10_30 : decode jdk_35_method_24_code 30 = .ok (.areturn, 1) := by decide +kernel
theorem own_d10_31 : decode jdk_35_method_24_code 31 = .ok (.new 1, 3) := by decide +kernel
theorem own_d10_34 : decode jdk_35_method_24_code 34 = .ok (.dup, 1) := by decide +kernel
theorem own_d10_35 : decode jdk_35_method_24_code 35 = .ok (.lload_n 0, 1) := by decide +kernel
theorem own_d10_36 : decode jdk_35_method_24_code 36 = .ok (.invokespecial 240, 3) := by decide +kernel
theorem own_d10_39 : decode jdk_35_method_24_code 39 = .ok (.areturn, 1) := by decide +kernel
theorem own_ef_own_valueOf (m : MethodId) (x0 : Int64) : entryFrame m #[(.long x0)] 3 = mkF m 0 #[.val (.long x0), .second, .unset] [] := by first | (simp [entryFrame, mkF, argsToLocals, Value.category]; done) | rfl
def Q_own_valueOf (Z : State) (p : Int64) (cc : Addr) (cl : Cell) (h0 : Heap) (n0 : Nat) (v : Option Value) (h : Heap) (L : List Loc) : Prop := ∃ b : Addr, v = some (.ref b) ∧ Fr n0 L ∧ Keep h0 h [] ∧ Exa Z h b "java/lang/Long" ∧ Fld Z h b "java/lang/Long" "value" "J" (.long p)
set_option maxRecDepth 65536 in
set_option maxHeartbeats 40000000 in
theorem own_valueOf (l : Launch) (Z : State) (a0 : Array Value) (hw : ∀ d ∈ tables_1, d.before a0 Z = true) (ws : List Jvm.Cond) (p : Int64) (cc : Addr) (cl : Cell) (h0 : Heap) (n0 : Nat) (O0 : Old Z n0 h0) (S_cache : Sta Z Z.heap "java/lang/Long$LongCache" "cache" "[Ljava/lang/Long;" (.ref cc)) (hcc : Arr Z Z.heap cc cl (.object "java/lang/Long") ∧ cl.slots.size = (256 : Int32).toNatClampNeg ∧ ∀ p : Int64, ¬ p < (-128 : Int64) → ¬ (127 : Int64) < p → ∃ x : Addr, cl.slots[((p.toInt32) + (128 : Int32)).toNatClampNeg]? = some (.ref x) ∧ Exa Z Z.heap x "java/lang/Long" ∧ Fld Z Z.heap x "java/lang/Long" "value" "J" (.long p)) :
    MetFree l (⟨"java/lang/Long", "valueOf", "(J)Ljava/lang/Long;"⟩ : MethodName) (head1 (Jvm.Cond.code (⟨"java/lang/Long", "valueOf", "(J)Ljava/lang/Long;"⟩ : MethodName) jdk_35_method_24_code 3 (some (.object "java/lang/Long")) :: ws) ({ frames := 3, cells := 1, slots := 1, locals := 39 } : Room)) (fun args_ U => args_ = #[(.long p)] ∧ Z.Warmed39 U.vm ∧ U.heap = h0) (fun _ _ _ _ _ => True) (fun _ U o U' => ∃ v L, o = .returned v ∧ Q_own_valueOf Z p cc cl h0 n0 v U'.heap L ∧ FrameEnd U o U' L ({ frames := 3, cells := 1, slots := 1, locals := 39 } : Room).cells ({ frames := 3, cells := 1, slots := 1, locals := 39 } : Room).slots) := by
  refine MetFree.of_bodySF (plainFor_of_name own_pn_java_lang_Long) hisR ?_
  intro pP eE sS mM args below meth cC s₁ Bd hml0 hP hK
  obtain ⟨rfl, hZ, hh⟩ := hP
  have hx := Bd.exec
  have hby := Bd.bytes
  have hml : cC.maxLocals = 3 := hml0
  have hown : sS.vm.findClass "java/lang/Long" = some mM.cls := findClass_of_methodNamed Bd.named
  have hnm := (name_of_methodNamed Bd.named Bd.method).1
  have X0 : Stand pP l eE ({ frames := 3, cells := 1, slots := 1, locals := 39 } : Room) sS mM #[(.long p)] below meth cC s₁ [] 0 0 := Stand.of_body Bd
  have e0 : s₁.heap = h0 := by rw [← hh, Bd.state]; rfl
  have N0 := Fr.nil n0
  show own_Ends pP eE below (own_Got sS (Q_own_valueOf Z p cc cl h0 n0) ({ frames := 3, cells := 1, slots := 1, locals := 39 } : Room).cells ({ frames := 3, cells := 1, slots := 1, locals := 39 } : Room).slots) (s₁.setTop (entryFrame mM #[(.long p)] 3))
  rw [own_ef_own_valueOf mM p]
  refine own_go (fun _ k => XS.sipush X0.here hx rfl (hb hby own_d10_0) k) ?_
  show own_Ends _ _ _ _ (s₁.setTop (mkF mM 3 #[.val (.long p), .second, .unset] [(.int (128 : Int32))]))
  refine own_go (fun _ k => XS.istoreN X0.here hx rfl (hb hby own_d10_3) rfl (l' := #[.val (.long p), .second, .val (.int (128 : Int32))]) rfl k) ?_
  show own_Ends _ _ _ _ (s₁.setTop (mkF mM 4 #[.val (.long p), .second, .val (.int (128 : Int32))] []))
  refine own_go (fun _ k => XS.lloadN X0.here hx rfl (hb hby own_d10_4) rfl k) ?_
  show own_Ends _ _ _ _ (s₁.setTop (mkF mM 5 #[.val (.long p), .second, .val (.int (128 : Int32))] [(.long p)]))
  refine own_go (X0.ldc2Long hx hown (mvT hZ (hw _ (List.mem_of_getElem? (i := 56) rfl))) (g := (mkF mM 5 #[.val (.long p), .second, .val (.int (128 : Int32))] [(.long p)])) rfl (hb hby own_d10_5)) ?_
  show own_Ends _ _ _ _ (s₁.setTop (mkF mM 8 #[.val (.long p), .second, .val (.int (128 : Int32))] [(.long (-128 : Int64)), (.long p)]))
  refine own_go (fun _ k => XS.lcmp X0.here hx rfl (hb hby own_d10_8) rfl k) ?_
  show own_Ends _ _ _ _ (s₁.setTop (mkF mM 9 #[.val (.long p), .second, .val (.int (128 : Int32))] [(.int (lcmpW p (-128 : Int64)))]))
  by_cases hc9_0 : p < (-128 : Int64)
  · refine own_go (fun _ k => XS.ifYes X0.here hx rfl (pc0 := 9) (pc' := 31) rfl (hb hby own_d10_9) rfl ((if0 _ _).trans (tlt ((lw_lt p (-128 : Int64)).mpr hc9_0)).1) (by decide) (by decide) k) ?_
    show own_Ends _ _ _ _ (s₁.setTop (mkF mM 31 #[.val (.long p), .second, .val (.int (128 : Int32))] []))
    obtain ⟨T2, h2, X2, e2, E2, A2, D2, -, st2⟩ := newO X0 hx hZ hown (hw _ (List.mem_of_getElem? (i := 71) rfl)) (hw _ (List.mem_of_getElem? (i := 72) rfl)) (hw _ (List.mem_of_getElem? (i := 54) rfl)) e0 (g := (mkF mM 31 #[.val (.long p), .second, .val (.int (128 : Int32))] [])) rfl (hb hby own_d10_31) (by decide) (by decide)
    obtain ⟨b2, g2⟩ : ∃ z, z = h0.size := ⟨_, rfl⟩
    rw [← g2] at A2 D2 st2
    have O2 := O0.ext E2
    have g_b2 : n0 ≤ b2 := by rw [g2, ← O0.1]; exact O0.2.1
    have sz_b2 : h0.size ≤ b2 := Nat.le_trans (Keep.refl h0 []).1 (Nat.le_of_eq g2.symm)
    have K2 := (Keep.refl h0 []).ext E2
    have E_b2 : Exa Z h2 b2 "java/lang/Long" := A2
    have F_value_b2 : Fld Z h2 b2 "java/lang/Long" "value" "J" (.long (0 : Int64)) := D2 (Or.inr (hw _ (List.mem_of_getElem? (i := 66) rfl))) (ty := .long) (by decide)
    refine own_go st2 ?_
    show own_Ends _ _ _ _ (T2.setTop (mkF mM 34 #[.val (.long p), .second, .val (.int (128 : Int32))] [(.ref b2)]))
    refine own_go (fun _ k => XS.dup X2.here hx rfl (hb hby own_d10_34) rfl rfl k) ?_
    show own_Ends _ _ _ _ (T2.setTop (mkF mM 35 #[.val (.long p), .second, .val (.int (128 : Int32))] [(.ref b2), (.ref b2)]))
    refine own_go (fun _ k => XS.lloadN X2.here hx rfl (hb hby own_d10_35) rfl k) ?_
    show own_Ends _ _ _ _ (T2.setTop (mkF mM 36 #[.val (.long p), .second, .val (.int (128 : Int32))] [(.long p), (.ref b2), (.ref b2)]))
    obtain ⟨_, _, ⟨T3, Lz3, kz3, nz3⟩, -, X3, ⟨Lc3, hQ3, l3, y3, z3⟩, st3⟩ := X2.specialBack hx (y := (⟨"java/lang/Long", "<init>", "(J)V"⟩ : MethodName)) rfl hown (mvT hZ (hw _ (List.mem_of_getElem? (i := 73) rfl))) (mvT hZ (hw _ (List.mem_of_getElem? (i := 74) rfl))) (mvT hZ (hw _ (List.mem_of_getElem? (i := 76) rfl))) (by decide) (backOf (W := 1) (own_longinit l Z a0 hw [] b2 p h2 n0 O2 g_b2 E_b2 F_value_b2) hZ (hw _ (List.mem_of_getElem? (i := 76) rfl)) (hw _ (List.mem_of_getElem? (i := 54) rfl)) (by decide) (by decide)) (g := (mkF mM 36 #[.val (.long p), .second, .val (.int (128 : Int32))] [(.long p), (.ref b2), (.ref b2)])) rfl (by rw [hml]; rfl) (Steps.refl _) (a := b2) (argsL := [(.long p)]) (rest := [(.ref b2)]) (lenOf own_pd1 rfl) rfl (by show 2 * 0 + _ ≤ _; exact Nat.le_of_eq rfl) (hb hby own_d10_36) (fun _ _ => ⟨rfl, e2, (by decide : 1 + 0 ≤ _), (by decide : 1 + 0 ≤ _)⟩)
    dsimp only [Pt.U, Pt.locs, Pt.cells, Pt.slots] at X3 l3 y3 z3 st3 hQ3
    obtain ⟨rfl, Nq3, K3, E_b2_3, F_b2_3⟩ := hQ3
    have N3 := Fr.app N0 Nq3
    have O3 := O2.keep K3 (allS g_b2 all0)
    have Kk3 := K2.trans K3 (allS (Or.inr sz_b2) (all0))
    obtain ⟨Lw3, Nw3, Xw3⟩ := own_pack (k' := 1) (n' := 1) X3 l3 y3 z3 N3
    clear X3
    refine own_tr st3 ?_
    show own_Ends _ _ _ _ (T3.setTop (mkF mM 39 #[.val (.long p), .second, .val (.int (128 : Int32))] [(.ref b2)]))
    exact own_retR Xw3 hx (BodyLoose.notSynchronized Bd) Bd.returns rfl rfl (hb hby own_d10_39) (by decide) (by decide) (⟨b2, rfl, Nw3, Kk3, E_b2_3, F_b2_3⟩)
  · refine own_go (fun _ k => XS.ifNo X0.here hx rfl (hb hby own_d10_9) rfl ((if0 _ _).trans (flt (mt (lw_lt p (-128 : Int64)).mp hc9_0)).1) k) ?_
    show own_Ends _ _ _ _ (s₁.setTop (mkF mM 12 #[.val (.long p), .second, .val (.int (128 : Int32))] []))
    refine own_go (fun _ k => XS.lloadN X0.here hx rfl (hb hby own_d10_12) rfl k) ?_
    show own_Ends _ _ _ _ (s₁.setTop (mkF mM 13 #[.val (.long p), .second, .val (.int (128 : Int32))] [(.long p)]))
    refine own_go (X0.ldc2Long hx hown (mvT hZ (hw _ (List.mem_of_getElem? (i := 57) rfl))) (g := (mkF mM 13 #[.val (.long p), .second, .val (.int (128 : Int32))] [(.long p)])) rfl (hb hby own_d10_13)) ?_
    show own_Ends _ _ _ _ (s₁.setTop (mkF mM 16 #[.val (.long p), .second, .val (.int (128 : Int32))] [(.long (127 : Int64)), (.long p)]))
    refine own_go (fun _ k => XS.lcmp X0.here hx rfl (hb hby own_d10_16) rfl k) ?_
    show own_Ends _ _ _ _ (s₁.setTop (mkF mM 17 #[.val (.long p), .second, .val (.int (128 : Int32))] [(.int (lcmpW p (127 : Int64)))]))
    by_cases hc17_3 : (127 : Int64) < p
    · refine own_go (fun _ k => XS.ifYes X0.here hx rfl (pc0 := 17) (pc' := 31) rfl (hb hby own_d10_17) rfl ((if0 _ _).trans (tlt ((lw_gt p (127 : Int64)).mpr hc17_3)).2.2.1) (by decide) (by decide) k) ?_
      show own_Ends _ _ _ _ (s₁.setTop (mkF mM 31 #[.val (.long p), .second, .val (.int (128 : Int32))] []))
      obtain ⟨T5, h5, X5, e5, E5, A5, D5, -, st5⟩ := newO X0 hx hZ hown (hw _ (List.mem_of_getElem? (i := 71) rfl)) (hw _ (List.mem_of_getElem? (i := 72) rfl)) (hw _ (List.mem_of_getElem? (i := 54) rfl)) e0 (g := (mkF mM 31 #[.val (.long p), .second, .val (.int (128 : Int32))] [])) rfl (hb hby own_d10_31) (by decide) (by decide)
      obtain ⟨b5, g5⟩ : ∃ z, z = h0.size := ⟨_, rfl⟩
      rw [← g5] at A5 D5 st5
      have O5 := O0.ext E5
      have g_b5 : n0 ≤ b5 := by rw [g5, ← O0.1]; exact O0.2.1
      have sz_b5 : h0.size ≤ b5 := Nat.le_trans (Keep.refl h0 []).1 (Nat.le_of_eq g5.symm)
      have K5 := (Keep.refl h0 []).ext E5
      have E_b5 : Exa Z h5 b5 "java/lang/Long" := A5
      have F_value_b5 : Fld Z h5 b5 "java/lang/Long" "value" "J" (.long (0 : Int64)) := D5 (Or.inr (hw _ (List.mem_of_getElem? (i := 66) rfl))) (ty := .long) (by decide)
      refine own_go st5 ?_
      show own_Ends _ _ _ _ (T5.setTop (mkF mM 34 #[.val (.long p), .second, .val (.int (128 : Int32))] [(.ref b5)]))
      refine own_go (fun _ k => XS.dup X5.here hx rfl (hb hby own_d10_34) rfl rfl k) ?_
      show own_Ends _ _ _ _ (T5.setTop (mkF mM 35 #[.val (.long p), .second, .val (.int (128 : Int32))] [(.ref b5), (.ref b5)]))
      refine own_go (fun _ k => XS.lloadN X5.here hx rfl (hb hby own_d10_35) rfl k) ?_
      show own_Ends _ _ _ _ (T5.setTop (mkF mM 36 #[.val (.long p), .second, .val (.int (128 : Int32))] [(.long p), (.ref b5), (.ref b5)]))
      obtain ⟨_, _, ⟨T6, Lz6, kz6, nz6⟩, -, X6, ⟨Lc6, hQ6, l6, y6, z6⟩, st6⟩ := X5.specialBack hx (y := (⟨"java/lang/Long", "<init>", "(J)V"⟩ : MethodName)) rfl hown (mvT hZ (hw _ (List.mem_of_getElem? (i := 73) rfl))) (mvT hZ (hw _ (List.mem_of_getElem? (i := 74) rfl))) (mvT hZ (hw _ (List.mem_of_getElem? (i := 76) rfl))) (by decide) (backOf (W := 1) (own_longinit l Z a0 hw [] b5 p h5 n0 O5 g_b5 E_b5 F_value_b5) hZ (hw _ (List.mem_of_getElem? (i := 76) rfl)) (hw _ (List.mem_of_getElem? (i := 54) rfl)) (by decide) (by decide)) (g := (mkF mM 36 #[.val (.long p), .second, .val (.int (128 : Int32))] [(.long p), (.ref b5), (.ref b5)])) rfl (by rw [hml]; rfl) (Steps.refl _) (a := b5) (argsL := [(.long p)]) (rest := [(.ref b5)]) (lenOf own_pd1 rfl) rfl (by show 2 * 0 + _ ≤ _; exact Nat.le_of_eq rfl) (hb hby own_d10_36) (fun _ _ => ⟨rfl, e5, (by decide : 1 + 0 ≤ _), (by decide : 1 + 0 ≤ _)⟩)
      dsimp only [Pt.U, Pt.locs, Pt.cells, Pt.slots] at X6 l6 y6 z6 st6 hQ6
      obtain ⟨rfl, Nq6, K6, E_b5_6, F_b5_6⟩ := hQ6
      have N6 := Fr.app N0 Nq6
      have O6 := O5.keep K6 (allS g_b5 all0)
      have Kk6 := K5.trans K6 (allS (Or.inr sz_b5) (all0))
      obtain ⟨Lw6, Nw6, Xw6⟩ := own_pack (k' := 1) (n' := 1) X6 l6 y6 z6 N6
      clear X6
      refine own_tr st6 ?_
      show own_Ends _ _ _ _ (T6.setTop (mkF mM 39 #[.val (.long p), .second, .val (.int (128 : Int32))] [(.ref b5)]))
      exact own_retR Xw6 hx (BodyLoose.notSynchronized Bd) Bd.returns rfl rfl (hb hby own_d10_39) (by decide) (by decide) (⟨b5, rfl, Nw6, Kk6, E_b5_6, F_b5_6⟩)
    · refine own_go (fun _ k => XS.ifNo X0.here hx rfl (hb hby own_d10_17) rfl ((if0 _ _).trans (flt (mt (lw_gt p (127 : Int64)).mp hc17_3)).2.2.1) k) ?_
      show own_Ends _ _ _ _ (s₁.setTop (mkF mM 20 #[.val (.long p), .second, .val (.int (128 : Int32))] []))
      obtain ⟨T7, X7, e7, st7⟩ := getS2 X0 hx hZ hown (host := "") (Or.inl (hw _ (List.mem_of_getElem? (i := 58) rfl))) Via.refl e0 (S_cache.ext O0.2) (g := (mkF mM 20 #[.val (.long p), .second, .val (.int (128 : Int32))] [])) rfl (hb hby own_d10_20)
      refine own_go st7 ?_
      show own_Ends _ _ _ _ (T7.setTop (mkF mM 23 #[.val (.long p), .second, .val (.int (128 : Int32))] [(.ref cc)]))
      refine own_go (fun _ k => XS.lloadN X7.here hx rfl (hb hby own_d10_23) rfl k) ?_
      show own_Ends _ _ _ _ (T7.setTop (mkF mM 24 #[.val (.long p), .second, .val (.int (128 : Int32))] [(.long p), (.ref cc)]))
      refine own_go (fun _ k => XS.l2i X7.here hx rfl (hb hby own_d10_24) rfl k) ?_
      show own_Ends _ _ _ _ (T7.setTop (mkF mM 25 #[.val (.long p), .second, .val (.int (128 : Int32))] [(.int (p.toInt32)), (.ref cc)]))
      refine own_go (fun _ k => XS.sipush X7.here hx rfl (hb hby own_d10_25) k) ?_
      show own_Ends _ _ _ _ (T7.setTop (mkF mM 28 #[.val (.long p), .second, .val (.int (128 : Int32))] [(.int (128 : Int32)), (.int (p.toInt32)), (.ref cc)]))
      refine own_go (fun _ k => XS.iadd X7.here hx rfl (hb hby own_d10_28) rfl k) ?_
      show own_Ends _ _ _ _ (T7.setTop (mkF mM 29 #[.val (.long p), .second, .val (.int (128 : Int32))] [(.int ((p.toInt32) + (128 : Int32))), (.ref cc)]))
      obtain ⟨Aa, hsz, hall⟩ := id hcc
      obtain ⟨x, hat, E_x, F_x⟩ := hall p hc9_0 hc17_3
      have hin := inb_of hsz ⟨(own_place p hc9_0 hc17_3).1, (own_place p hc9_0 hc17_3).2.1⟩
      have Ab := Aa.ext O0.2
      refine own_go (X7.aaload hx (j := ((p.toInt32) + (128 : Int32))) (v := (.ref x)) (by rw [e7]; exact Ab.1) (State.isArrayOf_alike hZ.alike Ab.2.1) rfl Ab.2.2 hin hat (g := (mkF mM 29 #[.val (.long p), .second, .val (.int (128 : Int32))] [(.int ((p.toInt32) + (128 : Int32))), (.ref cc)])) rfl rfl (hb hby own_d10_29)) ?_
      show own_Ends _ _ _ _ (T7.setTop (mkF mM 30 #[.val (.long p), .second, .val (.int (128 : Int32))] [(.ref x)]))
      exact own_retR X7 hx (BodyLoose.notSynchronized Bd) Bd.returns rfl rfl (hb hby own_d10_30) (by decide) (by decide) (by rw [e7]; exact ⟨x, rfl, N0, (Keep.refl h0 []), (E_x.ext O0.2), (F_x.ext O0.2)⟩)
theorem own_d9_0 : decode jdk_41_method_11_code 0 = .ok (.iload_n 0, 1) := by decide +kernel
theorem own_d9_1 : decode jdk_41_method_11_code 1 = .ok (.ifCond .lt 8, 3) := by decide +kernel
theorem own_d9_4 : decode jdk_41_method_11_code 4 = .ok (.iload_n 0, 1) := by decide +kernel
theorem own_d9_5 : decode jdk_41_method_11_code 5 = .ok (.iload_n 1, 1) := by decide +kernel
theorem own_d9_6 : decode jdk_41_method_11_code 6 = .ok (.if_icmp .lt 10, 3) := by decide +kernel
theorem own_d9_16 : decode jdk_41_method_11_code 16 = .ok (.iload_n 0, 1) := by decide +kernel
theorem own_d9_17 : decode jdk_41_method_11_code 17 = .ok (.ireturn, 1) := by decide +kernel
theorem own_ef_own_preck (m : MethodId) (x0 : Int32) (x1 : Int32) : entryFrame m #[(.int x0), (.int x1), .null] 3 = mkF m 0 #[.val (.int x0), .val (.int x1), .val .null] [] := by first | (simp [entryFrame, mkF, argsToLocals, Value.category]; done) | rfl
def Q_own_preck (Z : State) (i : Int32) (n : Int32) (h0 : Heap) (n0 : Nat) (v : Option Value) (h : Heap) (L : List Loc) : Prop := v = some (.int i) ∧ Fr n0 L ∧ h = h0
theorem own_pn_jdk_internal_util_Preconditions : plainName "jdk/internal/util/Preconditions" = true := by first | (simp [plainName, overriddenIn]; done) | decide +kernel
set_option maxRecDepth 65536 in
set_option maxHeartbeats 40000000 in
theorem own_preck (l : Launch) (Z : State) (a0 : Array Value) (hw : ∀ d ∈ tables_1, d.before a0 Z = true) (ws : List Jvm.Cond) (i : Int32) (n : Int32) (h0 : Heap) (n0 : Nat) (O0 : Old Z n0 h0) (hi0 : ¬ i < (0 : Int32)) (hi1 : i < n) :
    MetFree l (⟨"jdk/internal/util/Preconditions", "checkIndex", "(IILjava/util/function/BiFunction;)I"⟩ : MethodName) (head1 (Jvm.Cond.code (⟨"jdk/internal/util/Preconditions", "checkIndex", "(IILjava/util/function/BiFunction;)I"⟩ : MethodName) jdk_41_method_11_code 3 (some .int) :: ws) ({ frames := 0, cells := 0, slots := 0, locals := 0 } : Room)) (fun args_ U => args_ = #[(.int i), (.int n), .null] ∧ Z.Warmed39 U.vm ∧ U.heap = h0) (fun _ _ _ _ _ => True) (fun _ U o U' => ∃ v L, o = .returned v ∧ Q_own_preck Z i n h0 n0 v U'.heap L ∧ FrameEnd U o U' L ({ frames := 0, cells := 0, slots := 0, locals := 0 } : Room).cells ({ frames := 0, cells := 0, slots := 0, locals := 0 } : Room).slots) := by
  refine MetFree.of_bodySF (plainFor_of_name own_pn_jdk_internal_util_Preconditions) hisR ?_
  intro pP eE sS mM args below meth cC s₁ Bd hml0 hP hK
  obtain ⟨rfl, hZ, hh⟩ := hP
  have hx := Bd.exec
  have hby := Bd.bytes
  have hml : cC.maxLocals = 3 := hml0
  have hown : sS.vm.findClass "jdk/internal/util/Preconditions" = some mM.cls := findClass_of_methodNamed Bd.named
  have hnm := (name_of_methodNamed Bd.named Bd.method).1
  have X0 : Stand pP l eE ({ frames := 0, cells := 0, slots := 0, locals := 0 } : Room) sS mM #[(.int i), (.int n), .null] below meth cC s₁ [] 0 0 := Stand.of_body Bd
  have e0 : s₁.heap = h0 := by rw [← hh, Bd.state]; rfl
  have N0 := Fr.nil n0
  show own_Ends pP eE below (own_Got sS (Q_own_preck Z i n h0 n0) ({ frames := 0, cells := 0, slots := 0, locals := 0 } : Room).cells ({ frames := 0, cells := 0, slots := 0, locals := 0 } : Room).slots) (s₁.setTop (entryFrame mM #[(.int i), (.int n), .null] 3))
  rw [own_ef_own_preck mM i n]
  refine own_go (fun _ k => XS.iloadN X0.here hx rfl (hb hby own_d9_0) rfl k) ?_
  show own_Ends _ _ _ _ (s₁.setTop (mkF mM 1 #[.val (.int i), .val (.int n), .val .null] [(.int i)]))
  refine own_go (fun _ k => XS.ifNo X0.here hx rfl (hb hby own_d9_1) rfl ((if0 _ _).trans (flt hi0).1) k) ?_
  show own_Ends _ _ _ _ (s₁.setTop (mkF mM 4 #[.val (.int i), .val (.int n), .val .null] []))
  refine own_go (fun _ k => XS.iloadN X0.here hx rfl (hb hby own_d9_4) rfl k) ?_
  show own_Ends _ _ _ _ (s₁.setTop (mkF mM 5 #[.val (.int i), .val (.int n), .val .null] [(.int i)]))
  refine own_go (fun _ k => XS.iloadN X0.here hx rfl (hb hby own_d9_5) rfl k) ?_
  show own_Ends _ _ _ _ (s₁.setTop (mkF mM 6 #[.val (.int i), .val (.int n), .val .null] [(.int n), (.int i)]))
  refine own_go (fun _ k => XS.icmpYes X0.here hx rfl (pc0 := 6) (pc' := 16) rfl (hb hby own_d9_6) rfl (tlt hi1).1 (by decide) (by decide) k) ?_
  show own_Ends _ _ _ _ (s₁.setTop (mkF mM 16 #[.val (.int i), .val (.int n), .val .null] []))
  refine own_go (fun _ k => XS.iloadN X0.here hx rfl (hb hby own_d9_16) rfl k) ?_
  show own_Ends _ _ _ _ (s₁.setTop (mkF mM 17 #[.val (.int i), .val (.int n), .val .null] [(.int i)]))
  exact own_retI X0 hx (BodyLoose.notSynchronized Bd) Bd.returns (hb hby own_d9_17) (by decide) (by decide) (by rw [e0]; exact ⟨rfl, N0, rfl⟩)
theorem own_pd2 : parseMethodDescriptor "(IILjava/util/function/BiFunction;)I" = some ⟨[.int, .int, (.object "java/util/function/BiFunction")], some .int⟩ := by decide +kernel
theorem own_d8_0 : decode jdk_31_method_17_code 0 = .ok (.iload_n 0, 1) := by decide +kernel
theorem own_d8_1 : decode jdk_31_method_17_code 1 = .ok (.iload_n 1, 1) := by decide +kernel
theorem own_d8_2 : decode jdk_31_method_17_code 2 = .ok (.aconst_null, 1) := by decide +kernel
theorem own_d8_3 : decode jdk_31_method_17_code 3 = .ok (.invokestatic 105, 3) := by decide +kernel
theorem own_d8_6 : decode jdk_31_method_17_code 6 = .ok (.ireturn, 1) := by decide +kernel
theorem own_ef_own_ck (m : MethodId) (x0 : Int32) (x1 : Int32) : entryFrame m #[(.int x0), (.int x1)] 2 = mkF m 0 #[.val (.int x0), .val (.int x1)] [] := by first | (simp [entryFrame, mkF, argsToLocals, Value.category]; done) | rfl
def Q_own_ck (Z : State) (i : Int32) (n : Int32) (h0 : Heap) (n0 : Nat) (v : Option Value) (h : Heap) (L : List Loc) : Prop := v = some (.int i) ∧ Fr n0 L ∧ h = h0
theorem own_pn_java_util_Objects : plainName "java/util/Objects" = true := by first | (simp [plainName, overriddenIn]; done) | decide +kernel
set_option maxRecDepth 65536 in
set_option maxHeartbeats 40000000 in
theorem own_ck (l : Launch) (Z : State) (a0 : Array Value) (hw : ∀ d ∈ tables_1, d.before a0 Z = true) (ws : List Jvm.Cond) (i : Int32) (n : Int32) (h0 : Heap) (n0 : Nat) (O0 : Old Z n0 h0) (hi0 : ¬ i < (0 : Int32)) (hi1 : i < n) :
    MetFree l (⟨"java/util/Objects", "checkIndex", "(II)I"⟩ : MethodName) (head1 (Jvm.Cond.code (⟨"java/util/Objects", "checkIndex", "(II)I"⟩ : MethodName) jdk_31_method_17_code 2 (some .int) :: ws) ({ frames := 1, cells := 0, slots := 0, locals := 14 } : Room)) (fun args_ U => args_ = #[(.int i), (.int n)] ∧ Z.Warmed39 U.vm ∧ U.heap = h0) (fun _ _ _ _ _ => True) (fun _ U o U' => ∃ v L, o = .returned v ∧ Q_own_ck Z i n h0 n0 v U'.heap L ∧ FrameEnd U o U' L ({ frames := 1, cells := 0, slots := 0, locals := 14 } : Room).cells ({ frames := 1, cells := 0, slots := 0, locals := 14 } : Room).slots) := by
  refine MetFree.of_bodySF (plainFor_of_name own_pn_java_util_Objects) hisR ?_
  intro pP eE sS mM args below meth cC s₁ Bd hml0 hP hK
  obtain ⟨rfl, hZ, hh⟩ := hP
  have hx := Bd.exec
  have hby := Bd.bytes
  have hml : cC.maxLocals = 2 := hml0
  have hown : sS.vm.findClass "java/util/Objects" = some mM.cls := findClass_of_methodNamed Bd.named
  have hnm := (name_of_methodNamed Bd.named Bd.method).1
  have X0 : Stand pP l eE ({ frames := 1, cells := 0, slots := 0, locals := 14 } : Room) sS mM #[(.int i), (.int n)] below meth cC s₁ [] 0 0 := Stand.of_body Bd
  have e0 : s₁.heap = h0 := by rw [← hh, Bd.state]; rfl
  have N0 := Fr.nil n0
  show own_Ends pP eE below (own_Got sS (Q_own_ck Z i n h0 n0) ({ frames := 1, cells := 0, slots := 0, locals := 14 } : Room).cells ({ frames := 1, cells := 0, slots := 0, locals := 14 } : Room).slots) (s₁.setTop (entryFrame mM #[(.int i), (.int n)] 2))
  rw [own_ef_own_ck mM i n]
  refine own_go (fun _ k => XS.iloadN X0.here hx rfl (hb hby own_d8_0) rfl k) ?_
  show own_Ends _ _ _ _ (s₁.setTop (mkF mM 1 #[.val (.int i), .val (.int n)] [(.int i)]))
  refine own_go (fun _ k => XS.iloadN X0.here hx rfl (hb hby own_d8_1) rfl k) ?_
  show own_Ends _ _ _ _ (s₁.setTop (mkF mM 2 #[.val (.int i), .val (.int n)] [(.int n), (.int i)]))
  refine own_go (fun _ k => XS.aconstNull X0.here hx rfl (hb hby own_d8_2) k) ?_
  show own_Ends _ _ _ _ (s₁.setTop (mkF mM 3 #[.val (.int i), .val (.int n)] [.null, (.int n), (.int i)]))
  obtain ⟨_, _, ⟨T1, Lz1, kz1, nz1⟩, -, X1, ⟨Lc1, hQ1, l1, y1, z1⟩, st1⟩ := Jvm.LawKit.callS X0 hx (y := (⟨"jdk/internal/util/Preconditions", "checkIndex", "(IILjava/util/function/BiFunction;)I"⟩ : MethodName)) hown (mvT hZ (hw _ (List.mem_of_getElem? (i := 48) rfl))) (mvT hZ (hw _ (List.mem_of_getElem? (i := 49) rfl))) (mvT hZ (hw _ (List.mem_of_getElem? (i := 50) rfl))) (mvT hZ (hw _ (List.mem_of_getElem? (i := 51) rfl))) (by decide) (backOf (W := 0) (own_preck l Z a0 hw [] i n h0 n0 O0 hi0 hi1) hZ (hw _ (List.mem_of_getElem? (i := 51) rfl)) (hw _ (List.mem_of_getElem? (i := 50) rfl)) (by decide) (by decide)) (g := (mkF mM 3 #[.val (.int i), .val (.int n)] [.null, (.int n), (.int i)])) rfl (by rw [hml]; rfl) (argsL := [(.int i), (.int n), .null]) (rest := []) (lenOf own_pd2 rfl) rfl (by show 2 * 0 + _ ≤ _; exact Nat.le_of_eq rfl) (hb hby own_d8_3) (fun _ _ => ⟨rfl, e0, (by decide : 0 + 0 ≤ _), (by decide : 0 + 0 ≤ _)⟩)
  dsimp only [Pt.U, Pt.locs, Pt.cells, Pt.slots] at X1 l1 y1 z1 st1 hQ1
  obtain ⟨rfl, Nq1, e1⟩ := hQ1
  have N1 := Fr.app N0 Nq1
  obtain ⟨Lw1, Nw1, Xw1⟩ := own_pack (k' := 0) (n' := 0) X1 l1 y1 z1 N1
  clear X1
  refine own_go st1 ?_
  show own_Ends _ _ _ _ (T1.setTop (mkF mM 6 #[.val (.int i), .val (.int n)] [(.int i)]))
  exact own_retI Xw1 hx (BodyLoose.notSynchronized Bd) Bd.returns (hb hby own_d8_6) (by decide) (by decide) (by rw [e1]; exact ⟨rfl, Nw1, rfl⟩)
theorem own_d2_0 : decode jdk_39_method_1_code 0 = .ok (.aload_n 0, 1) := by decide +kernel
theorem own_d2_1 : decode jdk_39_method_1_code 1 = .ok (.invokespecial 1, 3) := by decide +kernel
theorem own_d2_4 : decode jdk_39_method_1_code 4 = .ok (.aload_n 0, 1) := by decide +kernel
theorem own_d2_5 : decode jdk_39_method_1_code 5 = .ok (.iconst 0, 1) := by decide +kernel
theorem own_d2_6 : decode jdk_39_method_1_code 6 = .ok (.putfield 7, 3) := by decide +kernel
theorem own_d2_9 : decode jdk_39_method_1_code 9 = .ok (.return_, 1) := by decide +kernel
theorem own_ef_own_alinit (m : MethodId) (x0 : Addr) : entryFrame m #[(.ref x0)] 1 = mkF m 0 #[.val (.ref x0)] [] := by first | (simp [entryFrame, mkF, argsToLocals, Value.category]; done) | rfl
def Q_own_alinit (Z : State) (a : Addr) (h0 : Heap) (n0 : Nat) (v : Option Value) (h : Heap) (L : List Loc) : Prop := v = none ∧ Fr n0 L ∧ Keep h0 h [a] ∧ Exa Z h a "com/example/reckon/reckon/io/LineList" ∧ Fld Z h a "com/example/reckon/reckon/io/LineList" "size" "I" (.int (0 : Int32)) ∧ Fld Z h a "java/util/AbstractList" "modCount" "I" (.int (0 : Int32)) ∧ Fld Z h a "com/example/reckon/reckon/io/LineList" "lines" "[J" .null
theorem own_pn_java_util_AbstractList : plainName "java/util/AbstractList" = true := by first | (simp [plainName, overriddenIn]; done) | decide +kernel
set_option maxRecDepth 65536 in
set_option maxHeartbeats 40000000 in
theorem own_alinit (l : Launch) (Z : State) (a0 : Array Value) (hw : ∀ d ∈ tables_1, d.before a0 Z = true) (ws : List Jvm.Cond) (a : Addr) (h0 : Heap) (n0 : Nat) (O0 : Old Z n0 h0) (g_a : n0 ≤ a) (E : Exa Z h0 a "com/example/reckon/reckon/io/LineList") (F1 : Fld Z h0 a "com/example/reckon/reckon/io/LineList" "size" "I" (.int (0 : Int32))) (F2 : Fld Z h0 a "java/util/AbstractList" "modCount" "I" (.int (0 : Int32))) (F3 : Fld Z h0 a "com/example/reckon/reckon/io/LineList" "lines" "[J" .null) :
    MetFree l (⟨"java/util/AbstractList", "<init>", "()V"⟩ : MethodName) (head1 (Jvm.Cond.code (⟨"java/util/AbstractList", "<init>", "()V"⟩ : MethodName) jdk_39_method_1_code 1 none :: ws) ({ frames := 2, cells := 0, slots := 0, locals := 24 } : Room)) (fun args_ U => args_ = #[(.ref a)] ∧ Z.Warmed39 U.vm ∧ U.heap = h0) (fun _ _ _ _ _ => True) (fun _ U o U' => ∃ v L, o = .returned v ∧ Q_own_alinit Z a h0 n0 v U'.heap L ∧ FrameEnd U o U' L ({ frames := 2, cells := 0, slots := 0, locals := 24 } : Room).cells ({ frames := 2, cells := 0, slots := 0, locals := 24 } : Room).slots) := by
  refine MetFree.of_bodySF (plainFor_of_name own_pn_java_util_AbstractList) hisR ?_
  intro pP eE sS mM args below meth cC s₁ Bd hml0 hP hK
  obtain ⟨rfl, hZ, hh⟩ := hP
  have hx := Bd.exec
  have hby := Bd.bytes
  have hml : cC.maxLocals = 1 := hml0
  have hown : sS.vm.findClass "java/util/AbstractList" = some mM.cls := findClass_of_methodNamed Bd.named
  have hnm := (name_of_methodNamed Bd.named Bd.method).1
  have X0 : Stand pP l eE ({ frames := 2, cells := 0, slots := 0, locals := 24 } : Room) sS mM #[(.ref a)] below meth cC s₁ [] 0 0 := Stand.of_body Bd
  have e0 : s₁.heap = h0 := by rw [← hh, Bd.state]; rfl
  have N0 := Fr.nil n0
  show own_Ends pP eE below (own_Got sS (Q_own_alinit Z a h0 n0) ({ frames := 2, cells := 0, slots := 0, locals := 24 } : Room).cells ({ frames := 2, cells := 0, slots := 0, locals := 24 } : Room).slots) (s₁.setTop (entryFrame mM #[(.ref a)] 1))
  rw [own_ef_own_alinit mM a]
  refine own_go (fun _ k => XS.aloadN X0.here hx rfl (hb hby own_d2_0) rfl rfl k) ?_
  show own_Ends _ _ _ _ (s₁.setTop (mkF mM 1 #[.val (.ref a)] [(.ref a)]))
  obtain ⟨_, _, ⟨T1, Lz1, kz1, nz1⟩, -, X1, ⟨Lc1, hQ1, l1, y1, z1⟩, st1⟩ := X0.specialBack hx (y := (⟨"java/util/AbstractCollection", "<init>", "()V"⟩ : MethodName)) rfl hown (mvT hZ (hw _ (List.mem_of_getElem? (i := 11) rfl))) (mvT hZ (hw _ (List.mem_of_getElem? (i := 12) rfl))) (mvT hZ (hw _ (List.mem_of_getElem? (i := 16) rfl))) (by decide) (backOf (W := 0) (own_acinit l Z a0 hw [] a h0 n0 O0) hZ (hw _ (List.mem_of_getElem? (i := 16) rfl)) (hw _ (List.mem_of_getElem? (i := 15) rfl)) (by decide) (by decide)) (g := (mkF mM 1 #[.val (.ref a)] [(.ref a)])) rfl (by rw [hml]; rfl) (Steps.refl _) (a := a) (argsL := []) (rest := []) (lenOf own_pd0 rfl) rfl (by show 2 * 0 + _ ≤ _; exact Nat.le_of_eq rfl) (hb hby own_d2_1) (fun _ _ => ⟨rfl, e0, (by decide : 0 + 0 ≤ _), (by decide : 0 + 0 ≤ _)⟩)
  dsimp only [Pt.U, Pt.locs, Pt.cells, Pt.slots] at X1 l1 y1 z1 st1 hQ1
  obtain ⟨rfl, Nq1, e1⟩ := hQ1
  have N1 := Fr.app N0 Nq1
  obtain ⟨Lw1, Nw1, Xw1⟩ := own_pack (k' := 0) (n' := 0) X1 l1 y1 z1 N1
  clear X1
  refine own_tr st1 ?_
  show own_Ends _ _ _ _ (T1.setTop (mkF mM 4 #[.val (.ref a)] []))
  refine own_go (fun _ k => XS.aloadN Xw1.here hx rfl (hb hby own_d2_4) rfl rfl k) ?_
  show own_Ends _ _ _ _ (T1.setTop (mkF mM 5 #[.val (.ref a)] [(.ref a)]))
  refine own_go (fun _ k => XS.iconst Xw1.here hx rfl (hb hby own_d2_5) k) ?_
  show own_Ends _ _ _ _ (T1.setTop (mkF mM 6 #[.val (.ref a)] [(.int (0 : Int32)), (.ref a)]))
  obtain ⟨T2, h2, X2, e2, W2, st2⟩ := putF Xw1 hx hZ hown (host := "") (Or.inl (hw _ (List.mem_of_getElem? (i := 20) rfl))) Via.refl e1 F2 E (Or.inl (hw _ (List.mem_of_getElem? (i := 21) rfl))) (hw _ (List.mem_of_getElem? (i := 1) rfl)) (ty := .int) (by decide) rfl rfl (g := (mkF mM 6 #[.val (.ref a)] [(.int (0 : Int32)), (.ref a)])) rfl rfl (hb hby own_d2_6)
  have Fw2 := F2.same W2
  have O2 := O0.wr W2 g_a
  have K2 := (Keep.refl h0 [a]).wr W2 (Or.inl (List.mem_of_getElem? (i := 0) rfl))
  have N2 := Fr.snoc X2 Nw1 g_a
  refine own_go st2 ?_
  show own_Ends _ _ _ _ (T2.setTop (mkF mM 9 #[.val (.ref a)] []))
  exact own_retV X2 hx (BodyLoose.notSynchronized Bd) (st := []) Bd.returns (hb hby own_d2_9) (by decide) (by decide) (by rw [e2]; exact ⟨rfl, N2, K2, (E.wr W2), (F1.other W2 (Or.inr (slot_ne (Or.inl (hw _ (List.mem_of_getElem? (i := 31) rfl))) (Or.inl (hw _ (List.mem_of_getElem? (i := 21) rfl))) (by decide) (t := .int) (t' := .int) (by decide) (by decide)))), Fw2, (F3.other W2 (Or.inr (slot_ne (Or.inl (hw _ (List.mem_of_getElem? (i := 24) rfl))) (Or.inl (hw _ (List.mem_of_getElem? (i := 21) rfl))) (by decide) (t := (.array .long)) (t' := .int) (by decide) (by decide))))⟩)
theorem own_d1_0 : decode prog_67_method_1_code 0 = .ok (.aload_n 0, 1) := by decide +kernel
theorem own_d1_1 : decode prog_67_method_1_code 1 = .ok (.invokespecial 1, 3) := by decide +kernel
theorem own_d1_4 : decode prog_67_method_1_code 4 = .ok (.aload_n 0, 1) := by decide +kernel
theorem own_d1_5 : decode prog_67_method_1_code 5 = .ok (.bipush 16, 2) := by decide +kernel
theorem own_d1_7 : decode prog_67_method_1_code 7 = .ok (.newarray .long, 2) := by decide +kernel
theorem own_d1_9 : decode prog_67_method_1_code 9 = .ok (.putfield 7, 3) := by decide +kernel
theorem own_d1_12 : decode prog_67_method_1_code 12 = .ok (.return_, 1) := by decide +kernel
theorem own_ef_own_llinit (m : MethodId) (x0 : Addr) : entryFrame m #[(.ref x0)] 1 = mkF m 0 #[.val (.ref x0)] [] := by first | (simp [entryFrame, mkF, argsToLocals, Value.category]; done) | rfl
def Q_own_llinit (Z : State) (a : Addr) (h0 : Heap) (n0 : Nat) (v : Option Value) (h : Heap) (L : List Loc) : Prop := v = none ∧ Fr n0 L ∧ Keep h0 h [a] ∧ ∃ (arr : Addr) (kk : ClassId), n0 ≤ arr ∧ a ≠ arr ∧ Exa Z h a "com/example/reckon/reckon/io/LineList" ∧ Fld Z h a "com/example/reckon/reckon/io/LineList" "size" "I" (.int (0 : Int32)) ∧ Fld Z h a "java/util/AbstractList" "modCount" "I" (.int (0 : Int32)) ∧ Fld Z h a "com/example/reckon/reckon/io/LineList" "lines" "[J" (.ref arr) ∧ Arv Z h arr kk .long (16 : Int32) [(.long (0 : Int64)), (.long (0 : Int64)), (.long (0 : Int64)), (.long (0 : Int64)), (.long (0 : Int64)), (.long (0 : Int64)), (.long (0 : Int64)), (.long (0 : Int64)), (.long (0 : Int64)), (.long (0 : Int64)), (.long (0 : Int64)), (.long (0 : Int64)), (.long (0 : Int64)), (.long (0 : Int64)), (.long (0 : Int64)), (.long (0 : Int64))] (.long (0 : Int64))
theorem own_pn_com_example_reckon_reckon_io_LineList : plainName "com/example/reckon/reckon/io/LineList" = true := by first | (simp [plainName, overriddenIn]; done) | decide +kernel
set_option maxRecDepth 65536 in
set_option maxHeartbeats 40000000 in
theorem own_llinit (l : Launch) (Z : State) (a0 : Array Value) (hw : ∀ d ∈ tables_1, d.before a0 Z = true) (ws : List Jvm.Cond) (a : Addr) (h0 : Heap) (n0 : Nat) (O0 : Old Z n0 h0) (g_a : n0 ≤ a) (E : Exa Z h0 a "com/example/reckon/reckon/io/LineList") (F1 : Fld Z h0 a "com/example/reckon/reckon/io/LineList" "size" "I" (.int (0 : Int32))) (F2 : Fld Z h0 a "java/util/AbstractList" "modCount" "I" (.int (0 : Int32))) (F3 : Fld Z h0 a "com/example/reckon/reckon/io/LineList" "lines" "[J" .null) :
    MetFree l (⟨"com/example/reckon/reckon/io/LineList", "<init>", "()V"⟩ : MethodName) (head1 (Jvm.Cond.code (⟨"com/example/reckon/reckon/io/LineList", "<init>", "()V"⟩ : MethodName) prog_67_method_1_code 1 none :: ws) ({ frames := 3, cells := 1, slots := 16, locals := 36 } : Room)) (fun args_ U => args_ = #[(.ref a)] ∧ Z.Warmed39 U.vm ∧ U.heap = h0) (fun _ _ _ _ _ => True) (fun _ U o U' => ∃ v L, o = .returned v ∧ Q_own_llinit Z a h0 n0 v U'.heap L ∧ FrameEnd U o U' L ({ frames := 3, cells := 1, slots := 16, locals := 36 } : Room).cells ({ frames := 3, cells := 1, slots := 16, locals := 36 } : Room).slots) := by
  refine MetFree.of_bodySF (plainFor_of_name own_pn_com_example_reckon_reckon_io_LineList) hisR ?_
  intro pP eE sS mM args below meth cC s₁ Bd hml0 hP hK
  obtain ⟨rfl, hZ, hh⟩ := hP
  have hx := Bd.exec
  have hby := Bd.bytes
  have hml : cC.maxLocals = 1 := hml0
  have hown : sS.vm.findClass "com/example/reckon/reckon/io/LineList" = some mM.cls := findClass_of_methodNamed Bd.named
  have hnm := (name_of_methodNamed Bd.named Bd.method).1
  have X0 : Stand pP l eE ({ frames := 3, cells := 1, slots := 16, locals := 36 } : Room) sS mM #[(.ref a)] below meth cC s₁ [] 0 0 := Stand.of_body Bd
  have e0 : s₁.heap = h0 := by rw [← hh, Bd.state]; rfl
  have N0 := Fr.nil n0
  show own_Ends pP eE below (own_Got sS (Q_own_llinit Z a h0 n0) ({ frames := 3, cells := 1, slots := 16, locals := 36 } : Room).cells ({ frames := 3, cells := 1, slots := 16, locals := 36 } : Room).slots) (s₁.setTop (entryFrame mM #[(.ref a)] 1))
  rw [own_ef_own_llinit mM a]
  refine own_go (fun _ k => XS.aloadN X0.here hx rfl (hb hby own_d1_0) rfl rfl k) ?_
  show own_Ends _ _ _ _ (s₁.setTop (mkF mM 1 #[.val (.ref a)] [(.ref a)]))
  obtain ⟨_, _, ⟨T1, Lz1, kz1, nz1⟩, -, X1, ⟨Lc1, hQ1, l1, y1, z1⟩, st1⟩ := X0.specialBack hx (y := (⟨"java/util/AbstractList", "<init>", "()V"⟩ : MethodName)) rfl hown (mvT hZ (hw _ (List.mem_of_getElem? (i := 6) rfl))) (mvT hZ (hw _ (List.mem_of_getElem? (i := 7) rfl))) (mvT hZ (hw _ (List.mem_of_getElem? (i := 10) rfl))) (by decide) (backOf (W := 0) (own_alinit l Z a0 hw [] a h0 n0 O0 g_a E F1 F2 F3) hZ (hw _ (List.mem_of_getElem? (i := 10) rfl)) (hw _ (List.mem_of_getElem? (i := 9) rfl)) (by decide) (by decide)) (g := (mkF mM 1 #[.val (.ref a)] [(.ref a)])) rfl (by rw [hml]; rfl) (Steps.refl _) (a := a) (argsL := []) (rest := []) (lenOf own_pd0 rfl) rfl (by show 2 * 0 + _ ≤ _; exact Nat.le_of_eq rfl) (hb hby own_d1_1) (fun _ _ => ⟨rfl, e0, (by decide : 0 + 0 ≤ _), (by decide : 0 + 0 ≤ _)⟩)
  dsimp only [Pt.U, Pt.locs, Pt.cells, Pt.slots] at X1 l1 y1 z1 st1 hQ1
  obtain ⟨rfl, Nq1, K1, E_1, F1_1, F2_1, F3_1⟩ := hQ1
  have N1 := Fr.app N0 Nq1
  have O1 := O0.keep K1 (allS g_a all0)
  have Kk1 := (Keep.refl h0 [a]).trans K1 (allS (Or.inl (List.mem_of_getElem? (i := 0) rfl)) (all0))
  obtain ⟨Lw1, Nw1, Xw1⟩ := own_pack (k' := 0) (n' := 0) X1 l1 y1 z1 N1
  clear X1
  refine own_tr st1 ?_
  show own_Ends _ _ _ _ (T1.setTop (mkF mM 4 #[.val (.ref a)] []))
  refine own_go (fun _ k => XS.aloadN Xw1.here hx rfl (hb hby own_d1_4) rfl rfl k) ?_
  show own_Ends _ _ _ _ (T1.setTop (mkF mM 5 #[.val (.ref a)] [(.ref a)]))
  refine own_go (fun _ k => XS.bipush Xw1.here hx rfl (hb hby own_d1_5) k) ?_
  show own_Ends _ _ _ _ (T1.setTop (mkF mM 7 #[.val (.ref a)] [(.int (16 : Int32)), (.ref a)]))
  obtain ⟨T2, h2, ka2, X2, e2, E2, A2, st2⟩ := newP Xw1 hx hZ (hw _ (List.mem_of_getElem? (i := 22) rfl)) rfl (g := (mkF mM 7 #[.val (.ref a)] [(.int (16 : Int32)), (.ref a)])) rfl (hb hby own_d1_7) rfl (by decide) (cap := 16) (by decide) (by decide) (by decide) (by decide)
  obtain ⟨b2, g2⟩ : ∃ z, z = T1.heap.size := ⟨_, rfl⟩
  rw [← g2] at A2 st2
  have O2 := O1.ext E2
  have g_b2 : n0 ≤ b2 := by rw [g2, ← O1.1]; exact O1.2.1
  have sz_b2 : h0.size ≤ b2 := Nat.le_trans Kk1.1 (Nat.le_of_eq g2.symm)
  have K2 := Kk1.ext E2
  have V_b2 : Arv Z h2 b2 ka2 .long (16 : Int32) [(.long (0 : Int64)), (.long (0 : Int64)), (.long (0 : Int64)), (.long (0 : Int64)), (.long (0 : Int64)), (.long (0 : Int64)), (.long (0 : Int64)), (.long (0 : Int64)), (.long (0 : Int64)), (.long (0 : Int64)), (.long (0 : Int64)), (.long (0 : Int64)), (.long (0 : Int64)), (.long (0 : Int64)), (.long (0 : Int64)), (.long (0 : Int64))] (.long (0 : Int64)) := (Arv.new A2 (by decide)).pad (pad_rep [] (.long (0 : Int64)) 16)
  refine own_go st2 ?_
  show own_Ends _ _ _ _ (T2.setTop (mkF mM 9 #[.val (.ref a)] [(.ref b2), (.ref a)]))
  obtain ⟨T3, h3, X3, e3, W3, st3⟩ := putF X2 hx hZ hown (host := "") (Or.inl (hw _ (List.mem_of_getElem? (i := 23) rfl))) Via.refl e2 (F3_1.ext E2) (E_1.ext E2) (Or.inl (hw _ (List.mem_of_getElem? (i := 24) rfl))) (hw _ (List.mem_of_getElem? (i := 1) rfl)) (ty := (.array .long)) (by decide) rfl rfl (g := (mkF mM 9 #[.val (.ref a)] [(.ref b2), (.ref a)])) rfl rfl (hb hby own_d1_9)
  have Fw3 := (F3_1.ext E2).same W3
  have O3 := O2.wr W3 g_a
  have K3 := K2.wr W3 (Or.inl (List.mem_of_getElem? (i := 0) rfl))
  have N3 := Fr.snoc X3 Nw1 g_a
  refine own_go st3 ?_
  show own_Ends _ _ _ _ (T3.setTop (mkF mM 12 #[.val (.ref a)] []))
  exact own_retV X3 hx (BodyLoose.notSynchronized Bd) (st := []) Bd.returns (hb hby own_d1_12) (by decide) (by decide) (by rw [e3]; exact ⟨rfl, N3, K3, b2, ka2, g_b2, (Nat.ne_of_lt (Nat.lt_of_lt_of_le E_1.lt (Nat.le_of_eq g2.symm))), ((E_1.ext E2).wr W3), ((F1_1.ext E2).other W3 (Or.inr (slot_ne (Or.inl (hw _ (List.mem_of_getElem? (i := 31) rfl))) (Or.inl (hw _ (List.mem_of_getElem? (i := 24) rfl))) (by decide) (t := .int) (t' := (.array .long)) (by decide) (by decide)))), ((F2_1.ext E2).other W3 (Or.inr (slot_ne (Or.inl (hw _ (List.mem_of_getElem? (i := 21) rfl))) (Or.inl (hw _ (List.mem_of_getElem? (i := 24) rfl))) (by decide) (t := .int) (t' := (.array .long)) (by decide) (by decide)))), Fw3, (V_b2.other W3 (Ne.symm (Nat.ne_of_lt (Nat.lt_of_lt_of_le E_1.lt (Nat.le_of_eq g2.symm)))))⟩)
theorem own_d5_0 : decode prog_67_method_4_code 0 = .ok (.aload_n 0, 1) := by decide +kernel
theorem own_d5_1 : decode prog_67_method_4_code 1 = .ok (.getfield 13, 3) := by decide +kernel
theorem own_d5_4 : decode prog_67_method_4_code 4 = .ok (.ireturn, 1) := by decide +kernel
theorem own_ef_own_size (m : MethodId) (x0 : Addr) : entryFrame m #[(.ref x0)] 1 = mkF m 0 #[.val (.ref x0)] [] := by first | (simp [entryFrame, mkF, argsToLocals, Value.category]; done) | rfl
def Q_own_size (Z : State) (a : Addr) (n : Int32) (h0 : Heap) (n0 : Nat) (v : Option Value) (h : Heap) (L : List Loc) : Prop := v = some (.int n) ∧ Fr n0 L ∧ h = h0
set_option maxRecDepth 65536 in
set_option maxHeartbeats 40000000 in
theorem own_size (l : Launch) (Z : State) (a0 : Array Value) (hw : ∀ d ∈ tables_1, d.before a0 Z = true) (ws : List Jvm.Cond) (a : Addr) (n : Int32) (h0 : Heap) (n0 : Nat) (O0 : Old Z n0 h0) (F : Fld Z h0 a "com/example/reckon/reckon/io/LineList" "size" "I" (.int n)) :
    MetFree l (⟨"com/example/reckon/reckon/io/LineList", "size", "()I"⟩ : MethodName) (head1 (Jvm.Cond.code (⟨"com/example/reckon/reckon/io/LineList", "size", "()I"⟩ : MethodName) prog_67_method_4_code 1 (some .int) :: ws) ({ frames := 0, cells := 0, slots := 0, locals := 0 } : Room)) (fun args_ U => args_ = #[(.ref a)] ∧ Z.Warmed39 U.vm ∧ U.heap = h0) (fun _ _ _ _ _ => True) (fun _ U o U' => ∃ v L, o = .returned v ∧ Q_own_size Z a n h0 n0 v U'.heap L ∧ FrameEnd U o U' L ({ frames := 0, cells := 0, slots := 0, locals := 0 } : Room).cells ({ frames := 0, cells := 0, slots := 0, locals := 0 } : Room).slots) := by
  refine MetFree.of_bodySF (plainFor_of_name own_pn_com_example_reckon_reckon_io_LineList) hisR ?_
  intro pP eE sS mM args below meth cC s₁ Bd hml0 hP hK
  obtain ⟨rfl, hZ, hh⟩ := hP
  have hx := Bd.exec
  have hby := Bd.bytes
  have hml : cC.maxLocals = 1 := hml0
  have hown : sS.vm.findClass "com/example/reckon/reckon/io/LineList" = some mM.cls := findClass_of_methodNamed Bd.named
  have hnm := (name_of_methodNamed Bd.named Bd.method).1
  have X0 : Stand pP l eE ({ frames := 0, cells := 0, slots := 0, locals := 0 } : Room) sS mM #[(.ref a)] below meth cC s₁ [] 0 0 := Stand.of_body Bd
  have e0 : s₁.heap = h0 := by rw [← hh, Bd.state]; rfl
  have N0 := Fr.nil n0
  show own_Ends pP eE below (own_Got sS (Q_own_size Z a n h0 n0) ({ frames := 0, cells := 0, slots := 0, locals := 0 } : Room).cells ({ frames := 0, cells := 0, slots := 0, locals := 0 } : Room).slots) (s₁.setTop (entryFrame mM #[(.ref a)] 1))
  rw [own_ef_own_size mM a]
  refine own_go (fun _ k => XS.aloadN X0.here hx rfl (hb hby own_d5_0) rfl rfl k) ?_
  show own_Ends _ _ _ _ (s₁.setTop (mkF mM 1 #[.val (.ref a)] [(.ref a)]))
  obtain ⟨T1, X1, e1, st1⟩ := getF X0 hx hZ hown (host := "") (Or.inl (hw _ (List.mem_of_getElem? (i := 30) rfl))) Via.refl e0 F (g := (mkF mM 1 #[.val (.ref a)] [(.ref a)])) rfl rfl (hb hby own_d5_1)
  refine own_go st1 ?_
  show own_Ends _ _ _ _ (T1.setTop (mkF mM 4 #[.val (.ref a)] [(.int n)]))
  exact own_retI X1 hx (BodyLoose.notSynchronized Bd) Bd.returns (hb hby own_d5_4) (by decide) (by decide) (by rw [e1]; exact ⟨rfl, N0, rfl⟩)
theorem own_pd3 : parseMethodDescriptor "(II)I" = some ⟨[.int, .int], some .int⟩ := by decide +kernel
theorem own_pd4 : parseMethodDescriptor "(J)Ljava/lang/Long;" = some ⟨[.long], some (.object "java/lang/Long")⟩ := by decide +kernel
theorem own_d7_0 : decode prog_67_method_3_code 0 = .ok (.aload_n 0, 1) := by decide +kernel
theorem own_d7_1 : decode prog_67_method_3_code 1 = .ok (.getfield 7, 3) := by decide +kernel
theorem own_d7_4 : decode prog_67_method_3_code 4 = .ok (.iload_n 1, 1) := by decide +kernel
theorem own_d7_5 : decode prog_67_method_3_code 5 = .ok (.aload_n 0, 1) := by decide +kernel
theorem own_d7_6 : decode prog_67_method_3_code 6 = .ok (.getfield 13, 3) := by decide +kernel
theorem own_d7_9 : decode prog_67_method_3_code 9 = .ok (.invokestatic 26, 3) := by decide +kernel
theorem own_d7_12 : decode prog_67_method_3_code 12 = .ok (.laload, 1) := by decide +kernel
theorem own_d7_13 : decode prog_67_method_3_code 13 = .ok (.invokestatic 32, 3) := by decide +kernel
theorem own_d7_16 : decode prog_67_method_3_code 16 = .ok (.areturn, 1) := by decide +kernel
theorem own_ef_own_get (m : MethodId) (x0 : Addr) (x1 : Int32) : entryFrame m #[(.ref x0), (.int x1)] 2 = mkF m 0 #[.val (.ref x0), .val (.int x1)] [] := by first | (simp [entryFrame, mkF, argsToLocals, Value.category]; done) | rfl
def Q_own_get (Z : State) (a : Addr) (i : Int32) (n : Int32) (arr : Addr) (kk : ClassId) (cap : Int32) (vs : List Value) (x : Int64) (cc : Addr) (cl : Cell) (h0 : Heap) (n0 : Nat) (v : Option Value) (h : Heap) (L : List Loc) : Prop := ∃ b : Addr, v = some (.ref b) ∧ Fr n0 L ∧ Keep h0 h [] ∧ Exa Z h b "java/lang/Long" ∧ Fld Z h b "java/lang/Long" "value" "J" (.long x)
set_option maxRecDepth 65536 in
set_option maxHeartbeats 40000000 in
theorem own_get (l : Launch) (Z : State) (a0 : Array Value) (hw : ∀ d ∈ tables_1, d.before a0 Z = true) (ws : List Jvm.Cond) (a : Addr) (i : Int32) (n : Int32) (arr : Addr) (kk : ClassId) (cap : Int32) (vs : List Value) (x : Int64) (cc : Addr) (cl : Cell) (h0 : Heap) (n0 : Nat) (O0 : Old Z n0 h0) (F1 : Fld Z h0 a "com/example/reckon/reckon/io/LineList" "size" "I" (.int n)) (F3 : Fld Z h0 a "com/example/reckon/reckon/io/LineList" "lines" "[J" (.ref arr)) (VA : Arv Z h0 arr kk .long cap vs (.long (0 : Int64))) (hi0 : ¬ i < (0 : Int32)) (hi1 : i < n) (hi2 : i < cap) (hv : vs.getD i.toNatClampNeg (.long (0 : Int64)) = .long x) (S_cache : Sta Z Z.heap "java/lang/Long$LongCache" "cache" "[Ljava/lang/Long;" (.ref cc)) (hcc : Arr Z Z.heap cc cl (.object "java/lang/Long") ∧ cl.slots.size = (256 : Int32).toNatClampNeg ∧ ∀ p : Int64, ¬ p < (-128 : Int64) → ¬ (127 : Int64) < p → ∃ x : Addr, cl.slots[((p.toInt32) + (128 : Int32)).toNatClampNeg]? = some (.ref x) ∧ Exa Z Z.heap x "java/lang/Long" ∧ Fld Z Z.heap x "java/lang/Long" "value" "J" (.long p)) :
    MetFree l (⟨"com/example/reckon/reckon/io/LineList", "get", "(I)Ljava/lang/Long;"⟩ : MethodName) (head1 (Jvm.Cond.code (⟨"com/example/reckon/reckon/io/LineList", "get", "(I)Ljava/lang/Long;"⟩ : MethodName) prog_67_method_3_code 2 (some (.object "java/lang/Long")) :: ws) ({ frames := 4, cells := 1, slots := 1, locals := 53 } : Room)) (fun args_ U => args_ = #[(.ref a), (.int i)] ∧ Z.Warmed39 U.vm ∧ U.heap = h0) (fun _ _ _ _ _ => True) (fun _ U o U' => ∃ v L, o = .returned v ∧ Q_own_get Z a i n arr kk cap vs x cc cl h0 n0 v U'.heap L ∧ FrameEnd U o U' L ({ frames := 4, cells := 1, slots := 1, locals := 53 } : Room).cells ({ frames := 4, cells := 1, slots := 1, locals := 53 } : Room).slots) := by
  refine MetFree.of_bodySF (plainFor_of_name own_pn_com_example_reckon_reckon_io_LineList) hisR ?_
  intro pP eE sS mM args below meth cC s₁ Bd hml0 hP hK
  obtain ⟨rfl, hZ, hh⟩ := hP
  have hx := Bd.exec
  have hby := Bd.bytes
  have hml : cC.maxLocals = 2 := hml0
  have hown : sS.vm.findClass "com/example/reckon/reckon/io/LineList" = some mM.cls := findClass_of_methodNamed Bd.named
  have hnm := (name_of_methodNamed Bd.named Bd.method).1
  have X0 : Stand pP l eE ({ frames := 4, cells := 1, slots := 1, locals := 53 } : Room) sS mM #[(.ref a), (.int i)] below meth cC s₁ [] 0 0 := Stand.of_body Bd
  have e0 : s₁.heap = h0 := by rw [← hh, Bd.state]; rfl
  have N0 := Fr.nil n0
  show own_Ends pP eE below (own_Got sS (Q_own_get Z a i n arr kk cap vs x cc cl h0 n0) ({ frames := 4, cells := 1, slots := 1, locals := 53 } : Room).cells ({ frames := 4, cells := 1, slots := 1, locals := 53 } : Room).slots) (s₁.setTop (entryFrame mM #[(.ref a), (.int i)] 2))
  rw [own_ef_own_get mM a i]
  refine own_go (fun _ k => XS.aloadN X0.here hx rfl (hb hby own_d7_0) rfl rfl k) ?_
  show own_Ends _ _ _ _ (s₁.setTop (mkF mM 1 #[.val (.ref a), .val (.int i)] [(.ref a)]))
  obtain ⟨T1, X1, e1, st1⟩ := getF X0 hx hZ hown (host := "") (Or.inl (hw _ (List.mem_of_getElem? (i := 23) rfl))) Via.refl e0 F3 (g := (mkF mM 1 #[.val (.ref a), .val (.int i)] [(.ref a)])) rfl rfl (hb hby own_d7_1)
  refine own_go st1 ?_
  show own_Ends _ _ _ _ (T1.setTop (mkF mM 4 #[.val (.ref a), .val (.int i)] [(.ref arr)]))
  refine own_go (fun _ k => XS.iloadN X1.here hx rfl (hb hby own_d7_4) rfl k) ?_
  show own_Ends _ _ _ _ (T1.setTop (mkF mM 5 #[.val (.ref a), .val (.int i)] [(.int i), (.ref arr)]))
  refine own_go (fun _ k => XS.aloadN X1.here hx rfl (hb hby own_d7_5) rfl rfl k) ?_
  show own_Ends _ _ _ _ (T1.setTop (mkF mM 6 #[.val (.ref a), .val (.int i)] [(.ref a), (.int i), (.ref arr)]))
  obtain ⟨T2, X2, e2, st2⟩ := getF X1 hx hZ hown (host := "") (Or.inl (hw _ (List.mem_of_getElem? (i := 30) rfl))) Via.refl e1 F1 (g := (mkF mM 6 #[.val (.ref a), .val (.int i)] [(.ref a), (.int i), (.ref arr)])) rfl rfl (hb hby own_d7_6)
  refine own_go st2 ?_
  show own_Ends _ _ _ _ (T2.setTop (mkF mM 9 #[.val (.ref a), .val (.int i)] [(.int n), (.int i), (.ref arr)]))
  obtain ⟨_, _, ⟨T3, Lz3, kz3, nz3⟩, -, X3, ⟨Lc3, hQ3, l3, y3, z3⟩, st3⟩ := Jvm.LawKit.callS X2 hx (y := (⟨"java/util/Objects", "checkIndex", "(II)I"⟩ : MethodName)) hown (mvT hZ (hw _ (List.mem_of_getElem? (i := 44) rfl))) (mvT hZ (hw _ (List.mem_of_getElem? (i := 45) rfl))) (mvT hZ (hw _ (List.mem_of_getElem? (i := 46) rfl))) (mvT hZ (hw _ (List.mem_of_getElem? (i := 47) rfl))) (by decide) (backOf (W := 1) (own_ck l Z a0 hw [] i n h0 n0 O0 hi0 hi1) hZ (hw _ (List.mem_of_getElem? (i := 47) rfl)) (hw _ (List.mem_of_getElem? (i := 46) rfl)) (by decide) (by decide)) (g := (mkF mM 9 #[.val (.ref a), .val (.int i)] [(.int n), (.int i), (.ref arr)])) rfl (by rw [hml]; rfl) (argsL := [(.int i), (.int n)]) (rest := [(.ref arr)]) (lenOf own_pd3 rfl) rfl (by show 2 * 0 + _ ≤ _; exact Nat.le_of_eq rfl) (hb hby own_d7_9) (fun _ _ => ⟨rfl, e2, (by decide : 0 + 0 ≤ _), (by decide : 0 + 0 ≤ _)⟩)
  dsimp only [Pt.U, Pt.locs, Pt.cells, Pt.slots] at X3 l3 y3 z3 st3 hQ3
  obtain ⟨rfl, Nq3, e3⟩ := hQ3
  have N3 := Fr.app N0 Nq3
  obtain ⟨Lw3, Nw3, Xw3⟩ := own_pack (k' := 0) (n' := 0) X3 l3 y3 z3 N3
  clear X3
  refine own_go st3 ?_
  show own_Ends _ _ _ _ (T3.setTop (mkF mM 12 #[.val (.ref a), .val (.int i)] [(.int i), (.ref arr)]))
  obtain ⟨cl4, Ar4, aq4, aS4, aN4, aH4, aG4⟩ := id VA
  have hin4 := inb_of aS4 ⟨hi0, hi2⟩
  refine own_go (Xw3.laload hx (j := i) (v := (.long x)) (by rw [e3]; exact Ar4.1) (State.isArrayOf_alike hZ.alike Ar4.2.1) Ar4.2.2 hin4 (aH4.at hin4 hv) (g := (mkF mM 12 #[.val (.ref a), .val (.int i)] [(.int i), (.ref arr)])) rfl rfl (hb hby own_d7_12)) ?_
  show own_Ends _ _ _ _ (T3.setTop (mkF mM 13 #[.val (.ref a), .val (.int i)] [(.long x)]))
  obtain ⟨_, _, ⟨T5, Lz5, kz5, nz5⟩, -, X5, ⟨Lc5, hQ5, l5, y5, z5⟩, st5⟩ := Jvm.LawKit.callS Xw3 hx (y := (⟨"java/lang/Long", "valueOf", "(J)Ljava/lang/Long;"⟩ : MethodName)) hown (mvT hZ (hw _ (List.mem_of_getElem? (i := 52) rfl))) (mvT hZ (hw _ (List.mem_of_getElem? (i := 53) rfl))) (mvT hZ (hw _ (List.mem_of_getElem? (i := 54) rfl))) (mvT hZ (hw _ (List.mem_of_getElem? (i := 55) rfl))) (by decide) (backOf (W := 0) (own_valueOf l Z a0 hw [] x cc cl h0 n0 O0 S_cache hcc) hZ (hw _ (List.mem_of_getElem? (i := 55) rfl)) (hw _ (List.mem_of_getElem? (i := 54) rfl)) (by decide) (by decide)) (g := (mkF mM 13 #[.val (.ref a), .val (.int i)] [(.long x)])) rfl (by rw [hml]; rfl) (argsL := [(.long x)]) (rest := []) (lenOf own_pd4 rfl) rfl (by show 2 * 0 + _ ≤ _; exact Nat.le_of_eq rfl) (hb hby own_d7_13) (fun _ _ => ⟨rfl, e3, (by decide : 0 + 1 ≤ _), (by decide : 0 + 1 ≤ _)⟩)
  dsimp only [Pt.U, Pt.locs, Pt.cells, Pt.slots] at X5 l5 y5 z5 st5 hQ5
  obtain ⟨c5, rfl, Nq5, K5, E_c5, F_c5⟩ := hQ5
  have N5 := Fr.app Nw3 Nq5
  have O5 := O0.keep K5 all0
  have Kk5 := (Keep.refl h0 []).trans K5 (all0)
  obtain ⟨Lw5, Nw5, Xw5⟩ := own_pack (k' := 1) (n' := 1) X5 l5 y5 z5 N5
  clear X5
  refine own_go st5 ?_
  show own_Ends _ _ _ _ (T5.setTop (mkF mM 16 #[.val (.ref a), .val (.int i)] [(.ref c5)]))
  exact own_retR Xw5 hx (BodyLoose.notSynchronized Bd) Bd.returns rfl rfl (hb hby own_d7_16) (by decide) (by decide) (⟨c5, rfl, Nw5, Kk5, E_c5, F_c5⟩)
theorem own_d6_0 : decode prog_67_method_2_code 0 = .ok (.aload_n 0, 1) := by decide +kernel
theorem own_d6_1 : decode prog_67_method_2_code 1 = .ok (.getfield 13, 3) := by decide +kernel
theorem own_d6_4 : decode prog_67_method_2_code 4 = .ok (.aload_n 0, 1) := by decide +kernel
theorem own_d6_5 : decode prog_67_method_2_code 5 = .ok (.getfield 7, 3) := by decide +kernel
theorem own_d6_8 : decode prog_67_method_2_code 8 = .ok (.arraylength, 1) := by decide +kernel
theorem own_d6_9 : decode prog_67_method_2_code 9 = .ok (.if_icmp .ne 25, 3) := by decide +kernel
theorem own_d6_34 : decode prog_67_method_2_code 34 = .ok (.aload_n 0, 1) := by decide +kernel
theorem own_d6_35 : decode prog_67_method_2_code 35 = .ok (.getfield 7, 3) := by decide +kernel
theorem own_d6_38 : decode prog_67_method_2_code 38 = .ok (.aload_n 0, 1) := by decide +kernel
theorem own_d6_39 : decode prog_67_method_2_code 39 = .ok (.dup, 1) := by decide +kernel
theorem own_d6_40 : decode prog_67_method_2_code 40 = .ok (.getfield 13, 3) := by decide +kernel
theorem own_d6_43 : decode prog_67_method_2_code 43 = .ok (.dup_x1, 1) := by decide +kernel
theorem own_d6_44 : decode prog_67_method_2_code 44 = .ok (.iconst 1, 1) := by decide +kernel
theorem own_d6_45 : decode prog_67_method_2_code 45 = .ok (.iadd, 1) := by decide +kernel
theorem own_d6_46 : decode prog_67_method_2_code 46 = .ok (.putfield 13, 3) := by decide +kernel
theorem own_d6_49 : decode prog_67_method_2_code 49 = .ok (.lload_n 1, 1) := by decide +kernel
theorem own_d6_50 : decode prog_67_method_2_code 50 = .ok (.lastore, 1) := by decide +kernel
theorem own_d6_51 : decode prog_67_method_2_code 51 = .ok (.aload_n 0, 1) := by decide +kernel
theorem own_d6_52 : decode prog_67_method_2_code 52 = .ok (.dup, 1) := by decide +kernel
theorem own_d6_53 : decode prog_67_method_2_code 53 = .ok (.getfield 23, 3) := by decide +kernel
theorem own_d6_56 : decode prog_67_method_2_code 56 = .ok (.iconst 1, 1) := by decide +kernel
theorem own_d6_57 : decode prog_67_method_2_code 57 = .ok (.iadd, 1) := by decide +kernel
theorem own_d6_58 : decode prog_67_method_2_code 58 = .ok (.putfield 23, 3) := by decide +kernel
theorem own_d6_61 : decode prog_67_method_2_code 61 = .ok (.return_, 1) := by decide +kernel
theorem own_ef_own_add (m : MethodId) (x0 : Addr) (x1 : Int64) : entryFrame m #[(.ref x0), (.long x1)] 3 = mkF m 0 #[.val (.ref x0), .val (.long x1), .second] [] := by first | (simp [entryFrame, mkF, argsToLocals, Value.category]; done) | rfl
def Q_own_add (Z : State) (a : Addr) (x : Int64) (n : Int32) (n' : Int32) (mc : Int32) (mc' : Int32) (arr : Addr) (kk : ClassId) (cap : Int32) (vs : List Value) (vs' : List Value) (i : Nat) (h0 : Heap) (n0 : Nat) (v : Option Value) (h : Heap) (L : List Loc) : Prop := v = none ∧ Fr n0 L ∧ Keep h0 h [a, arr] ∧ Exa Z h a "com/example/reckon/reckon/io/LineList" ∧ Fld Z h a "com/example/reckon/reckon/io/LineList" "size" "I" (.int n') ∧ Fld Z h a "java/util/AbstractList" "modCount" "I" (.int mc') ∧ Fld Z h a "com/example/reckon/reckon/io/LineList" "lines" "[J" (.ref arr) ∧ Arv Z h arr kk .long cap vs' (.long (0 : Int64))
set_option maxRecDepth 65536 in
set_option maxHeartbeats 40000000 in
theorem own_add (l : Launch) (Z : State) (a0 : Array Value) (hw : ∀ d ∈ tables_1, d.before a0 Z = true) (ws : List Jvm.Cond) (a : Addr) (x : Int64) (n : Int32) (n' : Int32) (mc : Int32) (mc' : Int32) (arr : Addr) (kk : ClassId) (cap : Int32) (vs : List Value) (vs' : List Value) (i : Nat) (h0 : Heap) (n0 : Nat) (O0 : Old Z n0 h0) (g_a : n0 ≤ a) (g_arr : n0 ≤ arr) (hne : a ≠ arr) (E : Exa Z h0 a "com/example/reckon/reckon/io/LineList") (F1 : Fld Z h0 a "com/example/reckon/reckon/io/LineList" "size" "I" (.int n)) (F2 : Fld Z h0 a "java/util/AbstractList" "modCount" "I" (.int mc)) (F3 : Fld Z h0 a "com/example/reckon/reckon/io/LineList" "lines" "[J" (.ref arr)) (VA : Arv Z h0 arr kk .long cap vs (.long (0 : Int64))) (hn0 : ¬ n < (0 : Int32)) (hnc : n < cap) (hn1 : n' = n + (1 : Int32)) (hm1 : mc' = mc + (1 : Int32)) (hi : n.toNatClampNeg = i) (hil : i < vs.length) (hvs : vs' = vs.set i (.long x)) :
    MetFree l (⟨"com/example/reckon/reckon/io/LineList", "add", "(J)V"⟩ : MethodName) (head1 (Jvm.Cond.code (⟨"com/example/reckon/reckon/io/LineList", "add", "(J)V"⟩ : MethodName) prog_67_method_2_code 3 none :: ws) ({ frames := 0, cells := 0, slots := 0, locals := 0 } : Room)) (fun args_ U => args_ = #[(.ref a), (.long x)] ∧ Z.Warmed39 U.vm ∧ U.heap = h0) (fun _ _ _ _ _ => True) (fun _ U o U' => ∃ v L, o = .returned v ∧ Q_own_add Z a x n n' mc mc' arr kk cap vs vs' i h0 n0 v U'.heap L ∧ FrameEnd U o U' L ({ frames := 0, cells := 0, slots := 0, locals := 0 } : Room).cells ({ frames := 0, cells := 0, slots := 0, locals := 0 } : Room).slots) := by
  refine MetFree.of_bodySF (plainFor_of_name own_pn_com_example_reckon_reckon_io_LineList) hisR ?_
  intro pP eE sS mM args below meth cC s₁ Bd hml0 hP hK
  obtain ⟨rfl, hZ, hh⟩ := hP
  have hx := Bd.exec
  have hby := Bd.bytes
  have hml : cC.maxLocals = 3 := hml0
  have hown : sS.vm.findClass "com/example/reckon/reckon/io/LineList" = some mM.cls := findClass_of_methodNamed Bd.named
  have hnm := (name_of_methodNamed Bd.named Bd.method).1
  have X0 : Stand pP l eE ({ frames := 0, cells := 0, slots := 0, locals := 0 } : Room) sS mM #[(.ref a), (.long x)] below meth cC s₁ [] 0 0 := Stand.of_body Bd
  have e0 : s₁.heap = h0 := by rw [← hh, Bd.state]; rfl
  have N0 := Fr.nil n0
  show own_Ends pP eE below (own_Got sS (Q_own_add Z a x n n' mc mc' arr kk cap vs vs' i h0 n0) ({ frames := 0, cells := 0, slots := 0, locals := 0 } : Room).cells ({ frames := 0, cells := 0, slots := 0, locals := 0 } : Room).slots) (s₁.setTop (entryFrame mM #[(.ref a), (.long x)] 3))
  rw [own_ef_own_add mM a x]
  refine own_go (fun _ k => XS.aloadN X0.here hx rfl (hb hby own_d6_0) rfl rfl k) ?_
  show own_Ends _ _ _ _ (s₁.setTop (mkF mM 1 #[.val (.ref a), .val (.long x), .second] [(.ref a)]))
  obtain ⟨T1, X1, e1, st1⟩ := getF X0 hx hZ hown (host := "") (Or.inl (hw _ (List.mem_of_getElem? (i := 30) rfl))) Via.refl e0 F1 (g := (mkF mM 1 #[.val (.ref a), .val (.long x), .second] [(.ref a)])) rfl rfl (hb hby own_d6_1)
  refine own_go st1 ?_
  show own_Ends _ _ _ _ (T1.setTop (mkF mM 4 #[.val (.ref a), .val (.long x), .second] [(.int n)]))
  refine own_go (fun _ k => XS.aloadN X1.here hx rfl (hb hby own_d6_4) rfl rfl k) ?_
  show own_Ends _ _ _ _ (T1.setTop (mkF mM 5 #[.val (.ref a), .val (.long x), .second] [(.ref a), (.int n)]))
  obtain ⟨T2, X2, e2, st2⟩ := getF X1 hx hZ hown (host := "") (Or.inl (hw _ (List.mem_of_getElem? (i := 23) rfl))) Via.refl e1 F3 (g := (mkF mM 5 #[.val (.ref a), .val (.long x), .second] [(.ref a), (.int n)])) rfl rfl (hb hby own_d6_5)
  refine own_go st2 ?_
  show own_Ends _ _ _ _ (T2.setTop (mkF mM 8 #[.val (.ref a), .val (.long x), .second] [(.ref arr), (.int n)]))
  obtain ⟨cl3, Ar3, aq3, aS3, aN3, aH3, aG3⟩ := id VA
  refine own_go (X2.arraylength hx (by rw [e2]; exact Ar3.1) (State.isArrayOf_alike hZ.alike Ar3.2.1) (g := (mkF mM 8 #[.val (.ref a), .val (.long x), .second] [(.ref arr), (.int n)])) rfl rfl (hb hby own_d6_8)) ?_
  rw [len_of aS3 aN3]
  show own_Ends _ _ _ _ (T2.setTop (mkF mM 9 #[.val (.ref a), .val (.long x), .second] [(.int cap), (.int n)]))
  refine own_go (fun _ k => XS.icmpYes X2.here hx rfl (pc0 := 9) (pc' := 34) rfl (hb hby own_d6_9) rfl (feq (fun q => by rw [q, Int32.lt_iff_toInt_lt] at hnc; exact absurd hnc (Int.lt_irrefl _))).2 (by decide) (by decide) k) ?_
  show own_Ends _ _ _ _ (T2.setTop (mkF mM 34 #[.val (.ref a), .val (.long x), .second] []))
  refine own_go (fun _ k => XS.aloadN X2.here hx rfl (hb hby own_d6_34) rfl rfl k) ?_
  show own_Ends _ _ _ _ (T2.setTop (mkF mM 35 #[.val (.ref a), .val (.long x), .second] [(.ref a)]))
  obtain ⟨T4, X4, e4, st4⟩ := getF X2 hx hZ hown (host := "") (Or.inl (hw _ (List.mem_of_getElem? (i := 23) rfl))) Via.refl e2 F3 (g := (mkF mM 35 #[.val (.ref a), .val (.long x), .second] [(.ref a)])) rfl rfl (hb hby own_d6_35)
  refine own_go st4 ?_
  show own_Ends _ _ _ _ (T4.setTop (mkF mM 38 #[.val (.ref a), .val (.long x), .second] [(.ref arr)]))
  refine own_go (fun _ k => XS.aloadN X4.here hx rfl (hb hby own_d6_38) rfl rfl k) ?_
  show own_Ends _ _ _ _ (T4.setTop (mkF mM 39 #[.val (.ref a), .val (.long x), .second] [(.ref a), (.ref arr)]))
  refine own_go (fun _ k => XS.dup X4.here hx rfl (hb hby own_d6_39) rfl rfl k) ?_
  show own_Ends _ _ _ _ (T4.setTop (mkF mM 40 #[.val (.ref a), .val (.long x), .second] [(.ref a), (.ref a), (.ref arr)]))
  obtain ⟨T5, X5, e5, st5⟩ := getF X4 hx hZ hown (host := "") (Or.inl (hw _ (List.mem_of_getElem? (i := 30) rfl))) Via.refl e4 F1 (g := (mkF mM 40 #[.val (.ref a), .val (.long x), .second] [(.ref a), (.ref a), (.ref arr)])) rfl rfl (hb hby own_d6_40)
  refine own_go st5 ?_
  show own_Ends _ _ _ _ (T5.setTop (mkF mM 43 #[.val (.ref a), .val (.long x), .second] [(.int n), (.ref a), (.ref arr)]))
  refine own_go (fun _ k => XS.dupX1 X5.here hx rfl (hb hby own_d6_43) rfl rfl rfl k) ?_
  show own_Ends _ _ _ _ (T5.setTop (mkF mM 44 #[.val (.ref a), .val (.long x), .second] [(.int n), (.ref a), (.int n), (.ref arr)]))
  refine own_go (fun _ k => XS.iconst X5.here hx rfl (hb hby own_d6_44) k) ?_
  show own_Ends _ _ _ _ (T5.setTop (mkF mM 45 #[.val (.ref a), .val (.long x), .second] [(.int (1 : Int32)), (.int n), (.ref a), (.int n), (.ref arr)]))
  refine own_go (fun _ k => XS.iadd X5.here hx rfl (hb hby own_d6_45) rfl k) ?_
  show own_Ends _ _ _ _ (T5.setTop (mkF mM 46 #[.val (.ref a), .val (.long x), .second] [(.int (n + (1 : Int32))), (.ref a), (.int n), (.ref arr)]))
  rw [← hn1]
  show own_Ends _ _ _ _ (T5.setTop (mkF mM 46 #[.val (.ref a), .val (.long x), .second] [(.int n'), (.ref a), (.int n), (.ref arr)]))
  obtain ⟨T6, h6, X6, e6, W6, st6⟩ := putF X5 hx hZ hown (host := "") (Or.inl (hw _ (List.mem_of_getElem? (i := 30) rfl))) Via.refl e5 F1 E (Or.inl (hw _ (List.mem_of_getElem? (i := 31) rfl))) (hw _ (List.mem_of_getElem? (i := 1) rfl)) (ty := .int) (by decide) rfl rfl (g := (mkF mM 46 #[.val (.ref a), .val (.long x), .second] [(.int n'), (.ref a), (.int n), (.ref arr)])) rfl rfl (hb hby own_d6_46)
  have Fw6 := F1.same W6
  have O6 := O0.wr W6 g_a
  have K6 := (Keep.refl h0 [a, arr]).wr W6 (Or.inl (List.mem_of_getElem? (i := 0) rfl))
  have N6 := Fr.snoc X6 N0 g_a
  refine own_go st6 ?_
  show own_Ends _ _ _ _ (T6.setTop (mkF mM 49 #[.val (.ref a), .val (.long x), .second] [(.int n), (.ref arr)]))
  refine own_go (fun _ k => XS.lloadN X6.here hx rfl (hb hby own_d6_49) rfl k) ?_
  show own_Ends _ _ _ _ (T6.setTop (mkF mM 50 #[.val (.ref a), .val (.long x), .second] [(.long x), (.int n), (.ref arr)]))
  obtain ⟨cl7, Ar7, aq7, aS7, aN7, aH7, aG7⟩ := id (VA.other W6 (Ne.symm hne))
  have hin7 := inb_of aS7 ⟨hn0, hnc⟩
  obtain ⟨T8, h8, X8, e8, W8, st8⟩ := stJ X6 hx hZ e6 Ar7 (j := n) hin7 (g := (mkF mM 50 #[.val (.ref a), .val (.long x), .second] [(.long x), (.int n), (.ref arr)])) rfl rfl (hb hby own_d6_50)
  have V8 : Arv Z h8 arr kk .long cap vs' (.long (0 : Int64)) := by rw [hvs]; exact Arv.set Ar7 aq7 aS7 aN7 aH7 aG7 rfl W8 i hi hil
  have O8 := O6.wr W8 g_arr
  have K8 := K6.wr W8 (Or.inl (List.mem_of_getElem? (i := 1) rfl))
  have N8 := Fr.snoc X8 N6 g_arr
  refine own_go st8 ?_
  show own_Ends _ _ _ _ (T8.setTop (mkF mM 51 #[.val (.ref a), .val (.long x), .second] []))
  refine own_go (fun _ k => XS.aloadN X8.here hx rfl (hb hby own_d6_51) rfl rfl k) ?_
  show own_Ends _ _ _ _ (T8.setTop (mkF mM 52 #[.val (.ref a), .val (.long x), .second] [(.ref a)]))
  refine own_go (fun _ k => XS.dup X8.here hx rfl (hb hby own_d6_52) rfl rfl k) ?_
  show own_Ends _ _ _ _ (T8.setTop (mkF mM 53 #[.val (.ref a), .val (.long x), .second] [(.ref a), (.ref a)]))
  obtain ⟨T9, X9, e9, st9⟩ := getF X8 hx hZ hown (host := "") (Or.inl (hw _ (List.mem_of_getElem? (i := 37) rfl))) (Via.of (hw _ (List.mem_of_getElem? (i := 38) rfl))) e8 ((F2.other W6 (Or.inr (slot_ne (Or.inl (hw _ (List.mem_of_getElem? (i := 21) rfl))) (Or.inl (hw _ (List.mem_of_getElem? (i := 31) rfl))) (by decide) (t := .int) (t' := .int) (by decide) (by decide)))).other W8 (Or.inl hne)) (g := (mkF mM 53 #[.val (.ref a), .val (.long x), .second] [(.ref a), (.ref a)])) rfl rfl (hb hby own_d6_53)
  refine own_go st9 ?_
  show own_Ends _ _ _ _ (T9.setTop (mkF mM 56 #[.val (.ref a), .val (.long x), .second] [(.int mc), (.ref a)]))
  refine own_go (fun _ k => XS.iconst X9.here hx rfl (hb hby own_d6_56) k) ?_
  show own_Ends _ _ _ _ (T9.setTop (mkF mM 57 #[.val (.ref a), .val (.long x), .second] [(.int (1 : Int32)), (.int mc), (.ref a)]))
  refine own_go (fun _ k => XS.iadd X9.here hx rfl (hb hby own_d6_57) rfl k) ?_
  show own_Ends _ _ _ _ (T9.setTop (mkF mM 58 #[.val (.ref a), .val (.long x), .second] [(.int (mc + (1 : Int32))), (.ref a)]))
  rw [← hm1]
  show own_Ends _ _ _ _ (T9.setTop (mkF mM 58 #[.val (.ref a), .val (.long x), .second] [(.int mc'), (.ref a)]))
  obtain ⟨T10, h10, X10, e10, W10, st10⟩ := putF X9 hx hZ hown (host := "") (Or.inl (hw _ (List.mem_of_getElem? (i := 37) rfl))) (Via.of (hw _ (List.mem_of_getElem? (i := 38) rfl))) e9 ((F2.other W6 (Or.inr (slot_ne (Or.inl (hw _ (List.mem_of_getElem? (i := 21) rfl))) (Or.inl (hw _ (List.mem_of_getElem? (i := 31) rfl))) (by decide) (t := .int) (t' := .int) (by decide) (by decide)))).other W8 (Or.inl hne)) ((E.wr W6).wr W8) (Or.inl (hw _ (List.mem_of_getElem? (i := 21) rfl))) (hw _ (List.mem_of_getElem? (i := 1) rfl)) (ty := .int) (by decide) rfl rfl (g := (mkF mM 58 #[.val (.ref a), .val (.long x), .second] [(.int mc'), (.ref a)])) rfl rfl (hb hby own_d6_58)
  have Fw10 := ((F2.other W6 (Or.inr (slot_ne (Or.inl (hw _ (List.mem_of_getElem? (i := 21) rfl))) (Or.inl (hw _ (List.mem_of_getElem? (i := 31) rfl))) (by decide) (t := .int) (t' := .int) (by decide) (by decide)))).other W8 (Or.inl hne)).same W10
  have O10 := O8.wr W10 g_a
  have K10 := K8.wr W10 (Or.inl (List.mem_of_getElem? (i := 0) rfl))
  have N10 := Fr.snoc X10 N8 g_a
  refine own_go st10 ?_
  show own_Ends _ _ _ _ (T10.setTop (mkF mM 61 #[.val (.ref a), .val (.long x), .second] []))
  exact own_retV X10 hx (BodyLoose.notSynchronized Bd) (st := []) Bd.returns (hb hby own_d6_61) (by decide) (by decide) (by rw [e10]; exact ⟨rfl, N10, K10, (((E.wr W6).wr W8).wr W10), ((Fw6.other W8 (Or.inl hne)).other W10 (Or.inr (slot_ne (Or.inl (hw _ (List.mem_of_getElem? (i := 31) rfl))) (Or.inl (hw _ (List.mem_of_getElem? (i := 21) rfl))) (by decide) (t := .int) (t' := .int) (by decide) (by decide)))), Fw10, (((F3.other W6 (Or.inr (slot_ne (Or.inl (hw _ (List.mem_of_getElem? (i := 24) rfl))) (Or.inl (hw _ (List.mem_of_getElem? (i := 31) rfl))) (by decide) (t := (.array .long)) (t' := .int) (by decide) (by decide)))).other W8 (Or.inl hne)).other W10 (Or.inr (slot_ne (Or.inl (hw _ (List.mem_of_getElem? (i := 24) rfl))) (Or.inl (hw _ (List.mem_of_getElem? (i := 21) rfl))) (by decide) (t := (.array .long)) (t' := .int) (by decide) (by decide)))), (V8.other W10 (Ne.symm hne))⟩)
theorem own_d16_0 : decode jdk_29_method_69_code 0 = .ok (.iload_n 0, 1) := by decide +kernel
theorem own_d16_1 : decode jdk_29_method_69_code 1 = .ok (.iload_n 1, 1) := by decide +kernel
theorem own_d16_2 : decode jdk_29_method_69_code 2 = .ok (.if_icmp .gt 7, 3) := by decide +kernel
theorem own_d16_5 : decode jdk_29_method_69_code 5 = .ok (.iload_n 0, 1) := by decide +kernel
theorem own_d16_6 : decode jdk_29_method_69_code 6 = .ok (.goto 4, 3) := by decide +kernel
theorem own_d16_9 : decode jdk_29_method_69_code 9 = .ok (.iload_n 1, 1) := by decide +kernel
theorem own_d16_10 : decode jdk_29_method_69_code 10 = .ok (.ireturn, 1) := by decide +kernel
theorem own_ef_own_min (m : MethodId) (x0 : Int32) (x1 : Int32) : entryFrame m #[(.int x0), (.int x1)] 2 = mkF m 0 #[.val (.int x0), .val (.int x1)] [] := by first | (simp [entryFrame, mkF, argsToLocals, Value.category]; done) | rfl
def Q_own_min (Z : State) (p : Int32) (q : Int32) (r : Int32) (h0 : Heap) (n0 : Nat) (v : Option Value) (h : Heap) (L : List Loc) : Prop := v = some (.int r) ∧ Fr n0 L ∧ h = h0
set_option maxRecDepth 65536 in
set_option maxHeartbeats 40000000 in
theorem own_min (l : Launch) (Z : State) (a0 : Array Value) (hw : ∀ d ∈ tables_1, d.before a0 Z = true) (ws : List Jvm.Cond) (p : Int32) (q : Int32) (r : Int32) (h0 : Heap) (n0 : Nat) (O0 : Old Z n0 h0) (hr : r = if q < p then q else p) :
    MetFree l (⟨"java/lang/Math", "min", "(II)I"⟩ : MethodName) (head1 (Jvm.Cond.code (⟨"java/lang/Math", "min", "(II)I"⟩ : MethodName) jdk_29_method_69_code 2 (some .int) :: ws) ({ frames := 0, cells := 0, slots := 0, locals := 0 } : Room)) (fun args_ U => args_ = #[(.int p), (.int q)] ∧ Z.Warmed39 U.vm ∧ U.heap = h0) (fun _ _ _ _ _ => True) (fun _ U o U' => ∃ v L, o = .returned v ∧ Q_own_min Z p q r h0 n0 v U'.heap L ∧ FrameEnd U o U' L ({ frames := 0, cells := 0, slots := 0, locals := 0 } : Room).cells ({ frames := 0, cells := 0, slots := 0, locals := 0 } : Room).slots) := by
  refine MetFree.of_bodySF (Jvm.Free.JP.mathPlain rfl (by decide +kernel)) hisR ?_
  intro pP eE sS mM args below meth cC s₁ Bd hml0 hP hK
  obtain ⟨rfl, hZ, hh⟩ := hP
  have hx := Bd.exec
  have hby := Bd.bytes
  have hml : cC.maxLocals = 2 := hml0
  have hown : sS.vm.findClass "java/lang/Math" = some mM.cls := findClass_of_methodNamed Bd.named
  have hnm := (name_of_methodNamed Bd.named Bd.method).1
  have X0 : Stand pP l eE ({ frames := 0, cells := 0, slots := 0, locals := 0 } : Room) sS mM #[(.int p), (.int q)] below meth cC s₁ [] 0 0 := Stand.of_body Bd
  have e0 : s₁.heap = h0 := by rw [← hh, Bd.state]; rfl
  have N0 := Fr.nil n0
  show own_Ends pP eE below (own_Got sS (Q_own_min Z p q r h0 n0) ({ frames := 0, cells := 0, slots := 0, locals := 0 } : Room).cells ({ frames := 0, cells := 0, slots := 0, locals := 0 } : Room).slots) (s₁.setTop (entryFrame mM #[(.int p), (.int q)] 2))
  rw [own_ef_own_min mM p q]
  refine own_go (fun _ k => XS.iloadN X0.here hx rfl (hb hby own_d16_0) rfl k) ?_
  show own_Ends _ _ _ _ (s₁.setTop (mkF mM 1 #[.val (.int p), .val (.int q)] [(.int p)]))
  refine own_go (fun _ k => XS.iloadN X0.here hx rfl (hb hby own_d16_1) rfl k) ?_
  show own_Ends _ _ _ _ (s₁.setTop (mkF mM 2 #[.val (.int p), .val (.int q)] [(.int q), (.int p)]))
  by_cases hc2_0 : q < p
  · refine own_go (fun _ k => XS.icmpYes X0.here hx rfl (pc0 := 2) (pc' := 9) rfl (hb hby own_d16_2) rfl (tlt hc2_0).2.2.1 (by decide) (by decide) k) ?_
    show own_Ends _ _ _ _ (s₁.setTop (mkF mM 9 #[.val (.int p), .val (.int q)] []))
    refine own_go (fun _ k => XS.iloadN X0.here hx rfl (hb hby own_d16_9) rfl k) ?_
    show own_Ends _ _ _ _ (s₁.setTop (mkF mM 10 #[.val (.int p), .val (.int q)] [(.int q)]))
    exact own_retI X0 hx (BodyLoose.notSynchronized Bd) Bd.returns (hb hby own_d16_10) (by decide) (by decide) (by rw [e0]; exact ⟨by rw [hr, if_pos hc2_0], N0, rfl⟩)
  · refine own_go (fun _ k => XS.icmpNo X0.here hx rfl (hb hby own_d16_2) rfl (flt hc2_0).2.2.1 k) ?_
    show own_Ends _ _ _ _ (s₁.setTop (mkF mM 5 #[.val (.int p), .val (.int q)] []))
    refine own_go (fun _ k => XS.iloadN X0.here hx rfl (hb hby own_d16_5) rfl k) ?_
    show own_Ends _ _ _ _ (s₁.setTop (mkF mM 6 #[.val (.int p), .val (.int q)] [(.int p)]))
    refine own_go (fun _ k => XS.goto X0.here hx rfl (pc0 := 6) (pc' := 10) rfl (hb hby own_d16_6) (by decide) (by decide) k) ?_
    show own_Ends _ _ _ _ (s₁.setTop (mkF mM 10 #[.val (.int p), .val (.int q)] [(.int p)]))
    exact own_retI X0 hx (BodyLoose.notSynchronized Bd) Bd.returns (hb hby own_d16_10) (by decide) (by decide) (by rw [e0]; exact ⟨by rw [hr, if_neg hc2_0], N0, rfl⟩)
theorem own_d15_0 : decode jdk_65_method_124_code 0 = .ok (.iload_n 1, 1) := by decide +kernel
theorem own_d15_1 : decode jdk_65_method_124_code 1 = .ok (.aload_n 0, 1) := by decide +kernel
theorem own_d15_2 : decode jdk_65_method_124_code 2 = .ok (.arraylength, 1) := by decide +kernel
theorem own_d15_3 : decode jdk_65_method_124_code 3 = .ok (.if_icmp .ne 11, 3) := by decide +kernel
theorem own_d15_14 : decode jdk_65_method_124_code 14 = .ok (.iload_n 1, 1) := by decide +kernel
theorem own_d15_15 : decode jdk_65_method_124_code 15 = .ok (.newarray .long, 2) := by decide +kernel
theorem own_d15_17 : decode jdk_65_method_124_code 17 = .ok (.astore_n 2, 1) := by decide +kernel
theorem own_d15_18 : decode jdk_65_method_124_code 18 = .ok (.aload_n 0, 1) := by decide +kernel
theorem own_d15_19 : decode jdk_65_method_124_code 19 = .ok (.iconst 0, 1) := by decide +kernel
theorem own_d15_20 : decode jdk_65_method_124_code 20 = .ok (.aload_n 2, 1) := by decide +kernel
theorem own_d15_21 : decode jdk_65_method_124_code 21 = .ok (.iconst 0, 1) := by decide +kernel
theorem own_d15_22 : decode jdk_65_method_124_code 22 = .ok (.aload_n 0, 1) := by decide +kernel
theorem own_d15_23 : decode jdk_65_method_124_code 23 = .ok (.arraylength, 1) := by decide +kernel
theorem own_d15_24 : decode jdk_65_method_124_code 24 = .ok (.iload_n 1, 1) := by decide +kernel
theorem own_d15_25 : decode jdk_65_method_124_code 25 = .ok (.invokestatic 304, 3) := by decide +kernel
theorem own_d15_28 : decode jdk_65_method_124_code 28 = .ok (.invokestatic 150, 3) := by decide +kernel
theorem own_d15_31 : decode jdk_65_method_124_code 31 = .ok (.aload_n 2, 1) := by decide +kernel
theorem own_d15_32 : decode jdk_65_method_124_code 32 = .ok (.areturn, 1) := by decide +kernel
theorem own_ef_own_copyOf (m : MethodId) (x0 : Addr) (x1 : Int32) : entryFrame m #[(.ref x0), (.int x1)] 3 = mkF m 0 #[.val (.ref x0), .val (.int x1), .unset] [] := by first | (simp [entryFrame, mkF, argsToLocals, Value.category]; done) | rfl
def Q_own_copyOf (Z : State) (arr : Addr) (m : Int32) (kk : ClassId) (va : Int64) (vb : Int64) (vc : Int64) (h0 : Heap) (n0 : Nat) (v : Option Value) (h : Heap) (L : List Loc) : Prop := ∃ (b : Addr) (k2 : ClassId), v = some (.ref b) ∧ Fr n0 L ∧ n0 ≤ b ∧ h0.size ≤ b ∧ Keep h0 h [] ∧ Arv Z h b k2 .long (24 : Int32) [(.long va), (.long vb), (.long vc), (.long vc), (.long vc), (.long vc), (.long vc), (.long vc), (.long vc), (.long vc), (.long vc), (.long vc), (.long vc), (.long vc), (.long vc), (.long vc), (.long (0 : Int64)), (.long (0 : Int64)), (.long (0 : Int64)), (.long (0 : Int64)), (.long (0 : Int64)), (.long (0 : Int64)), (.long (0 : Int64)), (.long (0 : Int64))] (.long (0 : Int64))
theorem own_pn_java_util_Arrays : plainName "java/util/Arrays" = true := by first | (simp [plainName, overriddenIn]; done) | decide +kernel
set_option maxRecDepth 65536 in
set_option maxHeartbeats 40000000 in
theorem own_copyOf (l : Launch) (Z : State) (a0 : Array Value) (hw : ∀ d ∈ tables_1, d.before a0 Z = true) (ws : List Jvm.Cond) (arr : Addr) (m : Int32) (kk : ClassId) (va : Int64) (vb : Int64) (vc : Int64) (h0 : Heap) (n0 : Nat) (O0 : Old Z n0 h0) (hm : m = (24 : Int32)) (VA : Arv Z h0 arr kk .long (16 : Int32) [(.long va), (.long vb), (.long vc), (.long vc), (.long vc), (.long vc), (.long vc), (.long vc), (.long vc), (.long vc), (.long vc), (.long vc), (.long vc), (.long vc), (.long vc), (.long vc)] (.long (0 : Int64))) :
    MetFree l (⟨"java/util/Arrays", "copyOf", "([JI)[J"⟩ : MethodName) (head1 (Jvm.Cond.code (⟨"java/util/Arrays", "copyOf", "([JI)[J"⟩ : MethodName) jdk_65_method_124_code 3 (some (.array .long)) :: ws) ({ frames := 1, cells := 1, slots := 24, locals := 18 } : Room)) (fun args_ U => args_ = #[(.ref arr), (.int m)] ∧ Z.Warmed39 U.vm ∧ U.heap = h0) (fun _ _ _ _ _ => True) (fun _ U o U' => ∃ v L, o = .returned v ∧ Q_own_copyOf Z arr m kk va vb vc h0 n0 v U'.heap L ∧ FrameEnd U o U' L ({ frames := 1, cells := 1, slots := 24, locals := 18 } : Room).cells ({ frames := 1, cells := 1, slots := 24, locals := 18 } : Room).slots) := by
  refine MetFree.of_bodySF (plainFor_of_name own_pn_java_util_Arrays) hisR ?_
  intro pP eE sS mM args below meth cC s₁ Bd hml0 hP hK
  obtain ⟨rfl, hZ, hh⟩ := hP
  have hx := Bd.exec
  have hby := Bd.bytes
  have hml : cC.maxLocals = 3 := hml0
  have hown : sS.vm.findClass "java/util/Arrays" = some mM.cls := findClass_of_methodNamed Bd.named
  have hnm := (name_of_methodNamed Bd.named Bd.method).1
  have X0 : Stand pP l eE ({ frames := 1, cells := 1, slots := 24, locals := 18 } : Room) sS mM #[(.ref arr), (.int m)] below meth cC s₁ [] 0 0 := Stand.of_body Bd
  have e0 : s₁.heap = h0 := by rw [← hh, Bd.state]; rfl
  have N0 := Fr.nil n0
  show own_Ends pP eE below (own_Got sS (Q_own_copyOf Z arr m kk va vb vc h0 n0) ({ frames := 1, cells := 1, slots := 24, locals := 18 } : Room).cells ({ frames := 1, cells := 1, slots := 24, locals := 18 } : Room).slots) (s₁.setTop (entryFrame mM #[(.ref arr), (.int m)] 3))
  rw [own_ef_own_copyOf mM arr m]
  subst hm
  show own_Ends _ _ _ _ (s₁.setTop (mkF mM 0 #[.val (.ref arr), .val (.int (24 : Int32)), .unset] []))
  refine own_go (fun _ k => XS.iloadN X0.here hx rfl (hb hby own_d15_0) rfl k) ?_
  show own_Ends _ _ _ _ (s₁.setTop (mkF mM 1 #[.val (.ref arr), .val (.int (24 : Int32)), .unset] [(.int (24 : Int32))]))
  refine own_go (fun _ k => XS.aloadN X0.here hx rfl (hb hby own_d15_1) rfl rfl k) ?_
  show own_Ends _ _ _ _ (s₁.setTop (mkF mM 2 #[.val (.ref arr), .val (.int (24 : Int32)), .unset] [(.ref arr), (.int (24 : Int32))]))
  obtain ⟨cl1, Ar1, aq1, aS1, aN1, aH1, aG1⟩ := id VA
  refine own_go (X0.arraylength hx (by rw [e0]; exact Ar1.1) (State.isArrayOf_alike hZ.alike Ar1.2.1) (g := (mkF mM 2 #[.val (.ref arr), .val (.int (24 : Int32)), .unset] [(.ref arr), (.int (24 : Int32))])) rfl rfl (hb hby own_d15_2)) ?_
  rw [len_of aS1 aN1]
  show own_Ends _ _ _ _ (s₁.setTop (mkF mM 3 #[.val (.ref arr), .val (.int (24 : Int32)), .unset] [(.int (16 : Int32)), (.int (24 : Int32))]))
  refine own_go (fun _ k => XS.icmpYes X0.here hx rfl (pc0 := 3) (pc' := 14) rfl (hb hby own_d15_3) rfl (feq (by decide : ¬ ((24 : Int32) = (16 : Int32)))).2 (by decide) (by decide) k) ?_
  show own_Ends _ _ _ _ (s₁.setTop (mkF mM 14 #[.val (.ref arr), .val (.int (24 : Int32)), .unset] []))
  refine own_go (fun _ k => XS.iloadN X0.here hx rfl (hb hby own_d15_14) rfl k) ?_
  show own_Ends _ _ _ _ (s₁.setTop (mkF mM 15 #[.val (.ref arr), .val (.int (24 : Int32)), .unset] [(.int (24 : Int32))]))
  obtain ⟨T2, h2, ka2, X2, e2, E2, A2, st2⟩ := newP X0 hx hZ (hw _ (List.mem_of_getElem? (i := 22) rfl)) e0 (g := (mkF mM 15 #[.val (.ref arr), .val (.int (24 : Int32)), .unset] [(.int (24 : Int32))])) rfl (hb hby own_d15_15) rfl (by decide) (cap := 24) (by decide) (by decide) (by decide) (by decide)
  obtain ⟨b2, g2⟩ : ∃ z, z = h0.size := ⟨_, rfl⟩
  rw [← g2] at A2 st2
  have O2 := O0.ext E2
  have g_b2 : n0 ≤ b2 := by rw [g2, ← O0.1]; exact O0.2.1
  have sz_b2 : h0.size ≤ b2 := Nat.le_trans (Keep.refl h0 []).1 (Nat.le_of_eq g2.symm)
  have K2 := (Keep.refl h0 []).ext E2
  have V_b2 : Arv Z h2 b2 ka2 .long (24 : Int32) [(.long (0 : Int64)), (.long (0 : Int64)), (.long (0 : Int64)), (.long (0 : Int64)), (.long (0 : Int64)), (.long (0 : Int64)), (.long (0 : Int64)), (.long (0 : Int64)), (.long (0 : Int64)), (.long (0 : Int64)), (.long (0 : Int64)), (.long (0 : Int64)), (.long (0 : Int64)), (.long (0 : Int64)), (.long (0 : Int64)), (.long (0 : Int64)), (.long (0 : Int64)), (.long (0 : Int64)), (.long (0 : Int64)), (.long (0 : Int64)), (.long (0 : Int64)), (.long (0 : Int64)), (.long (0 : Int64)), (.long (0 : Int64))] (.long (0 : Int64)) := (Arv.new A2 (by decide)).pad (pad_rep [] (.long (0 : Int64)) 24)
  refine own_go st2 ?_
  show own_Ends _ _ _ _ (T2.setTop (mkF mM 17 #[.val (.ref arr), .val (.int (24 : Int32)), .unset] [(.ref b2)]))
  refine own_go (fun _ k => XS.astoreN X2.here hx rfl (hb hby own_d15_17) rfl rfl (l' := #[.val (.ref arr), .val (.int (24 : Int32)), .val (.ref b2)]) rfl k) ?_
  show own_Ends _ _ _ _ (T2.setTop (mkF mM 18 #[.val (.ref arr), .val (.int (24 : Int32)), .val (.ref b2)] []))
  refine own_go (fun _ k => XS.aloadN X2.here hx rfl (hb hby own_d15_18) rfl rfl k) ?_
  show own_Ends _ _ _ _ (T2.setTop (mkF mM 19 #[.val (.ref arr), .val (.int (24 : Int32)), .val (.ref b2)] [(.ref arr)]))
  refine own_go (fun _ k => XS.iconst X2.here hx rfl (hb hby own_d15_19) k) ?_
  show own_Ends _ _ _ _ (T2.setTop (mkF mM 20 #[.val (.ref arr), .val (.int (24 : Int32)), .val (.ref b2)] [(.int (0 : Int32)), (.ref arr)]))
  refine own_go (fun _ k => XS.aloadN X2.here hx rfl (hb hby own_d15_20) rfl rfl k) ?_
  show own_Ends _ _ _ _ (T2.setTop (mkF mM 21 #[.val (.ref arr), .val (.int (24 : Int32)), .val (.ref b2)] [(.ref b2), (.int (0 : Int32)), (.ref arr)]))
  refine own_go (fun _ k => XS.iconst X2.here hx rfl (hb hby own_d15_21) k) ?_
  show own_Ends _ _ _ _ (T2.setTop (mkF mM 22 #[.val (.ref arr), .val (.int (24 : Int32)), .val (.ref b2)] [(.int (0 : Int32)), (.ref b2), (.int (0 : Int32)), (.ref arr)]))
  refine own_go (fun _ k => XS.aloadN X2.here hx rfl (hb hby own_d15_22) rfl rfl k) ?_
  show own_Ends _ _ _ _ (T2.setTop (mkF mM 23 #[.val (.ref arr), .val (.int (24 : Int32)), .val (.ref b2)] [(.ref arr), (.int (0 : Int32)), (.ref b2), (.int (0 : Int32)), (.ref arr)]))
  obtain ⟨cl3, Ar3, aq3, aS3, aN3, aH3, aG3⟩ := id (VA.ext E2)
  refine own_go (X2.arraylength hx (by rw [e2]; exact Ar3.1) (State.isArrayOf_alike hZ.alike Ar3.2.1) (g := (mkF mM 23 #[.val (.ref arr), .val (.int (24 : Int32)), .val (.ref b2)] [(.ref arr), (.int (0 : Int32)), (.ref b2), (.int (0 : Int32)), (.ref arr)])) rfl rfl (hb hby own_d15_23)) ?_
  rw [len_of aS3 aN3]
  show own_Ends _ _ _ _ (T2.setTop (mkF mM 24 #[.val (.ref arr), .val (.int (24 : Int32)), .val (.ref b2)] [(.int (16 : Int32)), (.int (0 : Int32)), (.ref b2), (.int (0 : Int32)), (.ref arr)]))
  refine own_go (fun _ k => XS.iloadN X2.here hx rfl (hb hby own_d15_24) rfl k) ?_
  show own_Ends _ _ _ _ (T2.setTop (mkF mM 25 #[.val (.ref arr), .val (.int (24 : Int32)), .val (.ref b2)] [(.int (24 : Int32)), (.int (16 : Int32)), (.int (0 : Int32)), (.ref b2), (.int (0 : Int32)), (.ref arr)]))
  obtain ⟨_, _, ⟨T4, Lz4, kz4, nz4⟩, -, X4, ⟨Lc4, hQ4, l4, y4, z4⟩, st4⟩ := Jvm.LawKit.callS X2 hx (y := (⟨"java/lang/Math", "min", "(II)I"⟩ : MethodName)) hown (mvT hZ (hw _ (List.mem_of_getElem? (i := 88) rfl))) (mvT hZ (hw _ (List.mem_of_getElem? (i := 89) rfl))) (mvT hZ (hw _ (List.mem_of_getElem? (i := 90) rfl))) (mvT hZ (hw _ (List.mem_of_getElem? (i := 91) rfl))) (by decide) (backOf (W := 4) (own_min l Z a0 hw [] (16 : Int32) (24 : Int32) (16 : Int32) h2 n0 O2 (by decide +kernel)) hZ (hw _ (List.mem_of_getElem? (i := 91) rfl)) (hw _ (List.mem_of_getElem? (i := 90) rfl)) (by decide) (by decide)) (g := (mkF mM 25 #[.val (.ref arr), .val (.int (24 : Int32)), .val (.ref b2)] [(.int (24 : Int32)), (.int (16 : Int32)), (.int (0 : Int32)), (.ref b2), (.int (0 : Int32)), (.ref arr)])) rfl (by rw [hml]; rfl) (argsL := [(.int (16 : Int32)), (.int (24 : Int32))]) (rest := [(.int (0 : Int32)), (.ref b2), (.int (0 : Int32)), (.ref arr)]) (lenOf own_pd3 rfl) rfl (by show 2 * 0 + _ ≤ _; exact Nat.le_of_eq rfl) (hb hby own_d15_25) (fun _ _ => ⟨rfl, e2, (by decide : 1 + 0 ≤ _), (by decide : 24 + 0 ≤ _)⟩)
  dsimp only [Pt.U, Pt.locs, Pt.cells, Pt.slots] at X4 l4 y4 z4 st4 hQ4
  obtain ⟨rfl, Nq4, e4⟩ := hQ4
  have N4 := Fr.app N0 Nq4
  obtain ⟨Lw4, Nw4, Xw4⟩ := own_pack (k' := 1) (n' := 24) X4 l4 y4 z4 N4
  clear X4
  refine own_go st4 ?_
  show own_Ends _ _ _ _ (T4.setTop (mkF mM 28 #[.val (.ref arr), .val (.int (24 : Int32)), .val (.ref b2)] [(.int (16 : Int32)), (.int (0 : Int32)), (.ref b2), (.int (0 : Int32)), (.ref arr)]))
  obtain ⟨T5, h5, L5, X5, e5, N5, Kc5, Vc5, st5⟩ := cpA Xw4 hx hZ hown (hw _ (List.mem_of_getElem? (i := 92) rfl)) (hw _ (List.mem_of_getElem? (i := 95) rfl)) (hw _ (List.mem_of_getElem? (i := 93) rfl)) (hw _ (List.mem_of_getElem? (i := 94) rfl)) e4 (VA.ext E2) V_b2 (Or.inl ⟨rfl, rfl⟩) (sp := (0 : Int32)) (dp := (0 : Int32)) (nn := (16 : Int32)) (us := [(.long va), (.long vb), (.long vc), (.long vc), (.long vc), (.long vc), (.long vc), (.long vc), (.long vc), (.long vc), (.long vc), (.long vc), (.long vc), (.long vc), (.long vc), (.long vc)]) (by decide) (by decide) (by decide) (by decide) (by decide) rfl (Nat.le_of_ble_eq_true rfl) Nw4 g_b2 (g := (mkF mM 28 #[.val (.ref arr), .val (.int (24 : Int32)), .val (.ref b2)] [(.int (16 : Int32)), (.int (0 : Int32)), (.ref b2), (.int (0 : Int32)), (.ref arr)])) rfl (by rw [hml]; rfl) (rest := []) rfl (hb hby own_d15_28) (by decide) (W := 0) (by show 2 * 0 + _ ≤ _; exact Nat.le_of_eq rfl) (by decide)
  have V5 : Arv Z h5 b2 ka2 .long (24 : Int32) [(.long va), (.long vb), (.long vc), (.long vc), (.long vc), (.long vc), (.long vc), (.long vc), (.long vc), (.long vc), (.long vc), (.long vc), (.long vc), (.long vc), (.long vc), (.long vc), (.long (0 : Int64)), (.long (0 : Int64)), (.long (0 : Int64)), (.long (0 : Int64)), (.long (0 : Int64)), (.long (0 : Int64)), (.long (0 : Int64)), (.long (0 : Int64))] (.long (0 : Int64)) := Vc5
  have O5 := O2.keep Kc5 (allS g_b2 all0)
  have Kk5 := K2.trans Kc5 (allS (Or.inr sz_b2) (all0))
  refine own_go st5 ?_
  show own_Ends _ _ _ _ (T5.setTop (mkF mM 31 #[.val (.ref arr), .val (.int (24 : Int32)), .val (.ref b2)] []))
  refine own_go (fun _ k => XS.aloadN X5.here hx rfl (hb hby own_d15_31) rfl rfl k) ?_
  show own_Ends _ _ _ _ (T5.setTop (mkF mM 32 #[.val (.ref arr), .val (.int (24 : Int32)), .val (.ref b2)] [(.ref b2)]))
  exact own_retR X5 hx (BodyLoose.notSynchronized Bd) Bd.returns rfl rfl (hb hby own_d15_32) (by decide) (by decide) (by rw [e5]; exact ⟨b2, ka2, rfl, N5, g_b2, sz_b2, Kk5, V5⟩)
theorem own_pd5 : parseMethodDescriptor "([JI)[J" = some ⟨[(.array .long), .int], some (.array .long)⟩ := by decide +kernel
theorem own_d6_12 : decode prog_67_method_2_code 12 = .ok (.aload_n 0, 1) := by decide +kernel
theorem own_d6_13 : decode prog_67_method_2_code 13 = .ok (.aload_n 0, 1) := by decide +kernel
theorem own_d6_14 : decode prog_67_method_2_code 14 = .ok (.getfield 7, 3) := by decide +kernel
theorem own_d6_17 : decode prog_67_method_2_code 17 = .ok (.aload_n 0, 1) := by decide +kernel
theorem own_d6_18 : decode prog_67_method_2_code 18 = .ok (.getfield 13, 3) := by decide +kernel
theorem own_d6_21 : decode prog_67_method_2_code 21 = .ok (.aload_n 0, 1) := by decide +kernel
theorem own_d6_22 : decode prog_67_method_2_code 22 = .ok (.getfield 13, 3) := by decide +kernel
theorem own_d6_25 : decode prog_67_method_2_code 25 = .ok (.iconst 1, 1) := by decide +kernel
theorem own_d6_26 : decode prog_67_method_2_code 26 = .ok (.ishr, 1) := by decide +kernel
theorem own_d6_27 : decode prog_67_method_2_code 27 = .ok (.iadd, 1) := by decide +kernel
theorem own_d6_28 : decode prog_67_method_2_code 28 = .ok (.invokestatic 17, 3) := by decide +kernel
theorem own_d6_31 : decode prog_67_method_2_code 31 = .ok (.putfield 7, 3) := by decide +kernel
theorem own_ef_own_addG (m : MethodId) (x0 : Addr) (x1 : Int64) : entryFrame m #[(.ref x0), (.long x1)] 3 = mkF m 0 #[.val (.ref x0), .val (.long x1), .second] [] := by first | (simp [entryFrame, mkF, argsToLocals, Value.category]; done) | rfl
def Q_own_addG (Z : State) (a : Addr) (x : Int64) (arr : Addr) (kk : ClassId) (va : Int64) (vb : Int64) (vc : Int64) (h0 : Heap) (n0 : Nat) (v : Option Value) (h : Heap) (L : List Loc) : Prop := v = none ∧ Fr n0 L ∧ Keep h0 h [a] ∧ ∃ (b : Addr) (k2 : ClassId), n0 ≤ b ∧ a ≠ b ∧ Exa Z h a "com/example/reckon/reckon/io/LineList" ∧ Fld Z h a "com/example/reckon/reckon/io/LineList" "size" "I" (.int (17 : Int32)) ∧ Fld Z h a "java/util/AbstractList" "modCount" "I" (.int (17 : Int32)) ∧ Fld Z h a "com/example/reckon/reckon/io/LineList" "lines" "[J" (.ref b) ∧ Arv Z h b k2 .long (24 : Int32) [(.long va), (.long vb), (.long vc), (.long vc), (.long vc), (.long vc), (.long vc), (.long vc), (.long vc), (.long vc), (.long vc), (.long vc), (.long vc), (.long vc), (.long vc), (.long vc), (.long x), (.long (0 : Int64)), (.long (0 : Int64)), (.long (0 : Int64)), (.long (0 : Int64)), (.long (0 : Int64)), (.long (0 : Int64)), (.long (0 : Int64))] (.long (0 : Int64))
set_option maxRecDepth 65536 in
set_option maxHeartbeats 40000000 in
theorem own_addG (l : Launch) (Z : State) (a0 : Array Value) (hw : ∀ d ∈ tables_1, d.before a0 Z = true) (ws : List Jvm.Cond) (a : Addr) (x : Int64) (arr : Addr) (kk : ClassId) (va : Int64) (vb : Int64) (vc : Int64) (h0 : Heap) (n0 : Nat) (O0 : Old Z n0 h0) (g_a : n0 ≤ a) (hne : a ≠ arr) (E : Exa Z h0 a "com/example/reckon/reckon/io/LineList") (F1 : Fld Z h0 a "com/example/reckon/reckon/io/LineList" "size" "I" (.int (16 : Int32))) (F2 : Fld Z h0 a "java/util/AbstractList" "modCount" "I" (.int (16 : Int32))) (F3 : Fld Z h0 a "com/example/reckon/reckon/io/LineList" "lines" "[J" (.ref arr)) (VA : Arv Z h0 arr kk .long (16 : Int32) [(.long va), (.long vb), (.long vc), (.long vc), (.long vc), (.long vc), (.long vc), (.long vc), (.long vc), (.long vc), (.long vc), (.long vc), (.long vc), (.long vc), (.long vc), (.long vc)] (.long (0 : Int64))) :
    MetFree l (⟨"com/example/reckon/reckon/io/LineList", "add", "(J)V"⟩ : MethodName) (head1 (Jvm.Cond.code (⟨"com/example/reckon/reckon/io/LineList", "add", "(J)V"⟩ : MethodName) prog_67_method_2_code 3 none :: ws) ({ frames := 2, cells := 1, slots := 24, locals := 33 } : Room)) (fun args_ U => args_ = #[(.ref a), (.long x)] ∧ Z.Warmed39 U.vm ∧ U.heap = h0) (fun _ _ _ _ _ => True) (fun _ U o U' => ∃ v L, o = .returned v ∧ Q_own_addG Z a x arr kk va vb vc h0 n0 v U'.heap L ∧ FrameEnd U o U' L ({ frames := 2, cells := 1, slots := 24, locals := 33 } : Room).cells ({ frames := 2, cells := 1, slots := 24, locals := 33 } : Room).slots) := by
  refine MetFree.of_bodySF (plainFor_of_name own_pn_com_example_reckon_reckon_io_LineList) hisR ?_
  intro pP eE sS mM args below meth cC s₁ Bd hml0 hP hK
  obtain ⟨rfl, hZ, hh⟩ := hP
  have hx := Bd.exec
  have hby := Bd.bytes
  have hml : cC.maxLocals = 3 := hml0
  have hown : sS.vm.findClass "com/example/reckon/reckon/io/LineList" = some mM.cls := findClass_of_methodNamed Bd.named
  have hnm := (name_of_methodNamed Bd.named Bd.method).1
  have X0 : Stand pP l eE ({ frames := 2, cells := 1, slots := 24, locals := 33 } : Room) sS mM #[(.ref a), (.long x)] below meth cC s₁ [] 0 0 := Stand.of_body Bd
  have e0 : s₁.heap = h0 := by rw [← hh, Bd.state]; rfl
  have N0 := Fr.nil n0
  show own_Ends pP eE below (own_Got sS (Q_own_addG Z a x arr kk va vb vc h0 n0) ({ frames := 2, cells := 1, slots := 24, locals := 33 } : Room).cells ({ frames := 2, cells := 1, slots := 24, locals := 33 } : Room).slots) (s₁.setTop (entryFrame mM #[(.ref a), (.long x)] 3))
  rw [own_ef_own_addG mM a x]
  refine own_go (fun _ k => XS.aloadN X0.here hx rfl (hb hby own_d6_0) rfl rfl k) ?_
  show own_Ends _ _ _ _ (s₁.setTop (mkF mM 1 #[.val (.ref a), .val (.long x), .second] [(.ref a)]))
  obtain ⟨T1, X1, e1, st1⟩ := getF X0 hx hZ hown (host := "") (Or.inl (hw _ (List.mem_of_getElem? (i := 30) rfl))) Via.refl e0 F1 (g := (mkF mM 1 #[.val (.ref a), .val (.long x), .second] [(.ref a)])) rfl rfl (hb hby own_d6_1)
  refine own_go st1 ?_
  show own_Ends _ _ _ _ (T1.setTop (mkF mM 4 #[.val (.ref a), .val (.long x), .second] [(.int (16 : Int32))]))
  refine own_go (fun _ k => XS.aloadN X1.here hx rfl (hb hby own_d6_4) rfl rfl k) ?_
  show own_Ends _ _ _ _ (T1.setTop (mkF mM 5 #[.val (.ref a), .val (.long x), .second] [(.ref a), (.int (16 : Int32))]))
  obtain ⟨T2, X2, e2, st2⟩ := getF X1 hx hZ hown (host := "") (Or.inl (hw _ (List.mem_of_getElem? (i := 23) rfl))) Via.refl e1 F3 (g := (mkF mM 5 #[.val (.ref a), .val (.long x), .second] [(.ref a), (.int (16 : Int32))])) rfl rfl (hb hby own_d6_5)
  refine own_go st2 ?_
  show own_Ends _ _ _ _ (T2.setTop (mkF mM 8 #[.val (.ref a), .val (.long x), .second] [(.ref arr), (.int (16 : Int32))]))
  obtain ⟨cl3, Ar3, aq3, aS3, aN3, aH3, aG3⟩ := id VA
  refine own_go (X2.arraylength hx (by rw [e2]; exact Ar3.1) (State.isArrayOf_alike hZ.alike Ar3.2.1) (g := (mkF mM 8 #[.val (.ref a), .val (.long x), .second] [(.ref arr), (.int (16 : Int32))])) rfl rfl (hb hby own_d6_8)) ?_
  rw [len_of aS3 aN3]
  show own_Ends _ _ _ _ (T2.setTop (mkF mM 9 #[.val (.ref a), .val (.long x), .second] [(.int (16 : Int32)), (.int (16 : Int32))]))
  refine own_go (fun _ k => XS.icmpNo X2.here hx rfl (hb hby own_d6_9) rfl (teq (by decide : (16 : Int32) = (16 : Int32))).2 k) ?_
  show own_Ends _ _ _ _ (T2.setTop (mkF mM 12 #[.val (.ref a), .val (.long x), .second] []))
  refine own_go (fun _ k => XS.aloadN X2.here hx rfl (hb hby own_d6_12) rfl rfl k) ?_
  show own_Ends _ _ _ _ (T2.setTop (mkF mM 13 #[.val (.ref a), .val (.long x), .second] [(.ref a)]))
  refine own_go (fun _ k => XS.aloadN X2.here hx rfl (hb hby own_d6_13) rfl rfl k) ?_
  show own_Ends _ _ _ _ (T2.setTop (mkF mM 14 #[.val (.ref a), .val (.long x), .second] [(.ref a), (.ref a)]))
  obtain ⟨T4, X4, e4, st4⟩ := getF X2 hx hZ hown (host := "") (Or.inl (hw _ (List.mem_of_getElem? (i := 23) rfl))) Via.refl e2 F3 (g := (mkF mM 14 #[.val (.ref a), .val (.long x), .second] [(.ref a), (.ref a)])) rfl rfl (hb hby own_d6_14)
  refine own_go st4 ?_
  show own_Ends _ _ _ _ (T4.setTop (mkF mM 17 #[.val (.ref a), .val (.long x), .second] [(.ref arr), (.ref a)]))
  refine own_go (fun _ k => XS.aloadN X4.here hx rfl (hb hby own_d6_17) rfl rfl k) ?_
  show own_Ends _ _ _ _ (T4.setTop (mkF mM 18 #[.val (.ref a), .val (.long x), .second] [(.ref a), (.ref arr), (.ref a)]))
  obtain ⟨T5, X5, e5, st5⟩ := getF X4 hx hZ hown (host := "") (Or.inl (hw _ (List.mem_of_getElem? (i := 30) rfl))) Via.refl e4 F1 (g := (mkF mM 18 #[.val (.ref a), .val (.long x), .second] [(.ref a), (.ref arr), (.ref a)])) rfl rfl (hb hby own_d6_18)
  refine own_go st5 ?_
  show own_Ends _ _ _ _ (T5.setTop (mkF mM 21 #[.val (.ref a), .val (.long x), .second] [(.int (16 : Int32)), (.ref arr), (.ref a)]))
  refine own_go (fun _ k => XS.aloadN X5.here hx rfl (hb hby own_d6_21) rfl rfl k) ?_
  show own_Ends _ _ _ _ (T5.setTop (mkF mM 22 #[.val (.ref a), .val (.long x), .second] [(.ref a), (.int (16 : Int32)), (.ref arr), (.ref a)]))
  obtain ⟨T6, X6, e6, st6⟩ := getF X5 hx hZ hown (host := "") (Or.inl (hw _ (List.mem_of_getElem? (i := 30) rfl))) Via.refl e5 F1 (g := (mkF mM 22 #[.val (.ref a), .val (.long x), .second] [(.ref a), (.int (16 : Int32)), (.ref arr), (.ref a)])) rfl rfl (hb hby own_d6_22)
  refine own_go st6 ?_
  show own_Ends _ _ _ _ (T6.setTop (mkF mM 25 #[.val (.ref a), .val (.long x), .second] [(.int (16 : Int32)), (.int (16 : Int32)), (.ref arr), (.ref a)]))
  refine own_go (fun _ k => XS.iconst X6.here hx rfl (hb hby own_d6_25) k) ?_
  show own_Ends _ _ _ _ (T6.setTop (mkF mM 26 #[.val (.ref a), .val (.long x), .second] [(.int (1 : Int32)), (.int (16 : Int32)), (.int (16 : Int32)), (.ref arr), (.ref a)]))
  refine own_go (fun _ k => XS.ishr X6.here hx rfl (hb hby own_d6_26) rfl k) ?_
  show own_Ends _ _ _ _ (T6.setTop (mkF mM 27 #[.val (.ref a), .val (.long x), .second] [(.int ((16 : Int32) >>> ((1 : Int32) &&& 31))), (.int (16 : Int32)), (.ref arr), (.ref a)]))
  refine own_go (fun _ k => XS.iadd X6.here hx rfl (hb hby own_d6_27) rfl k) ?_
  show own_Ends _ _ _ _ (T6.setTop (mkF mM 28 #[.val (.ref a), .val (.long x), .second] [(.int ((16 : Int32) + ((16 : Int32) >>> ((1 : Int32) &&& 31)))), (.ref arr), (.ref a)]))
  obtain ⟨_, _, ⟨T7, Lz7, kz7, nz7⟩, -, X7, ⟨Lc7, hQ7, l7, y7, z7⟩, st7⟩ := Jvm.LawKit.callS X6 hx (y := (⟨"java/util/Arrays", "copyOf", "([JI)[J"⟩ : MethodName)) hown (mvT hZ (hw _ (List.mem_of_getElem? (i := 84) rfl))) (mvT hZ (hw _ (List.mem_of_getElem? (i := 85) rfl))) (mvT hZ (hw _ (List.mem_of_getElem? (i := 86) rfl))) (mvT hZ (hw _ (List.mem_of_getElem? (i := 87) rfl))) (by decide) (backOf (W := 1) (own_copyOf l Z a0 hw [] arr ((16 : Int32) + ((16 : Int32) >>> ((1 : Int32) &&& 31))) kk va vb vc h0 n0 O0 (by decide +kernel) VA) hZ (hw _ (List.mem_of_getElem? (i := 87) rfl)) (hw _ (List.mem_of_getElem? (i := 86) rfl)) (by decide) (by decide)) (g := (mkF mM 28 #[.val (.ref a), .val (.long x), .second] [(.int ((16 : Int32) + ((16 : Int32) >>> ((1 : Int32) &&& 31)))), (.ref arr), (.ref a)])) rfl (by rw [hml]; rfl) (argsL := [(.ref arr), (.int ((16 : Int32) + ((16 : Int32) >>> ((1 : Int32) &&& 31))))]) (rest := [(.ref a)]) (lenOf own_pd5 rfl) rfl (by show 2 * 0 + _ ≤ _; exact Nat.le_of_eq rfl) (hb hby own_d6_28) (fun _ _ => ⟨rfl, e6, (by decide : 0 + 1 ≤ _), (by decide : 0 + 24 ≤ _)⟩)
  dsimp only [Pt.U, Pt.locs, Pt.cells, Pt.slots] at X7 l7 y7 z7 st7 hQ7
  obtain ⟨c7, kc7, rfl, Nq7, g_c7, sq7, K7, V_c7⟩ := hQ7
  have N7 := Fr.app N0 Nq7
  have sz_c7 : h0.size ≤ c7 := Nat.le_trans (Keep.refl h0 [a]).1 sq7
  have O7 := O0.keep K7 all0
  have Kk7 := (Keep.refl h0 [a]).trans K7 (all0)
  obtain ⟨Lw7, Nw7, Xw7⟩ := own_pack (k' := 1) (n' := 24) X7 l7 y7 z7 N7
  clear X7
  refine own_go st7 ?_
  show own_Ends _ _ _ _ (T7.setTop (mkF mM 31 #[.val (.ref a), .val (.long x), .second] [(.ref c7), (.ref a)]))
  obtain ⟨T8, h8, X8, e8, W8, st8⟩ := putF Xw7 hx hZ hown (host := "") (Or.inl (hw _ (List.mem_of_getElem? (i := 23) rfl))) Via.refl rfl (F3.keep K7 nin0) (E.keep K7) (Or.inl (hw _ (List.mem_of_getElem? (i := 24) rfl))) (hw _ (List.mem_of_getElem? (i := 1) rfl)) (ty := (.array .long)) (by decide) rfl rfl (g := (mkF mM 31 #[.val (.ref a), .val (.long x), .second] [(.ref c7), (.ref a)])) rfl rfl (hb hby own_d6_31)
  have Fw8 := (F3.keep K7 nin0).same W8
  have O8 := O7.wr W8 g_a
  have K8 := Kk7.wr W8 (Or.inl (List.mem_of_getElem? (i := 0) rfl))
  have N8 := Fr.snoc X8 Nw7 g_a
  refine own_go st8 ?_
  show own_Ends _ _ _ _ (T8.setTop (mkF mM 34 #[.val (.ref a), .val (.long x), .second] []))
  refine own_go (fun _ k => XS.aloadN X8.here hx rfl (hb hby own_d6_34) rfl rfl k) ?_
  show own_Ends _ _ _ _ (T8.setTop (mkF mM 35 #[.val (.ref a), .val (.long x), .second] [(.ref a)]))
  obtain ⟨T9, X9, e9, st9⟩ := getF X8 hx hZ hown (host := "") (Or.inl (hw _ (List.mem_of_getElem? (i := 23) rfl))) Via.refl e8 Fw8 (g := (mkF mM 35 #[.val (.ref a), .val (.long x), .second] [(.ref a)])) rfl rfl (hb hby own_d6_35)
  refine own_go st9 ?_
  show own_Ends _ _ _ _ (T9.setTop (mkF mM 38 #[.val (.ref a), .val (.long x), .second] [(.ref c7)]))
  refine own_go (fun _ k => XS.aloadN X9.here hx rfl (hb hby own_d6_38) rfl rfl k) ?_
  show own_Ends _ _ _ _ (T9.setTop (mkF mM 39 #[.val (.ref a), .val (.long x), .second] [(.ref a), (.ref c7)]))
  refine own_go (fun _ k => XS.dup X9.here hx rfl (hb hby own_d6_39) rfl rfl k) ?_
  show own_Ends _ _ _ _ (T9.setTop (mkF mM 40 #[.val (.ref a), .val (.long x), .second] [(.ref a), (.ref a), (.ref c7)]))
  obtain ⟨T10, X10, e10, st10⟩ := getF X9 hx hZ hown (host := "") (Or.inl (hw _ (List.mem_of_getElem? (i := 30) rfl))) Via.refl e9 ((F1.keep K7 nin0).other W8 (Or.inr (slot_ne (Or.inl (hw _ (List.mem_of_getElem? (i := 31) rfl))) (Or.inl (hw _ (List.mem_of_getElem? (i := 24) rfl))) (by decide) (t := .int) (t' := (.array .long)) (by decide) (by decide)))) (g := (mkF mM 40 #[.val (.ref a), .val (.long x), .second] [(.ref a), (.ref a), (.ref c7)])) rfl rfl (hb hby own_d6_40)
  refine own_go st10 ?_
  show own_Ends _ _ _ _ (T10.setTop (mkF mM 43 #[.val (.ref a), .val (.long x), .second] [(.int (16 : Int32)), (.ref a), (.ref c7)]))
  refine own_go (fun _ k => XS.dupX1 X10.here hx rfl (hb hby own_d6_43) rfl rfl rfl k) ?_
  show own_Ends _ _ _ _ (T10.setTop (mkF mM 44 #[.val (.ref a), .val (.long x), .second] [(.int (16 : Int32)), (.ref a), (.int (16 : Int32)), (.ref c7)]))
  refine own_go (fun _ k => XS.iconst X10.here hx rfl (hb hby own_d6_44) k) ?_
  show own_Ends _ _ _ _ (T10.setTop (mkF mM 45 #[.val (.ref a), .val (.long x), .second] [(.int (1 : Int32)), (.int (16 : Int32)), (.ref a), (.int (16 : Int32)), (.ref c7)]))
  refine own_go (fun _ k => XS.iadd X10.here hx rfl (hb hby own_d6_45) rfl k) ?_
  show own_Ends _ _ _ _ (T10.setTop (mkF mM 46 #[.val (.ref a), .val (.long x), .second] [(.int ((16 : Int32) + (1 : Int32))), (.ref a), (.int (16 : Int32)), (.ref c7)]))
  rw [show ((16 : Int32) + (1 : Int32)) = (17 : Int32) from by decide +kernel]
  show own_Ends _ _ _ _ (T10.setTop (mkF mM 46 #[.val (.ref a), .val (.long x), .second] [(.int (17 : Int32)), (.ref a), (.int (16 : Int32)), (.ref c7)]))
  obtain ⟨T11, h11, X11, e11, W11, st11⟩ := putF X10 hx hZ hown (host := "") (Or.inl (hw _ (List.mem_of_getElem? (i := 30) rfl))) Via.refl e10 ((F1.keep K7 nin0).other W8 (Or.inr (slot_ne (Or.inl (hw _ (List.mem_of_getElem? (i := 31) rfl))) (Or.inl (hw _ (List.mem_of_getElem? (i := 24) rfl))) (by decide) (t := .int) (t' := (.array .long)) (by decide) (by decide)))) ((E.keep K7).wr W8) (Or.inl (hw _ (List.mem_of_getElem? (i := 31) rfl))) (hw _ (List.mem_of_getElem? (i := 1) rfl)) (ty := .int) (by decide) rfl rfl (g := (mkF mM 46 #[.val (.ref a), .val (.long x), .second] [(.int (17 : Int32)), (.ref a), (.int (16 : Int32)), (.ref c7)])) rfl rfl (hb hby own_d6_46)
  have Fw11 := ((F1.keep K7 nin0).other W8 (Or.inr (slot_ne (Or.inl (hw _ (List.mem_of_getElem? (i := 31) rfl))) (Or.inl (hw _ (List.mem_of_getElem? (i := 24) rfl))) (by decide) (t := .int) (t' := (.array .long)) (by decide) (by decide)))).same W11
  have O11 := O8.wr W11 g_a
  have K11 := K8.wr W11 (Or.inl (List.mem_of_getElem? (i := 0) rfl))
  have N11 := Fr.snoc X11 N8 g_a
  refine own_go st11 ?_
  show own_Ends _ _ _ _ (T11.setTop (mkF mM 49 #[.val (.ref a), .val (.long x), .second] [(.int (16 : Int32)), (.ref c7)]))
  refine own_go (fun _ k => XS.lloadN X11.here hx rfl (hb hby own_d6_49) rfl k) ?_
  show own_Ends _ _ _ _ (T11.setTop (mkF mM 50 #[.val (.ref a), .val (.long x), .second] [(.long x), (.int (16 : Int32)), (.ref c7)]))
  obtain ⟨cl12, Ar12, aq12, aS12, aN12, aH12, aG12⟩ := id ((V_c7.other W8 (Ne.symm (Nat.ne_of_lt (Nat.lt_of_lt_of_le E.lt sq7)))).other W11 (Ne.symm (Nat.ne_of_lt (Nat.lt_of_lt_of_le E.lt sq7))))
  have hin12 : ¬ ((16 : Int32) < 0 ∨ cl12.slots.size ≤ ((16 : Int32)).toNatClampNeg) := inb_of aS12 ⟨by decide, by decide⟩
  obtain ⟨T13, h13, X13, e13, W13, st13⟩ := stJ X11 hx hZ e11 Ar12 (j := (16 : Int32)) hin12 (g := (mkF mM 50 #[.val (.ref a), .val (.long x), .second] [(.long x), (.int (16 : Int32)), (.ref c7)])) rfl rfl (hb hby own_d6_50)
  have V13 : Arv Z h13 c7 kc7 .long (24 : Int32) [(.long va), (.long vb), (.long vc), (.long vc), (.long vc), (.long vc), (.long vc), (.long vc), (.long vc), (.long vc), (.long vc), (.long vc), (.long vc), (.long vc), (.long vc), (.long vc), (.long x), (.long (0 : Int64)), (.long (0 : Int64)), (.long (0 : Int64)), (.long (0 : Int64)), (.long (0 : Int64)), (.long (0 : Int64)), (.long (0 : Int64))] (.long (0 : Int64)) := Arv.set Ar12 aq12 aS12 aN12 aH12 aG12 rfl W13 16 rfl (Nat.le_of_ble_eq_true rfl)
  have O13 := O11.wr W13 g_c7
  have K13 := K11.wr W13 (Or.inr sz_c7)
  have N13 := Fr.snoc X13 N11 g_c7
  refine own_go st13 ?_
  show own_Ends _ _ _ _ (T13.setTop (mkF mM 51 #[.val (.ref a), .val (.long x), .second] []))
  refine own_go (fun _ k => XS.aloadN X13.here hx rfl (hb hby own_d6_51) rfl rfl k) ?_
  show own_Ends _ _ _ _ (T13.setTop (mkF mM 52 #[.val (.ref a), .val (.long x), .second] [(.ref a)]))
  refine own_go (fun _ k => XS.dup X13.here hx rfl (hb hby own_d6_52) rfl rfl k) ?_
  show own_Ends _ _ _ _ (T13.setTop (mkF mM 53 #[.val (.ref a), .val (.long x), .second] [(.ref a), (.ref a)]))
  obtain ⟨T14, X14, e14, st14⟩ := getF X13 hx hZ hown (host := "") (Or.inl (hw _ (List.mem_of_getElem? (i := 37) rfl))) (Via.of (hw _ (List.mem_of_getElem? (i := 38) rfl))) e13 ((((F2.keep K7 nin0).other W8 (Or.inr (slot_ne (Or.inl (hw _ (List.mem_of_getElem? (i := 21) rfl))) (Or.inl (hw _ (List.mem_of_getElem? (i := 24) rfl))) (by decide) (t := .int) (t' := (.array .long)) (by decide) (by decide)))).other W11 (Or.inr (slot_ne (Or.inl (hw _ (List.mem_of_getElem? (i := 21) rfl))) (Or.inl (hw _ (List.mem_of_getElem? (i := 31) rfl))) (by decide) (t := .int) (t' := .int) (by decide) (by decide)))).other W13 (Or.inl (Nat.ne_of_lt (Nat.lt_of_lt_of_le E.lt sq7)))) (g := (mkF mM 53 #[.val (.ref a), .val (.long x), .second] [(.ref a), (.ref a)])) rfl rfl (hb hby own_d6_53)
  refine own_go st14 ?_
  show own_Ends _ _ _ _ (T14.setTop (mkF mM 56 #[.val (.ref a), .val (.long x), .second] [(.int (16 : Int32)), (.ref a)]))
  refine own_go (fun _ k => XS.iconst X14.here hx rfl (hb hby own_d6_56) k) ?_
  show own_Ends _ _ _ _ (T14.setTop (mkF mM 57 #[.val (.ref a), .val (.long x), .second] [(.int (1 : Int32)), (.int (16 : Int32)), (.ref a)]))
  refine own_go (fun _ k => XS.iadd X14.here hx rfl (hb hby own_d6_57) rfl k) ?_
  show own_Ends _ _ _ _ (T14.setTop (mkF mM 58 #[.val (.ref a), .val (.long x), .second] [(.int ((16 : Int32) + (1 : Int32))), (.ref a)]))
  rw [show ((16 : Int32) + (1 : Int32)) = (17 : Int32) from by decide +kernel]
  show own_Ends _ _ _ _ (T14.setTop (mkF mM 58 #[.val (.ref a), .val (.long x), .second] [(.int (17 : Int32)), (.ref a)]))
  obtain ⟨T15, h15, X15, e15, W15, st15⟩ := putF X14 hx hZ hown (host := "") (Or.inl (hw _ (List.mem_of_getElem? (i := 37) rfl))) (Via.of (hw _ (List.mem_of_getElem? (i := 38) rfl))) e14 ((((F2.keep K7 nin0).other W8 (Or.inr (slot_ne (Or.inl (hw _ (List.mem_of_getElem? (i := 21) rfl))) (Or.inl (hw _ (List.mem_of_getElem? (i := 24) rfl))) (by decide) (t := .int) (t' := (.array .long)) (by decide) (by decide)))).other W11 (Or.inr (slot_ne (Or.inl (hw _ (List.mem_of_getElem? (i := 21) rfl))) (Or.inl (hw _ (List.mem_of_getElem? (i := 31) rfl))) (by decide) (t := .int) (t' := .int) (by decide) (by decide)))).other W13 (Or.inl (Nat.ne_of_lt (Nat.lt_of_lt_of_le E.lt sq7)))) ((((E.keep K7).wr W8).wr W11).wr W13) (Or.inl (hw _ (List.mem_of_getElem? (i := 21) rfl))) (hw _ (List.mem_of_getElem? (i := 1) rfl)) (ty := .int) (by decide) rfl rfl (g := (mkF mM 58 #[.val (.ref a), .val (.long x), .second] [(.int (17 : Int32)), (.ref a)])) rfl rfl (hb hby own_d6_58)
  have Fw15 := ((((F2.keep K7 nin0).other W8 (Or.inr (slot_ne (Or.inl (hw _ (List.mem_of_getElem? (i := 21) rfl))) (Or.inl (hw _ (List.mem_of_getElem? (i := 24) rfl))) (by decide) (t := .int) (t' := (.array .long)) (by decide) (by decide)))).other W11 (Or.inr (slot_ne (Or.inl (hw _ (List.mem_of_getElem? (i := 21) rfl))) (Or.inl (hw _ (List.mem_of_getElem? (i := 31) rfl))) (by decide) (t := .int) (t' := .int) (by decide) (by decide)))).other W13 (Or.inl (Nat.ne_of_lt (Nat.lt_of_lt_of_le E.lt sq7)))).same W15
  have O15 := O13.wr W15 g_a
  have K15 := K13.wr W15 (Or.inl (List.mem_of_getElem? (i := 0) rfl))
  have N15 := Fr.snoc X15 N13 g_a
  refine own_go st15 ?_
  show own_Ends _ _ _ _ (T15.setTop (mkF mM 61 #[.val (.ref a), .val (.long x), .second] []))
  exact own_retV X15 hx (BodyLoose.notSynchronized Bd) (st := []) Bd.returns (hb hby own_d6_61) (by decide) (by decide) (by rw [e15]; exact ⟨rfl, N15, K15, c7, kc7, g_c7, (Nat.ne_of_lt (Nat.lt_of_lt_of_le E.lt sq7)), (((((E.keep K7).wr W8).wr W11).wr W13).wr W15), ((Fw11.other W13 (Or.inl (Nat.ne_of_lt (Nat.lt_of_lt_of_le E.lt sq7)))).other W15 (Or.inr (slot_ne (Or.inl (hw _ (List.mem_of_getElem? (i := 31) rfl))) (Or.inl (hw _ (List.mem_of_getElem? (i := 21) rfl))) (by decide) (t := .int) (t' := .int) (by decide) (by decide)))), Fw15, (((Fw8.other W11 (Or.inr (slot_ne (Or.inl (hw _ (List.mem_of_getElem? (i := 24) rfl))) (Or.inl (hw _ (List.mem_of_getElem? (i := 31) rfl))) (by decide) (t := (.array .long)) (t' := .int) (by decide) (by decide)))).other W13 (Or.inl (Nat.ne_of_lt (Nat.lt_of_lt_of_le E.lt sq7)))).other W15 (Or.inr (slot_ne (Or.inl (hw _ (List.mem_of_getElem? (i := 24) rfl))) (Or.inl (hw _ (List.mem_of_getElem? (i := 21) rfl))) (by decide) (t := (.array .long)) (t' := .int) (by decide) (by decide)))), (V13.other W15 (Ne.symm (Nat.ne_of_lt (Nat.lt_of_lt_of_le E.lt sq7))))⟩)
theorem own_d12_0 : decode method_2_code 0 = .ok (.aload_n 0, 1) := by decide +kernel
theorem own_d12_1 : decode method_2_code 1 = .ok (.lload_n 1, 1) := by decide +kernel
theorem own_d12_2 : decode method_2_code 2 = .ok (.invokevirtual 7, 3) := by decide +kernel
theorem own_d12_5 : decode method_2_code 5 = .ok (.aload_n 0, 1) := by decide +kernel
theorem own_d12_6 : decode method_2_code 6 = .ok (.lload_n 1, 1) := by decide +kernel
theorem own_d12_7 : decode method_2_code 7 = .ok (.invokevirtual 7, 3) := by decide +kernel
theorem own_d12_10 : decode method_2_code 10 = .ok (.aload_n 0, 1) := by decide +kernel
theorem own_d12_11 : decode method_2_code 11 = .ok (.lload_n 1, 1) := by decide +kernel
theorem own_d12_12 : decode method_2_code 12 = .ok (.invokevirtual 7, 3) := by decide +kernel
theorem own_d12_15 : decode method_2_code 15 = .ok (.aload_n 0, 1) := by decide +kernel
theorem own_d12_16 : decode method_2_code 16 = .ok (.lload_n 1, 1) := by decide +kernel
theorem own_d12_17 : decode method_2_code 17 = .ok (.invokevirtual 7, 3) := by decide +kernel
theorem own_d12_20 : decode method_2_code 20 = .ok (.aload_n 0, 1) := by decide +kernel
theorem own_d12_21 : decode method_2_code 21 = .ok (.lload_n 1, 1) := by decide +kernel
theorem own_d12_22 : decode method_2_code 22 = .ok (.invokevirtual 7, 3) := by decide +kernel
theorem own_d12_25 : decode method_2_code 25 = .ok (.aload_n 0, 1) := by decide +kernel
theorem own_d12_26 : decode method_2_code 26 = .ok (.lload_n 1, 1) := by decide +kernel
theorem own_d12_27 : decode method_2_code 27 = .ok (.invokevirtual 7, 3) := by decide +kernel
theorem own_d12_30 : decode method_2_code 30 = .ok (.aload_n 0, 1) := by decide +kernel
theorem own_d12_31 : decode method_2_code 31 = .ok (.lload_n 1, 1) := by decide +kernel
theorem own_d12_32 : decode method_2_code 32 = .ok (.invokevirtual 7, 3) := by decide +kernel
theorem own_d12_35 : decode method_2_code 35 = .ok (.aload_n 0, 1) := by decide +kernel
theorem own_d12_36 : decode method_2_code 36 = .ok (.lload_n 1, 1) := by decide +kernel
theorem own_d12_37 : decode method_2_code 37 = .ok (.invokevirtual 7, 3) := by decide +kernel
theorem own_d12_40 : decode method_2_code 40 = .ok (.aload_n 0, 1) := by decide +kernel
theorem own_d12_41 : decode method_2_code 41 = .ok (.lload_n 1, 1) := by decide +kernel
theorem own_d12_42 : decode method_2_code 42 = .ok (.invokevirtual 7, 3) := by decide +kernel
theorem own_d12_45 : decode method_2_code 45 = .ok (.aload_n 0, 1) := by decide +kernel
theorem own_d12_46 : decode method_2_code 46 = .ok (.lload_n 1, 1) := by decide +kernel
theorem own_d12_47 : decode method_2_code 47 = .ok (.invokevirtual 7, 3) := by decide +kernel
theorem own_d12_50 : decode method_2_code 50 = .ok (.aload_n 0, 1) := by decide +kernel
theorem own_d12_51 : decode method_2_code 51 = .ok (.lload_n 1, 1) := by decide +kernel
theorem own_d12_52 : decode method_2_code 52 = .ok (.invokevirtual 7, 3) := by decide +kernel
theorem own_d12_55 : decode method_2_code 55 = .ok (.aload_n 0, 1) := by decide +kernel
theorem own_d12_56 : decode method_2_code 56 = .ok (.lload_n 1, 1) := by decide +kernel
theorem own_d12_57 : decode method_2_code 57 = .ok (.invokevirtual 7, 3) := by decide +kernel
theorem own_d12_60 : decode method_2_code 60 = .ok (.aload_n 0, 1) := by decide +kernel
theorem own_d12_61 : decode method_2_code 61 = .ok (.lload_n 1, 1) := by decide +kernel
theorem own_d12_62 : decode method_2_code 62 = .ok (.invokevirtual 7, 3) := by decide +kernel
theorem own_d12_65 : decode method_2_code 65 = .ok (.aload_n 0, 1) := by decide +kernel
theorem own_d12_66 : decode method_2_code 66 = .ok (.lload_n 1, 1) := by decide +kernel
theorem own_d12_67 : decode method_2_code 67 = .ok (.invokevirtual 7, 3) := by decide +kernel
theorem own_d12_70 : decode method_2_code 70 = .ok (.return_, 1) := by decide +kernel
theorem own_ef_own_fourteen (m : MethodId) (x0 : Addr) (x1 : Int64) : entryFrame m #[(.ref x0), (.long x1)] 3 = mkF m 0 #[.val (.ref x0), .val (.long x1), .second] [] := by first | (simp [entryFrame, mkF, argsToLocals, Value.category]; done) | rfl
def Q_own_fourteen (Z : State) (a : Addr) (vc : Int64) (arr : Addr) (kk : ClassId) (va : Int64) (vb : Int64) (h0 : Heap) (n0 : Nat) (v : Option Value) (h : Heap) (L : List Loc) : Prop := v = none ∧ Fr n0 L ∧ Keep h0 h [a, arr] ∧ Exa Z h a "com/example/reckon/reckon/io/LineList" ∧ Fld Z h a "com/example/reckon/reckon/io/LineList" "size" "I" (.int (16 : Int32)) ∧ Fld Z h a "java/util/AbstractList" "modCount" "I" (.int (16 : Int32)) ∧ Fld Z h a "com/example/reckon/reckon/io/LineList" "lines" "[J" (.ref arr) ∧ Arv Z h arr kk .long (16 : Int32) [(.long va), (.long vb), (.long vc), (.long vc), (.long vc), (.long vc), (.long vc), (.long vc), (.long vc), (.long vc), (.long vc), (.long vc), (.long vc), (.long vc), (.long vc), (.long vc)] (.long (0 : Int64))
theorem own_pn_com_example_reckon_reckon_io_LineListAddPinLaw : plainName "com/example/reckon/reckon/io/LineListAddPinLaw" = true := by first | (simp [plainName, overriddenIn]; done) | decide +kernel
set_option maxRecDepth 65536 in
set_option maxHeartbeats 40000000 in
theorem own_fourteen (l : Launch) (Z : State) (a0 : Array Value) (hw : ∀ d ∈ tables_1, d.before a0 Z = true) (ws : List Jvm.Cond) (a : Addr) (vc : Int64) (arr : Addr) (kk : ClassId) (va : Int64) (vb : Int64) (h0 : Heap) (n0 : Nat) (O0 : Old Z n0 h0) (g_a : n0 ≤ a) (g_arr : n0 ≤ arr) (hne : a ≠ arr) (E : Exa Z h0 a "com/example/reckon/reckon/io/LineList") (F1 : Fld Z h0 a "com/example/reckon/reckon/io/LineList" "size" "I" (.int (2 : Int32))) (F2 : Fld Z h0 a "java/util/AbstractList" "modCount" "I" (.int (2 : Int32))) (F3 : Fld Z h0 a "com/example/reckon/reckon/io/LineList" "lines" "[J" (.ref arr)) (VA : Arv Z h0 arr kk .long (16 : Int32) [(.long va), (.long vb), (.long (0 : Int64)), (.long (0 : Int64)), (.long (0 : Int64)), (.long (0 : Int64)), (.long (0 : Int64)), (.long (0 : Int64)), (.long (0 : Int64)), (.long (0 : Int64)), (.long (0 : Int64)), (.long (0 : Int64)), (.long (0 : Int64)), (.long (0 : Int64)), (.long (0 : Int64)), (.long (0 : Int64))] (.long (0 : Int64))) :
    MetFree l (⟨"com/example/reckon/reckon/io/LineListAddPinLaw", "addFourteen", "(Lcom/example/reckon/reckon/io/LineList;J)V"⟩ : MethodName) (head1 (Jvm.Cond.code (⟨"com/example/reckon/reckon/io/LineListAddPinLaw", "addFourteen", "(Lcom/example/reckon/reckon/io/LineList;J)V"⟩ : MethodName) method_2_code 3 none :: ws) ({ frames := 1, cells := 0, slots := 0, locals := 14 } : Room)) (fun args_ U => args_ = #[(.ref a), (.long vc)] ∧ Z.Warmed39 U.vm ∧ U.heap = h0) (fun _ _ _ _ _ => True) (fun _ U o U' => ∃ v L, o = .returned v ∧ Q_own_fourteen Z a vc arr kk va vb h0 n0 v U'.heap L ∧ FrameEnd U o U' L ({ frames := 1, cells := 0, slots := 0, locals := 14 } : Room).cells ({ frames := 1, cells := 0, slots := 0, locals := 14 } : Room).slots) := by
  refine MetFree.of_bodySF (plainFor_of_name own_pn_com_example_reckon_reckon_io_LineListAddPinLaw) hisR ?_
  intro pP eE sS mM args below meth cC s₁ Bd hml0 hP hK
  obtain ⟨rfl, hZ, hh⟩ := hP
  have hx := Bd.exec
  have hby := Bd.bytes
  have hml : cC.maxLocals = 3 := hml0
  have hown : sS.vm.findClass "com/example/reckon/reckon/io/LineListAddPinLaw" = some mM.cls := findClass_of_methodNamed Bd.named
  have hnm := (name_of_methodNamed Bd.named Bd.method).1
  have X0 : Stand pP l eE ({ frames := 1, cells := 0, slots := 0, locals := 14 } : Room) sS mM #[(.ref a), (.long vc)] below meth cC s₁ [] 0 0 := Stand.of_body Bd
  have e0 : s₁.heap = h0 := by rw [← hh, Bd.state]; rfl
  have N0 := Fr.nil n0
  show own_Ends pP eE below (own_Got sS (Q_own_fourteen Z a vc arr kk va vb h0 n0) ({ frames := 1, cells := 0, slots := 0, locals := 14 } : Room).cells ({ frames := 1, cells := 0, slots := 0, locals := 14 } : Room).slots) (s₁.setTop (entryFrame mM #[(.ref a), (.long vc)] 3))
  rw [own_ef_own_fourteen mM a vc]
  refine own_go (fun _ k => XS.aloadN X0.here hx rfl (hb hby own_d12_0) rfl rfl k) ?_
  show own_Ends _ _ _ _ (s₁.setTop (mkF mM 1 #[.val (.ref a), .val (.long vc), .second] [(.ref a)]))
  refine own_go (fun _ k => XS.lloadN X0.here hx rfl (hb hby own_d12_1) rfl k) ?_
  show own_Ends _ _ _ _ (s₁.setTop (mkF mM 2 #[.val (.ref a), .val (.long vc), .second] [(.long vc), (.ref a)]))
  obtain ⟨cq1, kq1, q1a, q1b, q1c⟩ := isOf hZ e0 E
  obtain ⟨_, _, ⟨T1, Lz1, kz1, nz1⟩, -, X1, ⟨Lc1, hQ1, l1, y1, z1⟩, st1⟩ := X0.virtualBack hx (y := (⟨"com/example/reckon/reckon/io/LineList", "add", "(J)V"⟩ : MethodName)) (z := (⟨"com/example/reckon/reckon/io/LineList", "add", "(J)V"⟩ : MethodName)) hown (mvT hZ (hw _ (List.mem_of_getElem? (i := 32) rfl))) (mvT hZ (hw _ (List.mem_of_getElem? (i := 33) rfl))) (notFace_of_selects (args := #[]) (mvT hZ (hw _ (List.mem_of_getElem? (i := 35) rfl)))) (mvT hZ (hw _ (List.mem_of_getElem? (i := 35) rfl))) (mvT hZ (hw _ (List.mem_of_getElem? (i := 34) rfl))) (by decide) (backOf (W := 0) (own_add l Z a0 hw [] a vc (2 : Int32) (3 : Int32) (2 : Int32) (3 : Int32) arr kk (16 : Int32) [(.long va), (.long vb), (.long (0 : Int64)), (.long (0 : Int64)), (.long (0 : Int64)), (.long (0 : Int64)), (.long (0 : Int64)), (.long (0 : Int64)), (.long (0 : Int64)), (.long (0 : Int64)), (.long (0 : Int64)), (.long (0 : Int64)), (.long (0 : Int64)), (.long (0 : Int64)), (.long (0 : Int64)), (.long (0 : Int64))] [(.long va), (.long vb), (.long vc), (.long (0 : Int64)), (.long (0 : Int64)), (.long (0 : Int64)), (.long (0 : Int64)), (.long (0 : Int64)), (.long (0 : Int64)), (.long (0 : Int64)), (.long (0 : Int64)), (.long (0 : Int64)), (.long (0 : Int64)), (.long (0 : Int64)), (.long (0 : Int64)), (.long (0 : Int64))] 2 h0 n0 O0 g_a g_arr hne E F1 F2 F3 VA (by decide) (by decide) (by decide +kernel) (by decide +kernel) rfl (Nat.le_of_ble_eq_true rfl) rfl) hZ (hw _ (List.mem_of_getElem? (i := 36) rfl)) (hw _ (List.mem_of_getElem? (i := 2) rfl)) (by decide) (by decide)) q1a q1c (g := (mkF mM 2 #[.val (.ref a), .val (.long vc), .second] [(.long vc), (.ref a)])) rfl (by rw [hml]; rfl) (Steps.refl _) (argsL := [(.long vc)]) (rest := []) (lenOf own_pd1 rfl) rfl (by show 2 * 0 + _ ≤ _; exact Nat.le_of_eq rfl) (hb hby own_d12_2) (fun _ _ => ⟨rfl, e0, (by decide : 0 + 0 ≤ _), (by decide : 0 + 0 ≤ _)⟩)
  dsimp only [Pt.U, Pt.locs, Pt.cells, Pt.slots] at X1 l1 y1 z1 st1 hQ1
  obtain ⟨rfl, Nq1, K1, E_1, F1_1, F2_1, F3_1, VA_1⟩ := hQ1
  have N1 := Fr.app N0 Nq1
  have O1 := O0.keep K1 (allS g_a (allS g_arr all0))
  have Kk1 := (Keep.refl h0 [a, arr]).trans K1 (allS (Or.inl (List.mem_of_getElem? (i := 0) rfl)) (allS (Or.inl (List.mem_of_getElem? (i := 1) rfl)) (all0)))
  obtain ⟨Lw1, Nw1, Xw1⟩ := own_pack (k' := 0) (n' := 0) X1 l1 y1 z1 N1
  clear X1
  refine own_tr st1 ?_
  show own_Ends _ _ _ _ (T1.setTop (mkF mM 5 #[.val (.ref a), .val (.long vc), .second] []))
  refine own_go (fun _ k => XS.aloadN Xw1.here hx rfl (hb hby own_d12_5) rfl rfl k) ?_
  show own_Ends _ _ _ _ (T1.setTop (mkF mM 6 #[.val (.ref a), .val (.long vc), .second] [(.ref a)]))
  refine own_go (fun _ k => XS.lloadN Xw1.here hx rfl (hb hby own_d12_6) rfl k) ?_
  show own_Ends _ _ _ _ (T1.setTop (mkF mM 7 #[.val (.ref a), .val (.long vc), .second] [(.long vc), (.ref a)]))
  obtain ⟨cq2, kq2, q2a, q2b, q2c⟩ := isOf hZ rfl E_1
  obtain ⟨_, _, ⟨T2, Lz2, kz2, nz2⟩, -, X2, ⟨Lc2, hQ2, l2, y2, z2⟩, st2⟩ := Xw1.virtualBack hx (y := (⟨"com/example/reckon/reckon/io/LineList", "add", "(J)V"⟩ : MethodName)) (z := (⟨"com/example/reckon/reckon/io/LineList", "add", "(J)V"⟩ : MethodName)) hown (mvT hZ (hw _ (List.mem_of_getElem? (i := 32) rfl))) (mvT hZ (hw _ (List.mem_of_getElem? (i := 33) rfl))) (notFace_of_selects (args := #[]) (mvT hZ (hw _ (List.mem_of_getElem? (i := 35) rfl)))) (mvT hZ (hw _ (List.mem_of_getElem? (i := 35) rfl))) (mvT hZ (hw _ (List.mem_of_getElem? (i := 34) rfl))) (by decide) (backOf (W := 0) (own_add l Z a0 hw [] a vc (3 : Int32) (4 : Int32) (3 : Int32) (4 : Int32) arr kk (16 : Int32) [(.long va), (.long vb), (.long vc), (.long (0 : Int64)), (.long (0 : Int64)), (.long (0 : Int64)), (.long (0 : Int64)), (.long (0 : Int64)), (.long (0 : Int64)), (.long (0 : Int64)), (.long (0 : Int64)), (.long (0 : Int64)), (.long (0 : Int64)), (.long (0 : Int64)), (.long (0 : Int64)), (.long (0 : Int64))] [(.long va), (.long vb), (.long vc), (.long vc), (.long (0 : Int64)), (.long (0 : Int64)), (.long (0 : Int64)), (.long (0 : Int64)), (.long (0 : Int64)), (.long (0 : Int64)), (.long (0 : Int64)), (.long (0 : Int64)), (.long (0 : Int64)), (.long (0 : Int64)), (.long (0 : Int64)), (.long (0 : Int64))] 3 T1.heap n0 O1 g_a g_arr hne E_1 F1_1 F2_1 F3_1 VA_1 (by decide) (by decide) (by decide +kernel) (by decide +kernel) rfl (Nat.le_of_ble_eq_true rfl) rfl) hZ (hw _ (List.mem_of_getElem? (i := 36) rfl)) (hw _ (List.mem_of_getElem? (i := 2) rfl)) (by decide) (by decide)) q2a q2c (g := (mkF mM 7 #[.val (.ref a), .val (.long vc), .second] [(.long vc), (.ref a)])) rfl (by rw [hml]; rfl) (Steps.refl _) (argsL := [(.long vc)]) (rest := []) (lenOf own_pd1 rfl) rfl (by show 2 * 0 + _ ≤ _; exact Nat.le_of_eq rfl) (hb hby own_d12_7) (fun _ _ => ⟨rfl, rfl, (by decide : 0 + 0 ≤ _), (by decide : 0 + 0 ≤ _)⟩)
  dsimp only [Pt.U, Pt.locs, Pt.cells, Pt.slots] at X2 l2 y2 z2 st2 hQ2
  obtain ⟨rfl, Nq2, K2, E_2, F1_2, F2_2, F3_2, VA_2⟩ := hQ2
  have N2 := Fr.app Nw1 Nq2
  have O2 := O1.keep K2 (allS g_a (allS g_arr all0))
  have Kk2 := Kk1.trans K2 (allS (Or.inl (List.mem_of_getElem? (i := 0) rfl)) (allS (Or.inl (List.mem_of_getElem? (i := 1) rfl)) (all0)))
  obtain ⟨Lw2, Nw2, Xw2⟩ := own_pack (k' := 0) (n' := 0) X2 l2 y2 z2 N2
  clear X2
  refine own_tr st2 ?_
  show own_Ends _ _ _ _ (T2.setTop (mkF mM 10 #[.val (.ref a), .val (.long vc), .second] []))
  refine own_go (fun _ k => XS.aloadN Xw2.here hx rfl (hb hby own_d12_10) rfl rfl k) ?_
  show own_Ends _ _ _ _ (T2.setTop (mkF mM 11 #[.val (.ref a), .val (.long vc), .second] [(.ref a)]))
  refine own_go (fun _ k => XS.lloadN Xw2.here hx rfl (hb hby own_d12_11) rfl k) ?_
  show own_Ends _ _ _ _ (T2.setTop (mkF mM 12 #[.val (.ref a), .val (.long vc), .second] [(.long vc), (.ref a)]))
  obtain ⟨cq3, kq3, q3a, q3b, q3c⟩ := isOf hZ rfl E_2
  obtain ⟨_, _, ⟨T3, Lz3, kz3, nz3⟩, -, X3, ⟨Lc3, hQ3, l3, y3, z3⟩, st3⟩ := Xw2.virtualBack hx (y := (⟨"com/example/reckon/reckon/io/LineList", "add", "(J)V"⟩ : MethodName)) (z := (⟨"com/example/reckon/reckon/io/LineList", "add", "(J)V"⟩ : MethodName)) hown (mvT hZ (hw _ (List.mem_of_getElem? (i := 32) rfl))) (mvT hZ (hw _ (List.mem_of_getElem? (i := 33) rfl))) (notFace_of_selects (args := #[]) (mvT hZ (hw _ (List.mem_of_getElem? (i := 35) rfl)))) (mvT hZ (hw _ (List.mem_of_getElem? (i := 35) rfl))) (mvT hZ (hw _ (List.mem_of_getElem? (i := 34) rfl))) (by decide) (backOf (W := 0) (own_add l Z a0 hw [] a vc (4 : Int32) (5 : Int32) (4 : Int32) (5 : Int32) arr kk (16 : Int32) [(.long va), (.long vb), (.long vc), (.long vc), (.long (0 : Int64)), (.long (0 : Int64)), (.long (0 : Int64)), (.long (0 : Int64)), (.long (0 : Int64)), (.long (0 : Int64)), (.long (0 : Int64)), (.long (0 : Int64)), (.long (0 : Int64)), (.long (0 : Int64)), (.long (0 : Int64)), (.long (0 : Int64))] [(.long va), (.long vb), (.long vc), (.long vc), (.long vc), (.long (0 : Int64)), (.long (0 : Int64)), (.long (0 : Int64)), (.long (0 : Int64)), (.long (0 : Int64)), (.long (0 : Int64)), (.long (0 : Int64)), (.long (0 : Int64)), (.long (0 : Int64)), (.long (0 : Int64)), (.long (0 : Int64))] 4 T2.heap n0 O2 g_a g_arr hne E_2 F1_2 F2_2 F3_2 VA_2 (by decide) (by decide) (by decide +kernel) (by decide +kernel) rfl (Nat.le_of_ble_eq_true rfl) rfl) hZ (hw _ (List.mem_of_getElem? (i := 36) rfl)) (hw _ (List.mem_of_getElem? (i := 2) rfl)) (by decide) (by decide)) q3a q3c (g := (mkF mM 12 #[.val (.ref a), .val (.long vc), .second] [(.long vc), (.ref a)])) rfl (by rw [hml]; rfl) (Steps.refl _) (argsL := [(.long vc)]) (rest := []) (lenOf own_pd1 rfl) rfl (by show 2 * 0 + _ ≤ _; exact Nat.le_of_eq rfl) (hb hby own_d12_12) (fun _ _ => ⟨rfl, rfl, (by decide : 0 + 0 ≤ _), (by decide : 0 + 0 ≤ _)⟩)
  dsimp only [Pt.U, Pt.locs, Pt.cells, Pt.slots] at X3 l3 y3 z3 st3 hQ3
  obtain ⟨rfl, Nq3, K3, E_3, F1_3, F2_3, F3_3, VA_3⟩ := hQ3
  have N3 := Fr.app Nw2 Nq3
  have O3 := O2.keep K3 (allS g_a (allS g_arr all0))
  have Kk3 := Kk2.trans K3 (allS (Or.inl (List.mem_of_getElem? (i := 0) rfl)) (allS (Or.inl (List.mem_of_getElem? (i := 1) rfl)) (all0)))
  obtain ⟨Lw3, Nw3, Xw3⟩ := own_pack (k' := 0) (n' := 0) X3 l3 y3 z3 N3
  clear X3
  refine own_tr st3 ?_
  show own_Ends _ _ _ _ (T3.setTop (mkF mM 15 #[.val (.ref a), .val (.long vc), .second] []))
  refine own_go (fun _ k => XS.aloadN Xw3.here hx rfl (hb hby own_d12_15) rfl rfl k) ?_
  show own_Ends _ _ _ _ (T3.setTop (mkF mM 16 #[.val (.ref a), .val (.long vc), .second] [(.ref a)]))
  refine own_go (fun _ k => XS.lloadN Xw3.here hx rfl (hb hby own_d12_16) rfl k) ?_
  show own_Ends _ _ _ _ (T3.setTop (mkF mM 17 #[.val (.ref a), .val (.long vc), .second] [(.long vc), (.ref a)]))
  obtain ⟨cq4, kq4, q4a, q4b, q4c⟩ := isOf hZ rfl E_3
  obtain ⟨_, _, ⟨T4, Lz4, kz4, nz4⟩, -, X4, ⟨Lc4, hQ4, l4, y4, z4⟩, st4⟩ := Xw3.virtualBack hx (y := (⟨"com/example/reckon/reckon/io/LineList", "add", "(J)V"⟩ : MethodName)) (z := (⟨"com/example/reckon/reckon/io/LineList", "add", "(J)V"⟩ : MethodName)) hown (mvT hZ (hw _ (List.mem_of_getElem? (i := 32) rfl))) (mvT hZ (hw _ (List.mem_of_getElem? (i := 33) rfl))) (notFace_of_selects (args := #[]) (mvT hZ (hw _ (List.mem_of_getElem? (i := 35) rfl)))) (mvT hZ (hw _ (List.mem_of_getElem? (i := 35) rfl))) (mvT hZ (hw _ (List.mem_of_getElem? (i := 34) rfl))) (by decide) (backOf (W := 0) (own_add l Z a0 hw [] a vc (5 : Int32) (6 : Int32) (5 : Int32) (6 : Int32) arr kk (16 : Int32) [(.long va), (.long vb), (.long vc), (.long vc), (.long vc), (.long (0 : Int64)), (.long (0 : Int64)), (.long (0 : Int64)), (.long (0 : Int64)), (.long (0 : Int64)), (.long (0 : Int64)), (.long (0 : Int64)), (.long (0 : Int64)), (.long (0 : Int64)), (.long (0 : Int64)), (.long (0 : Int64))] [(.long va), (.long vb), (.long vc), (.long vc), (.long vc), (.long vc), (.long (0 : Int64)), (.long (0 : Int64)), (.long (0 : Int64)), (.long (0 : Int64)), (.long (0 : Int64)), (.long (0 : Int64)), (.long (0 : Int64)), (.long (0 : Int64)), (.long (0 : Int64)), (.long (0 : Int64))] 5 T3.heap n0 O3 g_a g_arr hne E_3 F1_3 F2_3 F3_3 VA_3 (by decide) (by decide) (by decide +kernel) (by decide +kernel) rfl (Nat.le_of_ble_eq_true rfl) rfl) hZ (hw _ (List.mem_of_getElem? (i := 36) rfl)) (hw _ (List.mem_of_getElem? (i := 2) rfl)) (by decide) (by decide)) q4a q4c (g := (mkF mM 17 #[.val (.ref a), .val (.long vc), .second] [(.long vc), (.ref a)])) rfl (by rw [hml]; rfl) (Steps.refl _) (argsL := [(.long vc)]) (rest := []) (lenOf own_pd1 rfl) rfl (by show 2 * 0 + _ ≤ _; exact Nat.le_of_eq rfl) (hb hby own_d12_17) (fun _ _ => ⟨rfl, rfl, (by decide : 0 + 0 ≤ _), (by decide : 0 + 0 ≤ _)⟩)
  dsimp only [Pt.U, Pt.locs, Pt.cells, Pt.slots] at X4 l4 y4 z4 st4 hQ4
  obtain ⟨rfl, Nq4, K4, E_4, F1_4, F2_4, F3_4, VA_4⟩ := hQ4
  have N4 := Fr.app Nw3 Nq4
  have O4 := O3.keep K4 (allS g_a (allS g_arr all0))
  have Kk4 := Kk3.trans K4 (allS (Or.inl (List.mem_of_getElem? (i := 0) rfl)) (allS (Or.inl (List.mem_of_getElem? (i := 1) rfl)) (all0)))
  obtain ⟨Lw4, Nw4, Xw4⟩ := own_pack (k' := 0) (n' := 0) X4 l4 y4 z4 N4
  clear X4
  refine own_tr st4 ?_
  show own_Ends _ _ _ _ (T4.setTop (mkF mM 20 #[.val (.ref a), .val (.long vc), .second] []))
  refine own_go (fun _ k => XS.aloadN Xw4.here hx rfl (hb hby own_d12_20) rfl rfl k) ?_
  show own_Ends _ _ _ _ (T4.setTop (mkF mM 21 #[.val (.ref a), .val (.long vc), .second] [(.ref a)]))
  refine own_go (fun _ k => XS.lloadN Xw4.here hx rfl (hb hby own_d12_21) rfl k) ?_
  show own_Ends _ _ _ _ (T4.setTop (mkF mM 22 #[.val (.ref a), .val (.long vc), .second] [(.long vc), (.ref a)]))
  obtain ⟨cq5, kq5, q5a, q5b, q5c⟩ := isOf hZ rfl E_4
  obtain ⟨_, _, ⟨T5, Lz5, kz5, nz5⟩, -, X5, ⟨Lc5, hQ5, l5, y5, z5⟩, st5⟩ := Xw4.virtualBack hx (y := (⟨"com/example/reckon/reckon/io/LineList", "add", "(J)V"⟩ : MethodName)) (z := (⟨"com/example/reckon/reckon/io/LineList", "add", "(J)V"⟩ : MethodName)) hown (mvT hZ (hw _ (List.mem_of_getElem? (i := 32) rfl))) (mvT hZ (hw _ (List.mem_of_getElem? (i := 33) rfl))) (notFace_of_selects (args := #[]) (mvT hZ (hw _ (List.mem_of_getElem? (i := 35) rfl)))) (mvT hZ (hw _ (List.mem_of_getElem? (i := 35) rfl))) (mvT hZ (hw _ (List.mem_of_getElem? (i := 34) rfl))) (by decide) (backOf (W := 0) (own_add l Z a0 hw [] a vc (6 : Int32) (7 : Int32) (6 : Int32) (7 : Int32) arr kk (16 : Int32) [(.long va), (.long vb), (.long vc), (.long vc), (.long vc), (.long vc), (.long (0 : Int64)), (.long (0 : Int64)), (.long (0 : Int64)), (.long (0 : Int64)), (.long (0 : Int64)), (.long (0 : Int64)), (.long (0 : Int64)), (.long (0 : Int64)), (.long (0 : Int64)), (.long (0 : Int64))] [(.long va), (.long vb), (.long vc), (.long vc), (.long vc), (.long vc), (.long vc), (.long (0 : Int64)), (.long (0 : Int64)), (.long (0 : Int64)), (.long (0 : Int64)), (.long (0 : Int64)), (.long (0 : Int64)), (.long (0 : Int64)), (.long (0 : Int64)), (.long (0 : Int64))] 6 T4.heap n0 O4 g_a g_arr hne E_4 F1_4 F2_4 F3_4 VA_4 (by decide) (by decide) (by decide +kernel) (by decide +kernel) rfl (Nat.le_of_ble_eq_true rfl) rfl) hZ (hw _ (List.mem_of_getElem? (i := 36) rfl)) (hw _ (List.mem_of_getElem? (i := 2) rfl)) (by decide) (by decide)) q5a q5c (g := (mkF mM 22 #[.val (.ref a), .val (.long vc), .second] [(.long vc), (.ref a)])) rfl (by rw [hml]; rfl) (Steps.refl _) (argsL := [(.long vc)]) (rest := []) (lenOf own_pd1 rfl) rfl (by show 2 * 0 + _ ≤ _; exact Nat.le_of_eq rfl) (hb hby own_d12_22) (fun _ _ => ⟨rfl, rfl, (by decide : 0 + 0 ≤ _), (by decide : 0 + 0 ≤ _)⟩)
  dsimp only [Pt.U, Pt.locs, Pt.cells, Pt.slots] at X5 l5 y5 z5 st5 hQ5
  obtain ⟨rfl, Nq5, K5, E_5, F1_5, F2_5, F3_5, VA_5⟩ := hQ5
  have N5 := Fr.app Nw4 Nq5
  have O5 := O4.keep K5 (allS g_a (allS g_arr all0))
  have Kk5 := Kk4.trans K5 (allS (Or.inl (List.mem_of_getElem? (i := 0) rfl)) (allS (Or.inl (List.mem_of_getElem? (i := 1) rfl)) (all0)))
  obtain ⟨Lw5, Nw5, Xw5⟩ := own_pack (k' := 0) (n' := 0) X5 l5 y5 z5 N5
  clear X5
  refine own_tr st5 ?_
  show own_Ends _ _ _ _ (T5.setTop (mkF mM 25 #[.val (.ref a), .val (.long vc), .second] []))
  refine own_go (fun _ k => XS.aloadN Xw5.here hx rfl (hb hby own_d12_25) rfl rfl k) ?_
  show own_Ends _ _ _ _ (T5.setTop (mkF mM 26 #[.val (.ref a), .val (.long vc), .second] [(.ref a)]))
  refine own_go (fun _ k => XS.lloadN Xw5.here hx rfl (hb hby own_d12_26) rfl k) ?_
  show own_Ends _ _ _ _ (T5.setTop (mkF mM 27 #[.val (.ref a), .val (.long vc), .second] [(.long vc), (.ref a)]))
  obtain ⟨cq6, kq6, q6a, q6b, q6c⟩ := isOf hZ rfl E_5
  obtain ⟨_, _, ⟨T6, Lz6, kz6, nz6⟩, -, X6, ⟨Lc6, hQ6, l6, y6, z6⟩, st6⟩ := Xw5.virtualBack hx (y := (⟨"com/example/reckon/reckon/io/LineList", "add", "(J)V"⟩ : MethodName)) (z := (⟨"com/example/reckon/reckon/io/LineList", "add", "(J)V"⟩ : MethodName)) hown (mvT hZ (hw _ (List.mem_of_getElem? (i := 32) rfl))) (mvT hZ (hw _ (List.mem_of_getElem? (i := 33) rfl))) (notFace_of_selects (args := #[]) (mvT hZ (hw _ (List.mem_of_getElem? (i := 35) rfl)))) (mvT hZ (hw _ (List.mem_of_getElem? (i := 35) rfl))) (mvT hZ (hw _ (List.mem_of_getElem? (i := 34) rfl))) (by decide) (backOf (W := 0) (own_add l Z a0 hw [] a vc (7 : Int32) (8 : Int32) (7 : Int32) (8 : Int32) arr kk (16 : Int32) [(.long va), (.long vb), (.long vc), (.long vc), (.long vc), (.long vc), (.long vc), (.long (0 : Int64)), (.long (0 : Int64)), (.long (0 : Int64)), (.long (0 : Int64)), (.long (0 : Int64)), (.long (0 : Int64)), (.long (0 : Int64)), (.long (0 : Int64)), (.long (0 : Int64))] [(.long va), (.long vb), (.long vc), (.long vc), (.long vc), (.long vc), (.long vc), (.long vc), (.long (0 : Int64)), (.long (0 : Int64)), (.long (0 : Int64)), (.long (0 : Int64)), (.long (0 : Int64)), (.long (0 : Int64)), (.long (0 : Int64)), (.long (0 : Int64))] 7 T5.heap n0 O5 g_a g_arr hne E_5 F1_5 F2_5 F3_5 VA_5 (by decide) (by decide) (by decide +kernel) (by decide +kernel) rfl (Nat.le_of_ble_eq_true rfl) rfl) hZ (hw _ (List.mem_of_getElem? (i := 36) rfl)) (hw _ (List.mem_of_getElem? (i := 2) rfl)) (by decide) (by decide)) q6a q6c (g := (mkF mM 27 #[.val (.ref a), .val (.long vc), .second] [(.long vc), (.ref a)])) rfl (by rw [hml]; rfl) (Steps.refl _) (argsL := [(.long vc)]) (rest := []) (lenOf own_pd1 rfl) rfl (by show 2 * 0 + _ ≤ _; exact Nat.le_of_eq rfl) (hb hby own_d12_27) (fun _ _ => ⟨rfl, rfl, (by decide : 0 + 0 ≤ _), (by decide : 0 + 0 ≤ _)⟩)
  dsimp only [Pt.U, Pt.locs, Pt.cells, Pt.slots] at X6 l6 y6 z6 st6 hQ6
  obtain ⟨rfl, Nq6, K6, E_6, F1_6, F2_6, F3_6, VA_6⟩ := hQ6
  have N6 := Fr.app Nw5 Nq6
  have O6 := O5.keep K6 (allS g_a (allS g_arr all0))
  have Kk6 := Kk5.trans K6 (allS (Or.inl (List.mem_of_getElem? (i := 0) rfl)) (allS (Or.inl (List.mem_of_getElem? (i := 1) rfl)) (all0)))
  obtain ⟨Lw6, Nw6, Xw6⟩ := own_pack (k' := 0) (n' := 0) X6 l6 y6 z6 N6
  clear X6
  refine own_tr st6 ?_
  show own_Ends _ _ _ _ (T6.setTop (mkF mM 30 #[.val (.ref a), .val (.long vc), .second] []))
  refine own_go (fun _ k => XS.aloadN Xw6.here hx rfl (hb hby own_d12_30) rfl rfl k) ?_
  show own_Ends _ _ _ _ (T6.setTop (mkF mM 31 #[.val (.ref a), .val (.long vc), .second] [(.ref a)]))
  refine own_go (fun _ k => XS.lloadN Xw6.here hx rfl (hb hby own_d12_31) rfl k) ?_
  show own_Ends _ _ _ _ (T6.setTop (mkF mM 32 #[.val (.ref a), .val (.long vc), .second] [(.long vc), (.ref a)]))
  obtain ⟨cq7, kq7, q7a, q7b, q7c⟩ := isOf hZ rfl E_6
  obtain ⟨_, _, ⟨T7, Lz7, kz7, nz7⟩, -, X7, ⟨Lc7, hQ7, l7, y7, z7⟩, st7⟩ := Xw6.virtualBack hx (y := (⟨"com/example/reckon/reckon/io/LineList", "add", "(J)V"⟩ : MethodName)) (z := (⟨"com/example/reckon/reckon/io/LineList", "add", "(J)V"⟩ : MethodName)) hown (mvT hZ (hw _ (List.mem_of_getElem? (i := 32) rfl))) (mvT hZ (hw _ (List.mem_of_getElem? (i := 33) rfl))) (notFace_of_selects (args := #[]) (mvT hZ (hw _ (List.mem_of_getElem? (i := 35) rfl)))) (mvT hZ (hw _ (List.mem_of_getElem? (i := 35) rfl))) (mvT hZ (hw _ (List.mem_of_getElem? (i := 34) rfl))) (by decide) (backOf (W := 0) (own_add l Z a0 hw [] a vc (8 : Int32) (9 : Int32) (8 : Int32) (9 : Int32) arr kk (16 : Int32) [(.long va), (.long vb), (.long vc), (.long vc), (.long vc), (.long vc), (.long vc), (.long vc), (.long (0 : Int64)), (.long (0 : Int64)), (.long (0 : Int64)), (.long (0 : Int64)), (.long (0 : Int64)), (.long (0 : Int64)), (.long (0 : Int64)), (.long (0 : Int64))] [(.long va), (.long vb), (.long vc), (.long vc), (.long vc), (.long vc), (.long vc), (.long vc), (.long vc), (.long (0 : Int64)), (.long (0 : Int64)), (.long (0 : Int64)), (.long (0 : Int64)), (.long (0 : Int64)), (.long (0 : Int64)), (.long (0 : Int64))] 8 T6.heap n0 O6 g_a g_arr hne E_6 F1_6 F2_6 F3_6 VA_6 (by decide) (by decide) (by decide +kernel) (by decide +kernel) rfl (Nat.le_of_ble_eq_true rfl) rfl) hZ (hw _ (List.mem_of_getElem? (i := 36) rfl)) (hw _ (List.mem_of_getElem? (i := 2) rfl)) (by decide) (by decide)) q7a q7c (g := (mkF mM 32 #[.val (.ref a), .val (.long vc), .second] [(.long vc), (.ref a)])) rfl (by rw [hml]; rfl) (Steps.refl _) (argsL := [(.long vc)]) (rest := []) (lenOf own_pd1 rfl) rfl (by show 2 * 0 + _ ≤ _; exact Nat.le_of_eq rfl) (hb hby own_d12_32) (fun _ _ => ⟨rfl, rfl, (by decide : 0 + 0 ≤ _), (by decide : 0 + 0 ≤ _)⟩)
  dsimp only [Pt.U, Pt.locs, Pt.cells, Pt.slots] at X7 l7 y7 z7 st7 hQ7
  obtain ⟨rfl, Nq7, K7, E_7, F1_7, F2_7, F3_7, VA_7⟩ := hQ7
  have N7 := Fr.app Nw6 Nq7
  have O7 := O6.keep K7 (allS g_a (allS g_arr all0))
  have Kk7 := Kk6.trans K7 (allS (Or.inl (List.mem_of_getElem? (i := 0) rfl)) (allS (Or.inl (List.mem_of_getElem? (i := 1) rfl)) (all0)))
  obtain ⟨Lw7, Nw7, Xw7⟩ := own_pack (k' := 0) (n' := 0) X7 l7 y7 z7 N7
  clear X7
  refine own_tr st7 ?_
  show own_Ends _ _ _ _ (T7.setTop (mkF mM 35 #[.val (.ref a), .val (.long vc), .second] []))
  refine own_go (fun _ k => XS.aloadN Xw7.here hx rfl (hb hby own_d12_35) rfl rfl k) ?_
  show own_Ends _ _ _ _ (T7.setTop (mkF mM 36 #[.val (.ref a), .val (.long vc), .second] [(.ref a)]))
  refine own_go (fun _ k => XS.lloadN Xw7.here hx rfl (hb hby own_d12_36) rfl k) ?_
  show own_Ends _ _ _ _ (T7.setTop (mkF mM 37 #[.val (.ref a), .val (.long vc), .second] [(.long vc), (.ref a)]))
  obtain ⟨cq8, kq8, q8a, q8b, q8c⟩ := isOf hZ rfl E_7
  obtain ⟨_, _, ⟨T8, Lz8, kz8, nz8⟩, -, X8, ⟨Lc8, hQ8, l8, y8, z8⟩, st8⟩ := Xw7.virtualBack hx (y := (⟨"com/example/reckon/reckon/io/LineList", "add", "(J)V"⟩ : MethodName)) (z := (⟨"com/example/reckon/reckon/io/LineList", "add", "(J)V"⟩ : MethodName)) hown (mvT hZ (hw _ (List.mem_of_getElem? (i := 32) rfl))) (mvT hZ (hw _ (List.mem_of_getElem? (i := 33) rfl))) (notFace_of_selects (args := #[]) (mvT hZ (hw _ (List.mem_of_getElem? (i := 35) rfl)))) (mvT hZ (hw _ (List.mem_of_getElem? (i := 35) rfl))) (mvT hZ (hw _ (List.mem_of_getElem? (i := 34) rfl))) (by decide) (backOf (W := 0) (own_add l Z a0 hw [] a vc (9 : Int32) (10 : Int32) (9 : Int32) (10 : Int32) arr kk (16 : Int32) [(.long va), (.long vb), (.long vc), (.long vc), (.long vc), (.long vc), (.long vc), (.long vc), (.long vc), (.long (0 : Int64)), (.long (0 : Int64)), (.long (0 : Int64)), (.long (0 : Int64)), (.long (0 : Int64)), (.long (0 : Int64)), (.long (0 : Int64))] [(.long va), (.long vb), (.long vc), (.long vc), (.long vc), (.long vc), (.long vc), (.long vc), (.long vc), (.long vc), (.long (0 : Int64)), (.long (0 : Int64)), (.long (0 : Int64)), (.long (0 : Int64)), (.long (0 : Int64)), (.long (0 : Int64))] 9 T7.heap n0 O7 g_a g_arr hne E_7 F1_7 F2_7 F3_7 VA_7 (by decide) (by decide) (by decide +kernel) (by decide +kernel) rfl (Nat.le_of_ble_eq_true rfl) rfl) hZ (hw _ (List.mem_of_getElem? (i := 36) rfl)) (hw _ (List.mem_of_getElem? (i := 2) rfl)) (by decide) (by decide)) q8a q8c (g := (mkF mM 37 #[.val (.ref a), .val (.long vc), .second] [(.long vc), (.ref a)])) rfl (by rw [hml]; rfl) (Steps.refl _) (argsL := [(.long vc)]) (rest := []) (lenOf own_pd1 rfl) rfl (by show 2 * 0 + _ ≤ _; exact Nat.le_of_eq rfl) (hb hby own_d12_37) (fun _ _ => ⟨rfl, rfl, (by decide : 0 + 0 ≤ _), (by decide : 0 + 0 ≤ _)⟩)
  dsimp only [Pt.U, Pt.locs, Pt.cells, Pt.slots] at X8 l8 y8 z8 st8 hQ8
  obtain ⟨rfl, Nq8, K8, E_8, F1_8, F2_8, F3_8, VA_8⟩ := hQ8
  have N8 := Fr.app Nw7 Nq8
  have O8 := O7.keep K8 (allS g_a (allS g_arr all0))
  have Kk8 := Kk7.trans K8 (allS (Or.inl (List.mem_of_getElem? (i := 0) rfl)) (allS (Or.inl (List.mem_of_getElem? (i := 1) rfl)) (all0)))
  obtain ⟨Lw8, Nw8, Xw8⟩ := own_pack (k' := 0) (n' := 0) X8 l8 y8 z8 N8
  clear X8
  refine own_tr st8 ?_
  show own_Ends _ _ _ _ (T8.setTop (mkF mM 40 #[.val (.ref a), .val (.long vc), .second] []))
  refine own_go (fun _ k => XS.aloadN Xw8.here hx rfl (hb hby own_d12_40) rfl rfl k) ?_
  show own_Ends _ _ _ _ (T8.setTop (mkF mM 41 #[.val (.ref a), .val (.long vc), .second] [(.ref a)]))
  refine own_go (fun _ k => XS.lloadN Xw8.here hx rfl (hb hby own_d12_41) rfl k) ?_
  show own_Ends _ _ _ _ (T8.setTop (mkF mM 42 #[.val (.ref a), .val (.long vc), .second] [(.long vc), (.ref a)]))
  obtain ⟨cq9, kq9, q9a, q9b, q9c⟩ := isOf hZ rfl E_8
  obtain ⟨_, _, ⟨T9, Lz9, kz9, nz9⟩, -, X9, ⟨Lc9, hQ9, l9, y9, z9⟩, st9⟩ := Xw8.virtualBack hx (y := (⟨"com/example/reckon/reckon/io/LineList", "add", "(J)V"⟩ : MethodName)) (z := (⟨"com/example/reckon/reckon/io/LineList", "add", "(J)V"⟩ : MethodName)) hown (mvT hZ (hw _ (List.mem_of_getElem? (i := 32) rfl))) (mvT hZ (hw _ (List.mem_of_getElem? (i := 33) rfl))) (notFace_of_selects (args := #[]) (mvT hZ (hw _ (List.mem_of_getElem? (i := 35) rfl)))) (mvT hZ (hw _ (List.mem_of_getElem? (i := 35) rfl))) (mvT hZ (hw _ (List.mem_of_getElem? (i := 34) rfl))) (by decide) (backOf (W := 0) (own_add l Z a0 hw [] a vc (10 : Int32) (11 : Int32) (10 : Int32) (11 : Int32) arr kk (16 : Int32) [(.long va), (.long vb), (.long vc), (.long vc), (.long vc), (.long vc), (.long vc), (.long vc), (.long vc), (.long vc), (.long (0 : Int64)), (.long (0 : Int64)), (.long (0 : Int64)), (.long (0 : Int64)), (.long (0 : Int64)), (.long (0 : Int64))] [(.long va), (.long vb), (.long vc), (.long vc), (.long vc), (.long vc), (.long vc), (.long vc), (.long vc), (.long vc), (.long vc), (.long (0 : Int64)), (.long (0 : Int64)), (.long (0 : Int64)), (.long (0 : Int64)), (.long (0 : Int64))] 10 T8.heap n0 O8 g_a g_arr hne E_8 F1_8 F2_8 F3_8 VA_8 (by decide) (by decide) (by decide +kernel) (by decide +kernel) rfl (Nat.le_of_ble_eq_true rfl) rfl) hZ (hw _ (List.mem_of_getElem? (i := 36) rfl)) (hw _ (List.mem_of_getElem? (i := 2) rfl)) (by decide) (by decide)) q9a q9c (g := (mkF mM 42 #[.val (.ref a), .val (.long vc), .second] [(.long vc), (.ref a)])) rfl (by rw [hml]; rfl) (Steps.refl _) (argsL := [(.long vc)]) (rest := []) (lenOf own_pd1 rfl) rfl (by show 2 * 0 + _ ≤ _; exact Nat.le_of_eq rfl) (hb hby own_d12_42) (fun _ _ => ⟨rfl, rfl, (by decide : 0 + 0 ≤ _), (by decide : 0 + 0 ≤ _)⟩)
  dsimp only [Pt.U, Pt.locs, Pt.cells, Pt.slots] at X9 l9 y9 z9 st9 hQ9
  obtain ⟨rfl, Nq9, K9, E_9, F1_9, F2_9, F3_9, VA_9⟩ := hQ9
  have N9 := Fr.app Nw8 Nq9
  have O9 := O8.keep K9 (allS g_a (allS g_arr all0))
  have Kk9 := Kk8.trans K9 (allS (Or.inl (List.mem_of_getElem? (i := 0) rfl)) (allS (Or.inl (List.mem_of_getElem? (i := 1) rfl)) (all0)))
  obtain ⟨Lw9, Nw9, Xw9⟩ := own_pack (k' := 0) (n' := 0) X9 l9 y9 z9 N9
  clear X9
  refine own_tr st9 ?_
  show own_Ends _ _ _ _ (T9.setTop (mkF mM 45 #[.val (.ref a), .val (.long vc), .second] []))
  refine own_go (fun _ k => XS.aloadN Xw9.here hx rfl (hb hby own_d12_45) rfl rfl k) ?_
  show own_Ends _ _ _ _ (T9.setTop (mkF mM 46 #[.val (.ref a), .val (.long vc), .second] [(.ref a)]))
  refine own_go (fun _ k => XS.lloadN Xw9.here hx rfl (hb hby own_d12_46) rfl k) ?_
  show own_Ends _ _ _ _ (T9.setTop (mkF mM 47 #[.val (.ref a), .val (.long vc), .second] [(.long vc), (.ref a)]))
  obtain ⟨cq10, kq10, q10a, q10b, q10c⟩ := isOf hZ rfl E_9
  obtain ⟨_, _, ⟨T10, Lz10, kz10, nz10⟩, -, X10, ⟨Lc10, hQ10, l10, y10, z10⟩, st10⟩ := Xw9.virtualBack hx (y := (⟨"com/example/reckon/reckon/io/LineList", "add", "(J)V"⟩ : MethodName)) (z := (⟨"com/example/reckon/reckon/io/LineList", "add", "(J)V"⟩ : MethodName)) hown (mvT hZ (hw _ (List.mem_of_getElem? (i := 32) rfl))) (mvT hZ (hw _ (List.mem_of_getElem? (i := 33) rfl))) (notFace_of_selects (args := #[]) (mvT hZ (hw _ (List.mem_of_getElem? (i := 35) rfl)))) (mvT hZ (hw _ (List.mem_of_getElem? (i := 35) rfl))) (mvT hZ (hw _ (List.mem_of_getElem? (i := 34) rfl))) (by decide) (backOf (W := 0) (own_add l Z a0 hw [] a vc (11 : Int32) (12 : Int32) (11 : Int32) (12 : Int32) arr kk (16 : Int32) [(.long va), (.long vb), (.long vc), (.long vc), (.long vc), (.long vc), (.long vc), (.long vc), (.long vc), (.long vc), (.long vc), (.long (0 : Int64)), (.long (0 : Int64)), (.long (0 : Int64)), (.long (0 : Int64)), (.long (0 : Int64))] [(.long va), (.long vb), (.long vc), (.long vc), (.long vc), (.long vc), (.long vc), (.long vc), (.long vc), (.long vc), (.long vc), (.long vc), (.long (0 : Int64)), (.long (0 : Int64)), (.long (0 : Int64)), (.long (0 : Int64))] 11 T9.heap n0 O9 g_a g_arr hne E_9 F1_9 F2_9 F3_9 VA_9 (by decide) (by decide) (by decide +kernel) (by decide +kernel) rfl (Nat.le_of_ble_eq_true rfl) rfl) hZ (hw _ (List.mem_of_getElem? (i := 36) rfl)) (hw _ (List.mem_of_getElem? (i := 2) rfl)) (by decide) (by decide)) q10a q10c (g := (mkF mM 47 #[.val (.ref a), .val (.long vc), .second] [(.long vc), (.ref a)])) rfl (by rw [hml]; rfl) (Steps.refl _) (argsL := [(.long vc)]) (rest := []) (lenOf own_pd1 rfl) rfl (by show 2 * 0 + _ ≤ _; exact Nat.le_of_eq rfl) (hb hby own_d12_47) (fun _ _ => ⟨rfl, rfl, (by decide : 0 + 0 ≤ _), (by decide : 0 + 0 ≤ _)⟩)
  dsimp only [Pt.U, Pt.locs, Pt.cells, Pt.slots] at X10 l10 y10 z10 st10 hQ10
  obtain ⟨rfl, Nq10, K10, E_10, F1_10, F2_10, F3_10, VA_10⟩ := hQ10
  have N10 := Fr.app Nw9 Nq10
  have O10 := O9.keep K10 (allS g_a (allS g_arr all0))
  have Kk10 := Kk9.trans K10 (allS (Or.inl (List.mem_of_getElem? (i := 0) rfl)) (allS (Or.inl (List.mem_of_getElem? (i := 1) rfl)) (all0)))
  obtain ⟨Lw10, Nw10, Xw10⟩ := own_pack (k' := 0) (n' := 0) X10 l10 y10 z10 N10
  clear X10
  refine own_tr st10 ?_
  show own_Ends _ _ _ _ (T10.setTop (mkF mM 50 #[.val (.ref a), .val (.long vc), .second] []))
  refine own_go (fun _ k => XS.aloadN Xw10.here hx rfl (hb hby own_d12_50) rfl rfl k) ?_
  show own_Ends _ _ _ _ (T10.setTop (mkF mM 51 #[.val (.ref a), .val (.long vc), .second] [(.ref a)]))
  refine own_go (fun _ k => XS.lloadN Xw10.here hx rfl (hb hby own_d12_51) rfl k) ?_
  show own_Ends _ _ _ _ (T10.setTop (mkF mM 52 #[.val (.ref a), .val (.long vc), .second] [(.long vc), (.ref a)]))
  obtain ⟨cq11, kq11, q11a, q11b, q11c⟩ := isOf hZ rfl E_10
  obtain ⟨_, _, ⟨T11, Lz11, kz11, nz11⟩, -, X11, ⟨Lc11, hQ11, l11, y11, z11⟩, st11⟩ := Xw10.virtualBack hx (y := (⟨"com/example/reckon/reckon/io/LineList", "add", "(J)V"⟩ : MethodName)) (z := (⟨"com/example/reckon/reckon/io/LineList", "add", "(J)V"⟩ : MethodName)) hown (mvT hZ (hw _ (List.mem_of_getElem? (i := 32) rfl))) (mvT hZ (hw _ (List.mem_of_getElem? (i := 33) rfl))) (notFace_of_selects (args := #[]) (mvT hZ (hw _ (List.mem_of_getElem? (i := 35) rfl)))) (mvT hZ (hw _ (List.mem_of_getElem? (i := 35) rfl))) (mvT hZ (hw _ (List.mem_of_getElem? (i := 34) rfl))) (by decide) (backOf (W := 0) (own_add l Z a0 hw [] a vc (12 : Int32) (13 : Int32) (12 : Int32) (13 : Int32) arr kk (16 : Int32) [(.long va), (.long vb), (.long vc), (.long vc), (.long vc), (.long vc), (.long vc), (.long vc), (.long vc), (.long vc), (.long vc), (.long vc), (.long (0 : Int64)), (.long (0 : Int64)), (.long (0 : Int64)), (.long (0 : Int64))] [(.long va), (.long vb), (.long vc), (.long vc), (.long vc), (.long vc), (.long vc), (.long vc), (.long vc), (.long vc), (.long vc), (.long vc), (.long vc), (.long (0 : Int64)), (.long (0 : Int64)), (.long (0 : Int64))] 12 T10.heap n0 O10 g_a g_arr hne E_10 F1_10 F2_10 F3_10 VA_10 (by decide) (by decide) (by decide +kernel) (by decide +kernel) rfl (Nat.le_of_ble_eq_true rfl) rfl) hZ (hw _ (List.mem_of_getElem? (i := 36) rfl)) (hw _ (List.mem_of_getElem? (i := 2) rfl)) (by decide) (by decide)) q11a q11c (g := (mkF mM 52 #[.val (.ref a), .val (.long vc), .second] [(.long vc), (.ref a)])) rfl (by rw [hml]; rfl) (Steps.refl _) (argsL := [(.long vc)]) (rest := []) (lenOf own_pd1 rfl) rfl (by show 2 * 0 + _ ≤ _; exact Nat.le_of_eq rfl) (hb hby own_d12_52) (fun _ _ => ⟨rfl, rfl, (by decide : 0 + 0 ≤ _), (by decide : 0 + 0 ≤ _)⟩)
  dsimp only [Pt.U, Pt.locs, Pt.cells, Pt.slots] at X11 l11 y11 z11 st11 hQ11
  obtain ⟨rfl, Nq11, K11, E_11, F1_11, F2_11, F3_11, VA_11⟩ := hQ11
  have N11 := Fr.app Nw10 Nq11
  have O11 := O10.keep K11 (allS g_a (allS g_arr all0))
  have Kk11 := Kk10.trans K11 (allS (Or.inl (List.mem_of_getElem? (i := 0) rfl)) (allS (Or.inl (List.mem_of_getElem? (i := 1) rfl)) (all0)))
  obtain ⟨Lw11, Nw11, Xw11⟩ := own_pack (k' := 0) (n' := 0) X11 l11 y11 z11 N11
  clear X11
  refine own_tr st11 ?_
  show own_Ends _ _ _ _ (T11.setTop (mkF mM 55 #[.val (.ref a), .val (.long vc), .second] []))
  refine own_go (fun _ k => XS.aloadN Xw11.here hx rfl (hb hby own_d12_55) rfl rfl k) ?_
  show own_Ends _ _ _ _ (T11.setTop (mkF mM 56 #[.val (.ref a), .val (.long vc), .second] [(.ref a)]))
  refine own_go (fun _ k => XS.lloadN Xw11.here hx rfl (hb hby own_d12_56) rfl k) ?_
  show own_Ends _ _ _ _ (T11.setTop (mkF mM 57 #[.val (.ref a), .val (.long vc), .second] [(.long vc), (.ref a)]))
  obtain ⟨cq12, kq12, q12a, q12b, q12c⟩ := isOf hZ rfl E_11
  obtain ⟨_, _, ⟨T12, Lz12, kz12, nz12⟩, -, X12, ⟨Lc12, hQ12, l12, y12, z12⟩, st12⟩ := Xw11.virtualBack hx (y := (⟨"com/example/reckon/reckon/io/LineList", "add", "(J)V"⟩ : MethodName)) (z := (⟨"com/example/reckon/reckon/io/LineList", "add", "(J)V"⟩ : MethodName)) hown (mvT hZ (hw _ (List.mem_of_getElem? (i := 32) rfl))) (mvT hZ (hw _ (List.mem_of_getElem? (i := 33) rfl))) (notFace_of_selects (args := #[]) (mvT hZ (hw _ (List.mem_of_getElem? (i := 35) rfl)))) (mvT hZ (hw _ (List.mem_of_getElem? (i := 35) rfl))) (mvT hZ (hw _ (List.mem_of_getElem? (i := 34) rfl))) (by decide) (backOf (W := 0) (own_add l Z a0 hw [] a vc (13 : Int32) (14 : Int32) (13 : Int32) (14 : Int32) arr kk (16 : Int32) [(.long va), (.long vb), (.long vc), (.long vc), (.long vc), (.long vc), (.long vc), (.long vc), (.long vc), (.long vc), (.long vc), (.long vc), (.long vc), (.long (0 : Int64)), (.long (0 : Int64)), (.long (0 : Int64))] [(.long va), (.long vb), (.long vc), (.long vc), (.long vc), (.long vc), (.long vc), (.long vc), (.long vc), (.long vc), (.long vc), (.long vc), (.long vc), (.long vc), (.long (0 : Int64)), (.long (0 : Int64))] 13 T11.heap n0 O11 g_a g_arr hne E_11 F1_11 F2_11 F3_11 VA_11 (by decide) (by decide) (by decide +kernel) (by decide +kernel) rfl (Nat.le_of_ble_eq_true rfl) rfl) hZ (hw _ (List.mem_of_getElem? (i := 36) rfl)) (hw _ (List.mem_of_getElem? (i := 2) rfl)) (by decide) (by decide)) q12a q12c (g := (mkF mM 57 #[.val (.ref a), .val (.long vc), .second] [(.long vc), (.ref a)])) rfl (by rw [hml]; rfl) (Steps.refl _) (argsL := [(.long vc)]) (rest := []) (lenOf own_pd1 rfl) rfl (by show 2 * 0 + _ ≤ _; exact Nat.le_of_eq rfl) (hb hby own_d12_57) (fun _ _ => ⟨rfl, rfl, (by decide : 0 + 0 ≤ _), (by decide : 0 + 0 ≤ _)⟩)
  dsimp only [Pt.U, Pt.locs, Pt.cells, Pt.slots] at X12 l12 y12 z12 st12 hQ12
  obtain ⟨rfl, Nq12, K12, E_12, F1_12, F2_12, F3_12, VA_12⟩ := hQ12
  have N12 := Fr.app Nw11 Nq12
  have O12 := O11.keep K12 (allS g_a (allS g_arr all0))
  have Kk12 := Kk11.trans K12 (allS (Or.inl (List.mem_of_getElem? (i := 0) rfl)) (allS (Or.inl (List.mem_of_getElem? (i := 1) rfl)) (all0)))
  obtain ⟨Lw12, Nw12, Xw12⟩ := own_pack (k' := 0) (n' := 0) X12 l12 y12 z12 N12
  clear X12
  refine own_tr st12 ?_
  show own_Ends _ _ _ _ (T12.setTop (mkF mM 60 #[.val (.ref a), .val (.long vc), .second] []))
  refine own_go (fun _ k => XS.aloadN Xw12.here hx rfl (hb hby own_d12_60) rfl rfl k) ?_
  show own_Ends _ _ _ _ (T12.setTop (mkF mM 61 #[.val (.ref a), .val (.long vc), .second] [(.ref a)]))
  refine own_go (fun _ k => XS.lloadN Xw12.here hx rfl (hb hby own_d12_61) rfl k) ?_
  show own_Ends _ _ _ _ (T12.setTop (mkF mM 62 #[.val (.ref a), .val (.long vc), .second] [(.long vc), (.ref a)]))
  obtain ⟨cq13, kq13, q13a, q13b, q13c⟩ := isOf hZ rfl E_12
  obtain ⟨_, _, ⟨T13, Lz13, kz13, nz13⟩, -, X13, ⟨Lc13, hQ13, l13, y13, z13⟩, st13⟩ := Xw12.virtualBack hx (y := (⟨"com/example/reckon/reckon/io/LineList", "add", "(J)V"⟩ : MethodName)) (z := (⟨"com/example/reckon/reckon/io/LineList", "add", "(J)V"⟩ : MethodName)) hown (mvT hZ (hw _ (List.mem_of_getElem? (i := 32) rfl))) (mvT hZ (hw _ (List.mem_of_getElem? (i := 33) rfl))) (notFace_of_selects (args := #[]) (mvT hZ (hw _ (List.mem_of_getElem? (i := 35) rfl)))) (mvT hZ (hw _ (List.mem_of_getElem? (i := 35) rfl))) (mvT hZ (hw _ (List.mem_of_getElem? (i := 34) rfl))) (by decide) (backOf (W := 0) (own_add l Z a0 hw [] a vc (14 : Int32) (15 : Int32) (14 : Int32) (15 : Int32) arr kk (16 : Int32) [(.long va), (.long vb), (.long vc), (.long vc), (.long vc), (.long vc), (.long vc), (.long vc), (.long vc), (.long vc), (.long vc), (.long vc), (.long vc), (.long vc), (.long (0 : Int64)), (.long (0 : Int64))] [(.long va), (.long vb), (.long vc), (.long vc), (.long vc), (.long vc), (.long vc), (.long vc), (.long vc), (.long vc), (.long vc), (.long vc), (.long vc), (.long vc), (.long vc), (.long (0 : Int64))] 14 T12.heap n0 O12 g_a g_arr hne E_12 F1_12 F2_12 F3_12 VA_12 (by decide) (by decide) (by decide +kernel) (by decide +kernel) rfl (Nat.le_of_ble_eq_true rfl) rfl) hZ (hw _ (List.mem_of_getElem? (i := 36) rfl)) (hw _ (List.mem_of_getElem? (i := 2) rfl)) (by decide) (by decide)) q13a q13c (g := (mkF mM 62 #[.val (.ref a), .val (.long vc), .second] [(.long vc), (.ref a)])) rfl (by rw [hml]; rfl) (Steps.refl _) (argsL := [(.long vc)]) (rest := []) (lenOf own_pd1 rfl) rfl (by show 2 * 0 + _ ≤ _; exact Nat.le_of_eq rfl) (hb hby own_d12_62) (fun _ _ => ⟨rfl, rfl, (by decide : 0 + 0 ≤ _), (by decide : 0 + 0 ≤ _)⟩)
  dsimp only [Pt.U, Pt.locs, Pt.cells, Pt.slots] at X13 l13 y13 z13 st13 hQ13
  obtain ⟨rfl, Nq13, K13, E_13, F1_13, F2_13, F3_13, VA_13⟩ := hQ13
  have N13 := Fr.app Nw12 Nq13
  have O13 := O12.keep K13 (allS g_a (allS g_arr all0))
  have Kk13 := Kk12.trans K13 (allS (Or.inl (List.mem_of_getElem? (i := 0) rfl)) (allS (Or.inl (List.mem_of_getElem? (i := 1) rfl)) (all0)))
  obtain ⟨Lw13, Nw13, Xw13⟩ := own_pack (k' := 0) (n' := 0) X13 l13 y13 z13 N13
  clear X13
  refine own_tr st13 ?_
  show own_Ends _ _ _ _ (T13.setTop (mkF mM 65 #[.val (.ref a), .val (.long vc), .second] []))
  refine own_go (fun _ k => XS.aloadN Xw13.here hx rfl (hb hby own_d12_65) rfl rfl k) ?_
  show own_Ends _ _ _ _ (T13.setTop (mkF mM 66 #[.val (.ref a), .val (.long vc), .second] [(.ref a)]))
  refine own_go (fun _ k => XS.lloadN Xw13.here hx rfl (hb hby own_d12_66) rfl k) ?_
  show own_Ends _ _ _ _ (T13.setTop (mkF mM 67 #[.val (.ref a), .val (.long vc), .second] [(.long vc), (.ref a)]))
  obtain ⟨cq14, kq14, q14a, q14b, q14c⟩ := isOf hZ rfl E_13
  obtain ⟨_, _, ⟨T14, Lz14, kz14, nz14⟩, -, X14, ⟨Lc14, hQ14, l14, y14, z14⟩, st14⟩ := Xw13.virtualBack hx (y := (⟨"com/example/reckon/reckon/io/LineList", "add", "(J)V"⟩ : MethodName)) (z := (⟨"com/example/reckon/reckon/io/LineList", "add", "(J)V"⟩ : MethodName)) hown (mvT hZ (hw _ (List.mem_of_getElem? (i := 32) rfl))) (mvT hZ (hw _ (List.mem_of_getElem? (i := 33) rfl))) (notFace_of_selects (args := #[]) (mvT hZ (hw _ (List.mem_of_getElem? (i := 35) rfl)))) (mvT hZ (hw _ (List.mem_of_getElem? (i := 35) rfl))) (mvT hZ (hw _ (List.mem_of_getElem? (i := 34) rfl))) (by decide) (backOf (W := 0) (own_add l Z a0 hw [] a vc (15 : Int32) (16 : Int32) (15 : Int32) (16 : Int32) arr kk (16 : Int32) [(.long va), (.long vb), (.long vc), (.long vc), (.long vc), (.long vc), (.long vc), (.long vc), (.long vc), (.long vc), (.long vc), (.long vc), (.long vc), (.long vc), (.long vc), (.long (0 : Int64))] [(.long va), (.long vb), (.long vc), (.long vc), (.long vc), (.long vc), (.long vc), (.long vc), (.long vc), (.long vc), (.long vc), (.long vc), (.long vc), (.long vc), (.long vc), (.long vc)] 15 T13.heap n0 O13 g_a g_arr hne E_13 F1_13 F2_13 F3_13 VA_13 (by decide) (by decide) (by decide +kernel) (by decide +kernel) rfl (Nat.le_of_ble_eq_true rfl) rfl) hZ (hw _ (List.mem_of_getElem? (i := 36) rfl)) (hw _ (List.mem_of_getElem? (i := 2) rfl)) (by decide) (by decide)) q14a q14c (g := (mkF mM 67 #[.val (.ref a), .val (.long vc), .second] [(.long vc), (.ref a)])) rfl (by rw [hml]; rfl) (Steps.refl _) (argsL := [(.long vc)]) (rest := []) (lenOf own_pd1 rfl) rfl (by show 2 * 0 + _ ≤ _; exact Nat.le_of_eq rfl) (hb hby own_d12_67) (fun _ _ => ⟨rfl, rfl, (by decide : 0 + 0 ≤ _), (by decide : 0 + 0 ≤ _)⟩)
  dsimp only [Pt.U, Pt.locs, Pt.cells, Pt.slots] at X14 l14 y14 z14 st14 hQ14
  obtain ⟨rfl, Nq14, K14, E_14, F1_14, F2_14, F3_14, VA_14⟩ := hQ14
  have N14 := Fr.app Nw13 Nq14
  have O14 := O13.keep K14 (allS g_a (allS g_arr all0))
  have Kk14 := Kk13.trans K14 (allS (Or.inl (List.mem_of_getElem? (i := 0) rfl)) (allS (Or.inl (List.mem_of_getElem? (i := 1) rfl)) (all0)))
  obtain ⟨Lw14, Nw14, Xw14⟩ := own_pack (k' := 0) (n' := 0) X14 l14 y14 z14 N14
  clear X14
  refine own_tr st14 ?_
  show own_Ends _ _ _ _ (T14.setTop (mkF mM 70 #[.val (.ref a), .val (.long vc), .second] []))
  exact own_retV Xw14 hx (BodyLoose.notSynchronized Bd) (st := []) Bd.returns (hb hby own_d12_70) (by decide) (by decide) (⟨rfl, Nw14, Kk14, E_14, F1_14, F2_14, F3_14, VA_14⟩)
theorem own_pd6 : parseMethodDescriptor "()I" = some ⟨[], some .int⟩ := by decide +kernel
theorem own_pd7 : parseMethodDescriptor "(I)Ljava/lang/Long;" = some ⟨[.int], some (.object "java/lang/Long")⟩ := by decide +kernel
theorem own_pd8 : parseMethodDescriptor "()J" = some ⟨[], some .long⟩ := by decide +kernel
theorem own_pd9 : parseMethodDescriptor "(Lcom/example/reckon/reckon/io/LineList;J)V" = some ⟨[(.object "com/example/reckon/reckon/io/LineList"), .long], none⟩ := by decide +kernel
theorem own_ef_own_law (m : MethodId) (x0 : Int64) (x1 : Int64) (x2 : Int64) (x3 : Int64) : entryFrame m #[(.long x0), (.long x1), (.long x2), (.long x3)] maxLocals = mkF m 0 #[.val (.long x0), .second, .val (.long x1), .second, .val (.long x2), .second, .val (.long x3), .second, .unset, .unset] [] := by first | (simp [entryFrame, mkF, argsToLocals, Value.category, maxLocals]; done) | rfl
def Q_own_law (Z : State) (va : Int64) (vb : Int64) (vc : Int64) (vd : Int64) (cc : Addr) (cl : Cell) (h0 : Heap) (n0 : Nat) (v : Option Value) (h : Heap) (L : List Loc) : Prop := v = some (.int 1) ∧ Fr n0 L
set_option maxRecDepth 65536 in
set_option maxHeartbeats 40000000 in
theorem own_law (l : Launch) (Z : State) (a0 : Array Value) (hw : ∀ d ∈ tables_1, d.before a0 Z = true) (ws : List Jvm.Cond) (va : Int64) (vb : Int64) (vc : Int64) (vd : Int64) (cc : Addr) (cl : Cell) (h0 : Heap) (n0 : Nat) (O0 : Old Z n0 h0) (S_cache : Sta Z Z.heap "java/lang/Long$LongCache" "cache" "[Ljava/lang/Long;" (.ref cc)) (hcc : Arr Z Z.heap cc cl (.object "java/lang/Long") ∧ cl.slots.size = (256 : Int32).toNatClampNeg ∧ ∀ p : Int64, ¬ p < (-128 : Int64) → ¬ (127 : Int64) < p → ∃ x : Addr, cl.slots[((p.toInt32) + (128 : Int32)).toNatClampNeg]? = some (.ref x) ∧ Exa Z Z.heap x "java/lang/Long" ∧ Fld Z Z.heap x "java/lang/Long" "value" "J" (.long p)) :
    MetFree l x (head1 (Jvm.Cond.code x code maxLocals ret :: ws) room_1) (fun args_ U => args_ = #[(.long va), (.long vb), (.long vc), (.long vd)] ∧ Z.Warmed39 U.vm ∧ U.heap = h0) (fun _ _ _ _ _ => True) (fun _ U o U' => ∃ v L, o = .returned v ∧ Q_own_law Z va vb vc vd cc cl h0 n0 v U'.heap L ∧ FrameEnd U o U' L 40 192) := by
  refine MetFree.of_bodySF (plainFor_of_name own_pn_com_example_reckon_reckon_io_LineListAddPinLaw) hisR ?_
  intro pP eE sS mM args below meth cC s₁ Bd hml0 hP hK
  obtain ⟨rfl, hZ, hh⟩ := hP
  have hx := Bd.exec
  have hby := Bd.bytes
  have hml : cC.maxLocals = 10 := hml0
  have hown : sS.vm.findClass "com/example/reckon/reckon/io/LineListAddPinLaw" = some mM.cls := findClass_of_methodNamed Bd.named
  have hnm := (name_of_methodNamed Bd.named Bd.method).1
  have X0 : Stand pP l eE room_1 sS mM #[(.long va), (.long vb), (.long vc), (.long vd)] below meth cC s₁ [] 0 0 := Stand.of_body Bd
  have e0 : s₁.heap = h0 := by rw [← hh, Bd.state]; rfl
  have N0 := Fr.nil n0
  show own_Ends pP eE below (own_Got sS (Q_own_law Z va vb vc vd cc cl h0 n0) 40 192) (s₁.setTop (entryFrame mM #[(.long va), (.long vb), (.long vc), (.long vd)] maxLocals))
  rw [own_ef_own_law mM va vb vc vd]
  obtain ⟨T1, h1, X1, e1, E1, A1, D1, -, st1⟩ := newO X0 hx hZ hown (hw _ (List.mem_of_getElem? (i := 0) rfl)) (hw _ (List.mem_of_getElem? (i := 1) rfl)) (hw _ (List.mem_of_getElem? (i := 2) rfl)) e0 (g := (mkF mM 0 #[.val (.long va), .second, .val (.long vb), .second, .val (.long vc), .second, .val (.long vd), .second, .unset, .unset] [])) rfl (hb hby at_0) (by decide) (by decide)
  obtain ⟨b1, g1⟩ : ∃ z, z = h0.size := ⟨_, rfl⟩
  rw [← g1] at A1 D1 st1
  have O1 := O0.ext E1
  have g_b1 : n0 ≤ b1 := by rw [g1, ← O0.1]; exact O0.2.1
  have E_b1 : Exa Z h1 b1 "com/example/reckon/reckon/io/LineList" := A1
  have F_modCount_b1 : Fld Z h1 b1 "java/util/AbstractList" "modCount" "I" (.int (0 : Int32)) := D1 (Or.inl (hw _ (List.mem_of_getElem? (i := 21) rfl))) (ty := .int) (by decide)
  have F_lines_b1 : Fld Z h1 b1 "com/example/reckon/reckon/io/LineList" "lines" "[J" .null := D1 (Or.inl (hw _ (List.mem_of_getElem? (i := 24) rfl))) (ty := (.array .long)) (by decide)
  have F_size_b1 : Fld Z h1 b1 "com/example/reckon/reckon/io/LineList" "size" "I" (.int (0 : Int32)) := D1 (Or.inl (hw _ (List.mem_of_getElem? (i := 31) rfl))) (ty := .int) (by decide)
  refine own_go st1 ?_
  show own_Ends _ _ _ _ (T1.setTop (mkF mM 3 #[.val (.long va), .second, .val (.long vb), .second, .val (.long vc), .second, .val (.long vd), .second, .unset, .unset] [(.ref b1)]))
  refine own_go (fun _ k => XS.dup X1.here hx rfl (hb hby at_3) rfl rfl k) ?_
  show own_Ends _ _ _ _ (T1.setTop (mkF mM 4 #[.val (.long va), .second, .val (.long vb), .second, .val (.long vc), .second, .val (.long vd), .second, .unset, .unset] [(.ref b1), (.ref b1)]))
  obtain ⟨_, _, ⟨T2, Lz2, kz2, nz2⟩, -, X2, ⟨Lc2, hQ2, l2, y2, z2⟩, st2⟩ := X1.specialBack hx (y := (⟨"com/example/reckon/reckon/io/LineList", "<init>", "()V"⟩ : MethodName)) rfl hown (mvT hZ (hw _ (List.mem_of_getElem? (i := 3) rfl))) (mvT hZ (hw _ (List.mem_of_getElem? (i := 4) rfl))) (mvT hZ (hw _ (List.mem_of_getElem? (i := 5) rfl))) (by decide) (backOf (W := 1) (own_llinit l Z a0 hw [] b1 h1 n0 O1 g_b1 E_b1 F_size_b1 F_modCount_b1 F_lines_b1) hZ (hw _ (List.mem_of_getElem? (i := 5) rfl)) (hw _ (List.mem_of_getElem? (i := 2) rfl)) (by decide) (by decide)) (g := (mkF mM 4 #[.val (.long va), .second, .val (.long vb), .second, .val (.long vc), .second, .val (.long vd), .second, .unset, .unset] [(.ref b1), (.ref b1)])) rfl (by rw [hml]; rfl) (Steps.refl _) (a := b1) (argsL := []) (rest := [(.ref b1)]) (lenOf own_pd0 rfl) rfl (by show 2 * 0 + _ ≤ _; exact Nat.le_of_eq rfl) (hb hby at_4) (fun _ _ => ⟨rfl, e1, (by decide : 1 + 1 ≤ _), (by decide : 3 + 16 ≤ _)⟩)
  dsimp only [Pt.U, Pt.locs, Pt.cells, Pt.slots] at X2 l2 y2 z2 st2 hQ2
  obtain ⟨rfl, Nq2, K2, r2, rk2, g_r2, hne2, E_2, F1_2, F2_2, F3_2, VA_2⟩ := hQ2
  have N2 := Fr.app N0 Nq2
  have O2 := O1.keep K2 (allS g_b1 all0)
  obtain ⟨Lw2, Nw2, Xw2⟩ := own_pack (k' := 2) (n' := 19) X2 l2 y2 z2 N2
  clear X2
  refine own_tr st2 ?_
  show own_Ends _ _ _ _ (T2.setTop (mkF mM 7 #[.val (.long va), .second, .val (.long vb), .second, .val (.long vc), .second, .val (.long vd), .second, .unset, .unset] [(.ref b1)]))
  refine own_go (fun _ k => XS.astore Xw2.here hx rfl (hb hby at_7) rfl rfl (l' := #[.val (.long va), .second, .val (.long vb), .second, .val (.long vc), .second, .val (.long vd), .second, .val (.ref b1), .unset]) rfl k) ?_
  show own_Ends _ _ _ _ (T2.setTop (mkF mM 9 #[.val (.long va), .second, .val (.long vb), .second, .val (.long vc), .second, .val (.long vd), .second, .val (.ref b1), .unset] []))
  refine own_go (fun _ k => XS.aload Xw2.here hx rfl (hb hby at_9) rfl rfl k) ?_
  show own_Ends _ _ _ _ (T2.setTop (mkF mM 11 #[.val (.long va), .second, .val (.long vb), .second, .val (.long vc), .second, .val (.long vd), .second, .val (.ref b1), .unset] [(.ref b1)]))
  obtain ⟨cq3, kq3, q3a, q3b, q3c⟩ := isOf hZ rfl E_2
  obtain ⟨_, _, ⟨T3, Lz3, kz3, nz3⟩, -, X3, ⟨Lc3, hQ3, l3, y3, z3⟩, st3⟩ := Xw2.virtualBack hx (y := (⟨"com/example/reckon/reckon/io/LineList", "size", "()I"⟩ : MethodName)) (z := (⟨"com/example/reckon/reckon/io/LineList", "size", "()I"⟩ : MethodName)) hown (mvT hZ (hw _ (List.mem_of_getElem? (i := 25) rfl))) (mvT hZ (hw _ (List.mem_of_getElem? (i := 26) rfl))) (notFace_of_selects (args := #[]) (mvT hZ (hw _ (List.mem_of_getElem? (i := 28) rfl)))) (mvT hZ (hw _ (List.mem_of_getElem? (i := 28) rfl))) (mvT hZ (hw _ (List.mem_of_getElem? (i := 27) rfl))) (by decide) (backOf (W := 0) (own_size l Z a0 hw [] b1 (0 : Int32) T2.heap n0 O2 F1_2) hZ (hw _ (List.mem_of_getElem? (i := 29) rfl)) (hw _ (List.mem_of_getElem? (i := 2) rfl)) (by decide) (by decide)) q3a q3c (g := (mkF mM 11 #[.val (.long va), .second, .val (.long vb), .second, .val (.long vc), .second, .val (.long vd), .second, .val (.ref b1), .unset] [(.ref b1)])) rfl (by rw [hml]; rfl) (Steps.refl _) (argsL := []) (rest := []) (lenOf own_pd6 rfl) rfl (by show 2 * 0 + _ ≤ _; exact Nat.le_of_eq rfl) (hb hby at_11) (fun _ _ => ⟨rfl, rfl, (by decide : 2 + 0 ≤ _), (by decide : 19 + 0 ≤ _)⟩)
  dsimp only [Pt.U, Pt.locs, Pt.cells, Pt.slots] at X3 l3 y3 z3 st3 hQ3
  obtain ⟨rfl, Nq3, e3⟩ := hQ3
  have N3 := Fr.app Nw2 Nq3
  obtain ⟨Lw3, Nw3, Xw3⟩ := own_pack (k' := 2) (n' := 19) X3 l3 y3 z3 N3
  clear X3
  refine own_tr st3 ?_
  show own_Ends _ _ _ _ (T3.setTop (mkF mM 14 #[.val (.long va), .second, .val (.long vb), .second, .val (.long vc), .second, .val (.long vd), .second, .val (.ref b1), .unset] [(.int (0 : Int32))]))
  refine own_go (fun _ k => XS.ifNo Xw3.here hx rfl (hb hby at_14) rfl ((if0 _ _).trans (teq (by decide : (0 : Int32) = (0 : Int32))).2) k) ?_
  show own_Ends _ _ _ _ (T3.setTop (mkF mM 17 #[.val (.long va), .second, .val (.long vb), .second, .val (.long vc), .second, .val (.long vd), .second, .val (.ref b1), .unset] []))
  refine own_go (fun _ k => XS.iconst Xw3.here hx rfl (hb hby at_17) k) ?_
  show own_Ends _ _ _ _ (T3.setTop (mkF mM 18 #[.val (.long va), .second, .val (.long vb), .second, .val (.long vc), .second, .val (.long vd), .second, .val (.ref b1), .unset] [(.int (1 : Int32))]))
  refine own_go (fun _ k => XS.goto Xw3.here hx rfl (pc0 := 18) (pc' := 22) rfl (hb hby at_18) (by decide) (by decide) k) ?_
  show own_Ends _ _ _ _ (T3.setTop (mkF mM 22 #[.val (.long va), .second, .val (.long vb), .second, .val (.long vc), .second, .val (.long vd), .second, .val (.ref b1), .unset] [(.int (1 : Int32))]))
  refine own_go (fun _ k => XS.istore Xw3.here hx rfl (hb hby at_22) rfl (l' := #[.val (.long va), .second, .val (.long vb), .second, .val (.long vc), .second, .val (.long vd), .second, .val (.ref b1), .val (.int (1 : Int32))]) rfl k) ?_
  show own_Ends _ _ _ _ (T3.setTop (mkF mM 24 #[.val (.long va), .second, .val (.long vb), .second, .val (.long vc), .second, .val (.long vd), .second, .val (.ref b1), .val (.int (1 : Int32))] []))
  refine own_go (fun _ k => XS.aload Xw3.here hx rfl (hb hby at_24) rfl rfl k) ?_
  show own_Ends _ _ _ _ (T3.setTop (mkF mM 26 #[.val (.long va), .second, .val (.long vb), .second, .val (.long vc), .second, .val (.long vd), .second, .val (.ref b1), .val (.int (1 : Int32))] [(.ref b1)]))
  refine own_go (fun _ k => XS.lloadN Xw3.here hx rfl (hb hby at_26) rfl k) ?_
  show own_Ends _ _ _ _ (T3.setTop (mkF mM 27 #[.val (.long va), .second, .val (.long vb), .second, .val (.long vc), .second, .val (.long vd), .second, .val (.ref b1), .val (.int (1 : Int32))] [(.long va), (.ref b1)]))
  have R4 := E_2
  have R5 := F1_2
  have R6 := F2_2
  have R7 := F3_2
  have R8 := VA_2
  obtain ⟨cq9, kq9, q9a, q9b, q9c⟩ := isOf hZ e3 R4
  obtain ⟨_, _, ⟨T9, Lz9, kz9, nz9⟩, -, X9, ⟨Lc9, hQ9, l9, y9, z9⟩, st9⟩ := Xw3.virtualBack hx (y := (⟨"com/example/reckon/reckon/io/LineList", "add", "(J)V"⟩ : MethodName)) (z := (⟨"com/example/reckon/reckon/io/LineList", "add", "(J)V"⟩ : MethodName)) hown (mvT hZ (hw _ (List.mem_of_getElem? (i := 32) rfl))) (mvT hZ (hw _ (List.mem_of_getElem? (i := 33) rfl))) (notFace_of_selects (args := #[]) (mvT hZ (hw _ (List.mem_of_getElem? (i := 35) rfl)))) (mvT hZ (hw _ (List.mem_of_getElem? (i := 35) rfl))) (mvT hZ (hw _ (List.mem_of_getElem? (i := 34) rfl))) (by decide) (backOf (W := 0) (own_add l Z a0 hw [] b1 va (0 : Int32) (1 : Int32) (0 : Int32) (1 : Int32) r2 rk2 (16 : Int32) [(.long (0 : Int64)), (.long (0 : Int64)), (.long (0 : Int64)), (.long (0 : Int64)), (.long (0 : Int64)), (.long (0 : Int64)), (.long (0 : Int64)), (.long (0 : Int64)), (.long (0 : Int64)), (.long (0 : Int64)), (.long (0 : Int64)), (.long (0 : Int64)), (.long (0 : Int64)), (.long (0 : Int64)), (.long (0 : Int64)), (.long (0 : Int64))] [(.long va), (.long (0 : Int64)), (.long (0 : Int64)), (.long (0 : Int64)), (.long (0 : Int64)), (.long (0 : Int64)), (.long (0 : Int64)), (.long (0 : Int64)), (.long (0 : Int64)), (.long (0 : Int64)), (.long (0 : Int64)), (.long (0 : Int64)), (.long (0 : Int64)), (.long (0 : Int64)), (.long (0 : Int64)), (.long (0 : Int64))] 0 T2.heap n0 O2 g_b1 g_r2 hne2 R4 R5 R6 R7 R8 (by decide) (by decide) (by decide +kernel) (by decide +kernel) rfl (Nat.le_of_ble_eq_true rfl) rfl) hZ (hw _ (List.mem_of_getElem? (i := 36) rfl)) (hw _ (List.mem_of_getElem? (i := 2) rfl)) (by decide) (by decide)) q9a q9c (g := (mkF mM 27 #[.val (.long va), .second, .val (.long vb), .second, .val (.long vc), .second, .val (.long vd), .second, .val (.ref b1), .val (.int (1 : Int32))] [(.long va), (.ref b1)])) rfl (by rw [hml]; rfl) (Steps.refl _) (argsL := [(.long va)]) (rest := []) (lenOf own_pd1 rfl) rfl (by show 2 * 0 + _ ≤ _; exact Nat.le_of_eq rfl) (hb hby at_27) (fun _ _ => ⟨rfl, e3, (by decide : 2 + 0 ≤ _), (by decide : 19 + 0 ≤ _)⟩)
  dsimp only [Pt.U, Pt.locs, Pt.cells, Pt.slots] at X9 l9 y9 z9 st9 hQ9
  obtain ⟨rfl, Nq9, K9, E_9, F1_9, F2_9, F3_9, VA_9⟩ := hQ9
  have N9 := Fr.app Nw3 Nq9
  have O9 := O2.keep K9 (allS g_b1 (allS g_r2 all0))
  obtain ⟨Lw9, Nw9, Xw9⟩ := own_pack (k' := 2) (n' := 19) X9 l9 y9 z9 N9
  clear X9
  refine own_tr st9 ?_
  show own_Ends _ _ _ _ (T9.setTop (mkF mM 30 #[.val (.long va), .second, .val (.long vb), .second, .val (.long vc), .second, .val (.long vd), .second, .val (.ref b1), .val (.int (1 : Int32))] []))
  refine own_go (fun _ k => XS.iload Xw9.here hx rfl (hb hby at_30) rfl k) ?_
  show own_Ends _ _ _ _ (T9.setTop (mkF mM 32 #[.val (.long va), .second, .val (.long vb), .second, .val (.long vc), .second, .val (.long vd), .second, .val (.ref b1), .val (.int (1 : Int32))] [(.int (1 : Int32))]))
  refine own_go (fun _ k => XS.ifNo Xw9.here hx rfl (hb hby at_32) rfl ((if0 _ _).trans (feq (by decide : ¬ ((1 : Int32) = (0 : Int32)))).1) k) ?_
  show own_Ends _ _ _ _ (T9.setTop (mkF mM 35 #[.val (.long va), .second, .val (.long vb), .second, .val (.long vc), .second, .val (.long vd), .second, .val (.ref b1), .val (.int (1 : Int32))] []))
  refine own_go (fun _ k => XS.aload Xw9.here hx rfl (hb hby at_35) rfl rfl k) ?_
  show own_Ends _ _ _ _ (T9.setTop (mkF mM 37 #[.val (.long va), .second, .val (.long vb), .second, .val (.long vc), .second, .val (.long vd), .second, .val (.ref b1), .val (.int (1 : Int32))] [(.ref b1)]))
  obtain ⟨cq10, kq10, q10a, q10b, q10c⟩ := isOf hZ rfl E_9
  obtain ⟨_, _, ⟨T10, Lz10, kz10, nz10⟩, -, X10, ⟨Lc10, hQ10, l10, y10, z10⟩, st10⟩ := Xw9.virtualBack hx (y := (⟨"com/example/reckon/reckon/io/LineList", "size", "()I"⟩ : MethodName)) (z := (⟨"com/example/reckon/reckon/io/LineList", "size", "()I"⟩ : MethodName)) hown (mvT hZ (hw _ (List.mem_of_getElem? (i := 25) rfl))) (mvT hZ (hw _ (List.mem_of_getElem? (i := 26) rfl))) (notFace_of_selects (args := #[]) (mvT hZ (hw _ (List.mem_of_getElem? (i := 28) rfl)))) (mvT hZ (hw _ (List.mem_of_getElem? (i := 28) rfl))) (mvT hZ (hw _ (List.mem_of_getElem? (i := 27) rfl))) (by decide) (backOf (W := 0) (own_size l Z a0 hw [] b1 (1 : Int32) T9.heap n0 O9 F1_9) hZ (hw _ (List.mem_of_getElem? (i := 29) rfl)) (hw _ (List.mem_of_getElem? (i := 2) rfl)) (by decide) (by decide)) q10a q10c (g := (mkF mM 37 #[.val (.long va), .second, .val (.long vb), .second, .val (.long vc), .second, .val (.long vd), .second, .val (.ref b1), .val (.int (1 : Int32))] [(.ref b1)])) rfl (by rw [hml]; rfl) (Steps.refl _) (argsL := []) (rest := []) (lenOf own_pd6 rfl) rfl (by show 2 * 0 + _ ≤ _; exact Nat.le_of_eq rfl) (hb hby at_37) (fun _ _ => ⟨rfl, rfl, (by decide : 2 + 0 ≤ _), (by decide : 19 + 0 ≤ _)⟩)
  dsimp only [Pt.U, Pt.locs, Pt.cells, Pt.slots] at X10 l10 y10 z10 st10 hQ10
  obtain ⟨rfl, Nq10, e10⟩ := hQ10
  have N10 := Fr.app Nw9 Nq10
  obtain ⟨Lw10, Nw10, Xw10⟩ := own_pack (k' := 2) (n' := 19) X10 l10 y10 z10 N10
  clear X10
  refine own_tr st10 ?_
  show own_Ends _ _ _ _ (T10.setTop (mkF mM 40 #[.val (.long va), .second, .val (.long vb), .second, .val (.long vc), .second, .val (.long vd), .second, .val (.ref b1), .val (.int (1 : Int32))] [(.int (1 : Int32))]))
  refine own_go (fun _ k => XS.iconst Xw10.here hx rfl (hb hby at_40) k) ?_
  show own_Ends _ _ _ _ (T10.setTop (mkF mM 41 #[.val (.long va), .second, .val (.long vb), .second, .val (.long vc), .second, .val (.long vd), .second, .val (.ref b1), .val (.int (1 : Int32))] [(.int (1 : Int32)), (.int (1 : Int32))]))
  refine own_go (fun _ k => XS.icmpNo Xw10.here hx rfl (hb hby at_41) rfl (teq (by decide : (1 : Int32) = (1 : Int32))).2 k) ?_
  show own_Ends _ _ _ _ (T10.setTop (mkF mM 44 #[.val (.long va), .second, .val (.long vb), .second, .val (.long vc), .second, .val (.long vd), .second, .val (.ref b1), .val (.int (1 : Int32))] []))
  refine own_go (fun _ k => XS.aload Xw10.here hx rfl (hb hby at_44) rfl rfl k) ?_
  show own_Ends _ _ _ _ (T10.setTop (mkF mM 46 #[.val (.long va), .second, .val (.long vb), .second, .val (.long vc), .second, .val (.long vd), .second, .val (.ref b1), .val (.int (1 : Int32))] [(.ref b1)]))
  refine own_go (fun _ k => XS.iconst Xw10.here hx rfl (hb hby at_46) k) ?_
  show own_Ends _ _ _ _ (T10.setTop (mkF mM 47 #[.val (.long va), .second, .val (.long vb), .second, .val (.long vc), .second, .val (.long vd), .second, .val (.ref b1), .val (.int (1 : Int32))] [(.int (0 : Int32)), (.ref b1)]))
  have R11 := E_9
  have R12 := F1_9
  have R13 := F2_9
  have R14 := F3_9
  have R15 := VA_9
  obtain ⟨cq16, kq16, q16a, q16b, q16c⟩ := isOf hZ e10 R11
  obtain ⟨_, _, ⟨T16, Lz16, kz16, nz16⟩, -, X16, ⟨Lc16, hQ16, l16, y16, z16⟩, st16⟩ := Xw10.virtualBack hx (y := (⟨"com/example/reckon/reckon/io/LineList", "get", "(I)Ljava/lang/Long;"⟩ : MethodName)) (z := (⟨"com/example/reckon/reckon/io/LineList", "get", "(I)Ljava/lang/Long;"⟩ : MethodName)) hown (mvT hZ (hw _ (List.mem_of_getElem? (i := 39) rfl))) (mvT hZ (hw _ (List.mem_of_getElem? (i := 40) rfl))) (notFace_of_selects (args := #[]) (mvT hZ (hw _ (List.mem_of_getElem? (i := 42) rfl)))) (mvT hZ (hw _ (List.mem_of_getElem? (i := 42) rfl))) (mvT hZ (hw _ (List.mem_of_getElem? (i := 41) rfl))) (by decide) (backOf (W := 0) (own_get l Z a0 hw [] b1 (0 : Int32) (1 : Int32) r2 rk2 (16 : Int32) [(.long va), (.long (0 : Int64)), (.long (0 : Int64)), (.long (0 : Int64)), (.long (0 : Int64)), (.long (0 : Int64)), (.long (0 : Int64)), (.long (0 : Int64)), (.long (0 : Int64)), (.long (0 : Int64)), (.long (0 : Int64)), (.long (0 : Int64)), (.long (0 : Int64)), (.long (0 : Int64)), (.long (0 : Int64)), (.long (0 : Int64))] va cc cl T9.heap n0 O9 R12 R14 R15 (by decide) (by decide) (by decide) rfl S_cache hcc) hZ (hw _ (List.mem_of_getElem? (i := 43) rfl)) (hw _ (List.mem_of_getElem? (i := 2) rfl)) (by decide) (by decide)) q16a q16c (g := (mkF mM 47 #[.val (.long va), .second, .val (.long vb), .second, .val (.long vc), .second, .val (.long vd), .second, .val (.ref b1), .val (.int (1 : Int32))] [(.int (0 : Int32)), (.ref b1)])) rfl (by rw [hml]; rfl) (Steps.refl _) (argsL := [(.int (0 : Int32))]) (rest := []) (lenOf own_pd7 rfl) rfl (by show 2 * 0 + _ ≤ _; exact Nat.le_of_eq rfl) (hb hby at_47) (fun _ _ => ⟨rfl, e10, (by decide : 2 + 1 ≤ _), (by decide : 19 + 1 ≤ _)⟩)
  dsimp only [Pt.U, Pt.locs, Pt.cells, Pt.slots] at X16 l16 y16 z16 st16 hQ16
  obtain ⟨c16, rfl, Nq16, K16, E_c16, F_c16⟩ := hQ16
  have N16 := Fr.app Nw10 Nq16
  have O16 := O9.keep K16 all0
  obtain ⟨Lw16, Nw16, Xw16⟩ := own_pack (k' := 3) (n' := 20) X16 l16 y16 z16 N16
  clear X16
  refine own_tr st16 ?_
  show own_Ends _ _ _ _ (T16.setTop (mkF mM 50 #[.val (.long va), .second, .val (.long vb), .second, .val (.long vc), .second, .val (.long vd), .second, .val (.ref b1), .val (.int (1 : Int32))] [(.ref c16)]))
  obtain ⟨cq17, kq17, q17a, q17b, q17c⟩ := isOf hZ rfl E_c16
  obtain ⟨_, _, ⟨T17, Lz17, kz17, nz17⟩, -, X17, ⟨Lc17, hQ17, l17, y17, z17⟩, st17⟩ := Xw16.virtualBack hx (y := (⟨"java/lang/Long", "longValue", "()J"⟩ : MethodName)) (z := (⟨"java/lang/Long", "longValue", "()J"⟩ : MethodName)) hown (mvT hZ (hw _ (List.mem_of_getElem? (i := 60) rfl))) (mvT hZ (hw _ (List.mem_of_getElem? (i := 61) rfl))) (notFace_of_selects (args := #[]) (mvT hZ (hw _ (List.mem_of_getElem? (i := 63) rfl)))) (mvT hZ (hw _ (List.mem_of_getElem? (i := 63) rfl))) (mvT hZ (hw _ (List.mem_of_getElem? (i := 62) rfl))) (by decide) (backOf (W := 0) (own_longValue l Z a0 hw [] c16 va T16.heap n0 O16 F_c16) hZ (hw _ (List.mem_of_getElem? (i := 64) rfl)) (hw _ (List.mem_of_getElem? (i := 54) rfl)) (by decide) (by decide)) q17a q17c (g := (mkF mM 50 #[.val (.long va), .second, .val (.long vb), .second, .val (.long vc), .second, .val (.long vd), .second, .val (.ref b1), .val (.int (1 : Int32))] [(.ref c16)])) rfl (by rw [hml]; rfl) (Steps.refl _) (argsL := []) (rest := []) (lenOf own_pd8 rfl) rfl (by show 2 * 0 + _ ≤ _; exact Nat.le_of_eq rfl) (hb hby at_50) (fun _ _ => ⟨rfl, rfl, (by decide : 3 + 0 ≤ _), (by decide : 20 + 0 ≤ _)⟩)
  dsimp only [Pt.U, Pt.locs, Pt.cells, Pt.slots] at X17 l17 y17 z17 st17 hQ17
  obtain ⟨rfl, Nq17, e17⟩ := hQ17
  have N17 := Fr.app Nw16 Nq17
  obtain ⟨Lw17, Nw17, Xw17⟩ := own_pack (k' := 3) (n' := 20) X17 l17 y17 z17 N17
  clear X17
  refine own_tr st17 ?_
  show own_Ends _ _ _ _ (T17.setTop (mkF mM 53 #[.val (.long va), .second, .val (.long vb), .second, .val (.long vc), .second, .val (.long vd), .second, .val (.ref b1), .val (.int (1 : Int32))] [(.long va)]))
  refine own_go (fun _ k => XS.lloadN Xw17.here hx rfl (hb hby at_53) rfl k) ?_
  show own_Ends _ _ _ _ (T17.setTop (mkF mM 54 #[.val (.long va), .second, .val (.long vb), .second, .val (.long vc), .second, .val (.long vd), .second, .val (.ref b1), .val (.int (1 : Int32))] [(.long va), (.long va)]))
  refine own_go (fun _ k => XS.lcmp Xw17.here hx rfl (hb hby at_54) rfl k) ?_
  show own_Ends _ _ _ _ (T17.setTop (mkF mM 55 #[.val (.long va), .second, .val (.long vb), .second, .val (.long vc), .second, .val (.long vd), .second, .val (.ref b1), .val (.int (1 : Int32))] [(.int (lcmpW va va))]))
  refine own_go (fun _ k => XS.ifNo Xw17.here hx rfl (hb hby at_55) rfl ((if0 _ _).trans (teq ((lw_eq va va).mpr rfl)).2) k) ?_
  show own_Ends _ _ _ _ (T17.setTop (mkF mM 58 #[.val (.long va), .second, .val (.long vb), .second, .val (.long vc), .second, .val (.long vd), .second, .val (.ref b1), .val (.int (1 : Int32))] []))
  refine own_go (fun _ k => XS.iconst Xw17.here hx rfl (hb hby at_58) k) ?_
  show own_Ends _ _ _ _ (T17.setTop (mkF mM 59 #[.val (.long va), .second, .val (.long vb), .second, .val (.long vc), .second, .val (.long vd), .second, .val (.ref b1), .val (.int (1 : Int32))] [(.int (1 : Int32))]))
  refine own_go (fun _ k => XS.goto Xw17.here hx rfl (pc0 := 59) (pc' := 63) rfl (hb hby at_59) (by decide) (by decide) k) ?_
  show own_Ends _ _ _ _ (T17.setTop (mkF mM 63 #[.val (.long va), .second, .val (.long vb), .second, .val (.long vc), .second, .val (.long vd), .second, .val (.ref b1), .val (.int (1 : Int32))] [(.int (1 : Int32))]))
  refine own_go (fun _ k => XS.istore Xw17.here hx rfl (hb hby at_63) rfl (l' := #[.val (.long va), .second, .val (.long vb), .second, .val (.long vc), .second, .val (.long vd), .second, .val (.ref b1), .val (.int (1 : Int32))]) rfl k) ?_
  show own_Ends _ _ _ _ (T17.setTop (mkF mM 65 #[.val (.long va), .second, .val (.long vb), .second, .val (.long vc), .second, .val (.long vd), .second, .val (.ref b1), .val (.int (1 : Int32))] []))
  refine own_go (fun _ k => XS.aload Xw17.here hx rfl (hb hby at_65) rfl rfl k) ?_
  show own_Ends _ _ _ _ (T17.setTop (mkF mM 67 #[.val (.long va), .second, .val (.long vb), .second, .val (.long vc), .second, .val (.long vd), .second, .val (.ref b1), .val (.int (1 : Int32))] [(.ref b1)]))
  refine own_go (fun _ k => XS.lloadN Xw17.here hx rfl (hb hby at_67) rfl k) ?_
  show own_Ends _ _ _ _ (T17.setTop (mkF mM 68 #[.val (.long va), .second, .val (.long vb), .second, .val (.long vc), .second, .val (.long vd), .second, .val (.ref b1), .val (.int (1 : Int32))] [(.long vb), (.ref b1)]))
  have R18 := (R11.keep K16)
  have R19 := (R12.keep K16 nin0)
  have R20 := (R13.keep K16 nin0)
  have R21 := (R14.keep K16 nin0)
  have R22 := (R15.keep K16 nin0)
  obtain ⟨cq23, kq23, q23a, q23b, q23c⟩ := isOf hZ e17 R18
  obtain ⟨_, _, ⟨T23, Lz23, kz23, nz23⟩, -, X23, ⟨Lc23, hQ23, l23, y23, z23⟩, st23⟩ := Xw17.virtualBack hx (y := (⟨"com/example/reckon/reckon/io/LineList", "add", "(J)V"⟩ : MethodName)) (z := (⟨"com/example/reckon/reckon/io/LineList", "add", "(J)V"⟩ : MethodName)) hown (mvT hZ (hw _ (List.mem_of_getElem? (i := 32) rfl))) (mvT hZ (hw _ (List.mem_of_getElem? (i := 33) rfl))) (notFace_of_selects (args := #[]) (mvT hZ (hw _ (List.mem_of_getElem? (i := 35) rfl)))) (mvT hZ (hw _ (List.mem_of_getElem? (i := 35) rfl))) (mvT hZ (hw _ (List.mem_of_getElem? (i := 34) rfl))) (by decide) (backOf (W := 0) (own_add l Z a0 hw [] b1 vb (1 : Int32) (2 : Int32) (1 : Int32) (2 : Int32) r2 rk2 (16 : Int32) [(.long va), (.long (0 : Int64)), (.long (0 : Int64)), (.long (0 : Int64)), (.long (0 : Int64)), (.long (0 : Int64)), (.long (0 : Int64)), (.long (0 : Int64)), (.long (0 : Int64)), (.long (0 : Int64)), (.long (0 : Int64)), (.long (0 : Int64)), (.long (0 : Int64)), (.long (0 : Int64)), (.long (0 : Int64)), (.long (0 : Int64))] [(.long va), (.long vb), (.long (0 : Int64)), (.long (0 : Int64)), (.long (0 : Int64)), (.long (0 : Int64)), (.long (0 : Int64)), (.long (0 : Int64)), (.long (0 : Int64)), (.long (0 : Int64)), (.long (0 : Int64)), (.long (0 : Int64)), (.long (0 : Int64)), (.long (0 : Int64)), (.long (0 : Int64)), (.long (0 : Int64))] 1 T16.heap n0 O16 g_b1 g_r2 hne2 R18 R19 R20 R21 R22 (by decide) (by decide) (by decide +kernel) (by decide +kernel) rfl (Nat.le_of_ble_eq_true rfl) rfl) hZ (hw _ (List.mem_of_getElem? (i := 36) rfl)) (hw _ (List.mem_of_getElem? (i := 2) rfl)) (by decide) (by decide)) q23a q23c (g := (mkF mM 68 #[.val (.long va), .second, .val (.long vb), .second, .val (.long vc), .second, .val (.long vd), .second, .val (.ref b1), .val (.int (1 : Int32))] [(.long vb), (.ref b1)])) rfl (by rw [hml]; rfl) (Steps.refl _) (argsL := [(.long vb)]) (rest := []) (lenOf own_pd1 rfl) rfl (by show 2 * 0 + _ ≤ _; exact Nat.le_of_eq rfl) (hb hby at_68) (fun _ _ => ⟨rfl, e17, (by decide : 3 + 0 ≤ _), (by decide : 20 + 0 ≤ _)⟩)
  dsimp only [Pt.U, Pt.locs, Pt.cells, Pt.slots] at X23 l23 y23 z23 st23 hQ23
  obtain ⟨rfl, Nq23, K23, E_23, F1_23, F2_23, F3_23, VA_23⟩ := hQ23
  have N23 := Fr.app Nw17 Nq23
  have O23 := O16.keep K23 (allS g_b1 (allS g_r2 all0))
  obtain ⟨Lw23, Nw23, Xw23⟩ := own_pack (k' := 3) (n' := 20) X23 l23 y23 z23 N23
  clear X23
  refine own_tr st23 ?_
  show own_Ends _ _ _ _ (T23.setTop (mkF mM 71 #[.val (.long va), .second, .val (.long vb), .second, .val (.long vc), .second, .val (.long vd), .second, .val (.ref b1), .val (.int (1 : Int32))] []))
  refine own_go (fun _ k => XS.iload Xw23.here hx rfl (hb hby at_71) rfl k) ?_
  show own_Ends _ _ _ _ (T23.setTop (mkF mM 73 #[.val (.long va), .second, .val (.long vb), .second, .val (.long vc), .second, .val (.long vd), .second, .val (.ref b1), .val (.int (1 : Int32))] [(.int (1 : Int32))]))
  refine own_go (fun _ k => XS.ifNo Xw23.here hx rfl (hb hby at_73) rfl ((if0 _ _).trans (feq (by decide : ¬ ((1 : Int32) = (0 : Int32)))).1) k) ?_
  show own_Ends _ _ _ _ (T23.setTop (mkF mM 76 #[.val (.long va), .second, .val (.long vb), .second, .val (.long vc), .second, .val (.long vd), .second, .val (.ref b1), .val (.int (1 : Int32))] []))
  refine own_go (fun _ k => XS.aload Xw23.here hx rfl (hb hby at_76) rfl rfl k) ?_
  show own_Ends _ _ _ _ (T23.setTop (mkF mM 78 #[.val (.long va), .second, .val (.long vb), .second, .val (.long vc), .second, .val (.long vd), .second, .val (.ref b1), .val (.int (1 : Int32))] [(.ref b1)]))
  obtain ⟨cq24, kq24, q24a, q24b, q24c⟩ := isOf hZ rfl E_23
  obtain ⟨_, _, ⟨T24, Lz24, kz24, nz24⟩, -, X24, ⟨Lc24, hQ24, l24, y24, z24⟩, st24⟩ := Xw23.virtualBack hx (y := (⟨"com/example/reckon/reckon/io/LineList", "size", "()I"⟩ : MethodName)) (z := (⟨"com/example/reckon/reckon/io/LineList", "size", "()I"⟩ : MethodName)) hown (mvT hZ (hw _ (List.mem_of_getElem? (i := 25) rfl))) (mvT hZ (hw _ (List.mem_of_getElem? (i := 26) rfl))) (notFace_of_selects (args := #[]) (mvT hZ (hw _ (List.mem_of_getElem? (i := 28) rfl)))) (mvT hZ (hw _ (List.mem_of_getElem? (i := 28) rfl))) (mvT hZ (hw _ (List.mem_of_getElem? (i := 27) rfl))) (by decide) (backOf (W := 0) (own_size l Z a0 hw [] b1 (2 : Int32) T23.heap n0 O23 F1_23) hZ (hw _ (List.mem_of_getElem? (i := 29) rfl)) (hw _ (List.mem_of_getElem? (i := 2) rfl)) (by decide) (by decide)) q24a q24c (g := (mkF mM 78 #[.val (.long va), .second, .val (.long vb), .second, .val (.long vc), .second, .val (.long vd), .second, .val (.ref b1), .val (.int (1 : Int32))] [(.ref b1)])) rfl (by rw [hml]; rfl) (Steps.refl _) (argsL := []) (rest := []) (lenOf own_pd6 rfl) rfl (by show 2 * 0 + _ ≤ _; exact Nat.le_of_eq rfl) (hb hby at_78) (fun _ _ => ⟨rfl, rfl, (by decide : 3 + 0 ≤ _), (by decide : 20 + 0 ≤ _)⟩)
  dsimp only [Pt.U, Pt.locs, Pt.cells, Pt.slots] at X24 l24 y24 z24 st24 hQ24
  obtain ⟨rfl, Nq24, e24⟩ := hQ24
  have N24 := Fr.app Nw23 Nq24
  obtain ⟨Lw24, Nw24, Xw24⟩ := own_pack (k' := 3) (n' := 20) X24 l24 y24 z24 N24
  clear X24
  refine own_tr st24 ?_
  show own_Ends _ _ _ _ (T24.setTop (mkF mM 81 #[.val (.long va), .second, .val (.long vb), .second, .val (.long vc), .second, .val (.long vd), .second, .val (.ref b1), .val (.int (1 : Int32))] [(.int (2 : Int32))]))
  refine own_go (fun _ k => XS.iconst Xw24.here hx rfl (hb hby at_81) k) ?_
  show own_Ends _ _ _ _ (T24.setTop (mkF mM 82 #[.val (.long va), .second, .val (.long vb), .second, .val (.long vc), .second, .val (.long vd), .second, .val (.ref b1), .val (.int (1 : Int32))] [(.int (2 : Int32)), (.int (2 : Int32))]))
  refine own_go (fun _ k => XS.icmpNo Xw24.here hx rfl (hb hby at_82) rfl (teq (by decide : (2 : Int32) = (2 : Int32))).2 k) ?_
  show own_Ends _ _ _ _ (T24.setTop (mkF mM 85 #[.val (.long va), .second, .val (.long vb), .second, .val (.long vc), .second, .val (.long vd), .second, .val (.ref b1), .val (.int (1 : Int32))] []))
  refine own_go (fun _ k => XS.aload Xw24.here hx rfl (hb hby at_85) rfl rfl k) ?_
  show own_Ends _ _ _ _ (T24.setTop (mkF mM 87 #[.val (.long va), .second, .val (.long vb), .second, .val (.long vc), .second, .val (.long vd), .second, .val (.ref b1), .val (.int (1 : Int32))] [(.ref b1)]))
  refine own_go (fun _ k => XS.iconst Xw24.here hx rfl (hb hby at_87) k) ?_
  show own_Ends _ _ _ _ (T24.setTop (mkF mM 88 #[.val (.long va), .second, .val (.long vb), .second, .val (.long vc), .second, .val (.long vd), .second, .val (.ref b1), .val (.int (1 : Int32))] [(.int (0 : Int32)), (.ref b1)]))
  have R25 := E_23
  have R26 := F1_23
  have R27 := F2_23
  have R28 := F3_23
  have R29 := VA_23
  obtain ⟨cq30, kq30, q30a, q30b, q30c⟩ := isOf hZ e24 R25
  obtain ⟨_, _, ⟨T30, Lz30, kz30, nz30⟩, -, X30, ⟨Lc30, hQ30, l30, y30, z30⟩, st30⟩ := Xw24.virtualBack hx (y := (⟨"com/example/reckon/reckon/io/LineList", "get", "(I)Ljava/lang/Long;"⟩ : MethodName)) (z := (⟨"com/example/reckon/reckon/io/LineList", "get", "(I)Ljava/lang/Long;"⟩ : MethodName)) hown (mvT hZ (hw _ (List.mem_of_getElem? (i := 39) rfl))) (mvT hZ (hw _ (List.mem_of_getElem? (i := 40) rfl))) (notFace_of_selects (args := #[]) (mvT hZ (hw _ (List.mem_of_getElem? (i := 42) rfl)))) (mvT hZ (hw _ (List.mem_of_getElem? (i := 42) rfl))) (mvT hZ (hw _ (List.mem_of_getElem? (i := 41) rfl))) (by decide) (backOf (W := 0) (own_get l Z a0 hw [] b1 (0 : Int32) (2 : Int32) r2 rk2 (16 : Int32) [(.long va), (.long vb), (.long (0 : Int64)), (.long (0 : Int64)), (.long (0 : Int64)), (.long (0 : Int64)), (.long (0 : Int64)), (.long (0 : Int64)), (.long (0 : Int64)), (.long (0 : Int64)), (.long (0 : Int64)), (.long (0 : Int64)), (.long (0 : Int64)), (.long (0 : Int64)), (.long (0 : Int64)), (.long (0 : Int64))] va cc cl T23.heap n0 O23 R26 R28 R29 (by decide) (by decide) (by decide) rfl S_cache hcc) hZ (hw _ (List.mem_of_getElem? (i := 43) rfl)) (hw _ (List.mem_of_getElem? (i := 2) rfl)) (by decide) (by decide)) q30a q30c (g := (mkF mM 88 #[.val (.long va), .second, .val (.long vb), .second, .val (.long vc), .second, .val (.long vd), .second, .val (.ref b1), .val (.int (1 : Int32))] [(.int (0 : Int32)), (.ref b1)])) rfl (by rw [hml]; rfl) (Steps.refl _) (argsL := [(.int (0 : Int32))]) (rest := []) (lenOf own_pd7 rfl) rfl (by show 2 * 0 + _ ≤ _; exact Nat.le_of_eq rfl) (hb hby at_88) (fun _ _ => ⟨rfl, e24, (by decide : 3 + 1 ≤ _), (by decide : 20 + 1 ≤ _)⟩)
  dsimp only [Pt.U, Pt.locs, Pt.cells, Pt.slots] at X30 l30 y30 z30 st30 hQ30
  obtain ⟨c30, rfl, Nq30, K30, E_c30, F_c30⟩ := hQ30
  have N30 := Fr.app Nw24 Nq30
  have O30 := O23.keep K30 all0
  obtain ⟨Lw30, Nw30, Xw30⟩ := own_pack (k' := 4) (n' := 21) X30 l30 y30 z30 N30
  clear X30
  refine own_tr st30 ?_
  show own_Ends _ _ _ _ (T30.setTop (mkF mM 91 #[.val (.long va), .second, .val (.long vb), .second, .val (.long vc), .second, .val (.long vd), .second, .val (.ref b1), .val (.int (1 : Int32))] [(.ref c30)]))
  obtain ⟨cq31, kq31, q31a, q31b, q31c⟩ := isOf hZ rfl E_c30
  obtain ⟨_, _, ⟨T31, Lz31, kz31, nz31⟩, -, X31, ⟨Lc31, hQ31, l31, y31, z31⟩, st31⟩ := Xw30.virtualBack hx (y := (⟨"java/lang/Long", "longValue", "()J"⟩ : MethodName)) (z := (⟨"java/lang/Long", "longValue", "()J"⟩ : MethodName)) hown (mvT hZ (hw _ (List.mem_of_getElem? (i := 60) rfl))) (mvT hZ (hw _ (List.mem_of_getElem? (i := 61) rfl))) (notFace_of_selects (args := #[]) (mvT hZ (hw _ (List.mem_of_getElem? (i := 63) rfl)))) (mvT hZ (hw _ (List.mem_of_getElem? (i := 63) rfl))) (mvT hZ (hw _ (List.mem_of_getElem? (i := 62) rfl))) (by decide) (backOf (W := 0) (own_longValue l Z a0 hw [] c30 va T30.heap n0 O30 F_c30) hZ (hw _ (List.mem_of_getElem? (i := 64) rfl)) (hw _ (List.mem_of_getElem? (i := 54) rfl)) (by decide) (by decide)) q31a q31c (g := (mkF mM 91 #[.val (.long va), .second, .val (.long vb), .second, .val (.long vc), .second, .val (.long vd), .second, .val (.ref b1), .val (.int (1 : Int32))] [(.ref c30)])) rfl (by rw [hml]; rfl) (Steps.refl _) (argsL := []) (rest := []) (lenOf own_pd8 rfl) rfl (by show 2 * 0 + _ ≤ _; exact Nat.le_of_eq rfl) (hb hby at_91) (fun _ _ => ⟨rfl, rfl, (by decide : 4 + 0 ≤ _), (by decide : 21 + 0 ≤ _)⟩)
  dsimp only [Pt.U, Pt.locs, Pt.cells, Pt.slots] at X31 l31 y31 z31 st31 hQ31
  obtain ⟨rfl, Nq31, e31⟩ := hQ31
  have N31 := Fr.app Nw30 Nq31
  obtain ⟨Lw31, Nw31, Xw31⟩ := own_pack (k' := 4) (n' := 21) X31 l31 y31 z31 N31
  clear X31
  refine own_tr st31 ?_
  show own_Ends _ _ _ _ (T31.setTop (mkF mM 94 #[.val (.long va), .second, .val (.long vb), .second, .val (.long vc), .second, .val (.long vd), .second, .val (.ref b1), .val (.int (1 : Int32))] [(.long va)]))
  refine own_go (fun _ k => XS.lloadN Xw31.here hx rfl (hb hby at_94) rfl k) ?_
  show own_Ends _ _ _ _ (T31.setTop (mkF mM 95 #[.val (.long va), .second, .val (.long vb), .second, .val (.long vc), .second, .val (.long vd), .second, .val (.ref b1), .val (.int (1 : Int32))] [(.long va), (.long va)]))
  refine own_go (fun _ k => XS.lcmp Xw31.here hx rfl (hb hby at_95) rfl k) ?_
  show own_Ends _ _ _ _ (T31.setTop (mkF mM 96 #[.val (.long va), .second, .val (.long vb), .second, .val (.long vc), .second, .val (.long vd), .second, .val (.ref b1), .val (.int (1 : Int32))] [(.int (lcmpW va va))]))
  refine own_go (fun _ k => XS.ifNo Xw31.here hx rfl (hb hby at_96) rfl ((if0 _ _).trans (teq ((lw_eq va va).mpr rfl)).2) k) ?_
  show own_Ends _ _ _ _ (T31.setTop (mkF mM 99 #[.val (.long va), .second, .val (.long vb), .second, .val (.long vc), .second, .val (.long vd), .second, .val (.ref b1), .val (.int (1 : Int32))] []))
  refine own_go (fun _ k => XS.aload Xw31.here hx rfl (hb hby at_99) rfl rfl k) ?_
  show own_Ends _ _ _ _ (T31.setTop (mkF mM 101 #[.val (.long va), .second, .val (.long vb), .second, .val (.long vc), .second, .val (.long vd), .second, .val (.ref b1), .val (.int (1 : Int32))] [(.ref b1)]))
  refine own_go (fun _ k => XS.iconst Xw31.here hx rfl (hb hby at_101) k) ?_
  show own_Ends _ _ _ _ (T31.setTop (mkF mM 102 #[.val (.long va), .second, .val (.long vb), .second, .val (.long vc), .second, .val (.long vd), .second, .val (.ref b1), .val (.int (1 : Int32))] [(.int (1 : Int32)), (.ref b1)]))
  have R32 := (R25.keep K30)
  have R33 := (R26.keep K30 nin0)
  have R34 := (R27.keep K30 nin0)
  have R35 := (R28.keep K30 nin0)
  have R36 := (R29.keep K30 nin0)
  obtain ⟨cq37, kq37, q37a, q37b, q37c⟩ := isOf hZ e31 R32
  obtain ⟨_, _, ⟨T37, Lz37, kz37, nz37⟩, -, X37, ⟨Lc37, hQ37, l37, y37, z37⟩, st37⟩ := Xw31.virtualBack hx (y := (⟨"com/example/reckon/reckon/io/LineList", "get", "(I)Ljava/lang/Long;"⟩ : MethodName)) (z := (⟨"com/example/reckon/reckon/io/LineList", "get", "(I)Ljava/lang/Long;"⟩ : MethodName)) hown (mvT hZ (hw _ (List.mem_of_getElem? (i := 39) rfl))) (mvT hZ (hw _ (List.mem_of_getElem? (i := 40) rfl))) (notFace_of_selects (args := #[]) (mvT hZ (hw _ (List.mem_of_getElem? (i := 42) rfl)))) (mvT hZ (hw _ (List.mem_of_getElem? (i := 42) rfl))) (mvT hZ (hw _ (List.mem_of_getElem? (i := 41) rfl))) (by decide) (backOf (W := 0) (own_get l Z a0 hw [] b1 (1 : Int32) (2 : Int32) r2 rk2 (16 : Int32) [(.long va), (.long vb), (.long (0 : Int64)), (.long (0 : Int64)), (.long (0 : Int64)), (.long (0 : Int64)), (.long (0 : Int64)), (.long (0 : Int64)), (.long (0 : Int64)), (.long (0 : Int64)), (.long (0 : Int64)), (.long (0 : Int64)), (.long (0 : Int64)), (.long (0 : Int64)), (.long (0 : Int64)), (.long (0 : Int64))] vb cc cl T30.heap n0 O30 R33 R35 R36 (by decide) (by decide) (by decide) rfl S_cache hcc) hZ (hw _ (List.mem_of_getElem? (i := 43) rfl)) (hw _ (List.mem_of_getElem? (i := 2) rfl)) (by decide) (by decide)) q37a q37c (g := (mkF mM 102 #[.val (.long va), .second, .val (.long vb), .second, .val (.long vc), .second, .val (.long vd), .second, .val (.ref b1), .val (.int (1 : Int32))] [(.int (1 : Int32)), (.ref b1)])) rfl (by rw [hml]; rfl) (Steps.refl _) (argsL := [(.int (1 : Int32))]) (rest := []) (lenOf own_pd7 rfl) rfl (by show 2 * 0 + _ ≤ _; exact Nat.le_of_eq rfl) (hb hby at_102) (fun _ _ => ⟨rfl, e31, (by decide : 4 + 1 ≤ _), (by decide : 21 + 1 ≤ _)⟩)
  dsimp only [Pt.U, Pt.locs, Pt.cells, Pt.slots] at X37 l37 y37 z37 st37 hQ37
  obtain ⟨c37, rfl, Nq37, K37, E_c37, F_c37⟩ := hQ37
  have N37 := Fr.app Nw31 Nq37
  have O37 := O30.keep K37 all0
  obtain ⟨Lw37, Nw37, Xw37⟩ := own_pack (k' := 5) (n' := 22) X37 l37 y37 z37 N37
  clear X37
  refine own_tr st37 ?_
  show own_Ends _ _ _ _ (T37.setTop (mkF mM 105 #[.val (.long va), .second, .val (.long vb), .second, .val (.long vc), .second, .val (.long vd), .second, .val (.ref b1), .val (.int (1 : Int32))] [(.ref c37)]))
  obtain ⟨cq38, kq38, q38a, q38b, q38c⟩ := isOf hZ rfl E_c37
  obtain ⟨_, _, ⟨T38, Lz38, kz38, nz38⟩, -, X38, ⟨Lc38, hQ38, l38, y38, z38⟩, st38⟩ := Xw37.virtualBack hx (y := (⟨"java/lang/Long", "longValue", "()J"⟩ : MethodName)) (z := (⟨"java/lang/Long", "longValue", "()J"⟩ : MethodName)) hown (mvT hZ (hw _ (List.mem_of_getElem? (i := 60) rfl))) (mvT hZ (hw _ (List.mem_of_getElem? (i := 61) rfl))) (notFace_of_selects (args := #[]) (mvT hZ (hw _ (List.mem_of_getElem? (i := 63) rfl)))) (mvT hZ (hw _ (List.mem_of_getElem? (i := 63) rfl))) (mvT hZ (hw _ (List.mem_of_getElem? (i := 62) rfl))) (by decide) (backOf (W := 0) (own_longValue l Z a0 hw [] c37 vb T37.heap n0 O37 F_c37) hZ (hw _ (List.mem_of_getElem? (i := 64) rfl)) (hw _ (List.mem_of_getElem? (i := 54) rfl)) (by decide) (by decide)) q38a q38c (g := (mkF mM 105 #[.val (.long va), .second, .val (.long vb), .second, .val (.long vc), .second, .val (.long vd), .second, .val (.ref b1), .val (.int (1 : Int32))] [(.ref c37)])) rfl (by rw [hml]; rfl) (Steps.refl _) (argsL := []) (rest := []) (lenOf own_pd8 rfl) rfl (by show 2 * 0 + _ ≤ _; exact Nat.le_of_eq rfl) (hb hby at_105) (fun _ _ => ⟨rfl, rfl, (by decide : 5 + 0 ≤ _), (by decide : 22 + 0 ≤ _)⟩)
  dsimp only [Pt.U, Pt.locs, Pt.cells, Pt.slots] at X38 l38 y38 z38 st38 hQ38
  obtain ⟨rfl, Nq38, e38⟩ := hQ38
  have N38 := Fr.app Nw37 Nq38
  obtain ⟨Lw38, Nw38, Xw38⟩ := own_pack (k' := 5) (n' := 22) X38 l38 y38 z38 N38
  clear X38
  refine own_tr st38 ?_
  show own_Ends _ _ _ _ (T38.setTop (mkF mM 108 #[.val (.long va), .second, .val (.long vb), .second, .val (.long vc), .second, .val (.long vd), .second, .val (.ref b1), .val (.int (1 : Int32))] [(.long vb)]))
  refine own_go (fun _ k => XS.lloadN Xw38.here hx rfl (hb hby at_108) rfl k) ?_
  show own_Ends _ _ _ _ (T38.setTop (mkF mM 109 #[.val (.long va), .second, .val (.long vb), .second, .val (.long vc), .second, .val (.long vd), .second, .val (.ref b1), .val (.int (1 : Int32))] [(.long vb), (.long vb)]))
  refine own_go (fun _ k => XS.lcmp Xw38.here hx rfl (hb hby at_109) rfl k) ?_
  show own_Ends _ _ _ _ (T38.setTop (mkF mM 110 #[.val (.long va), .second, .val (.long vb), .second, .val (.long vc), .second, .val (.long vd), .second, .val (.ref b1), .val (.int (1 : Int32))] [(.int (lcmpW vb vb))]))
  refine own_go (fun _ k => XS.ifNo Xw38.here hx rfl (hb hby at_110) rfl ((if0 _ _).trans (teq ((lw_eq vb vb).mpr rfl)).2) k) ?_
  show own_Ends _ _ _ _ (T38.setTop (mkF mM 113 #[.val (.long va), .second, .val (.long vb), .second, .val (.long vc), .second, .val (.long vd), .second, .val (.ref b1), .val (.int (1 : Int32))] []))
  refine own_go (fun _ k => XS.iconst Xw38.here hx rfl (hb hby at_113) k) ?_
  show own_Ends _ _ _ _ (T38.setTop (mkF mM 114 #[.val (.long va), .second, .val (.long vb), .second, .val (.long vc), .second, .val (.long vd), .second, .val (.ref b1), .val (.int (1 : Int32))] [(.int (1 : Int32))]))
  refine own_go (fun _ k => XS.goto Xw38.here hx rfl (pc0 := 114) (pc' := 118) rfl (hb hby at_114) (by decide) (by decide) k) ?_
  show own_Ends _ _ _ _ (T38.setTop (mkF mM 118 #[.val (.long va), .second, .val (.long vb), .second, .val (.long vc), .second, .val (.long vd), .second, .val (.ref b1), .val (.int (1 : Int32))] [(.int (1 : Int32))]))
  refine own_go (fun _ k => XS.istore Xw38.here hx rfl (hb hby at_118) rfl (l' := #[.val (.long va), .second, .val (.long vb), .second, .val (.long vc), .second, .val (.long vd), .second, .val (.ref b1), .val (.int (1 : Int32))]) rfl k) ?_
  show own_Ends _ _ _ _ (T38.setTop (mkF mM 120 #[.val (.long va), .second, .val (.long vb), .second, .val (.long vc), .second, .val (.long vd), .second, .val (.ref b1), .val (.int (1 : Int32))] []))
  refine own_go (fun _ k => XS.aload Xw38.here hx rfl (hb hby at_120) rfl rfl k) ?_
  show own_Ends _ _ _ _ (T38.setTop (mkF mM 122 #[.val (.long va), .second, .val (.long vb), .second, .val (.long vc), .second, .val (.long vd), .second, .val (.ref b1), .val (.int (1 : Int32))] [(.ref b1)]))
  refine own_go (fun _ k => XS.lload Xw38.here hx rfl (hb hby at_122) rfl k) ?_
  show own_Ends _ _ _ _ (T38.setTop (mkF mM 124 #[.val (.long va), .second, .val (.long vb), .second, .val (.long vc), .second, .val (.long vd), .second, .val (.ref b1), .val (.int (1 : Int32))] [(.long vc), (.ref b1)]))
  have R39 := (R32.keep K37)
  have R40 := (R33.keep K37 nin0)
  have R41 := (R34.keep K37 nin0)
  have R42 := (R35.keep K37 nin0)
  have R43 := (R36.keep K37 nin0)
  obtain ⟨_, _, ⟨T44, Lz44, kz44, nz44⟩, -, X44, ⟨Lc44, hQ44, l44, y44, z44⟩, st44⟩ := Jvm.LawKit.callS Xw38 hx (y := (⟨"com/example/reckon/reckon/io/LineListAddPinLaw", "addFourteen", "(Lcom/example/reckon/reckon/io/LineList;J)V"⟩ : MethodName)) hown (mvT hZ (hw _ (List.mem_of_getElem? (i := 67) rfl))) (mvT hZ (hw _ (List.mem_of_getElem? (i := 68) rfl))) (mvT hZ (hw _ (List.mem_of_getElem? (i := 69) rfl))) (mvT hZ (hw _ (List.mem_of_getElem? (i := 70) rfl))) (by decide) (backOf (W := 0) (own_fourteen l Z a0 hw [] b1 vc r2 rk2 va vb T37.heap n0 O37 g_b1 g_r2 hne2 R39 R40 R41 R42 R43) hZ (hw _ (List.mem_of_getElem? (i := 70) rfl)) (hw _ (List.mem_of_getElem? (i := 69) rfl)) (by decide) (by decide)) (g := (mkF mM 124 #[.val (.long va), .second, .val (.long vb), .second, .val (.long vc), .second, .val (.long vd), .second, .val (.ref b1), .val (.int (1 : Int32))] [(.long vc), (.ref b1)])) rfl (by rw [hml]; rfl) (argsL := [(.ref b1), (.long vc)]) (rest := []) (lenOf own_pd9 rfl) rfl (by show 2 * 0 + _ ≤ _; exact Nat.le_of_eq rfl) (hb hby at_124) (fun _ _ => ⟨rfl, e38, (by decide : 5 + 0 ≤ _), (by decide : 22 + 0 ≤ _)⟩)
  dsimp only [Pt.U, Pt.locs, Pt.cells, Pt.slots] at X44 l44 y44 z44 st44 hQ44
  obtain ⟨rfl, Nq44, K44, E_44, F1_44, F2_44, F3_44, VA_44⟩ := hQ44
  have N44 := Fr.app Nw38 Nq44
  have O44 := O37.keep K44 (allS g_b1 (allS g_r2 all0))
  obtain ⟨Lw44, Nw44, Xw44⟩ := own_pack (k' := 5) (n' := 22) X44 l44 y44 z44 N44
  clear X44
  refine own_go st44 ?_
  show own_Ends _ _ _ _ (T44.setTop (mkF mM 127 #[.val (.long va), .second, .val (.long vb), .second, .val (.long vc), .second, .val (.long vd), .second, .val (.ref b1), .val (.int (1 : Int32))] []))
  refine own_go (fun _ k => XS.iload Xw44.here hx rfl (hb hby at_127) rfl k) ?_
  show own_Ends _ _ _ _ (T44.setTop (mkF mM 129 #[.val (.long va), .second, .val (.long vb), .second, .val (.long vc), .second, .val (.long vd), .second, .val (.ref b1), .val (.int (1 : Int32))] [(.int (1 : Int32))]))
  refine own_go (fun _ k => XS.ifNo Xw44.here hx rfl (hb hby at_129) rfl ((if0 _ _).trans (feq (by decide : ¬ ((1 : Int32) = (0 : Int32)))).1) k) ?_
  show own_Ends _ _ _ _ (T44.setTop (mkF mM 132 #[.val (.long va), .second, .val (.long vb), .second, .val (.long vc), .second, .val (.long vd), .second, .val (.ref b1), .val (.int (1 : Int32))] []))
  refine own_go (fun _ k => XS.aload Xw44.here hx rfl (hb hby at_132) rfl rfl k) ?_
  show own_Ends _ _ _ _ (T44.setTop (mkF mM 134 #[.val (.long va), .second, .val (.long vb), .second, .val (.long vc), .second, .val (.long vd), .second, .val (.ref b1), .val (.int (1 : Int32))] [(.ref b1)]))
  obtain ⟨cq45, kq45, q45a, q45b, q45c⟩ := isOf hZ rfl E_44
  obtain ⟨_, _, ⟨T45, Lz45, kz45, nz45⟩, -, X45, ⟨Lc45, hQ45, l45, y45, z45⟩, st45⟩ := Xw44.virtualBack hx (y := (⟨"com/example/reckon/reckon/io/LineList", "size", "()I"⟩ : MethodName)) (z := (⟨"com/example/reckon/reckon/io/LineList", "size", "()I"⟩ : MethodName)) hown (mvT hZ (hw _ (List.mem_of_getElem? (i := 25) rfl))) (mvT hZ (hw _ (List.mem_of_getElem? (i := 26) rfl))) (notFace_of_selects (args := #[]) (mvT hZ (hw _ (List.mem_of_getElem? (i := 28) rfl)))) (mvT hZ (hw _ (List.mem_of_getElem? (i := 28) rfl))) (mvT hZ (hw _ (List.mem_of_getElem? (i := 27) rfl))) (by decide) (backOf (W := 0) (own_size l Z a0 hw [] b1 (16 : Int32) T44.heap n0 O44 F1_44) hZ (hw _ (List.mem_of_getElem? (i := 29) rfl)) (hw _ (List.mem_of_getElem? (i := 2) rfl)) (by decide) (by decide)) q45a q45c (g := (mkF mM 134 #[.val (.long va), .second, .val (.long vb), .second, .val (.long vc), .second, .val (.long vd), .second, .val (.ref b1), .val (.int (1 : Int32))] [(.ref b1)])) rfl (by rw [hml]; rfl) (Steps.refl _) (argsL := []) (rest := []) (lenOf own_pd6 rfl) rfl (by show 2 * 0 + _ ≤ _; exact Nat.le_of_eq rfl) (hb hby at_134) (fun _ _ => ⟨rfl, rfl, (by decide : 5 + 0 ≤ _), (by decide : 22 + 0 ≤ _)⟩)
  dsimp only [Pt.U, Pt.locs, Pt.cells, Pt.slots] at X45 l45 y45 z45 st45 hQ45
  obtain ⟨rfl, Nq45, e45⟩ := hQ45
  have N45 := Fr.app Nw44 Nq45
  obtain ⟨Lw45, Nw45, Xw45⟩ := own_pack (k' := 5) (n' := 22) X45 l45 y45 z45 N45
  clear X45
  refine own_tr st45 ?_
  show own_Ends _ _ _ _ (T45.setTop (mkF mM 137 #[.val (.long va), .second, .val (.long vb), .second, .val (.long vc), .second, .val (.long vd), .second, .val (.ref b1), .val (.int (1 : Int32))] [(.int (16 : Int32))]))
  refine own_go (fun _ k => XS.bipush Xw45.here hx rfl (hb hby at_137) k) ?_
  show own_Ends _ _ _ _ (T45.setTop (mkF mM 139 #[.val (.long va), .second, .val (.long vb), .second, .val (.long vc), .second, .val (.long vd), .second, .val (.ref b1), .val (.int (1 : Int32))] [(.int (16 : Int32)), (.int (16 : Int32))]))
  refine own_go (fun _ k => XS.icmpNo Xw45.here hx rfl (hb hby at_139) rfl (teq (by decide : (16 : Int32) = (16 : Int32))).2 k) ?_
  show own_Ends _ _ _ _ (T45.setTop (mkF mM 142 #[.val (.long va), .second, .val (.long vb), .second, .val (.long vc), .second, .val (.long vd), .second, .val (.ref b1), .val (.int (1 : Int32))] []))
  refine own_go (fun _ k => XS.aload Xw45.here hx rfl (hb hby at_142) rfl rfl k) ?_
  show own_Ends _ _ _ _ (T45.setTop (mkF mM 144 #[.val (.long va), .second, .val (.long vb), .second, .val (.long vc), .second, .val (.long vd), .second, .val (.ref b1), .val (.int (1 : Int32))] [(.ref b1)]))
  refine own_go (fun _ k => XS.iconst Xw45.here hx rfl (hb hby at_144) k) ?_
  show own_Ends _ _ _ _ (T45.setTop (mkF mM 145 #[.val (.long va), .second, .val (.long vb), .second, .val (.long vc), .second, .val (.long vd), .second, .val (.ref b1), .val (.int (1 : Int32))] [(.int (0 : Int32)), (.ref b1)]))
  have R46 := E_44
  have R47 := F1_44
  have R48 := F2_44
  have R49 := F3_44
  have R50 := VA_44
  obtain ⟨cq51, kq51, q51a, q51b, q51c⟩ := isOf hZ e45 R46
  obtain ⟨_, _, ⟨T51, Lz51, kz51, nz51⟩, -, X51, ⟨Lc51, hQ51, l51, y51, z51⟩, st51⟩ := Xw45.virtualBack hx (y := (⟨"com/example/reckon/reckon/io/LineList", "get", "(I)Ljava/lang/Long;"⟩ : MethodName)) (z := (⟨"com/example/reckon/reckon/io/LineList", "get", "(I)Ljava/lang/Long;"⟩ : MethodName)) hown (mvT hZ (hw _ (List.mem_of_getElem? (i := 39) rfl))) (mvT hZ (hw _ (List.mem_of_getElem? (i := 40) rfl))) (notFace_of_selects (args := #[]) (mvT hZ (hw _ (List.mem_of_getElem? (i := 42) rfl)))) (mvT hZ (hw _ (List.mem_of_getElem? (i := 42) rfl))) (mvT hZ (hw _ (List.mem_of_getElem? (i := 41) rfl))) (by decide) (backOf (W := 0) (own_get l Z a0 hw [] b1 (0 : Int32) (16 : Int32) r2 rk2 (16 : Int32) [(.long va), (.long vb), (.long vc), (.long vc), (.long vc), (.long vc), (.long vc), (.long vc), (.long vc), (.long vc), (.long vc), (.long vc), (.long vc), (.long vc), (.long vc), (.long vc)] va cc cl T44.heap n0 O44 R47 R49 R50 (by decide) (by decide) (by decide) rfl S_cache hcc) hZ (hw _ (List.mem_of_getElem? (i := 43) rfl)) (hw _ (List.mem_of_getElem? (i := 2) rfl)) (by decide) (by decide)) q51a q51c (g := (mkF mM 145 #[.val (.long va), .second, .val (.long vb), .second, .val (.long vc), .second, .val (.long vd), .second, .val (.ref b1), .val (.int (1 : Int32))] [(.int (0 : Int32)), (.ref b1)])) rfl (by rw [hml]; rfl) (Steps.refl _) (argsL := [(.int (0 : Int32))]) (rest := []) (lenOf own_pd7 rfl) rfl (by show 2 * 0 + _ ≤ _; exact Nat.le_of_eq rfl) (hb hby at_145) (fun _ _ => ⟨rfl, e45, (by decide : 5 + 1 ≤ _), (by decide : 22 + 1 ≤ _)⟩)
  dsimp only [Pt.U, Pt.locs, Pt.cells, Pt.slots] at X51 l51 y51 z51 st51 hQ51
  obtain ⟨c51, rfl, Nq51, K51, E_c51, F_c51⟩ := hQ51
  have N51 := Fr.app Nw45 Nq51
  have O51 := O44.keep K51 all0
  obtain ⟨Lw51, Nw51, Xw51⟩ := own_pack (k' := 6) (n' := 23) X51 l51 y51 z51 N51
  clear X51
  refine own_tr st51 ?_
  show own_Ends _ _ _ _ (T51.setTop (mkF mM 148 #[.val (.long va), .second, .val (.long vb), .second, .val (.long vc), .second, .val (.long vd), .second, .val (.ref b1), .val (.int (1 : Int32))] [(.ref c51)]))
  obtain ⟨cq52, kq52, q52a, q52b, q52c⟩ := isOf hZ rfl E_c51
  obtain ⟨_, _, ⟨T52, Lz52, kz52, nz52⟩, -, X52, ⟨Lc52, hQ52, l52, y52, z52⟩, st52⟩ := Xw51.virtualBack hx (y := (⟨"java/lang/Long", "longValue", "()J"⟩ : MethodName)) (z := (⟨"java/lang/Long", "longValue", "()J"⟩ : MethodName)) hown (mvT hZ (hw _ (List.mem_of_getElem? (i := 60) rfl))) (mvT hZ (hw _ (List.mem_of_getElem? (i := 61) rfl))) (notFace_of_selects (args := #[]) (mvT hZ (hw _ (List.mem_of_getElem? (i := 63) rfl)))) (mvT hZ (hw _ (List.mem_of_getElem? (i := 63) rfl))) (mvT hZ (hw _ (List.mem_of_getElem? (i := 62) rfl))) (by decide) (backOf (W := 0) (own_longValue l Z a0 hw [] c51 va T51.heap n0 O51 F_c51) hZ (hw _ (List.mem_of_getElem? (i := 64) rfl)) (hw _ (List.mem_of_getElem? (i := 54) rfl)) (by decide) (by decide)) q52a q52c (g := (mkF mM 148 #[.val (.long va), .second, .val (.long vb), .second, .val (.long vc), .second, .val (.long vd), .second, .val (.ref b1), .val (.int (1 : Int32))] [(.ref c51)])) rfl (by rw [hml]; rfl) (Steps.refl _) (argsL := []) (rest := []) (lenOf own_pd8 rfl) rfl (by show 2 * 0 + _ ≤ _; exact Nat.le_of_eq rfl) (hb hby at_148) (fun _ _ => ⟨rfl, rfl, (by decide : 6 + 0 ≤ _), (by decide : 23 + 0 ≤ _)⟩)
  dsimp only [Pt.U, Pt.locs, Pt.cells, Pt.slots] at X52 l52 y52 z52 st52 hQ52
  obtain ⟨rfl, Nq52, e52⟩ := hQ52
  have N52 := Fr.app Nw51 Nq52
  obtain ⟨Lw52, Nw52, Xw52⟩ := own_pack (k' := 6) (n' := 23) X52 l52 y52 z52 N52
  clear X52
  refine own_tr st52 ?_
  show own_Ends _ _ _ _ (T52.setTop (mkF mM 151 #[.val (.long va), .second, .val (.long vb), .second, .val (.long vc), .second, .val (.long vd), .second, .val (.ref b1), .val (.int (1 : Int32))] [(.long va)]))
  refine own_go (fun _ k => XS.lloadN Xw52.here hx rfl (hb hby at_151) rfl k) ?_
  show own_Ends _ _ _ _ (T52.setTop (mkF mM 152 #[.val (.long va), .second, .val (.long vb), .second, .val (.long vc), .second, .val (.long vd), .second, .val (.ref b1), .val (.int (1 : Int32))] [(.long va), (.long va)]))
  refine own_go (fun _ k => XS.lcmp Xw52.here hx rfl (hb hby at_152) rfl k) ?_
  show own_Ends _ _ _ _ (T52.setTop (mkF mM 153 #[.val (.long va), .second, .val (.long vb), .second, .val (.long vc), .second, .val (.long vd), .second, .val (.ref b1), .val (.int (1 : Int32))] [(.int (lcmpW va va))]))
  refine own_go (fun _ k => XS.ifNo Xw52.here hx rfl (hb hby at_153) rfl ((if0 _ _).trans (teq ((lw_eq va va).mpr rfl)).2) k) ?_
  show own_Ends _ _ _ _ (T52.setTop (mkF mM 156 #[.val (.long va), .second, .val (.long vb), .second, .val (.long vc), .second, .val (.long vd), .second, .val (.ref b1), .val (.int (1 : Int32))] []))
  refine own_go (fun _ k => XS.aload Xw52.here hx rfl (hb hby at_156) rfl rfl k) ?_
  show own_Ends _ _ _ _ (T52.setTop (mkF mM 158 #[.val (.long va), .second, .val (.long vb), .second, .val (.long vc), .second, .val (.long vd), .second, .val (.ref b1), .val (.int (1 : Int32))] [(.ref b1)]))
  refine own_go (fun _ k => XS.iconst Xw52.here hx rfl (hb hby at_158) k) ?_
  show own_Ends _ _ _ _ (T52.setTop (mkF mM 159 #[.val (.long va), .second, .val (.long vb), .second, .val (.long vc), .second, .val (.long vd), .second, .val (.ref b1), .val (.int (1 : Int32))] [(.int (1 : Int32)), (.ref b1)]))
  have R53 := (R46.keep K51)
  have R54 := (R47.keep K51 nin0)
  have R55 := (R48.keep K51 nin0)
  have R56 := (R49.keep K51 nin0)
  have R57 := (R50.keep K51 nin0)
  obtain ⟨cq58, kq58, q58a, q58b, q58c⟩ := isOf hZ e52 R53
  obtain ⟨_, _, ⟨T58, Lz58, kz58, nz58⟩, -, X58, ⟨Lc58, hQ58, l58, y58, z58⟩, st58⟩ := Xw52.virtualBack hx (y := (⟨"com/example/reckon/reckon/io/LineList", "get", "(I)Ljava/lang/Long;"⟩ : MethodName)) (z := (⟨"com/example/reckon/reckon/io/LineList", "get", "(I)Ljava/lang/Long;"⟩ : MethodName)) hown (mvT hZ (hw _ (List.mem_of_getElem? (i := 39) rfl))) (mvT hZ (hw _ (List.mem_of_getElem? (i := 40) rfl))) (notFace_of_selects (args := #[]) (mvT hZ (hw _ (List.mem_of_getElem? (i := 42) rfl)))) (mvT hZ (hw _ (List.mem_of_getElem? (i := 42) rfl))) (mvT hZ (hw _ (List.mem_of_getElem? (i := 41) rfl))) (by decide) (backOf (W := 0) (own_get l Z a0 hw [] b1 (1 : Int32) (16 : Int32) r2 rk2 (16 : Int32) [(.long va), (.long vb), (.long vc), (.long vc), (.long vc), (.long vc), (.long vc), (.long vc), (.long vc), (.long vc), (.long vc), (.long vc), (.long vc), (.long vc), (.long vc), (.long vc)] vb cc cl T51.heap n0 O51 R54 R56 R57 (by decide) (by decide) (by decide) rfl S_cache hcc) hZ (hw _ (List.mem_of_getElem? (i := 43) rfl)) (hw _ (List.mem_of_getElem? (i := 2) rfl)) (by decide) (by decide)) q58a q58c (g := (mkF mM 159 #[.val (.long va), .second, .val (.long vb), .second, .val (.long vc), .second, .val (.long vd), .second, .val (.ref b1), .val (.int (1 : Int32))] [(.int (1 : Int32)), (.ref b1)])) rfl (by rw [hml]; rfl) (Steps.refl _) (argsL := [(.int (1 : Int32))]) (rest := []) (lenOf own_pd7 rfl) rfl (by show 2 * 0 + _ ≤ _; exact Nat.le_of_eq rfl) (hb hby at_159) (fun _ _ => ⟨rfl, e52, (by decide : 6 + 1 ≤ _), (by decide : 23 + 1 ≤ _)⟩)
  dsimp only [Pt.U, Pt.locs, Pt.cells, Pt.slots] at X58 l58 y58 z58 st58 hQ58
  obtain ⟨c58, rfl, Nq58, K58, E_c58, F_c58⟩ := hQ58
  have N58 := Fr.app Nw52 Nq58
  have O58 := O51.keep K58 all0
  obtain ⟨Lw58, Nw58, Xw58⟩ := own_pack (k' := 7) (n' := 24) X58 l58 y58 z58 N58
  clear X58
  refine own_tr st58 ?_
  show own_Ends _ _ _ _ (T58.setTop (mkF mM 162 #[.val (.long va), .second, .val (.long vb), .second, .val (.long vc), .second, .val (.long vd), .second, .val (.ref b1), .val (.int (1 : Int32))] [(.ref c58)]))
  obtain ⟨cq59, kq59, q59a, q59b, q59c⟩ := isOf hZ rfl E_c58
  obtain ⟨_, _, ⟨T59, Lz59, kz59, nz59⟩, -, X59, ⟨Lc59, hQ59, l59, y59, z59⟩, st59⟩ := Xw58.virtualBack hx (y := (⟨"java/lang/Long", "longValue", "()J"⟩ : MethodName)) (z := (⟨"java/lang/Long", "longValue", "()J"⟩ : MethodName)) hown (mvT hZ (hw _ (List.mem_of_getElem? (i := 60) rfl))) (mvT hZ (hw _ (List.mem_of_getElem? (i := 61) rfl))) (notFace_of_selects (args := #[]) (mvT hZ (hw _ (List.mem_of_getElem? (i := 63) rfl)))) (mvT hZ (hw _ (List.mem_of_getElem? (i := 63) rfl))) (mvT hZ (hw _ (List.mem_of_getElem? (i := 62) rfl))) (by decide) (backOf (W := 0) (own_longValue l Z a0 hw [] c58 vb T58.heap n0 O58 F_c58) hZ (hw _ (List.mem_of_getElem? (i := 64) rfl)) (hw _ (List.mem_of_getElem? (i := 54) rfl)) (by decide) (by decide)) q59a q59c (g := (mkF mM 162 #[.val (.long va), .second, .val (.long vb), .second, .val (.long vc), .second, .val (.long vd), .second, .val (.ref b1), .val (.int (1 : Int32))] [(.ref c58)])) rfl (by rw [hml]; rfl) (Steps.refl _) (argsL := []) (rest := []) (lenOf own_pd8 rfl) rfl (by show 2 * 0 + _ ≤ _; exact Nat.le_of_eq rfl) (hb hby at_162) (fun _ _ => ⟨rfl, rfl, (by decide : 7 + 0 ≤ _), (by decide : 24 + 0 ≤ _)⟩)
  dsimp only [Pt.U, Pt.locs, Pt.cells, Pt.slots] at X59 l59 y59 z59 st59 hQ59
  obtain ⟨rfl, Nq59, e59⟩ := hQ59
  have N59 := Fr.app Nw58 Nq59
  obtain ⟨Lw59, Nw59, Xw59⟩ := own_pack (k' := 7) (n' := 24) X59 l59 y59 z59 N59
  clear X59
  refine own_tr st59 ?_
  show own_Ends _ _ _ _ (T59.setTop (mkF mM 165 #[.val (.long va), .second, .val (.long vb), .second, .val (.long vc), .second, .val (.long vd), .second, .val (.ref b1), .val (.int (1 : Int32))] [(.long vb)]))
  refine own_go (fun _ k => XS.lloadN Xw59.here hx rfl (hb hby at_165) rfl k) ?_
  show own_Ends _ _ _ _ (T59.setTop (mkF mM 166 #[.val (.long va), .second, .val (.long vb), .second, .val (.long vc), .second, .val (.long vd), .second, .val (.ref b1), .val (.int (1 : Int32))] [(.long vb), (.long vb)]))
  refine own_go (fun _ k => XS.lcmp Xw59.here hx rfl (hb hby at_166) rfl k) ?_
  show own_Ends _ _ _ _ (T59.setTop (mkF mM 167 #[.val (.long va), .second, .val (.long vb), .second, .val (.long vc), .second, .val (.long vd), .second, .val (.ref b1), .val (.int (1 : Int32))] [(.int (lcmpW vb vb))]))
  refine own_go (fun _ k => XS.ifNo Xw59.here hx rfl (hb hby at_167) rfl ((if0 _ _).trans (teq ((lw_eq vb vb).mpr rfl)).2) k) ?_
  show own_Ends _ _ _ _ (T59.setTop (mkF mM 170 #[.val (.long va), .second, .val (.long vb), .second, .val (.long vc), .second, .val (.long vd), .second, .val (.ref b1), .val (.int (1 : Int32))] []))
  refine own_go (fun _ k => XS.aload Xw59.here hx rfl (hb hby at_170) rfl rfl k) ?_
  show own_Ends _ _ _ _ (T59.setTop (mkF mM 172 #[.val (.long va), .second, .val (.long vb), .second, .val (.long vc), .second, .val (.long vd), .second, .val (.ref b1), .val (.int (1 : Int32))] [(.ref b1)]))
  refine own_go (fun _ k => XS.bipush Xw59.here hx rfl (hb hby at_172) k) ?_
  show own_Ends _ _ _ _ (T59.setTop (mkF mM 174 #[.val (.long va), .second, .val (.long vb), .second, .val (.long vc), .second, .val (.long vd), .second, .val (.ref b1), .val (.int (1 : Int32))] [(.int (15 : Int32)), (.ref b1)]))
  have R60 := (R53.keep K58)
  have R61 := (R54.keep K58 nin0)
  have R62 := (R55.keep K58 nin0)
  have R63 := (R56.keep K58 nin0)
  have R64 := (R57.keep K58 nin0)
  obtain ⟨cq65, kq65, q65a, q65b, q65c⟩ := isOf hZ e59 R60
  obtain ⟨_, _, ⟨T65, Lz65, kz65, nz65⟩, -, X65, ⟨Lc65, hQ65, l65, y65, z65⟩, st65⟩ := Xw59.virtualBack hx (y := (⟨"com/example/reckon/reckon/io/LineList", "get", "(I)Ljava/lang/Long;"⟩ : MethodName)) (z := (⟨"com/example/reckon/reckon/io/LineList", "get", "(I)Ljava/lang/Long;"⟩ : MethodName)) hown (mvT hZ (hw _ (List.mem_of_getElem? (i := 39) rfl))) (mvT hZ (hw _ (List.mem_of_getElem? (i := 40) rfl))) (notFace_of_selects (args := #[]) (mvT hZ (hw _ (List.mem_of_getElem? (i := 42) rfl)))) (mvT hZ (hw _ (List.mem_of_getElem? (i := 42) rfl))) (mvT hZ (hw _ (List.mem_of_getElem? (i := 41) rfl))) (by decide) (backOf (W := 0) (own_get l Z a0 hw [] b1 (15 : Int32) (16 : Int32) r2 rk2 (16 : Int32) [(.long va), (.long vb), (.long vc), (.long vc), (.long vc), (.long vc), (.long vc), (.long vc), (.long vc), (.long vc), (.long vc), (.long vc), (.long vc), (.long vc), (.long vc), (.long vc)] vc cc cl T58.heap n0 O58 R61 R63 R64 (by decide) (by decide) (by decide) rfl S_cache hcc) hZ (hw _ (List.mem_of_getElem? (i := 43) rfl)) (hw _ (List.mem_of_getElem? (i := 2) rfl)) (by decide) (by decide)) q65a q65c (g := (mkF mM 174 #[.val (.long va), .second, .val (.long vb), .second, .val (.long vc), .second, .val (.long vd), .second, .val (.ref b1), .val (.int (1 : Int32))] [(.int (15 : Int32)), (.ref b1)])) rfl (by rw [hml]; rfl) (Steps.refl _) (argsL := [(.int (15 : Int32))]) (rest := []) (lenOf own_pd7 rfl) rfl (by show 2 * 0 + _ ≤ _; exact Nat.le_of_eq rfl) (hb hby at_174) (fun _ _ => ⟨rfl, e59, (by decide : 7 + 1 ≤ _), (by decide : 24 + 1 ≤ _)⟩)
  dsimp only [Pt.U, Pt.locs, Pt.cells, Pt.slots] at X65 l65 y65 z65 st65 hQ65
  obtain ⟨c65, rfl, Nq65, K65, E_c65, F_c65⟩ := hQ65
  have N65 := Fr.app Nw59 Nq65
  have O65 := O58.keep K65 all0
  obtain ⟨Lw65, Nw65, Xw65⟩ := own_pack (k' := 8) (n' := 25) X65 l65 y65 z65 N65
  clear X65
  refine own_tr st65 ?_
  show own_Ends _ _ _ _ (T65.setTop (mkF mM 177 #[.val (.long va), .second, .val (.long vb), .second, .val (.long vc), .second, .val (.long vd), .second, .val (.ref b1), .val (.int (1 : Int32))] [(.ref c65)]))
  obtain ⟨cq66, kq66, q66a, q66b, q66c⟩ := isOf hZ rfl E_c65
  obtain ⟨_, _, ⟨T66, Lz66, kz66, nz66⟩, -, X66, ⟨Lc66, hQ66, l66, y66, z66⟩, st66⟩ := Xw65.virtualBack hx (y := (⟨"java/lang/Long", "longValue", "()J"⟩ : MethodName)) (z := (⟨"java/lang/Long", "longValue", "()J"⟩ : MethodName)) hown (mvT hZ (hw _ (List.mem_of_getElem? (i := 60) rfl))) (mvT hZ (hw _ (List.mem_of_getElem? (i := 61) rfl))) (notFace_of_selects (args := #[]) (mvT hZ (hw _ (List.mem_of_getElem? (i := 63) rfl)))) (mvT hZ (hw _ (List.mem_of_getElem? (i := 63) rfl))) (mvT hZ (hw _ (List.mem_of_getElem? (i := 62) rfl))) (by decide) (backOf (W := 0) (own_longValue l Z a0 hw [] c65 vc T65.heap n0 O65 F_c65) hZ (hw _ (List.mem_of_getElem? (i := 64) rfl)) (hw _ (List.mem_of_getElem? (i := 54) rfl)) (by decide) (by decide)) q66a q66c (g := (mkF mM 177 #[.val (.long va), .second, .val (.long vb), .second, .val (.long vc), .second, .val (.long vd), .second, .val (.ref b1), .val (.int (1 : Int32))] [(.ref c65)])) rfl (by rw [hml]; rfl) (Steps.refl _) (argsL := []) (rest := []) (lenOf own_pd8 rfl) rfl (by show 2 * 0 + _ ≤ _; exact Nat.le_of_eq rfl) (hb hby at_177) (fun _ _ => ⟨rfl, rfl, (by decide : 8 + 0 ≤ _), (by decide : 25 + 0 ≤ _)⟩)
  dsimp only [Pt.U, Pt.locs, Pt.cells, Pt.slots] at X66 l66 y66 z66 st66 hQ66
  obtain ⟨rfl, Nq66, e66⟩ := hQ66
  have N66 := Fr.app Nw65 Nq66
  obtain ⟨Lw66, Nw66, Xw66⟩ := own_pack (k' := 8) (n' := 25) X66 l66 y66 z66 N66
  clear X66
  refine own_tr st66 ?_
  show own_Ends _ _ _ _ (T66.setTop (mkF mM 180 #[.val (.long va), .second, .val (.long vb), .second, .val (.long vc), .second, .val (.long vd), .second, .val (.ref b1), .val (.int (1 : Int32))] [(.long vc)]))
  refine own_go (fun _ k => XS.lload Xw66.here hx rfl (hb hby at_180) rfl k) ?_
  show own_Ends _ _ _ _ (T66.setTop (mkF mM 182 #[.val (.long va), .second, .val (.long vb), .second, .val (.long vc), .second, .val (.long vd), .second, .val (.ref b1), .val (.int (1 : Int32))] [(.long vc), (.long vc)]))
  refine own_go (fun _ k => XS.lcmp Xw66.here hx rfl (hb hby at_182) rfl k) ?_
  show own_Ends _ _ _ _ (T66.setTop (mkF mM 183 #[.val (.long va), .second, .val (.long vb), .second, .val (.long vc), .second, .val (.long vd), .second, .val (.ref b1), .val (.int (1 : Int32))] [(.int (lcmpW vc vc))]))
  refine own_go (fun _ k => XS.ifNo Xw66.here hx rfl (hb hby at_183) rfl ((if0 _ _).trans (teq ((lw_eq vc vc).mpr rfl)).2) k) ?_
  show own_Ends _ _ _ _ (T66.setTop (mkF mM 186 #[.val (.long va), .second, .val (.long vb), .second, .val (.long vc), .second, .val (.long vd), .second, .val (.ref b1), .val (.int (1 : Int32))] []))
  refine own_go (fun _ k => XS.iconst Xw66.here hx rfl (hb hby at_186) k) ?_
  show own_Ends _ _ _ _ (T66.setTop (mkF mM 187 #[.val (.long va), .second, .val (.long vb), .second, .val (.long vc), .second, .val (.long vd), .second, .val (.ref b1), .val (.int (1 : Int32))] [(.int (1 : Int32))]))
  refine own_go (fun _ k => XS.goto Xw66.here hx rfl (pc0 := 187) (pc' := 191) rfl (hb hby at_187) (by decide) (by decide) k) ?_
  show own_Ends _ _ _ _ (T66.setTop (mkF mM 191 #[.val (.long va), .second, .val (.long vb), .second, .val (.long vc), .second, .val (.long vd), .second, .val (.ref b1), .val (.int (1 : Int32))] [(.int (1 : Int32))]))
  refine own_go (fun _ k => XS.istore Xw66.here hx rfl (hb hby at_191) rfl (l' := #[.val (.long va), .second, .val (.long vb), .second, .val (.long vc), .second, .val (.long vd), .second, .val (.ref b1), .val (.int (1 : Int32))]) rfl k) ?_
  show own_Ends _ _ _ _ (T66.setTop (mkF mM 193 #[.val (.long va), .second, .val (.long vb), .second, .val (.long vc), .second, .val (.long vd), .second, .val (.ref b1), .val (.int (1 : Int32))] []))
  refine own_go (fun _ k => XS.aload Xw66.here hx rfl (hb hby at_193) rfl rfl k) ?_
  show own_Ends _ _ _ _ (T66.setTop (mkF mM 195 #[.val (.long va), .second, .val (.long vb), .second, .val (.long vc), .second, .val (.long vd), .second, .val (.ref b1), .val (.int (1 : Int32))] [(.ref b1)]))
  refine own_go (fun _ k => XS.lload Xw66.here hx rfl (hb hby at_195) rfl k) ?_
  show own_Ends _ _ _ _ (T66.setTop (mkF mM 197 #[.val (.long va), .second, .val (.long vb), .second, .val (.long vc), .second, .val (.long vd), .second, .val (.ref b1), .val (.int (1 : Int32))] [(.long vd), (.ref b1)]))
  have R67 := (R60.keep K65)
  have R68 := (R61.keep K65 nin0)
  have R69 := (R62.keep K65 nin0)
  have R70 := (R63.keep K65 nin0)
  have R71 := (R64.keep K65 nin0)
  obtain ⟨cq72, kq72, q72a, q72b, q72c⟩ := isOf hZ e66 R67
  obtain ⟨_, _, ⟨T72, Lz72, kz72, nz72⟩, -, X72, ⟨Lc72, hQ72, l72, y72, z72⟩, st72⟩ := Xw66.virtualBack hx (y := (⟨"com/example/reckon/reckon/io/LineList", "add", "(J)V"⟩ : MethodName)) (z := (⟨"com/example/reckon/reckon/io/LineList", "add", "(J)V"⟩ : MethodName)) hown (mvT hZ (hw _ (List.mem_of_getElem? (i := 32) rfl))) (mvT hZ (hw _ (List.mem_of_getElem? (i := 33) rfl))) (notFace_of_selects (args := #[]) (mvT hZ (hw _ (List.mem_of_getElem? (i := 35) rfl)))) (mvT hZ (hw _ (List.mem_of_getElem? (i := 35) rfl))) (mvT hZ (hw _ (List.mem_of_getElem? (i := 34) rfl))) (by decide) (backOf (W := 0) (own_addG l Z a0 hw [] b1 vd r2 rk2 va vb vc T65.heap n0 O65 g_b1 hne2 R67 R68 R69 R70 R71) hZ (hw _ (List.mem_of_getElem? (i := 36) rfl)) (hw _ (List.mem_of_getElem? (i := 2) rfl)) (by decide) (by decide)) q72a q72c (g := (mkF mM 197 #[.val (.long va), .second, .val (.long vb), .second, .val (.long vc), .second, .val (.long vd), .second, .val (.ref b1), .val (.int (1 : Int32))] [(.long vd), (.ref b1)])) rfl (by rw [hml]; rfl) (Steps.refl _) (argsL := [(.long vd)]) (rest := []) (lenOf own_pd1 rfl) rfl (by show 2 * 0 + _ ≤ _; exact Nat.le_of_eq rfl) (hb hby at_197) (fun _ _ => ⟨rfl, e66, (by decide : 8 + 1 ≤ _), (by decide : 25 + 24 ≤ _)⟩)
  dsimp only [Pt.U, Pt.locs, Pt.cells, Pt.slots] at X72 l72 y72 z72 st72 hQ72
  obtain ⟨rfl, Nq72, K72, r72, rk72, g_r72, hne72, E_72, F1_72, F2_72, F3_72, VA_72⟩ := hQ72
  have N72 := Fr.app Nw66 Nq72
  have O72 := O65.keep K72 (allS g_b1 all0)
  obtain ⟨Lw72, Nw72, Xw72⟩ := own_pack (k' := 9) (n' := 49) X72 l72 y72 z72 N72
  clear X72
  refine own_tr st72 ?_
  show own_Ends _ _ _ _ (T72.setTop (mkF mM 200 #[.val (.long va), .second, .val (.long vb), .second, .val (.long vc), .second, .val (.long vd), .second, .val (.ref b1), .val (.int (1 : Int32))] []))
  refine own_go (fun _ k => XS.iload Xw72.here hx rfl (hb hby at_200) rfl k) ?_
  show own_Ends _ _ _ _ (T72.setTop (mkF mM 202 #[.val (.long va), .second, .val (.long vb), .second, .val (.long vc), .second, .val (.long vd), .second, .val (.ref b1), .val (.int (1 : Int32))] [(.int (1 : Int32))]))
  refine own_go (fun _ k => XS.ifNo Xw72.here hx rfl (hb hby at_202) rfl ((if0 _ _).trans (feq (by decide : ¬ ((1 : Int32) = (0 : Int32)))).1) k) ?_
  show own_Ends _ _ _ _ (T72.setTop (mkF mM 205 #[.val (.long va), .second, .val (.long vb), .second, .val (.long vc), .second, .val (.long vd), .second, .val (.ref b1), .val (.int (1 : Int32))] []))
  refine own_go (fun _ k => XS.aload Xw72.here hx rfl (hb hby at_205) rfl rfl k) ?_
  show own_Ends _ _ _ _ (T72.setTop (mkF mM 207 #[.val (.long va), .second, .val (.long vb), .second, .val (.long vc), .second, .val (.long vd), .second, .val (.ref b1), .val (.int (1 : Int32))] [(.ref b1)]))
  obtain ⟨cq73, kq73, q73a, q73b, q73c⟩ := isOf hZ rfl E_72
  obtain ⟨_, _, ⟨T73, Lz73, kz73, nz73⟩, -, X73, ⟨Lc73, hQ73, l73, y73, z73⟩, st73⟩ := Xw72.virtualBack hx (y := (⟨"com/example/reckon/reckon/io/LineList", "size", "()I"⟩ : MethodName)) (z := (⟨"com/example/reckon/reckon/io/LineList", "size", "()I"⟩ : MethodName)) hown (mvT hZ (hw _ (List.mem_of_getElem? (i := 25) rfl))) (mvT hZ (hw _ (List.mem_of_getElem? (i := 26) rfl))) (notFace_of_selects (args := #[]) (mvT hZ (hw _ (List.mem_of_getElem? (i := 28) rfl)))) (mvT hZ (hw _ (List.mem_of_getElem? (i := 28) rfl))) (mvT hZ (hw _ (List.mem_of_getElem? (i := 27) rfl))) (by decide) (backOf (W := 0) (own_size l Z a0 hw [] b1 (17 : Int32) T72.heap n0 O72 F1_72) hZ (hw _ (List.mem_of_getElem? (i := 29) rfl)) (hw _ (List.mem_of_getElem? (i := 2) rfl)) (by decide) (by decide)) q73a q73c (g := (mkF mM 207 #[.val (.long va), .second, .val (.long vb), .second, .val (.long vc), .second, .val (.long vd), .second, .val (.ref b1), .val (.int (1 : Int32))] [(.ref b1)])) rfl (by rw [hml]; rfl) (Steps.refl _) (argsL := []) (rest := []) (lenOf own_pd6 rfl) rfl (by show 2 * 0 + _ ≤ _; exact Nat.le_of_eq rfl) (hb hby at_207) (fun _ _ => ⟨rfl, rfl, (by decide : 9 + 0 ≤ _), (by decide : 49 + 0 ≤ _)⟩)
  dsimp only [Pt.U, Pt.locs, Pt.cells, Pt.slots] at X73 l73 y73 z73 st73 hQ73
  obtain ⟨rfl, Nq73, e73⟩ := hQ73
  have N73 := Fr.app Nw72 Nq73
  obtain ⟨Lw73, Nw73, Xw73⟩ := own_pack (k' := 9) (n' := 49) X73 l73 y73 z73 N73
  clear X73
  refine own_tr st73 ?_
  show own_Ends _ _ _ _ (T73.setTop (mkF mM 210 #[.val (.long va), .second, .val (.long vb), .second, .val (.long vc), .second, .val (.long vd), .second, .val (.ref b1), .val (.int (1 : Int32))] [(.int (17 : Int32))]))
  refine own_go (fun _ k => XS.bipush Xw73.here hx rfl (hb hby at_210) k) ?_
  show own_Ends _ _ _ _ (T73.setTop (mkF mM 212 #[.val (.long va), .second, .val (.long vb), .second, .val (.long vc), .second, .val (.long vd), .second, .val (.ref b1), .val (.int (1 : Int32))] [(.int (17 : Int32)), (.int (17 : Int32))]))
  refine own_go (fun _ k => XS.icmpNo Xw73.here hx rfl (hb hby at_212) rfl (teq (by decide : (17 : Int32) = (17 : Int32))).2 k) ?_
  show own_Ends _ _ _ _ (T73.setTop (mkF mM 215 #[.val (.long va), .second, .val (.long vb), .second, .val (.long vc), .second, .val (.long vd), .second, .val (.ref b1), .val (.int (1 : Int32))] []))
  refine own_go (fun _ k => XS.aload Xw73.here hx rfl (hb hby at_215) rfl rfl k) ?_
  show own_Ends _ _ _ _ (T73.setTop (mkF mM 217 #[.val (.long va), .second, .val (.long vb), .second, .val (.long vc), .second, .val (.long vd), .second, .val (.ref b1), .val (.int (1 : Int32))] [(.ref b1)]))
  refine own_go (fun _ k => XS.iconst Xw73.here hx rfl (hb hby at_217) k) ?_
  show own_Ends _ _ _ _ (T73.setTop (mkF mM 218 #[.val (.long va), .second, .val (.long vb), .second, .val (.long vc), .second, .val (.long vd), .second, .val (.ref b1), .val (.int (1 : Int32))] [(.int (0 : Int32)), (.ref b1)]))
  have R74 := E_72
  have R75 := F1_72
  have R76 := F2_72
  have R77 := F3_72
  have R78 := VA_72
  obtain ⟨cq79, kq79, q79a, q79b, q79c⟩ := isOf hZ e73 R74
  obtain ⟨_, _, ⟨T79, Lz79, kz79, nz79⟩, -, X79, ⟨Lc79, hQ79, l79, y79, z79⟩, st79⟩ := Xw73.virtualBack hx (y := (⟨"com/example/reckon/reckon/io/LineList", "get", "(I)Ljava/lang/Long;"⟩ : MethodName)) (z := (⟨"com/example/reckon/reckon/io/LineList", "get", "(I)Ljava/lang/Long;"⟩ : MethodName)) hown (mvT hZ (hw _ (List.mem_of_getElem? (i := 39) rfl))) (mvT hZ (hw _ (List.mem_of_getElem? (i := 40) rfl))) (notFace_of_selects (args := #[]) (mvT hZ (hw _ (List.mem_of_getElem? (i := 42) rfl)))) (mvT hZ (hw _ (List.mem_of_getElem? (i := 42) rfl))) (mvT hZ (hw _ (List.mem_of_getElem? (i := 41) rfl))) (by decide) (backOf (W := 0) (own_get l Z a0 hw [] b1 (0 : Int32) (17 : Int32) r72 rk72 (24 : Int32) [(.long va), (.long vb), (.long vc), (.long vc), (.long vc), (.long vc), (.long vc), (.long vc), (.long vc), (.long vc), (.long vc), (.long vc), (.long vc), (.long vc), (.long vc), (.long vc), (.long vd), (.long (0 : Int64)), (.long (0 : Int64)), (.long (0 : Int64)), (.long (0 : Int64)), (.long (0 : Int64)), (.long (0 : Int64)), (.long (0 : Int64))] va cc cl T72.heap n0 O72 R75 R77 R78 (by decide) (by decide) (by decide) rfl S_cache hcc) hZ (hw _ (List.mem_of_getElem? (i := 43) rfl)) (hw _ (List.mem_of_getElem? (i := 2) rfl)) (by decide) (by decide)) q79a q79c (g := (mkF mM 218 #[.val (.long va), .second, .val (.long vb), .second, .val (.long vc), .second, .val (.long vd), .second, .val (.ref b1), .val (.int (1 : Int32))] [(.int (0 : Int32)), (.ref b1)])) rfl (by rw [hml]; rfl) (Steps.refl _) (argsL := [(.int (0 : Int32))]) (rest := []) (lenOf own_pd7 rfl) rfl (by show 2 * 0 + _ ≤ _; exact Nat.le_of_eq rfl) (hb hby at_218) (fun _ _ => ⟨rfl, e73, (by decide : 9 + 1 ≤ _), (by decide : 49 + 1 ≤ _)⟩)
  dsimp only [Pt.U, Pt.locs, Pt.cells, Pt.slots] at X79 l79 y79 z79 st79 hQ79
  obtain ⟨c79, rfl, Nq79, K79, E_c79, F_c79⟩ := hQ79
  have N79 := Fr.app Nw73 Nq79
  have O79 := O72.keep K79 all0
  obtain ⟨Lw79, Nw79, Xw79⟩ := own_pack (k' := 10) (n' := 50) X79 l79 y79 z79 N79
  clear X79
  refine own_tr st79 ?_
  show own_Ends _ _ _ _ (T79.setTop (mkF mM 221 #[.val (.long va), .second, .val (.long vb), .second, .val (.long vc), .second, .val (.long vd), .second, .val (.ref b1), .val (.int (1 : Int32))] [(.ref c79)]))
  obtain ⟨cq80, kq80, q80a, q80b, q80c⟩ := isOf hZ rfl E_c79
  obtain ⟨_, _, ⟨T80, Lz80, kz80, nz80⟩, -, X80, ⟨Lc80, hQ80, l80, y80, z80⟩, st80⟩ := Xw79.virtualBack hx (y := (⟨"java/lang/Long", "longValue", "()J"⟩ : MethodName)) (z := (⟨"java/lang/Long", "longValue", "()J"⟩ : MethodName)) hown (mvT hZ (hw _ (List.mem_of_getElem? (i := 60) rfl))) (mvT hZ (hw _ (List.mem_of_getElem? (i := 61) rfl))) (notFace_of_selects (args := #[]) (mvT hZ (hw _ (List.mem_of_getElem? (i := 63) rfl)))) (mvT hZ (hw _ (List.mem_of_getElem? (i := 63) rfl))) (mvT hZ (hw _ (List.mem_of_getElem? (i := 62) rfl))) (by decide) (backOf (W := 0) (own_longValue l Z a0 hw [] c79 va T79.heap n0 O79 F_c79) hZ (hw _ (List.mem_of_getElem? (i := 64) rfl)) (hw _ (List.mem_of_getElem? (i := 54) rfl)) (by decide) (by decide)) q80a q80c (g := (mkF mM 221 #[.val (.long va), .second, .val (.long vb), .second, .val (.long vc), .second, .val (.long vd), .second, .val (.ref b1), .val (.int (1 : Int32))] [(.ref c79)])) rfl (by rw [hml]; rfl) (Steps.refl _) (argsL := []) (rest := []) (lenOf own_pd8 rfl) rfl (by show 2 * 0 + _ ≤ _; exact Nat.le_of_eq rfl) (hb hby at_221) (fun _ _ => ⟨rfl, rfl, (by decide : 10 + 0 ≤ _), (by decide : 50 + 0 ≤ _)⟩)
  dsimp only [Pt.U, Pt.locs, Pt.cells, Pt.slots] at X80 l80 y80 z80 st80 hQ80
  obtain ⟨rfl, Nq80, e80⟩ := hQ80
  have N80 := Fr.app Nw79 Nq80
  obtain ⟨Lw80, Nw80, Xw80⟩ := own_pack (k' := 10) (n' := 50) X80 l80 y80 z80 N80
  clear X80
  refine own_tr st80 ?_
  show own_Ends _ _ _ _ (T80.setTop (mkF mM 224 #[.val (.long va), .second, .val (.long vb), .second, .val (.long vc), .second, .val (.long vd), .second, .val (.ref b1), .val (.int (1 : Int32))] [(.long va)]))
  refine own_go (fun _ k => XS.lloadN Xw80.here hx rfl (hb hby at_224) rfl k) ?_
  show own_Ends _ _ _ _ (T80.setTop (mkF mM 225 #[.val (.long va), .second, .val (.long vb), .second, .val (.long vc), .second, .val (.long vd), .second, .val (.ref b1), .val (.int (1 : Int32))] [(.long va), (.long va)]))
  refine own_go (fun _ k => XS.lcmp Xw80.here hx rfl (hb hby at_225) rfl k) ?_
  show own_Ends _ _ _ _ (T80.setTop (mkF mM 226 #[.val (.long va), .second, .val (.long vb), .second, .val (.long vc), .second, .val (.long vd), .second, .val (.ref b1), .val (.int (1 : Int32))] [(.int (lcmpW va va))]))
  refine own_go (fun _ k => XS.ifNo Xw80.here hx rfl (hb hby at_226) rfl ((if0 _ _).trans (teq ((lw_eq va va).mpr rfl)).2) k) ?_
  show own_Ends _ _ _ _ (T80.setTop (mkF mM 229 #[.val (.long va), .second, .val (.long vb), .second, .val (.long vc), .second, .val (.long vd), .second, .val (.ref b1), .val (.int (1 : Int32))] []))
  refine own_go (fun _ k => XS.aload Xw80.here hx rfl (hb hby at_229) rfl rfl k) ?_
  show own_Ends _ _ _ _ (T80.setTop (mkF mM 231 #[.val (.long va), .second, .val (.long vb), .second, .val (.long vc), .second, .val (.long vd), .second, .val (.ref b1), .val (.int (1 : Int32))] [(.ref b1)]))
  refine own_go (fun _ k => XS.iconst Xw80.here hx rfl (hb hby at_231) k) ?_
  show own_Ends _ _ _ _ (T80.setTop (mkF mM 232 #[.val (.long va), .second, .val (.long vb), .second, .val (.long vc), .second, .val (.long vd), .second, .val (.ref b1), .val (.int (1 : Int32))] [(.int (1 : Int32)), (.ref b1)]))
  have R81 := (R74.keep K79)
  have R82 := (R75.keep K79 nin0)
  have R83 := (R76.keep K79 nin0)
  have R84 := (R77.keep K79 nin0)
  have R85 := (R78.keep K79 nin0)
  obtain ⟨cq86, kq86, q86a, q86b, q86c⟩ := isOf hZ e80 R81
  obtain ⟨_, _, ⟨T86, Lz86, kz86, nz86⟩, -, X86, ⟨Lc86, hQ86, l86, y86, z86⟩, st86⟩ := Xw80.virtualBack hx (y := (⟨"com/example/reckon/reckon/io/LineList", "get", "(I)Ljava/lang/Long;"⟩ : MethodName)) (z := (⟨"com/example/reckon/reckon/io/LineList", "get", "(I)Ljava/lang/Long;"⟩ : MethodName)) hown (mvT hZ (hw _ (List.mem_of_getElem? (i := 39) rfl))) (mvT hZ (hw _ (List.mem_of_getElem? (i := 40) rfl))) (notFace_of_selects (args := #[]) (mvT hZ (hw _ (List.mem_of_getElem? (i := 42) rfl)))) (mvT hZ (hw _ (List.mem_of_getElem? (i := 42) rfl))) (mvT hZ (hw _ (List.mem_of_getElem? (i := 41) rfl))) (by decide) (backOf (W := 0) (own_get l Z a0 hw [] b1 (1 : Int32) (17 : Int32) r72 rk72 (24 : Int32) [(.long va), (.long vb), (.long vc), (.long vc), (.long vc), (.long vc), (.long vc), (.long vc), (.long vc), (.long vc), (.long vc), (.long vc), (.long vc), (.long vc), (.long vc), (.long vc), (.long vd), (.long (0 : Int64)), (.long (0 : Int64)), (.long (0 : Int64)), (.long (0 : Int64)), (.long (0 : Int64)), (.long (0 : Int64)), (.long (0 : Int64))] vb cc cl T79.heap n0 O79 R82 R84 R85 (by decide) (by decide) (by decide) rfl S_cache hcc) hZ (hw _ (List.mem_of_getElem? (i := 43) rfl)) (hw _ (List.mem_of_getElem? (i := 2) rfl)) (by decide) (by decide)) q86a q86c (g := (mkF mM 232 #[.val (.long va), .second, .val (.long vb), .second, .val (.long vc), .second, .val (.long vd), .second, .val (.ref b1), .val (.int (1 : Int32))] [(.int (1 : Int32)), (.ref b1)])) rfl (by rw [hml]; rfl) (Steps.refl _) (argsL := [(.int (1 : Int32))]) (rest := []) (lenOf own_pd7 rfl) rfl (by show 2 * 0 + _ ≤ _; exact Nat.le_of_eq rfl) (hb hby at_232) (fun _ _ => ⟨rfl, e80, (by decide : 10 + 1 ≤ _), (by decide : 50 + 1 ≤ _)⟩)
  dsimp only [Pt.U, Pt.locs, Pt.cells, Pt.slots] at X86 l86 y86 z86 st86 hQ86
  obtain ⟨c86, rfl, Nq86, K86, E_c86, F_c86⟩ := hQ86
  have N86 := Fr.app Nw80 Nq86
  have O86 := O79.keep K86 all0
  obtain ⟨Lw86, Nw86, Xw86⟩ := own_pack (k' := 11) (n' := 51) X86 l86 y86 z86 N86
  clear X86
  refine own_tr st86 ?_
  show own_Ends _ _ _ _ (T86.setTop (mkF mM 235 #[.val (.long va), .second, .val (.long vb), .second, .val (.long vc), .second, .val (.long vd), .second, .val (.ref b1), .val (.int (1 : Int32))] [(.ref c86)]))
  obtain ⟨cq87, kq87, q87a, q87b, q87c⟩ := isOf hZ rfl E_c86
  obtain ⟨_, _, ⟨T87, Lz87, kz87, nz87⟩, -, X87, ⟨Lc87, hQ87, l87, y87, z87⟩, st87⟩ := Xw86.virtualBack hx (y := (⟨"java/lang/Long", "longValue", "()J"⟩ : MethodName)) (z := (⟨"java/lang/Long", "longValue", "()J"⟩ : MethodName)) hown (mvT hZ (hw _ (List.mem_of_getElem? (i := 60) rfl))) (mvT hZ (hw _ (List.mem_of_getElem? (i := 61) rfl))) (notFace_of_selects (args := #[]) (mvT hZ (hw _ (List.mem_of_getElem? (i := 63) rfl)))) (mvT hZ (hw _ (List.mem_of_getElem? (i := 63) rfl))) (mvT hZ (hw _ (List.mem_of_getElem? (i := 62) rfl))) (by decide) (backOf (W := 0) (own_longValue l Z a0 hw [] c86 vb T86.heap n0 O86 F_c86) hZ (hw _ (List.mem_of_getElem? (i := 64) rfl)) (hw _ (List.mem_of_getElem? (i := 54) rfl)) (by decide) (by decide)) q87a q87c (g := (mkF mM 235 #[.val (.long va), .second, .val (.long vb), .second, .val (.long vc), .second, .val (.long vd), .second, .val (.ref b1), .val (.int (1 : Int32))] [(.ref c86)])) rfl (by rw [hml]; rfl) (Steps.refl _) (argsL := []) (rest := []) (lenOf own_pd8 rfl) rfl (by show 2 * 0 + _ ≤ _; exact Nat.le_of_eq rfl) (hb hby at_235) (fun _ _ => ⟨rfl, rfl, (by decide : 11 + 0 ≤ _), (by decide : 51 + 0 ≤ _)⟩)
  dsimp only [Pt.U, Pt.locs, Pt.cells, Pt.slots] at X87 l87 y87 z87 st87 hQ87
  obtain ⟨rfl, Nq87, e87⟩ := hQ87
  have N87 := Fr.app Nw86 Nq87
  obtain ⟨Lw87, Nw87, Xw87⟩ := own_pack (k' := 11) (n' := 51) X87 l87 y87 z87 N87
  clear X87
  refine own_tr st87 ?_
  show own_Ends _ _ _ _ (T87.setTop (mkF mM 238 #[.val (.long va), .second, .val (.long vb), .second, .val (.long vc), .second, .val (.long vd), .second, .val (.ref b1), .val (.int (1 : Int32))] [(.long vb)]))
  refine own_go (fun _ k => XS.lloadN Xw87.here hx rfl (hb hby at_238) rfl k) ?_
  show own_Ends _ _ _ _ (T87.setTop (mkF mM 239 #[.val (.long va), .second, .val (.long vb), .second, .val (.long vc), .second, .val (.long vd), .second, .val (.ref b1), .val (.int (1 : Int32))] [(.long vb), (.long vb)]))
  refine own_go (fun _ k => XS.lcmp Xw87.here hx rfl (hb hby at_239) rfl k) ?_
  show own_Ends _ _ _ _ (T87.setTop (mkF mM 240 #[.val (.long va), .second, .val (.long vb), .second, .val (.long vc), .second, .val (.long vd), .second, .val (.ref b1), .val (.int (1 : Int32))] [(.int (lcmpW vb vb))]))
  refine own_go (fun _ k => XS.ifNo Xw87.here hx rfl (hb hby at_240) rfl ((if0 _ _).trans (teq ((lw_eq vb vb).mpr rfl)).2) k) ?_
  show own_Ends _ _ _ _ (T87.setTop (mkF mM 243 #[.val (.long va), .second, .val (.long vb), .second, .val (.long vc), .second, .val (.long vd), .second, .val (.ref b1), .val (.int (1 : Int32))] []))
  refine own_go (fun _ k => XS.aload Xw87.here hx rfl (hb hby at_243) rfl rfl k) ?_
  show own_Ends _ _ _ _ (T87.setTop (mkF mM 245 #[.val (.long va), .second, .val (.long vb), .second, .val (.long vc), .second, .val (.long vd), .second, .val (.ref b1), .val (.int (1 : Int32))] [(.ref b1)]))
  refine own_go (fun _ k => XS.iconst Xw87.here hx rfl (hb hby at_245) k) ?_
  show own_Ends _ _ _ _ (T87.setTop (mkF mM 246 #[.val (.long va), .second, .val (.long vb), .second, .val (.long vc), .second, .val (.long vd), .second, .val (.ref b1), .val (.int (1 : Int32))] [(.int (2 : Int32)), (.ref b1)]))
  have R88 := (R81.keep K86)
  have R89 := (R82.keep K86 nin0)
  have R90 := (R83.keep K86 nin0)
  have R91 := (R84.keep K86 nin0)
  have R92 := (R85.keep K86 nin0)
  obtain ⟨cq93, kq93, q93a, q93b, q93c⟩ := isOf hZ e87 R88
  obtain ⟨_, _, ⟨T93, Lz93, kz93, nz93⟩, -, X93, ⟨Lc93, hQ93, l93, y93, z93⟩, st93⟩ := Xw87.virtualBack hx (y := (⟨"com/example/reckon/reckon/io/LineList", "get", "(I)Ljava/lang/Long;"⟩ : MethodName)) (z := (⟨"com/example/reckon/reckon/io/LineList", "get", "(I)Ljava/lang/Long;"⟩ : MethodName)) hown (mvT hZ (hw _ (List.mem_of_getElem? (i := 39) rfl))) (mvT hZ (hw _ (List.mem_of_getElem? (i := 40) rfl))) (notFace_of_selects (args := #[]) (mvT hZ (hw _ (List.mem_of_getElem? (i := 42) rfl)))) (mvT hZ (hw _ (List.mem_of_getElem? (i := 42) rfl))) (mvT hZ (hw _ (List.mem_of_getElem? (i := 41) rfl))) (by decide) (backOf (W := 0) (own_get l Z a0 hw [] b1 (2 : Int32) (17 : Int32) r72 rk72 (24 : Int32) [(.long va), (.long vb), (.long vc), (.long vc), (.long vc), (.long vc), (.long vc), (.long vc), (.long vc), (.long vc), (.long vc), (.long vc), (.long vc), (.long vc), (.long vc), (.long vc), (.long vd), (.long (0 : Int64)), (.long (0 : Int64)), (.long (0 : Int64)), (.long (0 : Int64)), (.long (0 : Int64)), (.long (0 : Int64)), (.long (0 : Int64))] vc cc cl T86.heap n0 O86 R89 R91 R92 (by decide) (by decide) (by decide) rfl S_cache hcc) hZ (hw _ (List.mem_of_getElem? (i := 43) rfl)) (hw _ (List.mem_of_getElem? (i := 2) rfl)) (by decide) (by decide)) q93a q93c (g := (mkF mM 246 #[.val (.long va), .second, .val (.long vb), .second, .val (.long vc), .second, .val (.long vd), .second, .val (.ref b1), .val (.int (1 : Int32))] [(.int (2 : Int32)), (.ref b1)])) rfl (by rw [hml]; rfl) (Steps.refl _) (argsL := [(.int (2 : Int32))]) (rest := []) (lenOf own_pd7 rfl) rfl (by show 2 * 0 + _ ≤ _; exact Nat.le_of_eq rfl) (hb hby at_246) (fun _ _ => ⟨rfl, e87, (by decide : 11 + 1 ≤ _), (by decide : 51 + 1 ≤ _)⟩)
  dsimp only [Pt.U, Pt.locs, Pt.cells, Pt.slots] at X93 l93 y93 z93 st93 hQ93
  obtain ⟨c93, rfl, Nq93, K93, E_c93, F_c93⟩ := hQ93
  have N93 := Fr.app Nw87 Nq93
  have O93 := O86.keep K93 all0
  obtain ⟨Lw93, Nw93, Xw93⟩ := own_pack (k' := 12) (n' := 52) X93 l93 y93 z93 N93
  clear X93
  refine own_tr st93 ?_
  show own_Ends _ _ _ _ (T93.setTop (mkF mM 249 #[.val (.long va), .second, .val (.long vb), .second, .val (.long vc), .second, .val (.long vd), .second, .val (.ref b1), .val (.int (1 : Int32))] [(.ref c93)]))
  obtain ⟨cq94, kq94, q94a, q94b, q94c⟩ := isOf hZ rfl E_c93
  obtain ⟨_, _, ⟨T94, Lz94, kz94, nz94⟩, -, X94, ⟨Lc94, hQ94, l94, y94, z94⟩, st94⟩ := Xw93.virtualBack hx (y := (⟨"java/lang/Long", "longValue", "()J"⟩ : MethodName)) (z := (⟨"java/lang/Long", "longValue", "()J"⟩ : MethodName)) hown (mvT hZ (hw _ (List.mem_of_getElem? (i := 60) rfl))) (mvT hZ (hw _ (List.mem_of_getElem? (i := 61) rfl))) (notFace_of_selects (args := #[]) (mvT hZ (hw _ (List.mem_of_getElem? (i := 63) rfl)))) (mvT hZ (hw _ (List.mem_of_getElem? (i := 63) rfl))) (mvT hZ (hw _ (List.mem_of_getElem? (i := 62) rfl))) (by decide) (backOf (W := 0) (own_longValue l Z a0 hw [] c93 vc T93.heap n0 O93 F_c93) hZ (hw _ (List.mem_of_getElem? (i := 64) rfl)) (hw _ (List.mem_of_getElem? (i := 54) rfl)) (by decide) (by decide)) q94a q94c (g := (mkF mM 249 #[.val (.long va), .second, .val (.long vb), .second, .val (.long vc), .second, .val (.long vd), .second, .val (.ref b1), .val (.int (1 : Int32))] [(.ref c93)])) rfl (by rw [hml]; rfl) (Steps.refl _) (argsL := []) (rest := []) (lenOf own_pd8 rfl) rfl (by show 2 * 0 + _ ≤ _; exact Nat.le_of_eq rfl) (hb hby at_249) (fun _ _ => ⟨rfl, rfl, (by decide : 12 + 0 ≤ _), (by decide : 52 + 0 ≤ _)⟩)
  dsimp only [Pt.U, Pt.locs, Pt.cells, Pt.slots] at X94 l94 y94 z94 st94 hQ94
  obtain ⟨rfl, Nq94, e94⟩ := hQ94
  have N94 := Fr.app Nw93 Nq94
  obtain ⟨Lw94, Nw94, Xw94⟩ := own_pack (k' := 12) (n' := 52) X94 l94 y94 z94 N94
  clear X94
  refine own_tr st94 ?_
  show own_Ends _ _ _ _ (T94.setTop (mkF mM 252 #[.val (.long va), .second, .val (.long vb), .second, .val (.long vc), .second, .val (.long vd), .second, .val (.ref b1), .val (.int (1 : Int32))] [(.long vc)]))
  refine own_go (fun _ k => XS.lload Xw94.here hx rfl (hb hby at_252) rfl k) ?_
  show own_Ends _ _ _ _ (T94.setTop (mkF mM 254 #[.val (.long va), .second, .val (.long vb), .second, .val (.long vc), .second, .val (.long vd), .second, .val (.ref b1), .val (.int (1 : Int32))] [(.long vc), (.long vc)]))
  refine own_go (fun _ k => XS.lcmp Xw94.here hx rfl (hb hby at_254) rfl k) ?_
  show own_Ends _ _ _ _ (T94.setTop (mkF mM 255 #[.val (.long va), .second, .val (.long vb), .second, .val (.long vc), .second, .val (.long vd), .second, .val (.ref b1), .val (.int (1 : Int32))] [(.int (lcmpW vc vc))]))
  refine own_go (fun _ k => XS.ifNo Xw94.here hx rfl (hb hby at_255) rfl ((if0 _ _).trans (teq ((lw_eq vc vc).mpr rfl)).2) k) ?_
  show own_Ends _ _ _ _ (T94.setTop (mkF mM 258 #[.val (.long va), .second, .val (.long vb), .second, .val (.long vc), .second, .val (.long vd), .second, .val (.ref b1), .val (.int (1 : Int32))] []))
  refine own_go (fun _ k => XS.aload Xw94.here hx rfl (hb hby at_258) rfl rfl k) ?_
  show own_Ends _ _ _ _ (T94.setTop (mkF mM 260 #[.val (.long va), .second, .val (.long vb), .second, .val (.long vc), .second, .val (.long vd), .second, .val (.ref b1), .val (.int (1 : Int32))] [(.ref b1)]))
  refine own_go (fun _ k => XS.bipush Xw94.here hx rfl (hb hby at_260) k) ?_
  show own_Ends _ _ _ _ (T94.setTop (mkF mM 262 #[.val (.long va), .second, .val (.long vb), .second, .val (.long vc), .second, .val (.long vd), .second, .val (.ref b1), .val (.int (1 : Int32))] [(.int (15 : Int32)), (.ref b1)]))
  have R95 := (R88.keep K93)
  have R96 := (R89.keep K93 nin0)
  have R97 := (R90.keep K93 nin0)
  have R98 := (R91.keep K93 nin0)
  have R99 := (R92.keep K93 nin0)
  obtain ⟨cq100, kq100, q100a, q100b, q100c⟩ := isOf hZ e94 R95
  obtain ⟨_, _, ⟨T100, Lz100, kz100, nz100⟩, -, X100, ⟨Lc100, hQ100, l100, y100, z100⟩, st100⟩ := Xw94.virtualBack hx (y := (⟨"com/example/reckon/reckon/io/LineList", "get", "(I)Ljava/lang/Long;"⟩ : MethodName)) (z := (⟨"com/example/reckon/reckon/io/LineList", "get", "(I)Ljava/lang/Long;"⟩ : MethodName)) hown (mvT hZ (hw _ (List.mem_of_getElem? (i := 39) rfl))) (mvT hZ (hw _ (List.mem_of_getElem? (i := 40) rfl))) (notFace_of_selects (args := #[]) (mvT hZ (hw _ (List.mem_of_getElem? (i := 42) rfl)))) (mvT hZ (hw _ (List.mem_of_getElem? (i := 42) rfl))) (mvT hZ (hw _ (List.mem_of_getElem? (i := 41) rfl))) (by decide) (backOf (W := 0) (own_get l Z a0 hw [] b1 (15 : Int32) (17 : Int32) r72 rk72 (24 : Int32) [(.long va), (.long vb), (.long vc), (.long vc), (.long vc), (.long vc), (.long vc), (.long vc), (.long vc), (.long vc), (.long vc), (.long vc), (.long vc), (.long vc), (.long vc), (.long vc), (.long vd), (.long (0 : Int64)), (.long (0 : Int64)), (.long (0 : Int64)), (.long (0 : Int64)), (.long (0 : Int64)), (.long (0 : Int64)), (.long (0 : Int64))] vc cc cl T93.heap n0 O93 R96 R98 R99 (by decide) (by decide) (by decide) rfl S_cache hcc) hZ (hw _ (List.mem_of_getElem? (i := 43) rfl)) (hw _ (List.mem_of_getElem? (i := 2) rfl)) (by decide) (by decide)) q100a q100c (g := (mkF mM 262 #[.val (.long va), .second, .val (.long vb), .second, .val (.long vc), .second, .val (.long vd), .second, .val (.ref b1), .val (.int (1 : Int32))] [(.int (15 : Int32)), (.ref b1)])) rfl (by rw [hml]; rfl) (Steps.refl _) (argsL := [(.int (15 : Int32))]) (rest := []) (lenOf own_pd7 rfl) rfl (by show 2 * 0 + _ ≤ _; exact Nat.le_of_eq rfl) (hb hby at_262) (fun _ _ => ⟨rfl, e94, (by decide : 12 + 1 ≤ _), (by decide : 52 + 1 ≤ _)⟩)
  dsimp only [Pt.U, Pt.locs, Pt.cells, Pt.slots] at X100 l100 y100 z100 st100 hQ100
  obtain ⟨c100, rfl, Nq100, K100, E_c100, F_c100⟩ := hQ100
  have N100 := Fr.app Nw94 Nq100
  have O100 := O93.keep K100 all0
  obtain ⟨Lw100, Nw100, Xw100⟩ := own_pack (k' := 13) (n' := 53) X100 l100 y100 z100 N100
  clear X100
  refine own_tr st100 ?_
  show own_Ends _ _ _ _ (T100.setTop (mkF mM 265 #[.val (.long va), .second, .val (.long vb), .second, .val (.long vc), .second, .val (.long vd), .second, .val (.ref b1), .val (.int (1 : Int32))] [(.ref c100)]))
  obtain ⟨cq101, kq101, q101a, q101b, q101c⟩ := isOf hZ rfl E_c100
  obtain ⟨_, _, ⟨T101, Lz101, kz101, nz101⟩, -, X101, ⟨Lc101, hQ101, l101, y101, z101⟩, st101⟩ := Xw100.virtualBack hx (y := (⟨"java/lang/Long", "longValue", "()J"⟩ : MethodName)) (z := (⟨"java/lang/Long", "longValue", "()J"⟩ : MethodName)) hown (mvT hZ (hw _ (List.mem_of_getElem? (i := 60) rfl))) (mvT hZ (hw _ (List.mem_of_getElem? (i := 61) rfl))) (notFace_of_selects (args := #[]) (mvT hZ (hw _ (List.mem_of_getElem? (i := 63) rfl)))) (mvT hZ (hw _ (List.mem_of_getElem? (i := 63) rfl))) (mvT hZ (hw _ (List.mem_of_getElem? (i := 62) rfl))) (by decide) (backOf (W := 0) (own_longValue l Z a0 hw [] c100 vc T100.heap n0 O100 F_c100) hZ (hw _ (List.mem_of_getElem? (i := 64) rfl)) (hw _ (List.mem_of_getElem? (i := 54) rfl)) (by decide) (by decide)) q101a q101c (g := (mkF mM 265 #[.val (.long va), .second, .val (.long vb), .second, .val (.long vc), .second, .val (.long vd), .second, .val (.ref b1), .val (.int (1 : Int32))] [(.ref c100)])) rfl (by rw [hml]; rfl) (Steps.refl _) (argsL := []) (rest := []) (lenOf own_pd8 rfl) rfl (by show 2 * 0 + _ ≤ _; exact Nat.le_of_eq rfl) (hb hby at_265) (fun _ _ => ⟨rfl, rfl, (by decide : 13 + 0 ≤ _), (by decide : 53 + 0 ≤ _)⟩)
  dsimp only [Pt.U, Pt.locs, Pt.cells, Pt.slots] at X101 l101 y101 z101 st101 hQ101
  obtain ⟨rfl, Nq101, e101⟩ := hQ101
  have N101 := Fr.app Nw100 Nq101
  obtain ⟨Lw101, Nw101, Xw101⟩ := own_pack (k' := 13) (n' := 53) X101 l101 y101 z101 N101
  clear X101
  refine own_tr st101 ?_
  show own_Ends _ _ _ _ (T101.setTop (mkF mM 268 #[.val (.long va), .second, .val (.long vb), .second, .val (.long vc), .second, .val (.long vd), .second, .val (.ref b1), .val (.int (1 : Int32))] [(.long vc)]))
  refine own_go (fun _ k => XS.lload Xw101.here hx rfl (hb hby at_268) rfl k) ?_
  show own_Ends _ _ _ _ (T101.setTop (mkF mM 270 #[.val (.long va), .second, .val (.long vb), .second, .val (.long vc), .second, .val (.long vd), .second, .val (.ref b1), .val (.int (1 : Int32))] [(.long vc), (.long vc)]))
  refine own_go (fun _ k => XS.lcmp Xw101.here hx rfl (hb hby at_270) rfl k) ?_
  show own_Ends _ _ _ _ (T101.setTop (mkF mM 271 #[.val (.long va), .second, .val (.long vb), .second, .val (.long vc), .second, .val (.long vd), .second, .val (.ref b1), .val (.int (1 : Int32))] [(.int (lcmpW vc vc))]))
  refine own_go (fun _ k => XS.ifNo Xw101.here hx rfl (hb hby at_271) rfl ((if0 _ _).trans (teq ((lw_eq vc vc).mpr rfl)).2) k) ?_
  show own_Ends _ _ _ _ (T101.setTop (mkF mM 274 #[.val (.long va), .second, .val (.long vb), .second, .val (.long vc), .second, .val (.long vd), .second, .val (.ref b1), .val (.int (1 : Int32))] []))
  refine own_go (fun _ k => XS.aload Xw101.here hx rfl (hb hby at_274) rfl rfl k) ?_
  show own_Ends _ _ _ _ (T101.setTop (mkF mM 276 #[.val (.long va), .second, .val (.long vb), .second, .val (.long vc), .second, .val (.long vd), .second, .val (.ref b1), .val (.int (1 : Int32))] [(.ref b1)]))
  refine own_go (fun _ k => XS.bipush Xw101.here hx rfl (hb hby at_276) k) ?_
  show own_Ends _ _ _ _ (T101.setTop (mkF mM 278 #[.val (.long va), .second, .val (.long vb), .second, .val (.long vc), .second, .val (.long vd), .second, .val (.ref b1), .val (.int (1 : Int32))] [(.int (16 : Int32)), (.ref b1)]))
  have R102 := (R95.keep K100)
  have R103 := (R96.keep K100 nin0)
  have R104 := (R97.keep K100 nin0)
  have R105 := (R98.keep K100 nin0)
  have R106 := (R99.keep K100 nin0)
  obtain ⟨cq107, kq107, q107a, q107b, q107c⟩ := isOf hZ e101 R102
  obtain ⟨_, _, ⟨T107, Lz107, kz107, nz107⟩, -, X107, ⟨Lc107, hQ107, l107, y107, z107⟩, st107⟩ := Xw101.virtualBack hx (y := (⟨"com/example/reckon/reckon/io/LineList", "get", "(I)Ljava/lang/Long;"⟩ : MethodName)) (z := (⟨"com/example/reckon/reckon/io/LineList", "get", "(I)Ljava/lang/Long;"⟩ : MethodName)) hown (mvT hZ (hw _ (List.mem_of_getElem? (i := 39) rfl))) (mvT hZ (hw _ (List.mem_of_getElem? (i := 40) rfl))) (notFace_of_selects (args := #[]) (mvT hZ (hw _ (List.mem_of_getElem? (i := 42) rfl)))) (mvT hZ (hw _ (List.mem_of_getElem? (i := 42) rfl))) (mvT hZ (hw _ (List.mem_of_getElem? (i := 41) rfl))) (by decide) (backOf (W := 0) (own_get l Z a0 hw [] b1 (16 : Int32) (17 : Int32) r72 rk72 (24 : Int32) [(.long va), (.long vb), (.long vc), (.long vc), (.long vc), (.long vc), (.long vc), (.long vc), (.long vc), (.long vc), (.long vc), (.long vc), (.long vc), (.long vc), (.long vc), (.long vc), (.long vd), (.long (0 : Int64)), (.long (0 : Int64)), (.long (0 : Int64)), (.long (0 : Int64)), (.long (0 : Int64)), (.long (0 : Int64)), (.long (0 : Int64))] vd cc cl T100.heap n0 O100 R103 R105 R106 (by decide) (by decide) (by decide) rfl S_cache hcc) hZ (hw _ (List.mem_of_getElem? (i := 43) rfl)) (hw _ (List.mem_of_getElem? (i := 2) rfl)) (by decide) (by decide)) q107a q107c (g := (mkF mM 278 #[.val (.long va), .second, .val (.long vb), .second, .val (.long vc), .second, .val (.long vd), .second, .val (.ref b1), .val (.int (1 : Int32))] [(.int (16 : Int32)), (.ref b1)])) rfl (by rw [hml]; rfl) (Steps.refl _) (argsL := [(.int (16 : Int32))]) (rest := []) (lenOf own_pd7 rfl) rfl (by show 2 * 0 + _ ≤ _; exact Nat.le_of_eq rfl) (hb hby at_278) (fun _ _ => ⟨rfl, e101, (by decide : 13 + 1 ≤ _), (by decide : 53 + 1 ≤ _)⟩)
  dsimp only [Pt.U, Pt.locs, Pt.cells, Pt.slots] at X107 l107 y107 z107 st107 hQ107
  obtain ⟨c107, rfl, Nq107, K107, E_c107, F_c107⟩ := hQ107
  have N107 := Fr.app Nw101 Nq107
  have O107 := O100.keep K107 all0
  obtain ⟨Lw107, Nw107, Xw107⟩ := own_pack (k' := 14) (n' := 54) X107 l107 y107 z107 N107
  clear X107
  refine own_tr st107 ?_
  show own_Ends _ _ _ _ (T107.setTop (mkF mM 281 #[.val (.long va), .second, .val (.long vb), .second, .val (.long vc), .second, .val (.long vd), .second, .val (.ref b1), .val (.int (1 : Int32))] [(.ref c107)]))
  obtain ⟨cq108, kq108, q108a, q108b, q108c⟩ := isOf hZ rfl E_c107
  obtain ⟨_, _, ⟨T108, Lz108, kz108, nz108⟩, -, X108, ⟨Lc108, hQ108, l108, y108, z108⟩, st108⟩ := Xw107.virtualBack hx (y := (⟨"java/lang/Long", "longValue", "()J"⟩ : MethodName)) (z := (⟨"java/lang/Long", "longValue", "()J"⟩ : MethodName)) hown (mvT hZ (hw _ (List.mem_of_getElem? (i := 60) rfl))) (mvT hZ (hw _ (List.mem_of_getElem? (i := 61) rfl))) (notFace_of_selects (args := #[]) (mvT hZ (hw _ (List.mem_of_getElem? (i := 63) rfl)))) (mvT hZ (hw _ (List.mem_of_getElem? (i := 63) rfl))) (mvT hZ (hw _ (List.mem_of_getElem? (i := 62) rfl))) (by decide) (backOf (W := 0) (own_longValue l Z a0 hw [] c107 vd T107.heap n0 O107 F_c107) hZ (hw _ (List.mem_of_getElem? (i := 64) rfl)) (hw _ (List.mem_of_getElem? (i := 54) rfl)) (by decide) (by decide)) q108a q108c (g := (mkF mM 281 #[.val (.long va), .second, .val (.long vb), .second, .val (.long vc), .second, .val (.long vd), .second, .val (.ref b1), .val (.int (1 : Int32))] [(.ref c107)])) rfl (by rw [hml]; rfl) (Steps.refl _) (argsL := []) (rest := []) (lenOf own_pd8 rfl) rfl (by show 2 * 0 + _ ≤ _; exact Nat.le_of_eq rfl) (hb hby at_281) (fun _ _ => ⟨rfl, rfl, (by decide : 14 + 0 ≤ _), (by decide : 54 + 0 ≤ _)⟩)
  dsimp only [Pt.U, Pt.locs, Pt.cells, Pt.slots] at X108 l108 y108 z108 st108 hQ108
  obtain ⟨rfl, Nq108, e108⟩ := hQ108
  have N108 := Fr.app Nw107 Nq108
  obtain ⟨Lw108, Nw108, Xw108⟩ := own_pack (k' := 14) (n' := 54) X108 l108 y108 z108 N108
  clear X108
  refine own_tr st108 ?_
  show own_Ends _ _ _ _ (T108.setTop (mkF mM 284 #[.val (.long va), .second, .val (.long vb), .second, .val (.long vc), .second, .val (.long vd), .second, .val (.ref b1), .val (.int (1 : Int32))] [(.long vd)]))
  refine own_go (fun _ k => XS.lload Xw108.here hx rfl (hb hby at_284) rfl k) ?_
  show own_Ends _ _ _ _ (T108.setTop (mkF mM 286 #[.val (.long va), .second, .val (.long vb), .second, .val (.long vc), .second, .val (.long vd), .second, .val (.ref b1), .val (.int (1 : Int32))] [(.long vd), (.long vd)]))
  refine own_go (fun _ k => XS.lcmp Xw108.here hx rfl (hb hby at_286) rfl k) ?_
  show own_Ends _ _ _ _ (T108.setTop (mkF mM 287 #[.val (.long va), .second, .val (.long vb), .second, .val (.long vc), .second, .val (.long vd), .second, .val (.ref b1), .val (.int (1 : Int32))] [(.int (lcmpW vd vd))]))
  refine own_go (fun _ k => XS.ifNo Xw108.here hx rfl (hb hby at_287) rfl ((if0 _ _).trans (teq ((lw_eq vd vd).mpr rfl)).2) k) ?_
  show own_Ends _ _ _ _ (T108.setTop (mkF mM 290 #[.val (.long va), .second, .val (.long vb), .second, .val (.long vc), .second, .val (.long vd), .second, .val (.ref b1), .val (.int (1 : Int32))] []))
  refine own_go (fun _ k => XS.iconst Xw108.here hx rfl (hb hby at_290) k) ?_
  show own_Ends _ _ _ _ (T108.setTop (mkF mM 291 #[.val (.long va), .second, .val (.long vb), .second, .val (.long vc), .second, .val (.long vd), .second, .val (.ref b1), .val (.int (1 : Int32))] [(.int (1 : Int32))]))
  refine own_go (fun _ k => XS.goto Xw108.here hx rfl (pc0 := 291) (pc' := 295) rfl (hb hby at_291) (by decide) (by decide) k) ?_
  show own_Ends _ _ _ _ (T108.setTop (mkF mM 295 #[.val (.long va), .second, .val (.long vb), .second, .val (.long vc), .second, .val (.long vd), .second, .val (.ref b1), .val (.int (1 : Int32))] [(.int (1 : Int32))]))
  refine own_go (fun _ k => XS.istore Xw108.here hx rfl (hb hby at_295) rfl (l' := #[.val (.long va), .second, .val (.long vb), .second, .val (.long vc), .second, .val (.long vd), .second, .val (.ref b1), .val (.int (1 : Int32))]) rfl k) ?_
  show own_Ends _ _ _ _ (T108.setTop (mkF mM 297 #[.val (.long va), .second, .val (.long vb), .second, .val (.long vc), .second, .val (.long vd), .second, .val (.ref b1), .val (.int (1 : Int32))] []))
  refine own_go (fun _ k => XS.iload Xw108.here hx rfl (hb hby at_297) rfl k) ?_
  show own_Ends _ _ _ _ (T108.setTop (mkF mM 299 #[.val (.long va), .second, .val (.long vb), .second, .val (.long vc), .second, .val (.long vd), .second, .val (.ref b1), .val (.int (1 : Int32))] [(.int (1 : Int32))]))
  exact own_retZ Xw108 hx (BodyLoose.notSynchronized Bd) Bd.returns rfl (hb hby at_299) (by decide) (by decide) (by rw [e108]; exact ⟨rfl, Nw108⟩)
theorem own_cache {Z : State} {av : Array Value} {t : Term} {a : Addr} {cl : Cell} {ty : FieldType} (ev : ∀ idx, t.eval av Z none idx Z = some (.ref a)) (A : Arr Z Z.heap a cl ty) (hsz : cl.slots.size = (256 : Int32).toNatClampNeg)
    (h : (Jvm.Cond.all t (.and (.exactly (.elem t (.index 0)) "java/lang/Long") (.eq (.field (.elem t (.index 0)) "java/lang/Long" "value" "J") (.op1 .i2l (.sub (.index 0) (.int 128)))))).value av Z none Z [] = some true) (p : Int64) (h1 : ¬ p < (-128 : Int64)) (h2 : ¬ (127 : Int64) < p) :
    ∃ x : Addr, cl.slots[((p.toInt32) + (128 : Int32)).toNatClampNeg]? = some (.ref x) ∧ Exa Z Z.heap x "java/lang/Long" ∧ Fld Z Z.heap x "java/lang/Long" "value" "J" (.long p) := by
  obtain ⟨k1, k2, k3⟩ := own_place p h1 h2
  have hin := inb_of hsz ⟨k1, k2⟩
  have ha : Z.arrayAt? a = some cl := A.fin (State.Warmed39.refl Z).alike
  obtain ⟨g1, g2⟩ := and_e (Cond.all_elim (ev []) ha h _ (Nat.lt_of_not_le fun q => hin (Or.inr q)))
  obtain ⟨x, ex⟩ := exa_v g1
  have hj := idx_at (args := av) (s := Z) (first := Z) (o := none) k1
  obtain ⟨-, hat⟩ := elem_in ex (ev _) hj A.1
  obtain ⟨u, w, eu, ew, q1, q2⟩ := cmp_v (Or.inl g2)
  have es : (Term.op1 .i2l (.sub (.index 0) (.int 128))).eval av Z none [((p.toInt32) + (128 : Int32)).toNatClampNeg] Z = some (.long ((((p.toInt32) + (128 : Int32)) - (128 : Int32)).toInt64)) := by simp [Term.eval, (back32 k1).1, Unary.apply]
  rw [k3] at es
  cases es.symm.trans ew
  obtain ⟨z, rfl⟩ := q2
  obtain rfl : z = p := gotT (eq_L eu es) g2
  exact ⟨x, hat, exa_at ex g1, Fld.start ((fld_at ex).symm.trans eu)⟩
theorem own_len {Z : State} {av : Array Value} {t : Term} {a : Addr} {cl : Cell} {ty : FieldType} {k : Int32} (ev : t.eval av Z none [] Z = some (.ref a)) (A : Arr Z Z.heap a cl ty) (h : (Jvm.Cond.eq (.length t) (.int k)).value av Z none Z [] = some true) : cl.slots.size < 2 ^ 31 ∧ cl.slots.size.toInt32 = k := by
  have e := own_staI h
  have ha : Z.arrayAt? a = some cl := A.fin (State.Warmed39.refl Z).alike
  simp [Term.eval, ev, ha] at e
  exact e
theorem own_elem {Z : State} {av : Array Value} {t u : Term} {a b : Addr} {cl : Cell} {ty : FieldType} {j : Int32} (ev : t.eval av Z none [] Z = some (.ref a)) (A : Arr Z Z.heap a cl ty) (eu : u.eval av Z none [] Z = some (.ref b)) (h : (Jvm.Cond.eq (.elem t (.int j)) u).value av Z none Z [] = some true) : cl.slots[j.toNatClampNeg]? = some (.ref b) := by
  obtain ⟨x, y, ex, ey, k1, k2⟩ := cmp_v (Or.inl h)
  cases eu.symm.trans ey
  obtain ⟨hx1, hx2⟩ := elem_in ex ev (Term.int_eval j) A.1
  have q := gotT (eq_R ex eu k2.2 rfl) h
  rw [← q]; exact hx2
set_option maxRecDepth 65536 in
set_option maxHeartbeats 40000000 in
theorem comes_1 {Post : Tables → Env → Array Value → State → Outcome → State → Prop} (hpost : ∀ tb e args s v u, (limb_1_1.after args s (.returned v) u = true ∧ limb_1_2.after args s (.returned v) u = true ∧ True) → FrameEnd s (.returned v) u (Jvm.fieldLocs frame_1_writes args s ++ Jvm.arrayLocs frame_1_arrays args s ++ Jvm.staticLocs frame_1_statics s) 40 192 → Post tb e args s (.returned v) u) :
    ArmFor flags0 classFile x code maxLocals ret World_1 tables_1 room_1 Calls_1 rest_1 Pre_1 Post := by
  intro l hfl _ _ p e ha hc hk s m args below hf hA hF happ hP
  obtain ⟨hcalls, hrest, hpre⟩ := hP
  obtain ⟨-, -, -, hnamed, -, -, -, hat⟩ := (Spec.applies_iff hf).mp happ
  obtain ⟨hg, hn⟩ := and_e (Cond.before_iff.mp (show (Jvm.Cond.and given_1 narrow_1).before args s = true from hpre))
  obtain ⟨hg0, hr0⟩ := and_e hg
  obtain ⟨hg1, hr1⟩ := and_e hr0
  obtain ⟨hg2, hr2⟩ := and_e hr1
  obtain ⟨hg3, hg4⟩ := and_e hr2
  obtain ⟨w0, w1, w2, w3, rfl⟩ : ∃ w0 w1 w2 w3 : Value, args = #[w0, w1, w2, w3] := by
    have hs : args.size = 4 := by simpa [Cond.value, given_1] using hg0
    obtain ⟨L⟩ := args
    match L, hs with
    | [w0, w1, w2, w3], _ => exact ⟨w0, w1, w2, w3, rfl⟩
  have hw := fun d (hd : d ∈ tables_1) => atoms_spec (ws := Jvm.Cond.code x code maxLocals ret :: tables_1) hat d (List.mem_cons_of_mem _ hd)
  have hfit : Fit s := fun {y c} hc i hi => by
    obtain ⟨ha, rfl⟩ := Array.getElem?_eq_some_iff.mp hc
    have q := List.all_eq_true.mp ((Array.all_eq_true_iff_forall_mem.mp hF) _ (Array.getElem_mem ha)) i (List.mem_range.mpr hi)
    simpa [Array.getElem?_eq_getElem hi] using q
  obtain ⟨hsets, hown0⟩ := atoms_of _ (rest_1_c_eq ▸ (show rest_1_c.before _ s = true from hrest))
  obtain ⟨i0, ei0⟩ := isL_v hg1
  obtain rfl : w0 = (.long i0) := Option.some.inj ei0
  obtain ⟨i1, ei1⟩ := isL_v hg2
  obtain rfl : w1 = (.long i1) := Option.some.inj ei1
  obtain ⟨i2, ei2⟩ := isL_v hg3
  obtain rfl : w2 = (.long i2) := Option.some.inj ei2
  obtain ⟨i3, ei3⟩ := isL_v hg4
  obtain rfl : w3 = (.long i3) := Option.some.inj ei3
  have hj2 := Cond.before_iff.mp (hsets _ (List.mem_of_getElem? (i := 2) rfl))
  have hj3 := Cond.before_iff.mp (hsets _ (List.mem_of_getElem? (i := 3) rfl))
  obtain ⟨a_cache, ev_cache⟩ := exa_v hj3
  have S_cache : Sta s s.heap "java/lang/Long$LongCache" "cache" "[Ljava/lang/Long;" (.ref a_cache) := Sta.start ev_cache (Or.inl (hsets _ (List.mem_of_getElem? (i := 1) rfl)))
  have E_cache : Exa s s.heap a_cache "[Ljava/lang/Long;" := Exa.start ev_cache hj3
  have hj4 := Cond.before_iff.mp (hsets _ (List.mem_of_getElem? (i := 4) rfl))
  have hj5 := Cond.before_iff.mp (hsets _ (List.mem_of_getElem? (i := 5) rfl))
  obtain ⟨cl, Aa⟩ := Arr.start ev_cache hj2
  obtain ⟨hsz, hlen⟩ := own_len ev_cache Aa hj4
  have hsz2 : cl.slots.size = (256 : Int32).toNatClampNeg := by rw [← hlen]; simp only [Int32.toNatClampNeg, len_toInt hsz]; rfl
  have hcc := And.intro Aa (And.intro hsz2 (own_cache (fun _ => ev_cache) Aa hsz2 hj5))
  obtain ⟨n, o, h1, h2, h3, _, L, rfl, ⟨rfl, N⟩, hq⟩ := own_law l s _ hw tables_1 i0 i1 i2 i3 a_cache cl s.heap s.heap.size (Old.start s) S_cache hcc p e ha hc hk s m _ below hf ((Spec.applies_iff_loose hf).mp happ).1 ⟨rfl, State.Warmed39.refl s, rfl⟩ trivial
  refine ⟨n, _, h1, h2, h3, hpost _ _ _ _ _ _ ⟨Cond.after_iff.mpr rfl, Cond.after_iff.mpr (eq_i res_at (Term.int_eval (1)) rfl), trivial⟩ ⟨hq.1, hq.2.1, (hq.2.2.sift fun y hy => Or.inr (N y hy)).mono (by decide) (by decide)⟩⟩
theorem main_1_1 : Claimed_1_1 := comes_1 fun _ _ _ _ _ _ h hF => ⟨h.1, hF⟩
theorem main_1_2 : Claimed_1_2 := comes_1 fun _ _ _ _ _ _ h hF => ⟨h.2.1, hF⟩
end Jvm.Pilot.@@N@@
namespace Jvm.Pilot.@@N@@
open Jvm Jvm.ClassFile Sem Op Lib Jvm.Free Jvm.Stand Jvm.Pilot.@@N@@.Jvm.D
/-! MADE BY PROGRAM (witnessworld.py) out of the Statement's table words and the real class files: 30 classes; the members and pool entries that the words name. The judged class is class 1, her method 2. -/
namespace start1
open Jvm.ClassFile
def u (s : String) : CpInfo := .utf8 (stringToUtf16 s)
/-- a pool by its gaps: so many unusable entries, then the entry; so many at the end -/
def gap : Nat → List CpInfo → List CpInfo
  | 0, r => r
  | n + 1, r => .unusable :: gap n r
def poolList (es : List (Nat × CpInfo)) (last : Nat) : List CpInfo := es.foldr (fun e r => gap e.1 (e.2 :: r)) (gap last [])
def pool (es : List (Nat × CpInfo)) (last : Nat) : Array CpInfo := ⟨poolList es last⟩
def fileOf (pool : Array CpInfo) (this : Nat) (attrs : Array Attribute := #[]) (ms : Array MethodInfo := #[]) (fl : Nat := 33) (sup : Nat := 0) (ifs : Array Nat := #[]) (fds : Array FieldInfo := #[]) : ClassFile where
  minorVersion := 0
  majorVersion := 65
  constantPool := pool
  accessFlags := fl
  thisClass := this
  superClass := sup
  interfaces := ifs
  fields := fds
  methods := ms
  attributes := attrs
def plain (name : String) (sup : Option ClassId) : Class where
  name := name
  kind := .ordinary
  loader := none
  accessFlags := 33
  super := sup
  interfaces := #[]
  cf := none
  fields := #[]
  methods := #[]
  instanceTypes := #[]
  staticTypes := #[]
  resolved := #[]
  callSites := []
  init := .initialized
  statics := none
  mirror := none

def pool0 : Array CpInfo := pool [(5, u "<init>"), (0, u "()V"), (1, .class_ 10), (1, u "java/lang/Object")] 113

def k0c0 : Code := { maxStack := 0, maxLocals := 1, code := object_method_1_code, exceptionTable := #[], attributes := #[] }
def k0m0 : Method := { name := "<init>", desc := "()V", sig := { parameters := [], returnType := none }, accessFlags := 1, code := some k0c0 }
/-- java/lang/Object -/
def k0 : Class := { plain "java/lang/Object" none with
  accessFlags := 33
  interfaces := #[]
  cf := some (fileOf pool0 8 #[] #[{ accessFlags := 1, nameIndex := 5, descriptorIndex := 6, attributes := #[] }] 33 0 #[] #[])
  fields := #[]
  methods := #[k0m0]
  instanceTypes := #[]
  staticTypes := #[]
  resolved := Array.replicate 124 none
  statics := none }

def pool1 : Array CpInfo := pool [(2, .class_ 4), (0, .nameAndType 5 6), (0, u "java/lang/Object"), (0, u "<init>"), (0, u "()V"), (0, .methodref 8 9), (0, .class_ 10), (0, .nameAndType 11 12), (0, u "com/example/reckon/reckon/io/LineList"), (0, u "add"), (0, u "(J)V"), (0, .methodref 8 3), (0, .methodref 8 15), (0, .nameAndType 16 17), (0, u "size"), (0, u "()I"), (0, .methodref 8 19), (0, .nameAndType 20 21), (0, u "get"), (0, u "(I)Ljava/lang/Long;"), (0, .methodref 23 24), (0, .class_ 25), (0, .nameAndType 26 27), (0, u "java/lang/Long"), (0, u "longValue"), (0, u "()J"), (0, .methodref 29 30), (0, .class_ 31), (0, .nameAndType 32 33), (0, u "com/example/reckon/reckon/io/LineListAddPinLaw"), (0, u "addFourteen"), (0, u "(Lcom/example/reckon/reckon/io/LineList;J)V"), (2, u "law"), (0, u "(JJJJ)Z")] 3

def k1m0 : Method := { name := "<init>", desc := "()V", sig := { parameters := [], returnType := none }, accessFlags := 1, code := none }
def k1c1 : Code := { maxStack := 3, maxLocals := 3, code := method_2_code, exceptionTable := #[], attributes := #[] }
def k1m1 : Method := { name := "addFourteen", desc := "(Lcom/example/reckon/reckon/io/LineList;J)V", sig := { parameters := [(.object "com/example/reckon/reckon/io/LineList"), .long], returnType := none }, accessFlags := 10, code := some k1c1 }
def k1c2 : Code := { maxStack := 4, maxLocals := 10, code := code, exceptionTable := #[], attributes := #[] }
def k1m2 : Method := { name := "law", desc := "(JJJJ)Z", sig := { parameters := [.long, .long, .long, .long], returnType := some .boolean }, accessFlags := 9, code := some k1c2 }
/-- com/example/reckon/reckon/io/LineListAddPinLaw -/
def k1 : Class := { plain "com/example/reckon/reckon/io/LineListAddPinLaw" (some 0) with
  accessFlags := 49
  interfaces := #[]
  cf := some (fileOf pool1 29 #[] #[{ accessFlags := 1, nameIndex := 5, descriptorIndex := 6, attributes := #[] }, { accessFlags := 10, nameIndex := 32, descriptorIndex := 33, attributes := #[] }, { accessFlags := 9, nameIndex := 36, descriptorIndex := 37, attributes := #[] }] 49 2 #[] #[])
  fields := #[]
  methods := #[k1m0, k1m1, k1m2]
  instanceTypes := #[]
  staticTypes := #[]
  resolved := Array.replicate 41 none
  statics := none }

def pool2 : Array CpInfo := pool [(8, .class_ 10), (1, u "java/lang/Iterable"), (24, .class_ 36), (0, u "java/lang/Object")] 25

/-- java/lang/Iterable -/
def k2 : Class := { plain "java/lang/Iterable" (some 0) with
  accessFlags := 1537
  interfaces := #[]
  cf := some (fileOf pool2 8 #[] #[] 1537 35 #[] #[])
  fields := #[]
  methods := #[]
  instanceTypes := #[]
  staticTypes := #[]
  resolved := Array.replicate 62 none
  statics := none }

def pool3 : Array CpInfo := pool [(10, .class_ 12), (1, u "java/util/Collection"), (47, .class_ 61), (0, u "java/lang/Object"), (0, .class_ 63), (0, u "java/lang/Iterable")] 51

/-- java/util/Collection -/
def k3 : Class := { plain "java/util/Collection" (some 0) with
  accessFlags := 1537
  interfaces := #[2]
  cf := some (fileOf pool3 10 #[] #[] 1537 60 #[62] #[])
  fields := #[]
  methods := #[]
  instanceTypes := #[]
  staticTypes := #[]
  resolved := Array.replicate 115 none
  statics := none }

def pool4 : Array CpInfo := pool [(1, .methodref 2 3), (0, .class_ 4), (0, .nameAndType 5 6), (0, u "java/lang/Object"), (0, u "<init>"), (0, u "()V"), (1, .class_ 10), (1, u "java/util/AbstractCollection"), (66, .class_ 78), (0, u "java/util/Collection")] 81

def k4c0 : Code := { maxStack := 1, maxLocals := 1, code := jdk_22_method_1_code, exceptionTable := #[], attributes := #[] }
def k4m0 : Method := { name := "<init>", desc := "()V", sig := { parameters := [], returnType := none }, accessFlags := 4, code := some k4c0 }
/-- java/util/AbstractCollection -/
def k4 : Class := { plain "java/util/AbstractCollection" (some 0) with
  accessFlags := 1057
  interfaces := #[3]
  cf := some (fileOf pool4 8 #[] #[{ accessFlags := 4, nameIndex := 5, descriptorIndex := 6, attributes := #[] }] 1057 2 #[77] #[])
  fields := #[]
  methods := #[k4m0]
  instanceTypes := #[]
  staticTypes := #[]
  resolved := Array.replicate 160 none
  statics := none }

def pool5 : Array CpInfo := pool [(8, .class_ 10), (1, u "java/util/SequencedCollection"), (15, .class_ 27), (0, u "java/lang/Object"), (0, .class_ 29), (0, u "java/util/Collection")] 27

/-- java/util/SequencedCollection -/
def k5 : Class := { plain "java/util/SequencedCollection" (some 0) with
  accessFlags := 1537
  interfaces := #[3]
  cf := some (fileOf pool5 8 #[] #[] 1537 26 #[28] #[])
  fields := #[]
  methods := #[]
  instanceTypes := #[]
  staticTypes := #[]
  resolved := Array.replicate 57 none
  statics := none }

def pool6 : Array CpInfo := pool [(8, .class_ 10), (1, u "java/util/List"), (92, .class_ 104), (0, u "java/lang/Object"), (15, .class_ 121), (0, u "java/util/SequencedCollection")] 129

/-- java/util/List -/
def k6 : Class := { plain "java/util/List" (some 0) with
  accessFlags := 1537
  interfaces := #[5]
  cf := some (fileOf pool6 8 #[] #[] 1537 103 #[120] #[])
  fields := #[]
  methods := #[]
  instanceTypes := #[]
  staticTypes := #[]
  resolved := Array.replicate 251 none
  statics := none }

def pool7 : Array CpInfo := pool [(1, .methodref 2 3), (0, .class_ 4), (0, .nameAndType 5 6), (0, u "java/util/AbstractCollection"), (0, u "<init>"), (0, u "()V"), (0, .fieldref 8 9), (0, .class_ 10), (0, .nameAndType 11 12), (0, u "java/util/AbstractList"), (0, u "modCount"), (0, u "I"), (64, .class_ 78), (0, u "java/util/AbstractList$Itr"), (3, .class_ 83), (0, u "java/util/AbstractList$ListItr"), (9, .class_ 94), (0, u "java/util/AbstractList$RandomAccessSubList"), (3, .class_ 99), (0, u "java/util/AbstractList$SubList"), (33, .class_ 134), (0, u "java/util/List"), (73, .class_ 209), (0, u "java/util/AbstractList$SubList$1"), (0, .class_ 211), (0, u "java/util/AbstractList$RandomAccessSpliterator")] 6

def k7c0 : Code := { maxStack := 2, maxLocals := 1, code := jdk_39_method_1_code, exceptionTable := #[], attributes := #[] }
def k7m0 : Method := { name := "<init>", desc := "()V", sig := { parameters := [], returnType := none }, accessFlags := 4, code := some k7c0 }
/-- java/util/AbstractList -/
def k7 : Class := { plain "java/util/AbstractList" (some 4) with
  accessFlags := 1057
  interfaces := #[6]
  cf := some (fileOf pool7 8 #[.nestMembers #[93, 98, 208, 210, 82, 77]] #[{ accessFlags := 4, nameIndex := 5, descriptorIndex := 6, attributes := #[] }] 1057 2 #[133] #[{ accessFlags := 132, nameIndex := 11, descriptorIndex := 12, attributes := #[] }])
  fields := #[{ name := "modCount", type := .int, accessFlags := 132, slot := 0, constantValue := 0 }]
  methods := #[k7m0]
  instanceTypes := #[.int]
  staticTypes := #[]
  resolved := Array.replicate 218 none
  statics := none }

def pool8 : Array CpInfo := pool [(1, .class_ 2), (0, u "java/util/RandomAccess"), (0, .class_ 4), (0, u "java/lang/Object")] 2

/-- java/util/RandomAccess -/
def k8 : Class := { plain "java/util/RandomAccess" (some 0) with
  accessFlags := 1537
  interfaces := #[]
  cf := some (fileOf pool8 1 #[] #[] 1537 3 #[] #[])
  fields := #[]
  methods := #[]
  instanceTypes := #[]
  staticTypes := #[]
  resolved := Array.replicate 7 none
  statics := none }

def pool9 : Array CpInfo := pool [(1, .methodref 2 3), (0, .class_ 4), (0, .nameAndType 5 6), (0, u "java/util/AbstractList"), (0, u "<init>"), (0, u "()V"), (0, .fieldref 8 9), (0, .class_ 10), (0, .nameAndType 11 12), (0, u "com/example/reckon/reckon/io/LineList"), (0, u "lines"), (0, u "[J"), (0, .fieldref 8 14), (0, .nameAndType 15 16), (0, u "size"), (0, u "I"), (0, .methodref 18 19), (0, .class_ 20), (0, .nameAndType 21 22), (0, u "java/util/Arrays"), (0, u "copyOf"), (0, u "([JI)[J"), (0, .fieldref 8 24), (0, .nameAndType 25 16), (0, u "modCount"), (0, .methodref 27 28), (0, .class_ 29), (0, .nameAndType 30 31), (0, u "java/util/Objects"), (0, u "checkIndex"), (0, u "(II)I"), (0, .methodref 33 34), (0, .class_ 35), (0, .nameAndType 36 37), (0, u "java/lang/Long"), (0, u "valueOf"), (0, u "(J)Ljava/lang/Long;"), (2, u "get"), (0, u "(I)Ljava/lang/Long;"), (0, .class_ 43), (0, u "java/util/RandomAccess"), (2, u "add"), (0, u "(J)V"), (1, u "()I")] 6

def k9c0 : Code := { maxStack := 2, maxLocals := 1, code := prog_67_method_1_code, exceptionTable := #[], attributes := #[] }
def k9m0 : Method := { name := "<init>", desc := "()V", sig := { parameters := [], returnType := none }, accessFlags := 0, code := some k9c0 }
def k9c1 : Code := { maxStack := 5, maxLocals := 3, code := prog_67_method_2_code, exceptionTable := #[], attributes := #[] }
def k9m1 : Method := { name := "add", desc := "(J)V", sig := { parameters := [.long], returnType := none }, accessFlags := 0, code := some k9c1 }
def k9c2 : Code := { maxStack := 3, maxLocals := 2, code := prog_67_method_3_code, exceptionTable := #[], attributes := #[] }
def k9m2 : Method := { name := "get", desc := "(I)Ljava/lang/Long;", sig := { parameters := [.int], returnType := some (.object "java/lang/Long") }, accessFlags := 1, code := some k9c2 }
def k9c3 : Code := { maxStack := 1, maxLocals := 1, code := prog_67_method_4_code, exceptionTable := #[], attributes := #[] }
def k9m3 : Method := { name := "size", desc := "()I", sig := { parameters := [], returnType := some .int }, accessFlags := 1, code := some k9c3 }
/-- com/example/reckon/reckon/io/LineList -/
def k9 : Class := { plain "com/example/reckon/reckon/io/LineList" (some 7) with
  accessFlags := 32
  interfaces := #[8]
  cf := some (fileOf pool9 8 #[] #[{ accessFlags := 0, nameIndex := 5, descriptorIndex := 6, attributes := #[] }, { accessFlags := 0, nameIndex := 46, descriptorIndex := 47, attributes := #[] }, { accessFlags := 1, nameIndex := 40, descriptorIndex := 41, attributes := #[] }, { accessFlags := 1, nameIndex := 15, descriptorIndex := 49, attributes := #[] }] 32 2 #[42] #[{ accessFlags := 2, nameIndex := 11, descriptorIndex := 12, attributes := #[] }, { accessFlags := 2, nameIndex := 15, descriptorIndex := 16, attributes := #[] }])
  fields := #[{ name := "lines", type := (.array .long), accessFlags := 2, slot := 1, constantValue := 0 }, { name := "size", type := .int, accessFlags := 2, slot := 2, constantValue := 0 }]
  methods := #[k9m0, k9m1, k9m2, k9m3]
  instanceTypes := #[.int, (.array .long), .int]
  staticTypes := #[]
  resolved := Array.replicate 56 none
  statics := none }

def pool10 : Array CpInfo := pool [(2, .class_ 4), (1, u "java/lang/Object"), (0, u "<init>"), (0, u "()V"), (35, .class_ 44), (1, u "java/util/Objects"), (60, .methodref 106 107), (0, .class_ 108), (0, .nameAndType 109 110), (0, u "jdk/internal/util/Preconditions"), (0, u "checkIndex"), (0, u "(IILjava/util/function/BiFunction;)I"), (60, u "(II)I")] 12

def k10m0 : Method := { name := "<init>", desc := "()V", sig := { parameters := [], returnType := none }, accessFlags := 2, code := none }
def k10c1 : Code := { maxStack := 3, maxLocals := 2, code := jdk_31_method_17_code, exceptionTable := #[], attributes := #[] }
def k10m1 : Method := { name := "checkIndex", desc := "(II)I", sig := { parameters := [.int, .int], returnType := some .int }, accessFlags := 9, code := some k10c1 }
/-- java/util/Objects -/
def k10 : Class := { plain "java/util/Objects" (some 0) with
  accessFlags := 49
  interfaces := #[]
  cf := some (fileOf pool10 42 #[] #[{ accessFlags := 2, nameIndex := 5, descriptorIndex := 6, attributes := #[] }, { accessFlags := 9, nameIndex := 109, descriptorIndex := 171, attributes := #[] }] 49 2 #[] #[])
  fields := #[]
  methods := #[k10m0, k10m1]
  instanceTypes := #[]
  staticTypes := #[]
  resolved := Array.replicate 184 none
  statics := none }

def pool11 : Array CpInfo := pool [(2, .class_ 4), (1, u "java/lang/Object"), (0, u "<init>"), (0, u "()V"), (17, .class_ 26), (1, u "jdk/internal/util/Preconditions"), (6, u "checkIndex"), (21, .class_ 56), (0, u "jdk/internal/util/Preconditions$4"), (57, .class_ 115), (0, u "jdk/internal/util/Preconditions$1"), (7, u "SIOOBE_FORMATTER"), (0, u "Ljava/util/function/BiFunction;"), (0, .class_ 126), (0, u "jdk/internal/util/Preconditions$2"), (3, u "AIOOBE_FORMATTER"), (0, .class_ 132), (0, u "jdk/internal/util/Preconditions$3"), (3, u "IOOBE_FORMATTER"), (41, u "(IILjava/util/function/BiFunction;)I")] 15

def k11m0 : Method := { name := "<init>", desc := "()V", sig := { parameters := [], returnType := none }, accessFlags := 1, code := none }
def k11c1 : Code := { maxStack := 3, maxLocals := 3, code := jdk_41_method_11_code, exceptionTable := #[], attributes := #[] }
def k11m1 : Method := { name := "checkIndex", desc := "(IILjava/util/function/BiFunction;)I", sig := { parameters := [.int, .int, (.object "java/util/function/BiFunction")], returnType := some .int }, accessFlags := 9, code := some k11c1 }
/-- jdk/internal/util/Preconditions -/
def k11 : Class := { plain "jdk/internal/util/Preconditions" (some 0) with
  accessFlags := 33
  interfaces := #[]
  cf := some (fileOf pool11 24 #[.nestMembers #[55, 131, 125, 114]] #[{ accessFlags := 1, nameIndex := 5, descriptorIndex := 6, attributes := #[] }, { accessFlags := 9, nameIndex := 33, descriptorIndex := 178, attributes := #[] }] 33 2 #[] #[{ accessFlags := 25, nameIndex := 123, descriptorIndex := 124, attributes := #[] }, { accessFlags := 25, nameIndex := 130, descriptorIndex := 124, attributes := #[] }, { accessFlags := 25, nameIndex := 136, descriptorIndex := 124, attributes := #[] }])
  fields := #[{ name := "SIOOBE_FORMATTER", type := (.object "java/util/function/BiFunction"), accessFlags := 25, slot := 0, constantValue := 0 }, { name := "AIOOBE_FORMATTER", type := (.object "java/util/function/BiFunction"), accessFlags := 25, slot := 1, constantValue := 0 }, { name := "IOOBE_FORMATTER", type := (.object "java/util/function/BiFunction"), accessFlags := 25, slot := 2, constantValue := 0 }]
  methods := #[k11m0, k11m1]
  instanceTypes := #[]
  staticTypes := #[(.object "java/util/function/BiFunction"), (.object "java/util/function/BiFunction"), (.object "java/util/function/BiFunction")]
  resolved := Array.replicate 194 none
  statics := none }

def pool12 : Array CpInfo := pool [(1, .class_ 2), (0, u "java/io/Serializable"), (0, .class_ 4), (0, u "java/lang/Object")] 2

/-- java/io/Serializable -/
def k12 : Class := { plain "java/io/Serializable" (some 0) with
  accessFlags := 1537
  interfaces := #[]
  cf := some (fileOf pool12 1 #[] #[] 1537 3 #[] #[])
  fields := #[]
  methods := #[]
  instanceTypes := #[]
  staticTypes := #[]
  resolved := Array.replicate 7 none
  statics := none }

def pool13 : Array CpInfo := pool [(1, .methodref 2 3), (0, .class_ 4), (0, .nameAndType 5 6), (0, u "java/lang/Object"), (0, u "<init>"), (0, u "()V"), (1, .class_ 10), (1, u "java/lang/Number"), (2, .class_ 14), (0, u "java/io/Serializable"), (0, u "serialVersionUID"), (0, u "J")] 20

def k13c0 : Code := { maxStack := 1, maxLocals := 1, code := jdk_18_method_1_code, exceptionTable := #[], attributes := #[] }
def k13m0 : Method := { name := "<init>", desc := "()V", sig := { parameters := [], returnType := none }, accessFlags := 1, code := some k13c0 }
/-- java/lang/Number -/
def k13 : Class := { plain "java/lang/Number" (some 0) with
  accessFlags := 1057
  interfaces := #[12]
  cf := some (fileOf pool13 8 #[] #[{ accessFlags := 1, nameIndex := 5, descriptorIndex := 6, attributes := #[] }] 1057 2 #[13] #[{ accessFlags := 26, nameIndex := 15, descriptorIndex := 16, attributes := #[] }])
  fields := #[{ name := "serialVersionUID", type := .long, accessFlags := 26, slot := 0, constantValue := 0 }]
  methods := #[k13m0]
  instanceTypes := #[]
  staticTypes := #[.long]
  resolved := Array.replicate 37 none
  statics := none }

def pool14 : Array CpInfo := pool [(1, .class_ 2), (0, u "java/lang/Comparable"), (0, .class_ 4), (0, u "java/lang/Object")] 7

/-- java/lang/Comparable -/
def k14 : Class := { plain "java/lang/Comparable" (some 0) with
  accessFlags := 1537
  interfaces := #[]
  cf := some (fileOf pool14 1 #[] #[] 1537 3 #[] #[])
  fields := #[]
  methods := #[]
  instanceTypes := #[]
  staticTypes := #[]
  resolved := Array.replicate 12 none
  statics := none }

def pool15 : Array CpInfo := pool [(1, .class_ 2), (0, u "java/lang/constant/Constable"), (0, .class_ 4), (0, u "java/lang/Object")] 6

/-- java/lang/constant/Constable -/
def k15 : Class := { plain "java/lang/constant/Constable" (some 0) with
  accessFlags := 1537
  interfaces := #[]
  cf := some (fileOf pool15 1 #[] #[] 1537 3 #[] #[])
  fields := #[]
  methods := #[]
  instanceTypes := #[]
  staticTypes := #[]
  resolved := Array.replicate 11 none
  statics := none }

def pool16 : Array CpInfo := pool [(1, .class_ 2), (0, u "java/lang/constant/ConstantDesc"), (0, .class_ 4), (0, u "java/lang/Object")] 32

/-- java/lang/constant/ConstantDesc -/
def k16 : Class := { plain "java/lang/constant/ConstantDesc" (some 0) with
  accessFlags := 1537
  interfaces := #[]
  cf := some (fileOf pool16 1 #[] #[] 1537 3 #[] #[])
  fields := #[]
  methods := #[]
  instanceTypes := #[]
  staticTypes := #[]
  resolved := Array.replicate 37 none
  statics := none }

def pool17 : Array CpInfo := pool [(1, .class_ 2), (0, u "java/lang/Long"), (55, .nameAndType 59 60), (0, u "<init>"), (0, u "()V"), (24, u "valueOf"), (143, u "(J)Ljava/lang/Long;"), (0, .long 18446744073709551488), (1, .long 127), (1, .fieldref 235 236), (0, .class_ 237), (0, .nameAndType 238 239), (0, u "java/lang/Long$LongCache"), (0, u "cache"), (0, u "[Ljava/lang/Long;"), (0, .methodref 1 241), (0, .nameAndType 59 242), (0, u "(J)V"), (27, .methodref 271 58), (0, .class_ 272), (0, u "java/lang/Number"), (0, .fieldref 1 274), (0, .nameAndType 275 276), (0, u "value"), (0, u "J"), (5, u "longValue"), (0, u "()J"), (77, u "TYPE"), (0, u "Ljava/lang/Class;"), (0, .class_ 364), (0, u "java/lang/Comparable"), (0, .class_ 366), (0, u "java/lang/constant/Constable"), (0, .class_ 368), (0, u "java/lang/constant/ConstantDesc"), (0, u "MIN_VALUE"), (1, u "MAX_VALUE"), (4, u "SIZE"), (0, u "I"), (1, u "BYTES"), (1, u "serialVersionUID")] 142

def k17c0 : Code := { maxStack := 4, maxLocals := 3, code := jdk_35_method_24_code, exceptionTable := #[], attributes := #[] }
def k17m0 : Method := { name := "valueOf", desc := "(J)Ljava/lang/Long;", sig := { parameters := [.long], returnType := some (.object "java/lang/Long") }, accessFlags := 9, code := some k17c0 }
def k17c1 : Code := { maxStack := 3, maxLocals := 3, code := jdk_35_method_26_code, exceptionTable := #[], attributes := #[] }
def k17m1 : Method := { name := "<init>", desc := "(J)V", sig := { parameters := [.long], returnType := none }, accessFlags := 1, code := some k17c1 }
def k17c2 : Code := { maxStack := 2, maxLocals := 1, code := jdk_35_method_31_code, exceptionTable := #[], attributes := #[] }
def k17m2 : Method := { name := "longValue", desc := "()J", sig := { parameters := [], returnType := some .long }, accessFlags := 1, code := some k17c2 }
/-- java/lang/Long -/
def k17 : Class := { plain "java/lang/Long" (some 13) with
  accessFlags := 49
  interfaces := #[14, 15, 16]
  cf := some (fileOf pool17 1 #[.nestMembers #[235]] #[{ accessFlags := 9, nameIndex := 85, descriptorIndex := 229, attributes := #[] }, { accessFlags := 1, nameIndex := 59, descriptorIndex := 242, attributes := #[] }, { accessFlags := 1, nameIndex := 282, descriptorIndex := 283, attributes := #[] }] 49 271 #[363, 365, 367] #[{ accessFlags := 25, nameIndex := 369, descriptorIndex := 276, attributes := #[] }, { accessFlags := 25, nameIndex := 371, descriptorIndex := 276, attributes := #[] }, { accessFlags := 25, nameIndex := 361, descriptorIndex := 362, attributes := #[] }, { accessFlags := 18, nameIndex := 275, descriptorIndex := 276, attributes := #[] }, { accessFlags := 25, nameIndex := 376, descriptorIndex := 377, attributes := #[] }, { accessFlags := 25, nameIndex := 379, descriptorIndex := 377, attributes := #[] }, { accessFlags := 26, nameIndex := 381, descriptorIndex := 276, attributes := #[] }])
  fields := #[{ name := "MIN_VALUE", type := .long, accessFlags := 25, slot := 0, constantValue := 0 }, { name := "MAX_VALUE", type := .long, accessFlags := 25, slot := 1, constantValue := 0 }, { name := "TYPE", type := (.object "java/lang/Class"), accessFlags := 25, slot := 2, constantValue := 0 }, { name := "value", type := .long, accessFlags := 18, slot := 0, constantValue := 0 }, { name := "SIZE", type := .int, accessFlags := 25, slot := 3, constantValue := 0 }, { name := "BYTES", type := .int, accessFlags := 25, slot := 4, constantValue := 0 }, { name := "serialVersionUID", type := .long, accessFlags := 26, slot := 5, constantValue := 0 }]
  methods := #[k17m0, k17m1, k17m2]
  instanceTypes := #[.long]
  staticTypes := #[.long, .long, (.object "java/lang/Class"), .int, .int, .long]
  resolved := Array.replicate 524 none
  statics := none }

def pool18 : Array CpInfo := pool [(2, .class_ 4), (1, u "java/lang/Object"), (0, u "<init>"), (0, u "()V"), (0, .class_ 8), (0, u "java/lang/Long"), (7, .class_ 18), (1, u "java/lang/Long$LongCache"), (0, u "$assertionsDisabled"), (0, u "Z"), (8, u "archivedCache"), (0, u "[Ljava/lang/Long;"), (7, u "cache")] 24

def k18m0 : Method := { name := "<init>", desc := "()V", sig := { parameters := [], returnType := none }, accessFlags := 2, code := none }
/-- java/lang/Long$LongCache -/
def k18 : Class := { plain "java/lang/Long$LongCache" (some 0) with
  accessFlags := 48
  interfaces := #[]
  cf := some (fileOf pool18 16 #[.nestHost 7] #[{ accessFlags := 2, nameIndex := 5, descriptorIndex := 6, attributes := #[] }] 48 2 #[] #[{ accessFlags := 24, nameIndex := 38, descriptorIndex := 30, attributes := #[] }, { accessFlags := 8, nameIndex := 29, descriptorIndex := 30, attributes := #[] }, { accessFlags := 4120, nameIndex := 19, descriptorIndex := 20, attributes := #[] }])
  fields := #[{ name := "cache", type := (.array (.object "java/lang/Long")), accessFlags := 24, slot := 0, constantValue := 0 }, { name := "archivedCache", type := (.array (.object "java/lang/Long")), accessFlags := 8, slot := 1, constantValue := 0 }, { name := "$assertionsDisabled", type := .boolean, accessFlags := 4120, slot := 2, constantValue := 0 }]
  methods := #[k18m0]
  instanceTypes := #[]
  staticTypes := #[(.array (.object "java/lang/Long")), (.array (.object "java/lang/Long")), .boolean]
  resolved := Array.replicate 63 none
  statics := some 0 }

def pool19 : Array CpInfo := pool [(2, .class_ 4), (1, u "java/lang/Object"), (0, u "<init>"), (0, u "()V"), (7, .class_ 16), (1, u "java/util/Arrays"), (57, .class_ 76), (1, u "java/util/Arrays$NaturalOrder"), (36, .class_ 115), (1, u "java/util/Arrays$LegacyMergeSort"), (1, u "Z"), (32, .methodref 151 152), (0, .class_ 153), (0, .nameAndType 154 155), (0, u "java/lang/System"), (0, u "arraycopy"), (0, u "(Ljava/lang/Object;ILjava/lang/Object;II)V"), (146, u "copyOf"), (1, .methodref 305 306), (0, .class_ 307), (0, .nameAndType 308 309), (0, u "java/lang/Math"), (0, u "min"), (0, u "(II)I"), (65, .class_ 376), (0, u "java/util/Arrays$ArrayList"), (68, u "$assertionsDisabled"), (269, u "MIN_ARRAY_SORT_GRAN"), (0, u "I"), (2, u "INSERTIONSORT_THRESHOLD"), (152, u "([JI)[J"), (102, .class_ 976), (0, u "java/util/Arrays$ArrayItr")] 52

def k19m0 : Method := { name := "<init>", desc := "()V", sig := { parameters := [], returnType := none }, accessFlags := 2, code := none }
def k19c1 : Code := { maxStack := 6, maxLocals := 3, code := jdk_65_method_124_code, exceptionTable := #[], attributes := #[] }
def k19m1 : Method := { name := "copyOf", desc := "([JI)[J", sig := { parameters := [(.array .long), .int], returnType := some (.array .long) }, accessFlags := 9, code := some k19c1 }
/-- java/util/Arrays -/
def k19 : Class := { plain "java/util/Arrays" (some 0) with
  accessFlags := 49
  interfaces := #[]
  cf := some (fileOf pool19 14 #[.nestMembers #[975, 375, 113, 74]] #[{ accessFlags := 2, nameIndex := 5, descriptorIndex := 6, attributes := #[] }, { accessFlags := 9, nameIndex := 302, descriptorIndex := 872, attributes := #[] }] 49 2 #[] #[{ accessFlags := 26, nameIndex := 715, descriptorIndex := 716, attributes := #[] }, { accessFlags := 26, nameIndex := 719, descriptorIndex := 716, attributes := #[] }, { accessFlags := 4120, nameIndex := 445, descriptorIndex := 117, attributes := #[] }])
  fields := #[{ name := "MIN_ARRAY_SORT_GRAN", type := .int, accessFlags := 26, slot := 0, constantValue := 0 }, { name := "INSERTIONSORT_THRESHOLD", type := .int, accessFlags := 26, slot := 1, constantValue := 0 }, { name := "$assertionsDisabled", type := .boolean, accessFlags := 4120, slot := 2, constantValue := 0 }]
  methods := #[k19m0, k19m1]
  instanceTypes := #[]
  staticTypes := #[.int, .int, .boolean]
  resolved := Array.replicate 1029 none
  statics := none }

def pool20 : Array CpInfo := pool [(1, .class_ 2), (0, u "java/lang/Math"), (1, .class_ 6), (1, u "java/lang/Object"), (0, u "<init>"), (0, u "()V"), (89, .class_ 100), (1, u "java/lang/Math$RandomNumberGeneratorHolder"), (71, u "negativeZeroFloatBits"), (0, u "J"), (2, u "negativeZeroDoubleBits"), (24, u "min"), (43, u "$assertionsDisabled"), (0, u "Z"), (88, u "(II)I"), (2, u "twoToTheDoubleScaleDown"), (0, u "D"), (4, u "twoToTheDoubleScaleUp"), (9, u "E"), (3, u "PI"), (2, u "TAU"), (2, u "DEGREES_TO_RADIANS"), (0, u "RADIANS_TO_DEGREES")] 94

def k20m0 : Method := { name := "<init>", desc := "()V", sig := { parameters := [], returnType := none }, accessFlags := 2, code := none }
def k20c1 : Code := { maxStack := 2, maxLocals := 2, code := jdk_29_method_69_code, exceptionTable := #[], attributes := #[] }
def k20m1 : Method := { name := "min", desc := "(II)I", sig := { parameters := [.int, .int], returnType := some .int }, accessFlags := 9, code := some k20c1 }
/-- java/lang/Math -/
def k20 : Class := { plain "java/lang/Math" (some 0) with
  accessFlags := 49
  interfaces := #[]
  cf := some (fileOf pool20 1 #[.nestMembers #[98]] #[{ accessFlags := 2, nameIndex := 7, descriptorIndex := 8, attributes := #[] }, { accessFlags := 9, nameIndex := 201, descriptorIndex := 335, attributes := #[] }] 49 4 #[] #[{ accessFlags := 25, nameIndex := 354, descriptorIndex := 339, attributes := #[] }, { accessFlags := 25, nameIndex := 358, descriptorIndex := 339, attributes := #[] }, { accessFlags := 25, nameIndex := 361, descriptorIndex := 339, attributes := #[] }, { accessFlags := 26, nameIndex := 364, descriptorIndex := 339, attributes := #[] }, { accessFlags := 26, nameIndex := 365, descriptorIndex := 339, attributes := #[] }, { accessFlags := 26, nameIndex := 172, descriptorIndex := 173, attributes := #[] }, { accessFlags := 26, nameIndex := 176, descriptorIndex := 173, attributes := #[] }, { accessFlags := 8, nameIndex := 344, descriptorIndex := 339, attributes := #[] }, { accessFlags := 8, nameIndex := 338, descriptorIndex := 339, attributes := #[] }, { accessFlags := 4120, nameIndex := 245, descriptorIndex := 246, attributes := #[] }])
  fields := #[{ name := "E", type := .double, accessFlags := 25, slot := 0, constantValue := 0 }, { name := "PI", type := .double, accessFlags := 25, slot := 1, constantValue := 0 }, { name := "TAU", type := .double, accessFlags := 25, slot := 2, constantValue := 0 }, { name := "DEGREES_TO_RADIANS", type := .double, accessFlags := 26, slot := 3, constantValue := 0 }, { name := "RADIANS_TO_DEGREES", type := .double, accessFlags := 26, slot := 4, constantValue := 0 }, { name := "negativeZeroFloatBits", type := .long, accessFlags := 26, slot := 5, constantValue := 0 }, { name := "negativeZeroDoubleBits", type := .long, accessFlags := 26, slot := 6, constantValue := 0 }, { name := "twoToTheDoubleScaleUp", type := .double, accessFlags := 8, slot := 7, constantValue := 0 }, { name := "twoToTheDoubleScaleDown", type := .double, accessFlags := 8, slot := 8, constantValue := 0 }, { name := "$assertionsDisabled", type := .boolean, accessFlags := 4120, slot := 9, constantValue := 0 }]
  methods := #[k20m0, k20m1]
  instanceTypes := #[]
  staticTypes := #[.double, .double, .double, .double, .double, .long, .long, .double, .double, .boolean]
  resolved := Array.replicate 460 none
  statics := none }

def pool21 : Array CpInfo := pool [(2, .class_ 4), (1, u "java/lang/Object"), (0, u "<init>"), (0, u "()V"), (1, .class_ 10), (1, u "java/lang/System"), (0, u "allowSecurityManager"), (0, u "I"), (16, u "cons"), (0, u "Ljava/io/Console;"), (77, .class_ 110), (1, u "java/lang/System$CallersHolder"), (43, u "initialErrStream"), (0, u "Ljava/io/PrintStream;"), (19, u "security"), (0, u "Ljava/lang/SecurityManager;"), (31, .class_ 209), (0, u "java/lang/System$1"), (7, u "props"), (0, u "Ljava/util/Properties;"), (2, u "lineSeparator"), (0, u "Ljava/lang/String;"), (96, .class_ 321), (1, u "java/lang/System$LoggerFinder"), (5, .class_ 328), (0, u "java/lang/System$Logger"), (67, u "err"), (2, u "out"), (91, u "notSupportedJnuEncoding"), (15, u "in"), (17, u "initialIn"), (0, u "Ljava/io/InputStream;"), (35, u "bootLayer"), (0, u "Ljava/lang/ModuleLayer;"), (99, .class_ 664), (0, u "java/lang/System$2"), (9, u "NEVER"), (2, u "MAYBE"), (49, u "arraycopy"), (0, u "(Ljava/lang/Object;ILjava/lang/Object;II)V"), (72, .class_ 802), (0, u "java/lang/System$Logger$Level")] 31

def k21m0 : Method := { name := "<init>", desc := "()V", sig := { parameters := [], returnType := none }, accessFlags := 2, code := none }
def k21m1 : Method := { name := "arraycopy", desc := "(Ljava/lang/Object;ILjava/lang/Object;II)V", sig := { parameters := [(.object "java/lang/Object"), .int, (.object "java/lang/Object"), .int, .int], returnType := none }, accessFlags := 265, code := none }
/-- java/lang/System -/
def k21 : Class := { plain "java/lang/System" (some 0) with
  accessFlags := 49
  interfaces := #[]
  cf := some (fileOf pool21 8 #[.nestMembers #[319, 327, 801, 108, 663, 208]] #[{ accessFlags := 2, nameIndex := 5, descriptorIndex := 6, attributes := #[] }, { accessFlags := 265, nameIndex := 727, descriptorIndex := 728, attributes := #[] }] 49 2 #[] #[{ accessFlags := 25, nameIndex := 507, descriptorIndex := 526, attributes := #[] }, { accessFlags := 25, nameIndex := 399, descriptorIndex := 155, attributes := #[] }, { accessFlags := 25, nameIndex := 396, descriptorIndex := 155, attributes := #[] }, { accessFlags := 10, nameIndex := 525, descriptorIndex := 526, attributes := #[] }, { accessFlags := 26, nameIndex := 674, descriptorIndex := 12, attributes := #[] }, { accessFlags := 26, nameIndex := 677, descriptorIndex := 12, attributes := #[] }, { accessFlags := 10, nameIndex := 11, descriptorIndex := 12, attributes := #[] }, { accessFlags := 74, nameIndex := 175, descriptorIndex := 176, attributes := #[] }, { accessFlags := 10, nameIndex := 491, descriptorIndex := 222, attributes := #[] }, { accessFlags := 74, nameIndex := 29, descriptorIndex := 30, attributes := #[] }, { accessFlags := 74, nameIndex := 154, descriptorIndex := 155, attributes := #[] }, { accessFlags := 10, nameIndex := 217, descriptorIndex := 218, attributes := #[] }, { accessFlags := 10, nameIndex := 221, descriptorIndex := 222, attributes := #[] }, { accessFlags := 8, nameIndex := 562, descriptorIndex := 563, attributes := #[] }])
  fields := #[{ name := "in", type := (.object "java/io/InputStream"), accessFlags := 25, slot := 0, constantValue := 0 }, { name := "out", type := (.object "java/io/PrintStream"), accessFlags := 25, slot := 1, constantValue := 0 }, { name := "err", type := (.object "java/io/PrintStream"), accessFlags := 25, slot := 2, constantValue := 0 }, { name := "initialIn", type := (.object "java/io/InputStream"), accessFlags := 10, slot := 3, constantValue := 0 }, { name := "NEVER", type := .int, accessFlags := 26, slot := 4, constantValue := 0 }, { name := "MAYBE", type := .int, accessFlags := 26, slot := 5, constantValue := 0 }, { name := "allowSecurityManager", type := .int, accessFlags := 10, slot := 6, constantValue := 0 }, { name := "security", type := (.object "java/lang/SecurityManager"), accessFlags := 74, slot := 7, constantValue := 0 }, { name := "notSupportedJnuEncoding", type := (.object "java/lang/String"), accessFlags := 10, slot := 8, constantValue := 0 }, { name := "cons", type := (.object "java/io/Console"), accessFlags := 74, slot := 9, constantValue := 0 }, { name := "initialErrStream", type := (.object "java/io/PrintStream"), accessFlags := 74, slot := 10, constantValue := 0 }, { name := "props", type := (.object "java/util/Properties"), accessFlags := 10, slot := 11, constantValue := 0 }, { name := "lineSeparator", type := (.object "java/lang/String"), accessFlags := 10, slot := 12, constantValue := 0 }, { name := "bootLayer", type := (.object "java/lang/ModuleLayer"), accessFlags := 8, slot := 13, constantValue := 0 }]
  methods := #[k21m0, k21m1]
  instanceTypes := #[]
  staticTypes := #[(.object "java/io/InputStream"), (.object "java/io/PrintStream"), (.object "java/io/PrintStream"), (.object "java/io/InputStream"), .int, .int, .int, (.object "java/lang/SecurityManager"), (.object "java/lang/String"), (.object "java/io/Console"), (.object "java/io/PrintStream"), (.object "java/util/Properties"), (.object "java/lang/String"), (.object "java/lang/ModuleLayer")]
  resolved := Array.replicate 834 none
  statics := none }

def pool22 : Array CpInfo := pool [(1, u "java/lang/Cloneable"), (0, .class_ 1), (0, u "java/lang/Object"), (0, .class_ 3)] 3

/-- java/lang/Cloneable -/
def k22 : Class := { plain "java/lang/Cloneable" (some 0) with
  accessFlags := 1537
  interfaces := #[]
  cf := some (fileOf pool22 2 #[] #[] 1537 4 #[] #[])
  fields := #[]
  methods := #[]
  instanceTypes := #[]
  staticTypes := #[]
  resolved := Array.replicate 8 none
  statics := none }

/-- the primitive byte -/
def k23 : Class := { plain "byte" none with kind := .primitive 'B', accessFlags := 0x411 }
/-- [B -/
def k24 : Class := { plain "[B" (some 0) with kind := .array 23 .byte, interfaces := #[22, 12], accessFlags := 1041 }

/-- the primitive int -/
def k25 : Class := { plain "int" none with kind := .primitive 'I', accessFlags := 0x411 }
/-- [I -/
def k26 : Class := { plain "[I" (some 0) with kind := .array 25 .int, interfaces := #[22, 12], accessFlags := 1041 }

/-- the primitive long -/
def k27 : Class := { plain "long" none with kind := .primitive 'J', accessFlags := 0x411 }
/-- [J -/
def k28 : Class := { plain "[J" (some 0) with kind := .array 27 .long, interfaces := #[22, 12], accessFlags := 1041 }

/-- [Ljava/lang/Long; -/
def k29 : Class := { plain "[Ljava/lang/Long;" (some 0) with kind := .array 17 (.object "java/lang/Long"), interfaces := #[22, 12], accessFlags := 1041 }

def heap : Heap := #[{ cls := 18, slots := #[.ref 1, .null, .int 0], vm := .statics 18 },
  { cls := 29, slots := #[.ref 2, .ref 3, .ref 4, .ref 5, .ref 6, .ref 7, .ref 8, .ref 9, .ref 10, .ref 11, .ref 12, .ref 13, .ref 14, .ref 15, .ref 16, .ref 17, .ref 18, .ref 19, .ref 20, .ref 21, .ref 22, .ref 23, .ref 24, .ref 25, .ref 26, .ref 27, .ref 28, .ref 29, .ref 30, .ref 31, .ref 32, .ref 33, .ref 34, .ref 35, .ref 36, .ref 37, .ref 38, .ref 39, .ref 40, .ref 41, .ref 42, .ref 43, .ref 44, .ref 45, .ref 46, .ref 47, .ref 48, .ref 49, .ref 50, .ref 51, .ref 52, .ref 53, .ref 54, .ref 55, .ref 56, .ref 57, .ref 58, .ref 59, .ref 60, .ref 61, .ref 62, .ref 63, .ref 64, .ref 65, .ref 66, .ref 67, .ref 68, .ref 69, .ref 70, .ref 71, .ref 72, .ref 73, .ref 74, .ref 75, .ref 76, .ref 77, .ref 78, .ref 79, .ref 80, .ref 81, .ref 82, .ref 83, .ref 84, .ref 85, .ref 86, .ref 87, .ref 88, .ref 89, .ref 90, .ref 91, .ref 92, .ref 93, .ref 94, .ref 95, .ref 96, .ref 97, .ref 98, .ref 99, .ref 100, .ref 101, .ref 102, .ref 103, .ref 104, .ref 105, .ref 106, .ref 107, .ref 108, .ref 109, .ref 110, .ref 111, .ref 112, .ref 113, .ref 114, .ref 115, .ref 116, .ref 117, .ref 118, .ref 119, .ref 120, .ref 121, .ref 122, .ref 123, .ref 124, .ref 125, .ref 126, .ref 127, .ref 128, .ref 129, .ref 130, .ref 131, .ref 132, .ref 133, .ref 134, .ref 135, .ref 136, .ref 137, .ref 138, .ref 139, .ref 140, .ref 141, .ref 142, .ref 143, .ref 144, .ref 145, .ref 146, .ref 147, .ref 148, .ref 149, .ref 150, .ref 151, .ref 152, .ref 153, .ref 154, .ref 155, .ref 156, .ref 157, .ref 158, .ref 159, .ref 160, .ref 161, .ref 162, .ref 163, .ref 164, .ref 165, .ref 166, .ref 167, .ref 168, .ref 169, .ref 170, .ref 171, .ref 172, .ref 173, .ref 174, .ref 175, .ref 176, .ref 177, .ref 178, .ref 179, .ref 180, .ref 181, .ref 182, .ref 183, .ref 184, .ref 185, .ref 186, .ref 187, .ref 188, .ref 189, .ref 190, .ref 191, .ref 192, .ref 193, .ref 194, .ref 195, .ref 196, .ref 197, .ref 198, .ref 199, .ref 200, .ref 201, .ref 202, .ref 203, .ref 204, .ref 205, .ref 206, .ref 207, .ref 208, .ref 209, .ref 210, .ref 211, .ref 212, .ref 213, .ref 214, .ref 215, .ref 216, .ref 217, .ref 218, .ref 219, .ref 220, .ref 221, .ref 222, .ref 223, .ref 224, .ref 225, .ref 226, .ref 227, .ref 228, .ref 229, .ref 230, .ref 231, .ref 232, .ref 233, .ref 234, .ref 235, .ref 236, .ref 237, .ref 238, .ref 239, .ref 240, .ref 241, .ref 242, .ref 243, .ref 244, .ref 245, .ref 246, .ref 247, .ref 248, .ref 249, .ref 250, .ref 251, .ref 252, .ref 253, .ref 254, .ref 255, .ref 256, .ref 257], vm := .none },
  { cls := 17, slots := #[.long (-128)], vm := .none },
  { cls := 17, slots := #[.long (-127)], vm := .none },
  { cls := 17, slots := #[.long (-126)], vm := .none },
  { cls := 17, slots := #[.long (-125)], vm := .none },
  { cls := 17, slots := #[.long (-124)], vm := .none },
  { cls := 17, slots := #[.long (-123)], vm := .none },
  { cls := 17, slots := #[.long (-122)], vm := .none },
  { cls := 17, slots := #[.long (-121)], vm := .none },
  { cls := 17, slots := #[.long (-120)], vm := .none },
  { cls := 17, slots := #[.long (-119)], vm := .none },
  { cls := 17, slots := #[.long (-118)], vm := .none },
  { cls := 17, slots := #[.long (-117)], vm := .none },
  { cls := 17, slots := #[.long (-116)], vm := .none },
  { cls := 17, slots := #[.long (-115)], vm := .none },
  { cls := 17, slots := #[.long (-114)], vm := .none },
  { cls := 17, slots := #[.long (-113)], vm := .none },
  { cls := 17, slots := #[.long (-112)], vm := .none },
  { cls := 17, slots := #[.long (-111)], vm := .none },
  { cls := 17, slots := #[.long (-110)], vm := .none },
  { cls := 17, slots := #[.long (-109)], vm := .none },
  { cls := 17, slots := #[.long (-108)], vm := .none },
  { cls := 17, slots := #[.long (-107)], vm := .none },
  { cls := 17, slots := #[.long (-106)], vm := .none },
  { cls := 17, slots := #[.long (-105)], vm := .none },
  { cls := 17, slots := #[.long (-104)], vm := .none },
  { cls := 17, slots := #[.long (-103)], vm := .none },
  { cls := 17, slots := #[.long (-102)], vm := .none },
  { cls := 17, slots := #[.long (-101)], vm := .none },
  { cls := 17, slots := #[.long (-100)], vm := .none },
  { cls := 17, slots := #[.long (-99)], vm := .none },
  { cls := 17, slots := #[.long (-98)], vm := .none },
  { cls := 17, slots := #[.long (-97)], vm := .none },
  { cls := 17, slots := #[.long (-96)], vm := .none },
  { cls := 17, slots := #[.long (-95)], vm := .none },
  { cls := 17, slots := #[.long (-94)], vm := .none },
  { cls := 17, slots := #[.long (-93)], vm := .none },
  { cls := 17, slots := #[.long (-92)], vm := .none },
  { cls := 17, slots := #[.long (-91)], vm := .none },
  { cls := 17, slots := #[.long (-90)], vm := .none },
  { cls := 17, slots := #[.long (-89)], vm := .none },
  { cls := 17, slots := #[.long (-88)], vm := .none },
  { cls := 17, slots := #[.long (-87)], vm := .none },
  { cls := 17, slots := #[.long (-86)], vm := .none },
  { cls := 17, slots := #[.long (-85)], vm := .none },
  { cls := 17, slots := #[.long (-84)], vm := .none },
  { cls := 17, slots := #[.long (-83)], vm := .none },
  { cls := 17, slots := #[.long (-82)], vm := .none },
  { cls := 17, slots := #[.long (-81)], vm := .none },
  { cls := 17, slots := #[.long (-80)], vm := .none },
  { cls := 17, slots := #[.long (-79)], vm := .none },
  { cls := 17, slots := #[.long (-78)], vm := .none },
  { cls := 17, slots := #[.long (-77)], vm := .none },
  { cls := 17, slots := #[.long (-76)], vm := .none },
  { cls := 17, slots := #[.long (-75)], vm := .none },
  { cls := 17, slots := #[.long (-74)], vm := .none },
  { cls := 17, slots := #[.long (-73)], vm := .none },
  { cls := 17, slots := #[.long (-72)], vm := .none },
  { cls := 17, slots := #[.long (-71)], vm := .none },
  { cls := 17, slots := #[.long (-70)], vm := .none },
  { cls := 17, slots := #[.long (-69)], vm := .none },
  { cls := 17, slots := #[.long (-68)], vm := .none },
  { cls := 17, slots := #[.long (-67)], vm := .none },
  { cls := 17, slots := #[.long (-66)], vm := .none },
  { cls := 17, slots := #[.long (-65)], vm := .none },
  { cls := 17, slots := #[.long (-64)], vm := .none },
  { cls := 17, slots := #[.long (-63)], vm := .none },
  { cls := 17, slots := #[.long (-62)], vm := .none },
  { cls := 17, slots := #[.long (-61)], vm := .none },
  { cls := 17, slots := #[.long (-60)], vm := .none },
  { cls := 17, slots := #[.long (-59)], vm := .none },
  { cls := 17, slots := #[.long (-58)], vm := .none },
  { cls := 17, slots := #[.long (-57)], vm := .none },
  { cls := 17, slots := #[.long (-56)], vm := .none },
  { cls := 17, slots := #[.long (-55)], vm := .none },
  { cls := 17, slots := #[.long (-54)], vm := .none },
  { cls := 17, slots := #[.long (-53)], vm := .none },
  { cls := 17, slots := #[.long (-52)], vm := .none },
  { cls := 17, slots := #[.long (-51)], vm := .none },
  { cls := 17, slots := #[.long (-50)], vm := .none },
  { cls := 17, slots := #[.long (-49)], vm := .none },
  { cls := 17, slots := #[.long (-48)], vm := .none },
  { cls := 17, slots := #[.long (-47)], vm := .none },
  { cls := 17, slots := #[.long (-46)], vm := .none },
  { cls := 17, slots := #[.long (-45)], vm := .none },
  { cls := 17, slots := #[.long (-44)], vm := .none },
  { cls := 17, slots := #[.long (-43)], vm := .none },
  { cls := 17, slots := #[.long (-42)], vm := .none },
  { cls := 17, slots := #[.long (-41)], vm := .none },
  { cls := 17, slots := #[.long (-40)], vm := .none },
  { cls := 17, slots := #[.long (-39)], vm := .none },
  { cls := 17, slots := #[.long (-38)], vm := .none },
  { cls := 17, slots := #[.long (-37)], vm := .none },
  { cls := 17, slots := #[.long (-36)], vm := .none },
  { cls := 17, slots := #[.long (-35)], vm := .none },
  { cls := 17, slots := #[.long (-34)], vm := .none },
  { cls := 17, slots := #[.long (-33)], vm := .none },
  { cls := 17, slots := #[.long (-32)], vm := .none },
  { cls := 17, slots := #[.long (-31)], vm := .none },
  { cls := 17, slots := #[.long (-30)], vm := .none },
  { cls := 17, slots := #[.long (-29)], vm := .none },
  { cls := 17, slots := #[.long (-28)], vm := .none },
  { cls := 17, slots := #[.long (-27)], vm := .none },
  { cls := 17, slots := #[.long (-26)], vm := .none },
  { cls := 17, slots := #[.long (-25)], vm := .none },
  { cls := 17, slots := #[.long (-24)], vm := .none },
  { cls := 17, slots := #[.long (-23)], vm := .none },
  { cls := 17, slots := #[.long (-22)], vm := .none },
  { cls := 17, slots := #[.long (-21)], vm := .none },
  { cls := 17, slots := #[.long (-20)], vm := .none },
  { cls := 17, slots := #[.long (-19)], vm := .none },
  { cls := 17, slots := #[.long (-18)], vm := .none },
  { cls := 17, slots := #[.long (-17)], vm := .none },
  { cls := 17, slots := #[.long (-16)], vm := .none },
  { cls := 17, slots := #[.long (-15)], vm := .none },
  { cls := 17, slots := #[.long (-14)], vm := .none },
  { cls := 17, slots := #[.long (-13)], vm := .none },
  { cls := 17, slots := #[.long (-12)], vm := .none },
  { cls := 17, slots := #[.long (-11)], vm := .none },
  { cls := 17, slots := #[.long (-10)], vm := .none },
  { cls := 17, slots := #[.long (-9)], vm := .none },
  { cls := 17, slots := #[.long (-8)], vm := .none },
  { cls := 17, slots := #[.long (-7)], vm := .none },
  { cls := 17, slots := #[.long (-6)], vm := .none },
  { cls := 17, slots := #[.long (-5)], vm := .none },
  { cls := 17, slots := #[.long (-4)], vm := .none },
  { cls := 17, slots := #[.long (-3)], vm := .none },
  { cls := 17, slots := #[.long (-2)], vm := .none },
  { cls := 17, slots := #[.long (-1)], vm := .none },
  { cls := 17, slots := #[.long 0], vm := .none },
  { cls := 17, slots := #[.long 1], vm := .none },
  { cls := 17, slots := #[.long 2], vm := .none },
  { cls := 17, slots := #[.long 3], vm := .none },
  { cls := 17, slots := #[.long 4], vm := .none },
  { cls := 17, slots := #[.long 5], vm := .none },
  { cls := 17, slots := #[.long 6], vm := .none },
  { cls := 17, slots := #[.long 7], vm := .none },
  { cls := 17, slots := #[.long 8], vm := .none },
  { cls := 17, slots := #[.long 9], vm := .none },
  { cls := 17, slots := #[.long 10], vm := .none },
  { cls := 17, slots := #[.long 11], vm := .none },
  { cls := 17, slots := #[.long 12], vm := .none },
  { cls := 17, slots := #[.long 13], vm := .none },
  { cls := 17, slots := #[.long 14], vm := .none },
  { cls := 17, slots := #[.long 15], vm := .none },
  { cls := 17, slots := #[.long 16], vm := .none },
  { cls := 17, slots := #[.long 17], vm := .none },
  { cls := 17, slots := #[.long 18], vm := .none },
  { cls := 17, slots := #[.long 19], vm := .none },
  { cls := 17, slots := #[.long 20], vm := .none },
  { cls := 17, slots := #[.long 21], vm := .none },
  { cls := 17, slots := #[.long 22], vm := .none },
  { cls := 17, slots := #[.long 23], vm := .none },
  { cls := 17, slots := #[.long 24], vm := .none },
  { cls := 17, slots := #[.long 25], vm := .none },
  { cls := 17, slots := #[.long 26], vm := .none },
  { cls := 17, slots := #[.long 27], vm := .none },
  { cls := 17, slots := #[.long 28], vm := .none },
  { cls := 17, slots := #[.long 29], vm := .none },
  { cls := 17, slots := #[.long 30], vm := .none },
  { cls := 17, slots := #[.long 31], vm := .none },
  { cls := 17, slots := #[.long 32], vm := .none },
  { cls := 17, slots := #[.long 33], vm := .none },
  { cls := 17, slots := #[.long 34], vm := .none },
  { cls := 17, slots := #[.long 35], vm := .none },
  { cls := 17, slots := #[.long 36], vm := .none },
  { cls := 17, slots := #[.long 37], vm := .none },
  { cls := 17, slots := #[.long 38], vm := .none },
  { cls := 17, slots := #[.long 39], vm := .none },
  { cls := 17, slots := #[.long 40], vm := .none },
  { cls := 17, slots := #[.long 41], vm := .none },
  { cls := 17, slots := #[.long 42], vm := .none },
  { cls := 17, slots := #[.long 43], vm := .none },
  { cls := 17, slots := #[.long 44], vm := .none },
  { cls := 17, slots := #[.long 45], vm := .none },
  { cls := 17, slots := #[.long 46], vm := .none },
  { cls := 17, slots := #[.long 47], vm := .none },
  { cls := 17, slots := #[.long 48], vm := .none },
  { cls := 17, slots := #[.long 49], vm := .none },
  { cls := 17, slots := #[.long 50], vm := .none },
  { cls := 17, slots := #[.long 51], vm := .none },
  { cls := 17, slots := #[.long 52], vm := .none },
  { cls := 17, slots := #[.long 53], vm := .none },
  { cls := 17, slots := #[.long 54], vm := .none },
  { cls := 17, slots := #[.long 55], vm := .none },
  { cls := 17, slots := #[.long 56], vm := .none },
  { cls := 17, slots := #[.long 57], vm := .none },
  { cls := 17, slots := #[.long 58], vm := .none },
  { cls := 17, slots := #[.long 59], vm := .none },
  { cls := 17, slots := #[.long 60], vm := .none },
  { cls := 17, slots := #[.long 61], vm := .none },
  { cls := 17, slots := #[.long 62], vm := .none },
  { cls := 17, slots := #[.long 63], vm := .none },
  { cls := 17, slots := #[.long 64], vm := .none },
  { cls := 17, slots := #[.long 65], vm := .none },
  { cls := 17, slots := #[.long 66], vm := .none },
  { cls := 17, slots := #[.long 67], vm := .none },
  { cls := 17, slots := #[.long 68], vm := .none },
  { cls := 17, slots := #[.long 69], vm := .none },
  { cls := 17, slots := #[.long 70], vm := .none },
  { cls := 17, slots := #[.long 71], vm := .none },
  { cls := 17, slots := #[.long 72], vm := .none },
  { cls := 17, slots := #[.long 73], vm := .none },
  { cls := 17, slots := #[.long 74], vm := .none },
  { cls := 17, slots := #[.long 75], vm := .none },
  { cls := 17, slots := #[.long 76], vm := .none },
  { cls := 17, slots := #[.long 77], vm := .none },
  { cls := 17, slots := #[.long 78], vm := .none },
  { cls := 17, slots := #[.long 79], vm := .none },
  { cls := 17, slots := #[.long 80], vm := .none },
  { cls := 17, slots := #[.long 81], vm := .none },
  { cls := 17, slots := #[.long 82], vm := .none },
  { cls := 17, slots := #[.long 83], vm := .none },
  { cls := 17, slots := #[.long 84], vm := .none },
  { cls := 17, slots := #[.long 85], vm := .none },
  { cls := 17, slots := #[.long 86], vm := .none },
  { cls := 17, slots := #[.long 87], vm := .none },
  { cls := 17, slots := #[.long 88], vm := .none },
  { cls := 17, slots := #[.long 89], vm := .none },
  { cls := 17, slots := #[.long 90], vm := .none },
  { cls := 17, slots := #[.long 91], vm := .none },
  { cls := 17, slots := #[.long 92], vm := .none },
  { cls := 17, slots := #[.long 93], vm := .none },
  { cls := 17, slots := #[.long 94], vm := .none },
  { cls := 17, slots := #[.long 95], vm := .none },
  { cls := 17, slots := #[.long 96], vm := .none },
  { cls := 17, slots := #[.long 97], vm := .none },
  { cls := 17, slots := #[.long 98], vm := .none },
  { cls := 17, slots := #[.long 99], vm := .none },
  { cls := 17, slots := #[.long 100], vm := .none },
  { cls := 17, slots := #[.long 101], vm := .none },
  { cls := 17, slots := #[.long 102], vm := .none },
  { cls := 17, slots := #[.long 103], vm := .none },
  { cls := 17, slots := #[.long 104], vm := .none },
  { cls := 17, slots := #[.long 105], vm := .none },
  { cls := 17, slots := #[.long 106], vm := .none },
  { cls := 17, slots := #[.long 107], vm := .none },
  { cls := 17, slots := #[.long 108], vm := .none },
  { cls := 17, slots := #[.long 109], vm := .none },
  { cls := 17, slots := #[.long 110], vm := .none },
  { cls := 17, slots := #[.long 111], vm := .none },
  { cls := 17, slots := #[.long 112], vm := .none },
  { cls := 17, slots := #[.long 113], vm := .none },
  { cls := 17, slots := #[.long 114], vm := .none },
  { cls := 17, slots := #[.long 115], vm := .none },
  { cls := 17, slots := #[.long 116], vm := .none },
  { cls := 17, slots := #[.long 117], vm := .none },
  { cls := 17, slots := #[.long 118], vm := .none },
  { cls := 17, slots := #[.long 119], vm := .none },
  { cls := 17, slots := #[.long 120], vm := .none },
  { cls := 17, slots := #[.long 121], vm := .none },
  { cls := 17, slots := #[.long 122], vm := .none },
  { cls := 17, slots := #[.long 123], vm := .none },
  { cls := 17, slots := #[.long 124], vm := .none },
  { cls := 17, slots := #[.long 125], vm := .none },
  { cls := 17, slots := #[.long 126], vm := .none },
  { cls := 17, slots := #[.long 127], vm := .none }]
def classes : Array Class := #[k0, k1, k2, k3, k4, k5, k6, k7, k8, k9, k10, k11, k12, k13, k14, k15, k16, k17, k18, k19, k20, k21, k22, k23, k24, k25, k26, k27, k28, k29]
def interned : List (Array UInt16 × Addr) := []
def slotsUsed : Nat := 515
def theMethod : MethodId := ⟨1, 2⟩
def args0 : Array Value := #[.long 5, .long 9, .long 3, .long 0]
def aboutOver (below : List Frame) : State where
  vm := { classes := classes, interned := interned.toArray }
  heap := heap
  slotsUsed := slotsUsed
  threads := #[{ frames := .invoking theMethod args0 :: below }]
def below0 : List Frame := [.native { method := ⟨0, 0⟩, args := #[] }]
def about1 : State := aboutOver below0
def p0 : Program := .bare "" "" ""
def e0 : Env := launch0.env 0 0 0
theorem w_frames : about1.frames = Frame.invoking theMethod args0 :: below0 := rfl
set_option maxRecDepth 65536 in
theorem w_args : argsFit about1.vm theMethod args0 = true := by decide +kernel
set_option maxRecDepth 65536 in
theorem w_heap : heapFits about1 = true := by decide +kernel
set_option maxRecDepth 65536 in
theorem w_runnable : about1.curStatus? = some .runnable := by decide +kernel
set_option maxRecDepth 65536 in
theorem w_alone : about1.alone = true := by decide +kernel
set_option maxRecDepth 65536 in
theorem w_named : about1.methodNamed? x = some theMethod := by decide +kernel
set_option maxRecDepth 65536 in
theorem w_hears : about1.hears theMethod below0 = true := by decide +kernel
set_option maxRecDepth 65536 in
theorem w_ripe : about1.ripe theMethod args0 below0 = true := by decide +kernel
theorem w_running : about1.status = .running := rfl
set_option maxRecDepth 65536 in
theorem w_room : about1.hasRoom e0.platform room_1 = true :=
  launch0.hasRoom_least _ room_1 (by decide +kernel) (by decide +kernel) (by decide +kernel) (by decide +kernel) (by decide +kernel) (by decide +kernel)
theorem allAtoms_all (ts : List Jvm.Cond) (a : Array Jvm.Value) (st : Jvm.State) : (allAtoms ts).before a st = ts.all (fun c => c.before a st) := by
  induction ts with
  | nil => rfl
  | cons c t ih =>
    show (Jvm.Cond.and c (allAtoms t)).before a st = _
    rw [Jvm.Cond.before_and, ih, List.all_cons]
def words1 : List Jvm.Cond := Jvm.Cond.code x code maxLocals ret :: tables_1
/-- a 'code' word, met by the world's own term for the bytes: nothing is compared byte by byte -/
theorem code_word {y : MethodName} {bytes : ByteArray} {mx : Nat} {rt : Option FieldType} {a : Array Value} {s : State} {m : MethodId} {meth : Method} {c : Code} (h1 : s.methodNamed? y = some m) (h2 : s.vm.method? m = some meth) (h3 : meth.code = some c) (h4 : c.code = bytes)
    (h5 : (c.maxLocals == mx && c.exceptionTable.isEmpty && decide (c.maxStack ≤ mostOperands) && decide (meth.sig.returnType = rt) && !meth.locks && decide (parseMethodDescriptor y.desc = some meth.sig)) = true) : (Jvm.Cond.code y bytes mx rt).before a s = true := by
  simp only [Bool.and_eq_true, beq_iff_eq, Bool.not_eq_true', decide_eq_true_eq] at h5
  obtain ⟨⟨⟨⟨⟨g1, g2⟩, g3⟩, g4⟩, g5⟩, g6⟩ := h5
  simp [Cond.before, Cond.holds, Cond.value, h1, h2, h3, h4, g1, g2, g3, g4, g5, g6]
def isCode : Jvm.Cond → Bool
  | .code _ _ _ _ => true
  | _ => false
theorem all_split {L : List Jvm.Cond} {P : Jvm.Cond → Bool} (h1 : L.all (fun c => isCode c || P c) = true) (h2 : ∀ c ∈ L.filter isCode, P c = true) : L.all P = true := by
  refine List.all_eq_true.mpr fun c hc => ?_
  have h := List.all_eq_true.mp h1 c hc
  rcases Bool.eq_false_or_eq_true (isCode c) with hi | hi
  · exact h2 c (List.mem_filter.mpr ⟨hc, hi⟩)
  · simpa [hi] using h
set_option maxRecDepth 65536 in
theorem w_c0 : (Jvm.Cond.code x code maxLocals ret).before args0 about1 = true := code_word (m := ⟨1, 2⟩) (meth := k1m2) (c := k1c2) (by decide +kernel) rfl rfl rfl (by decide +kernel)
set_option maxRecDepth 65536 in
theorem w_c1 : (Jvm.Cond.code ({ cls := "com/example/reckon/reckon/io/LineList", name := "<init>", desc := "()V" } : Jvm.MethodName) prog_67_method_1_code (1 : Nat) (Option.none : Option Jvm.ClassFile.FieldType)).before args0 about1 = true := code_word (m := ⟨9, 0⟩) (meth := k9m0) (c := k9c0) (by decide +kernel) rfl rfl rfl (by decide +kernel)
set_option maxRecDepth 65536 in
theorem w_c2 : (Jvm.Cond.code ({ cls := "java/util/AbstractList", name := "<init>", desc := "()V" } : Jvm.MethodName) jdk_39_method_1_code (1 : Nat) (Option.none : Option Jvm.ClassFile.FieldType)).before args0 about1 = true := code_word (m := ⟨7, 0⟩) (meth := k7m0) (c := k7c0) (by decide +kernel) rfl rfl rfl (by decide +kernel)
set_option maxRecDepth 65536 in
theorem w_c3 : (Jvm.Cond.code ({ cls := "java/util/AbstractCollection", name := "<init>", desc := "()V" } : Jvm.MethodName) jdk_22_method_1_code (1 : Nat) (Option.none : Option Jvm.ClassFile.FieldType)).before args0 about1 = true := code_word (m := ⟨4, 0⟩) (meth := k4m0) (c := k4c0) (by decide +kernel) rfl rfl rfl (by decide +kernel)
set_option maxRecDepth 65536 in
theorem w_c4 : (Jvm.Cond.code ({ cls := "java/lang/Object", name := "<init>", desc := "()V" } : Jvm.MethodName) object_method_1_code (1 : Nat) (Option.none : Option Jvm.ClassFile.FieldType)).before args0 about1 = true := code_word (m := ⟨0, 0⟩) (meth := k0m0) (c := k0c0) (by decide +kernel) rfl rfl rfl (by decide +kernel)
set_option maxRecDepth 65536 in
theorem w_c5 : (Jvm.Cond.code ({ cls := "com/example/reckon/reckon/io/LineList", name := "size", desc := "()I" } : Jvm.MethodName) prog_67_method_4_code (1 : Nat) (Option.some Jvm.ClassFile.FieldType.int)).before args0 about1 = true := code_word (m := ⟨9, 3⟩) (meth := k9m3) (c := k9c3) (by decide +kernel) rfl rfl rfl (by decide +kernel)
set_option maxRecDepth 65536 in
theorem w_c6 : (Jvm.Cond.code ({ cls := "com/example/reckon/reckon/io/LineList", name := "add", desc := "(J)V" } : Jvm.MethodName) prog_67_method_2_code (3 : Nat) (Option.none : Option Jvm.ClassFile.FieldType)).before args0 about1 = true := code_word (m := ⟨9, 1⟩) (meth := k9m1) (c := k9c1) (by decide +kernel) rfl rfl rfl (by decide +kernel)
set_option maxRecDepth 65536 in
theorem w_c7 : (Jvm.Cond.code ({ cls := "com/example/reckon/reckon/io/LineList", name := "get", desc := "(I)Ljava/lang/Long;" } : Jvm.MethodName) prog_67_method_3_code (2 : Nat) (Option.some (Jvm.ClassFile.FieldType.object "java/lang/Long"))).before args0 about1 = true := code_word (m := ⟨9, 2⟩) (meth := k9m2) (c := k9c2) (by decide +kernel) rfl rfl rfl (by decide +kernel)
set_option maxRecDepth 65536 in
theorem w_c8 : (Jvm.Cond.code ({ cls := "java/util/Objects", name := "checkIndex", desc := "(II)I" } : Jvm.MethodName) jdk_31_method_17_code (2 : Nat) (Option.some Jvm.ClassFile.FieldType.int)).before args0 about1 = true := code_word (m := ⟨10, 1⟩) (meth := k10m1) (c := k10c1) (by decide +kernel) rfl rfl rfl (by decide +kernel)
set_option maxRecDepth 65536 in
theorem w_c9 : (Jvm.Cond.code ({ cls := "jdk/internal/util/Preconditions", name := "checkIndex", desc := "(IILjava/util/function/BiFunction;)I" } : Jvm.MethodName) jdk_41_method_11_code (3 : Nat) (Option.some Jvm.ClassFile.FieldType.int)).before args0 about1 = true := code_word (m := ⟨11, 1⟩) (meth := k11m1) (c := k11c1) (by decide +kernel) rfl rfl rfl (by decide +kernel)
set_option maxRecDepth 65536 in
theorem w_c10 : (Jvm.Cond.code ({ cls := "java/lang/Long", name := "valueOf", desc := "(J)Ljava/lang/Long;" } : Jvm.MethodName) jdk_35_method_24_code (3 : Nat) (Option.some (Jvm.ClassFile.FieldType.object "java/lang/Long"))).before args0 about1 = true := code_word (m := ⟨17, 0⟩) (meth := k17m0) (c := k17c0) (by decide +kernel) rfl rfl rfl (by decide +kernel)
set_option maxRecDepth 65536 in
theorem w_c11 : (Jvm.Cond.code ({ cls := "java/lang/Long", name := "longValue", desc := "()J" } : Jvm.MethodName) jdk_35_method_31_code (1 : Nat) (Option.some Jvm.ClassFile.FieldType.long)).before args0 about1 = true := code_word (m := ⟨17, 2⟩) (meth := k17m2) (c := k17c2) (by decide +kernel) rfl rfl rfl (by decide +kernel)
set_option maxRecDepth 65536 in
theorem w_c12 : (Jvm.Cond.code ({ cls := "com/example/reckon/reckon/io/LineListAddPinLaw", name := "addFourteen", desc := "(Lcom/example/reckon/reckon/io/LineList;J)V" } : Jvm.MethodName) method_2_code (3 : Nat) (Option.none : Option Jvm.ClassFile.FieldType)).before args0 about1 = true := code_word (m := ⟨1, 1⟩) (meth := k1m1) (c := k1c1) (by decide +kernel) rfl rfl rfl (by decide +kernel)
set_option maxRecDepth 65536 in
theorem w_c13 : (Jvm.Cond.code ({ cls := "java/lang/Long", name := "<init>", desc := "(J)V" } : Jvm.MethodName) jdk_35_method_26_code (3 : Nat) (Option.none : Option Jvm.ClassFile.FieldType)).before args0 about1 = true := code_word (m := ⟨17, 1⟩) (meth := k17m1) (c := k17c1) (by decide +kernel) rfl rfl rfl (by decide +kernel)
set_option maxRecDepth 65536 in
theorem w_c14 : (Jvm.Cond.code ({ cls := "java/lang/Number", name := "<init>", desc := "()V" } : Jvm.MethodName) jdk_18_method_1_code (1 : Nat) (Option.none : Option Jvm.ClassFile.FieldType)).before args0 about1 = true := code_word (m := ⟨13, 0⟩) (meth := k13m0) (c := k13c0) (by decide +kernel) rfl rfl rfl (by decide +kernel)
set_option maxRecDepth 65536 in
theorem w_c15 : (Jvm.Cond.code ({ cls := "java/util/Arrays", name := "copyOf", desc := "([JI)[J" } : Jvm.MethodName) jdk_65_method_124_code (3 : Nat) (Option.some (Jvm.ClassFile.FieldType.array Jvm.ClassFile.FieldType.long))).before args0 about1 = true := code_word (m := ⟨19, 1⟩) (meth := k19m1) (c := k19c1) (by decide +kernel) rfl rfl rfl (by decide +kernel)
set_option maxRecDepth 65536 in
theorem w_c16 : (Jvm.Cond.code ({ cls := "java/lang/Math", name := "min", desc := "(II)I" } : Jvm.MethodName) jdk_29_method_69_code (2 : Nat) (Option.some Jvm.ClassFile.FieldType.int)).before args0 about1 = true := code_word (m := ⟨20, 1⟩) (meth := k20m1) (c := k20c1) (by decide +kernel) rfl rfl rfl (by decide +kernel)
def codes1 : List Jvm.Cond := [Jvm.Cond.code x code maxLocals ret, Jvm.Cond.code ({ cls := "com/example/reckon/reckon/io/LineList", name := "<init>", desc := "()V" } : Jvm.MethodName) prog_67_method_1_code (1 : Nat) (Option.none : Option Jvm.ClassFile.FieldType), Jvm.Cond.code ({ cls := "java/util/AbstractList", name := "<init>", desc := "()V" } : Jvm.MethodName) jdk_39_method_1_code (1 : Nat) (Option.none : Option Jvm.ClassFile.FieldType), Jvm.Cond.code ({ cls := "java/util/AbstractCollection", name := "<init>", desc := "()V" } : Jvm.MethodName) jdk_22_method_1_code (1 : Nat) (Option.none : Option Jvm.ClassFile.FieldType), Jvm.Cond.code ({ cls := "java/lang/Object", name := "<init>", desc := "()V" } : Jvm.MethodName) object_method_1_code (1 : Nat) (Option.none : Option Jvm.ClassFile.FieldType), Jvm.Cond.code ({ cls := "com/example/reckon/reckon/io/LineList", name := "size", desc := "()I" } : Jvm.MethodName) prog_67_method_4_code (1 : Nat) (Option.some Jvm.ClassFile.FieldType.int), Jvm.Cond.code ({ cls := "com/example/reckon/reckon/io/LineList", name := "add", desc := "(J)V" } : Jvm.MethodName) prog_67_method_2_code (3 : Nat) (Option.none : Option Jvm.ClassFile.FieldType), Jvm.Cond.code ({ cls := "com/example/reckon/reckon/io/LineList", name := "get", desc := "(I)Ljava/lang/Long;" } : Jvm.MethodName) prog_67_method_3_code (2 : Nat) (Option.some (Jvm.ClassFile.FieldType.object "java/lang/Long")), Jvm.Cond.code ({ cls := "java/util/Objects", name := "checkIndex", desc := "(II)I" } : Jvm.MethodName) jdk_31_method_17_code (2 : Nat) (Option.some Jvm.ClassFile.FieldType.int), Jvm.Cond.code ({ cls := "jdk/internal/util/Preconditions", name := "checkIndex", desc := "(IILjava/util/function/BiFunction;)I" } : Jvm.MethodName) jdk_41_method_11_code (3 : Nat) (Option.some Jvm.ClassFile.FieldType.int), Jvm.Cond.code ({ cls := "java/lang/Long", name := "valueOf", desc := "(J)Ljava/lang/Long;" } : Jvm.MethodName) jdk_35_method_24_code (3 : Nat) (Option.some (Jvm.ClassFile.FieldType.object "java/lang/Long")), Jvm.Cond.code ({ cls := "java/lang/Long", name := "longValue", desc := "()J" } : Jvm.MethodName) jdk_35_method_31_code (1 : Nat) (Option.some Jvm.ClassFile.FieldType.long), Jvm.Cond.code ({ cls := "com/example/reckon/reckon/io/LineListAddPinLaw", name := "addFourteen", desc := "(Lcom/example/reckon/reckon/io/LineList;J)V" } : Jvm.MethodName) method_2_code (3 : Nat) (Option.none : Option Jvm.ClassFile.FieldType), Jvm.Cond.code ({ cls := "java/lang/Long", name := "<init>", desc := "(J)V" } : Jvm.MethodName) jdk_35_method_26_code (3 : Nat) (Option.none : Option Jvm.ClassFile.FieldType), Jvm.Cond.code ({ cls := "java/lang/Number", name := "<init>", desc := "()V" } : Jvm.MethodName) jdk_18_method_1_code (1 : Nat) (Option.none : Option Jvm.ClassFile.FieldType), Jvm.Cond.code ({ cls := "java/util/Arrays", name := "copyOf", desc := "([JI)[J" } : Jvm.MethodName) jdk_65_method_124_code (3 : Nat) (Option.some (Jvm.ClassFile.FieldType.array Jvm.ClassFile.FieldType.long)), Jvm.Cond.code ({ cls := "java/lang/Math", name := "min", desc := "(II)I" } : Jvm.MethodName) jdk_29_method_69_code (2 : Nat) (Option.some Jvm.ClassFile.FieldType.int)]
set_option maxRecDepth 65536 in
theorem codes_eq : words1.filter isCode = codes1 := rfl
theorem w_codes : ∀ c ∈ words1.filter isCode, c.before args0 about1 = true := by
  rw [codes_eq]
  intro c hc
  simp only [codes1, List.mem_cons, List.not_mem_nil, or_false] at hc
  rcases hc with rfl | rfl | rfl | rfl | rfl | rfl | rfl | rfl | rfl | rfl | rfl | rfl | rfl | rfl | rfl | rfl | rfl
  · exact w_c0
  · exact w_c1
  · exact w_c2
  · exact w_c3
  · exact w_c4
  · exact w_c5
  · exact w_c6
  · exact w_c7
  · exact w_c8
  · exact w_c9
  · exact w_c10
  · exact w_c11
  · exact w_c12
  · exact w_c13
  · exact w_c14
  · exact w_c15
  · exact w_c16
set_option maxRecDepth 65536 in
theorem w_t1 : (words1.take 24).all (fun c => isCode c || c.before args0 about1) = true := by decide +kernel
set_option maxRecDepth 65536 in
theorem w_t2 : ((words1.drop 24).take 24).all (fun c => isCode c || c.before args0 about1) = true := by decide +kernel
set_option maxRecDepth 65536 in
theorem w_t3 : (((words1.drop 24).drop 24).take 24).all (fun c => isCode c || c.before args0 about1) = true := by decide +kernel
set_option maxRecDepth 65536 in
theorem w_t4 : ((((words1.drop 24).drop 24).drop 24).take 24).all (fun c => isCode c || c.before args0 about1) = true := by decide +kernel
set_option maxRecDepth 65536 in
theorem w_t5 : ((((words1.drop 24).drop 24).drop 24).drop 24).all (fun c => isCode c || c.before args0 about1) = true := by decide +kernel
theorem w_tables : (allAtoms (Jvm.Cond.code x code maxLocals ret :: tables_1)).before args0 about1 = true := by
  rw [allAtoms_all]
  show words1.all (fun c => c.before args0 about1) = true
  refine all_split ?_ w_codes
  rw [← List.take_append_drop 24 words1, List.all_append, w_t1, ← List.take_append_drop 24 (words1.drop 24), List.all_append, w_t2, ← List.take_append_drop 24 ((words1.drop 24).drop 24), List.all_append, w_t3, ← List.take_append_drop 24 (((words1.drop 24).drop 24).drop 24), List.all_append, w_t4, w_t5]
  rfl
set_option maxRecDepth 65536 in
theorem w_rest : rest_1_c.before args0 about1 = true := by decide +kernel
set_option maxRecDepth 65536 in
theorem w_case : (Jvm.Cond.and given_1 narrow_1).before args0 about1 = true := by decide +kernel
theorem w_applies : (headSpec (Jvm.Cond.code x code maxLocals ret :: tables_1) room_1).applies x e0.platform about1 = true :=
  (Spec.applies_iff w_frames).mpr ⟨w_running, w_runnable, w_alone, w_named, w_hears, w_ripe, w_room, w_tables⟩
theorem atStart : AtStart classFile x code maxLocals ret World_1 tables_1 room_1 Calls_1 rest_1 Pre_1 launch0 p0 e0 about1 theMethod args0 below0 :=
  ⟨lists_1, trivial, launch0.admits_env _ _ _, launch0.least_env, fairChoices_fair.cas, fairChoices_fair.clock, w_frames, w_args, w_heap, w_applies, trivial, w_rest, w_case⟩
end start1
theorem witness_1 : WitnessClaimed_1 := ⟨start1.p0, start1.e0, start1.about1, start1.theMethod, start1.args0, start1.below0, start1.atStart⟩
end Jvm.Pilot.@@N@@
