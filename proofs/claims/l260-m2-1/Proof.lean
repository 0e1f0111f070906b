import JvmDerived
import JvmDerived.Pilot.@@N@@Statement
import JvmDerived.Pilot.@@N@@Code
set_option linter.unusedVariables false
set_option linter.unusedSimpArgs false
namespace Jvm.Pilot.@@N@@
open Jvm Jvm.ClassFile Sem Op Lib Jvm.Free Jvm.Stand Jvm.LawKit Jvm.RoadKit Bundle Jvm.Pilot.@@N@@.Jvm.D
/-! own_Ends: from the state T the run ends well -/
def own_Ends (p : Program) (e : Env) (below : List Frame) (P : State → Outcome → Prop) (T : State) : Prop := ∃ U o, Steps p.tables e below T U ∧ U.status = .running ∧ Ended U below o ∧ P U o
def own_Got (s : State) (Q : Option Value → Heap → List Loc → Prop) (C N : Nat) (U : State) (o : Outcome) : Prop := ∃ v L, o = .returned v ∧ Q v U.heap L ∧ FrameEnd s o U L C N
section Own
variable {p : Program} {l : Launch} {e : Env} {R : Room} {s : State} {m : MethodId} {args : Array Value} {below : List Frame} {meth : Method} {c : Code} {T T' : State} {locs : List Loc} {cells slots : Nat} {P : State → Outcome → Prop}
theorem own_go (h : ∀ target, Steps p.tables e below T' target → Steps p.tables e below T target) (k : own_Ends p e below P T') : own_Ends p e below P T := by
  obtain ⟨U, o, h1, h2⟩ := k; exact ⟨U, o, h _ h1, h2⟩
theorem own_tr (h : Steps p.tables e below T T') (k : own_Ends p e below P T') : own_Ends p e below P T := by
  obtain ⟨U, o, h1, h2⟩ := k; exact ⟨U, o, h.trans h1, h2⟩
variable {Q : Option Value → Heap → List Loc → Prop} {C N : Nat}
theorem own_ret (X : Stand p l e R s m args below meth c T locs cells slots) (hx : p.tables.exec = Jvm.exec) (lk : meth.locks = false) {pc : Nat} {Ls : Array Slot} {w : Value} {t : FieldType} {i : Instr} {rest : List Value} (hret : meth.sig.returnType = some t) (hn : narrow t w = w)
    (hi : (i = .ireturn ∧ (t = .int ∨ t = .boolean ∨ t = .byte ∨ t = .char ∨ t = .short) ∧ ∃ z, w = .int z) ∨ (i = .lreturn ∧ t = .long ∧ ∃ z, w = .long z) ∨ (i = .dreturn ∧ t = .double ∧ ∃ z, w = .double z) ∨ (i = .freturn ∧ t = .float ∧ ∃ z, w = .float z) ∨ (i = .areturn ∧ t.isReference = true ∧ w.isRef = true))
    (hd : decode c.code pc = .ok (i, 1)) (hC : cells ≤ C) (hN : slots ≤ N) (hq : Q (some w) T.heap locs) : own_Ends p e below (own_Got s Q C N) (T.setTop (mkF m pc Ls (w :: rest))) := by
  obtain ⟨fs, hr, hrun, hended, hW, hsame⟩ := X.leave (v := some w) (fun h => by rw [hret] at h; cases h) lk
  exact ⟨_, _, retOut X hx hret hn hi hd hr, hrun, hended, _, _, rfl, hq, ⟨_, rfl⟩, hW, hsame.mono hC hN⟩
theorem own_retI (X : Stand p l e R s m args below meth c T locs cells slots) (hx : p.tables.exec = Jvm.exec) (lk : meth.locks = false) {pc : Nat} {Ls : Array Slot} {z : Int32} {rest : List Value} (hret : meth.sig.returnType = some .int)
    (hd : decode c.code pc = .ok (.ireturn, 1)) (hC : cells ≤ C) (hN : slots ≤ N) (hq : Q (some (.int z)) T.heap locs) : own_Ends p e below (own_Got s Q C N) (T.setTop (mkF m pc Ls (.int z :: rest))) :=
  own_ret X hx lk hret rfl (Or.inl ⟨rfl, Or.inl rfl, _, rfl⟩) hd hC hN hq
theorem own_retZ (X : Stand p l e R s m args below meth c T locs cells slots) (hx : p.tables.exec = Jvm.exec) (lk : meth.locks = false) {pc : Nat} {Ls : Array Slot} {z : Int32} {rest : List Value} (hret : meth.sig.returnType = some .boolean) (hn : narrow .boolean (.int z) = .int z)
    (hd : decode c.code pc = .ok (.ireturn, 1)) (hC : cells ≤ C) (hN : slots ≤ N) (hq : Q (some (.int z)) T.heap locs) : own_Ends p e below (own_Got s Q C N) (T.setTop (mkF m pc Ls (.int z :: rest))) :=
  own_ret X hx lk hret hn (Or.inl ⟨rfl, Or.inr (Or.inl rfl), _, rfl⟩) hd hC hN hq
theorem own_retJ (X : Stand p l e R s m args below meth c T locs cells slots) (hx : p.tables.exec = Jvm.exec) (lk : meth.locks = false) {pc : Nat} {Ls : Array Slot} {z : Int64} {rest : List Value} (hret : meth.sig.returnType = some .long)
    (hd : decode c.code pc = .ok (.lreturn, 1)) (hC : cells ≤ C) (hN : slots ≤ N) (hq : Q (some (.long z)) T.heap locs) : own_Ends p e below (own_Got s Q C N) (T.setTop (mkF m pc Ls (.long z :: rest))) :=
  own_ret X hx lk hret rfl (Or.inr (Or.inl ⟨rfl, rfl, _, rfl⟩)) hd hC hN hq
theorem own_retR (X : Stand p l e R s m args below meth c T locs cells slots) (hx : p.tables.exec = Jvm.exec) (lk : meth.locks = false) {pc : Nat} {Ls : Array Slot} {w : Value} {t : FieldType} {rest : List Value} (hret : meth.sig.returnType = some t) (ht : t.isReference = true) (hw : w.isRef = true)
    (hd : decode c.code pc = .ok (.areturn, 1)) (hC : cells ≤ C) (hN : slots ≤ N) (hq : Q (some w) T.heap locs) : own_Ends p e below (own_Got s Q C N) (T.setTop (mkF m pc Ls (w :: rest))) :=
  own_ret X hx lk hret (by rcases ref_cases hw with rfl | ⟨a, rfl⟩ <;> cases t <;> first | rfl | exact absurd ht (by decide)) (Or.inr (Or.inr (Or.inr (Or.inr ⟨rfl, ht, hw⟩)))) hd hC hN hq
theorem own_retV (X : Stand p l e R s m args below meth c T locs cells slots) (hx : p.tables.exec = Jvm.exec) (lk : meth.locks = false) {pc : Nat} {Ls : Array Slot} {st : List Value} (hret : meth.sig.returnType = none)
    (hd : decode c.code pc = .ok (.return_, 1)) (hC : cells ≤ C) (hN : slots ≤ N) (hq : Q none T.heap locs) : own_Ends p e below (own_Got s Q C N) (T.setTop (mkF m pc Ls [])) := by
  obtain ⟨fs, hr, hrun, hended, hW, hsame⟩ := X.leave (v := none) (fun _ => rfl) lk
  exact ⟨_, _, X.returnOut hx hret hd hr, hrun, hended, _, _, rfl, hq, ⟨_, rfl⟩, hW, hsame.mono hC hN⟩
theorem own_fldI {Z : State} {a : Addr} {av : Array Value} {t : Term} {k : Int32} {C n d : String} (ev : t.eval av Z none [] Z = some (.ref a)) (h : (Jvm.Cond.eq (.field t C n d) (.int k)).value av Z none Z [] = some true) : Fld Z Z.heap a C n d (.int k) := by
  obtain ⟨x, y, ex, ey, k1, k2⟩ := cmp_v (Or.inl h)
  cases (Term.int_eval (args := av) (first := Z) (o := none) (idx := []) (s := Z) k).symm.trans ey
  obtain ⟨z, rfl⟩ := k2
  obtain rfl : z = k := gotT (Cond.eq_ints ex (Term.int_eval k)) h
  exact Fld.start ((fld_at ev).symm.trans ex)
theorem own_fldJ {Z : State} {a : Addr} {av : Array Value} {t : Term} {k : Int64} {C n d : String} (ev : t.eval av Z none [] Z = some (.ref a)) (h : (Jvm.Cond.eq (.field t C n d) (.long k)).value av Z none Z [] = some true) : Fld Z Z.heap a C n d (.long k) := by
  obtain ⟨x, y, ex, ey, k1, k2⟩ := cmp_v (Or.inl h)
  cases (long_at (args := av) (first := Z) (o := none) (idx := []) (s := Z) k).symm.trans ey
  obtain ⟨z, rfl⟩ := k2
  obtain rfl : z = k := gotT (eq_L ex (long_at k)) h
  exact Fld.start ((fld_at ev).symm.trans ex)
theorem own_staJ {Z : State} {av : Array Value} {k : Int64} {t : Term} (h : (Jvm.Cond.eq t (.long k)).value av Z none Z [] = some true) : t.eval av Z none [] Z = some (.long k) := by
  obtain ⟨x, y, ex, ey, k1, k2⟩ := cmp_v (Or.inl h)
  cases (long_at (args := av) (first := Z) (o := none) (idx := []) (s := Z) k).symm.trans ey
  obtain ⟨z, rfl⟩ := k2
  obtain rfl : z = k := gotT (eq_L ex (long_at k)) h
  exact ex
theorem own_staI {Z : State} {av : Array Value} {k : Int32} {t : Term} (h : (Jvm.Cond.eq t (.int k)).value av Z none Z [] = some true) : t.eval av Z none [] Z = some (.int k) := by
  obtain ⟨x, y, ex, ey, k1, k2⟩ := cmp_v (Or.inl h)
  cases (Term.int_eval (args := av) (first := Z) (o := none) (idx := []) (s := Z) k).symm.trans ey
  obtain ⟨z, rfl⟩ := k2
  obtain rfl : z = k := gotT (Cond.eq_ints ex (Term.int_eval k)) h
  exact ex
end Own
theorem own_mask (x : Int64) : ¬ (x &&& (9223372036854775807 : Int64)) < (0 : Int64) := by
  have h := c_maskL x 9223372036854775807 63 (by decide) (by decide +kernel)
  rw [Int64.lt_iff_toInt_lt]
  have e0 : (0 : Int64).toInt = 0 := rfl
  omega
theorem own_sub (k q : Int64) (hq : ¬ q < (0 : Int64)) (h : ¬ k < q) : (k - q).toInt = k.toInt - q.toInt ∧ 0 ≤ q.toInt ∧ q.toInt ≤ k.toInt := by
  rw [Int64.lt_iff_toInt_lt] at hq h
  have e0 : (0 : Int64).toInt = 0 := rfl
  have h1 := c_lsub k q; have h2 := rng64 (k - q); have h3 := rng64 k; have h4 := rng64 q
  omega
theorem own_ar1 (k q : Int64) (hq : ¬ q < (0 : Int64)) (h : ¬ k < q) : ¬ (k - q) < (0 : Int64) := by
  obtain ⟨a, b, d⟩ := own_sub k q hq h
  rw [Int64.lt_iff_toInt_lt, a]
  have e0 : (0 : Int64).toInt = 0 := rfl
  omega
theorem own_ar2 (k q : Int64) (hq : ¬ q < (0 : Int64)) (h : ¬ k < q) : ¬ k < (k - q) := by
  obtain ⟨a, b, d⟩ := own_sub k q hq h
  rw [Int64.lt_iff_toInt_lt, a]
  omega
theorem own_ar3 (k q : Int64) (hq : ¬ q < (0 : Int64)) (h : ¬ k < q) : ((k - q) + q) = k := by
  obtain ⟨a, b, d⟩ := own_sub k q hq h
  refine Int64.toInt_inj.mp ?_
  have h1 := c_ladd (k - q) q; have h2 := rng64 ((k - q) + q); have h3 := rng64 k
  omega
theorem own_d4_0 : decode jdk_2650_method_2_code 0 = .ok (.getstatic 17, 3) := by decide +kernel
theorem own_d4_3 : decode jdk_2650_method_2_code 3 = .ok (.areturn, 1) := by decide +kernel
theorem own_ef_own_empty (m : MethodId)  : entryFrame m #[] 0 = mkF m 0 #[] [] := by first | (simp [entryFrame, mkF, argsToLocals, Value.category]; done) | rfl
def Q_own_empty (Z : State) (a_EMPTY : Addr) (h0 : Heap) (n0 : Nat) (v : Option Value) (h : Heap) (L : List Loc) : Prop := v = some (.ref a_EMPTY) ∧ Fr n0 L ∧ h = h0
theorem own_pn_java_util_OptionalLong : plainName "java/util/OptionalLong" = true := by first | (simp [plainName, overriddenIn]; done) | decide +kernel
set_option maxRecDepth 65536 in
set_option maxHeartbeats 40000000 in
theorem own_empty (l : Launch) (Z : State) (a0 : Array Value) (hw : ∀ d ∈ tables_1, d.before a0 Z = true) (ws : List Jvm.Cond) (a_EMPTY : Addr) (h0 : Heap) (n0 : Nat) (O0 : Old Z n0 h0) (S_EMPTY : Sta Z Z.heap "java/util/OptionalLong" "EMPTY" "Ljava/util/OptionalLong;" (.ref a_EMPTY)) :
    MetFree l (⟨"java/util/OptionalLong", "empty", "()Ljava/util/OptionalLong;"⟩ : MethodName) (head1 (Jvm.Cond.code (⟨"java/util/OptionalLong", "empty", "()Ljava/util/OptionalLong;"⟩ : MethodName) jdk_2650_method_2_code 0 (some (.object "java/util/OptionalLong")) :: ws) ({ frames := 0, cells := 0, slots := 0, locals := 0 } : Room)) (fun args_ U => args_ = #[] ∧ Z.Warmed39 U.vm ∧ U.heap = h0) (fun _ _ _ _ _ => True) (fun _ U o U' => ∃ v L, o = .returned v ∧ Q_own_empty Z a_EMPTY h0 n0 v U'.heap L ∧ FrameEnd U o U' L ({ frames := 0, cells := 0, slots := 0, locals := 0 } : Room).cells ({ frames := 0, cells := 0, slots := 0, locals := 0 } : Room).slots) := by
  refine MetFree.of_bodySF (plainFor_of_name own_pn_java_util_OptionalLong) hisR ?_
  intro pP eE sS mM args below meth cC s₁ Bd hml0 hP hK
  obtain ⟨rfl, hZ, hh⟩ := hP
  have hx := Bd.exec
  have hby := Bd.bytes
  have hml : cC.maxLocals = 0 := hml0
  have hown : sS.vm.findClass "java/util/OptionalLong" = some mM.cls := findClass_of_methodNamed Bd.named
  have hnm := (name_of_methodNamed Bd.named Bd.method).1
  have X0 : Stand pP l eE ({ frames := 0, cells := 0, slots := 0, locals := 0 } : Room) sS mM #[] below meth cC s₁ [] 0 0 := Stand.of_body Bd
  have e0 : s₁.heap = h0 := by rw [← hh, Bd.state]; rfl
  have N0 := Fr.nil n0
  show own_Ends pP eE below (own_Got sS (Q_own_empty Z a_EMPTY h0 n0) ({ frames := 0, cells := 0, slots := 0, locals := 0 } : Room).cells ({ frames := 0, cells := 0, slots := 0, locals := 0 } : Room).slots) (s₁.setTop (entryFrame mM #[] 0))
  rw [own_ef_own_empty mM ]
  obtain ⟨T1, X1, e1, st1⟩ := getS2 X0 hx hZ hown (host := "") (Or.inl (hw _ (List.mem_of_getElem? (i := 22) rfl))) Via.refl e0 (S_EMPTY.ext O0.2) (g := (mkF mM 0 #[] [])) rfl (hb hby own_d4_0)
  refine own_go st1 ?_
  show own_Ends _ _ _ _ (T1.setTop (mkF mM 3 #[] [(.ref a_EMPTY)]))
  exact own_retR X1 hx (BodyLoose.notSynchronized Bd) Bd.returns rfl rfl (hb hby own_d4_3) (by decide) (by decide) (by rw [e1]; exact ⟨rfl, N0, rfl⟩)
theorem own_d5_0 : decode jdk_2650_method_6_code 0 = .ok (.aload_n 0, 1) := by decide +kernel
theorem own_d5_1 : decode jdk_2650_method_6_code 1 = .ok (.getfield 7, 3) := by decide +kernel
theorem own_d5_4 : decode jdk_2650_method_6_code 4 = .ok (.ireturn, 1) := by decide +kernel
theorem own_ef_own_pres1 (m : MethodId) (x0 : Addr) : entryFrame m #[(.ref x0)] 1 = mkF m 0 #[.val (.ref x0)] [] := by first | (simp [entryFrame, mkF, argsToLocals, Value.category]; done) | rfl
def Q_own_pres1 (Z : State) (a : Addr) (h0 : Heap) (n0 : Nat) (v : Option Value) (h : Heap) (L : List Loc) : Prop := v = some (.int (1 : Int32)) ∧ Fr n0 L ∧ h = h0
set_option maxRecDepth 65536 in
set_option maxHeartbeats 40000000 in
theorem own_pres1 (l : Launch) (Z : State) (a0 : Array Value) (hw : ∀ d ∈ tables_1, d.before a0 Z = true) (ws : List Jvm.Cond) (a : Addr) (h0 : Heap) (n0 : Nat) (O0 : Old Z n0 h0) (F : Fld Z h0 a "java/util/OptionalLong" "isPresent" "Z" (.int (1 : Int32))) :
    MetFree l (⟨"java/util/OptionalLong", "isPresent", "()Z"⟩ : MethodName) (head1 (Jvm.Cond.code (⟨"java/util/OptionalLong", "isPresent", "()Z"⟩ : MethodName) jdk_2650_method_6_code 1 (some .boolean) :: ws) ({ frames := 0, cells := 0, slots := 0, locals := 0 } : Room)) (fun args_ U => args_ = #[(.ref a)] ∧ Z.Warmed39 U.vm ∧ U.heap = h0) (fun _ _ _ _ _ => True) (fun _ U o U' => ∃ v L, o = .returned v ∧ Q_own_pres1 Z a h0 n0 v U'.heap L ∧ FrameEnd U o U' L ({ frames := 0, cells := 0, slots := 0, locals := 0 } : Room).cells ({ frames := 0, cells := 0, slots := 0, locals := 0 } : Room).slots) := by
  refine MetFree.of_bodySF (plainFor_of_name own_pn_java_util_OptionalLong) hisR ?_
  intro pP eE sS mM args below meth cC s₁ Bd hml0 hP hK
  obtain ⟨rfl, hZ, hh⟩ := hP
  have hx := Bd.exec
  have hby := Bd.bytes
  have hml : cC.maxLocals = 1 := hml0
  have hown : sS.vm.findClass "java/util/OptionalLong" = some mM.cls := findClass_of_methodNamed Bd.named
  have hnm := (name_of_methodNamed Bd.named Bd.method).1
  have X0 : Stand pP l eE ({ frames := 0, cells := 0, slots := 0, locals := 0 } : Room) sS mM #[(.ref a)] below meth cC s₁ [] 0 0 := Stand.of_body Bd
  have e0 : s₁.heap = h0 := by rw [← hh, Bd.state]; rfl
  have N0 := Fr.nil n0
  show own_Ends pP eE below (own_Got sS (Q_own_pres1 Z a h0 n0) ({ frames := 0, cells := 0, slots := 0, locals := 0 } : Room).cells ({ frames := 0, cells := 0, slots := 0, locals := 0 } : Room).slots) (s₁.setTop (entryFrame mM #[(.ref a)] 1))
  rw [own_ef_own_pres1 mM a]
  refine own_go (fun _ k => XS.aloadN X0.here hx rfl (hb hby own_d5_0) rfl rfl k) ?_
  show own_Ends _ _ _ _ (s₁.setTop (mkF mM 1 #[.val (.ref a)] [(.ref a)]))
  obtain ⟨T1, X1, e1, st1⟩ := getF X0 hx hZ hown (host := "") (Or.inl (hw _ (List.mem_of_getElem? (i := 28) rfl))) Via.refl e0 F (g := (mkF mM 1 #[.val (.ref a)] [(.ref a)])) rfl rfl (hb hby own_d5_1)
  refine own_go st1 ?_
  show own_Ends _ _ _ _ (T1.setTop (mkF mM 4 #[.val (.ref a)] [(.int (1 : Int32))]))
  exact own_retZ X1 hx (BodyLoose.notSynchronized Bd) Bd.returns rfl (hb hby own_d5_4) (by decide) (by decide) (by rw [e1]; exact ⟨rfl, N0, rfl⟩)
theorem own_ef_own_pres0 (m : MethodId) (x0 : Addr) : entryFrame m #[(.ref x0)] 1 = mkF m 0 #[.val (.ref x0)] [] := by first | (simp [entryFrame, mkF, argsToLocals, Value.category]; done) | rfl
def Q_own_pres0 (Z : State) (a : Addr) (h0 : Heap) (n0 : Nat) (v : Option Value) (h : Heap) (L : List Loc) : Prop := v = some (.int (0 : Int32)) ∧ Fr n0 L ∧ h = h0
set_option maxRecDepth 65536 in
set_option maxHeartbeats 40000000 in
theorem own_pres0 (l : Launch) (Z : State) (a0 : Array Value) (hw : ∀ d ∈ tables_1, d.before a0 Z = true) (ws : List Jvm.Cond) (a : Addr) (h0 : Heap) (n0 : Nat) (O0 : Old Z n0 h0) (F : Fld Z h0 a "java/util/OptionalLong" "isPresent" "Z" (.int (0 : Int32))) :
    MetFree l (⟨"java/util/OptionalLong", "isPresent", "()Z"⟩ : MethodName) (head1 (Jvm.Cond.code (⟨"java/util/OptionalLong", "isPresent", "()Z"⟩ : MethodName) jdk_2650_method_6_code 1 (some .boolean) :: ws) ({ frames := 0, cells := 0, slots := 0, locals := 0 } : Room)) (fun args_ U => args_ = #[(.ref a)] ∧ Z.Warmed39 U.vm ∧ U.heap = h0) (fun _ _ _ _ _ => True) (fun _ U o U' => ∃ v L, o = .returned v ∧ Q_own_pres0 Z a h0 n0 v U'.heap L ∧ FrameEnd U o U' L ({ frames := 0, cells := 0, slots := 0, locals := 0 } : Room).cells ({ frames := 0, cells := 0, slots := 0, locals := 0 } : Room).slots) := by
  refine MetFree.of_bodySF (plainFor_of_name own_pn_java_util_OptionalLong) hisR ?_
  intro pP eE sS mM args below meth cC s₁ Bd hml0 hP hK
  obtain ⟨rfl, hZ, hh⟩ := hP
  have hx := Bd.exec
  have hby := Bd.bytes
  have hml : cC.maxLocals = 1 := hml0
  have hown : sS.vm.findClass "java/util/OptionalLong" = some mM.cls := findClass_of_methodNamed Bd.named
  have hnm := (name_of_methodNamed Bd.named Bd.method).1
  have X0 : Stand pP l eE ({ frames := 0, cells := 0, slots := 0, locals := 0 } : Room) sS mM #[(.ref a)] below meth cC s₁ [] 0 0 := Stand.of_body Bd
  have e0 : s₁.heap = h0 := by rw [← hh, Bd.state]; rfl
  have N0 := Fr.nil n0
  show own_Ends pP eE below (own_Got sS (Q_own_pres0 Z a h0 n0) ({ frames := 0, cells := 0, slots := 0, locals := 0 } : Room).cells ({ frames := 0, cells := 0, slots := 0, locals := 0 } : Room).slots) (s₁.setTop (entryFrame mM #[(.ref a)] 1))
  rw [own_ef_own_pres0 mM a]
  refine own_go (fun _ k => XS.aloadN X0.here hx rfl (hb hby own_d5_0) rfl rfl k) ?_
  show own_Ends _ _ _ _ (s₁.setTop (mkF mM 1 #[.val (.ref a)] [(.ref a)]))
  obtain ⟨T1, X1, e1, st1⟩ := getF X0 hx hZ hown (host := "") (Or.inl (hw _ (List.mem_of_getElem? (i := 28) rfl))) Via.refl e0 F (g := (mkF mM 1 #[.val (.ref a)] [(.ref a)])) rfl rfl (hb hby own_d5_1)
  refine own_go st1 ?_
  show own_Ends _ _ _ _ (T1.setTop (mkF mM 4 #[.val (.ref a)] [(.int (0 : Int32))]))
  exact own_retZ X1 hx (BodyLoose.notSynchronized Bd) Bd.returns rfl (hb hby own_d5_4) (by decide) (by decide) (by rw [e1]; exact ⟨rfl, N0, rfl⟩)
theorem own_d8_0 : decode jdk_2650_method_5_code 0 = .ok (.aload_n 0, 1) := by decide +kernel
theorem own_d8_1 : decode jdk_2650_method_5_code 1 = .ok (.getfield 7, 3) := by decide +kernel
theorem own_d8_4 : decode jdk_2650_method_5_code 4 = .ok (.ifCond .ne 13, 3) := by decide +kernel
theorem own_d8_17 : decode jdk_2650_method_5_code 17 = .ok (.aload_n 0, 1) := by decide +kernel
theorem own_d8_18 : decode jdk_2650_method_5_code 18 = .ok (.getfield 13, 3) := by decide +kernel
theorem own_d8_21 : decode jdk_2650_method_5_code 21 = .ok (.lreturn, 1) := by decide +kernel
theorem own_ef_own_getAsLong (m : MethodId) (x0 : Addr) : entryFrame m #[(.ref x0)] 1 = mkF m 0 #[.val (.ref x0)] [] := by first | (simp [entryFrame, mkF, argsToLocals, Value.category]; done) | rfl
def Q_own_getAsLong (Z : State) (a : Addr) (x : Int64) (h0 : Heap) (n0 : Nat) (v : Option Value) (h : Heap) (L : List Loc) : Prop := v = some (.long x) ∧ Fr n0 L ∧ h = h0
set_option maxRecDepth 65536 in
set_option maxHeartbeats 40000000 in
theorem own_getAsLong (l : Launch) (Z : State) (a0 : Array Value) (hw : ∀ d ∈ tables_1, d.before a0 Z = true) (ws : List Jvm.Cond) (a : Addr) (x : Int64) (h0 : Heap) (n0 : Nat) (O0 : Old Z n0 h0) (F1 : Fld Z h0 a "java/util/OptionalLong" "isPresent" "Z" (.int (1 : Int32))) (F2 : Fld Z h0 a "java/util/OptionalLong" "value" "J" (.long x)) :
    MetFree l (⟨"java/util/OptionalLong", "getAsLong", "()J"⟩ : MethodName) (head1 (Jvm.Cond.code (⟨"java/util/OptionalLong", "getAsLong", "()J"⟩ : MethodName) jdk_2650_method_5_code 1 (some .long) :: ws) ({ frames := 0, cells := 0, slots := 0, locals := 0 } : Room)) (fun args_ U => args_ = #[(.ref a)] ∧ Z.Warmed39 U.vm ∧ U.heap = h0) (fun _ _ _ _ _ => True) (fun _ U o U' => ∃ v L, o = .returned v ∧ Q_own_getAsLong Z a x h0 n0 v U'.heap L ∧ FrameEnd U o U' L ({ frames := 0, cells := 0, slots := 0, locals := 0 } : Room).cells ({ frames := 0, cells := 0, slots := 0, locals := 0 } : Room).slots) := by
  refine MetFree.of_bodySF (plainFor_of_name own_pn_java_util_OptionalLong) hisR ?_
  intro pP eE sS mM args below meth cC s₁ Bd hml0 hP hK
  obtain ⟨rfl, hZ, hh⟩ := hP
  have hx := Bd.exec
  have hby := Bd.bytes
  have hml : cC.maxLocals = 1 := hml0
  have hown : sS.vm.findClass "java/util/OptionalLong" = some mM.cls := findClass_of_methodNamed Bd.named
  have hnm := (name_of_methodNamed Bd.named Bd.method).1
  have X0 : Stand pP l eE ({ frames := 0, cells := 0, slots := 0, locals := 0 } : Room) sS mM #[(.ref a)] below meth cC s₁ [] 0 0 := Stand.of_body Bd
  have e0 : s₁.heap = h0 := by rw [← hh, Bd.state]; rfl
  have N0 := Fr.nil n0
  show own_Ends pP eE below (own_Got sS (Q_own_getAsLong Z a x h0 n0) ({ frames := 0, cells := 0, slots := 0, locals := 0 } : Room).cells ({ frames := 0, cells := 0, slots := 0, locals := 0 } : Room).slots) (s₁.setTop (entryFrame mM #[(.ref a)] 1))
  rw [own_ef_own_getAsLong mM a]
  refine own_go (fun _ k => XS.aloadN X0.here hx rfl (hb hby own_d8_0) rfl rfl k) ?_
  show own_Ends _ _ _ _ (s₁.setTop (mkF mM 1 #[.val (.ref a)] [(.ref a)]))
  obtain ⟨T1, X1, e1, st1⟩ := getF X0 hx hZ hown (host := "") (Or.inl (hw _ (List.mem_of_getElem? (i := 28) rfl))) Via.refl e0 F1 (g := (mkF mM 1 #[.val (.ref a)] [(.ref a)])) rfl rfl (hb hby own_d8_1)
  refine own_go st1 ?_
  show own_Ends _ _ _ _ (T1.setTop (mkF mM 4 #[.val (.ref a)] [(.int (1 : Int32))]))
  refine own_go (fun _ k => XS.ifYes X1.here hx rfl (pc0 := 4) (pc' := 17) rfl (hb hby own_d8_4) rfl ((if0 _ _).trans (feq (by decide : ¬ ((1 : Int32) = (0 : Int32)))).2) (by decide) (by decide) k) ?_
  show own_Ends _ _ _ _ (T1.setTop (mkF mM 17 #[.val (.ref a)] []))
  refine own_go (fun _ k => XS.aloadN X1.here hx rfl (hb hby own_d8_17) rfl rfl k) ?_
  show own_Ends _ _ _ _ (T1.setTop (mkF mM 18 #[.val (.ref a)] [(.ref a)]))
  obtain ⟨T2, X2, e2, st2⟩ := getF X1 hx hZ hown (host := "") (Or.inl (hw _ (List.mem_of_getElem? (i := 42) rfl))) Via.refl e1 F2 (g := (mkF mM 18 #[.val (.ref a)] [(.ref a)])) rfl rfl (hb hby own_d8_18)
  refine own_go st2 ?_
  show own_Ends _ _ _ _ (T2.setTop (mkF mM 21 #[.val (.ref a)] [(.long x)]))
  exact own_retJ X2 hx (BodyLoose.notSynchronized Bd) Bd.returns (hb hby own_d8_21) (by decide) (by decide) (by rw [e2]; exact ⟨rfl, N0, rfl⟩)
theorem own_d7_0 : decode jdk_2650_method_3_code 0 = .ok (.aload_n 0, 1) := by decide +kernel
theorem own_d7_1 : decode jdk_2650_method_3_code 1 = .ok (.invokespecial 1, 3) := by decide +kernel
theorem own_d7_4 : decode jdk_2650_method_3_code 4 = .ok (.aload_n 0, 1) := by decide +kernel
theorem own_d7_5 : decode jdk_2650_method_3_code 5 = .ok (.iconst 1, 1) := by decide +kernel
theorem own_d7_6 : decode jdk_2650_method_3_code 6 = .ok (.putfield 7, 3) := by decide +kernel
theorem own_d7_9 : decode jdk_2650_method_3_code 9 = .ok (.aload_n 0, 1) := by decide +kernel
theorem own_d7_10 : decode jdk_2650_method_3_code 10 = .ok (.lload_n 1, 1) := by decide +kernel
theorem own_d7_11 : decode jdk_2650_method_3_code 11 = .ok (.putfield 13, 3) := by decide +kernel
theorem own_d7_14 : decode jdk_2650_method_3_code 14 = .ok (.return_, 1) := by decide +kernel
theorem own_ef_own_olinit (m : MethodId) (x0 : Addr) (x1 : Int64) : entryFrame m #[(.ref x0), (.long x1)] 3 = mkF m 0 #[.val (.ref x0), .val (.long x1), .second] [] := by first | (simp [entryFrame, mkF, argsToLocals, Value.category]; done) | rfl
def Q_own_olinit (Z : State) (a : Addr) (x : Int64) (h0 : Heap) (n0 : Nat) (v : Option Value) (h : Heap) (L : List Loc) : Prop := v = none ∧ Fr n0 L ∧ Keep h0 h [a] ∧ Exa Z h a "java/util/OptionalLong" ∧ Fld Z h a "java/util/OptionalLong" "isPresent" "Z" (.int (1 : Int32)) ∧ Fld Z h a "java/util/OptionalLong" "value" "J" (.long x)
set_option maxRecDepth 65536 in
set_option maxHeartbeats 40000000 in
theorem own_olinit (l : Launch) (Z : State) (a0 : Array Value) (hw : ∀ d ∈ tables_1, d.before a0 Z = true) (ws : List Jvm.Cond) (a : Addr) (x : Int64) (h0 : Heap) (n0 : Nat) (O0 : Old Z n0 h0) (g_a : n0 ≤ a) (E : Exa Z h0 a "java/util/OptionalLong") (F1 : Fld Z h0 a "java/util/OptionalLong" "isPresent" "Z" (.int (0 : Int32))) (F2 : Fld Z h0 a "java/util/OptionalLong" "value" "J" (.long (0 : Int64))) :
    MetFree l (⟨"java/util/OptionalLong", "<init>", "(J)V"⟩ : MethodName) (head1 (Jvm.Cond.code (⟨"java/util/OptionalLong", "<init>", "(J)V"⟩ : MethodName) jdk_2650_method_3_code 3 none :: ws) ({ frames := 1, cells := 0, slots := 0, locals := 12 } : Room)) (fun args_ U => args_ = #[(.ref a), (.long x)] ∧ Z.Warmed39 U.vm ∧ U.heap = h0) (fun _ _ _ _ _ => True) (fun _ U o U' => ∃ v L, o = .returned v ∧ Q_own_olinit Z a x h0 n0 v U'.heap L ∧ FrameEnd U o U' L ({ frames := 1, cells := 0, slots := 0, locals := 12 } : Room).cells ({ frames := 1, cells := 0, slots := 0, locals := 12 } : Room).slots) := by
  refine MetFree.of_bodySF (plainFor_of_name own_pn_java_util_OptionalLong) hisR ?_
  intro pP eE sS mM args below meth cC s₁ Bd hml0 hP hK
  obtain ⟨rfl, hZ, hh⟩ := hP
  have hx := Bd.exec
  have hby := Bd.bytes
  have hml : cC.maxLocals = 3 := hml0
  have hown : sS.vm.findClass "java/util/OptionalLong" = some mM.cls := findClass_of_methodNamed Bd.named
  have hnm := (name_of_methodNamed Bd.named Bd.method).1
  have X0 : Stand pP l eE ({ frames := 1, cells := 0, slots := 0, locals := 12 } : Room) sS mM #[(.ref a), (.long x)] below meth cC s₁ [] 0 0 := Stand.of_body Bd
  have e0 : s₁.heap = h0 := by rw [← hh, Bd.state]; rfl
  have N0 := Fr.nil n0
  show own_Ends pP eE below (own_Got sS (Q_own_olinit Z a x h0 n0) ({ frames := 1, cells := 0, slots := 0, locals := 12 } : Room).cells ({ frames := 1, cells := 0, slots := 0, locals := 12 } : Room).slots) (s₁.setTop (entryFrame mM #[(.ref a), (.long x)] 3))
  rw [own_ef_own_olinit mM a x]
  refine own_go (fun _ k => XS.aloadN X0.here hx rfl (hb hby own_d7_0) rfl rfl k) ?_
  show own_Ends _ _ _ _ (s₁.setTop (mkF mM 1 #[.val (.ref a), .val (.long x), .second] [(.ref a)]))
  obtain ⟨T1, X1, e1, st1⟩ := initO X0 hx hZ hown (hw _ (List.mem_of_getElem? (i := 41) rfl)) (hw _ (List.mem_of_getElem? (i := 9) rfl)) (hw _ (List.mem_of_getElem? (i := 10) rfl)) e0 (g := (mkF mM 1 #[.val (.ref a), .val (.long x), .second] [(.ref a)])) rfl (by rw [hml]; rfl) rfl (hb hby own_d7_1) (by decide) (W := 0) (by show 2 * 0 + _ ≤ _; exact Nat.le_of_eq rfl) (by decide)
  refine own_go st1 ?_
  show own_Ends _ _ _ _ (T1.setTop (mkF mM 4 #[.val (.ref a), .val (.long x), .second] []))
  refine own_go (fun _ k => XS.aloadN X1.here hx rfl (hb hby own_d7_4) rfl rfl k) ?_
  show own_Ends _ _ _ _ (T1.setTop (mkF mM 5 #[.val (.ref a), .val (.long x), .second] [(.ref a)]))
  refine own_go (fun _ k => XS.iconst X1.here hx rfl (hb hby own_d7_5) k) ?_
  show own_Ends _ _ _ _ (T1.setTop (mkF mM 6 #[.val (.ref a), .val (.long x), .second] [(.int (1 : Int32)), (.ref a)]))
  obtain ⟨T2, h2, X2, e2, W2, st2⟩ := putF X1 hx hZ hown (host := "") (Or.inl (hw _ (List.mem_of_getElem? (i := 28) rfl))) Via.refl e1 F1 E (Or.inr ⟨(hw _ (List.mem_of_getElem? (i := 29) rfl)), rfl, hnm⟩) (hw _ (List.mem_of_getElem? (i := 36) rfl)) (ty := .boolean) (by decide) rfl rfl (g := (mkF mM 6 #[.val (.ref a), .val (.long x), .second] [(.int (1 : Int32)), (.ref a)])) rfl rfl (hb hby own_d7_6)
  have Fw2 := F1.same W2
  have O2 := O0.wr W2 g_a
  have K2 := (Keep.refl h0 [a]).wr W2 (Or.inl (List.mem_of_getElem? (i := 0) rfl))
  have N2 := Fr.snoc X2 N0 g_a
  refine own_go st2 ?_
  show own_Ends _ _ _ _ (T2.setTop (mkF mM 9 #[.val (.ref a), .val (.long x), .second] []))
  refine own_go (fun _ k => XS.aloadN X2.here hx rfl (hb hby own_d7_9) rfl rfl k) ?_
  show own_Ends _ _ _ _ (T2.setTop (mkF mM 10 #[.val (.ref a), .val (.long x), .second] [(.ref a)]))
  refine own_go (fun _ k => XS.lloadN X2.here hx rfl (hb hby own_d7_10) rfl k) ?_
  show own_Ends _ _ _ _ (T2.setTop (mkF mM 11 #[.val (.ref a), .val (.long x), .second] [(.long x), (.ref a)]))
  obtain ⟨T3, h3, X3, e3, W3, st3⟩ := putF X2 hx hZ hown (host := "") (Or.inl (hw _ (List.mem_of_getElem? (i := 42) rfl))) Via.refl e2 (F2.other W2 (Or.inr (slot_ne (Or.inr (hw _ (List.mem_of_getElem? (i := 43) rfl))) (Or.inr (hw _ (List.mem_of_getElem? (i := 29) rfl))) (by decide) (t := .long) (t' := .boolean) (by decide) (by decide)))) (E.wr W2) (Or.inr ⟨(hw _ (List.mem_of_getElem? (i := 43) rfl)), rfl, hnm⟩) (hw _ (List.mem_of_getElem? (i := 36) rfl)) (ty := .long) (by decide) rfl rfl (g := (mkF mM 11 #[.val (.ref a), .val (.long x), .second] [(.long x), (.ref a)])) rfl rfl (hb hby own_d7_11)
  have Fw3 := (F2.other W2 (Or.inr (slot_ne (Or.inr (hw _ (List.mem_of_getElem? (i := 43) rfl))) (Or.inr (hw _ (List.mem_of_getElem? (i := 29) rfl))) (by decide) (t := .long) (t' := .boolean) (by decide) (by decide)))).same W3
  have O3 := O2.wr W3 g_a
  have K3 := K2.wr W3 (Or.inl (List.mem_of_getElem? (i := 0) rfl))
  have N3 := Fr.snoc X3 N2 g_a
  refine own_go st3 ?_
  show own_Ends _ _ _ _ (T3.setTop (mkF mM 14 #[.val (.ref a), .val (.long x), .second] []))
  exact own_retV X3 hx (BodyLoose.notSynchronized Bd) (st := []) Bd.returns (hb hby own_d7_14) (by decide) (by decide) (by rw [e3]; exact ⟨rfl, N3, K3, ((E.wr W2).wr W3), (Fw2.other W3 (Or.inr (slot_ne (Or.inr (hw _ (List.mem_of_getElem? (i := 29) rfl))) (Or.inr (hw _ (List.mem_of_getElem? (i := 43) rfl))) (by decide) (t := .boolean) (t' := .long) (by decide) (by decide)))), Fw3⟩)
theorem own_pd0 : parseMethodDescriptor "(J)V" = some ⟨[.long], none⟩ := by decide +kernel
theorem own_d6_0 : decode jdk_2650_method_4_code 0 = .ok (.new 8, 3) := by decide +kernel
theorem own_d6_3 : decode jdk_2650_method_4_code 3 = .ok (.dup, 1) := by decide +kernel
theorem own_d6_4 : decode jdk_2650_method_4_code 4 = .ok (.lload_n 0, 1) := by decide +kernel
theorem own_d6_5 : decode jdk_2650_method_4_code 5 = .ok (.invokespecial 21, 3) := by decide +kernel
theorem own_d6_8 : decode jdk_2650_method_4_code 8 = .ok (.areturn, 1) := by decide +kernel
theorem own_ef_own_of (m : MethodId) (x0 : Int64) : entryFrame m #[(.long x0)] 2 = mkF m 0 #[.val (.long x0), .second] [] := by first | (simp [entryFrame, mkF, argsToLocals, Value.category]; done) | rfl
def Q_own_of (Z : State) (x : Int64) (h0 : Heap) (n0 : Nat) (v : Option Value) (h : Heap) (L : List Loc) : Prop := ∃ b : Addr, v = some (.ref b) ∧ Fr n0 L ∧ n0 ≤ b ∧ Keep h0 h [] ∧ Exa Z h b "java/util/OptionalLong" ∧ Fld Z h b "java/util/OptionalLong" "isPresent" "Z" (.int (1 : Int32)) ∧ Fld Z h b "java/util/OptionalLong" "value" "J" (.long x)
set_option maxRecDepth 65536 in
set_option maxHeartbeats 40000000 in
theorem own_of (l : Launch) (Z : State) (a0 : Array Value) (hw : ∀ d ∈ tables_1, d.before a0 Z = true) (ws : List Jvm.Cond) (x : Int64) (h0 : Heap) (n0 : Nat) (O0 : Old Z n0 h0) :
    MetFree l (⟨"java/util/OptionalLong", "of", "(J)Ljava/util/OptionalLong;"⟩ : MethodName) (head1 (Jvm.Cond.code (⟨"java/util/OptionalLong", "of", "(J)Ljava/util/OptionalLong;"⟩ : MethodName) jdk_2650_method_4_code 2 (some (.object "java/util/OptionalLong")) :: ws) ({ frames := 2, cells := 1, slots := 2, locals := 27 } : Room)) (fun args_ U => args_ = #[(.long x)] ∧ Z.Warmed39 U.vm ∧ U.heap = h0) (fun _ _ _ _ _ => True) (fun _ U o U' => ∃ v L, o = .returned v ∧ Q_own_of Z x h0 n0 v U'.heap L ∧ FrameEnd U o U' L ({ frames := 2, cells := 1, slots := 2, locals := 27 } : Room).cells ({ frames := 2, cells := 1, slots := 2, locals := 27 } : Room).slots) := by
  refine MetFree.of_bodySF (plainFor_of_name own_pn_java_util_OptionalLong) hisR ?_
  intro pP eE sS mM args below meth cC s₁ Bd hml0 hP hK
  obtain ⟨rfl, hZ, hh⟩ := hP
  have hx := Bd.exec
  have hby := Bd.bytes
  have hml : cC.maxLocals = 2 := hml0
  have hown : sS.vm.findClass "java/util/OptionalLong" = some mM.cls := findClass_of_methodNamed Bd.named
  have hnm := (name_of_methodNamed Bd.named Bd.method).1
  have X0 : Stand pP l eE ({ frames := 2, cells := 1, slots := 2, locals := 27 } : Room) sS mM #[(.long x)] below meth cC s₁ [] 0 0 := Stand.of_body Bd
  have e0 : s₁.heap = h0 := by rw [← hh, Bd.state]; rfl
  have N0 := Fr.nil n0
  show own_Ends pP eE below (own_Got sS (Q_own_of Z x h0 n0) ({ frames := 2, cells := 1, slots := 2, locals := 27 } : Room).cells ({ frames := 2, cells := 1, slots := 2, locals := 27 } : Room).slots) (s₁.setTop (entryFrame mM #[(.long x)] 2))
  rw [own_ef_own_of mM x]
  obtain ⟨T1, h1, X1, e1, E1, A1, D1, -, st1⟩ := newO X0 hx hZ hown (hw _ (List.mem_of_getElem? (i := 35) rfl)) (hw _ (List.mem_of_getElem? (i := 36) rfl)) (hw _ (List.mem_of_getElem? (i := 20) rfl)) e0 (g := (mkF mM 0 #[.val (.long x), .second] [])) rfl (hb hby own_d6_0) (by decide) (by decide)
  obtain ⟨b1, g1⟩ : ∃ z, z = h0.size := ⟨_, rfl⟩
  rw [← g1] at A1 D1 st1
  have O1 := O0.ext E1
  have g_b1 : n0 ≤ b1 := by rw [g1, ← O0.1]; exact O0.2.1
  have sz_b1 : h0.size ≤ b1 := Nat.le_trans (Keep.refl h0 []).1 (Nat.le_of_eq g1.symm)
  have K1 := (Keep.refl h0 []).ext E1
  have E_b1 : Exa Z h1 b1 "java/util/OptionalLong" := A1
  have F_isPresent_b1 : Fld Z h1 b1 "java/util/OptionalLong" "isPresent" "Z" (.int (0 : Int32)) := D1 (Or.inr (hw _ (List.mem_of_getElem? (i := 29) rfl))) (ty := .boolean) (by decide)
  have F_value_b1 : Fld Z h1 b1 "java/util/OptionalLong" "value" "J" (.long (0 : Int64)) := D1 (Or.inr (hw _ (List.mem_of_getElem? (i := 43) rfl))) (ty := .long) (by decide)
  refine own_go st1 ?_
  show own_Ends _ _ _ _ (T1.setTop (mkF mM 3 #[.val (.long x), .second] [(.ref b1)]))
  refine own_go (fun _ k => XS.dup X1.here hx rfl (hb hby own_d6_3) rfl rfl k) ?_
  show own_Ends _ _ _ _ (T1.setTop (mkF mM 4 #[.val (.long x), .second] [(.ref b1), (.ref b1)]))
  refine own_go (fun _ k => XS.lloadN X1.here hx rfl (hb hby own_d6_4) rfl k) ?_
  show own_Ends _ _ _ _ (T1.setTop (mkF mM 5 #[.val (.long x), .second] [(.long x), (.ref b1), (.ref b1)]))
  obtain ⟨_, _, ⟨T2, Lz2, kz2, nz2⟩, -, X2, ⟨Lc2, hQ2, l2, y2, z2⟩, st2⟩ := X1.specialBack hx (y := (⟨"java/util/OptionalLong", "<init>", "(J)V"⟩ : MethodName)) rfl hown (mvT hZ (hw _ (List.mem_of_getElem? (i := 37) rfl))) (mvT hZ (hw _ (List.mem_of_getElem? (i := 38) rfl))) (mvT hZ (hw _ (List.mem_of_getElem? (i := 40) rfl))) (by decide) (backOf (W := 1) (own_olinit l Z a0 hw [] b1 x h1 n0 O1 g_b1 E_b1 F_isPresent_b1 F_value_b1) hZ (hw _ (List.mem_of_getElem? (i := 40) rfl)) (hw _ (List.mem_of_getElem? (i := 20) rfl)) (by decide) (by decide)) (g := (mkF mM 5 #[.val (.long x), .second] [(.long x), (.ref b1), (.ref b1)])) rfl (by rw [hml]; rfl) (Steps.refl _) (a := b1) (argsL := [(.long x)]) (rest := [(.ref b1)]) (lenOf own_pd0 rfl) rfl (by show 2 * 0 + _ ≤ _; exact Nat.le_of_eq rfl) (hb hby own_d6_5) (fun _ _ => ⟨rfl, e1, (by decide : 1 + 0 ≤ _), (by decide : 2 + 0 ≤ _)⟩)
  dsimp only [Pt.U, Pt.locs, Pt.cells, Pt.slots] at X2 l2 y2 z2 st2 hQ2
  subst l2 y2 z2
  obtain ⟨rfl, Nq2, K2, E_b1_2, F1_b1_2, F2_b1_2⟩ := hQ2
  have N2 := Fr.app N0 Nq2
  have O2 := O1.keep K2 (allS g_b1 all0)
  have Kk2 := K1.trans K2 (allS (Or.inr sz_b1) (all0))
  refine own_tr st2 ?_
  show own_Ends _ _ _ _ (T2.setTop (mkF mM 8 #[.val (.long x), .second] [(.ref b1)]))
  exact own_retR X2 hx (BodyLoose.notSynchronized Bd) Bd.returns rfl rfl (hb hby own_d6_8) (by decide) (by decide) (⟨b1, rfl, N2, g_b1, Kk2, E_b1_2, F1_b1_2, F2_b1_2⟩)
theorem own_d1_0 : decode prog_27_method_1_code 0 = .ok (.aload_n 0, 1) := by decide +kernel
theorem own_d1_1 : decode prog_27_method_1_code 1 = .ok (.invokespecial 1, 3) := by decide +kernel
theorem own_d1_4 : decode prog_27_method_1_code 4 = .ok (.lload_n 1, 1) := by decide +kernel
theorem own_d1_5 : decode prog_27_method_1_code 5 = .ok (.lconst 0, 1) := by decide +kernel
theorem own_d1_6 : decode prog_27_method_1_code 6 = .ok (.lcmp, 1) := by decide +kernel
theorem own_d1_7 : decode prog_27_method_1_code 7 = .ok (.ifCond .ge 17, 3) := by decide +kernel
theorem own_d1_24 : decode prog_27_method_1_code 24 = .ok (.aload_n 0, 1) := by decide +kernel
theorem own_d1_25 : decode prog_27_method_1_code 25 = .ok (.lload_n 1, 1) := by decide +kernel
theorem own_d1_26 : decode prog_27_method_1_code 26 = .ok (.putfield 16, 3) := by decide +kernel
theorem own_d1_29 : decode prog_27_method_1_code 29 = .ok (.return_, 1) := by decide +kernel
theorem own_ef_own_tinit (m : MethodId) (x0 : Addr) (x1 : Int64) : entryFrame m #[(.ref x0), (.long x1)] 3 = mkF m 0 #[.val (.ref x0), .val (.long x1), .second] [] := by first | (simp [entryFrame, mkF, argsToLocals, Value.category]; done) | rfl
def Q_own_tinit (Z : State) (a : Addr) (q : Int64) (h0 : Heap) (n0 : Nat) (v : Option Value) (h : Heap) (L : List Loc) : Prop := v = none ∧ Fr n0 L ∧ Keep h0 h [a] ∧ Exa Z h a "com/example/contention/contention/Take" ∧ Fld Z h a "com/example/contention/contention/Take" "quantity" "J" (.long q)
theorem own_pn_com_example_contention_contention_Take : plainName "com/example/contention/contention/Take" = true := by first | (simp [plainName, overriddenIn]; done) | decide +kernel
set_option maxRecDepth 65536 in
set_option maxHeartbeats 40000000 in
theorem own_tinit (l : Launch) (Z : State) (a0 : Array Value) (hw : ∀ d ∈ tables_1, d.before a0 Z = true) (ws : List Jvm.Cond) (a : Addr) (q : Int64) (h0 : Heap) (n0 : Nat) (O0 : Old Z n0 h0) (g_a : n0 ≤ a) (E : Exa Z h0 a "com/example/contention/contention/Take") (F : Fld Z h0 a "com/example/contention/contention/Take" "quantity" "J" (.long (0 : Int64))) (hq : ¬ q < (0 : Int64)) :
    MetFree l (⟨"com/example/contention/contention/Take", "<init>", "(J)V"⟩ : MethodName) (head1 (Jvm.Cond.code (⟨"com/example/contention/contention/Take", "<init>", "(J)V"⟩ : MethodName) prog_27_method_1_code 3 none :: ws) ({ frames := 1, cells := 0, slots := 0, locals := 12 } : Room)) (fun args_ U => args_ = #[(.ref a), (.long q)] ∧ Z.Warmed39 U.vm ∧ U.heap = h0) (fun _ _ _ _ _ => True) (fun _ U o U' => ∃ v L, o = .returned v ∧ Q_own_tinit Z a q h0 n0 v U'.heap L ∧ FrameEnd U o U' L ({ frames := 1, cells := 0, slots := 0, locals := 12 } : Room).cells ({ frames := 1, cells := 0, slots := 0, locals := 12 } : Room).slots) := by
  refine MetFree.of_bodySF (plainFor_of_name own_pn_com_example_contention_contention_Take) hisR ?_
  intro pP eE sS mM args below meth cC s₁ Bd hml0 hP hK
  obtain ⟨rfl, hZ, hh⟩ := hP
  have hx := Bd.exec
  have hby := Bd.bytes
  have hml : cC.maxLocals = 3 := hml0
  have hown : sS.vm.findClass "com/example/contention/contention/Take" = some mM.cls := findClass_of_methodNamed Bd.named
  have hnm := (name_of_methodNamed Bd.named Bd.method).1
  have X0 : Stand pP l eE ({ frames := 1, cells := 0, slots := 0, locals := 12 } : Room) sS mM #[(.ref a), (.long q)] below meth cC s₁ [] 0 0 := Stand.of_body Bd
  have e0 : s₁.heap = h0 := by rw [← hh, Bd.state]; rfl
  have N0 := Fr.nil n0
  show own_Ends pP eE below (own_Got sS (Q_own_tinit Z a q h0 n0) ({ frames := 1, cells := 0, slots := 0, locals := 12 } : Room).cells ({ frames := 1, cells := 0, slots := 0, locals := 12 } : Room).slots) (s₁.setTop (entryFrame mM #[(.ref a), (.long q)] 3))
  rw [own_ef_own_tinit mM a q]
  refine own_go (fun _ k => XS.aloadN X0.here hx rfl (hb hby own_d1_0) rfl rfl k) ?_
  show own_Ends _ _ _ _ (s₁.setTop (mkF mM 1 #[.val (.ref a), .val (.long q), .second] [(.ref a)]))
  obtain ⟨T1, X1, e1, st1⟩ := initO X0 hx hZ hown (hw _ (List.mem_of_getElem? (i := 8) rfl)) (hw _ (List.mem_of_getElem? (i := 9) rfl)) (hw _ (List.mem_of_getElem? (i := 10) rfl)) e0 (g := (mkF mM 1 #[.val (.ref a), .val (.long q), .second] [(.ref a)])) rfl (by rw [hml]; rfl) rfl (hb hby own_d1_1) (by decide) (W := 0) (by show 2 * 0 + _ ≤ _; exact Nat.le_of_eq rfl) (by decide)
  refine own_go st1 ?_
  show own_Ends _ _ _ _ (T1.setTop (mkF mM 4 #[.val (.ref a), .val (.long q), .second] []))
  refine own_go (fun _ k => XS.lloadN X1.here hx rfl (hb hby own_d1_4) rfl k) ?_
  show own_Ends _ _ _ _ (T1.setTop (mkF mM 5 #[.val (.ref a), .val (.long q), .second] [(.long q)]))
  refine own_go (fun _ k => XS.lconst X1.here hx rfl (hb hby own_d1_5) k) ?_
  show own_Ends _ _ _ _ (T1.setTop (mkF mM 6 #[.val (.ref a), .val (.long q), .second] [(.long (0 : Int64)), (.long q)]))
  refine own_go (fun _ k => XS.lcmp X1.here hx rfl (hb hby own_d1_6) rfl k) ?_
  show own_Ends _ _ _ _ (T1.setTop (mkF mM 7 #[.val (.ref a), .val (.long q), .second] [(.int (lcmpW q (0 : Int64)))]))
  refine own_go (fun _ k => XS.ifYes X1.here hx rfl (pc0 := 7) (pc' := 24) rfl (hb hby own_d1_7) rfl ((if0 _ _).trans (flt (mt (lw_lt q (0 : Int64)).mp hq)).2.1) (by decide) (by decide) k) ?_
  show own_Ends _ _ _ _ (T1.setTop (mkF mM 24 #[.val (.ref a), .val (.long q), .second] []))
  refine own_go (fun _ k => XS.aloadN X1.here hx rfl (hb hby own_d1_24) rfl rfl k) ?_
  show own_Ends _ _ _ _ (T1.setTop (mkF mM 25 #[.val (.ref a), .val (.long q), .second] [(.ref a)]))
  refine own_go (fun _ k => XS.lloadN X1.here hx rfl (hb hby own_d1_25) rfl k) ?_
  show own_Ends _ _ _ _ (T1.setTop (mkF mM 26 #[.val (.ref a), .val (.long q), .second] [(.long q), (.ref a)]))
  obtain ⟨T2, h2, X2, e2, W2, st2⟩ := putF X1 hx hZ hown (host := "") (Or.inl (hw _ (List.mem_of_getElem? (i := 11) rfl))) Via.refl e1 F E (Or.inr ⟨(hw _ (List.mem_of_getElem? (i := 12) rfl)), rfl, hnm⟩) (hw _ (List.mem_of_getElem? (i := 3) rfl)) (ty := .long) (by decide) rfl rfl (g := (mkF mM 26 #[.val (.ref a), .val (.long q), .second] [(.long q), (.ref a)])) rfl rfl (hb hby own_d1_26)
  have Fw2 := F.same W2
  have O2 := O0.wr W2 g_a
  have K2 := (Keep.refl h0 [a]).wr W2 (Or.inl (List.mem_of_getElem? (i := 0) rfl))
  have N2 := Fr.snoc X2 N0 g_a
  refine own_go st2 ?_
  show own_Ends _ _ _ _ (T2.setTop (mkF mM 29 #[.val (.ref a), .val (.long q), .second] []))
  exact own_retV X2 hx (BodyLoose.notSynchronized Bd) (st := []) Bd.returns (hb hby own_d1_29) (by decide) (by decide) (by rw [e2]; exact ⟨rfl, N2, K2, (E.wr W2), Fw2⟩)
theorem own_pd1 : parseMethodDescriptor "()Ljava/util/OptionalLong;" = some ⟨[], some (.object "java/util/OptionalLong")⟩ := by decide +kernel
theorem own_pd2 : parseMethodDescriptor "(J)Ljava/util/OptionalLong;" = some ⟨[.long], some (.object "java/util/OptionalLong")⟩ := by decide +kernel
theorem own_d3_0 : decode prog_27_method_3_code 0 = .ok (.invokestatic 22, 3) := by decide +kernel
theorem own_d3_3 : decode prog_27_method_3_code 3 = .ok (.astore_n 3, 1) := by decide +kernel
theorem own_d3_4 : decode prog_27_method_3_code 4 = .ok (.lload_n 1, 1) := by decide +kernel
theorem own_d3_5 : decode prog_27_method_3_code 5 = .ok (.aload_n 0, 1) := by decide +kernel
theorem own_d3_6 : decode prog_27_method_3_code 6 = .ok (.getfield 16, 3) := by decide +kernel
theorem own_d3_9 : decode prog_27_method_3_code 9 = .ok (.lcmp, 1) := by decide +kernel
theorem own_d3_10 : decode prog_27_method_3_code 10 = .ok (.ifCond .lt 13, 3) := by decide +kernel
theorem own_d3_13 : decode prog_27_method_3_code 13 = .ok (.lload_n 1, 1) := by decide +kernel
theorem own_d3_14 : decode prog_27_method_3_code 14 = .ok (.aload_n 0, 1) := by decide +kernel
theorem own_d3_15 : decode prog_27_method_3_code 15 = .ok (.getfield 16, 3) := by decide +kernel
theorem own_d3_18 : decode prog_27_method_3_code 18 = .ok (.lsub, 1) := by decide +kernel
theorem own_d3_19 : decode prog_27_method_3_code 19 = .ok (.invokestatic 28, 3) := by decide +kernel
theorem own_d3_22 : decode prog_27_method_3_code 22 = .ok (.astore_n 3, 1) := by decide +kernel
theorem own_d3_23 : decode prog_27_method_3_code 23 = .ok (.aload_n 3, 1) := by decide +kernel
theorem own_d3_24 : decode prog_27_method_3_code 24 = .ok (.areturn, 1) := by decide +kernel
theorem own_ef_own_apply1 (m : MethodId) (x0 : Addr) (x1 : Int64) : entryFrame m #[(.ref x0), (.long x1)] 4 = mkF m 0 #[.val (.ref x0), .val (.long x1), .second, .unset] [] := by first | (simp [entryFrame, mkF, argsToLocals, Value.category]; done) | rfl
def Q_own_apply1 (Z : State) (a : Addr) (k1 : Int64) (q : Int64) (a_EMPTY : Addr) (h0 : Heap) (n0 : Nat) (v : Option Value) (h : Heap) (L : List Loc) : Prop := ∃ b : Addr, v = some (.ref b) ∧ Fr n0 L ∧ n0 ≤ b ∧ Keep h0 h [] ∧ Exa Z h b "java/util/OptionalLong" ∧ Fld Z h b "java/util/OptionalLong" "isPresent" "Z" (.int (1 : Int32)) ∧ Fld Z h b "java/util/OptionalLong" "value" "J" (.long (k1 - q))
set_option maxRecDepth 65536 in
set_option maxHeartbeats 40000000 in
theorem own_apply1 (l : Launch) (Z : State) (a0 : Array Value) (hw : ∀ d ∈ tables_1, d.before a0 Z = true) (ws : List Jvm.Cond) (a : Addr) (k1 : Int64) (q : Int64) (a_EMPTY : Addr) (h0 : Heap) (n0 : Nat) (O0 : Old Z n0 h0) (S_EMPTY : Sta Z Z.heap "java/util/OptionalLong" "EMPTY" "Ljava/util/OptionalLong;" (.ref a_EMPTY)) (F : Fld Z h0 a "com/example/contention/contention/Take" "quantity" "J" (.long q)) (hk : ¬ k1 < q) :
    MetFree l (⟨"com/example/contention/contention/Take", "apply", "(J)Ljava/util/OptionalLong;"⟩ : MethodName) (head1 (Jvm.Cond.code (⟨"com/example/contention/contention/Take", "apply", "(J)Ljava/util/OptionalLong;"⟩ : MethodName) prog_27_method_3_code 4 (some (.object "java/util/OptionalLong")) :: ws) ({ frames := 3, cells := 1, slots := 2, locals := 40 } : Room)) (fun args_ U => args_ = #[(.ref a), (.long k1)] ∧ Z.Warmed39 U.vm ∧ U.heap = h0) (fun _ _ _ _ _ => True) (fun _ U o U' => ∃ v L, o = .returned v ∧ Q_own_apply1 Z a k1 q a_EMPTY h0 n0 v U'.heap L ∧ FrameEnd U o U' L ({ frames := 3, cells := 1, slots := 2, locals := 40 } : Room).cells ({ frames := 3, cells := 1, slots := 2, locals := 40 } : Room).slots) := by
  refine MetFree.of_bodySF (plainFor_of_name own_pn_com_example_contention_contention_Take) hisR ?_
  intro pP eE sS mM args below meth cC s₁ Bd hml0 hP hK
  obtain ⟨rfl, hZ, hh⟩ := hP
  have hx := Bd.exec
  have hby := Bd.bytes
  have hml : cC.maxLocals = 4 := hml0
  have hown : sS.vm.findClass "com/example/contention/contention/Take" = some mM.cls := findClass_of_methodNamed Bd.named
  have hnm := (name_of_methodNamed Bd.named Bd.method).1
  have X0 : Stand pP l eE ({ frames := 3, cells := 1, slots := 2, locals := 40 } : Room) sS mM #[(.ref a), (.long k1)] below meth cC s₁ [] 0 0 := Stand.of_body Bd
  have e0 : s₁.heap = h0 := by rw [← hh, Bd.state]; rfl
  have N0 := Fr.nil n0
  show own_Ends pP eE below (own_Got sS (Q_own_apply1 Z a k1 q a_EMPTY h0 n0) ({ frames := 3, cells := 1, slots := 2, locals := 40 } : Room).cells ({ frames := 3, cells := 1, slots := 2, locals := 40 } : Room).slots) (s₁.setTop (entryFrame mM #[(.ref a), (.long k1)] 4))
  rw [own_ef_own_apply1 mM a k1]
  obtain ⟨_, _, ⟨T1, Lz1, kz1, nz1⟩, -, X1, ⟨Lc1, hQ1, l1, y1, z1⟩, st1⟩ := Jvm.LawKit.callS X0 hx (y := (⟨"java/util/OptionalLong", "empty", "()Ljava/util/OptionalLong;"⟩ : MethodName)) hown (mvT hZ (hw _ (List.mem_of_getElem? (i := 18) rfl))) (mvT hZ (hw _ (List.mem_of_getElem? (i := 19) rfl))) (mvT hZ (hw _ (List.mem_of_getElem? (i := 20) rfl))) (mvT hZ (hw _ (List.mem_of_getElem? (i := 21) rfl))) (by decide) (backOf (W := 0) (own_empty l Z a0 hw [] a_EMPTY h0 n0 O0 S_EMPTY) hZ (hw _ (List.mem_of_getElem? (i := 21) rfl)) (hw _ (List.mem_of_getElem? (i := 20) rfl)) (by decide) (by decide)) (g := (mkF mM 0 #[.val (.ref a), .val (.long k1), .second, .unset] [])) rfl (by rw [hml]; rfl) (argsL := []) (rest := []) (lenOf own_pd1 rfl) rfl (by show 2 * 0 + _ ≤ _; exact Nat.le_of_eq rfl) (hb hby own_d3_0) (fun _ _ => ⟨rfl, e0, (by decide : 0 + 0 ≤ _), (by decide : 0 + 0 ≤ _)⟩)
  dsimp only [Pt.U, Pt.locs, Pt.cells, Pt.slots] at X1 l1 y1 z1 st1 hQ1
  subst l1 y1 z1
  obtain ⟨rfl, Nq1, e1⟩ := hQ1
  have N1 := Fr.app N0 Nq1
  refine own_go st1 ?_
  show own_Ends _ _ _ _ (T1.setTop (mkF mM 3 #[.val (.ref a), .val (.long k1), .second, .unset] [(.ref a_EMPTY)]))
  refine own_go (fun _ k => XS.astoreN X1.here hx rfl (hb hby own_d3_3) rfl rfl (l' := #[.val (.ref a), .val (.long k1), .second, .val (.ref a_EMPTY)]) rfl k) ?_
  show own_Ends _ _ _ _ (T1.setTop (mkF mM 4 #[.val (.ref a), .val (.long k1), .second, .val (.ref a_EMPTY)] []))
  refine own_go (fun _ k => XS.lloadN X1.here hx rfl (hb hby own_d3_4) rfl k) ?_
  show own_Ends _ _ _ _ (T1.setTop (mkF mM 5 #[.val (.ref a), .val (.long k1), .second, .val (.ref a_EMPTY)] [(.long k1)]))
  refine own_go (fun _ k => XS.aloadN X1.here hx rfl (hb hby own_d3_5) rfl rfl k) ?_
  show own_Ends _ _ _ _ (T1.setTop (mkF mM 6 #[.val (.ref a), .val (.long k1), .second, .val (.ref a_EMPTY)] [(.ref a), (.long k1)]))
  obtain ⟨T2, X2, e2, st2⟩ := getF X1 hx hZ hown (host := "") (Or.inl (hw _ (List.mem_of_getElem? (i := 11) rfl))) Via.refl e1 F (g := (mkF mM 6 #[.val (.ref a), .val (.long k1), .second, .val (.ref a_EMPTY)] [(.ref a), (.long k1)])) rfl rfl (hb hby own_d3_6)
  refine own_go st2 ?_
  show own_Ends _ _ _ _ (T2.setTop (mkF mM 9 #[.val (.ref a), .val (.long k1), .second, .val (.ref a_EMPTY)] [(.long q), (.long k1)]))
  refine own_go (fun _ k => XS.lcmp X2.here hx rfl (hb hby own_d3_9) rfl k) ?_
  show own_Ends _ _ _ _ (T2.setTop (mkF mM 10 #[.val (.ref a), .val (.long k1), .second, .val (.ref a_EMPTY)] [(.int (lcmpW k1 q))]))
  refine own_go (fun _ k => XS.ifNo X2.here hx rfl (hb hby own_d3_10) rfl ((if0 _ _).trans (flt (mt (lw_lt k1 q).mp hk)).1) k) ?_
  show own_Ends _ _ _ _ (T2.setTop (mkF mM 13 #[.val (.ref a), .val (.long k1), .second, .val (.ref a_EMPTY)] []))
  refine own_go (fun _ k => XS.lloadN X2.here hx rfl (hb hby own_d3_13) rfl k) ?_
  show own_Ends _ _ _ _ (T2.setTop (mkF mM 14 #[.val (.ref a), .val (.long k1), .second, .val (.ref a_EMPTY)] [(.long k1)]))
  refine own_go (fun _ k => XS.aloadN X2.here hx rfl (hb hby own_d3_14) rfl rfl k) ?_
  show own_Ends _ _ _ _ (T2.setTop (mkF mM 15 #[.val (.ref a), .val (.long k1), .second, .val (.ref a_EMPTY)] [(.ref a), (.long k1)]))
  obtain ⟨T3, X3, e3, st3⟩ := getF X2 hx hZ hown (host := "") (Or.inl (hw _ (List.mem_of_getElem? (i := 11) rfl))) Via.refl e2 F (g := (mkF mM 15 #[.val (.ref a), .val (.long k1), .second, .val (.ref a_EMPTY)] [(.ref a), (.long k1)])) rfl rfl (hb hby own_d3_15)
  refine own_go st3 ?_
  show own_Ends _ _ _ _ (T3.setTop (mkF mM 18 #[.val (.ref a), .val (.long k1), .second, .val (.ref a_EMPTY)] [(.long q), (.long k1)]))
  refine own_go (fun _ k => XS.lsub X3.here hx rfl (hb hby own_d3_18) rfl k) ?_
  show own_Ends _ _ _ _ (T3.setTop (mkF mM 19 #[.val (.ref a), .val (.long k1), .second, .val (.ref a_EMPTY)] [(.long (k1 - q))]))
  obtain ⟨_, _, ⟨T4, Lz4, kz4, nz4⟩, -, X4, ⟨Lc4, hQ4, l4, y4, z4⟩, st4⟩ := Jvm.LawKit.callS X3 hx (y := (⟨"java/util/OptionalLong", "of", "(J)Ljava/util/OptionalLong;"⟩ : MethodName)) hown (mvT hZ (hw _ (List.mem_of_getElem? (i := 32) rfl))) (mvT hZ (hw _ (List.mem_of_getElem? (i := 33) rfl))) (mvT hZ (hw _ (List.mem_of_getElem? (i := 20) rfl))) (mvT hZ (hw _ (List.mem_of_getElem? (i := 34) rfl))) (by decide) (backOf (W := 0) (own_of l Z a0 hw [] (k1 - q) h0 n0 O0) hZ (hw _ (List.mem_of_getElem? (i := 34) rfl)) (hw _ (List.mem_of_getElem? (i := 20) rfl)) (by decide) (by decide)) (g := (mkF mM 19 #[.val (.ref a), .val (.long k1), .second, .val (.ref a_EMPTY)] [(.long (k1 - q))])) rfl (by rw [hml]; rfl) (argsL := [(.long (k1 - q))]) (rest := []) (lenOf own_pd2 rfl) rfl (by show 2 * 0 + _ ≤ _; exact Nat.le_of_eq rfl) (hb hby own_d3_19) (fun _ _ => ⟨rfl, e3, (by decide : 0 + 1 ≤ _), (by decide : 0 + 2 ≤ _)⟩)
  dsimp only [Pt.U, Pt.locs, Pt.cells, Pt.slots] at X4 l4 y4 z4 st4 hQ4
  subst l4 y4 z4
  obtain ⟨c4, rfl, Nq4, g_c4, K4, E_c4, F1_c4, F2_c4⟩ := hQ4
  have N4 := Fr.app N1 Nq4
  have O4 := O0.keep K4 all0
  have Kk4 := (Keep.refl h0 []).trans K4 (all0)
  refine own_go st4 ?_
  show own_Ends _ _ _ _ (T4.setTop (mkF mM 22 #[.val (.ref a), .val (.long k1), .second, .val (.ref a_EMPTY)] [(.ref c4)]))
  refine own_go (fun _ k => XS.astoreN X4.here hx rfl (hb hby own_d3_22) rfl rfl (l' := #[.val (.ref a), .val (.long k1), .second, .val (.ref c4)]) rfl k) ?_
  show own_Ends _ _ _ _ (T4.setTop (mkF mM 23 #[.val (.ref a), .val (.long k1), .second, .val (.ref c4)] []))
  refine own_go (fun _ k => XS.aloadN X4.here hx rfl (hb hby own_d3_23) rfl rfl k) ?_
  show own_Ends _ _ _ _ (T4.setTop (mkF mM 24 #[.val (.ref a), .val (.long k1), .second, .val (.ref c4)] [(.ref c4)]))
  exact own_retR X4 hx (BodyLoose.notSynchronized Bd) Bd.returns rfl rfl (hb hby own_d3_24) (by decide) (by decide) (⟨c4, rfl, N4, g_c4, Kk4, E_c4, F1_c4, F2_c4⟩)
theorem own_ef_own_apply0 (m : MethodId) (x0 : Addr) (x1 : Int64) : entryFrame m #[(.ref x0), (.long x1)] 4 = mkF m 0 #[.val (.ref x0), .val (.long x1), .second, .unset] [] := by first | (simp [entryFrame, mkF, argsToLocals, Value.category]; done) | rfl
def Q_own_apply0 (Z : State) (a : Addr) (k1 : Int64) (q : Int64) (a_EMPTY : Addr) (h0 : Heap) (n0 : Nat) (v : Option Value) (h : Heap) (L : List Loc) : Prop := v = some (.ref a_EMPTY) ∧ Fr n0 L ∧ h = h0
set_option maxRecDepth 65536 in
set_option maxHeartbeats 40000000 in
theorem own_apply0 (l : Launch) (Z : State) (a0 : Array Value) (hw : ∀ d ∈ tables_1, d.before a0 Z = true) (ws : List Jvm.Cond) (a : Addr) (k1 : Int64) (q : Int64) (a_EMPTY : Addr) (h0 : Heap) (n0 : Nat) (O0 : Old Z n0 h0) (S_EMPTY : Sta Z Z.heap "java/util/OptionalLong" "EMPTY" "Ljava/util/OptionalLong;" (.ref a_EMPTY)) (F : Fld Z h0 a "com/example/contention/contention/Take" "quantity" "J" (.long q)) (hk : k1 < q) :
    MetFree l (⟨"com/example/contention/contention/Take", "apply", "(J)Ljava/util/OptionalLong;"⟩ : MethodName) (head1 (Jvm.Cond.code (⟨"com/example/contention/contention/Take", "apply", "(J)Ljava/util/OptionalLong;"⟩ : MethodName) prog_27_method_3_code 4 (some (.object "java/util/OptionalLong")) :: ws) ({ frames := 1, cells := 0, slots := 0, locals := 11 } : Room)) (fun args_ U => args_ = #[(.ref a), (.long k1)] ∧ Z.Warmed39 U.vm ∧ U.heap = h0) (fun _ _ _ _ _ => True) (fun _ U o U' => ∃ v L, o = .returned v ∧ Q_own_apply0 Z a k1 q a_EMPTY h0 n0 v U'.heap L ∧ FrameEnd U o U' L ({ frames := 1, cells := 0, slots := 0, locals := 11 } : Room).cells ({ frames := 1, cells := 0, slots := 0, locals := 11 } : Room).slots) := by
  refine MetFree.of_bodySF (plainFor_of_name own_pn_com_example_contention_contention_Take) hisR ?_
  intro pP eE sS mM args below meth cC s₁ Bd hml0 hP hK
  obtain ⟨rfl, hZ, hh⟩ := hP
  have hx := Bd.exec
  have hby := Bd.bytes
  have hml : cC.maxLocals = 4 := hml0
  have hown : sS.vm.findClass "com/example/contention/contention/Take" = some mM.cls := findClass_of_methodNamed Bd.named
  have hnm := (name_of_methodNamed Bd.named Bd.method).1
  have X0 : Stand pP l eE ({ frames := 1, cells := 0, slots := 0, locals := 11 } : Room) sS mM #[(.ref a), (.long k1)] below meth cC s₁ [] 0 0 := Stand.of_body Bd
  have e0 : s₁.heap = h0 := by rw [← hh, Bd.state]; rfl
  have N0 := Fr.nil n0
  show own_Ends pP eE below (own_Got sS (Q_own_apply0 Z a k1 q a_EMPTY h0 n0) ({ frames := 1, cells := 0, slots := 0, locals := 11 } : Room).cells ({ frames := 1, cells := 0, slots := 0, locals := 11 } : Room).slots) (s₁.setTop (entryFrame mM #[(.ref a), (.long k1)] 4))
  rw [own_ef_own_apply0 mM a k1]
  obtain ⟨_, _, ⟨T1, Lz1, kz1, nz1⟩, -, X1, ⟨Lc1, hQ1, l1, y1, z1⟩, st1⟩ := Jvm.LawKit.callS X0 hx (y := (⟨"java/util/OptionalLong", "empty", "()Ljava/util/OptionalLong;"⟩ : MethodName)) hown (mvT hZ (hw _ (List.mem_of_getElem? (i := 18) rfl))) (mvT hZ (hw _ (List.mem_of_getElem? (i := 19) rfl))) (mvT hZ (hw _ (List.mem_of_getElem? (i := 20) rfl))) (mvT hZ (hw _ (List.mem_of_getElem? (i := 21) rfl))) (by decide) (backOf (W := 0) (own_empty l Z a0 hw [] a_EMPTY h0 n0 O0 S_EMPTY) hZ (hw _ (List.mem_of_getElem? (i := 21) rfl)) (hw _ (List.mem_of_getElem? (i := 20) rfl)) (by decide) (by decide)) (g := (mkF mM 0 #[.val (.ref a), .val (.long k1), .second, .unset] [])) rfl (by rw [hml]; rfl) (argsL := []) (rest := []) (lenOf own_pd1 rfl) rfl (by show 2 * 0 + _ ≤ _; exact Nat.le_of_eq rfl) (hb hby own_d3_0) (fun _ _ => ⟨rfl, e0, (by decide : 0 + 0 ≤ _), (by decide : 0 + 0 ≤ _)⟩)
  dsimp only [Pt.U, Pt.locs, Pt.cells, Pt.slots] at X1 l1 y1 z1 st1 hQ1
  subst l1 y1 z1
  obtain ⟨rfl, Nq1, e1⟩ := hQ1
  have N1 := Fr.app N0 Nq1
  refine own_go st1 ?_
  show own_Ends _ _ _ _ (T1.setTop (mkF mM 3 #[.val (.ref a), .val (.long k1), .second, .unset] [(.ref a_EMPTY)]))
  refine own_go (fun _ k => XS.astoreN X1.here hx rfl (hb hby own_d3_3) rfl rfl (l' := #[.val (.ref a), .val (.long k1), .second, .val (.ref a_EMPTY)]) rfl k) ?_
  show own_Ends _ _ _ _ (T1.setTop (mkF mM 4 #[.val (.ref a), .val (.long k1), .second, .val (.ref a_EMPTY)] []))
  refine own_go (fun _ k => XS.lloadN X1.here hx rfl (hb hby own_d3_4) rfl k) ?_
  show own_Ends _ _ _ _ (T1.setTop (mkF mM 5 #[.val (.ref a), .val (.long k1), .second, .val (.ref a_EMPTY)] [(.long k1)]))
  refine own_go (fun _ k => XS.aloadN X1.here hx rfl (hb hby own_d3_5) rfl rfl k) ?_
  show own_Ends _ _ _ _ (T1.setTop (mkF mM 6 #[.val (.ref a), .val (.long k1), .second, .val (.ref a_EMPTY)] [(.ref a), (.long k1)]))
  obtain ⟨T2, X2, e2, st2⟩ := getF X1 hx hZ hown (host := "") (Or.inl (hw _ (List.mem_of_getElem? (i := 11) rfl))) Via.refl e1 F (g := (mkF mM 6 #[.val (.ref a), .val (.long k1), .second, .val (.ref a_EMPTY)] [(.ref a), (.long k1)])) rfl rfl (hb hby own_d3_6)
  refine own_go st2 ?_
  show own_Ends _ _ _ _ (T2.setTop (mkF mM 9 #[.val (.ref a), .val (.long k1), .second, .val (.ref a_EMPTY)] [(.long q), (.long k1)]))
  refine own_go (fun _ k => XS.lcmp X2.here hx rfl (hb hby own_d3_9) rfl k) ?_
  show own_Ends _ _ _ _ (T2.setTop (mkF mM 10 #[.val (.ref a), .val (.long k1), .second, .val (.ref a_EMPTY)] [(.int (lcmpW k1 q))]))
  refine own_go (fun _ k => XS.ifYes X2.here hx rfl (pc0 := 10) (pc' := 23) rfl (hb hby own_d3_10) rfl ((if0 _ _).trans (tlt ((lw_lt k1 q).mpr hk)).1) (by decide) (by decide) k) ?_
  show own_Ends _ _ _ _ (T2.setTop (mkF mM 23 #[.val (.ref a), .val (.long k1), .second, .val (.ref a_EMPTY)] []))
  refine own_go (fun _ k => XS.aloadN X2.here hx rfl (hb hby own_d3_23) rfl rfl k) ?_
  show own_Ends _ _ _ _ (T2.setTop (mkF mM 24 #[.val (.ref a), .val (.long k1), .second, .val (.ref a_EMPTY)] [(.ref a_EMPTY)]))
  exact own_retR X2 hx (BodyLoose.notSynchronized Bd) Bd.returns rfl rfl (hb hby own_d3_24) (by decide) (by decide) (by rw [e2]; exact ⟨rfl, N1, rfl⟩)
theorem own_pd3 : parseMethodDescriptor "()Z" = some ⟨[], some .boolean⟩ := by decide +kernel
theorem own_pd4 : parseMethodDescriptor "()J" = some ⟨[], some .long⟩ := by decide +kernel
theorem own_ef_own_law (m : MethodId) (x0 : Int64) (x1 : Int64) (x2 : Int32) : entryFrame m #[(.long x0), (.long x1), (.int x2)] maxLocals = mkF m 0 #[.val (.long x0), .second, .val (.long x1), .second, .val (.int x2), .unset, .unset, .unset, .unset, .unset, .unset, .unset, .unset, .unset, .unset, .unset, .unset] [] := by first | (simp [entryFrame, mkF, argsToLocals, Value.category, maxLocals]; done) | rfl
def Q_own_law (Z : State) (q0 : Int64) (q1 : Int64) (p2 : Int32) (a_EMPTY : Addr) (h0 : Heap) (n0 : Nat) (v : Option Value) (h : Heap) (L : List Loc) : Prop := v = some (.int 1) ∧ Fr n0 L
theorem own_pn_com_example_contention_contention_TakeApplyPinLaw : plainName "com/example/contention/contention/TakeApplyPinLaw" = true := by first | (simp [plainName, overriddenIn]; done) | decide +kernel
set_option maxRecDepth 65536 in
set_option maxHeartbeats 40000000 in
theorem own_law (l : Launch) (Z : State) (a0 : Array Value) (hw : ∀ d ∈ tables_1, d.before a0 Z = true) (ws : List Jvm.Cond) (q0 : Int64) (q1 : Int64) (p2 : Int32) (a_EMPTY : Addr) (h0 : Heap) (n0 : Nat) (O0 : Old Z n0 h0) (S_EMPTY : Sta Z Z.heap "java/util/OptionalLong" "EMPTY" "Ljava/util/OptionalLong;" (.ref a_EMPTY)) (E_EMPTY : Exa Z Z.heap a_EMPTY "java/util/OptionalLong") (F_EMPTY_isPresent : Fld Z Z.heap a_EMPTY "java/util/OptionalLong" "isPresent" "Z" (.int (0 : Int32))) :
    MetFree l x (head1 (Jvm.Cond.code x code maxLocals ret :: ws) room_1) (fun args_ U => args_ = #[(.long q0), (.long q1), (.int p2)] ∧ Z.Warmed39 U.vm ∧ U.heap = h0) (fun _ _ _ _ _ => True) (fun _ U o U' => ∃ v L, o = .returned v ∧ Q_own_law Z q0 q1 p2 a_EMPTY h0 n0 v U'.heap L ∧ FrameEnd U o U' L 16 128) := by
  refine MetFree.of_bodySF (plainFor_of_name own_pn_com_example_contention_contention_TakeApplyPinLaw) hisR ?_
  intro pP eE sS mM args below meth cC s₁ Bd hml0 hP hK
  obtain ⟨rfl, hZ, hh⟩ := hP
  have hx := Bd.exec
  have hby := Bd.bytes
  have hml : cC.maxLocals = 17 := hml0
  have hown : sS.vm.findClass "com/example/contention/contention/TakeApplyPinLaw" = some mM.cls := findClass_of_methodNamed Bd.named
  have hnm := (name_of_methodNamed Bd.named Bd.method).1
  have X0 : Stand pP l eE room_1 sS mM #[(.long q0), (.long q1), (.int p2)] below meth cC s₁ [] 0 0 := Stand.of_body Bd
  have e0 : s₁.heap = h0 := by rw [← hh, Bd.state]; rfl
  have N0 := Fr.nil n0
  show own_Ends pP eE below (own_Got sS (Q_own_law Z q0 q1 p2 a_EMPTY h0 n0) 16 128) (s₁.setTop (entryFrame mM #[(.long q0), (.long q1), (.int p2)] maxLocals))
  rw [own_ef_own_law mM q0 q1 p2]
  have cut : ∀ (q : Int64) (d : Int64) (k1 : Int64) (hq : ¬ q < (0 : Int64)), own_Ends pP eE below (own_Got sS (Q_own_law Z q0 q1 p2 a_EMPTY h0 n0) 16 128) (s₁.setTop (mkF mM 57 #[.val (.long q0), .second, .val (.long q1), .second, .val (.int p2), .val (.long q), .second, .val (.long d), .second, .val (.long k1), .second, .unset, .unset, .unset, .unset, .unset, .unset] [])) := by
    intro q d k1 hq
    show own_Ends _ _ _ _ (s₁.setTop (mkF mM 57 #[.val (.long q0), .second, .val (.long q1), .second, .val (.int p2), .val (.long q), .second, .val (.long d), .second, .val (.long k1), .second, .unset, .unset, .unset, .unset, .unset, .unset] []))
    obtain ⟨T1, h1, X1, e1, E1, A1, D1, -, st1⟩ := newO X0 hx hZ hown (hw _ (List.mem_of_getElem? (i := 2) rfl)) (hw _ (List.mem_of_getElem? (i := 3) rfl)) (hw _ (List.mem_of_getElem? (i := 4) rfl)) e0 (g := (mkF mM 57 #[.val (.long q0), .second, .val (.long q1), .second, .val (.int p2), .val (.long q), .second, .val (.long d), .second, .val (.long k1), .second, .unset, .unset, .unset, .unset, .unset, .unset] [])) rfl (hb hby at_57) (by decide) (by decide)
    obtain ⟨b1, g1⟩ : ∃ z, z = h0.size := ⟨_, rfl⟩
    rw [← g1] at A1 D1 st1
    have O1 := O0.ext E1
    have g_b1 : n0 ≤ b1 := by rw [g1, ← O0.1]; exact O0.2.1
    have E_b1 : Exa Z h1 b1 "com/example/contention/contention/Take" := A1
    have F_quantity_b1 : Fld Z h1 b1 "com/example/contention/contention/Take" "quantity" "J" (.long (0 : Int64)) := D1 (Or.inr (hw _ (List.mem_of_getElem? (i := 12) rfl))) (ty := .long) (by decide)
    refine own_go st1 ?_
    show own_Ends _ _ _ _ (T1.setTop (mkF mM 60 #[.val (.long q0), .second, .val (.long q1), .second, .val (.int p2), .val (.long q), .second, .val (.long d), .second, .val (.long k1), .second, .unset, .unset, .unset, .unset, .unset, .unset] [(.ref b1)]))
    refine own_go (fun _ k => XS.dup X1.here hx rfl (hb hby at_60) rfl rfl k) ?_
    show own_Ends _ _ _ _ (T1.setTop (mkF mM 61 #[.val (.long q0), .second, .val (.long q1), .second, .val (.int p2), .val (.long q), .second, .val (.long d), .second, .val (.long k1), .second, .unset, .unset, .unset, .unset, .unset, .unset] [(.ref b1), (.ref b1)]))
    refine own_go (fun _ k => XS.lload X1.here hx rfl (hb hby at_61) rfl k) ?_
    show own_Ends _ _ _ _ (T1.setTop (mkF mM 63 #[.val (.long q0), .second, .val (.long q1), .second, .val (.int p2), .val (.long q), .second, .val (.long d), .second, .val (.long k1), .second, .unset, .unset, .unset, .unset, .unset, .unset] [(.long q), (.ref b1), (.ref b1)]))
    obtain ⟨_, _, ⟨T2, Lz2, kz2, nz2⟩, -, X2, ⟨Lc2, hQ2, l2, y2, z2⟩, st2⟩ := X1.specialBack hx (y := (⟨"com/example/contention/contention/Take", "<init>", "(J)V"⟩ : MethodName)) rfl hown (mvT hZ (hw _ (List.mem_of_getElem? (i := 5) rfl))) (mvT hZ (hw _ (List.mem_of_getElem? (i := 6) rfl))) (mvT hZ (hw _ (List.mem_of_getElem? (i := 7) rfl))) (by decide) (backOf (W := 1) (own_tinit l Z a0 hw [] b1 q h1 n0 O1 g_b1 E_b1 F_quantity_b1 hq) hZ (hw _ (List.mem_of_getElem? (i := 7) rfl)) (hw _ (List.mem_of_getElem? (i := 4) rfl)) (by decide) (by decide)) (g := (mkF mM 63 #[.val (.long q0), .second, .val (.long q1), .second, .val (.int p2), .val (.long q), .second, .val (.long d), .second, .val (.long k1), .second, .unset, .unset, .unset, .unset, .unset, .unset] [(.long q), (.ref b1), (.ref b1)])) rfl (by rw [hml]; rfl) (Steps.refl _) (a := b1) (argsL := [(.long q)]) (rest := [(.ref b1)]) (lenOf own_pd0 rfl) rfl (by show 2 * 0 + _ ≤ _; exact Nat.le_of_eq rfl) (hb hby at_63) (fun _ _ => ⟨rfl, e1, (by decide : 1 + 0 ≤ _), (by decide : 1 + 0 ≤ _)⟩)
    dsimp only [Pt.U, Pt.locs, Pt.cells, Pt.slots] at X2 l2 y2 z2 st2 hQ2
    subst l2 y2 z2
    obtain ⟨rfl, Nq2, K2, E_b1_2, F_b1_2⟩ := hQ2
    have N2 := Fr.app N0 Nq2
    have O2 := O1.keep K2 (allS g_b1 all0)
    refine own_tr st2 ?_
    show own_Ends _ _ _ _ (T2.setTop (mkF mM 66 #[.val (.long q0), .second, .val (.long q1), .second, .val (.int p2), .val (.long q), .second, .val (.long d), .second, .val (.long k1), .second, .unset, .unset, .unset, .unset, .unset, .unset] [(.ref b1)]))
    refine own_go (fun _ k => XS.astore X2.here hx rfl (hb hby at_66) rfl rfl (l' := #[.val (.long q0), .second, .val (.long q1), .second, .val (.int p2), .val (.long q), .second, .val (.long d), .second, .val (.long k1), .second, .val (.ref b1), .unset, .unset, .unset, .unset, .unset]) rfl k) ?_
    show own_Ends _ _ _ _ (T2.setTop (mkF mM 68 #[.val (.long q0), .second, .val (.long q1), .second, .val (.int p2), .val (.long q), .second, .val (.long d), .second, .val (.long k1), .second, .val (.ref b1), .unset, .unset, .unset, .unset, .unset] []))
    refine own_go (fun _ k => XS.aload X2.here hx rfl (hb hby at_68) rfl rfl k) ?_
    show own_Ends _ _ _ _ (T2.setTop (mkF mM 70 #[.val (.long q0), .second, .val (.long q1), .second, .val (.int p2), .val (.long q), .second, .val (.long d), .second, .val (.long k1), .second, .val (.ref b1), .unset, .unset, .unset, .unset, .unset] [(.ref b1)]))
    refine own_go (fun _ k => XS.lload X2.here hx rfl (hb hby at_70) rfl k) ?_
    show own_Ends _ _ _ _ (T2.setTop (mkF mM 72 #[.val (.long q0), .second, .val (.long q1), .second, .val (.int p2), .val (.long q), .second, .val (.long d), .second, .val (.long k1), .second, .val (.ref b1), .unset, .unset, .unset, .unset, .unset] [(.long k1), (.ref b1)]))
    by_cases hf72_2 : k1 < q
    · obtain ⟨cq4, kq4, q4a, q4b, q4c⟩ := isOf hZ rfl E_b1_2
      obtain ⟨_, _, ⟨T4, Lz4, kz4, nz4⟩, -, X4, ⟨Lc4, hQ4, l4, y4, z4⟩, st4⟩ := X2.virtualBack hx (y := (⟨"com/example/contention/contention/Take", "apply", "(J)Ljava/util/OptionalLong;"⟩ : MethodName)) (z := (⟨"com/example/contention/contention/Take", "apply", "(J)Ljava/util/OptionalLong;"⟩ : MethodName)) hown (mvT hZ (hw _ (List.mem_of_getElem? (i := 13) rfl))) (mvT hZ (hw _ (List.mem_of_getElem? (i := 14) rfl))) (notFace_of_selects (args := #[]) (mvT hZ (hw _ (List.mem_of_getElem? (i := 16) rfl)))) (mvT hZ (hw _ (List.mem_of_getElem? (i := 16) rfl))) (mvT hZ (hw _ (List.mem_of_getElem? (i := 15) rfl))) (by decide) (backOf (W := 0) (own_apply0 l Z a0 hw [] b1 k1 q a_EMPTY T2.heap n0 O2 S_EMPTY F_b1_2 hf72_2) hZ (hw _ (List.mem_of_getElem? (i := 17) rfl)) (hw _ (List.mem_of_getElem? (i := 4) rfl)) (by decide) (by decide)) q4a q4c (g := (mkF mM 72 #[.val (.long q0), .second, .val (.long q1), .second, .val (.int p2), .val (.long q), .second, .val (.long d), .second, .val (.long k1), .second, .val (.ref b1), .unset, .unset, .unset, .unset, .unset] [(.long k1), (.ref b1)])) rfl (by rw [hml]; rfl) (Steps.refl _) (argsL := [(.long k1)]) (rest := []) (lenOf own_pd2 rfl) rfl (by show 2 * 0 + _ ≤ _; exact Nat.le_of_eq rfl) (hb hby at_72) (fun _ _ => ⟨rfl, rfl, (by decide : 1 + 0 ≤ _), (by decide : 1 + 0 ≤ _)⟩)
      dsimp only [Pt.U, Pt.locs, Pt.cells, Pt.slots] at X4 l4 y4 z4 st4 hQ4
      subst l4 y4 z4
      obtain ⟨rfl, Nq4, e4⟩ := hQ4
      have N4 := Fr.app N2 Nq4
      refine own_tr st4 ?_
      show own_Ends _ _ _ _ (T4.setTop (mkF mM 75 #[.val (.long q0), .second, .val (.long q1), .second, .val (.int p2), .val (.long q), .second, .val (.long d), .second, .val (.long k1), .second, .val (.ref b1), .unset, .unset, .unset, .unset, .unset] [(.ref a_EMPTY)]))
      refine own_go (fun _ k => XS.astore X4.here hx rfl (hb hby at_75) rfl rfl (l' := #[.val (.long q0), .second, .val (.long q1), .second, .val (.int p2), .val (.long q), .second, .val (.long d), .second, .val (.long k1), .second, .val (.ref b1), .val (.ref a_EMPTY), .unset, .unset, .unset, .unset]) rfl k) ?_
      show own_Ends _ _ _ _ (T4.setTop (mkF mM 77 #[.val (.long q0), .second, .val (.long q1), .second, .val (.int p2), .val (.long q), .second, .val (.long d), .second, .val (.long k1), .second, .val (.ref b1), .val (.ref a_EMPTY), .unset, .unset, .unset, .unset] []))
      refine own_go (fun _ k => XS.aload X4.here hx rfl (hb hby at_77) rfl rfl k) ?_
      show own_Ends _ _ _ _ (T4.setTop (mkF mM 79 #[.val (.long q0), .second, .val (.long q1), .second, .val (.int p2), .val (.long q), .second, .val (.long d), .second, .val (.long k1), .second, .val (.ref b1), .val (.ref a_EMPTY), .unset, .unset, .unset, .unset] [(.ref a_EMPTY)]))
      obtain ⟨cq5, kq5, q5a, q5b, q5c⟩ := isOf hZ e4 (E_EMPTY.ext O2.2)
      obtain ⟨_, _, ⟨T5, Lz5, kz5, nz5⟩, -, X5, ⟨Lc5, hQ5, l5, y5, z5⟩, st5⟩ := X4.virtualBack hx (y := (⟨"java/util/OptionalLong", "isPresent", "()Z"⟩ : MethodName)) (z := (⟨"java/util/OptionalLong", "isPresent", "()Z"⟩ : MethodName)) hown (mvT hZ (hw _ (List.mem_of_getElem? (i := 23) rfl))) (mvT hZ (hw _ (List.mem_of_getElem? (i := 24) rfl))) (notFace_of_selects (args := #[]) (mvT hZ (hw _ (List.mem_of_getElem? (i := 26) rfl)))) (mvT hZ (hw _ (List.mem_of_getElem? (i := 26) rfl))) (mvT hZ (hw _ (List.mem_of_getElem? (i := 25) rfl))) (by decide) (backOf (W := 0) (own_pres0 l Z a0 hw [] a_EMPTY T2.heap n0 O2 (F_EMPTY_isPresent.ext O2.2)) hZ (hw _ (List.mem_of_getElem? (i := 27) rfl)) (hw _ (List.mem_of_getElem? (i := 20) rfl)) (by decide) (by decide)) q5a q5c (g := (mkF mM 79 #[.val (.long q0), .second, .val (.long q1), .second, .val (.int p2), .val (.long q), .second, .val (.long d), .second, .val (.long k1), .second, .val (.ref b1), .val (.ref a_EMPTY), .unset, .unset, .unset, .unset] [(.ref a_EMPTY)])) rfl (by rw [hml]; rfl) (Steps.refl _) (argsL := []) (rest := []) (lenOf own_pd3 rfl) rfl (by show 2 * 0 + _ ≤ _; exact Nat.le_of_eq rfl) (hb hby at_79) (fun _ _ => ⟨rfl, e4, (by decide : 1 + 0 ≤ _), (by decide : 1 + 0 ≤ _)⟩)
      dsimp only [Pt.U, Pt.locs, Pt.cells, Pt.slots] at X5 l5 y5 z5 st5 hQ5
      subst l5 y5 z5
      obtain ⟨rfl, Nq5, e5⟩ := hQ5
      have N5 := Fr.app N4 Nq5
      refine own_tr st5 ?_
      show own_Ends _ _ _ _ (T5.setTop (mkF mM 82 #[.val (.long q0), .second, .val (.long q1), .second, .val (.int p2), .val (.long q), .second, .val (.long d), .second, .val (.long k1), .second, .val (.ref b1), .val (.ref a_EMPTY), .unset, .unset, .unset, .unset] [(.int (0 : Int32))]))
      refine own_go (fun _ k => XS.istore X5.here hx rfl (hb hby at_82) rfl (l' := #[.val (.long q0), .second, .val (.long q1), .second, .val (.int p2), .val (.long q), .second, .val (.long d), .second, .val (.long k1), .second, .val (.ref b1), .val (.ref a_EMPTY), .val (.int (0 : Int32)), .unset, .unset, .unset]) rfl k) ?_
      show own_Ends _ _ _ _ (T5.setTop (mkF mM 84 #[.val (.long q0), .second, .val (.long q1), .second, .val (.int p2), .val (.long q), .second, .val (.long d), .second, .val (.long k1), .second, .val (.ref b1), .val (.ref a_EMPTY), .val (.int (0 : Int32)), .unset, .unset, .unset] []))
      refine own_go (fun _ k => XS.iload X5.here hx rfl (hb hby at_84) rfl k) ?_
      show own_Ends _ _ _ _ (T5.setTop (mkF mM 86 #[.val (.long q0), .second, .val (.long q1), .second, .val (.int p2), .val (.long q), .second, .val (.long d), .second, .val (.long k1), .second, .val (.ref b1), .val (.ref a_EMPTY), .val (.int (0 : Int32)), .unset, .unset, .unset] [(.int (0 : Int32))]))
      refine own_go (fun _ k => XS.lload X5.here hx rfl (hb hby at_86) rfl k) ?_
      show own_Ends _ _ _ _ (T5.setTop (mkF mM 88 #[.val (.long q0), .second, .val (.long q1), .second, .val (.int p2), .val (.long q), .second, .val (.long d), .second, .val (.long k1), .second, .val (.ref b1), .val (.ref a_EMPTY), .val (.int (0 : Int32)), .unset, .unset, .unset] [(.long k1), (.int (0 : Int32))]))
      refine own_go (fun _ k => XS.lload X5.here hx rfl (hb hby at_88) rfl k) ?_
      show own_Ends _ _ _ _ (T5.setTop (mkF mM 90 #[.val (.long q0), .second, .val (.long q1), .second, .val (.int p2), .val (.long q), .second, .val (.long d), .second, .val (.long k1), .second, .val (.ref b1), .val (.ref a_EMPTY), .val (.int (0 : Int32)), .unset, .unset, .unset] [(.long q), (.long k1), (.int (0 : Int32))]))
      refine own_go (fun _ k => XS.lcmp X5.here hx rfl (hb hby at_90) rfl k) ?_
      show own_Ends _ _ _ _ (T5.setTop (mkF mM 91 #[.val (.long q0), .second, .val (.long q1), .second, .val (.int p2), .val (.long q), .second, .val (.long d), .second, .val (.long k1), .second, .val (.ref b1), .val (.ref a_EMPTY), .val (.int (0 : Int32)), .unset, .unset, .unset] [(.int (lcmpW k1 q)), (.int (0 : Int32))]))
      refine own_go (fun _ k => XS.ifYes X5.here hx rfl (pc0 := 91) (pc' := 98) rfl (hb hby at_91) rfl ((if0 _ _).trans (tlt ((lw_lt k1 q).mpr hf72_2)).1) (by decide) (by decide) k) ?_
      show own_Ends _ _ _ _ (T5.setTop (mkF mM 98 #[.val (.long q0), .second, .val (.long q1), .second, .val (.int p2), .val (.long q), .second, .val (.long d), .second, .val (.long k1), .second, .val (.ref b1), .val (.ref a_EMPTY), .val (.int (0 : Int32)), .unset, .unset, .unset] [(.int (0 : Int32))]))
      refine own_go (fun _ k => XS.iconst X5.here hx rfl (hb hby at_98) k) ?_
      show own_Ends _ _ _ _ (T5.setTop (mkF mM 99 #[.val (.long q0), .second, .val (.long q1), .second, .val (.int p2), .val (.long q), .second, .val (.long d), .second, .val (.long k1), .second, .val (.ref b1), .val (.ref a_EMPTY), .val (.int (0 : Int32)), .unset, .unset, .unset] [(.int (0 : Int32)), (.int (0 : Int32))]))
      refine own_go (fun _ k => XS.icmpNo X5.here hx rfl (hb hby at_99) rfl (teq (by decide : (0 : Int32) = (0 : Int32))).2 k) ?_
      show own_Ends _ _ _ _ (T5.setTop (mkF mM 102 #[.val (.long q0), .second, .val (.long q1), .second, .val (.int p2), .val (.long q), .second, .val (.long d), .second, .val (.long k1), .second, .val (.ref b1), .val (.ref a_EMPTY), .val (.int (0 : Int32)), .unset, .unset, .unset] []))
      refine own_go (fun _ k => XS.iconst X5.here hx rfl (hb hby at_102) k) ?_
      show own_Ends _ _ _ _ (T5.setTop (mkF mM 103 #[.val (.long q0), .second, .val (.long q1), .second, .val (.int p2), .val (.long q), .second, .val (.long d), .second, .val (.long k1), .second, .val (.ref b1), .val (.ref a_EMPTY), .val (.int (0 : Int32)), .unset, .unset, .unset] [(.int (1 : Int32))]))
      refine own_go (fun _ k => XS.goto X5.here hx rfl (pc0 := 103) (pc' := 107) rfl (hb hby at_103) (by decide) (by decide) k) ?_
      show own_Ends _ _ _ _ (T5.setTop (mkF mM 107 #[.val (.long q0), .second, .val (.long q1), .second, .val (.int p2), .val (.long q), .second, .val (.long d), .second, .val (.long k1), .second, .val (.ref b1), .val (.ref a_EMPTY), .val (.int (0 : Int32)), .unset, .unset, .unset] [(.int (1 : Int32))]))
      refine own_go (fun _ k => XS.istore X5.here hx rfl (hb hby at_107) rfl (l' := #[.val (.long q0), .second, .val (.long q1), .second, .val (.int p2), .val (.long q), .second, .val (.long d), .second, .val (.long k1), .second, .val (.ref b1), .val (.ref a_EMPTY), .val (.int (0 : Int32)), .val (.int (1 : Int32)), .unset, .unset]) rfl k) ?_
      show own_Ends _ _ _ _ (T5.setTop (mkF mM 109 #[.val (.long q0), .second, .val (.long q1), .second, .val (.int p2), .val (.long q), .second, .val (.long d), .second, .val (.long k1), .second, .val (.ref b1), .val (.ref a_EMPTY), .val (.int (0 : Int32)), .val (.int (1 : Int32)), .unset, .unset] []))
      refine own_go (fun _ k => XS.iload X5.here hx rfl (hb hby at_109) rfl k) ?_
      show own_Ends _ _ _ _ (T5.setTop (mkF mM 111 #[.val (.long q0), .second, .val (.long q1), .second, .val (.int p2), .val (.long q), .second, .val (.long d), .second, .val (.long k1), .second, .val (.ref b1), .val (.ref a_EMPTY), .val (.int (0 : Int32)), .val (.int (1 : Int32)), .unset, .unset] [(.int (0 : Int32))]))
      refine own_go (fun _ k => XS.ifYes X5.here hx rfl (pc0 := 111) (pc' := 159) rfl (hb hby at_111) rfl ((if0 _ _).trans (teq (by decide : (0 : Int32) = (0 : Int32))).1) (by decide) (by decide) k) ?_
      show own_Ends _ _ _ _ (T5.setTop (mkF mM 159 #[.val (.long q0), .second, .val (.long q1), .second, .val (.int p2), .val (.long q), .second, .val (.long d), .second, .val (.long k1), .second, .val (.ref b1), .val (.ref a_EMPTY), .val (.int (0 : Int32)), .val (.int (1 : Int32)), .unset, .unset] []))
      refine own_go (fun _ k => XS.iload X5.here hx rfl (hb hby at_159) rfl k) ?_
      show own_Ends _ _ _ _ (T5.setTop (mkF mM 161 #[.val (.long q0), .second, .val (.long q1), .second, .val (.int p2), .val (.long q), .second, .val (.long d), .second, .val (.long k1), .second, .val (.ref b1), .val (.ref a_EMPTY), .val (.int (0 : Int32)), .val (.int (1 : Int32)), .unset, .unset] [(.int (1 : Int32))]))
      exact own_retZ X5 hx (BodyLoose.notSynchronized Bd) Bd.returns rfl (hb hby at_161) (by decide) (by decide) (by rw [e5]; exact ⟨rfl, N5⟩)
    · obtain ⟨cq6, kq6, q6a, q6b, q6c⟩ := isOf hZ rfl E_b1_2
      obtain ⟨_, _, ⟨T6, Lz6, kz6, nz6⟩, -, X6, ⟨Lc6, hQ6, l6, y6, z6⟩, st6⟩ := X2.virtualBack hx (y := (⟨"com/example/contention/contention/Take", "apply", "(J)Ljava/util/OptionalLong;"⟩ : MethodName)) (z := (⟨"com/example/contention/contention/Take", "apply", "(J)Ljava/util/OptionalLong;"⟩ : MethodName)) hown (mvT hZ (hw _ (List.mem_of_getElem? (i := 13) rfl))) (mvT hZ (hw _ (List.mem_of_getElem? (i := 14) rfl))) (notFace_of_selects (args := #[]) (mvT hZ (hw _ (List.mem_of_getElem? (i := 16) rfl)))) (mvT hZ (hw _ (List.mem_of_getElem? (i := 16) rfl))) (mvT hZ (hw _ (List.mem_of_getElem? (i := 15) rfl))) (by decide) (backOf (W := 0) (own_apply1 l Z a0 hw [] b1 k1 q a_EMPTY T2.heap n0 O2 S_EMPTY F_b1_2 hf72_2) hZ (hw _ (List.mem_of_getElem? (i := 17) rfl)) (hw _ (List.mem_of_getElem? (i := 4) rfl)) (by decide) (by decide)) q6a q6c (g := (mkF mM 72 #[.val (.long q0), .second, .val (.long q1), .second, .val (.int p2), .val (.long q), .second, .val (.long d), .second, .val (.long k1), .second, .val (.ref b1), .unset, .unset, .unset, .unset, .unset] [(.long k1), (.ref b1)])) rfl (by rw [hml]; rfl) (Steps.refl _) (argsL := [(.long k1)]) (rest := []) (lenOf own_pd2 rfl) rfl (by show 2 * 0 + _ ≤ _; exact Nat.le_of_eq rfl) (hb hby at_72) (fun _ _ => ⟨rfl, rfl, (by decide : 1 + 1 ≤ _), (by decide : 1 + 2 ≤ _)⟩)
      dsimp only [Pt.U, Pt.locs, Pt.cells, Pt.slots] at X6 l6 y6 z6 st6 hQ6
      subst l6 y6 z6
      obtain ⟨c6, rfl, Nq6, g_c6, K6, E_c6, F1_c6, F2_c6⟩ := hQ6
      have N6 := Fr.app N2 Nq6
      have O6 := O2.keep K6 all0
      refine own_tr st6 ?_
      show own_Ends _ _ _ _ (T6.setTop (mkF mM 75 #[.val (.long q0), .second, .val (.long q1), .second, .val (.int p2), .val (.long q), .second, .val (.long d), .second, .val (.long k1), .second, .val (.ref b1), .unset, .unset, .unset, .unset, .unset] [(.ref c6)]))
      refine own_go (fun _ k => XS.astore X6.here hx rfl (hb hby at_75) rfl rfl (l' := #[.val (.long q0), .second, .val (.long q1), .second, .val (.int p2), .val (.long q), .second, .val (.long d), .second, .val (.long k1), .second, .val (.ref b1), .val (.ref c6), .unset, .unset, .unset, .unset]) rfl k) ?_
      show own_Ends _ _ _ _ (T6.setTop (mkF mM 77 #[.val (.long q0), .second, .val (.long q1), .second, .val (.int p2), .val (.long q), .second, .val (.long d), .second, .val (.long k1), .second, .val (.ref b1), .val (.ref c6), .unset, .unset, .unset, .unset] []))
      refine own_go (fun _ k => XS.aload X6.here hx rfl (hb hby at_77) rfl rfl k) ?_
      show own_Ends _ _ _ _ (T6.setTop (mkF mM 79 #[.val (.long q0), .second, .val (.long q1), .second, .val (.int p2), .val (.long q), .second, .val (.long d), .second, .val (.long k1), .second, .val (.ref b1), .val (.ref c6), .unset, .unset, .unset, .unset] [(.ref c6)]))
      obtain ⟨cq7, kq7, q7a, q7b, q7c⟩ := isOf hZ rfl E_c6
      obtain ⟨_, _, ⟨T7, Lz7, kz7, nz7⟩, -, X7, ⟨Lc7, hQ7, l7, y7, z7⟩, st7⟩ := X6.virtualBack hx (y := (⟨"java/util/OptionalLong", "isPresent", "()Z"⟩ : MethodName)) (z := (⟨"java/util/OptionalLong", "isPresent", "()Z"⟩ : MethodName)) hown (mvT hZ (hw _ (List.mem_of_getElem? (i := 23) rfl))) (mvT hZ (hw _ (List.mem_of_getElem? (i := 24) rfl))) (notFace_of_selects (args := #[]) (mvT hZ (hw _ (List.mem_of_getElem? (i := 26) rfl)))) (mvT hZ (hw _ (List.mem_of_getElem? (i := 26) rfl))) (mvT hZ (hw _ (List.mem_of_getElem? (i := 25) rfl))) (by decide) (backOf (W := 0) (own_pres1 l Z a0 hw [] c6 T6.heap n0 O6 F1_c6) hZ (hw _ (List.mem_of_getElem? (i := 27) rfl)) (hw _ (List.mem_of_getElem? (i := 20) rfl)) (by decide) (by decide)) q7a q7c (g := (mkF mM 79 #[.val (.long q0), .second, .val (.long q1), .second, .val (.int p2), .val (.long q), .second, .val (.long d), .second, .val (.long k1), .second, .val (.ref b1), .val (.ref c6), .unset, .unset, .unset, .unset] [(.ref c6)])) rfl (by rw [hml]; rfl) (Steps.refl _) (argsL := []) (rest := []) (lenOf own_pd3 rfl) rfl (by show 2 * 0 + _ ≤ _; exact Nat.le_of_eq rfl) (hb hby at_79) (fun _ _ => ⟨rfl, rfl, (by decide : 2 + 0 ≤ _), (by decide : 3 + 0 ≤ _)⟩)
      dsimp only [Pt.U, Pt.locs, Pt.cells, Pt.slots] at X7 l7 y7 z7 st7 hQ7
      subst l7 y7 z7
      obtain ⟨rfl, Nq7, e7⟩ := hQ7
      have N7 := Fr.app N6 Nq7
      refine own_tr st7 ?_
      show own_Ends _ _ _ _ (T7.setTop (mkF mM 82 #[.val (.long q0), .second, .val (.long q1), .second, .val (.int p2), .val (.long q), .second, .val (.long d), .second, .val (.long k1), .second, .val (.ref b1), .val (.ref c6), .unset, .unset, .unset, .unset] [(.int (1 : Int32))]))
      refine own_go (fun _ k => XS.istore X7.here hx rfl (hb hby at_82) rfl (l' := #[.val (.long q0), .second, .val (.long q1), .second, .val (.int p2), .val (.long q), .second, .val (.long d), .second, .val (.long k1), .second, .val (.ref b1), .val (.ref c6), .val (.int (1 : Int32)), .unset, .unset, .unset]) rfl k) ?_
      show own_Ends _ _ _ _ (T7.setTop (mkF mM 84 #[.val (.long q0), .second, .val (.long q1), .second, .val (.int p2), .val (.long q), .second, .val (.long d), .second, .val (.long k1), .second, .val (.ref b1), .val (.ref c6), .val (.int (1 : Int32)), .unset, .unset, .unset] []))
      refine own_go (fun _ k => XS.iload X7.here hx rfl (hb hby at_84) rfl k) ?_
      show own_Ends _ _ _ _ (T7.setTop (mkF mM 86 #[.val (.long q0), .second, .val (.long q1), .second, .val (.int p2), .val (.long q), .second, .val (.long d), .second, .val (.long k1), .second, .val (.ref b1), .val (.ref c6), .val (.int (1 : Int32)), .unset, .unset, .unset] [(.int (1 : Int32))]))
      refine own_go (fun _ k => XS.lload X7.here hx rfl (hb hby at_86) rfl k) ?_
      show own_Ends _ _ _ _ (T7.setTop (mkF mM 88 #[.val (.long q0), .second, .val (.long q1), .second, .val (.int p2), .val (.long q), .second, .val (.long d), .second, .val (.long k1), .second, .val (.ref b1), .val (.ref c6), .val (.int (1 : Int32)), .unset, .unset, .unset] [(.long k1), (.int (1 : Int32))]))
      refine own_go (fun _ k => XS.lload X7.here hx rfl (hb hby at_88) rfl k) ?_
      show own_Ends _ _ _ _ (T7.setTop (mkF mM 90 #[.val (.long q0), .second, .val (.long q1), .second, .val (.int p2), .val (.long q), .second, .val (.long d), .second, .val (.long k1), .second, .val (.ref b1), .val (.ref c6), .val (.int (1 : Int32)), .unset, .unset, .unset] [(.long q), (.long k1), (.int (1 : Int32))]))
      refine own_go (fun _ k => XS.lcmp X7.here hx rfl (hb hby at_90) rfl k) ?_
      show own_Ends _ _ _ _ (T7.setTop (mkF mM 91 #[.val (.long q0), .second, .val (.long q1), .second, .val (.int p2), .val (.long q), .second, .val (.long d), .second, .val (.long k1), .second, .val (.ref b1), .val (.ref c6), .val (.int (1 : Int32)), .unset, .unset, .unset] [(.int (lcmpW k1 q)), (.int (1 : Int32))]))
      refine own_go (fun _ k => XS.ifNo X7.here hx rfl (hb hby at_91) rfl ((if0 _ _).trans (flt (mt (lw_lt k1 q).mp hf72_2)).1) k) ?_
      show own_Ends _ _ _ _ (T7.setTop (mkF mM 94 #[.val (.long q0), .second, .val (.long q1), .second, .val (.int p2), .val (.long q), .second, .val (.long d), .second, .val (.long k1), .second, .val (.ref b1), .val (.ref c6), .val (.int (1 : Int32)), .unset, .unset, .unset] [(.int (1 : Int32))]))
      refine own_go (fun _ k => XS.iconst X7.here hx rfl (hb hby at_94) k) ?_
      show own_Ends _ _ _ _ (T7.setTop (mkF mM 95 #[.val (.long q0), .second, .val (.long q1), .second, .val (.int p2), .val (.long q), .second, .val (.long d), .second, .val (.long k1), .second, .val (.ref b1), .val (.ref c6), .val (.int (1 : Int32)), .unset, .unset, .unset] [(.int (1 : Int32)), (.int (1 : Int32))]))
      refine own_go (fun _ k => XS.goto X7.here hx rfl (pc0 := 95) (pc' := 99) rfl (hb hby at_95) (by decide) (by decide) k) ?_
      show own_Ends _ _ _ _ (T7.setTop (mkF mM 99 #[.val (.long q0), .second, .val (.long q1), .second, .val (.int p2), .val (.long q), .second, .val (.long d), .second, .val (.long k1), .second, .val (.ref b1), .val (.ref c6), .val (.int (1 : Int32)), .unset, .unset, .unset] [(.int (1 : Int32)), (.int (1 : Int32))]))
      refine own_go (fun _ k => XS.icmpNo X7.here hx rfl (hb hby at_99) rfl (teq (by decide : (1 : Int32) = (1 : Int32))).2 k) ?_
      show own_Ends _ _ _ _ (T7.setTop (mkF mM 102 #[.val (.long q0), .second, .val (.long q1), .second, .val (.int p2), .val (.long q), .second, .val (.long d), .second, .val (.long k1), .second, .val (.ref b1), .val (.ref c6), .val (.int (1 : Int32)), .unset, .unset, .unset] []))
      refine own_go (fun _ k => XS.iconst X7.here hx rfl (hb hby at_102) k) ?_
      show own_Ends _ _ _ _ (T7.setTop (mkF mM 103 #[.val (.long q0), .second, .val (.long q1), .second, .val (.int p2), .val (.long q), .second, .val (.long d), .second, .val (.long k1), .second, .val (.ref b1), .val (.ref c6), .val (.int (1 : Int32)), .unset, .unset, .unset] [(.int (1 : Int32))]))
      refine own_go (fun _ k => XS.goto X7.here hx rfl (pc0 := 103) (pc' := 107) rfl (hb hby at_103) (by decide) (by decide) k) ?_
      show own_Ends _ _ _ _ (T7.setTop (mkF mM 107 #[.val (.long q0), .second, .val (.long q1), .second, .val (.int p2), .val (.long q), .second, .val (.long d), .second, .val (.long k1), .second, .val (.ref b1), .val (.ref c6), .val (.int (1 : Int32)), .unset, .unset, .unset] [(.int (1 : Int32))]))
      refine own_go (fun _ k => XS.istore X7.here hx rfl (hb hby at_107) rfl (l' := #[.val (.long q0), .second, .val (.long q1), .second, .val (.int p2), .val (.long q), .second, .val (.long d), .second, .val (.long k1), .second, .val (.ref b1), .val (.ref c6), .val (.int (1 : Int32)), .val (.int (1 : Int32)), .unset, .unset]) rfl k) ?_
      show own_Ends _ _ _ _ (T7.setTop (mkF mM 109 #[.val (.long q0), .second, .val (.long q1), .second, .val (.int p2), .val (.long q), .second, .val (.long d), .second, .val (.long k1), .second, .val (.ref b1), .val (.ref c6), .val (.int (1 : Int32)), .val (.int (1 : Int32)), .unset, .unset] []))
      refine own_go (fun _ k => XS.iload X7.here hx rfl (hb hby at_109) rfl k) ?_
      show own_Ends _ _ _ _ (T7.setTop (mkF mM 111 #[.val (.long q0), .second, .val (.long q1), .second, .val (.int p2), .val (.long q), .second, .val (.long d), .second, .val (.long k1), .second, .val (.ref b1), .val (.ref c6), .val (.int (1 : Int32)), .val (.int (1 : Int32)), .unset, .unset] [(.int (1 : Int32))]))
      refine own_go (fun _ k => XS.ifNo X7.here hx rfl (hb hby at_111) rfl ((if0 _ _).trans (feq (by decide : ¬ ((1 : Int32) = (0 : Int32)))).1) k) ?_
      show own_Ends _ _ _ _ (T7.setTop (mkF mM 114 #[.val (.long q0), .second, .val (.long q1), .second, .val (.int p2), .val (.long q), .second, .val (.long d), .second, .val (.long k1), .second, .val (.ref b1), .val (.ref c6), .val (.int (1 : Int32)), .val (.int (1 : Int32)), .unset, .unset] []))
      refine own_go (fun _ k => XS.aload X7.here hx rfl (hb hby at_114) rfl rfl k) ?_
      show own_Ends _ _ _ _ (T7.setTop (mkF mM 116 #[.val (.long q0), .second, .val (.long q1), .second, .val (.int p2), .val (.long q), .second, .val (.long d), .second, .val (.long k1), .second, .val (.ref b1), .val (.ref c6), .val (.int (1 : Int32)), .val (.int (1 : Int32)), .unset, .unset] [(.ref c6)]))
      obtain ⟨cq8, kq8, q8a, q8b, q8c⟩ := isOf hZ e7 E_c6
      obtain ⟨_, _, ⟨T8, Lz8, kz8, nz8⟩, -, X8, ⟨Lc8, hQ8, l8, y8, z8⟩, st8⟩ := X7.virtualBack hx (y := (⟨"java/util/OptionalLong", "getAsLong", "()J"⟩ : MethodName)) (z := (⟨"java/util/OptionalLong", "getAsLong", "()J"⟩ : MethodName)) hown (mvT hZ (hw _ (List.mem_of_getElem? (i := 44) rfl))) (mvT hZ (hw _ (List.mem_of_getElem? (i := 45) rfl))) (notFace_of_selects (args := #[]) (mvT hZ (hw _ (List.mem_of_getElem? (i := 47) rfl)))) (mvT hZ (hw _ (List.mem_of_getElem? (i := 47) rfl))) (mvT hZ (hw _ (List.mem_of_getElem? (i := 46) rfl))) (by decide) (backOf (W := 0) (own_getAsLong l Z a0 hw [] c6 (k1 - q) T6.heap n0 O6 F1_c6 F2_c6) hZ (hw _ (List.mem_of_getElem? (i := 48) rfl)) (hw _ (List.mem_of_getElem? (i := 20) rfl)) (by decide) (by decide)) q8a q8c (g := (mkF mM 116 #[.val (.long q0), .second, .val (.long q1), .second, .val (.int p2), .val (.long q), .second, .val (.long d), .second, .val (.long k1), .second, .val (.ref b1), .val (.ref c6), .val (.int (1 : Int32)), .val (.int (1 : Int32)), .unset, .unset] [(.ref c6)])) rfl (by rw [hml]; rfl) (Steps.refl _) (argsL := []) (rest := []) (lenOf own_pd4 rfl) rfl (by show 2 * 0 + _ ≤ _; exact Nat.le_of_eq rfl) (hb hby at_116) (fun _ _ => ⟨rfl, e7, (by decide : 2 + 0 ≤ _), (by decide : 3 + 0 ≤ _)⟩)
      dsimp only [Pt.U, Pt.locs, Pt.cells, Pt.slots] at X8 l8 y8 z8 st8 hQ8
      subst l8 y8 z8
      obtain ⟨rfl, Nq8, e8⟩ := hQ8
      have N8 := Fr.app N7 Nq8
      refine own_tr st8 ?_
      show own_Ends _ _ _ _ (T8.setTop (mkF mM 119 #[.val (.long q0), .second, .val (.long q1), .second, .val (.int p2), .val (.long q), .second, .val (.long d), .second, .val (.long k1), .second, .val (.ref b1), .val (.ref c6), .val (.int (1 : Int32)), .val (.int (1 : Int32)), .unset, .unset] [(.long (k1 - q))]))
      refine own_go (fun _ k => XS.lstore X8.here hx rfl (hb hby at_119) rfl (l' := #[.val (.long q0), .second, .val (.long q1), .second, .val (.int p2), .val (.long q), .second, .val (.long d), .second, .val (.long k1), .second, .val (.ref b1), .val (.ref c6), .val (.int (1 : Int32)), .val (.int (1 : Int32)), .val (.long (k1 - q)), .second]) rfl k) ?_
      show own_Ends _ _ _ _ (T8.setTop (mkF mM 121 #[.val (.long q0), .second, .val (.long q1), .second, .val (.int p2), .val (.long q), .second, .val (.long d), .second, .val (.long k1), .second, .val (.ref b1), .val (.ref c6), .val (.int (1 : Int32)), .val (.int (1 : Int32)), .val (.long (k1 - q)), .second] []))
      refine own_go (fun _ k => XS.iload X8.here hx rfl (hb hby at_121) rfl k) ?_
      show own_Ends _ _ _ _ (T8.setTop (mkF mM 123 #[.val (.long q0), .second, .val (.long q1), .second, .val (.int p2), .val (.long q), .second, .val (.long d), .second, .val (.long k1), .second, .val (.ref b1), .val (.ref c6), .val (.int (1 : Int32)), .val (.int (1 : Int32)), .val (.long (k1 - q)), .second] [(.int (1 : Int32))]))
      refine own_go (fun _ k => XS.ifNo X8.here hx rfl (hb hby at_123) rfl ((if0 _ _).trans (feq (by decide : ¬ ((1 : Int32) = (0 : Int32)))).1) k) ?_
      show own_Ends _ _ _ _ (T8.setTop (mkF mM 126 #[.val (.long q0), .second, .val (.long q1), .second, .val (.int p2), .val (.long q), .second, .val (.long d), .second, .val (.long k1), .second, .val (.ref b1), .val (.ref c6), .val (.int (1 : Int32)), .val (.int (1 : Int32)), .val (.long (k1 - q)), .second] []))
      refine own_go (fun _ k => XS.lload X8.here hx rfl (hb hby at_126) rfl k) ?_
      show own_Ends _ _ _ _ (T8.setTop (mkF mM 128 #[.val (.long q0), .second, .val (.long q1), .second, .val (.int p2), .val (.long q), .second, .val (.long d), .second, .val (.long k1), .second, .val (.ref b1), .val (.ref c6), .val (.int (1 : Int32)), .val (.int (1 : Int32)), .val (.long (k1 - q)), .second] [(.long (k1 - q))]))
      refine own_go (fun _ k => XS.lconst X8.here hx rfl (hb hby at_128) k) ?_
      show own_Ends _ _ _ _ (T8.setTop (mkF mM 129 #[.val (.long q0), .second, .val (.long q1), .second, .val (.int p2), .val (.long q), .second, .val (.long d), .second, .val (.long k1), .second, .val (.ref b1), .val (.ref c6), .val (.int (1 : Int32)), .val (.int (1 : Int32)), .val (.long (k1 - q)), .second] [(.long (0 : Int64)), (.long (k1 - q))]))
      refine own_go (fun _ k => XS.lcmp X8.here hx rfl (hb hby at_129) rfl k) ?_
      show own_Ends _ _ _ _ (T8.setTop (mkF mM 130 #[.val (.long q0), .second, .val (.long q1), .second, .val (.int p2), .val (.long q), .second, .val (.long d), .second, .val (.long k1), .second, .val (.ref b1), .val (.ref c6), .val (.int (1 : Int32)), .val (.int (1 : Int32)), .val (.long (k1 - q)), .second] [(.int (lcmpW (k1 - q) (0 : Int64)))]))
      refine own_go (fun _ k => XS.ifNo X8.here hx rfl (hb hby at_130) rfl ((if0 _ _).trans (flt (mt (lw_lt (k1 - q) (0 : Int64)).mp (own_ar1 k1 q hq hf72_2))).1) k) ?_
      show own_Ends _ _ _ _ (T8.setTop (mkF mM 133 #[.val (.long q0), .second, .val (.long q1), .second, .val (.int p2), .val (.long q), .second, .val (.long d), .second, .val (.long k1), .second, .val (.ref b1), .val (.ref c6), .val (.int (1 : Int32)), .val (.int (1 : Int32)), .val (.long (k1 - q)), .second] []))
      refine own_go (fun _ k => XS.lload X8.here hx rfl (hb hby at_133) rfl k) ?_
      show own_Ends _ _ _ _ (T8.setTop (mkF mM 135 #[.val (.long q0), .second, .val (.long q1), .second, .val (.int p2), .val (.long q), .second, .val (.long d), .second, .val (.long k1), .second, .val (.ref b1), .val (.ref c6), .val (.int (1 : Int32)), .val (.int (1 : Int32)), .val (.long (k1 - q)), .second] [(.long (k1 - q))]))
      refine own_go (fun _ k => XS.lload X8.here hx rfl (hb hby at_135) rfl k) ?_
      show own_Ends _ _ _ _ (T8.setTop (mkF mM 137 #[.val (.long q0), .second, .val (.long q1), .second, .val (.int p2), .val (.long q), .second, .val (.long d), .second, .val (.long k1), .second, .val (.ref b1), .val (.ref c6), .val (.int (1 : Int32)), .val (.int (1 : Int32)), .val (.long (k1 - q)), .second] [(.long k1), (.long (k1 - q))]))
      refine own_go (fun _ k => XS.lcmp X8.here hx rfl (hb hby at_137) rfl k) ?_
      show own_Ends _ _ _ _ (T8.setTop (mkF mM 138 #[.val (.long q0), .second, .val (.long q1), .second, .val (.int p2), .val (.long q), .second, .val (.long d), .second, .val (.long k1), .second, .val (.ref b1), .val (.ref c6), .val (.int (1 : Int32)), .val (.int (1 : Int32)), .val (.long (k1 - q)), .second] [(.int (lcmpW (k1 - q) k1))]))
      refine own_go (fun _ k => XS.ifNo X8.here hx rfl (hb hby at_138) rfl ((if0 _ _).trans (flt (mt (lw_gt (k1 - q) k1).mp (own_ar2 k1 q hq hf72_2))).2.2.1) k) ?_
      show own_Ends _ _ _ _ (T8.setTop (mkF mM 141 #[.val (.long q0), .second, .val (.long q1), .second, .val (.int p2), .val (.long q), .second, .val (.long d), .second, .val (.long k1), .second, .val (.ref b1), .val (.ref c6), .val (.int (1 : Int32)), .val (.int (1 : Int32)), .val (.long (k1 - q)), .second] []))
      refine own_go (fun _ k => XS.lload X8.here hx rfl (hb hby at_141) rfl k) ?_
      show own_Ends _ _ _ _ (T8.setTop (mkF mM 143 #[.val (.long q0), .second, .val (.long q1), .second, .val (.int p2), .val (.long q), .second, .val (.long d), .second, .val (.long k1), .second, .val (.ref b1), .val (.ref c6), .val (.int (1 : Int32)), .val (.int (1 : Int32)), .val (.long (k1 - q)), .second] [(.long (k1 - q))]))
      refine own_go (fun _ k => XS.lload X8.here hx rfl (hb hby at_143) rfl k) ?_
      show own_Ends _ _ _ _ (T8.setTop (mkF mM 145 #[.val (.long q0), .second, .val (.long q1), .second, .val (.int p2), .val (.long q), .second, .val (.long d), .second, .val (.long k1), .second, .val (.ref b1), .val (.ref c6), .val (.int (1 : Int32)), .val (.int (1 : Int32)), .val (.long (k1 - q)), .second] [(.long q), (.long (k1 - q))]))
      refine own_go (fun _ k => XS.ladd X8.here hx rfl (hb hby at_145) rfl k) ?_
      show own_Ends _ _ _ _ (T8.setTop (mkF mM 146 #[.val (.long q0), .second, .val (.long q1), .second, .val (.int p2), .val (.long q), .second, .val (.long d), .second, .val (.long k1), .second, .val (.ref b1), .val (.ref c6), .val (.int (1 : Int32)), .val (.int (1 : Int32)), .val (.long (k1 - q)), .second] [(.long ((k1 - q) + q))]))
      refine own_go (fun _ k => XS.lload X8.here hx rfl (hb hby at_146) rfl k) ?_
      show own_Ends _ _ _ _ (T8.setTop (mkF mM 148 #[.val (.long q0), .second, .val (.long q1), .second, .val (.int p2), .val (.long q), .second, .val (.long d), .second, .val (.long k1), .second, .val (.ref b1), .val (.ref c6), .val (.int (1 : Int32)), .val (.int (1 : Int32)), .val (.long (k1 - q)), .second] [(.long k1), (.long ((k1 - q) + q))]))
      refine own_go (fun _ k => XS.lcmp X8.here hx rfl (hb hby at_148) rfl k) ?_
      show own_Ends _ _ _ _ (T8.setTop (mkF mM 149 #[.val (.long q0), .second, .val (.long q1), .second, .val (.int p2), .val (.long q), .second, .val (.long d), .second, .val (.long k1), .second, .val (.ref b1), .val (.ref c6), .val (.int (1 : Int32)), .val (.int (1 : Int32)), .val (.long (k1 - q)), .second] [(.int (lcmpW ((k1 - q) + q) k1))]))
      refine own_go (fun _ k => XS.ifNo X8.here hx rfl (hb hby at_149) rfl ((if0 _ _).trans (teq ((lw_eq ((k1 - q) + q) k1).mpr (own_ar3 k1 q hq hf72_2))).2) k) ?_
      show own_Ends _ _ _ _ (T8.setTop (mkF mM 152 #[.val (.long q0), .second, .val (.long q1), .second, .val (.int p2), .val (.long q), .second, .val (.long d), .second, .val (.long k1), .second, .val (.ref b1), .val (.ref c6), .val (.int (1 : Int32)), .val (.int (1 : Int32)), .val (.long (k1 - q)), .second] []))
      refine own_go (fun _ k => XS.iconst X8.here hx rfl (hb hby at_152) k) ?_
      show own_Ends _ _ _ _ (T8.setTop (mkF mM 153 #[.val (.long q0), .second, .val (.long q1), .second, .val (.int p2), .val (.long q), .second, .val (.long d), .second, .val (.long k1), .second, .val (.ref b1), .val (.ref c6), .val (.int (1 : Int32)), .val (.int (1 : Int32)), .val (.long (k1 - q)), .second] [(.int (1 : Int32))]))
      refine own_go (fun _ k => XS.goto X8.here hx rfl (pc0 := 153) (pc' := 157) rfl (hb hby at_153) (by decide) (by decide) k) ?_
      show own_Ends _ _ _ _ (T8.setTop (mkF mM 157 #[.val (.long q0), .second, .val (.long q1), .second, .val (.int p2), .val (.long q), .second, .val (.long d), .second, .val (.long k1), .second, .val (.ref b1), .val (.ref c6), .val (.int (1 : Int32)), .val (.int (1 : Int32)), .val (.long (k1 - q)), .second] [(.int (1 : Int32))]))
      refine own_go (fun _ k => XS.istore X8.here hx rfl (hb hby at_157) rfl (l' := #[.val (.long q0), .second, .val (.long q1), .second, .val (.int p2), .val (.long q), .second, .val (.long d), .second, .val (.long k1), .second, .val (.ref b1), .val (.ref c6), .val (.int (1 : Int32)), .val (.int (1 : Int32)), .val (.long (k1 - q)), .second]) rfl k) ?_
      show own_Ends _ _ _ _ (T8.setTop (mkF mM 159 #[.val (.long q0), .second, .val (.long q1), .second, .val (.int p2), .val (.long q), .second, .val (.long d), .second, .val (.long k1), .second, .val (.ref b1), .val (.ref c6), .val (.int (1 : Int32)), .val (.int (1 : Int32)), .val (.long (k1 - q)), .second] []))
      refine own_go (fun _ k => XS.iload X8.here hx rfl (hb hby at_159) rfl k) ?_
      show own_Ends _ _ _ _ (T8.setTop (mkF mM 161 #[.val (.long q0), .second, .val (.long q1), .second, .val (.int p2), .val (.long q), .second, .val (.long d), .second, .val (.long k1), .second, .val (.ref b1), .val (.ref c6), .val (.int (1 : Int32)), .val (.int (1 : Int32)), .val (.long (k1 - q)), .second] [(.int (1 : Int32))]))
      exact own_retZ X8 hx (BodyLoose.notSynchronized Bd) Bd.returns rfl (hb hby at_161) (by decide) (by decide) (by rw [e8]; exact ⟨rfl, N8⟩)
  refine own_go (fun _ k => XS.lloadN X0.here hx rfl (hb hby at_0) rfl k) ?_
  show own_Ends _ _ _ _ (s₁.setTop (mkF mM 1 #[.val (.long q0), .second, .val (.long q1), .second, .val (.int p2), .unset, .unset, .unset, .unset, .unset, .unset, .unset, .unset, .unset, .unset, .unset, .unset] [(.long q0)]))
  refine own_go (X0.ldc2Long hx hown (mvT hZ (hw _ (List.mem_of_getElem? (i := 0) rfl))) (g := (mkF mM 1 #[.val (.long q0), .second, .val (.long q1), .second, .val (.int p2), .unset, .unset, .unset, .unset, .unset, .unset, .unset, .unset, .unset, .unset, .unset, .unset] [(.long q0)])) rfl (hb hby at_1)) ?_
  show own_Ends _ _ _ _ (s₁.setTop (mkF mM 4 #[.val (.long q0), .second, .val (.long q1), .second, .val (.int p2), .unset, .unset, .unset, .unset, .unset, .unset, .unset, .unset, .unset, .unset, .unset, .unset] [(.long (9223372036854775807 : Int64)), (.long q0)]))
  refine own_go (fun _ k => XS.land X0.here hx rfl (hb hby at_4) rfl k) ?_
  show own_Ends _ _ _ _ (s₁.setTop (mkF mM 5 #[.val (.long q0), .second, .val (.long q1), .second, .val (.int p2), .unset, .unset, .unset, .unset, .unset, .unset, .unset, .unset, .unset, .unset, .unset, .unset] [(.long (q0 &&& (9223372036854775807 : Int64)))]))
  refine own_go (fun _ k => XS.lstore X0.here hx rfl (hb hby at_5) rfl (l' := #[.val (.long q0), .second, .val (.long q1), .second, .val (.int p2), .val (.long (q0 &&& (9223372036854775807 : Int64))), .second, .unset, .unset, .unset, .unset, .unset, .unset, .unset, .unset, .unset, .unset]) rfl k) ?_
  show own_Ends _ _ _ _ (s₁.setTop (mkF mM 7 #[.val (.long q0), .second, .val (.long q1), .second, .val (.int p2), .val (.long (q0 &&& (9223372036854775807 : Int64))), .second, .unset, .unset, .unset, .unset, .unset, .unset, .unset, .unset, .unset, .unset] []))
  refine own_go (fun _ k => XS.lloadN X0.here hx rfl (hb hby at_7) rfl k) ?_
  show own_Ends _ _ _ _ (s₁.setTop (mkF mM 8 #[.val (.long q0), .second, .val (.long q1), .second, .val (.int p2), .val (.long (q0 &&& (9223372036854775807 : Int64))), .second, .unset, .unset, .unset, .unset, .unset, .unset, .unset, .unset, .unset, .unset] [(.long q1)]))
  refine own_go (X0.ldc2Long hx hown (mvT hZ (hw _ (List.mem_of_getElem? (i := 1) rfl))) (g := (mkF mM 8 #[.val (.long q0), .second, .val (.long q1), .second, .val (.int p2), .val (.long (q0 &&& (9223372036854775807 : Int64))), .second, .unset, .unset, .unset, .unset, .unset, .unset, .unset, .unset, .unset, .unset] [(.long q1)])) rfl (hb hby at_8)) ?_
  show own_Ends _ _ _ _ (s₁.setTop (mkF mM 11 #[.val (.long q0), .second, .val (.long q1), .second, .val (.int p2), .val (.long (q0 &&& (9223372036854775807 : Int64))), .second, .unset, .unset, .unset, .unset, .unset, .unset, .unset, .unset, .unset, .unset] [(.long (255 : Int64)), (.long q1)]))
  refine own_go (fun _ k => XS.land X0.here hx rfl (hb hby at_11) rfl k) ?_
  show own_Ends _ _ _ _ (s₁.setTop (mkF mM 12 #[.val (.long q0), .second, .val (.long q1), .second, .val (.int p2), .val (.long (q0 &&& (9223372036854775807 : Int64))), .second, .unset, .unset, .unset, .unset, .unset, .unset, .unset, .unset, .unset, .unset] [(.long (q1 &&& (255 : Int64)))]))
  refine own_go (fun _ k => XS.lstore X0.here hx rfl (hb hby at_12) rfl (l' := #[.val (.long q0), .second, .val (.long q1), .second, .val (.int p2), .val (.long (q0 &&& (9223372036854775807 : Int64))), .second, .val (.long (q1 &&& (255 : Int64))), .second, .unset, .unset, .unset, .unset, .unset, .unset, .unset, .unset]) rfl k) ?_
  show own_Ends _ _ _ _ (s₁.setTop (mkF mM 14 #[.val (.long q0), .second, .val (.long q1), .second, .val (.int p2), .val (.long (q0 &&& (9223372036854775807 : Int64))), .second, .val (.long (q1 &&& (255 : Int64))), .second, .unset, .unset, .unset, .unset, .unset, .unset, .unset, .unset] []))
  refine own_go (fun _ k => XS.iload X0.here hx rfl (hb hby at_14) rfl k) ?_
  show own_Ends _ _ _ _ (s₁.setTop (mkF mM 16 #[.val (.long q0), .second, .val (.long q1), .second, .val (.int p2), .val (.long (q0 &&& (9223372036854775807 : Int64))), .second, .val (.long (q1 &&& (255 : Int64))), .second, .unset, .unset, .unset, .unset, .unset, .unset, .unset, .unset] [(.int p2)]))
  refine own_go (fun _ k => XS.iconst X0.here hx rfl (hb hby at_16) k) ?_
  show own_Ends _ _ _ _ (s₁.setTop (mkF mM 17 #[.val (.long q0), .second, .val (.long q1), .second, .val (.int p2), .val (.long (q0 &&& (9223372036854775807 : Int64))), .second, .val (.long (q1 &&& (255 : Int64))), .second, .unset, .unset, .unset, .unset, .unset, .unset, .unset, .unset] [(.int (1 : Int32)), (.int p2)]))
  refine own_go (fun _ k => XS.iand X0.here hx rfl (hb hby at_17) rfl k) ?_
  show own_Ends _ _ _ _ (s₁.setTop (mkF mM 18 #[.val (.long q0), .second, .val (.long q1), .second, .val (.int p2), .val (.long (q0 &&& (9223372036854775807 : Int64))), .second, .val (.long (q1 &&& (255 : Int64))), .second, .unset, .unset, .unset, .unset, .unset, .unset, .unset, .unset] [(.int (p2 &&& (1 : Int32)))]))
  by_cases hc18_8 : (p2 &&& (1 : Int32)) = (0 : Int32)
  · refine own_go (fun _ k => XS.ifYes X0.here hx rfl (pc0 := 18) (pc' := 54) rfl (hb hby at_18) rfl ((if0 _ _).trans (teq hc18_8).1) (by decide) (by decide) k) ?_
    show own_Ends _ _ _ _ (s₁.setTop (mkF mM 54 #[.val (.long q0), .second, .val (.long q1), .second, .val (.int p2), .val (.long (q0 &&& (9223372036854775807 : Int64))), .second, .val (.long (q1 &&& (255 : Int64))), .second, .unset, .unset, .unset, .unset, .unset, .unset, .unset, .unset] []))
    refine own_go (fun _ k => XS.lloadN X0.here hx rfl (hb hby at_54) rfl k) ?_
    show own_Ends _ _ _ _ (s₁.setTop (mkF mM 55 #[.val (.long q0), .second, .val (.long q1), .second, .val (.int p2), .val (.long (q0 &&& (9223372036854775807 : Int64))), .second, .val (.long (q1 &&& (255 : Int64))), .second, .unset, .unset, .unset, .unset, .unset, .unset, .unset, .unset] [(.long q1)]))
    refine own_go (fun _ k => XS.lstore X0.here hx rfl (hb hby at_55) rfl (l' := #[.val (.long q0), .second, .val (.long q1), .second, .val (.int p2), .val (.long (q0 &&& (9223372036854775807 : Int64))), .second, .val (.long (q1 &&& (255 : Int64))), .second, .val (.long q1), .second, .unset, .unset, .unset, .unset, .unset, .unset]) rfl k) ?_
    show own_Ends _ _ _ _ (s₁.setTop (mkF mM 57 #[.val (.long q0), .second, .val (.long q1), .second, .val (.int p2), .val (.long (q0 &&& (9223372036854775807 : Int64))), .second, .val (.long (q1 &&& (255 : Int64))), .second, .val (.long q1), .second, .unset, .unset, .unset, .unset, .unset, .unset] []))
    exact cut (q0 &&& (9223372036854775807 : Int64)) (q1 &&& (255 : Int64)) q1 (own_mask q0)
  · refine own_go (fun _ k => XS.ifNo X0.here hx rfl (hb hby at_18) rfl ((if0 _ _).trans (feq hc18_8).1) k) ?_
    show own_Ends _ _ _ _ (s₁.setTop (mkF mM 21 #[.val (.long q0), .second, .val (.long q1), .second, .val (.int p2), .val (.long (q0 &&& (9223372036854775807 : Int64))), .second, .val (.long (q1 &&& (255 : Int64))), .second, .unset, .unset, .unset, .unset, .unset, .unset, .unset, .unset] []))
    refine own_go (fun _ k => XS.lload X0.here hx rfl (hb hby at_21) rfl k) ?_
    show own_Ends _ _ _ _ (s₁.setTop (mkF mM 23 #[.val (.long q0), .second, .val (.long q1), .second, .val (.int p2), .val (.long (q0 &&& (9223372036854775807 : Int64))), .second, .val (.long (q1 &&& (255 : Int64))), .second, .unset, .unset, .unset, .unset, .unset, .unset, .unset, .unset] [(.long (q0 &&& (9223372036854775807 : Int64)))]))
    refine own_go (X0.ldc2Long hx hown (mvT hZ (hw _ (List.mem_of_getElem? (i := 30) rfl))) (g := (mkF mM 23 #[.val (.long q0), .second, .val (.long q1), .second, .val (.int p2), .val (.long (q0 &&& (9223372036854775807 : Int64))), .second, .val (.long (q1 &&& (255 : Int64))), .second, .unset, .unset, .unset, .unset, .unset, .unset, .unset, .unset] [(.long (q0 &&& (9223372036854775807 : Int64)))])) rfl (hb hby at_23)) ?_
    show own_Ends _ _ _ _ (s₁.setTop (mkF mM 26 #[.val (.long q0), .second, .val (.long q1), .second, .val (.int p2), .val (.long (q0 &&& (9223372036854775807 : Int64))), .second, .val (.long (q1 &&& (255 : Int64))), .second, .unset, .unset, .unset, .unset, .unset, .unset, .unset, .unset] [(.long (9223372036854775552 : Int64)), (.long (q0 &&& (9223372036854775807 : Int64)))]))
    refine own_go (fun _ k => XS.lcmp X0.here hx rfl (hb hby at_26) rfl k) ?_
    show own_Ends _ _ _ _ (s₁.setTop (mkF mM 27 #[.val (.long q0), .second, .val (.long q1), .second, .val (.int p2), .val (.long (q0 &&& (9223372036854775807 : Int64))), .second, .val (.long (q1 &&& (255 : Int64))), .second, .unset, .unset, .unset, .unset, .unset, .unset, .unset, .unset] [(.int (lcmpW (q0 &&& (9223372036854775807 : Int64)) (9223372036854775552 : Int64)))]))
    by_cases hc27_9 : (9223372036854775552 : Int64) < (q0 &&& (9223372036854775807 : Int64))
    · refine own_go (fun _ k => XS.ifYes X0.here hx rfl (pc0 := 27) (pc' := 44) rfl (hb hby at_27) rfl ((if0 _ _).trans (tlt ((lw_gt (q0 &&& (9223372036854775807 : Int64)) (9223372036854775552 : Int64)).mpr hc27_9)).2.2.1) (by decide) (by decide) k) ?_
      show own_Ends _ _ _ _ (s₁.setTop (mkF mM 44 #[.val (.long q0), .second, .val (.long q1), .second, .val (.int p2), .val (.long (q0 &&& (9223372036854775807 : Int64))), .second, .val (.long (q1 &&& (255 : Int64))), .second, .unset, .unset, .unset, .unset, .unset, .unset, .unset, .unset] []))
      refine own_go (fun _ k => XS.lload X0.here hx rfl (hb hby at_44) rfl k) ?_
      show own_Ends _ _ _ _ (s₁.setTop (mkF mM 46 #[.val (.long q0), .second, .val (.long q1), .second, .val (.int p2), .val (.long (q0 &&& (9223372036854775807 : Int64))), .second, .val (.long (q1 &&& (255 : Int64))), .second, .unset, .unset, .unset, .unset, .unset, .unset, .unset, .unset] [(.long (q0 &&& (9223372036854775807 : Int64)))]))
      refine own_go (fun _ k => XS.lload X0.here hx rfl (hb hby at_46) rfl k) ?_
      show own_Ends _ _ _ _ (s₁.setTop (mkF mM 48 #[.val (.long q0), .second, .val (.long q1), .second, .val (.int p2), .val (.long (q0 &&& (9223372036854775807 : Int64))), .second, .val (.long (q1 &&& (255 : Int64))), .second, .unset, .unset, .unset, .unset, .unset, .unset, .unset, .unset] [(.long (q1 &&& (255 : Int64))), (.long (q0 &&& (9223372036854775807 : Int64)))]))
      refine own_go (fun _ k => XS.lsub X0.here hx rfl (hb hby at_48) rfl k) ?_
      show own_Ends _ _ _ _ (s₁.setTop (mkF mM 49 #[.val (.long q0), .second, .val (.long q1), .second, .val (.int p2), .val (.long (q0 &&& (9223372036854775807 : Int64))), .second, .val (.long (q1 &&& (255 : Int64))), .second, .unset, .unset, .unset, .unset, .unset, .unset, .unset, .unset] [(.long ((q0 &&& (9223372036854775807 : Int64)) - (q1 &&& (255 : Int64))))]))
      refine own_go (fun _ k => XS.lstore X0.here hx rfl (hb hby at_49) rfl (l' := #[.val (.long q0), .second, .val (.long q1), .second, .val (.int p2), .val (.long (q0 &&& (9223372036854775807 : Int64))), .second, .val (.long (q1 &&& (255 : Int64))), .second, .val (.long ((q0 &&& (9223372036854775807 : Int64)) - (q1 &&& (255 : Int64)))), .second, .unset, .unset, .unset, .unset, .unset, .unset]) rfl k) ?_
      show own_Ends _ _ _ _ (s₁.setTop (mkF mM 51 #[.val (.long q0), .second, .val (.long q1), .second, .val (.int p2), .val (.long (q0 &&& (9223372036854775807 : Int64))), .second, .val (.long (q1 &&& (255 : Int64))), .second, .val (.long ((q0 &&& (9223372036854775807 : Int64)) - (q1 &&& (255 : Int64)))), .second, .unset, .unset, .unset, .unset, .unset, .unset] []))
      refine own_go (fun _ k => XS.goto X0.here hx rfl (pc0 := 51) (pc' := 57) rfl (hb hby at_51) (by decide) (by decide) k) ?_
      show own_Ends _ _ _ _ (s₁.setTop (mkF mM 57 #[.val (.long q0), .second, .val (.long q1), .second, .val (.int p2), .val (.long (q0 &&& (9223372036854775807 : Int64))), .second, .val (.long (q1 &&& (255 : Int64))), .second, .val (.long ((q0 &&& (9223372036854775807 : Int64)) - (q1 &&& (255 : Int64)))), .second, .unset, .unset, .unset, .unset, .unset, .unset] []))
      exact cut (q0 &&& (9223372036854775807 : Int64)) (q1 &&& (255 : Int64)) ((q0 &&& (9223372036854775807 : Int64)) - (q1 &&& (255 : Int64))) (own_mask q0)
    · refine own_go (fun _ k => XS.ifNo X0.here hx rfl (hb hby at_27) rfl ((if0 _ _).trans (flt (mt (lw_gt (q0 &&& (9223372036854775807 : Int64)) (9223372036854775552 : Int64)).mp hc27_9)).2.2.1) k) ?_
      show own_Ends _ _ _ _ (s₁.setTop (mkF mM 30 #[.val (.long q0), .second, .val (.long q1), .second, .val (.int p2), .val (.long (q0 &&& (9223372036854775807 : Int64))), .second, .val (.long (q1 &&& (255 : Int64))), .second, .unset, .unset, .unset, .unset, .unset, .unset, .unset, .unset] []))
      refine own_go (fun _ k => XS.lload X0.here hx rfl (hb hby at_30) rfl k) ?_
      show own_Ends _ _ _ _ (s₁.setTop (mkF mM 32 #[.val (.long q0), .second, .val (.long q1), .second, .val (.int p2), .val (.long (q0 &&& (9223372036854775807 : Int64))), .second, .val (.long (q1 &&& (255 : Int64))), .second, .unset, .unset, .unset, .unset, .unset, .unset, .unset, .unset] [(.long (q0 &&& (9223372036854775807 : Int64)))]))
      refine own_go (fun _ k => XS.lload X0.here hx rfl (hb hby at_32) rfl k) ?_
      show own_Ends _ _ _ _ (s₁.setTop (mkF mM 34 #[.val (.long q0), .second, .val (.long q1), .second, .val (.int p2), .val (.long (q0 &&& (9223372036854775807 : Int64))), .second, .val (.long (q1 &&& (255 : Int64))), .second, .unset, .unset, .unset, .unset, .unset, .unset, .unset, .unset] [(.long (q1 &&& (255 : Int64))), (.long (q0 &&& (9223372036854775807 : Int64)))]))
      refine own_go (fun _ k => XS.ladd X0.here hx rfl (hb hby at_34) rfl k) ?_
      show own_Ends _ _ _ _ (s₁.setTop (mkF mM 35 #[.val (.long q0), .second, .val (.long q1), .second, .val (.int p2), .val (.long (q0 &&& (9223372036854775807 : Int64))), .second, .val (.long (q1 &&& (255 : Int64))), .second, .unset, .unset, .unset, .unset, .unset, .unset, .unset, .unset] [(.long ((q0 &&& (9223372036854775807 : Int64)) + (q1 &&& (255 : Int64))))]))
      refine own_go (X0.ldc2Long hx hown (mvT hZ (hw _ (List.mem_of_getElem? (i := 31) rfl))) (g := (mkF mM 35 #[.val (.long q0), .second, .val (.long q1), .second, .val (.int p2), .val (.long (q0 &&& (9223372036854775807 : Int64))), .second, .val (.long (q1 &&& (255 : Int64))), .second, .unset, .unset, .unset, .unset, .unset, .unset, .unset, .unset] [(.long ((q0 &&& (9223372036854775807 : Int64)) + (q1 &&& (255 : Int64))))])) rfl (hb hby at_35)) ?_
      show own_Ends _ _ _ _ (s₁.setTop (mkF mM 38 #[.val (.long q0), .second, .val (.long q1), .second, .val (.int p2), .val (.long (q0 &&& (9223372036854775807 : Int64))), .second, .val (.long (q1 &&& (255 : Int64))), .second, .unset, .unset, .unset, .unset, .unset, .unset, .unset, .unset] [(.long (128 : Int64)), (.long ((q0 &&& (9223372036854775807 : Int64)) + (q1 &&& (255 : Int64))))]))
      refine own_go (fun _ k => XS.lsub X0.here hx rfl (hb hby at_38) rfl k) ?_
      show own_Ends _ _ _ _ (s₁.setTop (mkF mM 39 #[.val (.long q0), .second, .val (.long q1), .second, .val (.int p2), .val (.long (q0 &&& (9223372036854775807 : Int64))), .second, .val (.long (q1 &&& (255 : Int64))), .second, .unset, .unset, .unset, .unset, .unset, .unset, .unset, .unset] [(.long (((q0 &&& (9223372036854775807 : Int64)) + (q1 &&& (255 : Int64))) - (128 : Int64)))]))
      refine own_go (fun _ k => XS.lstore X0.here hx rfl (hb hby at_39) rfl (l' := #[.val (.long q0), .second, .val (.long q1), .second, .val (.int p2), .val (.long (q0 &&& (9223372036854775807 : Int64))), .second, .val (.long (q1 &&& (255 : Int64))), .second, .val (.long (((q0 &&& (9223372036854775807 : Int64)) + (q1 &&& (255 : Int64))) - (128 : Int64))), .second, .unset, .unset, .unset, .unset, .unset, .unset]) rfl k) ?_
      show own_Ends _ _ _ _ (s₁.setTop (mkF mM 41 #[.val (.long q0), .second, .val (.long q1), .second, .val (.int p2), .val (.long (q0 &&& (9223372036854775807 : Int64))), .second, .val (.long (q1 &&& (255 : Int64))), .second, .val (.long (((q0 &&& (9223372036854775807 : Int64)) + (q1 &&& (255 : Int64))) - (128 : Int64))), .second, .unset, .unset, .unset, .unset, .unset, .unset] []))
      refine own_go (fun _ k => XS.goto X0.here hx rfl (pc0 := 41) (pc' := 57) rfl (hb hby at_41) (by decide) (by decide) k) ?_
      show own_Ends _ _ _ _ (s₁.setTop (mkF mM 57 #[.val (.long q0), .second, .val (.long q1), .second, .val (.int p2), .val (.long (q0 &&& (9223372036854775807 : Int64))), .second, .val (.long (q1 &&& (255 : Int64))), .second, .val (.long (((q0 &&& (9223372036854775807 : Int64)) + (q1 &&& (255 : Int64))) - (128 : Int64))), .second, .unset, .unset, .unset, .unset, .unset, .unset] []))
      exact cut (q0 &&& (9223372036854775807 : Int64)) (q1 &&& (255 : Int64)) (((q0 &&& (9223372036854775807 : Int64)) + (q1 &&& (255 : Int64))) - (128 : Int64)) (own_mask q0)
set_option maxRecDepth 65536 in
set_option maxHeartbeats 40000000 in
theorem comes_1 {Post : Tables → Env → Array Value → State → Outcome → State → Prop} (hpost : ∀ tb e args s v u, (limb_1_1.after args s (.returned v) u = true ∧ limb_1_2.after args s (.returned v) u = true ∧ True) → FrameEnd s (.returned v) u (Jvm.fieldLocs frame_1_writes args s ++ Jvm.arrayLocs frame_1_arrays args s ++ Jvm.staticLocs frame_1_statics s) 16 128 → Post tb e args s (.returned v) u) :
    ArmFor flags0 classFile x code maxLocals ret World_1 tables_1 room_1 Calls_1 rest_1 Pre_1 Post := by
  intro l hfl _ _ p e ha hc hk s m args below hf hA hF happ hP
  obtain ⟨hcalls, hrest, hpre⟩ := hP
  obtain ⟨-, -, -, hnamed, -, -, -, hat⟩ := (Spec.applies_iff hf).mp happ
  obtain ⟨hg, hn⟩ := and_e (Cond.before_iff.mp (show (Jvm.Cond.and given_1 narrow_1).before args s = true from hpre))
  obtain ⟨hg0, hr0⟩ := and_e hg
  obtain ⟨hg1, hr1⟩ := and_e hr0
  obtain ⟨hg2, hg3⟩ := and_e hr1
  obtain ⟨w0, w1, w2, rfl⟩ : ∃ w0 w1 w2 : Value, args = #[w0, w1, w2] := by
    have hs : args.size = 3 := by simpa [Cond.value, given_1] using hg0
    obtain ⟨L⟩ := args
    match L, hs with
    | [w0, w1, w2], _ => exact ⟨w0, w1, w2, rfl⟩
  have hw := fun d (hd : d ∈ tables_1) => atoms_spec (ws := Jvm.Cond.code x code maxLocals ret :: tables_1) hat d (List.mem_cons_of_mem _ hd)
  have hfit : Fit s := fun {y c} hc i hi => by
    obtain ⟨ha, rfl⟩ := Array.getElem?_eq_some_iff.mp hc
    have q := List.all_eq_true.mp ((Array.all_eq_true_iff_forall_mem.mp hF) _ (Array.getElem_mem ha)) i (List.mem_range.mpr hi)
    simpa [Array.getElem?_eq_getElem hi] using q
  obtain ⟨hsets, hown0⟩ := atoms_of _ (rest_1_c_eq ▸ (show rest_1_c.before _ s = true from hrest))
  obtain ⟨i0, ei0⟩ := isL_v hg1
  obtain rfl : w0 = (.long i0) := Option.some.inj ei0
  obtain ⟨i1, ei1⟩ := isL_v hg2
  obtain rfl : w1 = (.long i1) := Option.some.inj ei1
  obtain ⟨i2, ei2⟩ := is_v hg3
  obtain rfl : w2 = (.int i2) := Option.some.inj ei2
  have hj2 := Cond.before_iff.mp (hsets _ (List.mem_of_getElem? (i := 2) rfl))
  obtain ⟨a_EMPTY, ev_EMPTY⟩ := exa_v hj2
  have S_EMPTY : Sta s s.heap "java/util/OptionalLong" "EMPTY" "Ljava/util/OptionalLong;" (.ref a_EMPTY) := Sta.start ev_EMPTY (Or.inl (hsets _ (List.mem_of_getElem? (i := 1) rfl)))
  have E_EMPTY : Exa s s.heap a_EMPTY "java/util/OptionalLong" := Exa.start ev_EMPTY hj2
  have hj3 := Cond.before_iff.mp (hsets _ (List.mem_of_getElem? (i := 3) rfl))
  have F_EMPTY_isPresent : Fld s s.heap a_EMPTY "java/util/OptionalLong" "isPresent" "Z" (.int (0 : Int32)) := own_fldI ev_EMPTY hj3
  have hj4 := Cond.before_iff.mp (hsets _ (List.mem_of_getElem? (i := 4) rfl))
  have F_EMPTY_value : Fld s s.heap a_EMPTY "java/util/OptionalLong" "value" "J" (.long (0 : Int64)) := own_fldJ ev_EMPTY hj4
  obtain ⟨n, o, h1, h2, h3, _, L, rfl, ⟨rfl, N⟩, hq⟩ := own_law l s _ hw tables_1 i0 i1 i2 a_EMPTY s.heap s.heap.size (Old.start s) S_EMPTY E_EMPTY F_EMPTY_isPresent p e ha hc hk s m _ below hf ((Spec.applies_iff_loose hf).mp happ).1 ⟨rfl, State.Warmed39.refl s, rfl⟩ trivial
  refine ⟨n, _, h1, h2, h3, hpost _ _ _ _ _ _ ⟨Cond.after_iff.mpr rfl, Cond.after_iff.mpr (eq_i res_at (Term.int_eval (1)) rfl), trivial⟩ ⟨hq.1, hq.2.1, (hq.2.2.sift fun y hy => Or.inr (N y hy)).mono (by decide) (by decide)⟩⟩
theorem main_1_1 : Claimed_1_1 := comes_1 fun _ _ _ _ _ _ h hF => ⟨h.1, hF⟩
theorem main_1_2 : Claimed_1_2 := comes_1 fun _ _ _ _ _ _ h hF => ⟨h.2.1, hF⟩
end Jvm.Pilot.@@N@@
namespace Jvm.Pilot.@@N@@
open Jvm Jvm.ClassFile Sem Op Lib Jvm.Free Jvm.Stand Jvm.Pilot.@@N@@.Jvm.D
/-! MADE BY PROGRAM (witnessworld.py) out of the Statement's table words and the real class files: 11 classes; the members and pool entries that the words name. The judged class is class 1, her method 1. -/
namespace start1
open Jvm.ClassFile
def u (s : String) : CpInfo := .utf8 (stringToUtf16 s)
/-- a pool by its gaps: so many unusable entries, then the entry; so many at the end -/
def gap : Nat → List CpInfo → List CpInfo
  | 0, r => r
  | n + 1, r => .unusable :: gap n r
def poolList (es : List (Nat × CpInfo)) (last : Nat) : List CpInfo := es.foldr (fun e r => gap e.1 (e.2 :: r)) (gap last [])
def pool (es : List (Nat × CpInfo)) (last : Nat) : Array CpInfo := ⟨poolList es last⟩
def fileOf (pool : Array CpInfo) (this : Nat) (attrs : Array Attribute := #[]) (ms : Array MethodInfo := #[]) (fl : Nat := 33) (sup : Nat := 0) (ifs : Array Nat := #[]) (fds : Array FieldInfo := #[]) : ClassFile where
  minorVersion := 0
  majorVersion := 65
  constantPool := pool
  accessFlags := fl
  thisClass := this
  superClass := sup
  interfaces := ifs
  fields := fds
  methods := ms
  attributes := attrs
def plain (name : String) (sup : Option ClassId) : Class where
  name := name
  kind := .ordinary
  loader := none
  accessFlags := 33
  super := sup
  interfaces := #[]
  cf := none
  fields := #[]
  methods := #[]
  instanceTypes := #[]
  staticTypes := #[]
  resolved := #[]
  callSites := []
  init := .initialized
  statics := none
  mirror := none

def pool0 : Array CpInfo := pool [(5, u "<init>"), (0, u "()V"), (1, .class_ 10), (1, u "java/lang/Object")] 113

def k0c0 : Code := { maxStack := 0, maxLocals := 1, code := object_method_1_code, exceptionTable := #[], attributes := #[] }
def k0m0 : Method := { name := "<init>", desc := "()V", sig := { parameters := [], returnType := none }, accessFlags := 1, code := some k0c0 }
/-- java/lang/Object -/
def k0 : Class := { plain "java/lang/Object" none with
  accessFlags := 33
  interfaces := #[]
  cf := some (fileOf pool0 8 #[] #[{ accessFlags := 1, nameIndex := 5, descriptorIndex := 6, attributes := #[] }] 33 0 #[] #[])
  fields := #[]
  methods := #[k0m0]
  instanceTypes := #[]
  staticTypes := #[]
  resolved := Array.replicate 124 none
  statics := none }

def pool1 : Array CpInfo := pool [(2, .class_ 4), (1, u "java/lang/Object"), (0, u "<init>"), (0, u "()V"), (2, .long 9223372036854775807), (1, .long 255), (1, .long 9223372036854775552), (1, .long 128), (1, .class_ 18), (0, u "com/example/contention/contention/Take"), (0, .methodref 17 20), (0, .nameAndType 5 21), (0, u "(J)V"), (0, .methodref 17 23), (0, .nameAndType 24 25), (0, u "apply"), (0, u "(J)Ljava/util/OptionalLong;"), (0, .methodref 27 28), (0, .class_ 29), (0, .nameAndType 30 31), (0, u "java/util/OptionalLong"), (0, u "isPresent"), (0, u "()Z"), (0, .methodref 27 33), (0, .nameAndType 34 35), (0, u "getAsLong"), (0, u "()J"), (0, .class_ 37), (0, u "com/example/contention/contention/TakeApplyPinLaw"), (2, u "law"), (0, u "(JJI)Z")] 3

def k1m0 : Method := { name := "<init>", desc := "()V", sig := { parameters := [], returnType := none }, accessFlags := 2, code := none }
def k1c1 : Code := { maxStack := 5, maxLocals := 17, code := code, exceptionTable := #[], attributes := #[] }
def k1m1 : Method := { name := "law", desc := "(JJI)Z", sig := { parameters := [.long, .long, .int], returnType := some .boolean }, accessFlags := 9, code := some k1c1 }
/-- com/example/contention/contention/TakeApplyPinLaw -/
def k1 : Class := { plain "com/example/contention/contention/TakeApplyPinLaw" (some 0) with
  accessFlags := 49
  interfaces := #[]
  cf := some (fileOf pool1 36 #[] #[{ accessFlags := 2, nameIndex := 5, descriptorIndex := 6, attributes := #[] }, { accessFlags := 9, nameIndex := 40, descriptorIndex := 41, attributes := #[] }] 49 2 #[] #[])
  fields := #[]
  methods := #[k1m0, k1m1]
  instanceTypes := #[]
  staticTypes := #[]
  resolved := Array.replicate 45 none
  statics := none }

def pool2 : Array CpInfo := pool [(7, .class_ 8), (0, u "com/example/contention/contention/StockChange"), (0, .class_ 10), (0, u "java/lang/Object")] 10

/-- com/example/contention/contention/StockChange -/
def k2 : Class := { plain "com/example/contention/contention/StockChange" (some 0) with
  accessFlags := 1537
  interfaces := #[]
  cf := some (fileOf pool2 7 #[] #[] 1537 9 #[] #[])
  fields := #[]
  methods := #[]
  instanceTypes := #[]
  staticTypes := #[]
  resolved := Array.replicate 21 none
  statics := none }

def pool3 : Array CpInfo := pool [(1, .methodref 2 3), (0, .class_ 4), (0, .nameAndType 5 6), (0, u "java/lang/Object"), (0, u "<init>"), (0, u "()V"), (9, .fieldref 17 18), (0, .class_ 19), (0, .nameAndType 20 21), (0, u "com/example/contention/contention/Take"), (0, u "quantity"), (0, u "J"), (0, .methodref 23 24), (0, .class_ 25), (0, .nameAndType 26 27), (0, u "java/util/OptionalLong"), (0, u "empty"), (0, u "()Ljava/util/OptionalLong;"), (0, .methodref 23 29), (0, .nameAndType 30 31), (0, u "of"), (0, u "(J)Ljava/util/OptionalLong;"), (0, .class_ 33), (0, u "com/example/contention/contention/StockChange"), (0, u "(J)V"), (4, u "apply")] 17

def k3c0 : Code := { maxStack := 4, maxLocals := 3, code := prog_27_method_1_code, exceptionTable := #[], attributes := #[] }
def k3m0 : Method := { name := "<init>", desc := "(J)V", sig := { parameters := [.long], returnType := none }, accessFlags := 0, code := some k3c0 }
def k3c1 : Code := { maxStack := 4, maxLocals := 4, code := prog_27_method_3_code, exceptionTable := #[], attributes := #[] }
def k3m1 : Method := { name := "apply", desc := "(J)Ljava/util/OptionalLong;", sig := { parameters := [.long], returnType := some (.object "java/util/OptionalLong") }, accessFlags := 1, code := some k3c1 }
/-- com/example/contention/contention/Take -/
def k3 : Class := { plain "com/example/contention/contention/Take" (some 0) with
  accessFlags := 48
  interfaces := #[2]
  cf := some (fileOf pool3 17 #[] #[{ accessFlags := 0, nameIndex := 5, descriptorIndex := 34, attributes := #[] }, { accessFlags := 1, nameIndex := 39, descriptorIndex := 31, attributes := #[] }] 48 2 #[32] #[{ accessFlags := 18, nameIndex := 20, descriptorIndex := 21, attributes := #[] }])
  fields := #[{ name := "quantity", type := .long, accessFlags := 18, slot := 0, constantValue := 0 }]
  methods := #[k3m0, k3m1]
  instanceTypes := #[.long]
  staticTypes := #[]
  resolved := Array.replicate 57 none
  statics := none }

def pool4 : Array CpInfo := pool [(1, .methodref 2 3), (0, .class_ 4), (0, .nameAndType 5 6), (0, u "java/lang/Object"), (0, u "<init>"), (0, u "()V"), (0, .fieldref 8 9), (0, .class_ 10), (0, .nameAndType 11 12), (0, u "java/util/OptionalLong"), (0, u "isPresent"), (0, u "Z"), (0, .fieldref 8 14), (0, .nameAndType 15 16), (0, u "value"), (0, u "J"), (0, .fieldref 8 18), (0, .nameAndType 19 20), (0, u "EMPTY"), (0, u "Ljava/util/OptionalLong;"), (0, .methodref 8 22), (0, .nameAndType 5 23), (0, u "(J)V"), (21, u "of"), (3, u "empty"), (5, u "getAsLong"), (0, u "()J"), (39, u "()Ljava/util/OptionalLong;"), (0, u "(J)Ljava/util/OptionalLong;"), (1, u "()Z")] 38

def k4m0 : Method := { name := "<init>", desc := "()V", sig := { parameters := [], returnType := none }, accessFlags := 2, code := none }
def k4c1 : Code := { maxStack := 1, maxLocals := 0, code := jdk_2650_method_2_code, exceptionTable := #[], attributes := #[] }
def k4m1 : Method := { name := "empty", desc := "()Ljava/util/OptionalLong;", sig := { parameters := [], returnType := some (.object "java/util/OptionalLong") }, accessFlags := 9, code := some k4c1 }
def k4c2 : Code := { maxStack := 3, maxLocals := 3, code := jdk_2650_method_3_code, exceptionTable := #[], attributes := #[] }
def k4m2 : Method := { name := "<init>", desc := "(J)V", sig := { parameters := [.long], returnType := none }, accessFlags := 2, code := some k4c2 }
def k4c3 : Code := { maxStack := 4, maxLocals := 2, code := jdk_2650_method_4_code, exceptionTable := #[], attributes := #[] }
def k4m3 : Method := { name := "of", desc := "(J)Ljava/util/OptionalLong;", sig := { parameters := [.long], returnType := some (.object "java/util/OptionalLong") }, accessFlags := 9, code := some k4c3 }
def k4c4 : Code := { maxStack := 3, maxLocals := 1, code := jdk_2650_method_5_code, exceptionTable := #[], attributes := #[] }
def k4m4 : Method := { name := "getAsLong", desc := "()J", sig := { parameters := [], returnType := some .long }, accessFlags := 1, code := some k4c4 }
def k4c5 : Code := { maxStack := 1, maxLocals := 1, code := jdk_2650_method_6_code, exceptionTable := #[], attributes := #[] }
def k4m5 : Method := { name := "isPresent", desc := "()Z", sig := { parameters := [], returnType := some .boolean }, accessFlags := 1, code := some k4c5 }
/-- java/util/OptionalLong -/
def k4 : Class := { plain "java/util/OptionalLong" (some 0) with
  accessFlags := 49
  interfaces := #[]
  cf := some (fileOf pool4 8 #[] #[{ accessFlags := 2, nameIndex := 5, descriptorIndex := 6, attributes := #[] }, { accessFlags := 9, nameIndex := 49, descriptorIndex := 96, attributes := #[] }, { accessFlags := 2, nameIndex := 5, descriptorIndex := 23, attributes := #[] }, { accessFlags := 9, nameIndex := 45, descriptorIndex := 97, attributes := #[] }, { accessFlags := 1, nameIndex := 55, descriptorIndex := 56, attributes := #[] }, { accessFlags := 1, nameIndex := 11, descriptorIndex := 99, attributes := #[] }] 49 2 #[] #[{ accessFlags := 26, nameIndex := 19, descriptorIndex := 20, attributes := #[] }, { accessFlags := 18, nameIndex := 11, descriptorIndex := 12, attributes := #[] }, { accessFlags := 18, nameIndex := 15, descriptorIndex := 16, attributes := #[] }])
  fields := #[{ name := "EMPTY", type := (.object "java/util/OptionalLong"), accessFlags := 26, slot := 0, constantValue := 0 }, { name := "isPresent", type := .boolean, accessFlags := 18, slot := 0, constantValue := 0 }, { name := "value", type := .long, accessFlags := 18, slot := 1, constantValue := 0 }]
  methods := #[k4m0, k4m1, k4m2, k4m3, k4m4, k4m5]
  instanceTypes := #[.boolean, .long]
  staticTypes := #[(.object "java/util/OptionalLong")]
  resolved := Array.replicate 138 none
  statics := some 0 }

def pool5 : Array CpInfo := pool [(1, u "java/lang/Cloneable"), (0, .class_ 1), (0, u "java/lang/Object"), (0, .class_ 3)] 3

/-- java/lang/Cloneable -/
def k5 : Class := { plain "java/lang/Cloneable" (some 0) with
  accessFlags := 1537
  interfaces := #[]
  cf := some (fileOf pool5 2 #[] #[] 1537 4 #[] #[])
  fields := #[]
  methods := #[]
  instanceTypes := #[]
  staticTypes := #[]
  resolved := Array.replicate 8 none
  statics := none }

def pool6 : Array CpInfo := pool [(1, u "java/io/Serializable"), (0, .class_ 1), (0, u "java/lang/Object"), (0, .class_ 3)] 3

/-- java/io/Serializable -/
def k6 : Class := { plain "java/io/Serializable" (some 0) with
  accessFlags := 1537
  interfaces := #[]
  cf := some (fileOf pool6 2 #[] #[] 1537 4 #[] #[])
  fields := #[]
  methods := #[]
  instanceTypes := #[]
  staticTypes := #[]
  resolved := Array.replicate 8 none
  statics := none }

/-- the primitive byte -/
def k7 : Class := { plain "byte" none with kind := .primitive 'B', accessFlags := 0x411 }
/-- [B -/
def k8 : Class := { plain "[B" (some 0) with kind := .array 7 .byte, interfaces := #[5, 6], accessFlags := 1041 }

/-- the primitive int -/
def k9 : Class := { plain "int" none with kind := .primitive 'I', accessFlags := 0x411 }
/-- [I -/
def k10 : Class := { plain "[I" (some 0) with kind := .array 9 .int, interfaces := #[5, 6], accessFlags := 1041 }

def heap : Heap := #[{ cls := 4, slots := #[.ref 1], vm := .statics 4 },
  { cls := 4, slots := #[.int 0, .long 0], vm := .none }]
def classes : Array Class := #[k0, k1, k2, k3, k4, k5, k6, k7, k8, k9, k10]
def interned : List (Array UInt16 × Addr) := []
def slotsUsed : Nat := 3
def theMethod : MethodId := ⟨1, 1⟩
def args0 : Array Value := #[.long 3, .long 4, .int 1]
def aboutOver (below : List Frame) : State where
  vm := { classes := classes, interned := interned.toArray }
  heap := heap
  slotsUsed := slotsUsed
  threads := #[{ frames := .invoking theMethod args0 :: below }]
def below0 : List Frame := [.native { method := ⟨0, 0⟩, args := #[] }]
def about1 : State := aboutOver below0
def p0 : Program := .bare "" "" ""
def e0 : Env := launch0.env 0 0 0
theorem w_frames : about1.frames = Frame.invoking theMethod args0 :: below0 := rfl
set_option maxRecDepth 65536 in
theorem w_args : argsFit about1.vm theMethod args0 = true := by decide +kernel
set_option maxRecDepth 65536 in
theorem w_heap : heapFits about1 = true := by decide +kernel
set_option maxRecDepth 65536 in
theorem w_runnable : about1.curStatus? = some .runnable := by decide +kernel
set_option maxRecDepth 65536 in
theorem w_alone : about1.alone = true := by decide +kernel
set_option maxRecDepth 65536 in
theorem w_named : about1.methodNamed? x = some theMethod := by decide +kernel
set_option maxRecDepth 65536 in
theorem w_hears : about1.hears theMethod below0 = true := by decide +kernel
set_option maxRecDepth 65536 in
theorem w_ripe : about1.ripe theMethod args0 below0 = true := by decide +kernel
theorem w_running : about1.status = .running := rfl
set_option maxRecDepth 65536 in
theorem w_room : about1.hasRoom e0.platform room_1 = true :=
  launch0.hasRoom_least _ room_1 (by decide +kernel) (by decide +kernel) (by decide +kernel) (by decide +kernel) (by decide +kernel) (by decide +kernel)
theorem allAtoms_all (ts : List Jvm.Cond) (a : Array Jvm.Value) (st : Jvm.State) : (allAtoms ts).before a st = ts.all (fun c => c.before a st) := by
  induction ts with
  | nil => rfl
  | cons c t ih =>
    show (Jvm.Cond.and c (allAtoms t)).before a st = _
    rw [Jvm.Cond.before_and, ih, List.all_cons]
def words1 : List Jvm.Cond := Jvm.Cond.code x code maxLocals ret :: tables_1
/-- a 'code' word, met by the world's own term for the bytes: nothing is compared byte by byte -/
theorem code_word {y : MethodName} {bytes : ByteArray} {mx : Nat} {rt : Option FieldType} {a : Array Value} {s : State} {m : MethodId} {meth : Method} {c : Code} (h1 : s.methodNamed? y = some m) (h2 : s.vm.method? m = some meth) (h3 : meth.code = some c) (h4 : c.code = bytes)
    (h5 : (c.maxLocals == mx && c.exceptionTable.isEmpty && decide (c.maxStack ≤ mostOperands) && decide (meth.sig.returnType = rt) && !meth.locks && decide (parseMethodDescriptor y.desc = some meth.sig)) = true) : (Jvm.Cond.code y bytes mx rt).before a s = true := by
  simp only [Bool.and_eq_true, beq_iff_eq, Bool.not_eq_true', decide_eq_true_eq] at h5
  obtain ⟨⟨⟨⟨⟨g1, g2⟩, g3⟩, g4⟩, g5⟩, g6⟩ := h5
  simp [Cond.before, Cond.holds, Cond.value, h1, h2, h3, h4, g1, g2, g3, g4, g5, g6]
def isCode : Jvm.Cond → Bool
  | .code _ _ _ _ => true
  | _ => false
theorem all_split {L : List Jvm.Cond} {P : Jvm.Cond → Bool} (h1 : L.all (fun c => isCode c || P c) = true) (h2 : ∀ c ∈ L.filter isCode, P c = true) : L.all P = true := by
  refine List.all_eq_true.mpr fun c hc => ?_
  have h := List.all_eq_true.mp h1 c hc
  rcases Bool.eq_false_or_eq_true (isCode c) with hi | hi
  · exact h2 c (List.mem_filter.mpr ⟨hc, hi⟩)
  · simpa [hi] using h
set_option maxRecDepth 65536 in
theorem w_c0 : (Jvm.Cond.code x code maxLocals ret).before args0 about1 = true := code_word (m := ⟨1, 1⟩) (meth := k1m1) (c := k1c1) (by decide +kernel) rfl rfl rfl (by decide +kernel)
set_option maxRecDepth 65536 in
theorem w_c1 : (Jvm.Cond.code ({ cls := "com/example/contention/contention/Take", name := "<init>", desc := "(J)V" } : Jvm.MethodName) prog_27_method_1_code (3 : Nat) (Option.none : Option Jvm.ClassFile.FieldType)).before args0 about1 = true := code_word (m := ⟨3, 0⟩) (meth := k3m0) (c := k3c0) (by decide +kernel) rfl rfl rfl (by decide +kernel)
set_option maxRecDepth 65536 in
theorem w_c2 : (Jvm.Cond.code ({ cls := "java/lang/Object", name := "<init>", desc := "()V" } : Jvm.MethodName) object_method_1_code (1 : Nat) (Option.none : Option Jvm.ClassFile.FieldType)).before args0 about1 = true := code_word (m := ⟨0, 0⟩) (meth := k0m0) (c := k0c0) (by decide +kernel) rfl rfl rfl (by decide +kernel)
set_option maxRecDepth 65536 in
theorem w_c3 : (Jvm.Cond.code ({ cls := "com/example/contention/contention/Take", name := "apply", desc := "(J)Ljava/util/OptionalLong;" } : Jvm.MethodName) prog_27_method_3_code (4 : Nat) (Option.some (Jvm.ClassFile.FieldType.object "java/util/OptionalLong"))).before args0 about1 = true := code_word (m := ⟨3, 1⟩) (meth := k3m1) (c := k3c1) (by decide +kernel) rfl rfl rfl (by decide +kernel)
set_option maxRecDepth 65536 in
theorem w_c4 : (Jvm.Cond.code ({ cls := "java/util/OptionalLong", name := "empty", desc := "()Ljava/util/OptionalLong;" } : Jvm.MethodName) jdk_2650_method_2_code (0 : Nat) (Option.some (Jvm.ClassFile.FieldType.object "java/util/OptionalLong"))).before args0 about1 = true := code_word (m := ⟨4, 1⟩) (meth := k4m1) (c := k4c1) (by decide +kernel) rfl rfl rfl (by decide +kernel)
set_option maxRecDepth 65536 in
theorem w_c5 : (Jvm.Cond.code ({ cls := "java/util/OptionalLong", name := "isPresent", desc := "()Z" } : Jvm.MethodName) jdk_2650_method_6_code (1 : Nat) (Option.some Jvm.ClassFile.FieldType.boolean)).before args0 about1 = true := code_word (m := ⟨4, 5⟩) (meth := k4m5) (c := k4c5) (by decide +kernel) rfl rfl rfl (by decide +kernel)
set_option maxRecDepth 65536 in
theorem w_c6 : (Jvm.Cond.code ({ cls := "java/util/OptionalLong", name := "of", desc := "(J)Ljava/util/OptionalLong;" } : Jvm.MethodName) jdk_2650_method_4_code (2 : Nat) (Option.some (Jvm.ClassFile.FieldType.object "java/util/OptionalLong"))).before args0 about1 = true := code_word (m := ⟨4, 3⟩) (meth := k4m3) (c := k4c3) (by decide +kernel) rfl rfl rfl (by decide +kernel)
set_option maxRecDepth 65536 in
theorem w_c7 : (Jvm.Cond.code ({ cls := "java/util/OptionalLong", name := "<init>", desc := "(J)V" } : Jvm.MethodName) jdk_2650_method_3_code (3 : Nat) (Option.none : Option Jvm.ClassFile.FieldType)).before args0 about1 = true := code_word (m := ⟨4, 2⟩) (meth := k4m2) (c := k4c2) (by decide +kernel) rfl rfl rfl (by decide +kernel)
set_option maxRecDepth 65536 in
theorem w_c8 : (Jvm.Cond.code ({ cls := "java/util/OptionalLong", name := "getAsLong", desc := "()J" } : Jvm.MethodName) jdk_2650_method_5_code (1 : Nat) (Option.some Jvm.ClassFile.FieldType.long)).before args0 about1 = true := code_word (m := ⟨4, 4⟩) (meth := k4m4) (c := k4c4) (by decide +kernel) rfl rfl rfl (by decide +kernel)
def codes1 : List Jvm.Cond := [Jvm.Cond.code x code maxLocals ret, Jvm.Cond.code ({ cls := "com/example/contention/contention/Take", name := "<init>", desc := "(J)V" } : Jvm.MethodName) prog_27_method_1_code (3 : Nat) (Option.none : Option Jvm.ClassFile.FieldType), Jvm.Cond.code ({ cls := "java/lang/Object", name := "<init>", desc := "()V" } : Jvm.MethodName) object_method_1_code (1 : Nat) (Option.none : Option Jvm.ClassFile.FieldType), Jvm.Cond.code ({ cls := "com/example/contention/contention/Take", name := "apply", desc := "(J)Ljava/util/OptionalLong;" } : Jvm.MethodName) prog_27_method_3_code (4 : Nat) (Option.some (Jvm.ClassFile.FieldType.object "java/util/OptionalLong")), Jvm.Cond.code ({ cls := "java/util/OptionalLong", name := "empty", desc := "()Ljava/util/OptionalLong;" } : Jvm.MethodName) jdk_2650_method_2_code (0 : Nat) (Option.some (Jvm.ClassFile.FieldType.object "java/util/OptionalLong")), Jvm.Cond.code ({ cls := "java/util/OptionalLong", name := "isPresent", desc := "()Z" } : Jvm.MethodName) jdk_2650_method_6_code (1 : Nat) (Option.some Jvm.ClassFile.FieldType.boolean), Jvm.Cond.code ({ cls := "java/util/OptionalLong", name := "of", desc := "(J)Ljava/util/OptionalLong;" } : Jvm.MethodName) jdk_2650_method_4_code (2 : Nat) (Option.some (Jvm.ClassFile.FieldType.object "java/util/OptionalLong")), Jvm.Cond.code ({ cls := "java/util/OptionalLong", name := "<init>", desc := "(J)V" } : Jvm.MethodName) jdk_2650_method_3_code (3 : Nat) (Option.none : Option Jvm.ClassFile.FieldType), Jvm.Cond.code ({ cls := "java/util/OptionalLong", name := "getAsLong", desc := "()J" } : Jvm.MethodName) jdk_2650_method_5_code (1 : Nat) (Option.some Jvm.ClassFile.FieldType.long)]
set_option maxRecDepth 65536 in
theorem codes_eq : words1.filter isCode = codes1 := rfl
theorem w_codes : ∀ c ∈ words1.filter isCode, c.before args0 about1 = true := by
  rw [codes_eq]
  intro c hc
  simp only [codes1, List.mem_cons, List.not_mem_nil, or_false] at hc
  rcases hc with rfl | rfl | rfl | rfl | rfl | rfl | rfl | rfl | rfl
  · exact w_c0
  · exact w_c1
  · exact w_c2
  · exact w_c3
  · exact w_c4
  · exact w_c5
  · exact w_c6
  · exact w_c7
  · exact w_c8
set_option maxRecDepth 65536 in
theorem w_t1 : (words1.take 24).all (fun c => isCode c || c.before args0 about1) = true := by decide +kernel
set_option maxRecDepth 65536 in
theorem w_t2 : ((words1.drop 24).take 24).all (fun c => isCode c || c.before args0 about1) = true := by decide +kernel
set_option maxRecDepth 65536 in
theorem w_t3 : ((words1.drop 24).drop 24).all (fun c => isCode c || c.before args0 about1) = true := by decide +kernel
theorem w_tables : (allAtoms (Jvm.Cond.code x code maxLocals ret :: tables_1)).before args0 about1 = true := by
  rw [allAtoms_all]
  show words1.all (fun c => c.before args0 about1) = true
  refine all_split ?_ w_codes
  rw [← List.take_append_drop 24 words1, List.all_append, w_t1, ← List.take_append_drop 24 (words1.drop 24), List.all_append, w_t2, w_t3]
  rfl
set_option maxRecDepth 65536 in
theorem w_rest : rest_1_c.before args0 about1 = true := by decide +kernel
set_option maxRecDepth 65536 in
theorem w_case : (Jvm.Cond.and given_1 narrow_1).before args0 about1 = true := by decide +kernel
theorem w_applies : (headSpec (Jvm.Cond.code x code maxLocals ret :: tables_1) room_1).applies x e0.platform about1 = true :=
  (Spec.applies_iff w_frames).mpr ⟨w_running, w_runnable, w_alone, w_named, w_hears, w_ripe, w_room, w_tables⟩
theorem atStart : AtStart classFile x code maxLocals ret World_1 tables_1 room_1 Calls_1 rest_1 Pre_1 launch0 p0 e0 about1 theMethod args0 below0 :=
  ⟨lists_1, trivial, launch0.admits_env _ _ _, launch0.least_env, fairChoices_fair.cas, fairChoices_fair.clock, w_frames, w_args, w_heap, w_applies, trivial, w_rest, w_case⟩
end start1
theorem witness_1 : WitnessClaimed_1 := ⟨start1.p0, start1.e0, start1.about1, start1.theMethod, start1.args0, start1.below0, start1.atStart⟩
end Jvm.Pilot.@@N@@
