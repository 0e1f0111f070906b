import JvmDerived
import JvmDerived.Pilot.@@N@@Statement
import JvmDerived.Pilot.@@N@@Code
set_option linter.unusedVariables false
set_option linter.unusedSimpArgs false
namespace Jvm.Pilot.@@N@@
open Jvm Jvm.ClassFile Sem Op Lib Jvm.Free Jvm.Stand Jvm.LawKit Jvm.RoadKit Bundle Jvm.Pilot.@@N@@.Jvm.D
/-! own_Ends: from the state T the run ends well -/
def own_Ends (p : Program) (e : Env) (below : List Frame) (P : State → Outcome → Prop) (T : State) : Prop := ∃ U o, Steps p.tables e below T U ∧ U.status = .running ∧ Ended U below o ∧ P U o
def own_Got (s : State) (Q : Option Value → Heap → List Loc → Prop) (C N : Nat) (U : State) (o : Outcome) : Prop := ∃ v L, o = .returned v ∧ Q v U.heap L ∧ FrameEnd s o U L C N
section Own
variable {p : Program} {l : Launch} {e : Env} {R : Room} {s : State} {m : MethodId} {args : Array Value} {below : List Frame} {meth : Method} {c : Code} {T T' : State} {locs : List Loc} {cells slots : Nat} {P : State → Outcome → Prop}
theorem own_go (h : ∀ target, Steps p.tables e below T' target → Steps p.tables e below T target) (k : own_Ends p e below P T') : own_Ends p e below P T := by
  obtain ⟨U, o, h1, h2⟩ := k; exact ⟨U, o, h _ h1, h2⟩
theorem own_tr (h : Steps p.tables e below T T') (k : own_Ends p e below P T') : own_Ends p e below P T := by
  obtain ⟨U, o, h1, h2⟩ := k; exact ⟨U, o, h.trans h1, h2⟩
variable {Q : Option Value → Heap → List Loc → Prop} {C N : Nat}
theorem own_ret (X : Stand p l e R s m args below meth c T locs cells slots) (hx : p.tables.exec = Jvm.exec) (lk : meth.locks = false) {pc : Nat} {Ls : Array Slot} {w : Value} {t : FieldType} {i : Instr} {rest : List Value} (hret : meth.sig.returnType = some t) (hn : narrow t w = w)
    (hi : (i = .ireturn ∧ (t = .int ∨ t = .boolean ∨ t = .byte ∨ t = .char ∨ t = .short) ∧ ∃ z, w = .int z) ∨ (i = .lreturn ∧ t = .long ∧ ∃ z, w = .long z) ∨ (i = .dreturn ∧ t = .double ∧ ∃ z, w = .double z) ∨ (i = .freturn ∧ t = .float ∧ ∃ z, w = .float z) ∨ (i = .areturn ∧ t.isReference = true ∧ w.isRef = true))
    (hd : decode c.code pc = .ok (i, 1)) (hC : cells ≤ C) (hN : slots ≤ N) (hq : Q (some w) T.heap locs) : own_Ends p e below (own_Got s Q C N) (T.setTop (mkF m pc Ls (w :: rest))) := by
  obtain ⟨fs, hr, hrun, hended, hW, hsame⟩ := X.leave (v := some w) (fun h => by rw [hret] at h; cases h) lk
  exact ⟨_, _, retOut X hx hret hn hi hd hr, hrun, hended, _, _, rfl, hq, ⟨_, rfl⟩, hW, hsame.mono hC hN⟩
theorem own_retI (X : Stand p l e R s m args below meth c T locs cells slots) (hx : p.tables.exec = Jvm.exec) (lk : meth.locks = false) {pc : Nat} {Ls : Array Slot} {z : Int32} {rest : List Value} (hret : meth.sig.returnType = some .int)
    (hd : decode c.code pc = .ok (.ireturn, 1)) (hC : cells ≤ C) (hN : slots ≤ N) (hq : Q (some (.int z)) T.heap locs) : own_Ends p e below (own_Got s Q C N) (T.setTop (mkF m pc Ls (.int z :: rest))) :=
  own_ret X hx lk hret rfl (Or.inl ⟨rfl, Or.inl rfl, _, rfl⟩) hd hC hN hq
theorem own_retZ (X : Stand p l e R s m args below meth c T locs cells slots) (hx : p.tables.exec = Jvm.exec) (lk : meth.locks = false) {pc : Nat} {Ls : Array Slot} {z : Int32} {rest : List Value} (hret : meth.sig.returnType = some .boolean) (hn : narrow .boolean (.int z) = .int z)
    (hd : decode c.code pc = .ok (.ireturn, 1)) (hC : cells ≤ C) (hN : slots ≤ N) (hq : Q (some (.int z)) T.heap locs) : own_Ends p e below (own_Got s Q C N) (T.setTop (mkF m pc Ls (.int z :: rest))) :=
  own_ret X hx lk hret hn (Or.inl ⟨rfl, Or.inr (Or.inl rfl), _, rfl⟩) hd hC hN hq
theorem own_retJ (X : Stand p l e R s m args below meth c T locs cells slots) (hx : p.tables.exec = Jvm.exec) (lk : meth.locks = false) {pc : Nat} {Ls : Array Slot} {z : Int64} {rest : List Value} (hret : meth.sig.returnType = some .long)
    (hd : decode c.code pc = .ok (.lreturn, 1)) (hC : cells ≤ C) (hN : slots ≤ N) (hq : Q (some (.long z)) T.heap locs) : own_Ends p e below (own_Got s Q C N) (T.setTop (mkF m pc Ls (.long z :: rest))) :=
  own_ret X hx lk hret rfl (Or.inr (Or.inl ⟨rfl, rfl, _, rfl⟩)) hd hC hN hq
theorem own_retR (X : Stand p l e R s m args below meth c T locs cells slots) (hx : p.tables.exec = Jvm.exec) (lk : meth.locks = false) {pc : Nat} {Ls : Array Slot} {w : Value} {t : FieldType} {rest : List Value} (hret : meth.sig.returnType = some t) (ht : t.isReference = true) (hw : w.isRef = true)
    (hd : decode c.code pc = .ok (.areturn, 1)) (hC : cells ≤ C) (hN : slots ≤ N) (hq : Q (some w) T.heap locs) : own_Ends p e below (own_Got s Q C N) (T.setTop (mkF m pc Ls (w :: rest))) :=
  own_ret X hx lk hret (by rcases ref_cases hw with rfl | ⟨a, rfl⟩ <;> cases t <;> first | rfl | exact absurd ht (by decide)) (Or.inr (Or.inr (Or.inr (Or.inr ⟨rfl, ht, hw⟩)))) hd hC hN hq
theorem own_retV (X : Stand p l e R s m args below meth c T locs cells slots) (hx : p.tables.exec = Jvm.exec) (lk : meth.locks = false) {pc : Nat} {Ls : Array Slot} {st : List Value} (hret : meth.sig.returnType = none)
    (hd : decode c.code pc = .ok (.return_, 1)) (hC : cells ≤ C) (hN : slots ≤ N) (hq : Q none T.heap locs) : own_Ends p e below (own_Got s Q C N) (T.setTop (mkF m pc Ls [])) := by
  obtain ⟨fs, hr, hrun, hended, hW, hsame⟩ := X.leave (v := none) (fun _ => rfl) lk
  exact ⟨_, _, X.returnOut hx hret hd hr, hrun, hended, _, _, rfl, hq, ⟨_, rfl⟩, hW, hsame.mono hC hN⟩
theorem own_fldI {Z : State} {a : Addr} {av : Array Value} {t : Term} {k : Int32} {C n d : String} (ev : t.eval av Z none [] Z = some (.ref a)) (h : (Jvm.Cond.eq (.field t C n d) (.int k)).value av Z none Z [] = some true) : Fld Z Z.heap a C n d (.int k) := by
  obtain ⟨x, y, ex, ey, k1, k2⟩ := cmp_v (Or.inl h)
  cases (Term.int_eval (args := av) (first := Z) (o := none) (idx := []) (s := Z) k).symm.trans ey
  obtain ⟨z, rfl⟩ := k2
  obtain rfl : z = k := gotT (Cond.eq_ints ex (Term.int_eval k)) h
  exact Fld.start ((fld_at ev).symm.trans ex)
theorem own_fldJ {Z : State} {a : Addr} {av : Array Value} {t : Term} {k : Int64} {C n d : String} (ev : t.eval av Z none [] Z = some (.ref a)) (h : (Jvm.Cond.eq (.field t C n d) (.long k)).value av Z none Z [] = some true) : Fld Z Z.heap a C n d (.long k) := by
  obtain ⟨x, y, ex, ey, k1, k2⟩ := cmp_v (Or.inl h)
  cases (long_at (args := av) (first := Z) (o := none) (idx := []) (s := Z) k).symm.trans ey
  obtain ⟨z, rfl⟩ := k2
  obtain rfl : z = k := gotT (eq_L ex (long_at k)) h
  exact Fld.start ((fld_at ev).symm.trans ex)
theorem own_staJ {Z : State} {av : Array Value} {k : Int64} {t : Term} (h : (Jvm.Cond.eq t (.long k)).value av Z none Z [] = some true) : t.eval av Z none [] Z = some (.long k) := by
  obtain ⟨x, y, ex, ey, k1, k2⟩ := cmp_v (Or.inl h)
  cases (long_at (args := av) (first := Z) (o := none) (idx := []) (s := Z) k).symm.trans ey
  obtain ⟨z, rfl⟩ := k2
  obtain rfl : z = k := gotT (eq_L ex (long_at k)) h
  exact ex
theorem own_staI {Z : State} {av : Array Value} {k : Int32} {t : Term} (h : (Jvm.Cond.eq t (.int k)).value av Z none Z [] = some true) : t.eval av Z none [] Z = some (.int k) := by
  obtain ⟨x, y, ex, ey, k1, k2⟩ := cmp_v (Or.inl h)
  cases (Term.int_eval (args := av) (first := Z) (o := none) (idx := []) (s := Z) k).symm.trans ey
  obtain ⟨z, rfl⟩ := k2
  obtain rfl : z = k := gotT (Cond.eq_ints ex (Term.int_eval k)) h
  exact ex
end Own
theorem own_few (m s : Int32) (hm : ¬ m < (0 : Int32)) (hs : ¬ s < (1 : Int32)) (f : Int64) (hf : f = ((((m.toInt64) + (s.toInt64)) - (1 : Int64)) / (s.toInt64)) * (s.toInt64)) :
    (f - (f / (s.toInt64)) * (s.toInt64)) = (0 : Int64) ∧ ¬ f < (m.toInt64) ∧ (f - (s.toInt64)) < (m.toInt64) := by
  rw [Int32.lt_iff_toInt_lt] at hm hs
  have z0 : (0 : Int32).toInt = 0 := rfl
  have z1 : (1 : Int32).toInt = 1 := rfl
  have em := c_i2l m; have es := c_i2l s; have rm := rng32 m; have rs := rng32 s
  generalize m.toInt64 = M at *
  generalize s.toInt64 = S at *
  have h1 := c_ladd M S; have h1' := rng64 (M + S)
  have o1 : (1 : Int64).toInt = 1 := rfl
  have h2 := c_lsub (M + S) 1; have h2' := rng64 (M + S - 1)
  have hSn : S ≠ -1 := fun q => by rw [q] at es; have : (-1 : Int64).toInt = -1 := rfl; omega
  have e2 : (M + S - 1).toInt = M.toInt + S.toInt - 1 := by omega
  have h3 := (c_ldiv (M + S - 1) S S.toInt rfl hSn).1 (by omega)
  rw [e2] at h3
  have q0 : 0 ≤ (M.toInt + S.toInt - 1) / S.toInt := Int.ediv_nonneg (by omega) (by omega)
  have q1 : (M.toInt + S.toInt - 1) / S.toInt * S.toInt ≤ M.toInt + S.toInt - 1 := Int.ediv_mul_le _ (by omega)
  have q2 : M.toInt + S.toInt - 1 < ((M.toInt + S.toInt - 1) / S.toInt + 1) * S.toInt := Int.lt_ediv_add_one_mul_self _ (by omega)
  have q3 : 0 ≤ (M.toInt + S.toInt - 1) / S.toInt * S.toInt := Int.mul_nonneg q0 (by omega)
  rw [Int.add_mul, Int.one_mul] at q2
  have h4 := c_lmul ((M + S - 1) / S) S; have h4' := rng64 ((M + S - 1) / S * S)
  rw [h3] at h4
  rw [← hf] at h4 h4'
  have hF : f.toInt = (M.toInt + S.toInt - 1) / S.toInt * S.toInt := by
    generalize (M.toInt + S.toInt - 1) / S.toInt * S.toInt = P at *
    omega
  have h5 := (c_lrem f S S.toInt rfl).1 (by omega)
  have h6 := c_lsub f S; have h6' := rng64 (f - S)
  refine ⟨Int64.toInt_inj.mp ?_, ?_, ?_⟩
  · have e0 : (0 : Int64).toInt = 0 := rfl
    rw [h5, hF, Int.mul_emod_left, e0]
  · rw [Int64.lt_iff_toInt_lt]; omega
  · rw [Int64.lt_iff_toInt_lt]; omega
theorem own_nz (s : Int32) (hs : ¬ s < (1 : Int32)) : ¬ (s.toInt64) = (0 : Int64) := fun q => by
  rw [Int32.lt_iff_toInt_lt] at hs
  have es := c_i2l s
  rw [q] at es
  have z1 : (1 : Int32).toInt = 1 := rfl
  have z0 : (0 : Int64).toInt = 0 := rfl
  omega
theorem own_max1 (x r : Int32) (hr : r = if (1 : Int32) < x then x else 1) : ¬ r < (1 : Int32) := by
  rw [Int32.lt_iff_toInt_lt]
  by_cases h : (1 : Int32) < x
  · rw [if_pos h] at hr; rw [Int32.lt_iff_toInt_lt] at h; rw [hr]; omega
  · rw [if_neg h] at hr; rw [hr]; omega
theorem own_max2 (m x r : Int32) (hr : r = if m < x then x else m) : ¬ r < m := by
  rw [Int32.lt_iff_toInt_lt]
  by_cases h : m < x
  · rw [if_pos h] at hr; rw [Int32.lt_iff_toInt_lt] at h; rw [hr]; omega
  · rw [if_neg h] at hr; rw [hr]; omega
theorem own_mask (x : Int32) : ¬ (x &&& (2147483647 : Int32)) < (0 : Int32) := by
  have h := c_mask x 2147483647 31 (by decide) (by decide)
  rw [Int32.lt_iff_toInt_lt]
  have z0 : (0 : Int32).toInt = 0 := rfl
  omega
theorem own_place (p : Int32) (h1 : ¬ p < (-128 : Int32)) (h2 : ¬ (127 : Int32) < p) : ¬ (p + (128 : Int32)) < 0 ∧ (p + (128 : Int32)) < (256 : Int32) ∧ (p + (128 : Int32)) - (128 : Int32) = p := by
  rw [Int32.lt_iff_toInt_lt] at h1 h2
  have a1 : (-128 : Int32).toInt = -128 := rfl
  have a2 : (127 : Int32).toInt = 127 := rfl
  have a3 : (128 : Int32).toInt = 128 := rfl
  have a4 : (256 : Int32).toInt = 256 := rfl
  have a5 : (0 : Int32).toInt = 0 := rfl
  have k := c_iadd p 128; have r := rng32 (p + 128)
  have k2 := c_isub (p + 128) 128; have r2 := rng32 ((p + 128) - 128)
  refine ⟨?_, ?_, Int32.toInt_inj.mp ?_⟩
  · rw [Int32.lt_iff_toInt_lt]; omega
  · rw [Int32.lt_iff_toInt_lt]; omega
  · omega
theorem own_d1_0 : decode jdk_29_method_65_code 0 = .ok (.iload_n 0, 1) := by decide +kernel
theorem own_d1_1 : decode jdk_29_method_65_code 1 = .ok (.iload_n 1, 1) := by decide +kernel
theorem own_d1_2 : decode jdk_29_method_65_code 2 = .ok (.if_icmp .lt 7, 3) := by decide +kernel
theorem own_d1_5 : decode jdk_29_method_65_code 5 = .ok (.iload_n 0, 1) := by decide +kernel
theorem own_d1_6 : decode jdk_29_method_65_code 6 = .ok (.goto 4, 3) := by decide +kernel
theorem own_d1_9 : decode jdk_29_method_65_code 9 = .ok (.iload_n 1, 1) := by decide +kernel
theorem own_d1_10 : decode jdk_29_method_65_code 10 = .ok (.ireturn, 1) := by decide +kernel
theorem own_ef_own_max (m : MethodId) (x0 : Int32) (x1 : Int32) : entryFrame m #[(.int x0), (.int x1)] 2 = mkF m 0 #[.val (.int x0), .val (.int x1)] [] := by first | (simp [entryFrame, mkF, argsToLocals, Value.category]; done) | rfl
def Q_own_max (Z : State) (p : Int32) (q : Int32) (r : Int32) (h0 : Heap) (n0 : Nat) (v : Option Value) (h : Heap) (L : List Loc) : Prop := v = some (.int r) ∧ Fr n0 L ∧ h = h0
set_option maxRecDepth 65536 in
set_option maxHeartbeats 40000000 in
theorem own_max (l : Launch) (Z : State) (a0 : Array Value) (hw : ∀ d ∈ tables_1, d.before a0 Z = true) (ws : List Jvm.Cond) (p : Int32) (q : Int32) (r : Int32) (h0 : Heap) (n0 : Nat) (O0 : Old Z n0 h0) (hr : r = if p < q then q else p) :
    MetFree l (⟨"java/lang/Math", "max", "(II)I"⟩ : MethodName) (head1 (Jvm.Cond.code (⟨"java/lang/Math", "max", "(II)I"⟩ : MethodName) jdk_29_method_65_code 2 (some .int) :: ws) ({ frames := 0, cells := 0, slots := 0, locals := 0 } : Room)) (fun args_ U => args_ = #[(.int p), (.int q)] ∧ Z.Warmed39 U.vm ∧ U.heap = h0) (fun _ _ _ _ _ => True) (fun _ U o U' => ∃ v L, o = .returned v ∧ Q_own_max Z p q r h0 n0 v U'.heap L ∧ FrameEnd U o U' L ({ frames := 0, cells := 0, slots := 0, locals := 0 } : Room).cells ({ frames := 0, cells := 0, slots := 0, locals := 0 } : Room).slots) := by
  refine MetFree.of_bodySF (Jvm.Free.JP.mathPlain rfl (by decide +kernel)) hisR ?_
  intro pP eE sS mM args below meth cC s₁ Bd hml0 hP hK
  obtain ⟨rfl, hZ, hh⟩ := hP
  have hx := Bd.exec
  have hby := Bd.bytes
  have hml : cC.maxLocals = 2 := hml0
  have hown : sS.vm.findClass "java/lang/Math" = some mM.cls := findClass_of_methodNamed Bd.named
  have hnm := (name_of_methodNamed Bd.named Bd.method).1
  have X0 : Stand pP l eE ({ frames := 0, cells := 0, slots := 0, locals := 0 } : Room) sS mM #[(.int p), (.int q)] below meth cC s₁ [] 0 0 := Stand.of_body Bd
  have e0 : s₁.heap = h0 := by rw [← hh, Bd.state]; rfl
  have N0 := Fr.nil n0
  show own_Ends pP eE below (own_Got sS (Q_own_max Z p q r h0 n0) ({ frames := 0, cells := 0, slots := 0, locals := 0 } : Room).cells ({ frames := 0, cells := 0, slots := 0, locals := 0 } : Room).slots) (s₁.setTop (entryFrame mM #[(.int p), (.int q)] 2))
  rw [own_ef_own_max mM p q]
  refine own_go (fun _ k => XS.iloadN X0.here hx rfl (hb hby own_d1_0) rfl k) ?_
  show own_Ends _ _ _ _ (s₁.setTop (mkF mM 1 #[.val (.int p), .val (.int q)] [(.int p)]))
  refine own_go (fun _ k => XS.iloadN X0.here hx rfl (hb hby own_d1_1) rfl k) ?_
  show own_Ends _ _ _ _ (s₁.setTop (mkF mM 2 #[.val (.int p), .val (.int q)] [(.int q), (.int p)]))
  by_cases hc2_0 : p < q
  · refine own_go (fun _ k => XS.icmpYes X0.here hx rfl (pc0 := 2) (pc' := 9) rfl (hb hby own_d1_2) rfl (tlt hc2_0).1 (by decide) (by decide) k) ?_
    show own_Ends _ _ _ _ (s₁.setTop (mkF mM 9 #[.val (.int p), .val (.int q)] []))
    refine own_go (fun _ k => XS.iloadN X0.here hx rfl (hb hby own_d1_9) rfl k) ?_
    show own_Ends _ _ _ _ (s₁.setTop (mkF mM 10 #[.val (.int p), .val (.int q)] [(.int q)]))
    exact own_retI X0 hx (BodyLoose.notSynchronized Bd) Bd.returns (hb hby own_d1_10) (by decide) (by decide) (by rw [e0]; exact ⟨by rw [hr, if_pos hc2_0], N0, rfl⟩)
  · refine own_go (fun _ k => XS.icmpNo X0.here hx rfl (hb hby own_d1_2) rfl (flt hc2_0).1 k) ?_
    show own_Ends _ _ _ _ (s₁.setTop (mkF mM 5 #[.val (.int p), .val (.int q)] []))
    refine own_go (fun _ k => XS.iloadN X0.here hx rfl (hb hby own_d1_5) rfl k) ?_
    show own_Ends _ _ _ _ (s₁.setTop (mkF mM 6 #[.val (.int p), .val (.int q)] [(.int p)]))
    refine own_go (fun _ k => XS.goto X0.here hx rfl (pc0 := 6) (pc' := 10) rfl (hb hby own_d1_6) (by decide) (by decide) k) ?_
    show own_Ends _ _ _ _ (s₁.setTop (mkF mM 10 #[.val (.int p), .val (.int q)] [(.int p)]))
    exact own_retI X0 hx (BodyLoose.notSynchronized Bd) Bd.returns (hb hby own_d1_10) (by decide) (by decide) (by rw [e0]; exact ⟨by rw [hr, if_neg hc2_0], N0, rfl⟩)
theorem own_d3_0 : decode jdk_30_method_1_code 0 = .ok (.aload_n 0, 1) := by decide +kernel
theorem own_d3_1 : decode jdk_30_method_1_code 1 = .ok (.invokespecial 1, 3) := by decide +kernel
theorem own_d3_4 : decode jdk_30_method_1_code 4 = .ok (.return_, 1) := by decide +kernel
theorem own_ef_own_recinit (m : MethodId) (x0 : Addr) : entryFrame m #[(.ref x0)] 1 = mkF m 0 #[.val (.ref x0)] [] := by first | (simp [entryFrame, mkF, argsToLocals, Value.category]; done) | rfl
def Q_own_recinit (Z : State) (a : Addr) (h0 : Heap) (n0 : Nat) (v : Option Value) (h : Heap) (L : List Loc) : Prop := v = none ∧ Fr n0 L ∧ h = h0
theorem own_pn_java_lang_Record : plainName "java/lang/Record" = true := by first | (simp [plainName, overriddenIn]; done) | decide +kernel
set_option maxRecDepth 65536 in
set_option maxHeartbeats 40000000 in
theorem own_recinit (l : Launch) (Z : State) (a0 : Array Value) (hw : ∀ d ∈ tables_1, d.before a0 Z = true) (ws : List Jvm.Cond) (a : Addr) (h0 : Heap) (n0 : Nat) (O0 : Old Z n0 h0) :
    MetFree l (⟨"java/lang/Record", "<init>", "()V"⟩ : MethodName) (head1 (Jvm.Cond.code (⟨"java/lang/Record", "<init>", "()V"⟩ : MethodName) jdk_30_method_1_code 1 none :: ws) ({ frames := 1, cells := 0, slots := 0, locals := 12 } : Room)) (fun args_ U => args_ = #[(.ref a)] ∧ Z.Warmed39 U.vm ∧ U.heap = h0) (fun _ _ _ _ _ => True) (fun _ U o U' => ∃ v L, o = .returned v ∧ Q_own_recinit Z a h0 n0 v U'.heap L ∧ FrameEnd U o U' L ({ frames := 1, cells := 0, slots := 0, locals := 12 } : Room).cells ({ frames := 1, cells := 0, slots := 0, locals := 12 } : Room).slots) := by
  refine MetFree.of_bodySF (plainFor_of_name own_pn_java_lang_Record) hisR ?_
  intro pP eE sS mM args below meth cC s₁ Bd hml0 hP hK
  obtain ⟨rfl, hZ, hh⟩ := hP
  have hx := Bd.exec
  have hby := Bd.bytes
  have hml : cC.maxLocals = 1 := hml0
  have hown : sS.vm.findClass "java/lang/Record" = some mM.cls := findClass_of_methodNamed Bd.named
  have hnm := (name_of_methodNamed Bd.named Bd.method).1
  have X0 : Stand pP l eE ({ frames := 1, cells := 0, slots := 0, locals := 12 } : Room) sS mM #[(.ref a)] below meth cC s₁ [] 0 0 := Stand.of_body Bd
  have e0 : s₁.heap = h0 := by rw [← hh, Bd.state]; rfl
  have N0 := Fr.nil n0
  show own_Ends pP eE below (own_Got sS (Q_own_recinit Z a h0 n0) ({ frames := 1, cells := 0, slots := 0, locals := 12 } : Room).cells ({ frames := 1, cells := 0, slots := 0, locals := 12 } : Room).slots) (s₁.setTop (entryFrame mM #[(.ref a)] 1))
  rw [own_ef_own_recinit mM a]
  refine own_go (fun _ k => XS.aloadN X0.here hx rfl (hb hby own_d3_0) rfl rfl k) ?_
  show own_Ends _ _ _ _ (s₁.setTop (mkF mM 1 #[.val (.ref a)] [(.ref a)]))
  obtain ⟨T1, X1, e1, st1⟩ := initO X0 hx hZ hown (hw _ (List.mem_of_getElem? (i := 16) rfl)) (hw _ (List.mem_of_getElem? (i := 17) rfl)) (hw _ (List.mem_of_getElem? (i := 18) rfl)) e0 (g := (mkF mM 1 #[.val (.ref a)] [(.ref a)])) rfl (by rw [hml]; rfl) rfl (hb hby own_d3_1) (by decide) (W := 0) (by show 2 * 0 + _ ≤ _; exact Nat.le_of_eq rfl) (by decide)
  refine own_go st1 ?_
  show own_Ends _ _ _ _ (T1.setTop (mkF mM 4 #[.val (.ref a)] []))
  exact own_retV X1 hx (BodyLoose.notSynchronized Bd) (st := []) Bd.returns (hb hby own_d3_4) (by decide) (by decide) (by rw [e1]; exact ⟨rfl, N0, rfl⟩)
theorem own_d9_0 : decode jdk_18_method_1_code 0 = .ok (.aload_n 0, 1) := by decide +kernel
theorem own_d9_1 : decode jdk_18_method_1_code 1 = .ok (.invokespecial 1, 3) := by decide +kernel
theorem own_d9_4 : decode jdk_18_method_1_code 4 = .ok (.return_, 1) := by decide +kernel
theorem own_ef_own_numinit (m : MethodId) (x0 : Addr) : entryFrame m #[(.ref x0)] 1 = mkF m 0 #[.val (.ref x0)] [] := by first | (simp [entryFrame, mkF, argsToLocals, Value.category]; done) | rfl
def Q_own_numinit (Z : State) (a : Addr) (h0 : Heap) (n0 : Nat) (v : Option Value) (h : Heap) (L : List Loc) : Prop := v = none ∧ Fr n0 L ∧ h = h0
theorem own_pn_java_lang_Number : plainName "java/lang/Number" = true := by first | (simp [plainName, overriddenIn]; done) | decide +kernel
set_option maxRecDepth 65536 in
set_option maxHeartbeats 40000000 in
theorem own_numinit (l : Launch) (Z : State) (a0 : Array Value) (hw : ∀ d ∈ tables_1, d.before a0 Z = true) (ws : List Jvm.Cond) (a : Addr) (h0 : Heap) (n0 : Nat) (O0 : Old Z n0 h0) :
    MetFree l (⟨"java/lang/Number", "<init>", "()V"⟩ : MethodName) (head1 (Jvm.Cond.code (⟨"java/lang/Number", "<init>", "()V"⟩ : MethodName) jdk_18_method_1_code 1 none :: ws) ({ frames := 1, cells := 0, slots := 0, locals := 12 } : Room)) (fun args_ U => args_ = #[(.ref a)] ∧ Z.Warmed39 U.vm ∧ U.heap = h0) (fun _ _ _ _ _ => True) (fun _ U o U' => ∃ v L, o = .returned v ∧ Q_own_numinit Z a h0 n0 v U'.heap L ∧ FrameEnd U o U' L ({ frames := 1, cells := 0, slots := 0, locals := 12 } : Room).cells ({ frames := 1, cells := 0, slots := 0, locals := 12 } : Room).slots) := by
  refine MetFree.of_bodySF (plainFor_of_name own_pn_java_lang_Number) hisR ?_
  intro pP eE sS mM args below meth cC s₁ Bd hml0 hP hK
  obtain ⟨rfl, hZ, hh⟩ := hP
  have hx := Bd.exec
  have hby := Bd.bytes
  have hml : cC.maxLocals = 1 := hml0
  have hown : sS.vm.findClass "java/lang/Number" = some mM.cls := findClass_of_methodNamed Bd.named
  have hnm := (name_of_methodNamed Bd.named Bd.method).1
  have X0 : Stand pP l eE ({ frames := 1, cells := 0, slots := 0, locals := 12 } : Room) sS mM #[(.ref a)] below meth cC s₁ [] 0 0 := Stand.of_body Bd
  have e0 : s₁.heap = h0 := by rw [← hh, Bd.state]; rfl
  have N0 := Fr.nil n0
  show own_Ends pP eE below (own_Got sS (Q_own_numinit Z a h0 n0) ({ frames := 1, cells := 0, slots := 0, locals := 12 } : Room).cells ({ frames := 1, cells := 0, slots := 0, locals := 12 } : Room).slots) (s₁.setTop (entryFrame mM #[(.ref a)] 1))
  rw [own_ef_own_numinit mM a]
  refine own_go (fun _ k => XS.aloadN X0.here hx rfl (hb hby own_d9_0) rfl rfl k) ?_
  show own_Ends _ _ _ _ (s₁.setTop (mkF mM 1 #[.val (.ref a)] [(.ref a)]))
  obtain ⟨T1, X1, e1, st1⟩ := initO X0 hx hZ hown (hw _ (List.mem_of_getElem? (i := 56) rfl)) (hw _ (List.mem_of_getElem? (i := 17) rfl)) (hw _ (List.mem_of_getElem? (i := 18) rfl)) e0 (g := (mkF mM 1 #[.val (.ref a)] [(.ref a)])) rfl (by rw [hml]; rfl) rfl (hb hby own_d9_1) (by decide) (W := 0) (by show 2 * 0 + _ ≤ _; exact Nat.le_of_eq rfl) (by decide)
  refine own_go st1 ?_
  show own_Ends _ _ _ _ (T1.setTop (mkF mM 4 #[.val (.ref a)] []))
  exact own_retV X1 hx (BodyLoose.notSynchronized Bd) (st := []) Bd.returns (hb hby own_d9_4) (by decide) (by decide) (by rw [e1]; exact ⟨rfl, N0, rfl⟩)
theorem own_d7_0 : decode jdk_33_method_27_code 0 = .ok (.aload_n 0, 1) := by decide +kernel
theorem own_d7_1 : decode jdk_33_method_27_code 1 = .ok (.getfield 205, 3) := by decide +kernel
theorem own_d7_4 : decode jdk_33_method_27_code 4 = .ok (.ireturn, 1) := by decide +kernel
theorem own_ef_own_intValue (m : MethodId) (x0 : Addr) : entryFrame m #[(.ref x0)] 1 = mkF m 0 #[.val (.ref x0)] [] := by first | (simp [entryFrame, mkF, argsToLocals, Value.category]; done) | rfl
def Q_own_intValue (Z : State) (a : Addr) (x : Int32) (h0 : Heap) (n0 : Nat) (v : Option Value) (h : Heap) (L : List Loc) : Prop := v = some (.int x) ∧ Fr n0 L ∧ h = h0
theorem own_pn_java_lang_Integer : plainName "java/lang/Integer" = true := by first | (simp [plainName, overriddenIn]; done) | decide +kernel
set_option maxRecDepth 65536 in
set_option maxHeartbeats 40000000 in
theorem own_intValue (l : Launch) (Z : State) (a0 : Array Value) (hw : ∀ d ∈ tables_1, d.before a0 Z = true) (ws : List Jvm.Cond) (a : Addr) (x : Int32) (h0 : Heap) (n0 : Nat) (O0 : Old Z n0 h0) (F : Fld Z h0 a "java/lang/Integer" "value" "I" (.int x)) :
    MetFree l (⟨"java/lang/Integer", "intValue", "()I"⟩ : MethodName) (head1 (Jvm.Cond.code (⟨"java/lang/Integer", "intValue", "()I"⟩ : MethodName) jdk_33_method_27_code 1 (some .int) :: ws) ({ frames := 0, cells := 0, slots := 0, locals := 0 } : Room)) (fun args_ U => args_ = #[(.ref a)] ∧ Z.Warmed39 U.vm ∧ U.heap = h0) (fun _ _ _ _ _ => True) (fun _ U o U' => ∃ v L, o = .returned v ∧ Q_own_intValue Z a x h0 n0 v U'.heap L ∧ FrameEnd U o U' L ({ frames := 0, cells := 0, slots := 0, locals := 0 } : Room).cells ({ frames := 0, cells := 0, slots := 0, locals := 0 } : Room).slots) := by
  refine MetFree.of_bodySF (plainFor_of_name own_pn_java_lang_Integer) hisR ?_
  intro pP eE sS mM args below meth cC s₁ Bd hml0 hP hK
  obtain ⟨rfl, hZ, hh⟩ := hP
  have hx := Bd.exec
  have hby := Bd.bytes
  have hml : cC.maxLocals = 1 := hml0
  have hown : sS.vm.findClass "java/lang/Integer" = some mM.cls := findClass_of_methodNamed Bd.named
  have hnm := (name_of_methodNamed Bd.named Bd.method).1
  have X0 : Stand pP l eE ({ frames := 0, cells := 0, slots := 0, locals := 0 } : Room) sS mM #[(.ref a)] below meth cC s₁ [] 0 0 := Stand.of_body Bd
  have e0 : s₁.heap = h0 := by rw [← hh, Bd.state]; rfl
  have N0 := Fr.nil n0
  show own_Ends pP eE below (own_Got sS (Q_own_intValue Z a x h0 n0) ({ frames := 0, cells := 0, slots := 0, locals := 0 } : Room).cells ({ frames := 0, cells := 0, slots := 0, locals := 0 } : Room).slots) (s₁.setTop (entryFrame mM #[(.ref a)] 1))
  rw [own_ef_own_intValue mM a]
  refine own_go (fun _ k => XS.aloadN X0.here hx rfl (hb hby own_d7_0) rfl rfl k) ?_
  show own_Ends _ _ _ _ (s₁.setTop (mkF mM 1 #[.val (.ref a)] [(.ref a)]))
  obtain ⟨T1, X1, e1, st1⟩ := getF X0 hx hZ hown (host := "") (Or.inl (hw _ (List.mem_of_getElem? (i := 42) rfl))) Via.refl e0 F (g := (mkF mM 1 #[.val (.ref a)] [(.ref a)])) rfl rfl (hb hby own_d7_1)
  refine own_go st1 ?_
  show own_Ends _ _ _ _ (T1.setTop (mkF mM 4 #[.val (.ref a)] [(.int x)]))
  exact own_retI X1 hx (BodyLoose.notSynchronized Bd) Bd.returns (hb hby own_d7_4) (by decide) (by decide) (by rw [e1]; exact ⟨rfl, N0, rfl⟩)
theorem own_pd0 : parseMethodDescriptor "()V" = some ⟨[], none⟩ := by decide +kernel
theorem own_d8_0 : decode jdk_33_method_23_code 0 = .ok (.aload_n 0, 1) := by decide +kernel
theorem own_d8_1 : decode jdk_33_method_23_code 1 = .ok (.invokespecial 202, 3) := by decide +kernel
theorem own_d8_4 : decode jdk_33_method_23_code 4 = .ok (.aload_n 0, 1) := by decide +kernel
theorem own_d8_5 : decode jdk_33_method_23_code 5 = .ok (.iload_n 1, 1) := by decide +kernel
theorem own_d8_6 : decode jdk_33_method_23_code 6 = .ok (.putfield 205, 3) := by decide +kernel
theorem own_d8_9 : decode jdk_33_method_23_code 9 = .ok (.return_, 1) := by decide +kernel
theorem own_ef_own_intinit (m : MethodId) (x0 : Addr) (x1 : Int32) : entryFrame m #[(.ref x0), (.int x1)] 2 = mkF m 0 #[.val (.ref x0), .val (.int x1)] [] := by first | (simp [entryFrame, mkF, argsToLocals, Value.category]; done) | rfl
def Q_own_intinit (Z : State) (a : Addr) (x : Int32) (h0 : Heap) (n0 : Nat) (v : Option Value) (h : Heap) (L : List Loc) : Prop := v = none ∧ Fr n0 L ∧ Keep h0 h [a] ∧ Exa Z h a "java/lang/Integer" ∧ Fld Z h a "java/lang/Integer" "value" "I" (.int x)
set_option maxRecDepth 65536 in
set_option maxHeartbeats 40000000 in
theorem own_intinit (l : Launch) (Z : State) (a0 : Array Value) (hw : ∀ d ∈ tables_1, d.before a0 Z = true) (ws : List Jvm.Cond) (a : Addr) (x : Int32) (h0 : Heap) (n0 : Nat) (O0 : Old Z n0 h0) (g_a : n0 ≤ a) (E : Exa Z h0 a "java/lang/Integer") (F : Fld Z h0 a "java/lang/Integer" "value" "I" (.int (0 : Int32))) :
    MetFree l (⟨"java/lang/Integer", "<init>", "(I)V"⟩ : MethodName) (head1 (Jvm.Cond.code (⟨"java/lang/Integer", "<init>", "(I)V"⟩ : MethodName) jdk_33_method_23_code 2 none :: ws) ({ frames := 2, cells := 0, slots := 0, locals := 24 } : Room)) (fun args_ U => args_ = #[(.ref a), (.int x)] ∧ Z.Warmed39 U.vm ∧ U.heap = h0) (fun _ _ _ _ _ => True) (fun _ U o U' => ∃ v L, o = .returned v ∧ Q_own_intinit Z a x h0 n0 v U'.heap L ∧ FrameEnd U o U' L ({ frames := 2, cells := 0, slots := 0, locals := 24 } : Room).cells ({ frames := 2, cells := 0, slots := 0, locals := 24 } : Room).slots) := by
  refine MetFree.of_bodySF (plainFor_of_name own_pn_java_lang_Integer) hisR ?_
  intro pP eE sS mM args below meth cC s₁ Bd hml0 hP hK
  obtain ⟨rfl, hZ, hh⟩ := hP
  have hx := Bd.exec
  have hby := Bd.bytes
  have hml : cC.maxLocals = 2 := hml0
  have hown : sS.vm.findClass "java/lang/Integer" = some mM.cls := findClass_of_methodNamed Bd.named
  have hnm := (name_of_methodNamed Bd.named Bd.method).1
  have X0 : Stand pP l eE ({ frames := 2, cells := 0, slots := 0, locals := 24 } : Room) sS mM #[(.ref a), (.int x)] below meth cC s₁ [] 0 0 := Stand.of_body Bd
  have e0 : s₁.heap = h0 := by rw [← hh, Bd.state]; rfl
  have N0 := Fr.nil n0
  show own_Ends pP eE below (own_Got sS (Q_own_intinit Z a x h0 n0) ({ frames := 2, cells := 0, slots := 0, locals := 24 } : Room).cells ({ frames := 2, cells := 0, slots := 0, locals := 24 } : Room).slots) (s₁.setTop (entryFrame mM #[(.ref a), (.int x)] 2))
  rw [own_ef_own_intinit mM a x]
  refine own_go (fun _ k => XS.aloadN X0.here hx rfl (hb hby own_d8_0) rfl rfl k) ?_
  show own_Ends _ _ _ _ (s₁.setTop (mkF mM 1 #[.val (.ref a), .val (.int x)] [(.ref a)]))
  obtain ⟨_, _, ⟨T1, Lz1, kz1, nz1⟩, -, X1, ⟨Lc1, hQ1, l1, y1, z1⟩, st1⟩ := X0.specialBack hx (y := (⟨"java/lang/Number", "<init>", "()V"⟩ : MethodName)) rfl hown (mvT hZ (hw _ (List.mem_of_getElem? (i := 50) rfl))) (mvT hZ (hw _ (List.mem_of_getElem? (i := 51) rfl))) (mvT hZ (hw _ (List.mem_of_getElem? (i := 55) rfl))) (by decide) (backOf (W := 0) (own_numinit l Z a0 hw [] a h0 n0 O0) hZ (hw _ (List.mem_of_getElem? (i := 55) rfl)) (hw _ (List.mem_of_getElem? (i := 54) rfl)) (by decide) (by decide)) (g := (mkF mM 1 #[.val (.ref a), .val (.int x)] [(.ref a)])) rfl (by rw [hml]; rfl) (Steps.refl _) (a := a) (argsL := []) (rest := []) (lenOf own_pd0 rfl) rfl (by show 2 * 0 + _ ≤ _; exact Nat.le_of_eq rfl) (hb hby own_d8_1) (fun _ _ => ⟨rfl, e0, (by decide : 0 + 0 ≤ _), (by decide : 0 + 0 ≤ _)⟩)
  dsimp only [Pt.U, Pt.locs, Pt.cells, Pt.slots] at X1 l1 y1 z1 st1 hQ1
  subst l1 y1 z1
  obtain ⟨rfl, Nq1, e1⟩ := hQ1
  have N1 := Fr.app N0 Nq1
  refine own_tr st1 ?_
  show own_Ends _ _ _ _ (T1.setTop (mkF mM 4 #[.val (.ref a), .val (.int x)] []))
  refine own_go (fun _ k => XS.aloadN X1.here hx rfl (hb hby own_d8_4) rfl rfl k) ?_
  show own_Ends _ _ _ _ (T1.setTop (mkF mM 5 #[.val (.ref a), .val (.int x)] [(.ref a)]))
  refine own_go (fun _ k => XS.iloadN X1.here hx rfl (hb hby own_d8_5) rfl k) ?_
  show own_Ends _ _ _ _ (T1.setTop (mkF mM 6 #[.val (.ref a), .val (.int x)] [(.int x), (.ref a)]))
  obtain ⟨T2, h2, X2, e2, W2, st2⟩ := putF X1 hx hZ hown (host := "") (Or.inl (hw _ (List.mem_of_getElem? (i := 42) rfl))) Via.refl e1 F E (Or.inr ⟨(hw _ (List.mem_of_getElem? (i := 43) rfl)), rfl, hnm⟩) (hw _ (List.mem_of_getElem? (i := 45) rfl)) (ty := .int) (by decide) rfl rfl (g := (mkF mM 6 #[.val (.ref a), .val (.int x)] [(.int x), (.ref a)])) rfl rfl (hb hby own_d8_6)
  have Fw2 := F.same W2
  have O2 := O0.wr W2 g_a
  have K2 := (Keep.refl h0 [a]).wr W2 (Or.inl (List.mem_of_getElem? (i := 0) rfl))
  have N2 := Fr.snoc X2 N1 g_a
  refine own_go st2 ?_
  show own_Ends _ _ _ _ (T2.setTop (mkF mM 9 #[.val (.ref a), .val (.int x)] []))
  exact own_retV X2 hx (BodyLoose.notSynchronized Bd) (st := []) Bd.returns (hb hby own_d8_9) (by decide) (by decide) (by rw [e2]; exact ⟨rfl, N2, K2, (E.wr W2), Fw2⟩)
theorem own_pd1 : parseMethodDescriptor "(I)V" = some ⟨[.int], none⟩ := by decide +kernel
theorem own_d6_0 : decode jdk_33_method_22_code 0 = .ok (.iload_n 0, 1) := by decide +kernel
theorem own_d6_1 : decode jdk_33_method_22_code 1 = .ok (.bipush (-128), 2) := by decide +kernel
theorem own_d6_3 : decode jdk_33_method_22_code 3 = .ok (.if_icmp .lt 20, 3) := by decide +kernel
theorem own_d6_6 : decode jdk_33_method_22_code 6 = .ok (.iload_n 0, 1) := by decide +kernel
theorem own_d6_7 : decode jdk_33_method_22_code 7 = .ok (.getstatic 191, 3) := by decide +kernel
theorem own_d6_10 : decode jdk_33_method_22_code 10 = .ok (.if_icmp .gt 13, 3) := by decide +kernel
theorem own_d6_13 : decode jdk_33_method_22_code 13 = .ok (.getstatic 195, 3) := by decide +kernel
theorem own_d6_16 : decode jdk_33_method_22_code 16 = .ok (.iload_n 0, 1) := by decide +kernel
theorem own_d6_17 : decode jdk_33_method_22_code 17 = .ok (.sipush 128, 3) := by decide +kernel
theorem own_d6_20 : decode jdk_33_method_22_code 20 = .ok (.iadd, 1) := by decide +kernel
theorem own_d6_21 : decode jdk_33_method_22_code 21 = .ok (.aaload, 1) := by decide +kernel
theorem own_d6_22 : decode jdk_33_method_22_code 22 = .ok (.areturn, 1) := by decide +kernel
theorem own_d6_23 : decode jdk_33_method_22_code 23 = .ok (.new 1, 3) := by decide +kernel
theorem own_d6_26 : decode jdk_33_method_22_code 26 = .ok (.dup, 1) := by decide +kernel
theorem own_d6_27 : decode jdk_33_method_22_code 27 = .ok (.iload_n 0, 1) := by decide +kernel
theorem own_d6_28 : decode jdk_33_method_22_code 28 = .ok (.invokespecial 199, 3) := by decide +kernel
theorem own_d6_31 : decode jdk_33_method_22_code 31 = .ok (.areturn, 1) := by decide +kernel
theorem own_ef_own_valueOf (m : MethodId) (x0 : Int32) : entryFrame m #[(.int x0)] 1 = mkF m 0 #[.val (.int x0)] [] := by first | (simp [entryFrame, mkF, argsToLocals, Value.category]; done) | rfl
def Q_own_valueOf (Z : State) (p : Int32) (cc : Addr) (cl : Cell) (h0 : Heap) (n0 : Nat) (v : Option Value) (h : Heap) (L : List Loc) : Prop := ∃ b : Addr, v = some (.ref b) ∧ Fr n0 L ∧ Keep h0 h [] ∧ Exa Z h b "java/lang/Integer" ∧ Fld Z h b "java/lang/Integer" "value" "I" (.int p)
set_option maxRecDepth 65536 in
set_option maxHeartbeats 40000000 in
theorem own_valueOf (l : Launch) (Z : State) (a0 : Array Value) (hw : ∀ d ∈ tables_1, d.before a0 Z = true) (ws : List Jvm.Cond) (p : Int32) (cc : Addr) (cl : Cell) (h0 : Heap) (n0 : Nat) (O0 : Old Z n0 h0) (S_high : Sta Z Z.heap "java/lang/Integer$IntegerCache" "high" "I" (.int (127 : Int32))) (S_cache : Sta Z Z.heap "java/lang/Integer$IntegerCache" "cache" "[Ljava/lang/Integer;" (.ref cc)) (hcc : Arr Z Z.heap cc cl (.object "java/lang/Integer") ∧ cl.slots.size = (256 : Int32).toNatClampNeg ∧ ∀ p : Int32, ¬ p < (-128 : Int32) → ¬ (127 : Int32) < p → ∃ x : Addr, cl.slots[(p + (128 : Int32)).toNatClampNeg]? = some (.ref x) ∧ Exa Z Z.heap x "java/lang/Integer" ∧ Fld Z Z.heap x "java/lang/Integer" "value" "I" (.int p)) :
    MetFree l (⟨"java/lang/Integer", "valueOf", "(I)Ljava/lang/Integer;"⟩ : MethodName) (head1 (Jvm.Cond.code (⟨"java/lang/Integer", "valueOf", "(I)Ljava/lang/Integer;"⟩ : MethodName) jdk_33_method_22_code 1 (some (.object "java/lang/Integer")) :: ws) ({ frames := 3, cells := 1, slots := 1, locals := 38 } : Room)) (fun args_ U => args_ = #[(.int p)] ∧ Z.Warmed39 U.vm ∧ U.heap = h0) (fun _ _ _ _ _ => True) (fun _ U o U' => ∃ v L, o = .returned v ∧ Q_own_valueOf Z p cc cl h0 n0 v U'.heap L ∧ FrameEnd U o U' L ({ frames := 3, cells := 1, slots := 1, locals := 38 } : Room).cells ({ frames := 3, cells := 1, slots := 1, locals := 38 } : Room).slots) := by
  refine MetFree.of_bodySF (plainFor_of_name own_pn_java_lang_Integer) hisR ?_
  intro pP eE sS mM args below meth cC s₁ Bd hml0 hP hK
  obtain ⟨rfl, hZ, hh⟩ := hP
  have hx := Bd.exec
  have hby := Bd.bytes
  have hml : cC.maxLocals = 1 := hml0
  have hown : sS.vm.findClass "java/lang/Integer" = some mM.cls := findClass_of_methodNamed Bd.named
  have hnm := (name_of_methodNamed Bd.named Bd.method).1
  have X0 : Stand pP l eE ({ frames := 3, cells := 1, slots := 1, locals := 38 } : Room) sS mM #[(.int p)] below meth cC s₁ [] 0 0 := Stand.of_body Bd
  have e0 : s₁.heap = h0 := by rw [← hh, Bd.state]; rfl
  have N0 := Fr.nil n0
  show own_Ends pP eE below (own_Got sS (Q_own_valueOf Z p cc cl h0 n0) ({ frames := 3, cells := 1, slots := 1, locals := 38 } : Room).cells ({ frames := 3, cells := 1, slots := 1, locals := 38 } : Room).slots) (s₁.setTop (entryFrame mM #[(.int p)] 1))
  rw [own_ef_own_valueOf mM p]
  refine own_go (fun _ k => XS.iloadN X0.here hx rfl (hb hby own_d6_0) rfl k) ?_
  show own_Ends _ _ _ _ (s₁.setTop (mkF mM 1 #[.val (.int p)] [(.int p)]))
  refine own_go (fun _ k => XS.bipush X0.here hx rfl (hb hby own_d6_1) k) ?_
  show own_Ends _ _ _ _ (s₁.setTop (mkF mM 3 #[.val (.int p)] [(.int (-128 : Int32)), (.int p)]))
  by_cases hc3_0 : p < (-128 : Int32)
  · refine own_go (fun _ k => XS.icmpYes X0.here hx rfl (pc0 := 3) (pc' := 23) rfl (hb hby own_d6_3) rfl (tlt hc3_0).1 (by decide) (by decide) k) ?_
    show own_Ends _ _ _ _ (s₁.setTop (mkF mM 23 #[.val (.int p)] []))
    obtain ⟨T2, h2, X2, e2, E2, A2, D2, -, st2⟩ := newO X0 hx hZ hown (hw _ (List.mem_of_getElem? (i := 44) rfl)) (hw _ (List.mem_of_getElem? (i := 45) rfl)) (hw _ (List.mem_of_getElem? (i := 32) rfl)) e0 (g := (mkF mM 23 #[.val (.int p)] [])) rfl (hb hby own_d6_23) (by decide) (by decide)
    obtain ⟨b2, g2⟩ : ∃ z, z = h0.size := ⟨_, rfl⟩
    rw [← g2] at A2 D2 st2
    have O2 := O0.ext E2
    have g_b2 : n0 ≤ b2 := by rw [g2, ← O0.1]; exact O0.2.1
    have sz_b2 : h0.size ≤ b2 := Nat.le_trans (Keep.refl h0 []).1 (Nat.le_of_eq g2.symm)
    have K2 := (Keep.refl h0 []).ext E2
    have E_b2 : Exa Z h2 b2 "java/lang/Integer" := A2
    have F_value_b2 : Fld Z h2 b2 "java/lang/Integer" "value" "I" (.int (0 : Int32)) := D2 (Or.inr (hw _ (List.mem_of_getElem? (i := 43) rfl))) (ty := .int) (by decide)
    refine own_go st2 ?_
    show own_Ends _ _ _ _ (T2.setTop (mkF mM 26 #[.val (.int p)] [(.ref b2)]))
    refine own_go (fun _ k => XS.dup X2.here hx rfl (hb hby own_d6_26) rfl rfl k) ?_
    show own_Ends _ _ _ _ (T2.setTop (mkF mM 27 #[.val (.int p)] [(.ref b2), (.ref b2)]))
    refine own_go (fun _ k => XS.iloadN X2.here hx rfl (hb hby own_d6_27) rfl k) ?_
    show own_Ends _ _ _ _ (T2.setTop (mkF mM 28 #[.val (.int p)] [(.int p), (.ref b2), (.ref b2)]))
    obtain ⟨_, _, ⟨T3, Lz3, kz3, nz3⟩, -, X3, ⟨Lc3, hQ3, l3, y3, z3⟩, st3⟩ := X2.specialBack hx (y := (⟨"java/lang/Integer", "<init>", "(I)V"⟩ : MethodName)) rfl hown (mvT hZ (hw _ (List.mem_of_getElem? (i := 46) rfl))) (mvT hZ (hw _ (List.mem_of_getElem? (i := 47) rfl))) (mvT hZ (hw _ (List.mem_of_getElem? (i := 49) rfl))) (by decide) (backOf (W := 1) (own_intinit l Z a0 hw [] b2 p h2 n0 O2 g_b2 E_b2 F_value_b2) hZ (hw _ (List.mem_of_getElem? (i := 49) rfl)) (hw _ (List.mem_of_getElem? (i := 32) rfl)) (by decide) (by decide)) (g := (mkF mM 28 #[.val (.int p)] [(.int p), (.ref b2), (.ref b2)])) rfl (by rw [hml]; rfl) (Steps.refl _) (a := b2) (argsL := [(.int p)]) (rest := [(.ref b2)]) (lenOf own_pd1 rfl) rfl (by show 2 * 0 + _ ≤ _; exact Nat.le_of_eq rfl) (hb hby own_d6_28) (fun _ _ => ⟨rfl, e2, (by decide : 1 + 0 ≤ _), (by decide : 1 + 0 ≤ _)⟩)
    dsimp only [Pt.U, Pt.locs, Pt.cells, Pt.slots] at X3 l3 y3 z3 st3 hQ3
    subst l3 y3 z3
    obtain ⟨rfl, Nq3, K3, E_b2_3, F_value_b2_3⟩ := hQ3
    have N3 := Fr.app N0 Nq3
    have O3 := O2.keep K3 (allS g_b2 all0)
    have Kk3 := K2.trans K3 (allS (Or.inr sz_b2) (all0))
    refine own_tr st3 ?_
    show own_Ends _ _ _ _ (T3.setTop (mkF mM 31 #[.val (.int p)] [(.ref b2)]))
    exact own_retR X3 hx (BodyLoose.notSynchronized Bd) Bd.returns rfl rfl (hb hby own_d6_31) (by decide) (by decide) (⟨b2, rfl, N3, Kk3, E_b2_3, F_value_b2_3⟩)
  · refine own_go (fun _ k => XS.icmpNo X0.here hx rfl (hb hby own_d6_3) rfl (flt hc3_0).1 k) ?_
    show own_Ends _ _ _ _ (s₁.setTop (mkF mM 6 #[.val (.int p)] []))
    refine own_go (fun _ k => XS.iloadN X0.here hx rfl (hb hby own_d6_6) rfl k) ?_
    show own_Ends _ _ _ _ (s₁.setTop (mkF mM 7 #[.val (.int p)] [(.int p)]))
    obtain ⟨T4, X4, e4, st4⟩ := getS2 X0 hx hZ hown (host := "") (Or.inl (hw _ (List.mem_of_getElem? (i := 34) rfl))) Via.refl e0 (S_high.ext O0.2) (g := (mkF mM 7 #[.val (.int p)] [(.int p)])) rfl (hb hby own_d6_7)
    refine own_go st4 ?_
    show own_Ends _ _ _ _ (T4.setTop (mkF mM 10 #[.val (.int p)] [(.int (127 : Int32)), (.int p)]))
    by_cases hc10_4 : (127 : Int32) < p
    · refine own_go (fun _ k => XS.icmpYes X4.here hx rfl (pc0 := 10) (pc' := 23) rfl (hb hby own_d6_10) rfl (tlt hc10_4).2.2.1 (by decide) (by decide) k) ?_
      show own_Ends _ _ _ _ (T4.setTop (mkF mM 23 #[.val (.int p)] []))
      obtain ⟨T6, h6, X6, e6, E6, A6, D6, -, st6⟩ := newO X4 hx hZ hown (hw _ (List.mem_of_getElem? (i := 44) rfl)) (hw _ (List.mem_of_getElem? (i := 45) rfl)) (hw _ (List.mem_of_getElem? (i := 32) rfl)) e4 (g := (mkF mM 23 #[.val (.int p)] [])) rfl (hb hby own_d6_23) (by decide) (by decide)
      obtain ⟨b6, g6⟩ : ∃ z, z = h0.size := ⟨_, rfl⟩
      rw [← g6] at A6 D6 st6
      have O6 := O0.ext E6
      have g_b6 : n0 ≤ b6 := by rw [g6, ← O0.1]; exact O0.2.1
      have sz_b6 : h0.size ≤ b6 := Nat.le_trans (Keep.refl h0 []).1 (Nat.le_of_eq g6.symm)
      have K6 := (Keep.refl h0 []).ext E6
      have E_b6 : Exa Z h6 b6 "java/lang/Integer" := A6
      have F_value_b6 : Fld Z h6 b6 "java/lang/Integer" "value" "I" (.int (0 : Int32)) := D6 (Or.inr (hw _ (List.mem_of_getElem? (i := 43) rfl))) (ty := .int) (by decide)
      refine own_go st6 ?_
      show own_Ends _ _ _ _ (T6.setTop (mkF mM 26 #[.val (.int p)] [(.ref b6)]))
      refine own_go (fun _ k => XS.dup X6.here hx rfl (hb hby own_d6_26) rfl rfl k) ?_
      show own_Ends _ _ _ _ (T6.setTop (mkF mM 27 #[.val (.int p)] [(.ref b6), (.ref b6)]))
      refine own_go (fun _ k => XS.iloadN X6.here hx rfl (hb hby own_d6_27) rfl k) ?_
      show own_Ends _ _ _ _ (T6.setTop (mkF mM 28 #[.val (.int p)] [(.int p), (.ref b6), (.ref b6)]))
      obtain ⟨_, _, ⟨T7, Lz7, kz7, nz7⟩, -, X7, ⟨Lc7, hQ7, l7, y7, z7⟩, st7⟩ := X6.specialBack hx (y := (⟨"java/lang/Integer", "<init>", "(I)V"⟩ : MethodName)) rfl hown (mvT hZ (hw _ (List.mem_of_getElem? (i := 46) rfl))) (mvT hZ (hw _ (List.mem_of_getElem? (i := 47) rfl))) (mvT hZ (hw _ (List.mem_of_getElem? (i := 49) rfl))) (by decide) (backOf (W := 1) (own_intinit l Z a0 hw [] b6 p h6 n0 O6 g_b6 E_b6 F_value_b6) hZ (hw _ (List.mem_of_getElem? (i := 49) rfl)) (hw _ (List.mem_of_getElem? (i := 32) rfl)) (by decide) (by decide)) (g := (mkF mM 28 #[.val (.int p)] [(.int p), (.ref b6), (.ref b6)])) rfl (by rw [hml]; rfl) (Steps.refl _) (a := b6) (argsL := [(.int p)]) (rest := [(.ref b6)]) (lenOf own_pd1 rfl) rfl (by show 2 * 0 + _ ≤ _; exact Nat.le_of_eq rfl) (hb hby own_d6_28) (fun _ _ => ⟨rfl, e6, (by decide : 1 + 0 ≤ _), (by decide : 1 + 0 ≤ _)⟩)
      dsimp only [Pt.U, Pt.locs, Pt.cells, Pt.slots] at X7 l7 y7 z7 st7 hQ7
      subst l7 y7 z7
      obtain ⟨rfl, Nq7, K7, E_b6_7, F_value_b6_7⟩ := hQ7
      have N7 := Fr.app N0 Nq7
      have O7 := O6.keep K7 (allS g_b6 all0)
      have Kk7 := K6.trans K7 (allS (Or.inr sz_b6) (all0))
      refine own_tr st7 ?_
      show own_Ends _ _ _ _ (T7.setTop (mkF mM 31 #[.val (.int p)] [(.ref b6)]))
      exact own_retR X7 hx (BodyLoose.notSynchronized Bd) Bd.returns rfl rfl (hb hby own_d6_31) (by decide) (by decide) (⟨b6, rfl, N7, Kk7, E_b6_7, F_value_b6_7⟩)
    · refine own_go (fun _ k => XS.icmpNo X4.here hx rfl (hb hby own_d6_10) rfl (flt hc10_4).2.2.1 k) ?_
      show own_Ends _ _ _ _ (T4.setTop (mkF mM 13 #[.val (.int p)] []))
      obtain ⟨T8, X8, e8, st8⟩ := getS2 X4 hx hZ hown (host := "") (Or.inl (hw _ (List.mem_of_getElem? (i := 36) rfl))) Via.refl e4 (S_cache.ext O0.2) (g := (mkF mM 13 #[.val (.int p)] [])) rfl (hb hby own_d6_13)
      refine own_go st8 ?_
      show own_Ends _ _ _ _ (T8.setTop (mkF mM 16 #[.val (.int p)] [(.ref cc)]))
      refine own_go (fun _ k => XS.iloadN X8.here hx rfl (hb hby own_d6_16) rfl k) ?_
      show own_Ends _ _ _ _ (T8.setTop (mkF mM 17 #[.val (.int p)] [(.int p), (.ref cc)]))
      refine own_go (fun _ k => XS.sipush X8.here hx rfl (hb hby own_d6_17) k) ?_
      show own_Ends _ _ _ _ (T8.setTop (mkF mM 20 #[.val (.int p)] [(.int (128 : Int32)), (.int p), (.ref cc)]))
      refine own_go (fun _ k => XS.iadd X8.here hx rfl (hb hby own_d6_20) rfl k) ?_
      show own_Ends _ _ _ _ (T8.setTop (mkF mM 21 #[.val (.int p)] [(.int (p + (128 : Int32))), (.ref cc)]))
      obtain ⟨Aa, hsz, hall⟩ := id hcc
      obtain ⟨x, hat, E_x, F_x⟩ := hall p hc3_0 hc10_4
      have hin := inb_of hsz ⟨(own_place p hc3_0 hc10_4).1, (own_place p hc3_0 hc10_4).2.1⟩
      have Ab := Aa.ext O0.2
      refine own_go (X8.aaload hx (j := (p + (128 : Int32))) (v := (.ref x)) (by rw [e8]; exact Ab.1) (State.isArrayOf_alike hZ.alike Ab.2.1) rfl Ab.2.2 hin hat (g := (mkF mM 21 #[.val (.int p)] [(.int (p + (128 : Int32))), (.ref cc)])) rfl rfl (hb hby own_d6_21)) ?_
      show own_Ends _ _ _ _ (T8.setTop (mkF mM 22 #[.val (.int p)] [(.ref x)]))
      exact own_retR X8 hx (BodyLoose.notSynchronized Bd) Bd.returns rfl rfl (hb hby own_d6_22) (by decide) (by decide) (by rw [e8]; exact ⟨x, rfl, N0, (Keep.refl h0 []), (E_x.ext O0.2), (F_x.ext O0.2)⟩)
theorem own_pd2 : parseMethodDescriptor "()I" = some ⟨[], some .int⟩ := by decide +kernel
theorem own_d2_0 : decode prog_23_method_1_code 0 = .ok (.aload_n 0, 1) := by decide +kernel
theorem own_d2_1 : decode prog_23_method_1_code 1 = .ok (.invokespecial 1, 3) := by decide +kernel
theorem own_d2_4 : decode prog_23_method_1_code 4 = .ok (.iload_n 1, 1) := by decide +kernel
theorem own_d2_5 : decode prog_23_method_1_code 5 = .ok (.ifCond .lt 20, 3) := by decide +kernel
theorem own_d2_8 : decode prog_23_method_1_code 8 = .ok (.aload_n 2, 1) := by decide +kernel
theorem own_d2_9 : decode prog_23_method_1_code 9 = .ok (.ifnull 11, 3) := by decide +kernel
theorem own_d2_12 : decode prog_23_method_1_code 12 = .ok (.aload_n 2, 1) := by decide +kernel
theorem own_d2_13 : decode prog_23_method_1_code 13 = .ok (.invokevirtual 7, 3) := by decide +kernel
theorem own_d2_16 : decode prog_23_method_1_code 16 = .ok (.iload_n 1, 1) := by decide +kernel
theorem own_d2_17 : decode prog_23_method_1_code 17 = .ok (.if_icmp .lt 8, 3) := by decide +kernel
theorem own_d2_20 : decode prog_23_method_1_code 20 = .ok (.iload_n 3, 1) := by decide +kernel
theorem own_d2_21 : decode prog_23_method_1_code 21 = .ok (.iconst 1, 1) := by decide +kernel
theorem own_d2_22 : decode prog_23_method_1_code 22 = .ok (.if_icmp .ge 38, 3) := by decide +kernel
theorem own_d2_60 : decode prog_23_method_1_code 60 = .ok (.aload_n 0, 1) := by decide +kernel
theorem own_d2_61 : decode prog_23_method_1_code 61 = .ok (.iload_n 1, 1) := by decide +kernel
theorem own_d2_62 : decode prog_23_method_1_code 62 = .ok (.putfield 32, 3) := by decide +kernel
theorem own_d2_65 : decode prog_23_method_1_code 65 = .ok (.aload_n 0, 1) := by decide +kernel
theorem own_d2_66 : decode prog_23_method_1_code 66 = .ok (.aload_n 2, 1) := by decide +kernel
theorem own_d2_67 : decode prog_23_method_1_code 67 = .ok (.putfield 38, 3) := by decide +kernel
theorem own_d2_70 : decode prog_23_method_1_code 70 = .ok (.aload_n 0, 1) := by decide +kernel
theorem own_d2_71 : decode prog_23_method_1_code 71 = .ok (.iload_n 3, 1) := by decide +kernel
theorem own_d2_72 : decode prog_23_method_1_code 72 = .ok (.putfield 42, 3) := by decide +kernel
theorem own_d2_75 : decode prog_23_method_1_code 75 = .ok (.return_, 1) := by decide +kernel
theorem own_ef_own_rep0 (m : MethodId) (x0 : Addr) (x1 : Int32) (x2 : Addr) (x3 : Int32) : entryFrame m #[(.ref x0), (.int x1), (.ref x2), (.int x3)] 4 = mkF m 0 #[.val (.ref x0), .val (.int x1), .val (.ref x2), .val (.int x3)] [] := by first | (simp [entryFrame, mkF, argsToLocals, Value.category]; done) | rfl
def Q_own_rep0 (Z : State) (a : Addr) (m0 : Int32) (y : Addr) (x : Int32) (s0 : Int32) (h0 : Heap) (n0 : Nat) (v : Option Value) (h : Heap) (L : List Loc) : Prop := v = none ∧ Fr n0 L ∧ Keep h0 h [a] ∧ Exa Z h a "com/example/rulewright/rulewright/rules/Repetition" ∧ Fld Z h a "com/example/rulewright/rulewright/rules/Repetition" "minimum" "I" (.int m0) ∧ Fld Z h a "com/example/rulewright/rulewright/rules/Repetition" "step" "I" (.int s0)
theorem own_pn_com_example_rulewright_rulewright_rules_Repetition : plainName "com/example/rulewright/rulewright/rules/Repetition" = true := by first | (simp [plainName, overriddenIn]; done) | decide +kernel
set_option maxRecDepth 65536 in
set_option maxHeartbeats 40000000 in
theorem own_rep0 (l : Launch) (Z : State) (a0 : Array Value) (hw : ∀ d ∈ tables_1, d.before a0 Z = true) (ws : List Jvm.Cond) (a : Addr) (m0 : Int32) (y : Addr) (x : Int32) (s0 : Int32) (h0 : Heap) (n0 : Nat) (O0 : Old Z n0 h0) (g_a : n0 ≤ a) (E : Exa Z h0 a "com/example/rulewright/rulewright/rules/Repetition") (F1 : Fld Z h0 a "com/example/rulewright/rulewright/rules/Repetition" "minimum" "I" (.int (0 : Int32))) (F2 : Fld Z h0 a "com/example/rulewright/rulewright/rules/Repetition" "maximum" "Ljava/lang/Integer;" .null) (F3 : Fld Z h0 a "com/example/rulewright/rulewright/rules/Repetition" "step" "I" (.int (0 : Int32))) (hm : ¬ m0 < (0 : Int32)) (hs : ¬ s0 < (1 : Int32)) (EI : Exa Z h0 y "java/lang/Integer") (FI : Fld Z h0 y "java/lang/Integer" "value" "I" (.int x)) (hx0 : ¬ x < m0) :
    MetFree l (⟨"com/example/rulewright/rulewright/rules/Repetition", "<init>", "(ILjava/lang/Integer;I)V"⟩ : MethodName) (head1 (Jvm.Cond.code (⟨"com/example/rulewright/rulewright/rules/Repetition", "<init>", "(ILjava/lang/Integer;I)V"⟩ : MethodName) prog_23_method_1_code 4 none :: ws) ({ frames := 2, cells := 0, slots := 0, locals := 24 } : Room)) (fun args_ U => args_ = #[(.ref a), (.int m0), (.ref y), (.int s0)] ∧ Z.Warmed39 U.vm ∧ U.heap = h0) (fun _ _ _ _ _ => True) (fun _ U o U' => ∃ v L, o = .returned v ∧ Q_own_rep0 Z a m0 y x s0 h0 n0 v U'.heap L ∧ FrameEnd U o U' L ({ frames := 2, cells := 0, slots := 0, locals := 24 } : Room).cells ({ frames := 2, cells := 0, slots := 0, locals := 24 } : Room).slots) := by
  refine MetFree.of_bodySF (plainFor_of_name own_pn_com_example_rulewright_rulewright_rules_Repetition) hisR ?_
  intro pP eE sS mM args below meth cC s₁ Bd hml0 hP hK
  obtain ⟨rfl, hZ, hh⟩ := hP
  have hx := Bd.exec
  have hby := Bd.bytes
  have hml : cC.maxLocals = 4 := hml0
  have hown : sS.vm.findClass "com/example/rulewright/rulewright/rules/Repetition" = some mM.cls := findClass_of_methodNamed Bd.named
  have hnm := (name_of_methodNamed Bd.named Bd.method).1
  have X0 : Stand pP l eE ({ frames := 2, cells := 0, slots := 0, locals := 24 } : Room) sS mM #[(.ref a), (.int m0), (.ref y), (.int s0)] below meth cC s₁ [] 0 0 := Stand.of_body Bd
  have e0 : s₁.heap = h0 := by rw [← hh, Bd.state]; rfl
  have N0 := Fr.nil n0
  show own_Ends pP eE below (own_Got sS (Q_own_rep0 Z a m0 y x s0 h0 n0) ({ frames := 2, cells := 0, slots := 0, locals := 24 } : Room).cells ({ frames := 2, cells := 0, slots := 0, locals := 24 } : Room).slots) (s₁.setTop (entryFrame mM #[(.ref a), (.int m0), (.ref y), (.int s0)] 4))
  rw [own_ef_own_rep0 mM a m0 y s0]
  refine own_go (fun _ k => XS.aloadN X0.here hx rfl (hb hby own_d2_0) rfl rfl k) ?_
  show own_Ends _ _ _ _ (s₁.setTop (mkF mM 1 #[.val (.ref a), .val (.int m0), .val (.ref y), .val (.int s0)] [(.ref a)]))
  obtain ⟨_, _, ⟨T1, Lz1, kz1, nz1⟩, -, X1, ⟨Lc1, hQ1, l1, y1, z1⟩, st1⟩ := X0.specialBack hx (y := (⟨"java/lang/Record", "<init>", "()V"⟩ : MethodName)) rfl hown (mvT hZ (hw _ (List.mem_of_getElem? (i := 11) rfl))) (mvT hZ (hw _ (List.mem_of_getElem? (i := 12) rfl))) (mvT hZ (hw _ (List.mem_of_getElem? (i := 15) rfl))) (by decide) (backOf (W := 0) (own_recinit l Z a0 hw [] a h0 n0 O0) hZ (hw _ (List.mem_of_getElem? (i := 15) rfl)) (hw _ (List.mem_of_getElem? (i := 14) rfl)) (by decide) (by decide)) (g := (mkF mM 1 #[.val (.ref a), .val (.int m0), .val (.ref y), .val (.int s0)] [(.ref a)])) rfl (by rw [hml]; rfl) (Steps.refl _) (a := a) (argsL := []) (rest := []) (lenOf own_pd0 rfl) rfl (by show 2 * 0 + _ ≤ _; exact Nat.le_of_eq rfl) (hb hby own_d2_1) (fun _ _ => ⟨rfl, e0, (by decide : 0 + 0 ≤ _), (by decide : 0 + 0 ≤ _)⟩)
  dsimp only [Pt.U, Pt.locs, Pt.cells, Pt.slots] at X1 l1 y1 z1 st1 hQ1
  subst l1 y1 z1
  obtain ⟨rfl, Nq1, e1⟩ := hQ1
  have N1 := Fr.app N0 Nq1
  refine own_tr st1 ?_
  show own_Ends _ _ _ _ (T1.setTop (mkF mM 4 #[.val (.ref a), .val (.int m0), .val (.ref y), .val (.int s0)] []))
  refine own_go (fun _ k => XS.iloadN X1.here hx rfl (hb hby own_d2_4) rfl k) ?_
  show own_Ends _ _ _ _ (T1.setTop (mkF mM 5 #[.val (.ref a), .val (.int m0), .val (.ref y), .val (.int s0)] [(.int m0)]))
  refine own_go (fun _ k => XS.ifNo X1.here hx rfl (hb hby own_d2_5) rfl ((if0 _ _).trans (flt hm).1) k) ?_
  show own_Ends _ _ _ _ (T1.setTop (mkF mM 8 #[.val (.ref a), .val (.int m0), .val (.ref y), .val (.int s0)] []))
  refine own_go (fun _ k => XS.aloadN X1.here hx rfl (hb hby own_d2_8) rfl rfl k) ?_
  show own_Ends _ _ _ _ (T1.setTop (mkF mM 9 #[.val (.ref a), .val (.int m0), .val (.ref y), .val (.int s0)] [(.ref y)]))
  refine own_go (fun _ k => XS.ifnullNo X1.here hx rfl (hb hby own_d2_9) rfl k) ?_
  show own_Ends _ _ _ _ (T1.setTop (mkF mM 12 #[.val (.ref a), .val (.int m0), .val (.ref y), .val (.int s0)] []))
  refine own_go (fun _ k => XS.aloadN X1.here hx rfl (hb hby own_d2_12) rfl rfl k) ?_
  show own_Ends _ _ _ _ (T1.setTop (mkF mM 13 #[.val (.ref a), .val (.int m0), .val (.ref y), .val (.int s0)] [(.ref y)]))
  obtain ⟨cq2, kq2, q2a, q2b, q2c⟩ := isOf hZ e1 EI
  obtain ⟨_, _, ⟨T2, Lz2, kz2, nz2⟩, -, X2, ⟨Lc2, hQ2, l2, y2, z2⟩, st2⟩ := X1.virtualBack hx (y := (⟨"java/lang/Integer", "intValue", "()I"⟩ : MethodName)) (z := (⟨"java/lang/Integer", "intValue", "()I"⟩ : MethodName)) hown (mvT hZ (hw _ (List.mem_of_getElem? (i := 37) rfl))) (mvT hZ (hw _ (List.mem_of_getElem? (i := 38) rfl))) (notFace_of_selects (args := #[]) (mvT hZ (hw _ (List.mem_of_getElem? (i := 40) rfl)))) (mvT hZ (hw _ (List.mem_of_getElem? (i := 40) rfl))) (mvT hZ (hw _ (List.mem_of_getElem? (i := 39) rfl))) (by decide) (backOf (W := 0) (own_intValue l Z a0 hw [] y x h0 n0 O0 FI) hZ (hw _ (List.mem_of_getElem? (i := 41) rfl)) (hw _ (List.mem_of_getElem? (i := 32) rfl)) (by decide) (by decide)) q2a q2c (g := (mkF mM 13 #[.val (.ref a), .val (.int m0), .val (.ref y), .val (.int s0)] [(.ref y)])) rfl (by rw [hml]; rfl) (Steps.refl _) (argsL := []) (rest := []) (lenOf own_pd2 rfl) rfl (by show 2 * 0 + _ ≤ _; exact Nat.le_of_eq rfl) (hb hby own_d2_13) (fun _ _ => ⟨rfl, e1, (by decide : 0 + 0 ≤ _), (by decide : 0 + 0 ≤ _)⟩)
  dsimp only [Pt.U, Pt.locs, Pt.cells, Pt.slots] at X2 l2 y2 z2 st2 hQ2
  subst l2 y2 z2
  obtain ⟨rfl, Nq2, e2⟩ := hQ2
  have N2 := Fr.app N1 Nq2
  refine own_tr st2 ?_
  show own_Ends _ _ _ _ (T2.setTop (mkF mM 16 #[.val (.ref a), .val (.int m0), .val (.ref y), .val (.int s0)] [(.int x)]))
  refine own_go (fun _ k => XS.iloadN X2.here hx rfl (hb hby own_d2_16) rfl k) ?_
  show own_Ends _ _ _ _ (T2.setTop (mkF mM 17 #[.val (.ref a), .val (.int m0), .val (.ref y), .val (.int s0)] [(.int m0), (.int x)]))
  refine own_go (fun _ k => XS.icmpNo X2.here hx rfl (hb hby own_d2_17) rfl (flt hx0).1 k) ?_
  show own_Ends _ _ _ _ (T2.setTop (mkF mM 20 #[.val (.ref a), .val (.int m0), .val (.ref y), .val (.int s0)] []))
  refine own_go (fun _ k => XS.iloadN X2.here hx rfl (hb hby own_d2_20) rfl k) ?_
  show own_Ends _ _ _ _ (T2.setTop (mkF mM 21 #[.val (.ref a), .val (.int m0), .val (.ref y), .val (.int s0)] [(.int s0)]))
  refine own_go (fun _ k => XS.iconst X2.here hx rfl (hb hby own_d2_21) k) ?_
  show own_Ends _ _ _ _ (T2.setTop (mkF mM 22 #[.val (.ref a), .val (.int m0), .val (.ref y), .val (.int s0)] [(.int (1 : Int32)), (.int s0)]))
  refine own_go (fun _ k => XS.icmpYes X2.here hx rfl (pc0 := 22) (pc' := 60) rfl (hb hby own_d2_22) rfl (flt hs).2.1 (by decide) (by decide) k) ?_
  show own_Ends _ _ _ _ (T2.setTop (mkF mM 60 #[.val (.ref a), .val (.int m0), .val (.ref y), .val (.int s0)] []))
  refine own_go (fun _ k => XS.aloadN X2.here hx rfl (hb hby own_d2_60) rfl rfl k) ?_
  show own_Ends _ _ _ _ (T2.setTop (mkF mM 61 #[.val (.ref a), .val (.int m0), .val (.ref y), .val (.int s0)] [(.ref a)]))
  refine own_go (fun _ k => XS.iloadN X2.here hx rfl (hb hby own_d2_61) rfl k) ?_
  show own_Ends _ _ _ _ (T2.setTop (mkF mM 62 #[.val (.ref a), .val (.int m0), .val (.ref y), .val (.int s0)] [(.int m0), (.ref a)]))
  obtain ⟨T3, h3, X3, e3, W3, st3⟩ := putF X2 hx hZ hown (host := "") (Or.inl (hw _ (List.mem_of_getElem? (i := 19) rfl))) Via.refl e2 F1 E (Or.inr ⟨(hw _ (List.mem_of_getElem? (i := 20) rfl)), rfl, hnm⟩) (hw _ (List.mem_of_getElem? (i := 6) rfl)) (ty := .int) (by decide) rfl rfl (g := (mkF mM 62 #[.val (.ref a), .val (.int m0), .val (.ref y), .val (.int s0)] [(.int m0), (.ref a)])) rfl rfl (hb hby own_d2_62)
  have Fw3 := F1.same W3
  have O3 := O0.wr W3 g_a
  have K3 := (Keep.refl h0 [a]).wr W3 (Or.inl (List.mem_of_getElem? (i := 0) rfl))
  have N3 := Fr.snoc X3 N2 g_a
  refine own_go st3 ?_
  show own_Ends _ _ _ _ (T3.setTop (mkF mM 65 #[.val (.ref a), .val (.int m0), .val (.ref y), .val (.int s0)] []))
  refine own_go (fun _ k => XS.aloadN X3.here hx rfl (hb hby own_d2_65) rfl rfl k) ?_
  show own_Ends _ _ _ _ (T3.setTop (mkF mM 66 #[.val (.ref a), .val (.int m0), .val (.ref y), .val (.int s0)] [(.ref a)]))
  refine own_go (fun _ k => XS.aloadN X3.here hx rfl (hb hby own_d2_66) rfl rfl k) ?_
  show own_Ends _ _ _ _ (T3.setTop (mkF mM 67 #[.val (.ref a), .val (.int m0), .val (.ref y), .val (.int s0)] [(.ref y), (.ref a)]))
  obtain ⟨T4, h4, X4, e4, W4, st4⟩ := putF X3 hx hZ hown (host := "") (Or.inl (hw _ (List.mem_of_getElem? (i := 21) rfl))) Via.refl e3 (F2.other W3 (Or.inr (slot_ne (Or.inr (hw _ (List.mem_of_getElem? (i := 22) rfl))) (Or.inr (hw _ (List.mem_of_getElem? (i := 20) rfl))) (by decide) (t := (.object "java/lang/Integer")) (t' := .int) (by decide) (by decide)))) (E.wr W3) (Or.inr ⟨(hw _ (List.mem_of_getElem? (i := 22) rfl)), rfl, hnm⟩) (hw _ (List.mem_of_getElem? (i := 6) rfl)) (ty := (.object "java/lang/Integer")) (by decide) rfl rfl (g := (mkF mM 67 #[.val (.ref a), .val (.int m0), .val (.ref y), .val (.int s0)] [(.ref y), (.ref a)])) rfl rfl (hb hby own_d2_67)
  have Fw4 := (F2.other W3 (Or.inr (slot_ne (Or.inr (hw _ (List.mem_of_getElem? (i := 22) rfl))) (Or.inr (hw _ (List.mem_of_getElem? (i := 20) rfl))) (by decide) (t := (.object "java/lang/Integer")) (t' := .int) (by decide) (by decide)))).same W4
  have O4 := O3.wr W4 g_a
  have K4 := K3.wr W4 (Or.inl (List.mem_of_getElem? (i := 0) rfl))
  have N4 := Fr.snoc X4 N3 g_a
  refine own_go st4 ?_
  show own_Ends _ _ _ _ (T4.setTop (mkF mM 70 #[.val (.ref a), .val (.int m0), .val (.ref y), .val (.int s0)] []))
  refine own_go (fun _ k => XS.aloadN X4.here hx rfl (hb hby own_d2_70) rfl rfl k) ?_
  show own_Ends _ _ _ _ (T4.setTop (mkF mM 71 #[.val (.ref a), .val (.int m0), .val (.ref y), .val (.int s0)] [(.ref a)]))
  refine own_go (fun _ k => XS.iloadN X4.here hx rfl (hb hby own_d2_71) rfl k) ?_
  show own_Ends _ _ _ _ (T4.setTop (mkF mM 72 #[.val (.ref a), .val (.int m0), .val (.ref y), .val (.int s0)] [(.int s0), (.ref a)]))
  obtain ⟨T5, h5, X5, e5, W5, st5⟩ := putF X4 hx hZ hown (host := "") (Or.inl (hw _ (List.mem_of_getElem? (i := 23) rfl))) Via.refl e4 ((F3.other W3 (Or.inr (slot_ne (Or.inr (hw _ (List.mem_of_getElem? (i := 24) rfl))) (Or.inr (hw _ (List.mem_of_getElem? (i := 20) rfl))) (by decide) (t := .int) (t' := .int) (by decide) (by decide)))).other W4 (Or.inr (slot_ne (Or.inr (hw _ (List.mem_of_getElem? (i := 24) rfl))) (Or.inr (hw _ (List.mem_of_getElem? (i := 22) rfl))) (by decide) (t := .int) (t' := (.object "java/lang/Integer")) (by decide) (by decide)))) ((E.wr W3).wr W4) (Or.inr ⟨(hw _ (List.mem_of_getElem? (i := 24) rfl)), rfl, hnm⟩) (hw _ (List.mem_of_getElem? (i := 6) rfl)) (ty := .int) (by decide) rfl rfl (g := (mkF mM 72 #[.val (.ref a), .val (.int m0), .val (.ref y), .val (.int s0)] [(.int s0), (.ref a)])) rfl rfl (hb hby own_d2_72)
  have Fw5 := ((F3.other W3 (Or.inr (slot_ne (Or.inr (hw _ (List.mem_of_getElem? (i := 24) rfl))) (Or.inr (hw _ (List.mem_of_getElem? (i := 20) rfl))) (by decide) (t := .int) (t' := .int) (by decide) (by decide)))).other W4 (Or.inr (slot_ne (Or.inr (hw _ (List.mem_of_getElem? (i := 24) rfl))) (Or.inr (hw _ (List.mem_of_getElem? (i := 22) rfl))) (by decide) (t := .int) (t' := (.object "java/lang/Integer")) (by decide) (by decide)))).same W5
  have O5 := O4.wr W5 g_a
  have K5 := K4.wr W5 (Or.inl (List.mem_of_getElem? (i := 0) rfl))
  have N5 := Fr.snoc X5 N4 g_a
  refine own_go st5 ?_
  show own_Ends _ _ _ _ (T5.setTop (mkF mM 75 #[.val (.ref a), .val (.int m0), .val (.ref y), .val (.int s0)] []))
  exact own_retV X5 hx (BodyLoose.notSynchronized Bd) (st := []) Bd.returns (hb hby own_d2_75) (by decide) (by decide) (by rw [e5]; exact ⟨rfl, N5, K5, (((E.wr W3).wr W4).wr W5), ((Fw3.other W4 (Or.inr (slot_ne (Or.inr (hw _ (List.mem_of_getElem? (i := 20) rfl))) (Or.inr (hw _ (List.mem_of_getElem? (i := 22) rfl))) (by decide) (t := .int) (t' := (.object "java/lang/Integer")) (by decide) (by decide)))).other W5 (Or.inr (slot_ne (Or.inr (hw _ (List.mem_of_getElem? (i := 20) rfl))) (Or.inr (hw _ (List.mem_of_getElem? (i := 24) rfl))) (by decide) (t := .int) (t' := .int) (by decide) (by decide)))), Fw5⟩)
theorem own_ef_own_rep1 (m : MethodId) (x0 : Addr) (x1 : Int32) (x2 : Int32) : entryFrame m #[(.ref x0), (.int x1), .null, (.int x2)] 4 = mkF m 0 #[.val (.ref x0), .val (.int x1), .val .null, .val (.int x2)] [] := by first | (simp [entryFrame, mkF, argsToLocals, Value.category]; done) | rfl
def Q_own_rep1 (Z : State) (a : Addr) (m0 : Int32) (s0 : Int32) (h0 : Heap) (n0 : Nat) (v : Option Value) (h : Heap) (L : List Loc) : Prop := v = none ∧ Fr n0 L ∧ Keep h0 h [a] ∧ Exa Z h a "com/example/rulewright/rulewright/rules/Repetition" ∧ Fld Z h a "com/example/rulewright/rulewright/rules/Repetition" "minimum" "I" (.int m0) ∧ Fld Z h a "com/example/rulewright/rulewright/rules/Repetition" "step" "I" (.int s0)
set_option maxRecDepth 65536 in
set_option maxHeartbeats 40000000 in
theorem own_rep1 (l : Launch) (Z : State) (a0 : Array Value) (hw : ∀ d ∈ tables_1, d.before a0 Z = true) (ws : List Jvm.Cond) (a : Addr) (m0 : Int32) (s0 : Int32) (h0 : Heap) (n0 : Nat) (O0 : Old Z n0 h0) (g_a : n0 ≤ a) (E : Exa Z h0 a "com/example/rulewright/rulewright/rules/Repetition") (F1 : Fld Z h0 a "com/example/rulewright/rulewright/rules/Repetition" "minimum" "I" (.int (0 : Int32))) (F2 : Fld Z h0 a "com/example/rulewright/rulewright/rules/Repetition" "maximum" "Ljava/lang/Integer;" .null) (F3 : Fld Z h0 a "com/example/rulewright/rulewright/rules/Repetition" "step" "I" (.int (0 : Int32))) (hm : ¬ m0 < (0 : Int32)) (hs : ¬ s0 < (1 : Int32)) :
    MetFree l (⟨"com/example/rulewright/rulewright/rules/Repetition", "<init>", "(ILjava/lang/Integer;I)V"⟩ : MethodName) (head1 (Jvm.Cond.code (⟨"com/example/rulewright/rulewright/rules/Repetition", "<init>", "(ILjava/lang/Integer;I)V"⟩ : MethodName) prog_23_method_1_code 4 none :: ws) ({ frames := 2, cells := 0, slots := 0, locals := 24 } : Room)) (fun args_ U => args_ = #[(.ref a), (.int m0), .null, (.int s0)] ∧ Z.Warmed39 U.vm ∧ U.heap = h0) (fun _ _ _ _ _ => True) (fun _ U o U' => ∃ v L, o = .returned v ∧ Q_own_rep1 Z a m0 s0 h0 n0 v U'.heap L ∧ FrameEnd U o U' L ({ frames := 2, cells := 0, slots := 0, locals := 24 } : Room).cells ({ frames := 2, cells := 0, slots := 0, locals := 24 } : Room).slots) := by
  refine MetFree.of_bodySF (plainFor_of_name own_pn_com_example_rulewright_rulewright_rules_Repetition) hisR ?_
  intro pP eE sS mM args below meth cC s₁ Bd hml0 hP hK
  obtain ⟨rfl, hZ, hh⟩ := hP
  have hx := Bd.exec
  have hby := Bd.bytes
  have hml : cC.maxLocals = 4 := hml0
  have hown : sS.vm.findClass "com/example/rulewright/rulewright/rules/Repetition" = some mM.cls := findClass_of_methodNamed Bd.named
  have hnm := (name_of_methodNamed Bd.named Bd.method).1
  have X0 : Stand pP l eE ({ frames := 2, cells := 0, slots := 0, locals := 24 } : Room) sS mM #[(.ref a), (.int m0), .null, (.int s0)] below meth cC s₁ [] 0 0 := Stand.of_body Bd
  have e0 : s₁.heap = h0 := by rw [← hh, Bd.state]; rfl
  have N0 := Fr.nil n0
  show own_Ends pP eE below (own_Got sS (Q_own_rep1 Z a m0 s0 h0 n0) ({ frames := 2, cells := 0, slots := 0, locals := 24 } : Room).cells ({ frames := 2, cells := 0, slots := 0, locals := 24 } : Room).slots) (s₁.setTop (entryFrame mM #[(.ref a), (.int m0), .null, (.int s0)] 4))
  rw [own_ef_own_rep1 mM a m0 s0]
  refine own_go (fun _ k => XS.aloadN X0.here hx rfl (hb hby own_d2_0) rfl rfl k) ?_
  show own_Ends _ _ _ _ (s₁.setTop (mkF mM 1 #[.val (.ref a), .val (.int m0), .val .null, .val (.int s0)] [(.ref a)]))
  obtain ⟨_, _, ⟨T1, Lz1, kz1, nz1⟩, -, X1, ⟨Lc1, hQ1, l1, y1, z1⟩, st1⟩ := X0.specialBack hx (y := (⟨"java/lang/Record", "<init>", "()V"⟩ : MethodName)) rfl hown (mvT hZ (hw _ (List.mem_of_getElem? (i := 11) rfl))) (mvT hZ (hw _ (List.mem_of_getElem? (i := 12) rfl))) (mvT hZ (hw _ (List.mem_of_getElem? (i := 15) rfl))) (by decide) (backOf (W := 0) (own_recinit l Z a0 hw [] a h0 n0 O0) hZ (hw _ (List.mem_of_getElem? (i := 15) rfl)) (hw _ (List.mem_of_getElem? (i := 14) rfl)) (by decide) (by decide)) (g := (mkF mM 1 #[.val (.ref a), .val (.int m0), .val .null, .val (.int s0)] [(.ref a)])) rfl (by rw [hml]; rfl) (Steps.refl _) (a := a) (argsL := []) (rest := []) (lenOf own_pd0 rfl) rfl (by show 2 * 0 + _ ≤ _; exact Nat.le_of_eq rfl) (hb hby own_d2_1) (fun _ _ => ⟨rfl, e0, (by decide : 0 + 0 ≤ _), (by decide : 0 + 0 ≤ _)⟩)
  dsimp only [Pt.U, Pt.locs, Pt.cells, Pt.slots] at X1 l1 y1 z1 st1 hQ1
  subst l1 y1 z1
  obtain ⟨rfl, Nq1, e1⟩ := hQ1
  have N1 := Fr.app N0 Nq1
  refine own_tr st1 ?_
  show own_Ends _ _ _ _ (T1.setTop (mkF mM 4 #[.val (.ref a), .val (.int m0), .val .null, .val (.int s0)] []))
  refine own_go (fun _ k => XS.iloadN X1.here hx rfl (hb hby own_d2_4) rfl k) ?_
  show own_Ends _ _ _ _ (T1.setTop (mkF mM 5 #[.val (.ref a), .val (.int m0), .val .null, .val (.int s0)] [(.int m0)]))
  refine own_go (fun _ k => XS.ifNo X1.here hx rfl (hb hby own_d2_5) rfl ((if0 _ _).trans (flt hm).1) k) ?_
  show own_Ends _ _ _ _ (T1.setTop (mkF mM 8 #[.val (.ref a), .val (.int m0), .val .null, .val (.int s0)] []))
  refine own_go (fun _ k => XS.aloadN X1.here hx rfl (hb hby own_d2_8) rfl rfl k) ?_
  show own_Ends _ _ _ _ (T1.setTop (mkF mM 9 #[.val (.ref a), .val (.int m0), .val .null, .val (.int s0)] [.null]))
  refine own_go (fun _ k => XS.ifnullYes X1.here hx rfl (pc0 := 9) (pc' := 20) rfl (hb hby own_d2_9) rfl (by decide) (by decide) k) ?_
  show own_Ends _ _ _ _ (T1.setTop (mkF mM 20 #[.val (.ref a), .val (.int m0), .val .null, .val (.int s0)] []))
  refine own_go (fun _ k => XS.iloadN X1.here hx rfl (hb hby own_d2_20) rfl k) ?_
  show own_Ends _ _ _ _ (T1.setTop (mkF mM 21 #[.val (.ref a), .val (.int m0), .val .null, .val (.int s0)] [(.int s0)]))
  refine own_go (fun _ k => XS.iconst X1.here hx rfl (hb hby own_d2_21) k) ?_
  show own_Ends _ _ _ _ (T1.setTop (mkF mM 22 #[.val (.ref a), .val (.int m0), .val .null, .val (.int s0)] [(.int (1 : Int32)), (.int s0)]))
  refine own_go (fun _ k => XS.icmpYes X1.here hx rfl (pc0 := 22) (pc' := 60) rfl (hb hby own_d2_22) rfl (flt hs).2.1 (by decide) (by decide) k) ?_
  show own_Ends _ _ _ _ (T1.setTop (mkF mM 60 #[.val (.ref a), .val (.int m0), .val .null, .val (.int s0)] []))
  refine own_go (fun _ k => XS.aloadN X1.here hx rfl (hb hby own_d2_60) rfl rfl k) ?_
  show own_Ends _ _ _ _ (T1.setTop (mkF mM 61 #[.val (.ref a), .val (.int m0), .val .null, .val (.int s0)] [(.ref a)]))
  refine own_go (fun _ k => XS.iloadN X1.here hx rfl (hb hby own_d2_61) rfl k) ?_
  show own_Ends _ _ _ _ (T1.setTop (mkF mM 62 #[.val (.ref a), .val (.int m0), .val .null, .val (.int s0)] [(.int m0), (.ref a)]))
  obtain ⟨T2, h2, X2, e2, W2, st2⟩ := putF X1 hx hZ hown (host := "") (Or.inl (hw _ (List.mem_of_getElem? (i := 19) rfl))) Via.refl e1 F1 E (Or.inr ⟨(hw _ (List.mem_of_getElem? (i := 20) rfl)), rfl, hnm⟩) (hw _ (List.mem_of_getElem? (i := 6) rfl)) (ty := .int) (by decide) rfl rfl (g := (mkF mM 62 #[.val (.ref a), .val (.int m0), .val .null, .val (.int s0)] [(.int m0), (.ref a)])) rfl rfl (hb hby own_d2_62)
  have Fw2 := F1.same W2
  have O2 := O0.wr W2 g_a
  have K2 := (Keep.refl h0 [a]).wr W2 (Or.inl (List.mem_of_getElem? (i := 0) rfl))
  have N2 := Fr.snoc X2 N1 g_a
  refine own_go st2 ?_
  show own_Ends _ _ _ _ (T2.setTop (mkF mM 65 #[.val (.ref a), .val (.int m0), .val .null, .val (.int s0)] []))
  refine own_go (fun _ k => XS.aloadN X2.here hx rfl (hb hby own_d2_65) rfl rfl k) ?_
  show own_Ends _ _ _ _ (T2.setTop (mkF mM 66 #[.val (.ref a), .val (.int m0), .val .null, .val (.int s0)] [(.ref a)]))
  refine own_go (fun _ k => XS.aloadN X2.here hx rfl (hb hby own_d2_66) rfl rfl k) ?_
  show own_Ends _ _ _ _ (T2.setTop (mkF mM 67 #[.val (.ref a), .val (.int m0), .val .null, .val (.int s0)] [.null, (.ref a)]))
  obtain ⟨T3, h3, X3, e3, W3, st3⟩ := putF X2 hx hZ hown (host := "") (Or.inl (hw _ (List.mem_of_getElem? (i := 21) rfl))) Via.refl e2 (F2.other W2 (Or.inr (slot_ne (Or.inr (hw _ (List.mem_of_getElem? (i := 22) rfl))) (Or.inr (hw _ (List.mem_of_getElem? (i := 20) rfl))) (by decide) (t := (.object "java/lang/Integer")) (t' := .int) (by decide) (by decide)))) (E.wr W2) (Or.inr ⟨(hw _ (List.mem_of_getElem? (i := 22) rfl)), rfl, hnm⟩) (hw _ (List.mem_of_getElem? (i := 6) rfl)) (ty := (.object "java/lang/Integer")) (by decide) rfl rfl (g := (mkF mM 67 #[.val (.ref a), .val (.int m0), .val .null, .val (.int s0)] [.null, (.ref a)])) rfl rfl (hb hby own_d2_67)
  have Fw3 := (F2.other W2 (Or.inr (slot_ne (Or.inr (hw _ (List.mem_of_getElem? (i := 22) rfl))) (Or.inr (hw _ (List.mem_of_getElem? (i := 20) rfl))) (by decide) (t := (.object "java/lang/Integer")) (t' := .int) (by decide) (by decide)))).same W3
  have O3 := O2.wr W3 g_a
  have K3 := K2.wr W3 (Or.inl (List.mem_of_getElem? (i := 0) rfl))
  have N3 := Fr.snoc X3 N2 g_a
  refine own_go st3 ?_
  show own_Ends _ _ _ _ (T3.setTop (mkF mM 70 #[.val (.ref a), .val (.int m0), .val .null, .val (.int s0)] []))
  refine own_go (fun _ k => XS.aloadN X3.here hx rfl (hb hby own_d2_70) rfl rfl k) ?_
  show own_Ends _ _ _ _ (T3.setTop (mkF mM 71 #[.val (.ref a), .val (.int m0), .val .null, .val (.int s0)] [(.ref a)]))
  refine own_go (fun _ k => XS.iloadN X3.here hx rfl (hb hby own_d2_71) rfl k) ?_
  show own_Ends _ _ _ _ (T3.setTop (mkF mM 72 #[.val (.ref a), .val (.int m0), .val .null, .val (.int s0)] [(.int s0), (.ref a)]))
  obtain ⟨T4, h4, X4, e4, W4, st4⟩ := putF X3 hx hZ hown (host := "") (Or.inl (hw _ (List.mem_of_getElem? (i := 23) rfl))) Via.refl e3 ((F3.other W2 (Or.inr (slot_ne (Or.inr (hw _ (List.mem_of_getElem? (i := 24) rfl))) (Or.inr (hw _ (List.mem_of_getElem? (i := 20) rfl))) (by decide) (t := .int) (t' := .int) (by decide) (by decide)))).other W3 (Or.inr (slot_ne (Or.inr (hw _ (List.mem_of_getElem? (i := 24) rfl))) (Or.inr (hw _ (List.mem_of_getElem? (i := 22) rfl))) (by decide) (t := .int) (t' := (.object "java/lang/Integer")) (by decide) (by decide)))) ((E.wr W2).wr W3) (Or.inr ⟨(hw _ (List.mem_of_getElem? (i := 24) rfl)), rfl, hnm⟩) (hw _ (List.mem_of_getElem? (i := 6) rfl)) (ty := .int) (by decide) rfl rfl (g := (mkF mM 72 #[.val (.ref a), .val (.int m0), .val .null, .val (.int s0)] [(.int s0), (.ref a)])) rfl rfl (hb hby own_d2_72)
  have Fw4 := ((F3.other W2 (Or.inr (slot_ne (Or.inr (hw _ (List.mem_of_getElem? (i := 24) rfl))) (Or.inr (hw _ (List.mem_of_getElem? (i := 20) rfl))) (by decide) (t := .int) (t' := .int) (by decide) (by decide)))).other W3 (Or.inr (slot_ne (Or.inr (hw _ (List.mem_of_getElem? (i := 24) rfl))) (Or.inr (hw _ (List.mem_of_getElem? (i := 22) rfl))) (by decide) (t := .int) (t' := (.object "java/lang/Integer")) (by decide) (by decide)))).same W4
  have O4 := O3.wr W4 g_a
  have K4 := K3.wr W4 (Or.inl (List.mem_of_getElem? (i := 0) rfl))
  have N4 := Fr.snoc X4 N3 g_a
  refine own_go st4 ?_
  show own_Ends _ _ _ _ (T4.setTop (mkF mM 75 #[.val (.ref a), .val (.int m0), .val .null, .val (.int s0)] []))
  exact own_retV X4 hx (BodyLoose.notSynchronized Bd) (st := []) Bd.returns (hb hby own_d2_75) (by decide) (by decide) (by rw [e4]; exact ⟨rfl, N4, K4, (((E.wr W2).wr W3).wr W4), ((Fw2.other W3 (Or.inr (slot_ne (Or.inr (hw _ (List.mem_of_getElem? (i := 20) rfl))) (Or.inr (hw _ (List.mem_of_getElem? (i := 22) rfl))) (by decide) (t := .int) (t' := (.object "java/lang/Integer")) (by decide) (by decide)))).other W4 (Or.inr (slot_ne (Or.inr (hw _ (List.mem_of_getElem? (i := 20) rfl))) (Or.inr (hw _ (List.mem_of_getElem? (i := 24) rfl))) (by decide) (t := .int) (t' := .int) (by decide) (by decide)))), Fw4⟩)
theorem own_d5_0 : decode prog_23_method_3_code 0 = .ok (.aload_n 0, 1) := by decide +kernel
theorem own_d5_1 : decode prog_23_method_3_code 1 = .ok (.getfield 32, 3) := by decide +kernel
theorem own_d5_4 : decode prog_23_method_3_code 4 = .ok (.i2l, 1) := by decide +kernel
theorem own_d5_5 : decode prog_23_method_3_code 5 = .ok (.aload_n 0, 1) := by decide +kernel
theorem own_d5_6 : decode prog_23_method_3_code 6 = .ok (.getfield 42, 3) := by decide +kernel
theorem own_d5_9 : decode prog_23_method_3_code 9 = .ok (.i2l, 1) := by decide +kernel
theorem own_d5_10 : decode prog_23_method_3_code 10 = .ok (.ladd, 1) := by decide +kernel
theorem own_d5_11 : decode prog_23_method_3_code 11 = .ok (.lconst 1, 1) := by decide +kernel
theorem own_d5_12 : decode prog_23_method_3_code 12 = .ok (.lsub, 1) := by decide +kernel
theorem own_d5_13 : decode prog_23_method_3_code 13 = .ok (.aload_n 0, 1) := by decide +kernel
theorem own_d5_14 : decode prog_23_method_3_code 14 = .ok (.getfield 42, 3) := by decide +kernel
theorem own_d5_17 : decode prog_23_method_3_code 17 = .ok (.i2l, 1) := by decide +kernel
theorem own_d5_18 : decode prog_23_method_3_code 18 = .ok (.ldiv, 1) := by decide +kernel
theorem own_d5_19 : decode prog_23_method_3_code 19 = .ok (.aload_n 0, 1) := by decide +kernel
theorem own_d5_20 : decode prog_23_method_3_code 20 = .ok (.getfield 42, 3) := by decide +kernel
theorem own_d5_23 : decode prog_23_method_3_code 23 = .ok (.i2l, 1) := by decide +kernel
theorem own_d5_24 : decode prog_23_method_3_code 24 = .ok (.lmul, 1) := by decide +kernel
theorem own_d5_25 : decode prog_23_method_3_code 25 = .ok (.lreturn, 1) := by decide +kernel
theorem own_ef_own_fewest (m : MethodId) (x0 : Addr) : entryFrame m #[(.ref x0)] 1 = mkF m 0 #[.val (.ref x0)] [] := by first | (simp [entryFrame, mkF, argsToLocals, Value.category]; done) | rfl
def Q_own_fewest (Z : State) (a : Addr) (m0 : Int32) (s0 : Int32) (f : Int64) (h0 : Heap) (n0 : Nat) (v : Option Value) (h : Heap) (L : List Loc) : Prop := v = some (.long f) ∧ Fr n0 L ∧ h = h0
set_option maxRecDepth 65536 in
set_option maxHeartbeats 40000000 in
theorem own_fewest (l : Launch) (Z : State) (a0 : Array Value) (hw : ∀ d ∈ tables_1, d.before a0 Z = true) (ws : List Jvm.Cond) (a : Addr) (m0 : Int32) (s0 : Int32) (f : Int64) (h0 : Heap) (n0 : Nat) (O0 : Old Z n0 h0) (F1 : Fld Z h0 a "com/example/rulewright/rulewright/rules/Repetition" "minimum" "I" (.int m0)) (F3 : Fld Z h0 a "com/example/rulewright/rulewright/rules/Repetition" "step" "I" (.int s0)) (hs : ¬ s0 < (1 : Int32)) (hr : f = ((((m0.toInt64) + (s0.toInt64)) - (1 : Int64)) / (s0.toInt64)) * (s0.toInt64)) :
    MetFree l (⟨"com/example/rulewright/rulewright/rules/Repetition", "fewest", "()J"⟩ : MethodName) (head1 (Jvm.Cond.code (⟨"com/example/rulewright/rulewright/rules/Repetition", "fewest", "()J"⟩ : MethodName) prog_23_method_3_code 1 (some .long) :: ws) ({ frames := 0, cells := 0, slots := 0, locals := 0 } : Room)) (fun args_ U => args_ = #[(.ref a)] ∧ Z.Warmed39 U.vm ∧ U.heap = h0) (fun _ _ _ _ _ => True) (fun _ U o U' => ∃ v L, o = .returned v ∧ Q_own_fewest Z a m0 s0 f h0 n0 v U'.heap L ∧ FrameEnd U o U' L ({ frames := 0, cells := 0, slots := 0, locals := 0 } : Room).cells ({ frames := 0, cells := 0, slots := 0, locals := 0 } : Room).slots) := by
  refine MetFree.of_bodySF (plainFor_of_name own_pn_com_example_rulewright_rulewright_rules_Repetition) hisR ?_
  intro pP eE sS mM args below meth cC s₁ Bd hml0 hP hK
  obtain ⟨rfl, hZ, hh⟩ := hP
  have hx := Bd.exec
  have hby := Bd.bytes
  have hml : cC.maxLocals = 1 := hml0
  have hown : sS.vm.findClass "com/example/rulewright/rulewright/rules/Repetition" = some mM.cls := findClass_of_methodNamed Bd.named
  have hnm := (name_of_methodNamed Bd.named Bd.method).1
  have X0 : Stand pP l eE ({ frames := 0, cells := 0, slots := 0, locals := 0 } : Room) sS mM #[(.ref a)] below meth cC s₁ [] 0 0 := Stand.of_body Bd
  have e0 : s₁.heap = h0 := by rw [← hh, Bd.state]; rfl
  have N0 := Fr.nil n0
  show own_Ends pP eE below (own_Got sS (Q_own_fewest Z a m0 s0 f h0 n0) ({ frames := 0, cells := 0, slots := 0, locals := 0 } : Room).cells ({ frames := 0, cells := 0, slots := 0, locals := 0 } : Room).slots) (s₁.setTop (entryFrame mM #[(.ref a)] 1))
  rw [own_ef_own_fewest mM a]
  refine own_go (fun _ k => XS.aloadN X0.here hx rfl (hb hby own_d5_0) rfl rfl k) ?_
  show own_Ends _ _ _ _ (s₁.setTop (mkF mM 1 #[.val (.ref a)] [(.ref a)]))
  obtain ⟨T1, X1, e1, st1⟩ := getF X0 hx hZ hown (host := "") (Or.inl (hw _ (List.mem_of_getElem? (i := 19) rfl))) Via.refl e0 F1 (g := (mkF mM 1 #[.val (.ref a)] [(.ref a)])) rfl rfl (hb hby own_d5_1)
  refine own_go st1 ?_
  show own_Ends _ _ _ _ (T1.setTop (mkF mM 4 #[.val (.ref a)] [(.int m0)]))
  refine own_go (fun _ k => XS.i2l X1.here hx rfl (hb hby own_d5_4) rfl k) ?_
  show own_Ends _ _ _ _ (T1.setTop (mkF mM 5 #[.val (.ref a)] [(.long (m0.toInt64))]))
  refine own_go (fun _ k => XS.aloadN X1.here hx rfl (hb hby own_d5_5) rfl rfl k) ?_
  show own_Ends _ _ _ _ (T1.setTop (mkF mM 6 #[.val (.ref a)] [(.ref a), (.long (m0.toInt64))]))
  obtain ⟨T2, X2, e2, st2⟩ := getF X1 hx hZ hown (host := "") (Or.inl (hw _ (List.mem_of_getElem? (i := 23) rfl))) Via.refl e1 F3 (g := (mkF mM 6 #[.val (.ref a)] [(.ref a), (.long (m0.toInt64))])) rfl rfl (hb hby own_d5_6)
  refine own_go st2 ?_
  show own_Ends _ _ _ _ (T2.setTop (mkF mM 9 #[.val (.ref a)] [(.int s0), (.long (m0.toInt64))]))
  refine own_go (fun _ k => XS.i2l X2.here hx rfl (hb hby own_d5_9) rfl k) ?_
  show own_Ends _ _ _ _ (T2.setTop (mkF mM 10 #[.val (.ref a)] [(.long (s0.toInt64)), (.long (m0.toInt64))]))
  refine own_go (fun _ k => XS.ladd X2.here hx rfl (hb hby own_d5_10) rfl k) ?_
  show own_Ends _ _ _ _ (T2.setTop (mkF mM 11 #[.val (.ref a)] [(.long ((m0.toInt64) + (s0.toInt64)))]))
  refine own_go (fun _ k => XS.lconst X2.here hx rfl (hb hby own_d5_11) k) ?_
  show own_Ends _ _ _ _ (T2.setTop (mkF mM 12 #[.val (.ref a)] [(.long (1 : Int64)), (.long ((m0.toInt64) + (s0.toInt64)))]))
  refine own_go (fun _ k => XS.lsub X2.here hx rfl (hb hby own_d5_12) rfl k) ?_
  show own_Ends _ _ _ _ (T2.setTop (mkF mM 13 #[.val (.ref a)] [(.long (((m0.toInt64) + (s0.toInt64)) - (1 : Int64)))]))
  refine own_go (fun _ k => XS.aloadN X2.here hx rfl (hb hby own_d5_13) rfl rfl k) ?_
  show own_Ends _ _ _ _ (T2.setTop (mkF mM 14 #[.val (.ref a)] [(.ref a), (.long (((m0.toInt64) + (s0.toInt64)) - (1 : Int64)))]))
  obtain ⟨T3, X3, e3, st3⟩ := getF X2 hx hZ hown (host := "") (Or.inl (hw _ (List.mem_of_getElem? (i := 23) rfl))) Via.refl e2 F3 (g := (mkF mM 14 #[.val (.ref a)] [(.ref a), (.long (((m0.toInt64) + (s0.toInt64)) - (1 : Int64)))])) rfl rfl (hb hby own_d5_14)
  refine own_go st3 ?_
  show own_Ends _ _ _ _ (T3.setTop (mkF mM 17 #[.val (.ref a)] [(.int s0), (.long (((m0.toInt64) + (s0.toInt64)) - (1 : Int64)))]))
  refine own_go (fun _ k => XS.i2l X3.here hx rfl (hb hby own_d5_17) rfl k) ?_
  show own_Ends _ _ _ _ (T3.setTop (mkF mM 18 #[.val (.ref a)] [(.long (s0.toInt64)), (.long (((m0.toInt64) + (s0.toInt64)) - (1 : Int64)))]))
  refine own_go (fun _ k => XS.ldiv X3.here hx rfl (hb hby own_d5_18) rfl (own_nz s0 hs) k) ?_
  show own_Ends _ _ _ _ (T3.setTop (mkF mM 19 #[.val (.ref a)] [(.long ((((m0.toInt64) + (s0.toInt64)) - (1 : Int64)) / (s0.toInt64)))]))
  refine own_go (fun _ k => XS.aloadN X3.here hx rfl (hb hby own_d5_19) rfl rfl k) ?_
  show own_Ends _ _ _ _ (T3.setTop (mkF mM 20 #[.val (.ref a)] [(.ref a), (.long ((((m0.toInt64) + (s0.toInt64)) - (1 : Int64)) / (s0.toInt64)))]))
  obtain ⟨T4, X4, e4, st4⟩ := getF X3 hx hZ hown (host := "") (Or.inl (hw _ (List.mem_of_getElem? (i := 23) rfl))) Via.refl e3 F3 (g := (mkF mM 20 #[.val (.ref a)] [(.ref a), (.long ((((m0.toInt64) + (s0.toInt64)) - (1 : Int64)) / (s0.toInt64)))])) rfl rfl (hb hby own_d5_20)
  refine own_go st4 ?_
  show own_Ends _ _ _ _ (T4.setTop (mkF mM 23 #[.val (.ref a)] [(.int s0), (.long ((((m0.toInt64) + (s0.toInt64)) - (1 : Int64)) / (s0.toInt64)))]))
  refine own_go (fun _ k => XS.i2l X4.here hx rfl (hb hby own_d5_23) rfl k) ?_
  show own_Ends _ _ _ _ (T4.setTop (mkF mM 24 #[.val (.ref a)] [(.long (s0.toInt64)), (.long ((((m0.toInt64) + (s0.toInt64)) - (1 : Int64)) / (s0.toInt64)))]))
  refine own_go (fun _ k => XS.lmul X4.here hx rfl (hb hby own_d5_24) rfl k) ?_
  show own_Ends _ _ _ _ (T4.setTop (mkF mM 25 #[.val (.ref a)] [(.long (((((m0.toInt64) + (s0.toInt64)) - (1 : Int64)) / (s0.toInt64)) * (s0.toInt64)))]))
  exact own_retJ X4 hx (BodyLoose.notSynchronized Bd) Bd.returns (hb hby own_d5_25) (by decide) (by decide) (by rw [e4]; exact ⟨by rw [hr], N0, rfl⟩)
theorem own_pd3 : parseMethodDescriptor "(II)I" = some ⟨[.int, .int], some .int⟩ := by decide +kernel
theorem own_pd4 : parseMethodDescriptor "(I)Ljava/lang/Integer;" = some ⟨[.int], some (.object "java/lang/Integer")⟩ := by decide +kernel
theorem own_pd5 : parseMethodDescriptor "(ILjava/lang/Integer;I)V" = some ⟨[.int, (.object "java/lang/Integer"), .int], none⟩ := by decide +kernel
theorem own_pd6 : parseMethodDescriptor "()J" = some ⟨[], some .long⟩ := by decide +kernel
theorem own_ef_own_law (m : MethodId) (x0 : Int32) (x1 : Int32) (x2 : Int32) (x3 : Int32) : entryFrame m #[(.int x0), (.int x1), (.int x2), (.int x3)] maxLocals = mkF m 0 #[.val (.int x0), .val (.int x1), .val (.int x2), .val (.int x3), .unset, .unset, .unset, .unset, .unset, .unset, .unset, .unset, .unset, .unset] [] := by first | (simp [entryFrame, mkF, argsToLocals, Value.category, maxLocals]; done) | rfl
def Q_own_law (Z : State) (p0 : Int32) (p1 : Int32) (p2 : Int32) (p3 : Int32) (cc : Addr) (cl : Cell) (h0 : Heap) (n0 : Nat) (v : Option Value) (h : Heap) (L : List Loc) : Prop := v = some (.int 1) ∧ Fr n0 L
theorem own_pn_com_example_rulewright_rulewright_rules_RepetitionFewestPinLaw : plainName "com/example/rulewright/rulewright/rules/RepetitionFewestPinLaw" = true := by first | (simp [plainName, overriddenIn]; done) | decide +kernel
set_option maxRecDepth 65536 in
set_option maxHeartbeats 40000000 in
theorem own_law (l : Launch) (Z : State) (a0 : Array Value) (hw : ∀ d ∈ tables_1, d.before a0 Z = true) (ws : List Jvm.Cond) (p0 : Int32) (p1 : Int32) (p2 : Int32) (p3 : Int32) (cc : Addr) (cl : Cell) (h0 : Heap) (n0 : Nat) (O0 : Old Z n0 h0) (S_high : Sta Z Z.heap "java/lang/Integer$IntegerCache" "high" "I" (.int (127 : Int32))) (S_cache : Sta Z Z.heap "java/lang/Integer$IntegerCache" "cache" "[Ljava/lang/Integer;" (.ref cc)) (hcc : Arr Z Z.heap cc cl (.object "java/lang/Integer") ∧ cl.slots.size = (256 : Int32).toNatClampNeg ∧ ∀ p : Int32, ¬ p < (-128 : Int32) → ¬ (127 : Int32) < p → ∃ x : Addr, cl.slots[(p + (128 : Int32)).toNatClampNeg]? = some (.ref x) ∧ Exa Z Z.heap x "java/lang/Integer" ∧ Fld Z Z.heap x "java/lang/Integer" "value" "I" (.int p)) :
    MetFree l x (head1 (Jvm.Cond.code x code maxLocals ret :: ws) room_1) (fun args_ U => args_ = #[(.int p0), (.int p1), (.int p2), (.int p3)] ∧ Z.Warmed39 U.vm ∧ U.heap = h0) (fun _ _ _ _ _ => True) (fun _ U o U' => ∃ v L, o = .returned v ∧ Q_own_law Z p0 p1 p2 p3 cc cl h0 n0 v U'.heap L ∧ FrameEnd U o U' L 16 128) := by
  refine MetFree.of_bodySF (plainFor_of_name own_pn_com_example_rulewright_rulewright_rules_RepetitionFewestPinLaw) hisR ?_
  intro pP eE sS mM args below meth cC s₁ Bd hml0 hP hK
  obtain ⟨rfl, hZ, hh⟩ := hP
  have hx := Bd.exec
  have hby := Bd.bytes
  have hml : cC.maxLocals = 14 := hml0
  have hown : sS.vm.findClass "com/example/rulewright/rulewright/rules/RepetitionFewestPinLaw" = some mM.cls := findClass_of_methodNamed Bd.named
  have hnm := (name_of_methodNamed Bd.named Bd.method).1
  have X0 : Stand pP l eE room_1 sS mM #[(.int p0), (.int p1), (.int p2), (.int p3)] below meth cC s₁ [] 0 0 := Stand.of_body Bd
  have e0 : s₁.heap = h0 := by rw [← hh, Bd.state]; rfl
  have N0 := Fr.nil n0
  show own_Ends pP eE below (own_Got sS (Q_own_law Z p0 p1 p2 p3 cc cl h0 n0) 16 128) (s₁.setTop (entryFrame mM #[(.int p0), (.int p1), (.int p2), (.int p3)] maxLocals))
  rw [own_ef_own_law mM p0 p1 p2 p3]
  obtain ⟨s0, hs0⟩ : ∃ r : Int32, r = if (1 : Int32) < (p2 &&& (2147483647 : Int32)) then (p2 &&& (2147483647 : Int32)) else 1 := ⟨_, rfl⟩
  have hs1 := own_max1 _ _ hs0
  have hm := own_mask p0
  obtain ⟨x0, hx0⟩ : ∃ r : Int32, r = if (p0 &&& (2147483647 : Int32)) < p1 then p1 else (p0 &&& (2147483647 : Int32)) := ⟨_, rfl⟩
  have hx1 := own_max2 _ _ _ hx0
  obtain ⟨f0, hf0⟩ : ∃ r : Int64, r = (((((p0 &&& (2147483647 : Int32)).toInt64) + (s0.toInt64)) - (1 : Int64)) / (s0.toInt64)) * (s0.toInt64) := ⟨_, rfl⟩
  obtain ⟨hw1, hw2, hw3⟩ := own_few _ _ hm hs1 _ hf0
  refine own_go (fun _ k => XS.iloadN X0.here hx rfl (hb hby at_0) rfl k) ?_
  show own_Ends _ _ _ _ (s₁.setTop (mkF mM 1 #[.val (.int p0), .val (.int p1), .val (.int p2), .val (.int p3), .unset, .unset, .unset, .unset, .unset, .unset, .unset, .unset, .unset, .unset] [(.int p0)]))
  refine own_go (X0.ldcInt hx hown (mvT hZ (hw _ (List.mem_of_getElem? (i := 0) rfl))) (g := (mkF mM 1 #[.val (.int p0), .val (.int p1), .val (.int p2), .val (.int p3), .unset, .unset, .unset, .unset, .unset, .unset, .unset, .unset, .unset, .unset] [(.int p0)])) rfl (hb hby at_1)) ?_
  show own_Ends _ _ _ _ (s₁.setTop (mkF mM 3 #[.val (.int p0), .val (.int p1), .val (.int p2), .val (.int p3), .unset, .unset, .unset, .unset, .unset, .unset, .unset, .unset, .unset, .unset] [(.int (2147483647 : Int32)), (.int p0)]))
  refine own_go (fun _ k => XS.iand X0.here hx rfl (hb hby at_3) rfl k) ?_
  show own_Ends _ _ _ _ (s₁.setTop (mkF mM 4 #[.val (.int p0), .val (.int p1), .val (.int p2), .val (.int p3), .unset, .unset, .unset, .unset, .unset, .unset, .unset, .unset, .unset, .unset] [(.int (p0 &&& (2147483647 : Int32)))]))
  refine own_go (fun _ k => XS.istore X0.here hx rfl (hb hby at_4) rfl (l' := #[.val (.int p0), .val (.int p1), .val (.int p2), .val (.int p3), .val (.int (p0 &&& (2147483647 : Int32))), .unset, .unset, .unset, .unset, .unset, .unset, .unset, .unset, .unset]) rfl k) ?_
  show own_Ends _ _ _ _ (s₁.setTop (mkF mM 6 #[.val (.int p0), .val (.int p1), .val (.int p2), .val (.int p3), .val (.int (p0 &&& (2147483647 : Int32))), .unset, .unset, .unset, .unset, .unset, .unset, .unset, .unset, .unset] []))
  refine own_go (fun _ k => XS.iconst X0.here hx rfl (hb hby at_6) k) ?_
  show own_Ends _ _ _ _ (s₁.setTop (mkF mM 7 #[.val (.int p0), .val (.int p1), .val (.int p2), .val (.int p3), .val (.int (p0 &&& (2147483647 : Int32))), .unset, .unset, .unset, .unset, .unset, .unset, .unset, .unset, .unset] [(.int (1 : Int32))]))
  refine own_go (fun _ k => XS.iloadN X0.here hx rfl (hb hby at_7) rfl k) ?_
  show own_Ends _ _ _ _ (s₁.setTop (mkF mM 8 #[.val (.int p0), .val (.int p1), .val (.int p2), .val (.int p3), .val (.int (p0 &&& (2147483647 : Int32))), .unset, .unset, .unset, .unset, .unset, .unset, .unset, .unset, .unset] [(.int p2), (.int (1 : Int32))]))
  refine own_go (X0.ldcInt hx hown (mvT hZ (hw _ (List.mem_of_getElem? (i := 0) rfl))) (g := (mkF mM 8 #[.val (.int p0), .val (.int p1), .val (.int p2), .val (.int p3), .val (.int (p0 &&& (2147483647 : Int32))), .unset, .unset, .unset, .unset, .unset, .unset, .unset, .unset, .unset] [(.int p2), (.int (1 : Int32))])) rfl (hb hby at_8)) ?_
  show own_Ends _ _ _ _ (s₁.setTop (mkF mM 10 #[.val (.int p0), .val (.int p1), .val (.int p2), .val (.int p3), .val (.int (p0 &&& (2147483647 : Int32))), .unset, .unset, .unset, .unset, .unset, .unset, .unset, .unset, .unset] [(.int (2147483647 : Int32)), (.int p2), (.int (1 : Int32))]))
  refine own_go (fun _ k => XS.iand X0.here hx rfl (hb hby at_10) rfl k) ?_
  show own_Ends _ _ _ _ (s₁.setTop (mkF mM 11 #[.val (.int p0), .val (.int p1), .val (.int p2), .val (.int p3), .val (.int (p0 &&& (2147483647 : Int32))), .unset, .unset, .unset, .unset, .unset, .unset, .unset, .unset, .unset] [(.int (p2 &&& (2147483647 : Int32))), (.int (1 : Int32))]))
  obtain ⟨_, _, ⟨T1, Lz1, kz1, nz1⟩, -, X1, ⟨Lc1, hQ1, l1, y1, z1⟩, st1⟩ := Jvm.LawKit.callS X0 hx (y := (⟨"java/lang/Math", "max", "(II)I"⟩ : MethodName)) hown (mvT hZ (hw _ (List.mem_of_getElem? (i := 1) rfl))) (mvT hZ (hw _ (List.mem_of_getElem? (i := 2) rfl))) (mvT hZ (hw _ (List.mem_of_getElem? (i := 3) rfl))) (mvT hZ (hw _ (List.mem_of_getElem? (i := 4) rfl))) (by decide) (backOf (W := 0) (own_max l Z a0 hw [] (1 : Int32) (p2 &&& (2147483647 : Int32)) s0 h0 n0 O0 hs0) hZ (hw _ (List.mem_of_getElem? (i := 4) rfl)) (hw _ (List.mem_of_getElem? (i := 3) rfl)) (by decide) (by decide)) (g := (mkF mM 11 #[.val (.int p0), .val (.int p1), .val (.int p2), .val (.int p3), .val (.int (p0 &&& (2147483647 : Int32))), .unset, .unset, .unset, .unset, .unset, .unset, .unset, .unset, .unset] [(.int (p2 &&& (2147483647 : Int32))), (.int (1 : Int32))])) rfl (by rw [hml]; rfl) (argsL := [(.int (1 : Int32)), (.int (p2 &&& (2147483647 : Int32)))]) (rest := []) (lenOf own_pd3 rfl) rfl (by show 2 * 0 + _ ≤ _; exact Nat.le_of_eq rfl) (hb hby at_11) (fun _ _ => ⟨rfl, e0, (by decide : 0 + 0 ≤ _), (by decide : 0 + 0 ≤ _)⟩)
  dsimp only [Pt.U, Pt.locs, Pt.cells, Pt.slots] at X1 l1 y1 z1 st1 hQ1
  subst l1 y1 z1
  obtain ⟨rfl, Nq1, e1⟩ := hQ1
  have N1 := Fr.app N0 Nq1
  refine own_go st1 ?_
  show own_Ends _ _ _ _ (T1.setTop (mkF mM 14 #[.val (.int p0), .val (.int p1), .val (.int p2), .val (.int p3), .val (.int (p0 &&& (2147483647 : Int32))), .unset, .unset, .unset, .unset, .unset, .unset, .unset, .unset, .unset] [(.int s0)]))
  refine own_go (fun _ k => XS.istore X1.here hx rfl (hb hby at_14) rfl (l' := #[.val (.int p0), .val (.int p1), .val (.int p2), .val (.int p3), .val (.int (p0 &&& (2147483647 : Int32))), .val (.int s0), .unset, .unset, .unset, .unset, .unset, .unset, .unset, .unset]) rfl k) ?_
  show own_Ends _ _ _ _ (T1.setTop (mkF mM 16 #[.val (.int p0), .val (.int p1), .val (.int p2), .val (.int p3), .val (.int (p0 &&& (2147483647 : Int32))), .val (.int s0), .unset, .unset, .unset, .unset, .unset, .unset, .unset, .unset] []))
  refine own_go (fun _ k => XS.iloadN X1.here hx rfl (hb hby at_16) rfl k) ?_
  show own_Ends _ _ _ _ (T1.setTop (mkF mM 17 #[.val (.int p0), .val (.int p1), .val (.int p2), .val (.int p3), .val (.int (p0 &&& (2147483647 : Int32))), .val (.int s0), .unset, .unset, .unset, .unset, .unset, .unset, .unset, .unset] [(.int p3)]))
  refine own_go (fun _ k => XS.iconst X1.here hx rfl (hb hby at_17) k) ?_
  show own_Ends _ _ _ _ (T1.setTop (mkF mM 18 #[.val (.int p0), .val (.int p1), .val (.int p2), .val (.int p3), .val (.int (p0 &&& (2147483647 : Int32))), .val (.int s0), .unset, .unset, .unset, .unset, .unset, .unset, .unset, .unset] [(.int (1 : Int32)), (.int p3)]))
  refine own_go (fun _ k => XS.iand X1.here hx rfl (hb hby at_18) rfl k) ?_
  show own_Ends _ _ _ _ (T1.setTop (mkF mM 19 #[.val (.int p0), .val (.int p1), .val (.int p2), .val (.int p3), .val (.int (p0 &&& (2147483647 : Int32))), .val (.int s0), .unset, .unset, .unset, .unset, .unset, .unset, .unset, .unset] [(.int (p3 &&& (1 : Int32)))]))
  by_cases hc19_1 : (p3 &&& (1 : Int32)) = (0 : Int32)
  · refine own_go (fun _ k => XS.ifYes X1.here hx rfl (pc0 := 19) (pc' := 26) rfl (hb hby at_19) rfl ((if0 _ _).trans (teq hc19_1).1) (by decide) (by decide) k) ?_
    show own_Ends _ _ _ _ (T1.setTop (mkF mM 26 #[.val (.int p0), .val (.int p1), .val (.int p2), .val (.int p3), .val (.int (p0 &&& (2147483647 : Int32))), .val (.int s0), .unset, .unset, .unset, .unset, .unset, .unset, .unset, .unset] []))
    refine own_go (fun _ k => XS.iload X1.here hx rfl (hb hby at_26) rfl k) ?_
    show own_Ends _ _ _ _ (T1.setTop (mkF mM 28 #[.val (.int p0), .val (.int p1), .val (.int p2), .val (.int p3), .val (.int (p0 &&& (2147483647 : Int32))), .val (.int s0), .unset, .unset, .unset, .unset, .unset, .unset, .unset, .unset] [(.int (p0 &&& (2147483647 : Int32)))]))
    refine own_go (fun _ k => XS.iloadN X1.here hx rfl (hb hby at_28) rfl k) ?_
    show own_Ends _ _ _ _ (T1.setTop (mkF mM 29 #[.val (.int p0), .val (.int p1), .val (.int p2), .val (.int p3), .val (.int (p0 &&& (2147483647 : Int32))), .val (.int s0), .unset, .unset, .unset, .unset, .unset, .unset, .unset, .unset] [(.int p1), (.int (p0 &&& (2147483647 : Int32)))]))
    obtain ⟨_, _, ⟨T3, Lz3, kz3, nz3⟩, -, X3, ⟨Lc3, hQ3, l3, y3, z3⟩, st3⟩ := Jvm.LawKit.callS X1 hx (y := (⟨"java/lang/Math", "max", "(II)I"⟩ : MethodName)) hown (mvT hZ (hw _ (List.mem_of_getElem? (i := 1) rfl))) (mvT hZ (hw _ (List.mem_of_getElem? (i := 2) rfl))) (mvT hZ (hw _ (List.mem_of_getElem? (i := 3) rfl))) (mvT hZ (hw _ (List.mem_of_getElem? (i := 4) rfl))) (by decide) (backOf (W := 0) (own_max l Z a0 hw [] (p0 &&& (2147483647 : Int32)) p1 x0 h0 n0 O0 hx0) hZ (hw _ (List.mem_of_getElem? (i := 4) rfl)) (hw _ (List.mem_of_getElem? (i := 3) rfl)) (by decide) (by decide)) (g := (mkF mM 29 #[.val (.int p0), .val (.int p1), .val (.int p2), .val (.int p3), .val (.int (p0 &&& (2147483647 : Int32))), .val (.int s0), .unset, .unset, .unset, .unset, .unset, .unset, .unset, .unset] [(.int p1), (.int (p0 &&& (2147483647 : Int32)))])) rfl (by rw [hml]; rfl) (argsL := [(.int (p0 &&& (2147483647 : Int32))), (.int p1)]) (rest := []) (lenOf own_pd3 rfl) rfl (by show 2 * 0 + _ ≤ _; exact Nat.le_of_eq rfl) (hb hby at_29) (fun _ _ => ⟨rfl, e1, (by decide : 0 + 0 ≤ _), (by decide : 0 + 0 ≤ _)⟩)
    dsimp only [Pt.U, Pt.locs, Pt.cells, Pt.slots] at X3 l3 y3 z3 st3 hQ3
    subst l3 y3 z3
    obtain ⟨rfl, Nq3, e3⟩ := hQ3
    have N3 := Fr.app N1 Nq3
    refine own_go st3 ?_
    show own_Ends _ _ _ _ (T3.setTop (mkF mM 32 #[.val (.int p0), .val (.int p1), .val (.int p2), .val (.int p3), .val (.int (p0 &&& (2147483647 : Int32))), .val (.int s0), .unset, .unset, .unset, .unset, .unset, .unset, .unset, .unset] [(.int x0)]))
    obtain ⟨_, _, ⟨T4, Lz4, kz4, nz4⟩, -, X4, ⟨Lc4, hQ4, l4, y4, z4⟩, st4⟩ := Jvm.LawKit.callS X3 hx (y := (⟨"java/lang/Integer", "valueOf", "(I)Ljava/lang/Integer;"⟩ : MethodName)) hown (mvT hZ (hw _ (List.mem_of_getElem? (i := 30) rfl))) (mvT hZ (hw _ (List.mem_of_getElem? (i := 31) rfl))) (mvT hZ (hw _ (List.mem_of_getElem? (i := 32) rfl))) (mvT hZ (hw _ (List.mem_of_getElem? (i := 33) rfl))) (by decide) (backOf (W := 0) (own_valueOf l Z a0 hw [] x0 cc cl h0 n0 O0 S_high S_cache hcc) hZ (hw _ (List.mem_of_getElem? (i := 33) rfl)) (hw _ (List.mem_of_getElem? (i := 32) rfl)) (by decide) (by decide)) (g := (mkF mM 32 #[.val (.int p0), .val (.int p1), .val (.int p2), .val (.int p3), .val (.int (p0 &&& (2147483647 : Int32))), .val (.int s0), .unset, .unset, .unset, .unset, .unset, .unset, .unset, .unset] [(.int x0)])) rfl (by rw [hml]; rfl) (argsL := [(.int x0)]) (rest := []) (lenOf own_pd4 rfl) rfl (by show 2 * 0 + _ ≤ _; exact Nat.le_of_eq rfl) (hb hby at_32) (fun _ _ => ⟨rfl, e3, (by decide : 0 + 1 ≤ _), (by decide : 0 + 1 ≤ _)⟩)
    dsimp only [Pt.U, Pt.locs, Pt.cells, Pt.slots] at X4 l4 y4 z4 st4 hQ4
    subst l4 y4 z4
    obtain ⟨c4, rfl, Nq4, K4, E_c4, F_c4⟩ := hQ4
    have N4 := Fr.app N3 Nq4
    have O4 := O0.keep K4 all0
    refine own_go st4 ?_
    show own_Ends _ _ _ _ (T4.setTop (mkF mM 35 #[.val (.int p0), .val (.int p1), .val (.int p2), .val (.int p3), .val (.int (p0 &&& (2147483647 : Int32))), .val (.int s0), .unset, .unset, .unset, .unset, .unset, .unset, .unset, .unset] [(.ref c4)]))
    refine own_go (fun _ k => XS.astore X4.here hx rfl (hb hby at_35) rfl rfl (l' := #[.val (.int p0), .val (.int p1), .val (.int p2), .val (.int p3), .val (.int (p0 &&& (2147483647 : Int32))), .val (.int s0), .val (.ref c4), .unset, .unset, .unset, .unset, .unset, .unset, .unset]) rfl k) ?_
    show own_Ends _ _ _ _ (T4.setTop (mkF mM 37 #[.val (.int p0), .val (.int p1), .val (.int p2), .val (.int p3), .val (.int (p0 &&& (2147483647 : Int32))), .val (.int s0), .val (.ref c4), .unset, .unset, .unset, .unset, .unset, .unset, .unset] []))
    obtain ⟨T5, h5, X5, e5, E5, A5, D5, -, st5⟩ := newO X4 hx hZ hown (hw _ (List.mem_of_getElem? (i := 5) rfl)) (hw _ (List.mem_of_getElem? (i := 6) rfl)) (hw _ (List.mem_of_getElem? (i := 7) rfl)) rfl (g := (mkF mM 37 #[.val (.int p0), .val (.int p1), .val (.int p2), .val (.int p3), .val (.int (p0 &&& (2147483647 : Int32))), .val (.int s0), .val (.ref c4), .unset, .unset, .unset, .unset, .unset, .unset, .unset] [])) rfl (hb hby at_37) (by decide) (by decide)
    obtain ⟨b5, g5⟩ : ∃ z, z = T4.heap.size := ⟨_, rfl⟩
    rw [← g5] at A5 D5 st5
    have O5 := O4.ext E5
    have g_b5 : n0 ≤ b5 := by rw [g5, ← O4.1]; exact O4.2.1
    have E_b5 : Exa Z h5 b5 "com/example/rulewright/rulewright/rules/Repetition" := A5
    have F_minimum_b5 : Fld Z h5 b5 "com/example/rulewright/rulewright/rules/Repetition" "minimum" "I" (.int (0 : Int32)) := D5 (Or.inr (hw _ (List.mem_of_getElem? (i := 20) rfl))) (ty := .int) (by decide)
    have F_maximum_b5 : Fld Z h5 b5 "com/example/rulewright/rulewright/rules/Repetition" "maximum" "Ljava/lang/Integer;" .null := D5 (Or.inr (hw _ (List.mem_of_getElem? (i := 22) rfl))) (ty := (.object "java/lang/Integer")) (by decide)
    have F_step_b5 : Fld Z h5 b5 "com/example/rulewright/rulewright/rules/Repetition" "step" "I" (.int (0 : Int32)) := D5 (Or.inr (hw _ (List.mem_of_getElem? (i := 24) rfl))) (ty := .int) (by decide)
    refine own_go st5 ?_
    show own_Ends _ _ _ _ (T5.setTop (mkF mM 40 #[.val (.int p0), .val (.int p1), .val (.int p2), .val (.int p3), .val (.int (p0 &&& (2147483647 : Int32))), .val (.int s0), .val (.ref c4), .unset, .unset, .unset, .unset, .unset, .unset, .unset] [(.ref b5)]))
    refine own_go (fun _ k => XS.dup X5.here hx rfl (hb hby at_40) rfl rfl k) ?_
    show own_Ends _ _ _ _ (T5.setTop (mkF mM 41 #[.val (.int p0), .val (.int p1), .val (.int p2), .val (.int p3), .val (.int (p0 &&& (2147483647 : Int32))), .val (.int s0), .val (.ref c4), .unset, .unset, .unset, .unset, .unset, .unset, .unset] [(.ref b5), (.ref b5)]))
    refine own_go (fun _ k => XS.iload X5.here hx rfl (hb hby at_41) rfl k) ?_
    show own_Ends _ _ _ _ (T5.setTop (mkF mM 43 #[.val (.int p0), .val (.int p1), .val (.int p2), .val (.int p3), .val (.int (p0 &&& (2147483647 : Int32))), .val (.int s0), .val (.ref c4), .unset, .unset, .unset, .unset, .unset, .unset, .unset] [(.int (p0 &&& (2147483647 : Int32))), (.ref b5), (.ref b5)]))
    refine own_go (fun _ k => XS.aload X5.here hx rfl (hb hby at_43) rfl rfl k) ?_
    show own_Ends _ _ _ _ (T5.setTop (mkF mM 45 #[.val (.int p0), .val (.int p1), .val (.int p2), .val (.int p3), .val (.int (p0 &&& (2147483647 : Int32))), .val (.int s0), .val (.ref c4), .unset, .unset, .unset, .unset, .unset, .unset, .unset] [(.ref c4), (.int (p0 &&& (2147483647 : Int32))), (.ref b5), (.ref b5)]))
    refine own_go (fun _ k => XS.iload X5.here hx rfl (hb hby at_45) rfl k) ?_
    show own_Ends _ _ _ _ (T5.setTop (mkF mM 47 #[.val (.int p0), .val (.int p1), .val (.int p2), .val (.int p3), .val (.int (p0 &&& (2147483647 : Int32))), .val (.int s0), .val (.ref c4), .unset, .unset, .unset, .unset, .unset, .unset, .unset] [(.int s0), (.ref c4), (.int (p0 &&& (2147483647 : Int32))), (.ref b5), (.ref b5)]))
    obtain ⟨_, _, ⟨T6, Lz6, kz6, nz6⟩, -, X6, ⟨Lc6, hQ6, l6, y6, z6⟩, st6⟩ := X5.specialBack hx (y := (⟨"com/example/rulewright/rulewright/rules/Repetition", "<init>", "(ILjava/lang/Integer;I)V"⟩ : MethodName)) rfl hown (mvT hZ (hw _ (List.mem_of_getElem? (i := 8) rfl))) (mvT hZ (hw _ (List.mem_of_getElem? (i := 9) rfl))) (mvT hZ (hw _ (List.mem_of_getElem? (i := 10) rfl))) (by decide) (backOf (W := 1) (own_rep0 l Z a0 hw [] b5 (p0 &&& (2147483647 : Int32)) c4 x0 s0 h5 n0 O5 g_b5 E_b5 F_minimum_b5 F_maximum_b5 F_step_b5 hm hs1 (E_c4.ext E5) (F_c4.ext E5) hx1) hZ (hw _ (List.mem_of_getElem? (i := 10) rfl)) (hw _ (List.mem_of_getElem? (i := 7) rfl)) (by decide) (by decide)) (g := (mkF mM 47 #[.val (.int p0), .val (.int p1), .val (.int p2), .val (.int p3), .val (.int (p0 &&& (2147483647 : Int32))), .val (.int s0), .val (.ref c4), .unset, .unset, .unset, .unset, .unset, .unset, .unset] [(.int s0), (.ref c4), (.int (p0 &&& (2147483647 : Int32))), (.ref b5), (.ref b5)])) rfl (by rw [hml]; rfl) (Steps.refl _) (a := b5) (argsL := [(.int (p0 &&& (2147483647 : Int32))), (.ref c4), (.int s0)]) (rest := [(.ref b5)]) (lenOf own_pd5 rfl) rfl (by show 2 * 0 + _ ≤ _; exact Nat.le_of_eq rfl) (hb hby at_47) (fun _ _ => ⟨rfl, e5, (by decide : 2 + 0 ≤ _), (by decide : 4 + 0 ≤ _)⟩)
    dsimp only [Pt.U, Pt.locs, Pt.cells, Pt.slots] at X6 l6 y6 z6 st6 hQ6
    subst l6 y6 z6
    obtain ⟨rfl, Nq6, K6, E_b5_6, F1_b5_6, F3_b5_6⟩ := hQ6
    have N6 := Fr.app N4 Nq6
    have O6 := O5.keep K6 (allS g_b5 all0)
    refine own_tr st6 ?_
    show own_Ends _ _ _ _ (T6.setTop (mkF mM 50 #[.val (.int p0), .val (.int p1), .val (.int p2), .val (.int p3), .val (.int (p0 &&& (2147483647 : Int32))), .val (.int s0), .val (.ref c4), .unset, .unset, .unset, .unset, .unset, .unset, .unset] [(.ref b5)]))
    refine own_go (fun _ k => XS.astore X6.here hx rfl (hb hby at_50) rfl rfl (l' := #[.val (.int p0), .val (.int p1), .val (.int p2), .val (.int p3), .val (.int (p0 &&& (2147483647 : Int32))), .val (.int s0), .val (.ref c4), .val (.ref b5), .unset, .unset, .unset, .unset, .unset, .unset]) rfl k) ?_
    show own_Ends _ _ _ _ (T6.setTop (mkF mM 52 #[.val (.int p0), .val (.int p1), .val (.int p2), .val (.int p3), .val (.int (p0 &&& (2147483647 : Int32))), .val (.int s0), .val (.ref c4), .val (.ref b5), .unset, .unset, .unset, .unset, .unset, .unset] []))
    refine own_go (fun _ k => XS.aload X6.here hx rfl (hb hby at_52) rfl rfl k) ?_
    show own_Ends _ _ _ _ (T6.setTop (mkF mM 54 #[.val (.int p0), .val (.int p1), .val (.int p2), .val (.int p3), .val (.int (p0 &&& (2147483647 : Int32))), .val (.int s0), .val (.ref c4), .val (.ref b5), .unset, .unset, .unset, .unset, .unset, .unset] [(.ref b5)]))
    obtain ⟨cq7, kq7, q7a, q7b, q7c⟩ := isOf hZ rfl E_b5_6
    obtain ⟨_, _, ⟨T7, Lz7, kz7, nz7⟩, -, X7, ⟨Lc7, hQ7, l7, y7, z7⟩, st7⟩ := X6.virtualBack hx (y := (⟨"com/example/rulewright/rulewright/rules/Repetition", "fewest", "()J"⟩ : MethodName)) (z := (⟨"com/example/rulewright/rulewright/rules/Repetition", "fewest", "()J"⟩ : MethodName)) hown (mvT hZ (hw _ (List.mem_of_getElem? (i := 25) rfl))) (mvT hZ (hw _ (List.mem_of_getElem? (i := 26) rfl))) (notFace_of_selects (args := #[]) (mvT hZ (hw _ (List.mem_of_getElem? (i := 28) rfl)))) (mvT hZ (hw _ (List.mem_of_getElem? (i := 28) rfl))) (mvT hZ (hw _ (List.mem_of_getElem? (i := 27) rfl))) (by decide) (backOf (W := 0) (own_fewest l Z a0 hw [] b5 (p0 &&& (2147483647 : Int32)) s0 f0 T6.heap n0 O6 F1_b5_6 F3_b5_6 hs1 hf0) hZ (hw _ (List.mem_of_getElem? (i := 29) rfl)) (hw _ (List.mem_of_getElem? (i := 7) rfl)) (by decide) (by decide)) q7a q7c (g := (mkF mM 54 #[.val (.int p0), .val (.int p1), .val (.int p2), .val (.int p3), .val (.int (p0 &&& (2147483647 : Int32))), .val (.int s0), .val (.ref c4), .val (.ref b5), .unset, .unset, .unset, .unset, .unset, .unset] [(.ref b5)])) rfl (by rw [hml]; rfl) (Steps.refl _) (argsL := []) (rest := []) (lenOf own_pd6 rfl) rfl (by show 2 * 0 + _ ≤ _; exact Nat.le_of_eq rfl) (hb hby at_54) (fun _ _ => ⟨rfl, rfl, (by decide : 2 + 0 ≤ _), (by decide : 4 + 0 ≤ _)⟩)
    dsimp only [Pt.U, Pt.locs, Pt.cells, Pt.slots] at X7 l7 y7 z7 st7 hQ7
    subst l7 y7 z7
    obtain ⟨rfl, Nq7, e7⟩ := hQ7
    have N7 := Fr.app N6 Nq7
    refine own_tr st7 ?_
    show own_Ends _ _ _ _ (T7.setTop (mkF mM 57 #[.val (.int p0), .val (.int p1), .val (.int p2), .val (.int p3), .val (.int (p0 &&& (2147483647 : Int32))), .val (.int s0), .val (.ref c4), .val (.ref b5), .unset, .unset, .unset, .unset, .unset, .unset] [(.long f0)]))
    refine own_go (fun _ k => XS.lstore X7.here hx rfl (hb hby at_57) rfl (l' := #[.val (.int p0), .val (.int p1), .val (.int p2), .val (.int p3), .val (.int (p0 &&& (2147483647 : Int32))), .val (.int s0), .val (.ref c4), .val (.ref b5), .val (.long f0), .second, .unset, .unset, .unset, .unset]) rfl k) ?_
    show own_Ends _ _ _ _ (T7.setTop (mkF mM 59 #[.val (.int p0), .val (.int p1), .val (.int p2), .val (.int p3), .val (.int (p0 &&& (2147483647 : Int32))), .val (.int s0), .val (.ref c4), .val (.ref b5), .val (.long f0), .second, .unset, .unset, .unset, .unset] []))
    refine own_go (fun _ k => XS.iload X7.here hx rfl (hb hby at_59) rfl k) ?_
    show own_Ends _ _ _ _ (T7.setTop (mkF mM 61 #[.val (.int p0), .val (.int p1), .val (.int p2), .val (.int p3), .val (.int (p0 &&& (2147483647 : Int32))), .val (.int s0), .val (.ref c4), .val (.ref b5), .val (.long f0), .second, .unset, .unset, .unset, .unset] [(.int s0)]))
    refine own_go (fun _ k => XS.i2l X7.here hx rfl (hb hby at_61) rfl k) ?_
    show own_Ends _ _ _ _ (T7.setTop (mkF mM 62 #[.val (.int p0), .val (.int p1), .val (.int p2), .val (.int p3), .val (.int (p0 &&& (2147483647 : Int32))), .val (.int s0), .val (.ref c4), .val (.ref b5), .val (.long f0), .second, .unset, .unset, .unset, .unset] [(.long (s0.toInt64))]))
    refine own_go (fun _ k => XS.lstore X7.here hx rfl (hb hby at_62) rfl (l' := #[.val (.int p0), .val (.int p1), .val (.int p2), .val (.int p3), .val (.int (p0 &&& (2147483647 : Int32))), .val (.int s0), .val (.ref c4), .val (.ref b5), .val (.long f0), .second, .val (.long (s0.toInt64)), .second, .unset, .unset]) rfl k) ?_
    show own_Ends _ _ _ _ (T7.setTop (mkF mM 64 #[.val (.int p0), .val (.int p1), .val (.int p2), .val (.int p3), .val (.int (p0 &&& (2147483647 : Int32))), .val (.int s0), .val (.ref c4), .val (.ref b5), .val (.long f0), .second, .val (.long (s0.toInt64)), .second, .unset, .unset] []))
    refine own_go (fun _ k => XS.iload X7.here hx rfl (hb hby at_64) rfl k) ?_
    show own_Ends _ _ _ _ (T7.setTop (mkF mM 66 #[.val (.int p0), .val (.int p1), .val (.int p2), .val (.int p3), .val (.int (p0 &&& (2147483647 : Int32))), .val (.int s0), .val (.ref c4), .val (.ref b5), .val (.long f0), .second, .val (.long (s0.toInt64)), .second, .unset, .unset] [(.int (p0 &&& (2147483647 : Int32)))]))
    refine own_go (fun _ k => XS.i2l X7.here hx rfl (hb hby at_66) rfl k) ?_
    show own_Ends _ _ _ _ (T7.setTop (mkF mM 67 #[.val (.int p0), .val (.int p1), .val (.int p2), .val (.int p3), .val (.int (p0 &&& (2147483647 : Int32))), .val (.int s0), .val (.ref c4), .val (.ref b5), .val (.long f0), .second, .val (.long (s0.toInt64)), .second, .unset, .unset] [(.long ((p0 &&& (2147483647 : Int32)).toInt64))]))
    refine own_go (fun _ k => XS.lstore X7.here hx rfl (hb hby at_67) rfl (l' := #[.val (.int p0), .val (.int p1), .val (.int p2), .val (.int p3), .val (.int (p0 &&& (2147483647 : Int32))), .val (.int s0), .val (.ref c4), .val (.ref b5), .val (.long f0), .second, .val (.long (s0.toInt64)), .second, .val (.long ((p0 &&& (2147483647 : Int32)).toInt64)), .second]) rfl k) ?_
    show own_Ends _ _ _ _ (T7.setTop (mkF mM 69 #[.val (.int p0), .val (.int p1), .val (.int p2), .val (.int p3), .val (.int (p0 &&& (2147483647 : Int32))), .val (.int s0), .val (.ref c4), .val (.ref b5), .val (.long f0), .second, .val (.long (s0.toInt64)), .second, .val (.long ((p0 &&& (2147483647 : Int32)).toInt64)), .second] []))
    refine own_go (fun _ k => XS.lload X7.here hx rfl (hb hby at_69) rfl k) ?_
    show own_Ends _ _ _ _ (T7.setTop (mkF mM 71 #[.val (.int p0), .val (.int p1), .val (.int p2), .val (.int p3), .val (.int (p0 &&& (2147483647 : Int32))), .val (.int s0), .val (.ref c4), .val (.ref b5), .val (.long f0), .second, .val (.long (s0.toInt64)), .second, .val (.long ((p0 &&& (2147483647 : Int32)).toInt64)), .second] [(.long f0)]))
    refine own_go (fun _ k => XS.lload X7.here hx rfl (hb hby at_71) rfl k) ?_
    show own_Ends _ _ _ _ (T7.setTop (mkF mM 73 #[.val (.int p0), .val (.int p1), .val (.int p2), .val (.int p3), .val (.int (p0 &&& (2147483647 : Int32))), .val (.int s0), .val (.ref c4), .val (.ref b5), .val (.long f0), .second, .val (.long (s0.toInt64)), .second, .val (.long ((p0 &&& (2147483647 : Int32)).toInt64)), .second] [(.long (s0.toInt64)), (.long f0)]))
    refine own_go (fun _ k => XS.lrem X7.here hx rfl (hb hby at_73) rfl (own_nz s0 hs1) k) ?_
    show own_Ends _ _ _ _ (T7.setTop (mkF mM 74 #[.val (.int p0), .val (.int p1), .val (.int p2), .val (.int p3), .val (.int (p0 &&& (2147483647 : Int32))), .val (.int s0), .val (.ref c4), .val (.ref b5), .val (.long f0), .second, .val (.long (s0.toInt64)), .second, .val (.long ((p0 &&& (2147483647 : Int32)).toInt64)), .second] [(.long (f0 - (f0 / (s0.toInt64)) * (s0.toInt64)))]))
    refine own_go (fun _ k => XS.lconst X7.here hx rfl (hb hby at_74) k) ?_
    show own_Ends _ _ _ _ (T7.setTop (mkF mM 75 #[.val (.int p0), .val (.int p1), .val (.int p2), .val (.int p3), .val (.int (p0 &&& (2147483647 : Int32))), .val (.int s0), .val (.ref c4), .val (.ref b5), .val (.long f0), .second, .val (.long (s0.toInt64)), .second, .val (.long ((p0 &&& (2147483647 : Int32)).toInt64)), .second] [(.long (0 : Int64)), (.long (f0 - (f0 / (s0.toInt64)) * (s0.toInt64)))]))
    refine own_go (fun _ k => XS.lcmp X7.here hx rfl (hb hby at_75) rfl k) ?_
    show own_Ends _ _ _ _ (T7.setTop (mkF mM 76 #[.val (.int p0), .val (.int p1), .val (.int p2), .val (.int p3), .val (.int (p0 &&& (2147483647 : Int32))), .val (.int s0), .val (.ref c4), .val (.ref b5), .val (.long f0), .second, .val (.long (s0.toInt64)), .second, .val (.long ((p0 &&& (2147483647 : Int32)).toInt64)), .second] [(.int (lcmpW (f0 - (f0 / (s0.toInt64)) * (s0.toInt64)) (0 : Int64)))]))
    refine own_go (fun _ k => XS.ifNo X7.here hx rfl (hb hby at_76) rfl ((if0 _ _).trans (teq ((lw_eq (f0 - (f0 / (s0.toInt64)) * (s0.toInt64)) (0 : Int64)).mpr hw1)).2) k) ?_
    show own_Ends _ _ _ _ (T7.setTop (mkF mM 79 #[.val (.int p0), .val (.int p1), .val (.int p2), .val (.int p3), .val (.int (p0 &&& (2147483647 : Int32))), .val (.int s0), .val (.ref c4), .val (.ref b5), .val (.long f0), .second, .val (.long (s0.toInt64)), .second, .val (.long ((p0 &&& (2147483647 : Int32)).toInt64)), .second] []))
    refine own_go (fun _ k => XS.lload X7.here hx rfl (hb hby at_79) rfl k) ?_
    show own_Ends _ _ _ _ (T7.setTop (mkF mM 81 #[.val (.int p0), .val (.int p1), .val (.int p2), .val (.int p3), .val (.int (p0 &&& (2147483647 : Int32))), .val (.int s0), .val (.ref c4), .val (.ref b5), .val (.long f0), .second, .val (.long (s0.toInt64)), .second, .val (.long ((p0 &&& (2147483647 : Int32)).toInt64)), .second] [(.long f0)]))
    refine own_go (fun _ k => XS.lload X7.here hx rfl (hb hby at_81) rfl k) ?_
    show own_Ends _ _ _ _ (T7.setTop (mkF mM 83 #[.val (.int p0), .val (.int p1), .val (.int p2), .val (.int p3), .val (.int (p0 &&& (2147483647 : Int32))), .val (.int s0), .val (.ref c4), .val (.ref b5), .val (.long f0), .second, .val (.long (s0.toInt64)), .second, .val (.long ((p0 &&& (2147483647 : Int32)).toInt64)), .second] [(.long ((p0 &&& (2147483647 : Int32)).toInt64)), (.long f0)]))
    refine own_go (fun _ k => XS.lcmp X7.here hx rfl (hb hby at_83) rfl k) ?_
    show own_Ends _ _ _ _ (T7.setTop (mkF mM 84 #[.val (.int p0), .val (.int p1), .val (.int p2), .val (.int p3), .val (.int (p0 &&& (2147483647 : Int32))), .val (.int s0), .val (.ref c4), .val (.ref b5), .val (.long f0), .second, .val (.long (s0.toInt64)), .second, .val (.long ((p0 &&& (2147483647 : Int32)).toInt64)), .second] [(.int (lcmpW f0 ((p0 &&& (2147483647 : Int32)).toInt64)))]))
    refine own_go (fun _ k => XS.ifNo X7.here hx rfl (hb hby at_84) rfl ((if0 _ _).trans (flt (mt (lw_lt f0 ((p0 &&& (2147483647 : Int32)).toInt64)).mp hw2)).1) k) ?_
    show own_Ends _ _ _ _ (T7.setTop (mkF mM 87 #[.val (.int p0), .val (.int p1), .val (.int p2), .val (.int p3), .val (.int (p0 &&& (2147483647 : Int32))), .val (.int s0), .val (.ref c4), .val (.ref b5), .val (.long f0), .second, .val (.long (s0.toInt64)), .second, .val (.long ((p0 &&& (2147483647 : Int32)).toInt64)), .second] []))
    refine own_go (fun _ k => XS.lload X7.here hx rfl (hb hby at_87) rfl k) ?_
    show own_Ends _ _ _ _ (T7.setTop (mkF mM 89 #[.val (.int p0), .val (.int p1), .val (.int p2), .val (.int p3), .val (.int (p0 &&& (2147483647 : Int32))), .val (.int s0), .val (.ref c4), .val (.ref b5), .val (.long f0), .second, .val (.long (s0.toInt64)), .second, .val (.long ((p0 &&& (2147483647 : Int32)).toInt64)), .second] [(.long f0)]))
    refine own_go (fun _ k => XS.lload X7.here hx rfl (hb hby at_89) rfl k) ?_
    show own_Ends _ _ _ _ (T7.setTop (mkF mM 91 #[.val (.int p0), .val (.int p1), .val (.int p2), .val (.int p3), .val (.int (p0 &&& (2147483647 : Int32))), .val (.int s0), .val (.ref c4), .val (.ref b5), .val (.long f0), .second, .val (.long (s0.toInt64)), .second, .val (.long ((p0 &&& (2147483647 : Int32)).toInt64)), .second] [(.long (s0.toInt64)), (.long f0)]))
    refine own_go (fun _ k => XS.lsub X7.here hx rfl (hb hby at_91) rfl k) ?_
    show own_Ends _ _ _ _ (T7.setTop (mkF mM 92 #[.val (.int p0), .val (.int p1), .val (.int p2), .val (.int p3), .val (.int (p0 &&& (2147483647 : Int32))), .val (.int s0), .val (.ref c4), .val (.ref b5), .val (.long f0), .second, .val (.long (s0.toInt64)), .second, .val (.long ((p0 &&& (2147483647 : Int32)).toInt64)), .second] [(.long (f0 - (s0.toInt64)))]))
    refine own_go (fun _ k => XS.lload X7.here hx rfl (hb hby at_92) rfl k) ?_
    show own_Ends _ _ _ _ (T7.setTop (mkF mM 94 #[.val (.int p0), .val (.int p1), .val (.int p2), .val (.int p3), .val (.int (p0 &&& (2147483647 : Int32))), .val (.int s0), .val (.ref c4), .val (.ref b5), .val (.long f0), .second, .val (.long (s0.toInt64)), .second, .val (.long ((p0 &&& (2147483647 : Int32)).toInt64)), .second] [(.long ((p0 &&& (2147483647 : Int32)).toInt64)), (.long (f0 - (s0.toInt64)))]))
    refine own_go (fun _ k => XS.lcmp X7.here hx rfl (hb hby at_94) rfl k) ?_
    show own_Ends _ _ _ _ (T7.setTop (mkF mM 95 #[.val (.int p0), .val (.int p1), .val (.int p2), .val (.int p3), .val (.int (p0 &&& (2147483647 : Int32))), .val (.int s0), .val (.ref c4), .val (.ref b5), .val (.long f0), .second, .val (.long (s0.toInt64)), .second, .val (.long ((p0 &&& (2147483647 : Int32)).toInt64)), .second] [(.int (lcmpW (f0 - (s0.toInt64)) ((p0 &&& (2147483647 : Int32)).toInt64)))]))
    refine own_go (fun _ k => XS.ifNo X7.here hx rfl (hb hby at_95) rfl ((if0 _ _).trans (tlt ((lw_lt (f0 - (s0.toInt64)) ((p0 &&& (2147483647 : Int32)).toInt64)).mpr hw3)).2.1) k) ?_
    show own_Ends _ _ _ _ (T7.setTop (mkF mM 98 #[.val (.int p0), .val (.int p1), .val (.int p2), .val (.int p3), .val (.int (p0 &&& (2147483647 : Int32))), .val (.int s0), .val (.ref c4), .val (.ref b5), .val (.long f0), .second, .val (.long (s0.toInt64)), .second, .val (.long ((p0 &&& (2147483647 : Int32)).toInt64)), .second] []))
    refine own_go (fun _ k => XS.iconst X7.here hx rfl (hb hby at_98) k) ?_
    show own_Ends _ _ _ _ (T7.setTop (mkF mM 99 #[.val (.int p0), .val (.int p1), .val (.int p2), .val (.int p3), .val (.int (p0 &&& (2147483647 : Int32))), .val (.int s0), .val (.ref c4), .val (.ref b5), .val (.long f0), .second, .val (.long (s0.toInt64)), .second, .val (.long ((p0 &&& (2147483647 : Int32)).toInt64)), .second] [(.int (1 : Int32))]))
    refine own_go (fun _ k => XS.goto X7.here hx rfl (pc0 := 99) (pc' := 103) rfl (hb hby at_99) (by decide) (by decide) k) ?_
    show own_Ends _ _ _ _ (T7.setTop (mkF mM 103 #[.val (.int p0), .val (.int p1), .val (.int p2), .val (.int p3), .val (.int (p0 &&& (2147483647 : Int32))), .val (.int s0), .val (.ref c4), .val (.ref b5), .val (.long f0), .second, .val (.long (s0.toInt64)), .second, .val (.long ((p0 &&& (2147483647 : Int32)).toInt64)), .second] [(.int (1 : Int32))]))
    exact own_retZ X7 hx (BodyLoose.notSynchronized Bd) Bd.returns rfl (hb hby at_103) (by decide) (by decide) (by rw [e7]; exact ⟨rfl, N7⟩)
  · refine own_go (fun _ k => XS.ifNo X1.here hx rfl (hb hby at_19) rfl ((if0 _ _).trans (feq hc19_1).1) k) ?_
    show own_Ends _ _ _ _ (T1.setTop (mkF mM 22 #[.val (.int p0), .val (.int p1), .val (.int p2), .val (.int p3), .val (.int (p0 &&& (2147483647 : Int32))), .val (.int s0), .unset, .unset, .unset, .unset, .unset, .unset, .unset, .unset] []))
    refine own_go (fun _ k => XS.aconstNull X1.here hx rfl (hb hby at_22) k) ?_
    show own_Ends _ _ _ _ (T1.setTop (mkF mM 23 #[.val (.int p0), .val (.int p1), .val (.int p2), .val (.int p3), .val (.int (p0 &&& (2147483647 : Int32))), .val (.int s0), .unset, .unset, .unset, .unset, .unset, .unset, .unset, .unset] [.null]))
    refine own_go (fun _ k => XS.goto X1.here hx rfl (pc0 := 23) (pc' := 35) rfl (hb hby at_23) (by decide) (by decide) k) ?_
    show own_Ends _ _ _ _ (T1.setTop (mkF mM 35 #[.val (.int p0), .val (.int p1), .val (.int p2), .val (.int p3), .val (.int (p0 &&& (2147483647 : Int32))), .val (.int s0), .unset, .unset, .unset, .unset, .unset, .unset, .unset, .unset] [.null]))
    refine own_go (fun _ k => XS.astore X1.here hx rfl (hb hby at_35) rfl rfl (l' := #[.val (.int p0), .val (.int p1), .val (.int p2), .val (.int p3), .val (.int (p0 &&& (2147483647 : Int32))), .val (.int s0), .val .null, .unset, .unset, .unset, .unset, .unset, .unset, .unset]) rfl k) ?_
    show own_Ends _ _ _ _ (T1.setTop (mkF mM 37 #[.val (.int p0), .val (.int p1), .val (.int p2), .val (.int p3), .val (.int (p0 &&& (2147483647 : Int32))), .val (.int s0), .val .null, .unset, .unset, .unset, .unset, .unset, .unset, .unset] []))
    obtain ⟨T8, h8, X8, e8, E8, A8, D8, -, st8⟩ := newO X1 hx hZ hown (hw _ (List.mem_of_getElem? (i := 5) rfl)) (hw _ (List.mem_of_getElem? (i := 6) rfl)) (hw _ (List.mem_of_getElem? (i := 7) rfl)) e1 (g := (mkF mM 37 #[.val (.int p0), .val (.int p1), .val (.int p2), .val (.int p3), .val (.int (p0 &&& (2147483647 : Int32))), .val (.int s0), .val .null, .unset, .unset, .unset, .unset, .unset, .unset, .unset] [])) rfl (hb hby at_37) (by decide) (by decide)
    obtain ⟨b8, g8⟩ : ∃ z, z = h0.size := ⟨_, rfl⟩
    rw [← g8] at A8 D8 st8
    have O8 := O0.ext E8
    have g_b8 : n0 ≤ b8 := by rw [g8, ← O0.1]; exact O0.2.1
    have E_b8 : Exa Z h8 b8 "com/example/rulewright/rulewright/rules/Repetition" := A8
    have F_minimum_b8 : Fld Z h8 b8 "com/example/rulewright/rulewright/rules/Repetition" "minimum" "I" (.int (0 : Int32)) := D8 (Or.inr (hw _ (List.mem_of_getElem? (i := 20) rfl))) (ty := .int) (by decide)
    have F_maximum_b8 : Fld Z h8 b8 "com/example/rulewright/rulewright/rules/Repetition" "maximum" "Ljava/lang/Integer;" .null := D8 (Or.inr (hw _ (List.mem_of_getElem? (i := 22) rfl))) (ty := (.object "java/lang/Integer")) (by decide)
    have F_step_b8 : Fld Z h8 b8 "com/example/rulewright/rulewright/rules/Repetition" "step" "I" (.int (0 : Int32)) := D8 (Or.inr (hw _ (List.mem_of_getElem? (i := 24) rfl))) (ty := .int) (by decide)
    refine own_go st8 ?_
    show own_Ends _ _ _ _ (T8.setTop (mkF mM 40 #[.val (.int p0), .val (.int p1), .val (.int p2), .val (.int p3), .val (.int (p0 &&& (2147483647 : Int32))), .val (.int s0), .val .null, .unset, .unset, .unset, .unset, .unset, .unset, .unset] [(.ref b8)]))
    refine own_go (fun _ k => XS.dup X8.here hx rfl (hb hby at_40) rfl rfl k) ?_
    show own_Ends _ _ _ _ (T8.setTop (mkF mM 41 #[.val (.int p0), .val (.int p1), .val (.int p2), .val (.int p3), .val (.int (p0 &&& (2147483647 : Int32))), .val (.int s0), .val .null, .unset, .unset, .unset, .unset, .unset, .unset, .unset] [(.ref b8), (.ref b8)]))
    refine own_go (fun _ k => XS.iload X8.here hx rfl (hb hby at_41) rfl k) ?_
    show own_Ends _ _ _ _ (T8.setTop (mkF mM 43 #[.val (.int p0), .val (.int p1), .val (.int p2), .val (.int p3), .val (.int (p0 &&& (2147483647 : Int32))), .val (.int s0), .val .null, .unset, .unset, .unset, .unset, .unset, .unset, .unset] [(.int (p0 &&& (2147483647 : Int32))), (.ref b8), (.ref b8)]))
    refine own_go (fun _ k => XS.aload X8.here hx rfl (hb hby at_43) rfl rfl k) ?_
    show own_Ends _ _ _ _ (T8.setTop (mkF mM 45 #[.val (.int p0), .val (.int p1), .val (.int p2), .val (.int p3), .val (.int (p0 &&& (2147483647 : Int32))), .val (.int s0), .val .null, .unset, .unset, .unset, .unset, .unset, .unset, .unset] [.null, (.int (p0 &&& (2147483647 : Int32))), (.ref b8), (.ref b8)]))
    refine own_go (fun _ k => XS.iload X8.here hx rfl (hb hby at_45) rfl k) ?_
    show own_Ends _ _ _ _ (T8.setTop (mkF mM 47 #[.val (.int p0), .val (.int p1), .val (.int p2), .val (.int p3), .val (.int (p0 &&& (2147483647 : Int32))), .val (.int s0), .val .null, .unset, .unset, .unset, .unset, .unset, .unset, .unset] [(.int s0), .null, (.int (p0 &&& (2147483647 : Int32))), (.ref b8), (.ref b8)]))
    obtain ⟨_, _, ⟨T9, Lz9, kz9, nz9⟩, -, X9, ⟨Lc9, hQ9, l9, y9, z9⟩, st9⟩ := X8.specialBack hx (y := (⟨"com/example/rulewright/rulewright/rules/Repetition", "<init>", "(ILjava/lang/Integer;I)V"⟩ : MethodName)) rfl hown (mvT hZ (hw _ (List.mem_of_getElem? (i := 8) rfl))) (mvT hZ (hw _ (List.mem_of_getElem? (i := 9) rfl))) (mvT hZ (hw _ (List.mem_of_getElem? (i := 10) rfl))) (by decide) (backOf (W := 1) (own_rep1 l Z a0 hw [] b8 (p0 &&& (2147483647 : Int32)) s0 h8 n0 O8 g_b8 E_b8 F_minimum_b8 F_maximum_b8 F_step_b8 hm hs1) hZ (hw _ (List.mem_of_getElem? (i := 10) rfl)) (hw _ (List.mem_of_getElem? (i := 7) rfl)) (by decide) (by decide)) (g := (mkF mM 47 #[.val (.int p0), .val (.int p1), .val (.int p2), .val (.int p3), .val (.int (p0 &&& (2147483647 : Int32))), .val (.int s0), .val .null, .unset, .unset, .unset, .unset, .unset, .unset, .unset] [(.int s0), .null, (.int (p0 &&& (2147483647 : Int32))), (.ref b8), (.ref b8)])) rfl (by rw [hml]; rfl) (Steps.refl _) (a := b8) (argsL := [(.int (p0 &&& (2147483647 : Int32))), .null, (.int s0)]) (rest := [(.ref b8)]) (lenOf own_pd5 rfl) rfl (by show 2 * 0 + _ ≤ _; exact Nat.le_of_eq rfl) (hb hby at_47) (fun _ _ => ⟨rfl, e8, (by decide : 1 + 0 ≤ _), (by decide : 3 + 0 ≤ _)⟩)
    dsimp only [Pt.U, Pt.locs, Pt.cells, Pt.slots] at X9 l9 y9 z9 st9 hQ9
    subst l9 y9 z9
    obtain ⟨rfl, Nq9, K9, E_b8_9, F1_b8_9, F3_b8_9⟩ := hQ9
    have N9 := Fr.app N1 Nq9
    have O9 := O8.keep K9 (allS g_b8 all0)
    refine own_tr st9 ?_
    show own_Ends _ _ _ _ (T9.setTop (mkF mM 50 #[.val (.int p0), .val (.int p1), .val (.int p2), .val (.int p3), .val (.int (p0 &&& (2147483647 : Int32))), .val (.int s0), .val .null, .unset, .unset, .unset, .unset, .unset, .unset, .unset] [(.ref b8)]))
    refine own_go (fun _ k => XS.astore X9.here hx rfl (hb hby at_50) rfl rfl (l' := #[.val (.int p0), .val (.int p1), .val (.int p2), .val (.int p3), .val (.int (p0 &&& (2147483647 : Int32))), .val (.int s0), .val .null, .val (.ref b8), .unset, .unset, .unset, .unset, .unset, .unset]) rfl k) ?_
    show own_Ends _ _ _ _ (T9.setTop (mkF mM 52 #[.val (.int p0), .val (.int p1), .val (.int p2), .val (.int p3), .val (.int (p0 &&& (2147483647 : Int32))), .val (.int s0), .val .null, .val (.ref b8), .unset, .unset, .unset, .unset, .unset, .unset] []))
    refine own_go (fun _ k => XS.aload X9.here hx rfl (hb hby at_52) rfl rfl k) ?_
    show own_Ends _ _ _ _ (T9.setTop (mkF mM 54 #[.val (.int p0), .val (.int p1), .val (.int p2), .val (.int p3), .val (.int (p0 &&& (2147483647 : Int32))), .val (.int s0), .val .null, .val (.ref b8), .unset, .unset, .unset, .unset, .unset, .unset] [(.ref b8)]))
    obtain ⟨cq10, kq10, q10a, q10b, q10c⟩ := isOf hZ rfl E_b8_9
    obtain ⟨_, _, ⟨T10, Lz10, kz10, nz10⟩, -, X10, ⟨Lc10, hQ10, l10, y10, z10⟩, st10⟩ := X9.virtualBack hx (y := (⟨"com/example/rulewright/rulewright/rules/Repetition", "fewest", "()J"⟩ : MethodName)) (z := (⟨"com/example/rulewright/rulewright/rules/Repetition", "fewest", "()J"⟩ : MethodName)) hown (mvT hZ (hw _ (List.mem_of_getElem? (i := 25) rfl))) (mvT hZ (hw _ (List.mem_of_getElem? (i := 26) rfl))) (notFace_of_selects (args := #[]) (mvT hZ (hw _ (List.mem_of_getElem? (i := 28) rfl)))) (mvT hZ (hw _ (List.mem_of_getElem? (i := 28) rfl))) (mvT hZ (hw _ (List.mem_of_getElem? (i := 27) rfl))) (by decide) (backOf (W := 0) (own_fewest l Z a0 hw [] b8 (p0 &&& (2147483647 : Int32)) s0 f0 T9.heap n0 O9 F1_b8_9 F3_b8_9 hs1 hf0) hZ (hw _ (List.mem_of_getElem? (i := 29) rfl)) (hw _ (List.mem_of_getElem? (i := 7) rfl)) (by decide) (by decide)) q10a q10c (g := (mkF mM 54 #[.val (.int p0), .val (.int p1), .val (.int p2), .val (.int p3), .val (.int (p0 &&& (2147483647 : Int32))), .val (.int s0), .val .null, .val (.ref b8), .unset, .unset, .unset, .unset, .unset, .unset] [(.ref b8)])) rfl (by rw [hml]; rfl) (Steps.refl _) (argsL := []) (rest := []) (lenOf own_pd6 rfl) rfl (by show 2 * 0 + _ ≤ _; exact Nat.le_of_eq rfl) (hb hby at_54) (fun _ _ => ⟨rfl, rfl, (by decide : 1 + 0 ≤ _), (by decide : 3 + 0 ≤ _)⟩)
    dsimp only [Pt.U, Pt.locs, Pt.cells, Pt.slots] at X10 l10 y10 z10 st10 hQ10
    subst l10 y10 z10
    obtain ⟨rfl, Nq10, e10⟩ := hQ10
    have N10 := Fr.app N9 Nq10
    refine own_tr st10 ?_
    show own_Ends _ _ _ _ (T10.setTop (mkF mM 57 #[.val (.int p0), .val (.int p1), .val (.int p2), .val (.int p3), .val (.int (p0 &&& (2147483647 : Int32))), .val (.int s0), .val .null, .val (.ref b8), .unset, .unset, .unset, .unset, .unset, .unset] [(.long f0)]))
    refine own_go (fun _ k => XS.lstore X10.here hx rfl (hb hby at_57) rfl (l' := #[.val (.int p0), .val (.int p1), .val (.int p2), .val (.int p3), .val (.int (p0 &&& (2147483647 : Int32))), .val (.int s0), .val .null, .val (.ref b8), .val (.long f0), .second, .unset, .unset, .unset, .unset]) rfl k) ?_
    show own_Ends _ _ _ _ (T10.setTop (mkF mM 59 #[.val (.int p0), .val (.int p1), .val (.int p2), .val (.int p3), .val (.int (p0 &&& (2147483647 : Int32))), .val (.int s0), .val .null, .val (.ref b8), .val (.long f0), .second, .unset, .unset, .unset, .unset] []))
    refine own_go (fun _ k => XS.iload X10.here hx rfl (hb hby at_59) rfl k) ?_
    show own_Ends _ _ _ _ (T10.setTop (mkF mM 61 #[.val (.int p0), .val (.int p1), .val (.int p2), .val (.int p3), .val (.int (p0 &&& (2147483647 : Int32))), .val (.int s0), .val .null, .val (.ref b8), .val (.long f0), .second, .unset, .unset, .unset, .unset] [(.int s0)]))
    refine own_go (fun _ k => XS.i2l X10.here hx rfl (hb hby at_61) rfl k) ?_
    show own_Ends _ _ _ _ (T10.setTop (mkF mM 62 #[.val (.int p0), .val (.int p1), .val (.int p2), .val (.int p3), .val (.int (p0 &&& (2147483647 : Int32))), .val (.int s0), .val .null, .val (.ref b8), .val (.long f0), .second, .unset, .unset, .unset, .unset] [(.long (s0.toInt64))]))
    refine own_go (fun _ k => XS.lstore X10.here hx rfl (hb hby at_62) rfl (l' := #[.val (.int p0), .val (.int p1), .val (.int p2), .val (.int p3), .val (.int (p0 &&& (2147483647 : Int32))), .val (.int s0), .val .null, .val (.ref b8), .val (.long f0), .second, .val (.long (s0.toInt64)), .second, .unset, .unset]) rfl k) ?_
    show own_Ends _ _ _ _ (T10.setTop (mkF mM 64 #[.val (.int p0), .val (.int p1), .val (.int p2), .val (.int p3), .val (.int (p0 &&& (2147483647 : Int32))), .val (.int s0), .val .null, .val (.ref b8), .val (.long f0), .second, .val (.long (s0.toInt64)), .second, .unset, .unset] []))
    refine own_go (fun _ k => XS.iload X10.here hx rfl (hb hby at_64) rfl k) ?_
    show own_Ends _ _ _ _ (T10.setTop (mkF mM 66 #[.val (.int p0), .val (.int p1), .val (.int p2), .val (.int p3), .val (.int (p0 &&& (2147483647 : Int32))), .val (.int s0), .val .null, .val (.ref b8), .val (.long f0), .second, .val (.long (s0.toInt64)), .second, .unset, .unset] [(.int (p0 &&& (2147483647 : Int32)))]))
    refine own_go (fun _ k => XS.i2l X10.here hx rfl (hb hby at_66) rfl k) ?_
    show own_Ends _ _ _ _ (T10.setTop (mkF mM 67 #[.val (.int p0), .val (.int p1), .val (.int p2), .val (.int p3), .val (.int (p0 &&& (2147483647 : Int32))), .val (.int s0), .val .null, .val (.ref b8), .val (.long f0), .second, .val (.long (s0.toInt64)), .second, .unset, .unset] [(.long ((p0 &&& (2147483647 : Int32)).toInt64))]))
    refine own_go (fun _ k => XS.lstore X10.here hx rfl (hb hby at_67) rfl (l' := #[.val (.int p0), .val (.int p1), .val (.int p2), .val (.int p3), .val (.int (p0 &&& (2147483647 : Int32))), .val (.int s0), .val .null, .val (.ref b8), .val (.long f0), .second, .val (.long (s0.toInt64)), .second, .val (.long ((p0 &&& (2147483647 : Int32)).toInt64)), .second]) rfl k) ?_
    show own_Ends _ _ _ _ (T10.setTop (mkF mM 69 #[.val (.int p0), .val (.int p1), .val (.int p2), .val (.int p3), .val (.int (p0 &&& (2147483647 : Int32))), .val (.int s0), .val .null, .val (.ref b8), .val (.long f0), .second, .val (.long (s0.toInt64)), .second, .val (.long ((p0 &&& (2147483647 : Int32)).toInt64)), .second] []))
    refine own_go (fun _ k => XS.lload X10.here hx rfl (hb hby at_69) rfl k) ?_
    show own_Ends _ _ _ _ (T10.setTop (mkF mM 71 #[.val (.int p0), .val (.int p1), .val (.int p2), .val (.int p3), .val (.int (p0 &&& (2147483647 : Int32))), .val (.int s0), .val .null, .val (.ref b8), .val (.long f0), .second, .val (.long (s0.toInt64)), .second, .val (.long ((p0 &&& (2147483647 : Int32)).toInt64)), .second] [(.long f0)]))
    refine own_go (fun _ k => XS.lload X10.here hx rfl (hb hby at_71) rfl k) ?_
    show own_Ends _ _ _ _ (T10.setTop (mkF mM 73 #[.val (.int p0), .val (.int p1), .val (.int p2), .val (.int p3), .val (.int (p0 &&& (2147483647 : Int32))), .val (.int s0), .val .null, .val (.ref b8), .val (.long f0), .second, .val (.long (s0.toInt64)), .second, .val (.long ((p0 &&& (2147483647 : Int32)).toInt64)), .second] [(.long (s0.toInt64)), (.long f0)]))
    refine own_go (fun _ k => XS.lrem X10.here hx rfl (hb hby at_73) rfl (own_nz s0 hs1) k) ?_
    show own_Ends _ _ _ _ (T10.setTop (mkF mM 74 #[.val (.int p0), .val (.int p1), .val (.int p2), .val (.int p3), .val (.int (p0 &&& (2147483647 : Int32))), .val (.int s0), .val .null, .val (.ref b8), .val (.long f0), .second, .val (.long (s0.toInt64)), .second, .val (.long ((p0 &&& (2147483647 : Int32)).toInt64)), .second] [(.long (f0 - (f0 / (s0.toInt64)) * (s0.toInt64)))]))
    refine own_go (fun _ k => XS.lconst X10.here hx rfl (hb hby at_74) k) ?_
    show own_Ends _ _ _ _ (T10.setTop (mkF mM 75 #[.val (.int p0), .val (.int p1), .val (.int p2), .val (.int p3), .val (.int (p0 &&& (2147483647 : Int32))), .val (.int s0), .val .null, .val (.ref b8), .val (.long f0), .second, .val (.long (s0.toInt64)), .second, .val (.long ((p0 &&& (2147483647 : Int32)).toInt64)), .second] [(.long (0 : Int64)), (.long (f0 - (f0 / (s0.toInt64)) * (s0.toInt64)))]))
    refine own_go (fun _ k => XS.lcmp X10.here hx rfl (hb hby at_75) rfl k) ?_
    show own_Ends _ _ _ _ (T10.setTop (mkF mM 76 #[.val (.int p0), .val (.int p1), .val (.int p2), .val (.int p3), .val (.int (p0 &&& (2147483647 : Int32))), .val (.int s0), .val .null, .val (.ref b8), .val (.long f0), .second, .val (.long (s0.toInt64)), .second, .val (.long ((p0 &&& (2147483647 : Int32)).toInt64)), .second] [(.int (lcmpW (f0 - (f0 / (s0.toInt64)) * (s0.toInt64)) (0 : Int64)))]))
    refine own_go (fun _ k => XS.ifNo X10.here hx rfl (hb hby at_76) rfl ((if0 _ _).trans (teq ((lw_eq (f0 - (f0 / (s0.toInt64)) * (s0.toInt64)) (0 : Int64)).mpr hw1)).2) k) ?_
    show own_Ends _ _ _ _ (T10.setTop (mkF mM 79 #[.val (.int p0), .val (.int p1), .val (.int p2), .val (.int p3), .val (.int (p0 &&& (2147483647 : Int32))), .val (.int s0), .val .null, .val (.ref b8), .val (.long f0), .second, .val (.long (s0.toInt64)), .second, .val (.long ((p0 &&& (2147483647 : Int32)).toInt64)), .second] []))
    refine own_go (fun _ k => XS.lload X10.here hx rfl (hb hby at_79) rfl k) ?_
    show own_Ends _ _ _ _ (T10.setTop (mkF mM 81 #[.val (.int p0), .val (.int p1), .val (.int p2), .val (.int p3), .val (.int (p0 &&& (2147483647 : Int32))), .val (.int s0), .val .null, .val (.ref b8), .val (.long f0), .second, .val (.long (s0.toInt64)), .second, .val (.long ((p0 &&& (2147483647 : Int32)).toInt64)), .second] [(.long f0)]))
    refine own_go (fun _ k => XS.lload X10.here hx rfl (hb hby at_81) rfl k) ?_
    show own_Ends _ _ _ _ (T10.setTop (mkF mM 83 #[.val (.int p0), .val (.int p1), .val (.int p2), .val (.int p3), .val (.int (p0 &&& (2147483647 : Int32))), .val (.int s0), .val .null, .val (.ref b8), .val (.long f0), .second, .val (.long (s0.toInt64)), .second, .val (.long ((p0 &&& (2147483647 : Int32)).toInt64)), .second] [(.long ((p0 &&& (2147483647 : Int32)).toInt64)), (.long f0)]))
    refine own_go (fun _ k => XS.lcmp X10.here hx rfl (hb hby at_83) rfl k) ?_
    show own_Ends _ _ _ _ (T10.setTop (mkF mM 84 #[.val (.int p0), .val (.int p1), .val (.int p2), .val (.int p3), .val (.int (p0 &&& (2147483647 : Int32))), .val (.int s0), .val .null, .val (.ref b8), .val (.long f0), .second, .val (.long (s0.toInt64)), .second, .val (.long ((p0 &&& (2147483647 : Int32)).toInt64)), .second] [(.int (lcmpW f0 ((p0 &&& (2147483647 : Int32)).toInt64)))]))
    refine own_go (fun _ k => XS.ifNo X10.here hx rfl (hb hby at_84) rfl ((if0 _ _).trans (flt (mt (lw_lt f0 ((p0 &&& (2147483647 : Int32)).toInt64)).mp hw2)).1) k) ?_
    show own_Ends _ _ _ _ (T10.setTop (mkF mM 87 #[.val (.int p0), .val (.int p1), .val (.int p2), .val (.int p3), .val (.int (p0 &&& (2147483647 : Int32))), .val (.int s0), .val .null, .val (.ref b8), .val (.long f0), .second, .val (.long (s0.toInt64)), .second, .val (.long ((p0 &&& (2147483647 : Int32)).toInt64)), .second] []))
    refine own_go (fun _ k => XS.lload X10.here hx rfl (hb hby at_87) rfl k) ?_
    show own_Ends _ _ _ _ (T10.setTop (mkF mM 89 #[.val (.int p0), .val (.int p1), .val (.int p2), .val (.int p3), .val (.int (p0 &&& (2147483647 : Int32))), .val (.int s0), .val .null, .val (.ref b8), .val (.long f0), .second, .val (.long (s0.toInt64)), .second, .val (.long ((p0 &&& (2147483647 : Int32)).toInt64)), .second] [(.long f0)]))
    refine own_go (fun _ k => XS.lload X10.here hx rfl (hb hby at_89) rfl k) ?_
    show own_Ends _ _ _ _ (T10.setTop (mkF mM 91 #[.val (.int p0), .val (.int p1), .val (.int p2), .val (.int p3), .val (.int (p0 &&& (2147483647 : Int32))), .val (.int s0), .val .null, .val (.ref b8), .val (.long f0), .second, .val (.long (s0.toInt64)), .second, .val (.long ((p0 &&& (2147483647 : Int32)).toInt64)), .second] [(.long (s0.toInt64)), (.long f0)]))
    refine own_go (fun _ k => XS.lsub X10.here hx rfl (hb hby at_91) rfl k) ?_
    show own_Ends _ _ _ _ (T10.setTop (mkF mM 92 #[.val (.int p0), .val (.int p1), .val (.int p2), .val (.int p3), .val (.int (p0 &&& (2147483647 : Int32))), .val (.int s0), .val .null, .val (.ref b8), .val (.long f0), .second, .val (.long (s0.toInt64)), .second, .val (.long ((p0 &&& (2147483647 : Int32)).toInt64)), .second] [(.long (f0 - (s0.toInt64)))]))
    refine own_go (fun _ k => XS.lload X10.here hx rfl (hb hby at_92) rfl k) ?_
    show own_Ends _ _ _ _ (T10.setTop (mkF mM 94 #[.val (.int p0), .val (.int p1), .val (.int p2), .val (.int p3), .val (.int (p0 &&& (2147483647 : Int32))), .val (.int s0), .val .null, .val (.ref b8), .val (.long f0), .second, .val (.long (s0.toInt64)), .second, .val (.long ((p0 &&& (2147483647 : Int32)).toInt64)), .second] [(.long ((p0 &&& (2147483647 : Int32)).toInt64)), (.long (f0 - (s0.toInt64)))]))
    refine own_go (fun _ k => XS.lcmp X10.here hx rfl (hb hby at_94) rfl k) ?_
    show own_Ends _ _ _ _ (T10.setTop (mkF mM 95 #[.val (.int p0), .val (.int p1), .val (.int p2), .val (.int p3), .val (.int (p0 &&& (2147483647 : Int32))), .val (.int s0), .val .null, .val (.ref b8), .val (.long f0), .second, .val (.long (s0.toInt64)), .second, .val (.long ((p0 &&& (2147483647 : Int32)).toInt64)), .second] [(.int (lcmpW (f0 - (s0.toInt64)) ((p0 &&& (2147483647 : Int32)).toInt64)))]))
    refine own_go (fun _ k => XS.ifNo X10.here hx rfl (hb hby at_95) rfl ((if0 _ _).trans (tlt ((lw_lt (f0 - (s0.toInt64)) ((p0 &&& (2147483647 : Int32)).toInt64)).mpr hw3)).2.1) k) ?_
    show own_Ends _ _ _ _ (T10.setTop (mkF mM 98 #[.val (.int p0), .val (.int p1), .val (.int p2), .val (.int p3), .val (.int (p0 &&& (2147483647 : Int32))), .val (.int s0), .val .null, .val (.ref b8), .val (.long f0), .second, .val (.long (s0.toInt64)), .second, .val (.long ((p0 &&& (2147483647 : Int32)).toInt64)), .second] []))
    refine own_go (fun _ k => XS.iconst X10.here hx rfl (hb hby at_98) k) ?_
    show own_Ends _ _ _ _ (T10.setTop (mkF mM 99 #[.val (.int p0), .val (.int p1), .val (.int p2), .val (.int p3), .val (.int (p0 &&& (2147483647 : Int32))), .val (.int s0), .val .null, .val (.ref b8), .val (.long f0), .second, .val (.long (s0.toInt64)), .second, .val (.long ((p0 &&& (2147483647 : Int32)).toInt64)), .second] [(.int (1 : Int32))]))
    refine own_go (fun _ k => XS.goto X10.here hx rfl (pc0 := 99) (pc' := 103) rfl (hb hby at_99) (by decide) (by decide) k) ?_
    show own_Ends _ _ _ _ (T10.setTop (mkF mM 103 #[.val (.int p0), .val (.int p1), .val (.int p2), .val (.int p3), .val (.int (p0 &&& (2147483647 : Int32))), .val (.int s0), .val .null, .val (.ref b8), .val (.long f0), .second, .val (.long (s0.toInt64)), .second, .val (.long ((p0 &&& (2147483647 : Int32)).toInt64)), .second] [(.int (1 : Int32))]))
    exact own_retZ X10 hx (BodyLoose.notSynchronized Bd) Bd.returns rfl (hb hby at_103) (by decide) (by decide) (by rw [e10]; exact ⟨rfl, N10⟩)
theorem own_cache {Z : State} {av : Array Value} {t : Term} {a : Addr} {cl : Cell} {ty : FieldType} (ev : ∀ idx, t.eval av Z none idx Z = some (.ref a)) (A : Arr Z Z.heap a cl ty) (hsz : cl.slots.size = (256 : Int32).toNatClampNeg)
    (h : (Jvm.Cond.all t (.and (.exactly (.elem t (.index 0)) "java/lang/Integer") (.eq (.field (.elem t (.index 0)) "java/lang/Integer" "value" "I") (.sub (.index 0) (.int 128))))).value av Z none Z [] = some true) (p : Int32) (h1 : ¬ p < (-128 : Int32)) (h2 : ¬ (127 : Int32) < p) :
    ∃ x : Addr, cl.slots[(p + (128 : Int32)).toNatClampNeg]? = some (.ref x) ∧ Exa Z Z.heap x "java/lang/Integer" ∧ Fld Z Z.heap x "java/lang/Integer" "value" "I" (.int p) := by
  obtain ⟨k1, k2, k3⟩ := own_place p h1 h2
  have hin := inb_of hsz ⟨k1, k2⟩
  have ha : Z.arrayAt? a = some cl := A.fin (State.Warmed39.refl Z).alike
  obtain ⟨g1, g2⟩ := and_e (Cond.all_elim (ev []) ha h _ (Nat.lt_of_not_le fun q => hin (Or.inr q)))
  obtain ⟨x, ex⟩ := exa_v g1
  have hj := idx_at (args := av) (s := Z) (first := Z) (o := none) k1
  obtain ⟨-, hat⟩ := elem_in ex (ev _) hj A.1
  obtain ⟨u, w, eu, ew, q1, q2⟩ := cmp_v (Or.inl g2)
  have es : (Term.sub (.index 0) (.int 128)).eval av Z none [(p + (128 : Int32)).toNatClampNeg] Z = some (.int ((p + (128 : Int32)) - (128 : Int32))) := by simp [Term.eval, (back32 k1).1]
  rw [k3] at es
  cases es.symm.trans ew
  obtain ⟨z, rfl⟩ := q2
  obtain rfl : z = p := gotT (Cond.eq_ints eu es) g2
  exact ⟨x, hat, exa_at ex g1, Fld.start ((fld_at ex).symm.trans eu)⟩
theorem own_len {Z : State} {av : Array Value} {t : Term} {a : Addr} {cl : Cell} {ty : FieldType} {k : Int32} (ev : t.eval av Z none [] Z = some (.ref a)) (A : Arr Z Z.heap a cl ty) (h : (Jvm.Cond.eq (.length t) (.int k)).value av Z none Z [] = some true) : cl.slots.size < 2 ^ 31 ∧ cl.slots.size.toInt32 = k := by
  have e := own_staI h
  have ha : Z.arrayAt? a = some cl := A.fin (State.Warmed39.refl Z).alike
  simp [Term.eval, ev, ha] at e
  exact e
theorem own_elem {Z : State} {av : Array Value} {t u : Term} {a b : Addr} {cl : Cell} {ty : FieldType} {j : Int32} (ev : t.eval av Z none [] Z = some (.ref a)) (A : Arr Z Z.heap a cl ty) (eu : u.eval av Z none [] Z = some (.ref b)) (h : (Jvm.Cond.eq (.elem t (.int j)) u).value av Z none Z [] = some true) : cl.slots[j.toNatClampNeg]? = some (.ref b) := by
  obtain ⟨x, y, ex, ey, k1, k2⟩ := cmp_v (Or.inl h)
  cases eu.symm.trans ey
  obtain ⟨hx1, hx2⟩ := elem_in ex ev (Term.int_eval j) A.1
  have q := gotT (eq_R ex eu k2.2 rfl) h
  rw [← q]; exact hx2
set_option maxRecDepth 65536 in
set_option maxHeartbeats 40000000 in
theorem comes_1 {Post : Tables → Env → Array Value → State → Outcome → State → Prop} (hpost : ∀ tb e args s v u, (limb_1_1.after args s (.returned v) u = true ∧ limb_1_2.after args s (.returned v) u = true ∧ True) → FrameEnd s (.returned v) u (Jvm.fieldLocs frame_1_writes args s ++ Jvm.arrayLocs frame_1_arrays args s ++ Jvm.staticLocs frame_1_statics s) 16 128 → Post tb e args s (.returned v) u) :
    ArmFor flags0 classFile x code maxLocals ret World_1 tables_1 room_1 Calls_1 rest_1 Pre_1 Post := by
  intro l hfl _ _ p e ha hc hk s m args below hf hA hF happ hP
  obtain ⟨hcalls, hrest, hpre⟩ := hP
  obtain ⟨-, -, -, hnamed, -, -, -, hat⟩ := (Spec.applies_iff hf).mp happ
  obtain ⟨hg, hn⟩ := and_e (Cond.before_iff.mp (show (Jvm.Cond.and given_1 narrow_1).before args s = true from hpre))
  obtain ⟨hg0, hr0⟩ := and_e hg
  obtain ⟨hg1, hr1⟩ := and_e hr0
  obtain ⟨hg2, hr2⟩ := and_e hr1
  obtain ⟨hg3, hg4⟩ := and_e hr2
  obtain ⟨w0, w1, w2, w3, rfl⟩ : ∃ w0 w1 w2 w3 : Value, args = #[w0, w1, w2, w3] := by
    have hs : args.size = 4 := by simpa [Cond.value, given_1] using hg0
    obtain ⟨L⟩ := args
    match L, hs with
    | [w0, w1, w2, w3], _ => exact ⟨w0, w1, w2, w3, rfl⟩
  have hw := fun d (hd : d ∈ tables_1) => atoms_spec (ws := Jvm.Cond.code x code maxLocals ret :: tables_1) hat d (List.mem_cons_of_mem _ hd)
  have hfit : Fit s := fun {y c} hc i hi => by
    obtain ⟨ha, rfl⟩ := Array.getElem?_eq_some_iff.mp hc
    have q := List.all_eq_true.mp ((Array.all_eq_true_iff_forall_mem.mp hF) _ (Array.getElem_mem ha)) i (List.mem_range.mpr hi)
    simpa [Array.getElem?_eq_getElem hi] using q
  obtain ⟨hsets, hown0⟩ := atoms_of _ (rest_1_c_eq ▸ (show rest_1_c.before _ s = true from hrest))
  obtain ⟨i0, ei0⟩ := is_v hg1
  obtain rfl : w0 = (.int i0) := Option.some.inj ei0
  obtain ⟨i1, ei1⟩ := is_v hg2
  obtain rfl : w1 = (.int i1) := Option.some.inj ei1
  obtain ⟨i2, ei2⟩ := is_v hg3
  obtain rfl : w2 = (.int i2) := Option.some.inj ei2
  obtain ⟨i3, ei3⟩ := is_v hg4
  obtain rfl : w3 = (.int i3) := Option.some.inj ei3
  have hj3 := Cond.before_iff.mp (hsets _ (List.mem_of_getElem? (i := 3) rfl))
  have S_high : Sta s s.heap "java/lang/Integer$IntegerCache" "high" "I" (.int (127 : Int32)) := Sta.start (own_staI hj3) (Or.inl (hsets _ (List.mem_of_getElem? (i := 1) rfl)))
  have hj4 := Cond.before_iff.mp (hsets _ (List.mem_of_getElem? (i := 4) rfl))
  have hj5 := Cond.before_iff.mp (hsets _ (List.mem_of_getElem? (i := 5) rfl))
  obtain ⟨a_cache, ev_cache⟩ := exa_v hj5
  have S_cache : Sta s s.heap "java/lang/Integer$IntegerCache" "cache" "[Ljava/lang/Integer;" (.ref a_cache) := Sta.start ev_cache (Or.inr ⟨(hw _ (List.mem_of_getElem? (i := 35) rfl)), hsets _ (List.mem_of_getElem? (i := 2) rfl)⟩)
  have E_cache : Exa s s.heap a_cache "[Ljava/lang/Integer;" := Exa.start ev_cache hj5
  have hj6 := Cond.before_iff.mp (hsets _ (List.mem_of_getElem? (i := 6) rfl))
  have hj7 := Cond.before_iff.mp (hsets _ (List.mem_of_getElem? (i := 7) rfl))
  obtain ⟨cl, Aa⟩ := Arr.start ev_cache hj4
  obtain ⟨hsz, hlen⟩ := own_len ev_cache Aa hj6
  have hsz2 : cl.slots.size = (256 : Int32).toNatClampNeg := by rw [← hlen]; simp only [Int32.toNatClampNeg, len_toInt hsz]; rfl
  have hcc := And.intro Aa (And.intro hsz2 (own_cache (fun _ => ev_cache) Aa hsz2 hj7))
  obtain ⟨n, o, h1, h2, h3, _, L, rfl, ⟨rfl, N⟩, hq⟩ := own_law l s _ hw tables_1 i0 i1 i2 i3 a_cache cl s.heap s.heap.size (Old.start s) S_high S_cache hcc p e ha hc hk s m _ below hf ((Spec.applies_iff_loose hf).mp happ).1 ⟨rfl, State.Warmed39.refl s, rfl⟩ trivial
  refine ⟨n, _, h1, h2, h3, hpost _ _ _ _ _ _ ⟨Cond.after_iff.mpr rfl, Cond.after_iff.mpr (eq_i res_at (Term.int_eval (1)) rfl), trivial⟩ ⟨hq.1, hq.2.1, (hq.2.2.sift fun y hy => Or.inr (N y hy)).mono (by decide) (by decide)⟩⟩
theorem main_1_1 : Claimed_1_1 := comes_1 fun _ _ _ _ _ _ h hF => ⟨h.1, hF⟩
theorem main_1_2 : Claimed_1_2 := comes_1 fun _ _ _ _ _ _ h hF => ⟨h.2.1, hF⟩
end Jvm.Pilot.@@N@@
namespace Jvm.Pilot.@@N@@
open Jvm Jvm.ClassFile Sem Op Lib Jvm.Free Jvm.Stand Jvm.Pilot.@@N@@.Jvm.D
/-! MADE BY PROGRAM (witnessworld.py) out of the Statement's table words and the real class files: 18 classes; the members and pool entries that the words name. The judged class is class 1, her method 1. -/
namespace start1
open Jvm.ClassFile
def u (s : String) : CpInfo := .utf8 (stringToUtf16 s)
/-- a pool by its gaps: so many unusable entries, then the entry; so many at the end -/
def gap : Nat → List CpInfo → List CpInfo
  | 0, r => r
  | n + 1, r => .unusable :: gap n r
def poolList (es : List (Nat × CpInfo)) (last : Nat) : List CpInfo := es.foldr (fun e r => gap e.1 (e.2 :: r)) (gap last [])
def pool (es : List (Nat × CpInfo)) (last : Nat) : Array CpInfo := ⟨poolList es last⟩
def fileOf (pool : Array CpInfo) (this : Nat) (attrs : Array Attribute := #[]) (ms : Array MethodInfo := #[]) (fl : Nat := 33) (sup : Nat := 0) (ifs : Array Nat := #[]) (fds : Array FieldInfo := #[]) : ClassFile where
  minorVersion := 0
  majorVersion := 65
  constantPool := pool
  accessFlags := fl
  thisClass := this
  superClass := sup
  interfaces := ifs
  fields := fds
  methods := ms
  attributes := attrs
def plain (name : String) (sup : Option ClassId) : Class where
  name := name
  kind := .ordinary
  loader := none
  accessFlags := 33
  super := sup
  interfaces := #[]
  cf := none
  fields := #[]
  methods := #[]
  instanceTypes := #[]
  staticTypes := #[]
  resolved := #[]
  callSites := []
  init := .initialized
  statics := none
  mirror := none

def pool0 : Array CpInfo := pool [(5, u "<init>"), (0, u "()V"), (1, .class_ 10), (1, u "java/lang/Object")] 113

def k0c0 : Code := { maxStack := 0, maxLocals := 1, code := object_method_1_code, exceptionTable := #[], attributes := #[] }
def k0m0 : Method := { name := "<init>", desc := "()V", sig := { parameters := [], returnType := none }, accessFlags := 1, code := some k0c0 }
/-- java/lang/Object -/
def k0 : Class := { plain "java/lang/Object" none with
  accessFlags := 33
  interfaces := #[]
  cf := some (fileOf pool0 8 #[] #[{ accessFlags := 1, nameIndex := 5, descriptorIndex := 6, attributes := #[] }] 33 0 #[] #[])
  fields := #[]
  methods := #[k0m0]
  instanceTypes := #[]
  staticTypes := #[]
  resolved := Array.replicate 124 none
  statics := none }

def pool1 : Array CpInfo := pool [(2, .class_ 4), (1, u "java/lang/Object"), (0, u "<init>"), (0, u "()V"), (0, .integer 2147483647), (0, .methodref 9 10), (0, .class_ 11), (0, .nameAndType 12 13), (0, u "java/lang/Math"), (0, u "max"), (0, u "(II)I"), (0, .methodref 15 16), (0, .class_ 17), (0, .nameAndType 18 19), (0, u "java/lang/Integer"), (0, u "valueOf"), (0, u "(I)Ljava/lang/Integer;"), (0, .class_ 21), (0, u "com/example/rulewright/rulewright/rules/Repetition"), (0, .methodref 20 23), (0, .nameAndType 5 24), (0, u "(ILjava/lang/Integer;I)V"), (0, .methodref 20 26), (0, .nameAndType 27 28), (0, u "fewest"), (0, u "()J"), (0, .class_ 30), (0, u "com/example/rulewright/rulewright/rules/RepetitionFewestPinLaw"), (2, u "law"), (0, u "(IIII)Z")] 3

def k1m0 : Method := { name := "<init>", desc := "()V", sig := { parameters := [], returnType := none }, accessFlags := 1, code := none }
def k1c1 : Code := { maxStack := 5, maxLocals := 14, code := code, exceptionTable := #[], attributes := #[] }
def k1m1 : Method := { name := "law", desc := "(IIII)Z", sig := { parameters := [.int, .int, .int, .int], returnType := some .boolean }, accessFlags := 9, code := some k1c1 }
/-- com/example/rulewright/rulewright/rules/RepetitionFewestPinLaw -/
def k1 : Class := { plain "com/example/rulewright/rulewright/rules/RepetitionFewestPinLaw" (some 0) with
  accessFlags := 49
  interfaces := #[]
  cf := some (fileOf pool1 29 #[] #[{ accessFlags := 1, nameIndex := 5, descriptorIndex := 6, attributes := #[] }, { accessFlags := 9, nameIndex := 33, descriptorIndex := 34, attributes := #[] }] 49 2 #[] #[])
  fields := #[]
  methods := #[k1m0, k1m1]
  instanceTypes := #[]
  staticTypes := #[]
  resolved := Array.replicate 38 none
  statics := none }

def pool2 : Array CpInfo := pool [(1, .class_ 2), (0, u "java/lang/Math"), (1, .class_ 6), (1, u "java/lang/Object"), (0, u "<init>"), (0, u "()V"), (89, .class_ 100), (1, u "java/lang/Math$RandomNumberGeneratorHolder"), (71, u "negativeZeroFloatBits"), (0, u "J"), (2, u "negativeZeroDoubleBits"), (21, u "max"), (46, u "$assertionsDisabled"), (0, u "Z"), (88, u "(II)I"), (2, u "twoToTheDoubleScaleDown"), (0, u "D"), (4, u "twoToTheDoubleScaleUp"), (9, u "E"), (3, u "PI"), (2, u "TAU"), (2, u "DEGREES_TO_RADIANS"), (0, u "RADIANS_TO_DEGREES")] 94

def k2m0 : Method := { name := "<init>", desc := "()V", sig := { parameters := [], returnType := none }, accessFlags := 2, code := none }
def k2c1 : Code := { maxStack := 2, maxLocals := 2, code := jdk_29_method_65_code, exceptionTable := #[], attributes := #[] }
def k2m1 : Method := { name := "max", desc := "(II)I", sig := { parameters := [.int, .int], returnType := some .int }, accessFlags := 9, code := some k2c1 }
/-- java/lang/Math -/
def k2 : Class := { plain "java/lang/Math" (some 0) with
  accessFlags := 49
  interfaces := #[]
  cf := some (fileOf pool2 1 #[.nestMembers #[98]] #[{ accessFlags := 2, nameIndex := 7, descriptorIndex := 8, attributes := #[] }, { accessFlags := 9, nameIndex := 198, descriptorIndex := 335, attributes := #[] }] 49 4 #[] #[{ accessFlags := 25, nameIndex := 354, descriptorIndex := 339, attributes := #[] }, { accessFlags := 25, nameIndex := 358, descriptorIndex := 339, attributes := #[] }, { accessFlags := 25, nameIndex := 361, descriptorIndex := 339, attributes := #[] }, { accessFlags := 26, nameIndex := 364, descriptorIndex := 339, attributes := #[] }, { accessFlags := 26, nameIndex := 365, descriptorIndex := 339, attributes := #[] }, { accessFlags := 26, nameIndex := 172, descriptorIndex := 173, attributes := #[] }, { accessFlags := 26, nameIndex := 176, descriptorIndex := 173, attributes := #[] }, { accessFlags := 8, nameIndex := 344, descriptorIndex := 339, attributes := #[] }, { accessFlags := 8, nameIndex := 338, descriptorIndex := 339, attributes := #[] }, { accessFlags := 4120, nameIndex := 245, descriptorIndex := 246, attributes := #[] }])
  fields := #[{ name := "E", type := .double, accessFlags := 25, slot := 0, constantValue := 0 }, { name := "PI", type := .double, accessFlags := 25, slot := 1, constantValue := 0 }, { name := "TAU", type := .double, accessFlags := 25, slot := 2, constantValue := 0 }, { name := "DEGREES_TO_RADIANS", type := .double, accessFlags := 26, slot := 3, constantValue := 0 }, { name := "RADIANS_TO_DEGREES", type := .double, accessFlags := 26, slot := 4, constantValue := 0 }, { name := "negativeZeroFloatBits", type := .long, accessFlags := 26, slot := 5, constantValue := 0 }, { name := "negativeZeroDoubleBits", type := .long, accessFlags := 26, slot := 6, constantValue := 0 }, { name := "twoToTheDoubleScaleUp", type := .double, accessFlags := 8, slot := 7, constantValue := 0 }, { name := "twoToTheDoubleScaleDown", type := .double, accessFlags := 8, slot := 8, constantValue := 0 }, { name := "$assertionsDisabled", type := .boolean, accessFlags := 4120, slot := 9, constantValue := 0 }]
  methods := #[k2m0, k2m1]
  instanceTypes := #[]
  staticTypes := #[.double, .double, .double, .double, .double, .long, .long, .double, .double, .boolean]
  resolved := Array.replicate 460 none
  statics := none }

def pool3 : Array CpInfo := pool [(1, .methodref 2 3), (0, .class_ 4), (0, .nameAndType 5 6), (0, u "java/lang/Object"), (0, u "<init>"), (0, u "()V"), (0, .class_ 8), (0, u "java/lang/Record")] 13

def k3c0 : Code := { maxStack := 1, maxLocals := 1, code := jdk_30_method_1_code, exceptionTable := #[], attributes := #[] }
def k3m0 : Method := { name := "<init>", desc := "()V", sig := { parameters := [], returnType := none }, accessFlags := 4, code := some k3c0 }
/-- java/lang/Record -/
def k3 : Class := { plain "java/lang/Record" (some 0) with
  accessFlags := 1057
  interfaces := #[]
  cf := some (fileOf pool3 7 #[] #[{ accessFlags := 4, nameIndex := 5, descriptorIndex := 6, attributes := #[] }] 1057 2 #[] #[])
  fields := #[]
  methods := #[k3m0]
  instanceTypes := #[]
  staticTypes := #[]
  resolved := Array.replicate 22 none
  statics := none }

def pool4 : Array CpInfo := pool [(1, .methodref 2 3), (0, .class_ 4), (0, .nameAndType 5 6), (0, u "java/lang/Record"), (0, u "<init>"), (0, u "()V"), (0, .methodref 8 9), (0, .class_ 10), (0, .nameAndType 11 12), (0, u "java/lang/Integer"), (0, u "intValue"), (0, u "()I"), (19, .fieldref 33 34), (0, .class_ 35), (0, .nameAndType 36 37), (0, u "com/example/rulewright/rulewright/rules/Repetition"), (0, u "minimum"), (0, u "I"), (0, .fieldref 33 39), (0, .nameAndType 40 41), (0, u "maximum"), (0, u "Ljava/lang/Integer;"), (0, .fieldref 33 43), (0, .nameAndType 44 37), (0, u "step"), (20, u "(ILjava/lang/Integer;I)V"), (2, u "ONCE"), (0, u "Lcom/example/rulewright/rulewright/rules/Repetition;"), (2, u "OPTIONAL"), (6, u "fewest"), (0, u "()J")] 28

def k4c0 : Code := { maxStack := 7, maxLocals := 4, code := prog_23_method_1_code, exceptionTable := #[], attributes := #[] }
def k4m0 : Method := { name := "<init>", desc := "(ILjava/lang/Integer;I)V", sig := { parameters := [.int, (.object "java/lang/Integer"), .int], returnType := none }, accessFlags := 1, code := some k4c0 }
def k4c1 : Code := { maxStack := 4, maxLocals := 1, code := prog_23_method_3_code, exceptionTable := #[], attributes := #[] }
def k4m1 : Method := { name := "fewest", desc := "()J", sig := { parameters := [], returnType := some .long }, accessFlags := 1, code := some k4c1 }
/-- com/example/rulewright/rulewright/rules/Repetition -/
def k4 : Class := { plain "com/example/rulewright/rulewright/rules/Repetition" (some 3) with
  accessFlags := 49
  interfaces := #[]
  cf := some (fileOf pool4 33 #[] #[{ accessFlags := 1, nameIndex := 5, descriptorIndex := 65, attributes := #[] }, { accessFlags := 1, nameIndex := 79, descriptorIndex := 80, attributes := #[] }] 49 2 #[] #[{ accessFlags := 18, nameIndex := 36, descriptorIndex := 37, attributes := #[] }, { accessFlags := 18, nameIndex := 40, descriptorIndex := 41, attributes := #[] }, { accessFlags := 18, nameIndex := 44, descriptorIndex := 37, attributes := #[] }, { accessFlags := 25, nameIndex := 68, descriptorIndex := 69, attributes := #[] }, { accessFlags := 25, nameIndex := 72, descriptorIndex := 69, attributes := #[] }])
  fields := #[{ name := "minimum", type := .int, accessFlags := 18, slot := 0, constantValue := 0 }, { name := "maximum", type := (.object "java/lang/Integer"), accessFlags := 18, slot := 1, constantValue := 0 }, { name := "step", type := .int, accessFlags := 18, slot := 2, constantValue := 0 }, { name := "ONCE", type := (.object "com/example/rulewright/rulewright/rules/Repetition"), accessFlags := 25, slot := 0, constantValue := 0 }, { name := "OPTIONAL", type := (.object "com/example/rulewright/rulewright/rules/Repetition"), accessFlags := 25, slot := 1, constantValue := 0 }]
  methods := #[k4m0, k4m1]
  instanceTypes := #[.int, (.object "java/lang/Integer"), .int]
  staticTypes := #[(.object "com/example/rulewright/rulewright/rules/Repetition"), (.object "com/example/rulewright/rulewright/rules/Repetition")]
  resolved := Array.replicate 109 none
  statics := none }

def pool5 : Array CpInfo := pool [(1, .class_ 2), (0, u "java/io/Serializable"), (0, .class_ 4), (0, u "java/lang/Object")] 2

/-- java/io/Serializable -/
def k5 : Class := { plain "java/io/Serializable" (some 0) with
  accessFlags := 1537
  interfaces := #[]
  cf := some (fileOf pool5 1 #[] #[] 1537 3 #[] #[])
  fields := #[]
  methods := #[]
  instanceTypes := #[]
  staticTypes := #[]
  resolved := Array.replicate 7 none
  statics := none }

def pool6 : Array CpInfo := pool [(1, .methodref 2 3), (0, .class_ 4), (0, .nameAndType 5 6), (0, u "java/lang/Object"), (0, u "<init>"), (0, u "()V"), (1, .class_ 10), (1, u "java/lang/Number"), (2, .class_ 14), (0, u "java/io/Serializable"), (0, u "serialVersionUID"), (0, u "J")] 20

def k6c0 : Code := { maxStack := 1, maxLocals := 1, code := jdk_18_method_1_code, exceptionTable := #[], attributes := #[] }
def k6m0 : Method := { name := "<init>", desc := "()V", sig := { parameters := [], returnType := none }, accessFlags := 1, code := some k6c0 }
/-- java/lang/Number -/
def k6 : Class := { plain "java/lang/Number" (some 0) with
  accessFlags := 1057
  interfaces := #[5]
  cf := some (fileOf pool6 8 #[] #[{ accessFlags := 1, nameIndex := 5, descriptorIndex := 6, attributes := #[] }] 1057 2 #[13] #[{ accessFlags := 26, nameIndex := 15, descriptorIndex := 16, attributes := #[] }])
  fields := #[{ name := "serialVersionUID", type := .long, accessFlags := 26, slot := 0, constantValue := 0 }]
  methods := #[k6m0]
  instanceTypes := #[]
  staticTypes := #[.long]
  resolved := Array.replicate 37 none
  statics := none }

def pool7 : Array CpInfo := pool [(1, .class_ 2), (0, u "java/lang/Comparable"), (0, .class_ 4), (0, u "java/lang/Object")] 7

/-- java/lang/Comparable -/
def k7 : Class := { plain "java/lang/Comparable" (some 0) with
  accessFlags := 1537
  interfaces := #[]
  cf := some (fileOf pool7 1 #[] #[] 1537 3 #[] #[])
  fields := #[]
  methods := #[]
  instanceTypes := #[]
  staticTypes := #[]
  resolved := Array.replicate 12 none
  statics := none }

def pool8 : Array CpInfo := pool [(1, .class_ 2), (0, u "java/lang/constant/Constable"), (0, .class_ 4), (0, u "java/lang/Object")] 6

/-- java/lang/constant/Constable -/
def k8 : Class := { plain "java/lang/constant/Constable" (some 0) with
  accessFlags := 1537
  interfaces := #[]
  cf := some (fileOf pool8 1 #[] #[] 1537 3 #[] #[])
  fields := #[]
  methods := #[]
  instanceTypes := #[]
  staticTypes := #[]
  resolved := Array.replicate 11 none
  statics := none }

def pool9 : Array CpInfo := pool [(1, .class_ 2), (0, u "java/lang/constant/ConstantDesc"), (0, .class_ 4), (0, u "java/lang/Object")] 32

/-- java/lang/constant/ConstantDesc -/
def k9 : Class := { plain "java/lang/constant/ConstantDesc" (some 0) with
  accessFlags := 1537
  interfaces := #[]
  cf := some (fileOf pool9 1 #[] #[] 1537 3 #[] #[])
  fields := #[]
  methods := #[]
  instanceTypes := #[]
  staticTypes := #[]
  resolved := Array.replicate 37 none
  statics := none }

def pool10 : Array CpInfo := pool [(1, .class_ 2), (0, u "java/lang/Integer"), (16, u "digits"), (0, u "[C"), (46, u "<init>"), (17, u "DigitOnes"), (0, u "[B"), (2, u "DigitTens"), (10, .nameAndType 67 101), (0, u "()V"), (19, u "()I"), (65, u "valueOf"), (0, u "(I)Ljava/lang/Integer;"), (0, .class_ 190), (0, u "java/lang/Integer$IntegerCache"), (0, .fieldref 189 192), (0, .nameAndType 193 194), (0, u "high"), (0, u "I"), (0, .fieldref 189 196), (0, .nameAndType 197 198), (0, u "cache"), (0, u "[Ljava/lang/Integer;"), (0, .methodref 1 200), (0, .nameAndType 67 201), (0, u "(I)V"), (0, .methodref 203 100), (0, .class_ 204), (0, u "java/lang/Number"), (0, .fieldref 1 206), (0, .nameAndType 207 194), (0, u "value"), (5, u "intValue"), (88, u "TYPE"), (0, u "Ljava/lang/Class;"), (0, .class_ 305), (0, u "java/lang/Comparable"), (0, .class_ 307), (0, u "java/lang/constant/Constable"), (0, .class_ 309), (0, u "java/lang/constant/ConstantDesc"), (0, u "MIN_VALUE"), (1, u "MAX_VALUE"), (3, u "SIZE"), (1, u "BYTES"), (1, u "serialVersionUID"), (0, u "J")] 131

def k10c0 : Code := { maxStack := 3, maxLocals := 1, code := jdk_33_method_22_code, exceptionTable := #[], attributes := #[] }
def k10m0 : Method := { name := "valueOf", desc := "(I)Ljava/lang/Integer;", sig := { parameters := [.int], returnType := some (.object "java/lang/Integer") }, accessFlags := 9, code := some k10c0 }
def k10c1 : Code := { maxStack := 2, maxLocals := 2, code := jdk_33_method_23_code, exceptionTable := #[], attributes := #[] }
def k10m1 : Method := { name := "<init>", desc := "(I)V", sig := { parameters := [.int], returnType := none }, accessFlags := 1, code := some k10c1 }
def k10c2 : Code := { maxStack := 1, maxLocals := 1, code := jdk_33_method_27_code, exceptionTable := #[], attributes := #[] }
def k10m2 : Method := { name := "intValue", desc := "()I", sig := { parameters := [], returnType := some .int }, accessFlags := 1, code := some k10c2 }
/-- java/lang/Integer -/
def k10 : Class := { plain "java/lang/Integer" (some 6) with
  accessFlags := 49
  interfaces := #[7, 8, 9]
  cf := some (fileOf pool10 1 #[.nestMembers #[189]] #[{ accessFlags := 9, nameIndex := 187, descriptorIndex := 188, attributes := #[] }, { accessFlags := 1, nameIndex := 67, descriptorIndex := 201, attributes := #[] }, { accessFlags := 1, nameIndex := 213, descriptorIndex := 121, attributes := #[] }] 49 203 #[304, 306, 308] #[{ accessFlags := 25, nameIndex := 310, descriptorIndex := 194, attributes := #[] }, { accessFlags := 25, nameIndex := 312, descriptorIndex := 194, attributes := #[] }, { accessFlags := 25, nameIndex := 302, descriptorIndex := 303, attributes := #[] }, { accessFlags := 24, nameIndex := 19, descriptorIndex := 20, attributes := #[] }, { accessFlags := 24, nameIndex := 89, descriptorIndex := 86, attributes := #[] }, { accessFlags := 24, nameIndex := 85, descriptorIndex := 86, attributes := #[] }, { accessFlags := 18, nameIndex := 207, descriptorIndex := 194, attributes := #[] }, { accessFlags := 25, nameIndex := 316, descriptorIndex := 194, attributes := #[] }, { accessFlags := 25, nameIndex := 318, descriptorIndex := 194, attributes := #[] }, { accessFlags := 26, nameIndex := 320, descriptorIndex := 321, attributes := #[] }])
  fields := #[{ name := "MIN_VALUE", type := .int, accessFlags := 25, slot := 0, constantValue := 0 }, { name := "MAX_VALUE", type := .int, accessFlags := 25, slot := 1, constantValue := 0 }, { name := "TYPE", type := (.object "java/lang/Class"), accessFlags := 25, slot := 2, constantValue := 0 }, { name := "digits", type := (.array .char), accessFlags := 24, slot := 3, constantValue := 0 }, { name := "DigitTens", type := (.array .byte), accessFlags := 24, slot := 4, constantValue := 0 }, { name := "DigitOnes", type := (.array .byte), accessFlags := 24, slot := 5, constantValue := 0 }, { name := "value", type := .int, accessFlags := 18, slot := 0, constantValue := 0 }, { name := "SIZE", type := .int, accessFlags := 25, slot := 6, constantValue := 0 }, { name := "BYTES", type := .int, accessFlags := 25, slot := 7, constantValue := 0 }, { name := "serialVersionUID", type := .long, accessFlags := 26, slot := 8, constantValue := 0 }]
  methods := #[k10m0, k10m1, k10m2]
  instanceTypes := #[.int]
  staticTypes := #[.int, .int, (.object "java/lang/Class"), (.array .char), (.array .byte), (.array .byte), .int, .int, .long]
  resolved := Array.replicate 453 none
  statics := none }

def pool11 : Array CpInfo := pool [(2, .class_ 4), (1, u "java/lang/Object"), (0, u "<init>"), (0, u "()V"), (0, .class_ 8), (0, u "java/lang/Integer"), (7, .class_ 18), (1, u "java/lang/Integer$IntegerCache"), (0, u "$assertionsDisabled"), (0, u "Z"), (26, u "high"), (0, u "I"), (8, u "archivedCache"), (0, u "[Ljava/lang/Integer;"), (12, u "cache"), (0, u "low")] 27

def k11m0 : Method := { name := "<init>", desc := "()V", sig := { parameters := [], returnType := none }, accessFlags := 2, code := none }
/-- java/lang/Integer$IntegerCache -/
def k11 : Class := { plain "java/lang/Integer$IntegerCache" (some 0) with
  accessFlags := 48
  interfaces := #[]
  cf := some (fileOf pool11 16 #[.nestHost 7] #[{ accessFlags := 2, nameIndex := 5, descriptorIndex := 6, attributes := #[] }] 48 2 #[] #[{ accessFlags := 24, nameIndex := 72, descriptorIndex := 48, attributes := #[] }, { accessFlags := 24, nameIndex := 47, descriptorIndex := 48, attributes := #[] }, { accessFlags := 24, nameIndex := 71, descriptorIndex := 58, attributes := #[] }, { accessFlags := 8, nameIndex := 57, descriptorIndex := 58, attributes := #[] }, { accessFlags := 4120, nameIndex := 19, descriptorIndex := 20, attributes := #[] }])
  fields := #[{ name := "low", type := .int, accessFlags := 24, slot := 0, constantValue := 0 }, { name := "high", type := .int, accessFlags := 24, slot := 1, constantValue := 0 }, { name := "cache", type := (.array (.object "java/lang/Integer")), accessFlags := 24, slot := 2, constantValue := 0 }, { name := "archivedCache", type := (.array (.object "java/lang/Integer")), accessFlags := 8, slot := 3, constantValue := 0 }, { name := "$assertionsDisabled", type := .boolean, accessFlags := 4120, slot := 4, constantValue := 0 }]
  methods := #[k11m0]
  instanceTypes := #[]
  staticTypes := #[.int, .int, (.array (.object "java/lang/Integer")), (.array (.object "java/lang/Integer")), .boolean]
  resolved := Array.replicate 100 none
  statics := some 0 }

def pool12 : Array CpInfo := pool [(1, u "java/lang/Cloneable"), (0, .class_ 1), (0, u "java/lang/Object"), (0, .class_ 3)] 3

/-- java/lang/Cloneable -/
def k12 : Class := { plain "java/lang/Cloneable" (some 0) with
  accessFlags := 1537
  interfaces := #[]
  cf := some (fileOf pool12 2 #[] #[] 1537 4 #[] #[])
  fields := #[]
  methods := #[]
  instanceTypes := #[]
  staticTypes := #[]
  resolved := Array.replicate 8 none
  statics := none }

/-- the primitive byte -/
def k13 : Class := { plain "byte" none with kind := .primitive 'B', accessFlags := 0x411 }
/-- [B -/
def k14 : Class := { plain "[B" (some 0) with kind := .array 13 .byte, interfaces := #[12, 5], accessFlags := 1041 }

/-- the primitive int -/
def k15 : Class := { plain "int" none with kind := .primitive 'I', accessFlags := 0x411 }
/-- [I -/
def k16 : Class := { plain "[I" (some 0) with kind := .array 15 .int, interfaces := #[12, 5], accessFlags := 1041 }

/-- [Ljava/lang/Integer; -/
def k17 : Class := { plain "[Ljava/lang/Integer;" (some 0) with kind := .array 10 (.object "java/lang/Integer"), interfaces := #[12, 5], accessFlags := 1041 }

def heap : Heap := #[{ cls := 11, slots := #[.int 0, .int 127, .ref 1, .null, .int 0], vm := .statics 11 },
  { cls := 17, slots := #[.ref 2, .ref 3, .ref 4, .ref 5, .ref 6, .ref 7, .ref 8, .ref 9, .ref 10, .ref 11, .ref 12, .ref 13, .ref 14, .ref 15, .ref 16, .ref 17, .ref 18, .ref 19, .ref 20, .ref 21, .ref 22, .ref 23, .ref 24, .ref 25, .ref 26, .ref 27, .ref 28, .ref 29, .ref 30, .ref 31, .ref 32, .ref 33, .ref 34, .ref 35, .ref 36, .ref 37, .ref 38, .ref 39, .ref 40, .ref 41, .ref 42, .ref 43, .ref 44, .ref 45, .ref 46, .ref 47, .ref 48, .ref 49, .ref 50, .ref 51, .ref 52, .ref 53, .ref 54, .ref 55, .ref 56, .ref 57, .ref 58, .ref 59, .ref 60, .ref 61, .ref 62, .ref 63, .ref 64, .ref 65, .ref 66, .ref 67, .ref 68, .ref 69, .ref 70, .ref 71, .ref 72, .ref 73, .ref 74, .ref 75, .ref 76, .ref 77, .ref 78, .ref 79, .ref 80, .ref 81, .ref 82, .ref 83, .ref 84, .ref 85, .ref 86, .ref 87, .ref 88, .ref 89, .ref 90, .ref 91, .ref 92, .ref 93, .ref 94, .ref 95, .ref 96, .ref 97, .ref 98, .ref 99, .ref 100, .ref 101, .ref 102, .ref 103, .ref 104, .ref 105, .ref 106, .ref 107, .ref 108, .ref 109, .ref 110, .ref 111, .ref 112, .ref 113, .ref 114, .ref 115, .ref 116, .ref 117, .ref 118, .ref 119, .ref 120, .ref 121, .ref 122, .ref 123, .ref 124, .ref 125, .ref 126, .ref 127, .ref 128, .ref 129, .ref 130, .ref 131, .ref 132, .ref 133, .ref 134, .ref 135, .ref 136, .ref 137, .ref 138, .ref 139, .ref 140, .ref 141, .ref 142, .ref 143, .ref 144, .ref 145, .ref 146, .ref 147, .ref 148, .ref 149, .ref 150, .ref 151, .ref 152, .ref 153, .ref 154, .ref 155, .ref 156, .ref 157, .ref 158, .ref 159, .ref 160, .ref 161, .ref 162, .ref 163, .ref 164, .ref 165, .ref 166, .ref 167, .ref 168, .ref 169, .ref 170, .ref 171, .ref 172, .ref 173, .ref 174, .ref 175, .ref 176, .ref 177, .ref 178, .ref 179, .ref 180, .ref 181, .ref 182, .ref 183, .ref 184, .ref 185, .ref 186, .ref 187, .ref 188, .ref 189, .ref 190, .ref 191, .ref 192, .ref 193, .ref 194, .ref 195, .ref 196, .ref 197, .ref 198, .ref 199, .ref 200, .ref 201, .ref 202, .ref 203, .ref 204, .ref 205, .ref 206, .ref 207, .ref 208, .ref 209, .ref 210, .ref 211, .ref 212, .ref 213, .ref 214, .ref 215, .ref 216, .ref 217, .ref 218, .ref 219, .ref 220, .ref 221, .ref 222, .ref 223, .ref 224, .ref 225, .ref 226, .ref 227, .ref 228, .ref 229, .ref 230, .ref 231, .ref 232, .ref 233, .ref 234, .ref 235, .ref 236, .ref 237, .ref 238, .ref 239, .ref 240, .ref 241, .ref 242, .ref 243, .ref 244, .ref 245, .ref 246, .ref 247, .ref 248, .ref 249, .ref 250, .ref 251, .ref 252, .ref 253, .ref 254, .ref 255, .ref 256, .ref 257], vm := .none },
  { cls := 10, slots := #[.int (-128)], vm := .none },
  { cls := 10, slots := #[.int (-127)], vm := .none },
  { cls := 10, slots := #[.int (-126)], vm := .none },
  { cls := 10, slots := #[.int (-125)], vm := .none },
  { cls := 10, slots := #[.int (-124)], vm := .none },
  { cls := 10, slots := #[.int (-123)], vm := .none },
  { cls := 10, slots := #[.int (-122)], vm := .none },
  { cls := 10, slots := #[.int (-121)], vm := .none },
  { cls := 10, slots := #[.int (-120)], vm := .none },
  { cls := 10, slots := #[.int (-119)], vm := .none },
  { cls := 10, slots := #[.int (-118)], vm := .none },
  { cls := 10, slots := #[.int (-117)], vm := .none },
  { cls := 10, slots := #[.int (-116)], vm := .none },
  { cls := 10, slots := #[.int (-115)], vm := .none },
  { cls := 10, slots := #[.int (-114)], vm := .none },
  { cls := 10, slots := #[.int (-113)], vm := .none },
  { cls := 10, slots := #[.int (-112)], vm := .none },
  { cls := 10, slots := #[.int (-111)], vm := .none },
  { cls := 10, slots := #[.int (-110)], vm := .none },
  { cls := 10, slots := #[.int (-109)], vm := .none },
  { cls := 10, slots := #[.int (-108)], vm := .none },
  { cls := 10, slots := #[.int (-107)], vm := .none },
  { cls := 10, slots := #[.int (-106)], vm := .none },
  { cls := 10, slots := #[.int (-105)], vm := .none },
  { cls := 10, slots := #[.int (-104)], vm := .none },
  { cls := 10, slots := #[.int (-103)], vm := .none },
  { cls := 10, slots := #[.int (-102)], vm := .none },
  { cls := 10, slots := #[.int (-101)], vm := .none },
  { cls := 10, slots := #[.int (-100)], vm := .none },
  { cls := 10, slots := #[.int (-99)], vm := .none },
  { cls := 10, slots := #[.int (-98)], vm := .none },
  { cls := 10, slots := #[.int (-97)], vm := .none },
  { cls := 10, slots := #[.int (-96)], vm := .none },
  { cls := 10, slots := #[.int (-95)], vm := .none },
  { cls := 10, slots := #[.int (-94)], vm := .none },
  { cls := 10, slots := #[.int (-93)], vm := .none },
  { cls := 10, slots := #[.int (-92)], vm := .none },
  { cls := 10, slots := #[.int (-91)], vm := .none },
  { cls := 10, slots := #[.int (-90)], vm := .none },
  { cls := 10, slots := #[.int (-89)], vm := .none },
  { cls := 10, slots := #[.int (-88)], vm := .none },
  { cls := 10, slots := #[.int (-87)], vm := .none },
  { cls := 10, slots := #[.int (-86)], vm := .none },
  { cls := 10, slots := #[.int (-85)], vm := .none },
  { cls := 10, slots := #[.int (-84)], vm := .none },
  { cls := 10, slots := #[.int (-83)], vm := .none },
  { cls := 10, slots := #[.int (-82)], vm := .none },
  { cls := 10, slots := #[.int (-81)], vm := .none },
  { cls := 10, slots := #[.int (-80)], vm := .none },
  { cls := 10, slots := #[.int (-79)], vm := .none },
  { cls := 10, slots := #[.int (-78)], vm := .none },
  { cls := 10, slots := #[.int (-77)], vm := .none },
  { cls := 10, slots := #[.int (-76)], vm := .none },
  { cls := 10, slots := #[.int (-75)], vm := .none },
  { cls := 10, slots := #[.int (-74)], vm := .none },
  { cls := 10, slots := #[.int (-73)], vm := .none },
  { cls := 10, slots := #[.int (-72)], vm := .none },
  { cls := 10, slots := #[.int (-71)], vm := .none },
  { cls := 10, slots := #[.int (-70)], vm := .none },
  { cls := 10, slots := #[.int (-69)], vm := .none },
  { cls := 10, slots := #[.int (-68)], vm := .none },
  { cls := 10, slots := #[.int (-67)], vm := .none },
  { cls := 10, slots := #[.int (-66)], vm := .none },
  { cls := 10, slots := #[.int (-65)], vm := .none },
  { cls := 10, slots := #[.int (-64)], vm := .none },
  { cls := 10, slots := #[.int (-63)], vm := .none },
  { cls := 10, slots := #[.int (-62)], vm := .none },
  { cls := 10, slots := #[.int (-61)], vm := .none },
  { cls := 10, slots := #[.int (-60)], vm := .none },
  { cls := 10, slots := #[.int (-59)], vm := .none },
  { cls := 10, slots := #[.int (-58)], vm := .none },
  { cls := 10, slots := #[.int (-57)], vm := .none },
  { cls := 10, slots := #[.int (-56)], vm := .none },
  { cls := 10, slots := #[.int (-55)], vm := .none },
  { cls := 10, slots := #[.int (-54)], vm := .none },
  { cls := 10, slots := #[.int (-53)], vm := .none },
  { cls := 10, slots := #[.int (-52)], vm := .none },
  { cls := 10, slots := #[.int (-51)], vm := .none },
  { cls := 10, slots := #[.int (-50)], vm := .none },
  { cls := 10, slots := #[.int (-49)], vm := .none },
  { cls := 10, slots := #[.int (-48)], vm := .none },
  { cls := 10, slots := #[.int (-47)], vm := .none },
  { cls := 10, slots := #[.int (-46)], vm := .none },
  { cls := 10, slots := #[.int (-45)], vm := .none },
  { cls := 10, slots := #[.int (-44)], vm := .none },
  { cls := 10, slots := #[.int (-43)], vm := .none },
  { cls := 10, slots := #[.int (-42)], vm := .none },
  { cls := 10, slots := #[.int (-41)], vm := .none },
  { cls := 10, slots := #[.int (-40)], vm := .none },
  { cls := 10, slots := #[.int (-39)], vm := .none },
  { cls := 10, slots := #[.int (-38)], vm := .none },
  { cls := 10, slots := #[.int (-37)], vm := .none },
  { cls := 10, slots := #[.int (-36)], vm := .none },
  { cls := 10, slots := #[.int (-35)], vm := .none },
  { cls := 10, slots := #[.int (-34)], vm := .none },
  { cls := 10, slots := #[.int (-33)], vm := .none },
  { cls := 10, slots := #[.int (-32)], vm := .none },
  { cls := 10, slots := #[.int (-31)], vm := .none },
  { cls := 10, slots := #[.int (-30)], vm := .none },
  { cls := 10, slots := #[.int (-29)], vm := .none },
  { cls := 10, slots := #[.int (-28)], vm := .none },
  { cls := 10, slots := #[.int (-27)], vm := .none },
  { cls := 10, slots := #[.int (-26)], vm := .none },
  { cls := 10, slots := #[.int (-25)], vm := .none },
  { cls := 10, slots := #[.int (-24)], vm := .none },
  { cls := 10, slots := #[.int (-23)], vm := .none },
  { cls := 10, slots := #[.int (-22)], vm := .none },
  { cls := 10, slots := #[.int (-21)], vm := .none },
  { cls := 10, slots := #[.int (-20)], vm := .none },
  { cls := 10, slots := #[.int (-19)], vm := .none },
  { cls := 10, slots := #[.int (-18)], vm := .none },
  { cls := 10, slots := #[.int (-17)], vm := .none },
  { cls := 10, slots := #[.int (-16)], vm := .none },
  { cls := 10, slots := #[.int (-15)], vm := .none },
  { cls := 10, slots := #[.int (-14)], vm := .none },
  { cls := 10, slots := #[.int (-13)], vm := .none },
  { cls := 10, slots := #[.int (-12)], vm := .none },
  { cls := 10, slots := #[.int (-11)], vm := .none },
  { cls := 10, slots := #[.int (-10)], vm := .none },
  { cls := 10, slots := #[.int (-9)], vm := .none },
  { cls := 10, slots := #[.int (-8)], vm := .none },
  { cls := 10, slots := #[.int (-7)], vm := .none },
  { cls := 10, slots := #[.int (-6)], vm := .none },
  { cls := 10, slots := #[.int (-5)], vm := .none },
  { cls := 10, slots := #[.int (-4)], vm := .none },
  { cls := 10, slots := #[.int (-3)], vm := .none },
  { cls := 10, slots := #[.int (-2)], vm := .none },
  { cls := 10, slots := #[.int (-1)], vm := .none },
  { cls := 10, slots := #[.int 0], vm := .none },
  { cls := 10, slots := #[.int 1], vm := .none },
  { cls := 10, slots := #[.int 2], vm := .none },
  { cls := 10, slots := #[.int 3], vm := .none },
  { cls := 10, slots := #[.int 4], vm := .none },
  { cls := 10, slots := #[.int 5], vm := .none },
  { cls := 10, slots := #[.int 6], vm := .none },
  { cls := 10, slots := #[.int 7], vm := .none },
  { cls := 10, slots := #[.int 8], vm := .none },
  { cls := 10, slots := #[.int 9], vm := .none },
  { cls := 10, slots := #[.int 10], vm := .none },
  { cls := 10, slots := #[.int 11], vm := .none },
  { cls := 10, slots := #[.int 12], vm := .none },
  { cls := 10, slots := #[.int 13], vm := .none },
  { cls := 10, slots := #[.int 14], vm := .none },
  { cls := 10, slots := #[.int 15], vm := .none },
  { cls := 10, slots := #[.int 16], vm := .none },
  { cls := 10, slots := #[.int 17], vm := .none },
  { cls := 10, slots := #[.int 18], vm := .none },
  { cls := 10, slots := #[.int 19], vm := .none },
  { cls := 10, slots := #[.int 20], vm := .none },
  { cls := 10, slots := #[.int 21], vm := .none },
  { cls := 10, slots := #[.int 22], vm := .none },
  { cls := 10, slots := #[.int 23], vm := .none },
  { cls := 10, slots := #[.int 24], vm := .none },
  { cls := 10, slots := #[.int 25], vm := .none },
  { cls := 10, slots := #[.int 26], vm := .none },
  { cls := 10, slots := #[.int 27], vm := .none },
  { cls := 10, slots := #[.int 28], vm := .none },
  { cls := 10, slots := #[.int 29], vm := .none },
  { cls := 10, slots := #[.int 30], vm := .none },
  { cls := 10, slots := #[.int 31], vm := .none },
  { cls := 10, slots := #[.int 32], vm := .none },
  { cls := 10, slots := #[.int 33], vm := .none },
  { cls := 10, slots := #[.int 34], vm := .none },
  { cls := 10, slots := #[.int 35], vm := .none },
  { cls := 10, slots := #[.int 36], vm := .none },
  { cls := 10, slots := #[.int 37], vm := .none },
  { cls := 10, slots := #[.int 38], vm := .none },
  { cls := 10, slots := #[.int 39], vm := .none },
  { cls := 10, slots := #[.int 40], vm := .none },
  { cls := 10, slots := #[.int 41], vm := .none },
  { cls := 10, slots := #[.int 42], vm := .none },
  { cls := 10, slots := #[.int 43], vm := .none },
  { cls := 10, slots := #[.int 44], vm := .none },
  { cls := 10, slots := #[.int 45], vm := .none },
  { cls := 10, slots := #[.int 46], vm := .none },
  { cls := 10, slots := #[.int 47], vm := .none },
  { cls := 10, slots := #[.int 48], vm := .none },
  { cls := 10, slots := #[.int 49], vm := .none },
  { cls := 10, slots := #[.int 50], vm := .none },
  { cls := 10, slots := #[.int 51], vm := .none },
  { cls := 10, slots := #[.int 52], vm := .none },
  { cls := 10, slots := #[.int 53], vm := .none },
  { cls := 10, slots := #[.int 54], vm := .none },
  { cls := 10, slots := #[.int 55], vm := .none },
  { cls := 10, slots := #[.int 56], vm := .none },
  { cls := 10, slots := #[.int 57], vm := .none },
  { cls := 10, slots := #[.int 58], vm := .none },
  { cls := 10, slots := #[.int 59], vm := .none },
  { cls := 10, slots := #[.int 60], vm := .none },
  { cls := 10, slots := #[.int 61], vm := .none },
  { cls := 10, slots := #[.int 62], vm := .none },
  { cls := 10, slots := #[.int 63], vm := .none },
  { cls := 10, slots := #[.int 64], vm := .none },
  { cls := 10, slots := #[.int 65], vm := .none },
  { cls := 10, slots := #[.int 66], vm := .none },
  { cls := 10, slots := #[.int 67], vm := .none },
  { cls := 10, slots := #[.int 68], vm := .none },
  { cls := 10, slots := #[.int 69], vm := .none },
  { cls := 10, slots := #[.int 70], vm := .none },
  { cls := 10, slots := #[.int 71], vm := .none },
  { cls := 10, slots := #[.int 72], vm := .none },
  { cls := 10, slots := #[.int 73], vm := .none },
  { cls := 10, slots := #[.int 74], vm := .none },
  { cls := 10, slots := #[.int 75], vm := .none },
  { cls := 10, slots := #[.int 76], vm := .none },
  { cls := 10, slots := #[.int 77], vm := .none },
  { cls := 10, slots := #[.int 78], vm := .none },
  { cls := 10, slots := #[.int 79], vm := .none },
  { cls := 10, slots := #[.int 80], vm := .none },
  { cls := 10, slots := #[.int 81], vm := .none },
  { cls := 10, slots := #[.int 82], vm := .none },
  { cls := 10, slots := #[.int 83], vm := .none },
  { cls := 10, slots := #[.int 84], vm := .none },
  { cls := 10, slots := #[.int 85], vm := .none },
  { cls := 10, slots := #[.int 86], vm := .none },
  { cls := 10, slots := #[.int 87], vm := .none },
  { cls := 10, slots := #[.int 88], vm := .none },
  { cls := 10, slots := #[.int 89], vm := .none },
  { cls := 10, slots := #[.int 90], vm := .none },
  { cls := 10, slots := #[.int 91], vm := .none },
  { cls := 10, slots := #[.int 92], vm := .none },
  { cls := 10, slots := #[.int 93], vm := .none },
  { cls := 10, slots := #[.int 94], vm := .none },
  { cls := 10, slots := #[.int 95], vm := .none },
  { cls := 10, slots := #[.int 96], vm := .none },
  { cls := 10, slots := #[.int 97], vm := .none },
  { cls := 10, slots := #[.int 98], vm := .none },
  { cls := 10, slots := #[.int 99], vm := .none },
  { cls := 10, slots := #[.int 100], vm := .none },
  { cls := 10, slots := #[.int 101], vm := .none },
  { cls := 10, slots := #[.int 102], vm := .none },
  { cls := 10, slots := #[.int 103], vm := .none },
  { cls := 10, slots := #[.int 104], vm := .none },
  { cls := 10, slots := #[.int 105], vm := .none },
  { cls := 10, slots := #[.int 106], vm := .none },
  { cls := 10, slots := #[.int 107], vm := .none },
  { cls := 10, slots := #[.int 108], vm := .none },
  { cls := 10, slots := #[.int 109], vm := .none },
  { cls := 10, slots := #[.int 110], vm := .none },
  { cls := 10, slots := #[.int 111], vm := .none },
  { cls := 10, slots := #[.int 112], vm := .none },
  { cls := 10, slots := #[.int 113], vm := .none },
  { cls := 10, slots := #[.int 114], vm := .none },
  { cls := 10, slots := #[.int 115], vm := .none },
  { cls := 10, slots := #[.int 116], vm := .none },
  { cls := 10, slots := #[.int 117], vm := .none },
  { cls := 10, slots := #[.int 118], vm := .none },
  { cls := 10, slots := #[.int 119], vm := .none },
  { cls := 10, slots := #[.int 120], vm := .none },
  { cls := 10, slots := #[.int 121], vm := .none },
  { cls := 10, slots := #[.int 122], vm := .none },
  { cls := 10, slots := #[.int 123], vm := .none },
  { cls := 10, slots := #[.int 124], vm := .none },
  { cls := 10, slots := #[.int 125], vm := .none },
  { cls := 10, slots := #[.int 126], vm := .none },
  { cls := 10, slots := #[.int 127], vm := .none }]
def classes : Array Class := #[k0, k1, k2, k3, k4, k5, k6, k7, k8, k9, k10, k11, k12, k13, k14, k15, k16, k17]
def interned : List (Array UInt16 × Addr) := []
def slotsUsed : Nat := 517
def theMethod : MethodId := ⟨1, 1⟩
def args0 : Array Value := #[.int 5, .int 9, .int 3, .int 0]
def aboutOver (below : List Frame) : State where
  vm := { classes := classes, interned := interned.toArray }
  heap := heap
  slotsUsed := slotsUsed
  threads := #[{ frames := .invoking theMethod args0 :: below }]
def below0 : List Frame := [.native { method := ⟨0, 0⟩, args := #[] }]
def about1 : State := aboutOver below0
def p0 : Program := .bare "" "" ""
def e0 : Env := launch0.env 0 0 0
theorem w_frames : about1.frames = Frame.invoking theMethod args0 :: below0 := rfl
set_option maxRecDepth 65536 in
theorem w_args : argsFit about1.vm theMethod args0 = true := by decide +kernel
set_option maxRecDepth 65536 in
theorem w_heap : heapFits about1 = true := by decide +kernel
set_option maxRecDepth 65536 in
theorem w_runnable : about1.curStatus? = some .runnable := by decide +kernel
set_option maxRecDepth 65536 in
theorem w_alone : about1.alone = true := by decide +kernel
set_option maxRecDepth 65536 in
theorem w_named : about1.methodNamed? x = some theMethod := by decide +kernel
set_option maxRecDepth 65536 in
theorem w_hears : about1.hears theMethod below0 = true := by decide +kernel
set_option maxRecDepth 65536 in
theorem w_ripe : about1.ripe theMethod args0 below0 = true := by decide +kernel
theorem w_running : about1.status = .running := rfl
set_option maxRecDepth 65536 in
theorem w_room : about1.hasRoom e0.platform room_1 = true :=
  launch0.hasRoom_least _ room_1 (by decide +kernel) (by decide +kernel) (by decide +kernel) (by decide +kernel) (by decide +kernel) (by decide +kernel)
theorem allAtoms_all (ts : List Jvm.Cond) (a : Array Jvm.Value) (st : Jvm.State) : (allAtoms ts).before a st = ts.all (fun c => c.before a st) := by
  induction ts with
  | nil => rfl
  | cons c t ih =>
    show (Jvm.Cond.and c (allAtoms t)).before a st = _
    rw [Jvm.Cond.before_and, ih, List.all_cons]
def words1 : List Jvm.Cond := Jvm.Cond.code x code maxLocals ret :: tables_1
/-- a 'code' word, met by the world's own term for the bytes: nothing is compared byte by byte -/
theorem code_word {y : MethodName} {bytes : ByteArray} {mx : Nat} {rt : Option FieldType} {a : Array Value} {s : State} {m : MethodId} {meth : Method} {c : Code} (h1 : s.methodNamed? y = some m) (h2 : s.vm.method? m = some meth) (h3 : meth.code = some c) (h4 : c.code = bytes)
    (h5 : (c.maxLocals == mx && c.exceptionTable.isEmpty && decide (c.maxStack ≤ mostOperands) && decide (meth.sig.returnType = rt) && !meth.locks && decide (parseMethodDescriptor y.desc = some meth.sig)) = true) : (Jvm.Cond.code y bytes mx rt).before a s = true := by
  simp only [Bool.and_eq_true, beq_iff_eq, Bool.not_eq_true', decide_eq_true_eq] at h5
  obtain ⟨⟨⟨⟨⟨g1, g2⟩, g3⟩, g4⟩, g5⟩, g6⟩ := h5
  simp [Cond.before, Cond.holds, Cond.value, h1, h2, h3, h4, g1, g2, g3, g4, g5, g6]
def isCode : Jvm.Cond → Bool
  | .code _ _ _ _ => true
  | _ => false
theorem all_split {L : List Jvm.Cond} {P : Jvm.Cond → Bool} (h1 : L.all (fun c => isCode c || P c) = true) (h2 : ∀ c ∈ L.filter isCode, P c = true) : L.all P = true := by
  refine List.all_eq_true.mpr fun c hc => ?_
  have h := List.all_eq_true.mp h1 c hc
  rcases Bool.eq_false_or_eq_true (isCode c) with hi | hi
  · exact h2 c (List.mem_filter.mpr ⟨hc, hi⟩)
  · simpa [hi] using h
set_option maxRecDepth 65536 in
theorem w_c0 : (Jvm.Cond.code x code maxLocals ret).before args0 about1 = true := code_word (m := ⟨1, 1⟩) (meth := k1m1) (c := k1c1) (by decide +kernel) rfl rfl rfl (by decide +kernel)
set_option maxRecDepth 65536 in
theorem w_c1 : (Jvm.Cond.code ({ cls := "java/lang/Math", name := "max", desc := "(II)I" } : Jvm.MethodName) jdk_29_method_65_code (2 : Nat) (Option.some Jvm.ClassFile.FieldType.int)).before args0 about1 = true := code_word (m := ⟨2, 1⟩) (meth := k2m1) (c := k2c1) (by decide +kernel) rfl rfl rfl (by decide +kernel)
set_option maxRecDepth 65536 in
theorem w_c2 : (Jvm.Cond.code ({ cls := "com/example/rulewright/rulewright/rules/Repetition", name := "<init>", desc := "(ILjava/lang/Integer;I)V" } : Jvm.MethodName) prog_23_method_1_code (4 : Nat) (Option.none : Option Jvm.ClassFile.FieldType)).before args0 about1 = true := code_word (m := ⟨4, 0⟩) (meth := k4m0) (c := k4c0) (by decide +kernel) rfl rfl rfl (by decide +kernel)
set_option maxRecDepth 65536 in
theorem w_c3 : (Jvm.Cond.code ({ cls := "java/lang/Record", name := "<init>", desc := "()V" } : Jvm.MethodName) jdk_30_method_1_code (1 : Nat) (Option.none : Option Jvm.ClassFile.FieldType)).before args0 about1 = true := code_word (m := ⟨3, 0⟩) (meth := k3m0) (c := k3c0) (by decide +kernel) rfl rfl rfl (by decide +kernel)
set_option maxRecDepth 65536 in
theorem w_c4 : (Jvm.Cond.code ({ cls := "java/lang/Object", name := "<init>", desc := "()V" } : Jvm.MethodName) object_method_1_code (1 : Nat) (Option.none : Option Jvm.ClassFile.FieldType)).before args0 about1 = true := code_word (m := ⟨0, 0⟩) (meth := k0m0) (c := k0c0) (by decide +kernel) rfl rfl rfl (by decide +kernel)
set_option maxRecDepth 65536 in
theorem w_c5 : (Jvm.Cond.code ({ cls := "com/example/rulewright/rulewright/rules/Repetition", name := "fewest", desc := "()J" } : Jvm.MethodName) prog_23_method_3_code (1 : Nat) (Option.some Jvm.ClassFile.FieldType.long)).before args0 about1 = true := code_word (m := ⟨4, 1⟩) (meth := k4m1) (c := k4c1) (by decide +kernel) rfl rfl rfl (by decide +kernel)
set_option maxRecDepth 65536 in
theorem w_c6 : (Jvm.Cond.code ({ cls := "java/lang/Integer", name := "valueOf", desc := "(I)Ljava/lang/Integer;" } : Jvm.MethodName) jdk_33_method_22_code (1 : Nat) (Option.some (Jvm.ClassFile.FieldType.object "java/lang/Integer"))).before args0 about1 = true := code_word (m := ⟨10, 0⟩) (meth := k10m0) (c := k10c0) (by decide +kernel) rfl rfl rfl (by decide +kernel)
set_option maxRecDepth 65536 in
theorem w_c7 : (Jvm.Cond.code ({ cls := "java/lang/Integer", name := "intValue", desc := "()I" } : Jvm.MethodName) jdk_33_method_27_code (1 : Nat) (Option.some Jvm.ClassFile.FieldType.int)).before args0 about1 = true := code_word (m := ⟨10, 2⟩) (meth := k10m2) (c := k10c2) (by decide +kernel) rfl rfl rfl (by decide +kernel)
set_option maxRecDepth 65536 in
theorem w_c8 : (Jvm.Cond.code ({ cls := "java/lang/Integer", name := "<init>", desc := "(I)V" } : Jvm.MethodName) jdk_33_method_23_code (2 : Nat) (Option.none : Option Jvm.ClassFile.FieldType)).before args0 about1 = true := code_word (m := ⟨10, 1⟩) (meth := k10m1) (c := k10c1) (by decide +kernel) rfl rfl rfl (by decide +kernel)
set_option maxRecDepth 65536 in
theorem w_c9 : (Jvm.Cond.code ({ cls := "java/lang/Number", name := "<init>", desc := "()V" } : Jvm.MethodName) jdk_18_method_1_code (1 : Nat) (Option.none : Option Jvm.ClassFile.FieldType)).before args0 about1 = true := code_word (m := ⟨6, 0⟩) (meth := k6m0) (c := k6c0) (by decide +kernel) rfl rfl rfl (by decide +kernel)
def codes1 : List Jvm.Cond := [Jvm.Cond.code x code maxLocals ret, Jvm.Cond.code ({ cls := "java/lang/Math", name := "max", desc := "(II)I" } : Jvm.MethodName) jdk_29_method_65_code (2 : Nat) (Option.some Jvm.ClassFile.FieldType.int), Jvm.Cond.code ({ cls := "com/example/rulewright/rulewright/rules/Repetition", name := "<init>", desc := "(ILjava/lang/Integer;I)V" } : Jvm.MethodName) prog_23_method_1_code (4 : Nat) (Option.none : Option Jvm.ClassFile.FieldType), Jvm.Cond.code ({ cls := "java/lang/Record", name := "<init>", desc := "()V" } : Jvm.MethodName) jdk_30_method_1_code (1 : Nat) (Option.none : Option Jvm.ClassFile.FieldType), Jvm.Cond.code ({ cls := "java/lang/Object", name := "<init>", desc := "()V" } : Jvm.MethodName) object_method_1_code (1 : Nat) (Option.none : Option Jvm.ClassFile.FieldType), Jvm.Cond.code ({ cls := "com/example/rulewright/rulewright/rules/Repetition", name := "fewest", desc := "()J" } : Jvm.MethodName) prog_23_method_3_code (1 : Nat) (Option.some Jvm.ClassFile.FieldType.long), Jvm.Cond.code ({ cls := "java/lang/Integer", name := "valueOf", desc := "(I)Ljava/lang/Integer;" } : Jvm.MethodName) jdk_33_method_22_code (1 : Nat) (Option.some (Jvm.ClassFile.FieldType.object "java/lang/Integer")), Jvm.Cond.code ({ cls := "java/lang/Integer", name := "intValue", desc := "()I" } : Jvm.MethodName) jdk_33_method_27_code (1 : Nat) (Option.some Jvm.ClassFile.FieldType.int), Jvm.Cond.code ({ cls := "java/lang/Integer", name := "<init>", desc := "(I)V" } : Jvm.MethodName) jdk_33_method_23_code (2 : Nat) (Option.none : Option Jvm.ClassFile.FieldType), Jvm.Cond.code ({ cls := "java/lang/Number", name := "<init>", desc := "()V" } : Jvm.MethodName) jdk_18_method_1_code (1 : Nat) (Option.none : Option Jvm.ClassFile.FieldType)]
set_option maxRecDepth 65536 in
theorem codes_eq : words1.filter isCode = codes1 := rfl
theorem w_codes : ∀ c ∈ words1.filter isCode, c.before args0 about1 = true := by
  rw [codes_eq]
  intro c hc
  simp only [codes1, List.mem_cons, List.not_mem_nil, or_false] at hc
  rcases hc with rfl | rfl | rfl | rfl | rfl | rfl | rfl | rfl | rfl | rfl
  · exact w_c0
  · exact w_c1
  · exact w_c2
  · exact w_c3
  · exact w_c4
  · exact w_c5
  · exact w_c6
  · exact w_c7
  · exact w_c8
  · exact w_c9
set_option maxRecDepth 65536 in
theorem w_t1 : (words1.take 24).all (fun c => isCode c || c.before args0 about1) = true := by decide +kernel
set_option maxRecDepth 65536 in
theorem w_t2 : ((words1.drop 24).take 24).all (fun c => isCode c || c.before args0 about1) = true := by decide +kernel
set_option maxRecDepth 65536 in
theorem w_t3 : ((words1.drop 24).drop 24).all (fun c => isCode c || c.before args0 about1) = true := by decide +kernel
theorem w_tables : (allAtoms (Jvm.Cond.code x code maxLocals ret :: tables_1)).before args0 about1 = true := by
  rw [allAtoms_all]
  show words1.all (fun c => c.before args0 about1) = true
  refine all_split ?_ w_codes
  rw [← List.take_append_drop 24 words1, List.all_append, w_t1, ← List.take_append_drop 24 (words1.drop 24), List.all_append, w_t2, w_t3]
  rfl
set_option maxRecDepth 65536 in
theorem w_rest : rest_1_c.before args0 about1 = true := by decide +kernel
set_option maxRecDepth 65536 in
theorem w_case : (Jvm.Cond.and given_1 narrow_1).before args0 about1 = true := by decide +kernel
theorem w_applies : (headSpec (Jvm.Cond.code x code maxLocals ret :: tables_1) room_1).applies x e0.platform about1 = true :=
  (Spec.applies_iff w_frames).mpr ⟨w_running, w_runnable, w_alone, w_named, w_hears, w_ripe, w_room, w_tables⟩
theorem atStart : AtStart classFile x code maxLocals ret World_1 tables_1 room_1 Calls_1 rest_1 Pre_1 launch0 p0 e0 about1 theMethod args0 below0 :=
  ⟨lists_1, trivial, launch0.admits_env _ _ _, launch0.least_env, fairChoices_fair.cas, fairChoices_fair.clock, w_frames, w_args, w_heap, w_applies, trivial, w_rest, w_case⟩
end start1
theorem witness_1 : WitnessClaimed_1 := ⟨start1.p0, start1.e0, start1.about1, start1.theMethod, start1.args0, start1.below0, start1.atStart⟩
end Jvm.Pilot.@@N@@
