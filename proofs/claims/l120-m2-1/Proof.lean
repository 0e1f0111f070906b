import JvmDerived
import JvmDerived.Pilot.@@N@@Statement
import JvmDerived.Pilot.@@N@@Code
set_option linter.unusedVariables false
set_option linter.unusedSimpArgs false
namespace Jvm.Pilot.@@N@@
open Jvm Jvm.ClassFile Sem Op Lib Jvm.Free Jvm.Stand Jvm.LawKit Jvm.RoadKit Bundle Jvm.Pilot.@@N@@.Jvm.D
/-! own_Ends: from the state T the run ends well -/
def own_Ends (p : Program) (e : Env) (below : List Frame) (P : State → Outcome → Prop) (T : State) : Prop := ∃ U o, Steps p.tables e below T U ∧ U.status = .running ∧ Ended U below o ∧ P U o
def own_Got (s : State) (Q : Option Value → Heap → List Loc → Prop) (C N : Nat) (U : State) (o : Outcome) : Prop := ∃ v L, o = .returned v ∧ Q v U.heap L ∧ FrameEnd s o U L C N
section Own
variable {p : Program} {l : Launch} {e : Env} {R : Room} {s : State} {m : MethodId} {args : Array Value} {below : List Frame} {meth : Method} {c : Code} {T T' : State} {locs : List Loc} {cells slots : Nat} {P : State → Outcome → Prop}
theorem own_go (h : ∀ target, Steps p.tables e below T' target → Steps p.tables e below T target) (k : own_Ends p e below P T') : own_Ends p e below P T := by
  obtain ⟨U, o, h1, h2⟩ := k; exact ⟨U, o, h _ h1, h2⟩
theorem own_tr (h : Steps p.tables e below T T') (k : own_Ends p e below P T') : own_Ends p e below P T := by
  obtain ⟨U, o, h1, h2⟩ := k; exact ⟨U, o, h.trans h1, h2⟩
variable {Q : Option Value → Heap → List Loc → Prop} {C N : Nat}
theorem own_ret (X : Stand p l e R s m args below meth c T locs cells slots) (hx : p.tables.exec = Jvm.exec) (lk : meth.locks = false) {pc : Nat} {Ls : Array Slot} {w : Value} {t : FieldType} {i : Instr} {rest : List Value} (hret : meth.sig.returnType = some t) (hn : narrow t w = w)
    (hi : (i = .ireturn ∧ (t = .int ∨ t = .boolean ∨ t = .byte ∨ t = .char ∨ t = .short) ∧ ∃ z, w = .int z) ∨ (i = .lreturn ∧ t = .long ∧ ∃ z, w = .long z) ∨ (i = .dreturn ∧ t = .double ∧ ∃ z, w = .double z) ∨ (i = .freturn ∧ t = .float ∧ ∃ z, w = .float z) ∨ (i = .areturn ∧ t.isReference = true ∧ w.isRef = true))
    (hd : decode c.code pc = .ok (i, 1)) (hC : cells ≤ C) (hN : slots ≤ N) (hq : Q (some w) T.heap locs) : own_Ends p e below (own_Got s Q C N) (T.setTop (mkF m pc Ls (w :: rest))) := by
  obtain ⟨fs, hr, hrun, hended, hW, hsame⟩ := X.leave (v := some w) (fun h => by rw [hret] at h; cases h) lk
  exact ⟨_, _, retOut X hx hret hn hi hd hr, hrun, hended, _, _, rfl, hq, ⟨_, rfl⟩, hW, hsame.mono hC hN⟩
theorem own_retI (X : Stand p l e R s m args below meth c T locs cells slots) (hx : p.tables.exec = Jvm.exec) (lk : meth.locks = false) {pc : Nat} {Ls : Array Slot} {z : Int32} {rest : List Value} (hret : meth.sig.returnType = some .int)
    (hd : decode c.code pc = .ok (.ireturn, 1)) (hC : cells ≤ C) (hN : slots ≤ N) (hq : Q (some (.int z)) T.heap locs) : own_Ends p e below (own_Got s Q C N) (T.setTop (mkF m pc Ls (.int z :: rest))) :=
  own_ret X hx lk hret rfl (Or.inl ⟨rfl, Or.inl rfl, _, rfl⟩) hd hC hN hq
theorem own_retZ (X : Stand p l e R s m args below meth c T locs cells slots) (hx : p.tables.exec = Jvm.exec) (lk : meth.locks = false) {pc : Nat} {Ls : Array Slot} {z : Int32} {rest : List Value} (hret : meth.sig.returnType = some .boolean) (hn : narrow .boolean (.int z) = .int z)
    (hd : decode c.code pc = .ok (.ireturn, 1)) (hC : cells ≤ C) (hN : slots ≤ N) (hq : Q (some (.int z)) T.heap locs) : own_Ends p e below (own_Got s Q C N) (T.setTop (mkF m pc Ls (.int z :: rest))) :=
  own_ret X hx lk hret hn (Or.inl ⟨rfl, Or.inr (Or.inl rfl), _, rfl⟩) hd hC hN hq
theorem own_retJ (X : Stand p l e R s m args below meth c T locs cells slots) (hx : p.tables.exec = Jvm.exec) (lk : meth.locks = false) {pc : Nat} {Ls : Array Slot} {z : Int64} {rest : List Value} (hret : meth.sig.returnType = some .long)
    (hd : decode c.code pc = .ok (.lreturn, 1)) (hC : cells ≤ C) (hN : slots ≤ N) (hq : Q (some (.long z)) T.heap locs) : own_Ends p e below (own_Got s Q C N) (T.setTop (mkF m pc Ls (.long z :: rest))) :=
  own_ret X hx lk hret rfl (Or.inr (Or.inl ⟨rfl, rfl, _, rfl⟩)) hd hC hN hq
theorem own_retR (X : Stand p l e R s m args below meth c T locs cells slots) (hx : p.tables.exec = Jvm.exec) (lk : meth.locks = false) {pc : Nat} {Ls : Array Slot} {w : Value} {t : FieldType} {rest : List Value} (hret : meth.sig.returnType = some t) (ht : t.isReference = true) (hw : w.isRef = true)
    (hd : decode c.code pc = .ok (.areturn, 1)) (hC : cells ≤ C) (hN : slots ≤ N) (hq : Q (some w) T.heap locs) : own_Ends p e below (own_Got s Q C N) (T.setTop (mkF m pc Ls (w :: rest))) :=
  own_ret X hx lk hret (by rcases ref_cases hw with rfl | ⟨a, rfl⟩ <;> cases t <;> first | rfl | exact absurd ht (by decide)) (Or.inr (Or.inr (Or.inr (Or.inr ⟨rfl, ht, hw⟩)))) hd hC hN hq
theorem own_retV (X : Stand p l e R s m args below meth c T locs cells slots) (hx : p.tables.exec = Jvm.exec) (lk : meth.locks = false) {pc : Nat} {Ls : Array Slot} {st : List Value} (hret : meth.sig.returnType = none)
    (hd : decode c.code pc = .ok (.return_, 1)) (hC : cells ≤ C) (hN : slots ≤ N) (hq : Q none T.heap locs) : own_Ends p e below (own_Got s Q C N) (T.setTop (mkF m pc Ls [])) := by
  obtain ⟨fs, hr, hrun, hended, hW, hsame⟩ := X.leave (v := none) (fun _ => rfl) lk
  exact ⟨_, _, X.returnOut hx hret hd hr, hrun, hended, _, _, rfl, hq, ⟨_, rfl⟩, hW, hsame.mono hC hN⟩
theorem own_fldI {Z : State} {a : Addr} {av : Array Value} {t : Term} {k : Int32} {C n d : String} (ev : t.eval av Z none [] Z = some (.ref a)) (h : (Jvm.Cond.eq (.field t C n d) (.int k)).value av Z none Z [] = some true) : Fld Z Z.heap a C n d (.int k) := by
  obtain ⟨x, y, ex, ey, k1, k2⟩ := cmp_v (Or.inl h)
  cases (Term.int_eval (args := av) (first := Z) (o := none) (idx := []) (s := Z) k).symm.trans ey
  obtain ⟨z, rfl⟩ := k2
  obtain rfl : z = k := gotT (Cond.eq_ints ex (Term.int_eval k)) h
  exact Fld.start ((fld_at ev).symm.trans ex)
theorem own_fldJ {Z : State} {a : Addr} {av : Array Value} {t : Term} {k : Int64} {C n d : String} (ev : t.eval av Z none [] Z = some (.ref a)) (h : (Jvm.Cond.eq (.field t C n d) (.long k)).value av Z none Z [] = some true) : Fld Z Z.heap a C n d (.long k) := by
  obtain ⟨x, y, ex, ey, k1, k2⟩ := cmp_v (Or.inl h)
  cases (long_at (args := av) (first := Z) (o := none) (idx := []) (s := Z) k).symm.trans ey
  obtain ⟨z, rfl⟩ := k2
  obtain rfl : z = k := gotT (eq_L ex (long_at k)) h
  exact Fld.start ((fld_at ev).symm.trans ex)
theorem own_staJ {Z : State} {av : Array Value} {k : Int64} {t : Term} (h : (Jvm.Cond.eq t (.long k)).value av Z none Z [] = some true) : t.eval av Z none [] Z = some (.long k) := by
  obtain ⟨x, y, ex, ey, k1, k2⟩ := cmp_v (Or.inl h)
  cases (long_at (args := av) (first := Z) (o := none) (idx := []) (s := Z) k).symm.trans ey
  obtain ⟨z, rfl⟩ := k2
  obtain rfl : z = k := gotT (eq_L ex (long_at k)) h
  exact ex
theorem own_staI {Z : State} {av : Array Value} {k : Int32} {t : Term} (h : (Jvm.Cond.eq t (.int k)).value av Z none Z [] = some true) : t.eval av Z none [] Z = some (.int k) := by
  obtain ⟨x, y, ex, ey, k1, k2⟩ := cmp_v (Or.inl h)
  cases (Term.int_eval (args := av) (first := Z) (o := none) (idx := []) (s := Z) k).symm.trans ey
  obtain ⟨z, rfl⟩ := k2
  obtain rfl : z = k := gotT (Cond.eq_ints ex (Term.int_eval k)) h
  exact ex
end Own
theorem own_d1_0 : decode prog_51_method_12_code 0 = .ok (.aload_n 0, 1) := by decide +kernel
theorem own_d1_1 : decode prog_51_method_12_code 1 = .ok (.getfield 56, 3) := by decide +kernel
theorem own_d1_4 : decode prog_51_method_12_code 4 = .ok (.ifCond .eq 16, 3) := by decide +kernel
theorem own_d1_7 : decode prog_51_method_12_code 7 = .ok (.lconst 1, 1) := by decide +kernel
theorem own_d1_8 : decode prog_51_method_12_code 8 = .ok (.aload_n 0, 1) := by decide +kernel
theorem own_d1_9 : decode prog_51_method_12_code 9 = .ok (.getfield 52, 3) := by decide +kernel
theorem own_d1_12 : decode prog_51_method_12_code 12 = .ok (.iconst 1, 1) := by decide +kernel
theorem own_d1_13 : decode prog_51_method_12_code 13 = .ok (.isub, 1) := by decide +kernel
theorem own_d1_14 : decode prog_51_method_12_code 14 = .ok (.lshl, 1) := by decide +kernel
theorem own_d1_15 : decode prog_51_method_12_code 15 = .ok (.lconst 1, 1) := by decide +kernel
theorem own_d1_16 : decode prog_51_method_12_code 16 = .ok (.lsub, 1) := by decide +kernel
theorem own_d1_17 : decode prog_51_method_12_code 17 = .ok (.goto 11, 3) := by decide +kernel
theorem own_d1_20 : decode prog_51_method_12_code 20 = .ok (.lconst 1, 1) := by decide +kernel
theorem own_d1_21 : decode prog_51_method_12_code 21 = .ok (.aload_n 0, 1) := by decide +kernel
theorem own_d1_22 : decode prog_51_method_12_code 22 = .ok (.getfield 52, 3) := by decide +kernel
theorem own_d1_25 : decode prog_51_method_12_code 25 = .ok (.lshl, 1) := by decide +kernel
theorem own_d1_26 : decode prog_51_method_12_code 26 = .ok (.lconst 1, 1) := by decide +kernel
theorem own_d1_27 : decode prog_51_method_12_code 27 = .ok (.lsub, 1) := by decide +kernel
theorem own_d1_28 : decode prog_51_method_12_code 28 = .ok (.lreturn, 1) := by decide +kernel
theorem own_ef_own_max (m : MethodId) (x0 : Addr) : entryFrame m #[(.ref x0)] 1 = mkF m 0 #[.val (.ref x0)] [] := by first | (simp [entryFrame, mkF, argsToLocals, Value.category]; done) | rfl
def Q_own_max (Z : State) (a : Addr) (sg : Int32) (b : Int32) (r : Int64) (h0 : Heap) (n0 : Nat) (v : Option Value) (h : Heap) (L : List Loc) : Prop := v = some (.long r) ∧ Fr n0 L ∧ h = h0
theorem own_pn_com_example_pathwright_pathwright_code_ValueType : plainName "com/example/pathwright/pathwright/code/ValueType" = true := by first | (simp [plainName, overriddenIn]; done) | decide +kernel
set_option maxRecDepth 65536 in
set_option maxHeartbeats 40000000 in
theorem own_max (l : Launch) (Z : State) (a0 : Array Value) (hw : ∀ d ∈ tables_1, d.before a0 Z = true) (ws : List Jvm.Cond) (a : Addr) (sg : Int32) (b : Int32) (r : Int64) (h0 : Heap) (n0 : Nat) (O0 : Old Z n0 h0) (F1 : Fld Z Z.heap a "com/example/pathwright/pathwright/code/ValueType" "signed" "Z" (.int sg)) (F2 : Fld Z Z.heap a "com/example/pathwright/pathwright/code/ValueType" "bits" "I" (.int b)) (hr : r = if sg = (0 : Int32) then ((1 : Int64) <<< (b &&& 0x3f).toInt64) - (1 : Int64) else ((1 : Int64) <<< ((b - (1 : Int32)) &&& 0x3f).toInt64) - (1 : Int64)) :
    MetFree l (⟨"com/example/pathwright/pathwright/code/ValueType", "max", "()J"⟩ : MethodName) (head1 (Jvm.Cond.code (⟨"com/example/pathwright/pathwright/code/ValueType", "max", "()J"⟩ : MethodName) prog_51_method_12_code 1 (some .long) :: ws) ({ frames := 0, cells := 0, slots := 0, locals := 0 } : Room)) (fun args_ U => args_ = #[(.ref a)] ∧ Z.Warmed39 U.vm ∧ U.heap = h0) (fun _ _ _ _ _ => True) (fun _ U o U' => ∃ v L, o = .returned v ∧ Q_own_max Z a sg b r h0 n0 v U'.heap L ∧ FrameEnd U o U' L ({ frames := 0, cells := 0, slots := 0, locals := 0 } : Room).cells ({ frames := 0, cells := 0, slots := 0, locals := 0 } : Room).slots) := by
  refine MetFree.of_bodySF (plainFor_of_name own_pn_com_example_pathwright_pathwright_code_ValueType) hisR ?_
  intro p e s m args below meth c s₁ Bd hml0 hP hK
  obtain ⟨rfl, hZ, hh⟩ := hP
  have hx := Bd.exec
  have hby := Bd.bytes
  have hml : c.maxLocals = 1 := hml0
  have hown : s.vm.findClass "com/example/pathwright/pathwright/code/ValueType" = some m.cls := findClass_of_methodNamed Bd.named
  have hnm := (name_of_methodNamed Bd.named Bd.method).1
  have X0 : Stand p l e ({ frames := 0, cells := 0, slots := 0, locals := 0 } : Room) s m #[(.ref a)] below meth c s₁ [] 0 0 := Stand.of_body Bd
  have e0 : s₁.heap = h0 := by rw [← hh, Bd.state]; rfl
  have N0 := Fr.nil n0
  show own_Ends p e below (own_Got s (Q_own_max Z a sg b r h0 n0) ({ frames := 0, cells := 0, slots := 0, locals := 0 } : Room).cells ({ frames := 0, cells := 0, slots := 0, locals := 0 } : Room).slots) (s₁.setTop (entryFrame m #[(.ref a)] 1))
  rw [own_ef_own_max m a]
  refine own_go (fun _ k => XS.aloadN X0.here hx rfl (hb hby own_d1_0) rfl rfl k) ?_
  show own_Ends _ _ _ _ (s₁.setTop (mkF m 1 #[.val (.ref a)] [(.ref a)]))
  obtain ⟨T1, X1, e1, st1⟩ := getF X0 hx hZ hown (host := "") (Or.inl (hw _ (List.mem_of_getElem? (i := 9) rfl))) Via.refl e0 (F1.ext O0.2) (g := (mkF m 1 #[.val (.ref a)] [(.ref a)])) rfl rfl (hb hby own_d1_1)
  refine own_go st1 ?_
  show own_Ends _ _ _ _ (T1.setTop (mkF m 4 #[.val (.ref a)] [(.int sg)]))
  by_cases hc4_1 : sg = (0 : Int32)
  · refine own_go (fun _ k => XS.ifYes X1.here hx rfl (pc0 := 4) (pc' := 20) rfl (hb hby own_d1_4) rfl ((if0 _ _).trans (teq hc4_1).1) (by decide) (by decide) k) ?_
    show own_Ends _ _ _ _ (T1.setTop (mkF m 20 #[.val (.ref a)] []))
    refine own_go (fun _ k => XS.lconst X1.here hx rfl (hb hby own_d1_20) k) ?_
    show own_Ends _ _ _ _ (T1.setTop (mkF m 21 #[.val (.ref a)] [(.long (1 : Int64))]))
    refine own_go (fun _ k => XS.aloadN X1.here hx rfl (hb hby own_d1_21) rfl rfl k) ?_
    show own_Ends _ _ _ _ (T1.setTop (mkF m 22 #[.val (.ref a)] [(.ref a), (.long (1 : Int64))]))
    obtain ⟨T3, X3, e3, st3⟩ := getF X1 hx hZ hown (host := "") (Or.inl (hw _ (List.mem_of_getElem? (i := 11) rfl))) Via.refl e1 (F2.ext O0.2) (g := (mkF m 22 #[.val (.ref a)] [(.ref a), (.long (1 : Int64))])) rfl rfl (hb hby own_d1_22)
    refine own_go st3 ?_
    show own_Ends _ _ _ _ (T3.setTop (mkF m 25 #[.val (.ref a)] [(.int b), (.long (1 : Int64))]))
    refine own_go (fun _ k => XS.lshl X3.here hx rfl (hb hby own_d1_25) rfl k) ?_
    show own_Ends _ _ _ _ (T3.setTop (mkF m 26 #[.val (.ref a)] [(.long ((1 : Int64) <<< (b &&& 0x3f).toInt64))]))
    refine own_go (fun _ k => XS.lconst X3.here hx rfl (hb hby own_d1_26) k) ?_
    show own_Ends _ _ _ _ (T3.setTop (mkF m 27 #[.val (.ref a)] [(.long (1 : Int64)), (.long ((1 : Int64) <<< (b &&& 0x3f).toInt64))]))
    refine own_go (fun _ k => XS.lsub X3.here hx rfl (hb hby own_d1_27) rfl k) ?_
    show own_Ends _ _ _ _ (T3.setTop (mkF m 28 #[.val (.ref a)] [(.long (((1 : Int64) <<< (b &&& 0x3f).toInt64) - (1 : Int64)))]))
    exact own_retJ X3 hx (BodyLoose.notSynchronized Bd) Bd.returns (hb hby own_d1_28) (by decide) (by decide) (by rw [e3]; exact ⟨by rw [hr, if_pos hc4_1], N0, rfl⟩)
  · refine own_go (fun _ k => XS.ifNo X1.here hx rfl (hb hby own_d1_4) rfl ((if0 _ _).trans (feq hc4_1).1) k) ?_
    show own_Ends _ _ _ _ (T1.setTop (mkF m 7 #[.val (.ref a)] []))
    refine own_go (fun _ k => XS.lconst X1.here hx rfl (hb hby own_d1_7) k) ?_
    show own_Ends _ _ _ _ (T1.setTop (mkF m 8 #[.val (.ref a)] [(.long (1 : Int64))]))
    refine own_go (fun _ k => XS.aloadN X1.here hx rfl (hb hby own_d1_8) rfl rfl k) ?_
    show own_Ends _ _ _ _ (T1.setTop (mkF m 9 #[.val (.ref a)] [(.ref a), (.long (1 : Int64))]))
    obtain ⟨T4, X4, e4, st4⟩ := getF X1 hx hZ hown (host := "") (Or.inl (hw _ (List.mem_of_getElem? (i := 11) rfl))) Via.refl e1 (F2.ext O0.2) (g := (mkF m 9 #[.val (.ref a)] [(.ref a), (.long (1 : Int64))])) rfl rfl (hb hby own_d1_9)
    refine own_go st4 ?_
    show own_Ends _ _ _ _ (T4.setTop (mkF m 12 #[.val (.ref a)] [(.int b), (.long (1 : Int64))]))
    refine own_go (fun _ k => XS.iconst X4.here hx rfl (hb hby own_d1_12) k) ?_
    show own_Ends _ _ _ _ (T4.setTop (mkF m 13 #[.val (.ref a)] [(.int (1 : Int32)), (.int b), (.long (1 : Int64))]))
    refine own_go (fun _ k => XS.isub X4.here hx rfl (hb hby own_d1_13) rfl k) ?_
    show own_Ends _ _ _ _ (T4.setTop (mkF m 14 #[.val (.ref a)] [(.int (b - (1 : Int32))), (.long (1 : Int64))]))
    refine own_go (fun _ k => XS.lshl X4.here hx rfl (hb hby own_d1_14) rfl k) ?_
    show own_Ends _ _ _ _ (T4.setTop (mkF m 15 #[.val (.ref a)] [(.long ((1 : Int64) <<< ((b - (1 : Int32)) &&& 0x3f).toInt64))]))
    refine own_go (fun _ k => XS.lconst X4.here hx rfl (hb hby own_d1_15) k) ?_
    show own_Ends _ _ _ _ (T4.setTop (mkF m 16 #[.val (.ref a)] [(.long (1 : Int64)), (.long ((1 : Int64) <<< ((b - (1 : Int32)) &&& 0x3f).toInt64))]))
    refine own_go (fun _ k => XS.lsub X4.here hx rfl (hb hby own_d1_16) rfl k) ?_
    show own_Ends _ _ _ _ (T4.setTop (mkF m 17 #[.val (.ref a)] [(.long (((1 : Int64) <<< ((b - (1 : Int32)) &&& 0x3f).toInt64) - (1 : Int64)))]))
    refine own_go (fun _ k => XS.goto X4.here hx rfl (pc0 := 17) (pc' := 28) rfl (hb hby own_d1_17) (by decide) (by decide) k) ?_
    show own_Ends _ _ _ _ (T4.setTop (mkF m 28 #[.val (.ref a)] [(.long (((1 : Int64) <<< ((b - (1 : Int32)) &&& 0x3f).toInt64) - (1 : Int64)))]))
    exact own_retJ X4 hx (BodyLoose.notSynchronized Bd) Bd.returns (hb hby own_d1_28) (by decide) (by decide) (by rw [e4]; exact ⟨by rw [hr, if_neg hc4_1], N0, rfl⟩)
theorem own_pd0 : parseMethodDescriptor "()J" = some ⟨[], some .long⟩ := by decide +kernel
theorem own_ef_own_law (m : MethodId) (x0 : Int32) : entryFrame m #[(.int x0)] maxLocals = mkF m 0 #[.val (.int x0), .unset, .unset, .unset, .unset] [] := by first | (simp [entryFrame, mkF, argsToLocals, Value.category, maxLocals]; done) | rfl
def Q_own_law (Z : State) (p0 : Int32) (a_BOOLEAN : Addr) (a_SHORT : Addr) (a_CHAR : Addr) (a_BYTE : Addr) (a_LONG : Addr) (a_INT : Addr) (h0 : Heap) (n0 : Nat) (v : Option Value) (h : Heap) (L : List Loc) : Prop := v = some (.int 1) ∧ Fr n0 L
theorem own_pn_com_example_pathwright_pathwright_code_ValueTypeMaxPinLaw : plainName "com/example/pathwright/pathwright/code/ValueTypeMaxPinLaw" = true := by first | (simp [plainName, overriddenIn]; done) | decide +kernel
set_option maxRecDepth 65536 in
set_option maxHeartbeats 40000000 in
theorem own_law (l : Launch) (Z : State) (a0 : Array Value) (hw : ∀ d ∈ tables_1, d.before a0 Z = true) (ws : List Jvm.Cond) (p0 : Int32) (a_BOOLEAN : Addr) (a_SHORT : Addr) (a_CHAR : Addr) (a_BYTE : Addr) (a_LONG : Addr) (a_INT : Addr) (h0 : Heap) (n0 : Nat) (O0 : Old Z n0 h0) (S_BOOLEAN : Sta Z Z.heap "com/example/pathwright/pathwright/code/ValueType" "BOOLEAN" "Lcom/example/pathwright/pathwright/code/ValueType;" (.ref a_BOOLEAN)) (E_BOOLEAN : Exa Z Z.heap a_BOOLEAN "com/example/pathwright/pathwright/code/ValueType") (F_BOOLEAN_signed : Fld Z Z.heap a_BOOLEAN "com/example/pathwright/pathwright/code/ValueType" "signed" "Z" (.int (0 : Int32))) (F_BOOLEAN_bits : Fld Z Z.heap a_BOOLEAN "com/example/pathwright/pathwright/code/ValueType" "bits" "I" (.int (1 : Int32))) (S_SHORT : Sta Z Z.heap "com/example/pathwright/pathwright/code/ValueType" "SHORT" "Lcom/example/pathwright/pathwright/code/ValueType;" (.ref a_SHORT)) (E_SHORT : Exa Z Z.heap a_SHORT "com/example/pathwright/pathwright/code/ValueType") (F_SHORT_signed : Fld Z Z.heap a_SHORT "com/example/pathwright/pathwright/code/ValueType" "signed" "Z" (.int (1 : Int32))) (F_SHORT_bits : Fld Z Z.heap a_SHORT "com/example/pathwright/pathwright/code/ValueType" "bits" "I" (.int (16 : Int32))) (S_CHAR : Sta Z Z.heap "com/example/pathwright/pathwright/code/ValueType" "CHAR" "Lcom/example/pathwright/pathwright/code/ValueType;" (.ref a_CHAR)) (E_CHAR : Exa Z Z.heap a_CHAR "com/example/pathwright/pathwright/code/ValueType") (F_CHAR_signed : Fld Z Z.heap a_CHAR "com/example/pathwright/pathwright/code/ValueType" "signed" "Z" (.int (0 : Int32))) (F_CHAR_bits : Fld Z Z.heap a_CHAR "com/example/pathwright/pathwright/code/ValueType" "bits" "I" (.int (16 : Int32))) (S_BYTE : Sta Z Z.heap "com/example/pathwright/pathwright/code/ValueType" "BYTE" "Lcom/example/pathwright/pathwright/code/ValueType;" (.ref a_BYTE)) (E_BYTE : Exa Z Z.heap a_BYTE "com/example/pathwright/pathwright/code/ValueType") (F_BYTE_signed : Fld Z Z.heap a_BYTE "com/example/pathwright/pathwright/code/ValueType" "signed" "Z" (.int (1 : Int32))) (F_BYTE_bits : Fld Z Z.heap a_BYTE "com/example/pathwright/pathwright/code/ValueType" "bits" "I" (.int (8 : Int32))) (S_LONG : Sta Z Z.heap "com/example/pathwright/pathwright/code/ValueType" "LONG" "Lcom/example/pathwright/pathwright/code/ValueType;" (.ref a_LONG)) (E_LONG : Exa Z Z.heap a_LONG "com/example/pathwright/pathwright/code/ValueType") (F_LONG_signed : Fld Z Z.heap a_LONG "com/example/pathwright/pathwright/code/ValueType" "signed" "Z" (.int (1 : Int32))) (F_LONG_bits : Fld Z Z.heap a_LONG "com/example/pathwright/pathwright/code/ValueType" "bits" "I" (.int (64 : Int32))) (S_INT : Sta Z Z.heap "com/example/pathwright/pathwright/code/ValueType" "INT" "Lcom/example/pathwright/pathwright/code/ValueType;" (.ref a_INT)) (E_INT : Exa Z Z.heap a_INT "com/example/pathwright/pathwright/code/ValueType") (F_INT_signed : Fld Z Z.heap a_INT "com/example/pathwright/pathwright/code/ValueType" "signed" "Z" (.int (1 : Int32))) (F_INT_bits : Fld Z Z.heap a_INT "com/example/pathwright/pathwright/code/ValueType" "bits" "I" (.int (32 : Int32))) :
    MetFree l x (head1 (Jvm.Cond.code x code maxLocals ret :: ws) room_1) (fun args_ U => args_ = #[(.int p0)] ∧ Z.Warmed39 U.vm ∧ U.heap = h0) (fun _ _ _ _ _ => True) (fun _ U o U' => ∃ v L, o = .returned v ∧ Q_own_law Z p0 a_BOOLEAN a_SHORT a_CHAR a_BYTE a_LONG a_INT h0 n0 v U'.heap L ∧ FrameEnd U o U' L 0 0) := by
  refine MetFree.of_bodySF (plainFor_of_name own_pn_com_example_pathwright_pathwright_code_ValueTypeMaxPinLaw) hisR ?_
  intro p e s m args below meth c s₁ Bd hml0 hP hK
  obtain ⟨rfl, hZ, hh⟩ := hP
  have hx := Bd.exec
  have hby := Bd.bytes
  have hml : c.maxLocals = 5 := hml0
  have hown : s.vm.findClass "com/example/pathwright/pathwright/code/ValueTypeMaxPinLaw" = some m.cls := findClass_of_methodNamed Bd.named
  have hnm := (name_of_methodNamed Bd.named Bd.method).1
  have X0 : Stand p l e room_1 s m #[(.int p0)] below meth c s₁ [] 0 0 := Stand.of_body Bd
  have e0 : s₁.heap = h0 := by rw [← hh, Bd.state]; rfl
  have N0 := Fr.nil n0
  show own_Ends p e below (own_Got s (Q_own_law Z p0 a_BOOLEAN a_SHORT a_CHAR a_BYTE a_LONG a_INT h0 n0) 0 0) (s₁.setTop (entryFrame m #[(.int p0)] maxLocals))
  rw [own_ef_own_law m p0]
  refine own_go (fun _ k => XS.iloadN X0.here hx rfl (hb hby at_0) rfl k) ?_
  show own_Ends _ _ _ _ (s₁.setTop (mkF m 1 #[.val (.int p0), .unset, .unset, .unset, .unset] [(.int p0)]))
  refine own_go (X0.ldcInt hx hown (mvT hZ (hw _ (List.mem_of_getElem? (i := 0) rfl))) (g := (mkF m 1 #[.val (.int p0), .unset, .unset, .unset, .unset] [(.int p0)])) rfl (hb hby at_1)) ?_
  show own_Ends _ _ _ _ (s₁.setTop (mkF m 3 #[.val (.int p0), .unset, .unset, .unset, .unset] [(.int (2147483647 : Int32)), (.int p0)]))
  refine own_go (fun _ k => XS.iand X0.here hx rfl (hb hby at_3) rfl k) ?_
  show own_Ends _ _ _ _ (s₁.setTop (mkF m 4 #[.val (.int p0), .unset, .unset, .unset, .unset] [(.int (p0 &&& (2147483647 : Int32)))]))
  refine own_go (fun _ k => XS.bipush X0.here hx rfl (hb hby at_4) k) ?_
  show own_Ends _ _ _ _ (s₁.setTop (mkF m 6 #[.val (.int p0), .unset, .unset, .unset, .unset] [(.int (6 : Int32)), (.int (p0 &&& (2147483647 : Int32)))]))
  refine own_go (fun _ k => iremM X0 hx rfl (hb hby at_6) rfl (by decide) k) ?_
  show own_Ends _ _ _ _ (s₁.setTop (mkF m 7 #[.val (.int p0), .unset, .unset, .unset, .unset] [(.int ((p0 &&& (2147483647 : Int32)) % (6 : Int32)))]))
  refine own_go (fun _ k => XS.istoreN X0.here hx rfl (hb hby at_7) rfl (l' := #[.val (.int p0), .val (.int ((p0 &&& (2147483647 : Int32)) % (6 : Int32))), .unset, .unset, .unset]) rfl k) ?_
  show own_Ends _ _ _ _ (s₁.setTop (mkF m 8 #[.val (.int p0), .val (.int ((p0 &&& (2147483647 : Int32)) % (6 : Int32))), .unset, .unset, .unset] []))
  refine own_go (fun _ k => XS.iloadN X0.here hx rfl (hb hby at_8) rfl k) ?_
  show own_Ends _ _ _ _ (s₁.setTop (mkF m 9 #[.val (.int p0), .val (.int ((p0 &&& (2147483647 : Int32)) % (6 : Int32))), .unset, .unset, .unset] [(.int ((p0 &&& (2147483647 : Int32)) % (6 : Int32)))]))
  by_cases hc9_0 : ((p0 &&& (2147483647 : Int32)) % (6 : Int32)) = (0 : Int32)
  · refine own_go (fun _ k => XS.ifNo X0.here hx rfl (hb hby at_9) rfl ((if0 _ _).trans (teq hc9_0).2) k) ?_
    show own_Ends _ _ _ _ (s₁.setTop (mkF m 12 #[.val (.int p0), .val (.int ((p0 &&& (2147483647 : Int32)) % (6 : Int32))), .unset, .unset, .unset] []))
    obtain ⟨T2, X2, e2, st2⟩ := getS2 X0 hx hZ hown (host := "") (Or.inl (hw _ (List.mem_of_getElem? (i := 1) rfl))) Via.refl e0 (S_BOOLEAN.ext O0.2) (g := (mkF m 12 #[.val (.int p0), .val (.int ((p0 &&& (2147483647 : Int32)) % (6 : Int32))), .unset, .unset, .unset] [])) rfl (hb hby at_12)
    refine own_go st2 ?_
    show own_Ends _ _ _ _ (T2.setTop (mkF m 15 #[.val (.int p0), .val (.int ((p0 &&& (2147483647 : Int32)) % (6 : Int32))), .unset, .unset, .unset] [(.ref a_BOOLEAN)]))
    refine own_go (fun _ k => XS.astoreN X2.here hx rfl (hb hby at_15) rfl rfl (l' := #[.val (.int p0), .val (.int ((p0 &&& (2147483647 : Int32)) % (6 : Int32))), .val (.ref a_BOOLEAN), .unset, .unset]) rfl k) ?_
    show own_Ends _ _ _ _ (T2.setTop (mkF m 16 #[.val (.int p0), .val (.int ((p0 &&& (2147483647 : Int32)) % (6 : Int32))), .val (.ref a_BOOLEAN), .unset, .unset] []))
    refine own_go (fun _ k => XS.lconst X2.here hx rfl (hb hby at_16) k) ?_
    show own_Ends _ _ _ _ (T2.setTop (mkF m 17 #[.val (.int p0), .val (.int ((p0 &&& (2147483647 : Int32)) % (6 : Int32))), .val (.ref a_BOOLEAN), .unset, .unset] [(.long (1 : Int64))]))
    refine own_go (fun _ k => XS.lstoreN X2.here hx rfl (hb hby at_17) rfl (l' := #[.val (.int p0), .val (.int ((p0 &&& (2147483647 : Int32)) % (6 : Int32))), .val (.ref a_BOOLEAN), .val (.long (1 : Int64)), .second]) rfl k) ?_
    show own_Ends _ _ _ _ (T2.setTop (mkF m 18 #[.val (.int p0), .val (.int ((p0 &&& (2147483647 : Int32)) % (6 : Int32))), .val (.ref a_BOOLEAN), .val (.long (1 : Int64)), .second] []))
    refine own_go (fun _ k => XS.goto X2.here hx rfl (pc0 := 18) (pc' := 93) rfl (hb hby at_18) (by decide) (by decide) k) ?_
    show own_Ends _ _ _ _ (T2.setTop (mkF m 93 #[.val (.int p0), .val (.int ((p0 &&& (2147483647 : Int32)) % (6 : Int32))), .val (.ref a_BOOLEAN), .val (.long (1 : Int64)), .second] []))
    refine own_go (fun _ k => XS.aloadN X2.here hx rfl (hb hby at_93) rfl rfl k) ?_
    show own_Ends _ _ _ _ (T2.setTop (mkF m 94 #[.val (.int p0), .val (.int ((p0 &&& (2147483647 : Int32)) % (6 : Int32))), .val (.ref a_BOOLEAN), .val (.long (1 : Int64)), .second] [(.ref a_BOOLEAN)]))
    obtain ⟨cq3, kq3, q3a, q3b, q3c⟩ := isOf hZ e2 (E_BOOLEAN.ext O0.2)
    obtain ⟨_, _, ⟨T3, Lz3, kz3, nz3⟩, -, X3, ⟨Lc3, hQ3, l3, y3, z3⟩, st3⟩ := X2.virtualBack hx (y := (⟨"com/example/pathwright/pathwright/code/ValueType", "max", "()J"⟩ : MethodName)) (z := (⟨"com/example/pathwright/pathwright/code/ValueType", "max", "()J"⟩ : MethodName)) hown (mvT hZ (hw _ (List.mem_of_getElem? (i := 4) rfl))) (mvT hZ (hw _ (List.mem_of_getElem? (i := 5) rfl))) (notFace_of_selects (args := #[]) (mvT hZ (hw _ (List.mem_of_getElem? (i := 7) rfl)))) (mvT hZ (hw _ (List.mem_of_getElem? (i := 7) rfl))) (mvT hZ (hw _ (List.mem_of_getElem? (i := 6) rfl))) (by decide) (backOf (W := 0) (own_max l Z a0 hw [] a_BOOLEAN (0 : Int32) (1 : Int32) (1 : Int64) h0 n0 O0 F_BOOLEAN_signed F_BOOLEAN_bits (by decide +kernel)) hZ (hw _ (List.mem_of_getElem? (i := 8) rfl)) (hw _ (List.mem_of_getElem? (i := 2) rfl)) (by decide) (by decide)) q3a q3c (g := (mkF m 94 #[.val (.int p0), .val (.int ((p0 &&& (2147483647 : Int32)) % (6 : Int32))), .val (.ref a_BOOLEAN), .val (.long (1 : Int64)), .second] [(.ref a_BOOLEAN)])) rfl (by rw [hml]; rfl) (Steps.refl _) (argsL := []) (rest := []) (lenOf own_pd0 rfl) rfl (by show 2 * 0 + _ ≤ _; exact Nat.le_of_eq rfl) (hb hby at_94) (fun _ _ => ⟨rfl, e2, (by decide : 0 + 0 ≤ _), (by decide : 0 + 0 ≤ _)⟩)
    dsimp only [Pt.U, Pt.locs, Pt.cells, Pt.slots] at X3 l3 y3 z3 st3 hQ3
    subst l3 y3 z3
    obtain ⟨rfl, Nq3, e3⟩ := hQ3
    have N3 := Fr.app N0 Nq3
    refine own_tr st3 ?_
    show own_Ends _ _ _ _ (T3.setTop (mkF m 97 #[.val (.int p0), .val (.int ((p0 &&& (2147483647 : Int32)) % (6 : Int32))), .val (.ref a_BOOLEAN), .val (.long (1 : Int64)), .second] [(.long (1 : Int64))]))
    refine own_go (fun _ k => XS.lloadN X3.here hx rfl (hb hby at_97) rfl k) ?_
    show own_Ends _ _ _ _ (T3.setTop (mkF m 98 #[.val (.int p0), .val (.int ((p0 &&& (2147483647 : Int32)) % (6 : Int32))), .val (.ref a_BOOLEAN), .val (.long (1 : Int64)), .second] [(.long (1 : Int64)), (.long (1 : Int64))]))
    refine own_go (fun _ k => XS.lcmp X3.here hx rfl (hb hby at_98) rfl k) ?_
    show own_Ends _ _ _ _ (T3.setTop (mkF m 99 #[.val (.int p0), .val (.int ((p0 &&& (2147483647 : Int32)) % (6 : Int32))), .val (.ref a_BOOLEAN), .val (.long (1 : Int64)), .second] [(.int (lcmpW (1 : Int64) (1 : Int64)))]))
    refine own_go (fun _ k => XS.ifNo X3.here hx rfl (hb hby at_99) rfl ((if0 _ _).trans (teq ((lw_eq (1 : Int64) (1 : Int64)).mpr rfl)).2) k) ?_
    show own_Ends _ _ _ _ (T3.setTop (mkF m 102 #[.val (.int p0), .val (.int ((p0 &&& (2147483647 : Int32)) % (6 : Int32))), .val (.ref a_BOOLEAN), .val (.long (1 : Int64)), .second] []))
    refine own_go (fun _ k => XS.iconst X3.here hx rfl (hb hby at_102) k) ?_
    show own_Ends _ _ _ _ (T3.setTop (mkF m 103 #[.val (.int p0), .val (.int ((p0 &&& (2147483647 : Int32)) % (6 : Int32))), .val (.ref a_BOOLEAN), .val (.long (1 : Int64)), .second] [(.int (1 : Int32))]))
    refine own_go (fun _ k => XS.goto X3.here hx rfl (pc0 := 103) (pc' := 107) rfl (hb hby at_103) (by decide) (by decide) k) ?_
    show own_Ends _ _ _ _ (T3.setTop (mkF m 107 #[.val (.int p0), .val (.int ((p0 &&& (2147483647 : Int32)) % (6 : Int32))), .val (.ref a_BOOLEAN), .val (.long (1 : Int64)), .second] [(.int (1 : Int32))]))
    exact own_retZ X3 hx (BodyLoose.notSynchronized Bd) Bd.returns rfl (hb hby at_107) (by decide) (by decide) (by rw [e3]; exact ⟨rfl, N3⟩)
  · refine own_go (fun _ k => XS.ifYes X0.here hx rfl (pc0 := 9) (pc' := 21) rfl (hb hby at_9) rfl ((if0 _ _).trans (feq hc9_0).2) (by decide) (by decide) k) ?_
    show own_Ends _ _ _ _ (s₁.setTop (mkF m 21 #[.val (.int p0), .val (.int ((p0 &&& (2147483647 : Int32)) % (6 : Int32))), .unset, .unset, .unset] []))
    refine own_go (fun _ k => XS.iloadN X0.here hx rfl (hb hby at_21) rfl k) ?_
    show own_Ends _ _ _ _ (s₁.setTop (mkF m 22 #[.val (.int p0), .val (.int ((p0 &&& (2147483647 : Int32)) % (6 : Int32))), .unset, .unset, .unset] [(.int ((p0 &&& (2147483647 : Int32)) % (6 : Int32)))]))
    refine own_go (fun _ k => XS.iconst X0.here hx rfl (hb hby at_22) k) ?_
    show own_Ends _ _ _ _ (s₁.setTop (mkF m 23 #[.val (.int p0), .val (.int ((p0 &&& (2147483647 : Int32)) % (6 : Int32))), .unset, .unset, .unset] [(.int (1 : Int32)), (.int ((p0 &&& (2147483647 : Int32)) % (6 : Int32)))]))
    by_cases hc23_3 : ((p0 &&& (2147483647 : Int32)) % (6 : Int32)) = (1 : Int32)
    · refine own_go (fun _ k => XS.icmpNo X0.here hx rfl (hb hby at_23) rfl (teq hc23_3).2 k) ?_
      show own_Ends _ _ _ _ (s₁.setTop (mkF m 26 #[.val (.int p0), .val (.int ((p0 &&& (2147483647 : Int32)) % (6 : Int32))), .unset, .unset, .unset] []))
      obtain ⟨T5, X5, e5, st5⟩ := getS2 X0 hx hZ hown (host := "") (Or.inl (hw _ (List.mem_of_getElem? (i := 19) rfl))) Via.refl e0 (S_BYTE.ext O0.2) (g := (mkF m 26 #[.val (.int p0), .val (.int ((p0 &&& (2147483647 : Int32)) % (6 : Int32))), .unset, .unset, .unset] [])) rfl (hb hby at_26)
      refine own_go st5 ?_
      show own_Ends _ _ _ _ (T5.setTop (mkF m 29 #[.val (.int p0), .val (.int ((p0 &&& (2147483647 : Int32)) % (6 : Int32))), .unset, .unset, .unset] [(.ref a_BYTE)]))
      refine own_go (fun _ k => XS.astoreN X5.here hx rfl (hb hby at_29) rfl rfl (l' := #[.val (.int p0), .val (.int ((p0 &&& (2147483647 : Int32)) % (6 : Int32))), .val (.ref a_BYTE), .unset, .unset]) rfl k) ?_
      show own_Ends _ _ _ _ (T5.setTop (mkF m 30 #[.val (.int p0), .val (.int ((p0 &&& (2147483647 : Int32)) % (6 : Int32))), .val (.ref a_BYTE), .unset, .unset] []))
      refine own_go (X5.ldc2Long hx hown (mvT hZ (hw _ (List.mem_of_getElem? (i := 21) rfl))) (g := (mkF m 30 #[.val (.int p0), .val (.int ((p0 &&& (2147483647 : Int32)) % (6 : Int32))), .val (.ref a_BYTE), .unset, .unset] [])) rfl (hb hby at_30)) ?_
      show own_Ends _ _ _ _ (T5.setTop (mkF m 33 #[.val (.int p0), .val (.int ((p0 &&& (2147483647 : Int32)) % (6 : Int32))), .val (.ref a_BYTE), .unset, .unset] [(.long (127 : Int64))]))
      refine own_go (fun _ k => XS.lstoreN X5.here hx rfl (hb hby at_33) rfl (l' := #[.val (.int p0), .val (.int ((p0 &&& (2147483647 : Int32)) % (6 : Int32))), .val (.ref a_BYTE), .val (.long (127 : Int64)), .second]) rfl k) ?_
      show own_Ends _ _ _ _ (T5.setTop (mkF m 34 #[.val (.int p0), .val (.int ((p0 &&& (2147483647 : Int32)) % (6 : Int32))), .val (.ref a_BYTE), .val (.long (127 : Int64)), .second] []))
      refine own_go (fun _ k => XS.goto X5.here hx rfl (pc0 := 34) (pc' := 93) rfl (hb hby at_34) (by decide) (by decide) k) ?_
      show own_Ends _ _ _ _ (T5.setTop (mkF m 93 #[.val (.int p0), .val (.int ((p0 &&& (2147483647 : Int32)) % (6 : Int32))), .val (.ref a_BYTE), .val (.long (127 : Int64)), .second] []))
      refine own_go (fun _ k => XS.aloadN X5.here hx rfl (hb hby at_93) rfl rfl k) ?_
      show own_Ends _ _ _ _ (T5.setTop (mkF m 94 #[.val (.int p0), .val (.int ((p0 &&& (2147483647 : Int32)) % (6 : Int32))), .val (.ref a_BYTE), .val (.long (127 : Int64)), .second] [(.ref a_BYTE)]))
      obtain ⟨cq6, kq6, q6a, q6b, q6c⟩ := isOf hZ e5 (E_BYTE.ext O0.2)
      obtain ⟨_, _, ⟨T6, Lz6, kz6, nz6⟩, -, X6, ⟨Lc6, hQ6, l6, y6, z6⟩, st6⟩ := X5.virtualBack hx (y := (⟨"com/example/pathwright/pathwright/code/ValueType", "max", "()J"⟩ : MethodName)) (z := (⟨"com/example/pathwright/pathwright/code/ValueType", "max", "()J"⟩ : MethodName)) hown (mvT hZ (hw _ (List.mem_of_getElem? (i := 4) rfl))) (mvT hZ (hw _ (List.mem_of_getElem? (i := 5) rfl))) (notFace_of_selects (args := #[]) (mvT hZ (hw _ (List.mem_of_getElem? (i := 7) rfl)))) (mvT hZ (hw _ (List.mem_of_getElem? (i := 7) rfl))) (mvT hZ (hw _ (List.mem_of_getElem? (i := 6) rfl))) (by decide) (backOf (W := 0) (own_max l Z a0 hw [] a_BYTE (1 : Int32) (8 : Int32) (127 : Int64) h0 n0 O0 F_BYTE_signed F_BYTE_bits (by decide +kernel)) hZ (hw _ (List.mem_of_getElem? (i := 8) rfl)) (hw _ (List.mem_of_getElem? (i := 2) rfl)) (by decide) (by decide)) q6a q6c (g := (mkF m 94 #[.val (.int p0), .val (.int ((p0 &&& (2147483647 : Int32)) % (6 : Int32))), .val (.ref a_BYTE), .val (.long (127 : Int64)), .second] [(.ref a_BYTE)])) rfl (by rw [hml]; rfl) (Steps.refl _) (argsL := []) (rest := []) (lenOf own_pd0 rfl) rfl (by show 2 * 0 + _ ≤ _; exact Nat.le_of_eq rfl) (hb hby at_94) (fun _ _ => ⟨rfl, e5, (by decide : 0 + 0 ≤ _), (by decide : 0 + 0 ≤ _)⟩)
      dsimp only [Pt.U, Pt.locs, Pt.cells, Pt.slots] at X6 l6 y6 z6 st6 hQ6
      subst l6 y6 z6
      obtain ⟨rfl, Nq6, e6⟩ := hQ6
      have N6 := Fr.app N0 Nq6
      refine own_tr st6 ?_
      show own_Ends _ _ _ _ (T6.setTop (mkF m 97 #[.val (.int p0), .val (.int ((p0 &&& (2147483647 : Int32)) % (6 : Int32))), .val (.ref a_BYTE), .val (.long (127 : Int64)), .second] [(.long (127 : Int64))]))
      refine own_go (fun _ k => XS.lloadN X6.here hx rfl (hb hby at_97) rfl k) ?_
      show own_Ends _ _ _ _ (T6.setTop (mkF m 98 #[.val (.int p0), .val (.int ((p0 &&& (2147483647 : Int32)) % (6 : Int32))), .val (.ref a_BYTE), .val (.long (127 : Int64)), .second] [(.long (127 : Int64)), (.long (127 : Int64))]))
      refine own_go (fun _ k => XS.lcmp X6.here hx rfl (hb hby at_98) rfl k) ?_
      show own_Ends _ _ _ _ (T6.setTop (mkF m 99 #[.val (.int p0), .val (.int ((p0 &&& (2147483647 : Int32)) % (6 : Int32))), .val (.ref a_BYTE), .val (.long (127 : Int64)), .second] [(.int (lcmpW (127 : Int64) (127 : Int64)))]))
      refine own_go (fun _ k => XS.ifNo X6.here hx rfl (hb hby at_99) rfl ((if0 _ _).trans (teq ((lw_eq (127 : Int64) (127 : Int64)).mpr rfl)).2) k) ?_
      show own_Ends _ _ _ _ (T6.setTop (mkF m 102 #[.val (.int p0), .val (.int ((p0 &&& (2147483647 : Int32)) % (6 : Int32))), .val (.ref a_BYTE), .val (.long (127 : Int64)), .second] []))
      refine own_go (fun _ k => XS.iconst X6.here hx rfl (hb hby at_102) k) ?_
      show own_Ends _ _ _ _ (T6.setTop (mkF m 103 #[.val (.int p0), .val (.int ((p0 &&& (2147483647 : Int32)) % (6 : Int32))), .val (.ref a_BYTE), .val (.long (127 : Int64)), .second] [(.int (1 : Int32))]))
      refine own_go (fun _ k => XS.goto X6.here hx rfl (pc0 := 103) (pc' := 107) rfl (hb hby at_103) (by decide) (by decide) k) ?_
      show own_Ends _ _ _ _ (T6.setTop (mkF m 107 #[.val (.int p0), .val (.int ((p0 &&& (2147483647 : Int32)) % (6 : Int32))), .val (.ref a_BYTE), .val (.long (127 : Int64)), .second] [(.int (1 : Int32))]))
      exact own_retZ X6 hx (BodyLoose.notSynchronized Bd) Bd.returns rfl (hb hby at_107) (by decide) (by decide) (by rw [e6]; exact ⟨rfl, N6⟩)
    · refine own_go (fun _ k => XS.icmpYes X0.here hx rfl (pc0 := 23) (pc' := 37) rfl (hb hby at_23) rfl (feq hc23_3).2 (by decide) (by decide) k) ?_
      show own_Ends _ _ _ _ (s₁.setTop (mkF m 37 #[.val (.int p0), .val (.int ((p0 &&& (2147483647 : Int32)) % (6 : Int32))), .unset, .unset, .unset] []))
      refine own_go (fun _ k => XS.iloadN X0.here hx rfl (hb hby at_37) rfl k) ?_
      show own_Ends _ _ _ _ (s₁.setTop (mkF m 38 #[.val (.int p0), .val (.int ((p0 &&& (2147483647 : Int32)) % (6 : Int32))), .unset, .unset, .unset] [(.int ((p0 &&& (2147483647 : Int32)) % (6 : Int32)))]))
      refine own_go (fun _ k => XS.iconst X0.here hx rfl (hb hby at_38) k) ?_
      show own_Ends _ _ _ _ (s₁.setTop (mkF m 39 #[.val (.int p0), .val (.int ((p0 &&& (2147483647 : Int32)) % (6 : Int32))), .unset, .unset, .unset] [(.int (2 : Int32)), (.int ((p0 &&& (2147483647 : Int32)) % (6 : Int32)))]))
      by_cases hc39_6 : ((p0 &&& (2147483647 : Int32)) % (6 : Int32)) = (2 : Int32)
      · refine own_go (fun _ k => XS.icmpNo X0.here hx rfl (hb hby at_39) rfl (teq hc39_6).2 k) ?_
        show own_Ends _ _ _ _ (s₁.setTop (mkF m 42 #[.val (.int p0), .val (.int ((p0 &&& (2147483647 : Int32)) % (6 : Int32))), .unset, .unset, .unset] []))
        obtain ⟨T8, X8, e8, st8⟩ := getS2 X0 hx hZ hown (host := "") (Or.inl (hw _ (List.mem_of_getElem? (i := 16) rfl))) Via.refl e0 (S_CHAR.ext O0.2) (g := (mkF m 42 #[.val (.int p0), .val (.int ((p0 &&& (2147483647 : Int32)) % (6 : Int32))), .unset, .unset, .unset] [])) rfl (hb hby at_42)
        refine own_go st8 ?_
        show own_Ends _ _ _ _ (T8.setTop (mkF m 45 #[.val (.int p0), .val (.int ((p0 &&& (2147483647 : Int32)) % (6 : Int32))), .unset, .unset, .unset] [(.ref a_CHAR)]))
        refine own_go (fun _ k => XS.astoreN X8.here hx rfl (hb hby at_45) rfl rfl (l' := #[.val (.int p0), .val (.int ((p0 &&& (2147483647 : Int32)) % (6 : Int32))), .val (.ref a_CHAR), .unset, .unset]) rfl k) ?_
        show own_Ends _ _ _ _ (T8.setTop (mkF m 46 #[.val (.int p0), .val (.int ((p0 &&& (2147483647 : Int32)) % (6 : Int32))), .val (.ref a_CHAR), .unset, .unset] []))
        refine own_go (X8.ldc2Long hx hown (mvT hZ (hw _ (List.mem_of_getElem? (i := 18) rfl))) (g := (mkF m 46 #[.val (.int p0), .val (.int ((p0 &&& (2147483647 : Int32)) % (6 : Int32))), .val (.ref a_CHAR), .unset, .unset] [])) rfl (hb hby at_46)) ?_
        show own_Ends _ _ _ _ (T8.setTop (mkF m 49 #[.val (.int p0), .val (.int ((p0 &&& (2147483647 : Int32)) % (6 : Int32))), .val (.ref a_CHAR), .unset, .unset] [(.long (65535 : Int64))]))
        refine own_go (fun _ k => XS.lstoreN X8.here hx rfl (hb hby at_49) rfl (l' := #[.val (.int p0), .val (.int ((p0 &&& (2147483647 : Int32)) % (6 : Int32))), .val (.ref a_CHAR), .val (.long (65535 : Int64)), .second]) rfl k) ?_
        show own_Ends _ _ _ _ (T8.setTop (mkF m 50 #[.val (.int p0), .val (.int ((p0 &&& (2147483647 : Int32)) % (6 : Int32))), .val (.ref a_CHAR), .val (.long (65535 : Int64)), .second] []))
        refine own_go (fun _ k => XS.goto X8.here hx rfl (pc0 := 50) (pc' := 93) rfl (hb hby at_50) (by decide) (by decide) k) ?_
        show own_Ends _ _ _ _ (T8.setTop (mkF m 93 #[.val (.int p0), .val (.int ((p0 &&& (2147483647 : Int32)) % (6 : Int32))), .val (.ref a_CHAR), .val (.long (65535 : Int64)), .second] []))
        refine own_go (fun _ k => XS.aloadN X8.here hx rfl (hb hby at_93) rfl rfl k) ?_
        show own_Ends _ _ _ _ (T8.setTop (mkF m 94 #[.val (.int p0), .val (.int ((p0 &&& (2147483647 : Int32)) % (6 : Int32))), .val (.ref a_CHAR), .val (.long (65535 : Int64)), .second] [(.ref a_CHAR)]))
        obtain ⟨cq9, kq9, q9a, q9b, q9c⟩ := isOf hZ e8 (E_CHAR.ext O0.2)
        obtain ⟨_, _, ⟨T9, Lz9, kz9, nz9⟩, -, X9, ⟨Lc9, hQ9, l9, y9, z9⟩, st9⟩ := X8.virtualBack hx (y := (⟨"com/example/pathwright/pathwright/code/ValueType", "max", "()J"⟩ : MethodName)) (z := (⟨"com/example/pathwright/pathwright/code/ValueType", "max", "()J"⟩ : MethodName)) hown (mvT hZ (hw _ (List.mem_of_getElem? (i := 4) rfl))) (mvT hZ (hw _ (List.mem_of_getElem? (i := 5) rfl))) (notFace_of_selects (args := #[]) (mvT hZ (hw _ (List.mem_of_getElem? (i := 7) rfl)))) (mvT hZ (hw _ (List.mem_of_getElem? (i := 7) rfl))) (mvT hZ (hw _ (List.mem_of_getElem? (i := 6) rfl))) (by decide) (backOf (W := 0) (own_max l Z a0 hw [] a_CHAR (0 : Int32) (16 : Int32) (65535 : Int64) h0 n0 O0 F_CHAR_signed F_CHAR_bits (by decide +kernel)) hZ (hw _ (List.mem_of_getElem? (i := 8) rfl)) (hw _ (List.mem_of_getElem? (i := 2) rfl)) (by decide) (by decide)) q9a q9c (g := (mkF m 94 #[.val (.int p0), .val (.int ((p0 &&& (2147483647 : Int32)) % (6 : Int32))), .val (.ref a_CHAR), .val (.long (65535 : Int64)), .second] [(.ref a_CHAR)])) rfl (by rw [hml]; rfl) (Steps.refl _) (argsL := []) (rest := []) (lenOf own_pd0 rfl) rfl (by show 2 * 0 + _ ≤ _; exact Nat.le_of_eq rfl) (hb hby at_94) (fun _ _ => ⟨rfl, e8, (by decide : 0 + 0 ≤ _), (by decide : 0 + 0 ≤ _)⟩)
        dsimp only [Pt.U, Pt.locs, Pt.cells, Pt.slots] at X9 l9 y9 z9 st9 hQ9
        subst l9 y9 z9
        obtain ⟨rfl, Nq9, e9⟩ := hQ9
        have N9 := Fr.app N0 Nq9
        refine own_tr st9 ?_
        show own_Ends _ _ _ _ (T9.setTop (mkF m 97 #[.val (.int p0), .val (.int ((p0 &&& (2147483647 : Int32)) % (6 : Int32))), .val (.ref a_CHAR), .val (.long (65535 : Int64)), .second] [(.long (65535 : Int64))]))
        refine own_go (fun _ k => XS.lloadN X9.here hx rfl (hb hby at_97) rfl k) ?_
        show own_Ends _ _ _ _ (T9.setTop (mkF m 98 #[.val (.int p0), .val (.int ((p0 &&& (2147483647 : Int32)) % (6 : Int32))), .val (.ref a_CHAR), .val (.long (65535 : Int64)), .second] [(.long (65535 : Int64)), (.long (65535 : Int64))]))
        refine own_go (fun _ k => XS.lcmp X9.here hx rfl (hb hby at_98) rfl k) ?_
        show own_Ends _ _ _ _ (T9.setTop (mkF m 99 #[.val (.int p0), .val (.int ((p0 &&& (2147483647 : Int32)) % (6 : Int32))), .val (.ref a_CHAR), .val (.long (65535 : Int64)), .second] [(.int (lcmpW (65535 : Int64) (65535 : Int64)))]))
        refine own_go (fun _ k => XS.ifNo X9.here hx rfl (hb hby at_99) rfl ((if0 _ _).trans (teq ((lw_eq (65535 : Int64) (65535 : Int64)).mpr rfl)).2) k) ?_
        show own_Ends _ _ _ _ (T9.setTop (mkF m 102 #[.val (.int p0), .val (.int ((p0 &&& (2147483647 : Int32)) % (6 : Int32))), .val (.ref a_CHAR), .val (.long (65535 : Int64)), .second] []))
        refine own_go (fun _ k => XS.iconst X9.here hx rfl (hb hby at_102) k) ?_
        show own_Ends _ _ _ _ (T9.setTop (mkF m 103 #[.val (.int p0), .val (.int ((p0 &&& (2147483647 : Int32)) % (6 : Int32))), .val (.ref a_CHAR), .val (.long (65535 : Int64)), .second] [(.int (1 : Int32))]))
        refine own_go (fun _ k => XS.goto X9.here hx rfl (pc0 := 103) (pc' := 107) rfl (hb hby at_103) (by decide) (by decide) k) ?_
        show own_Ends _ _ _ _ (T9.setTop (mkF m 107 #[.val (.int p0), .val (.int ((p0 &&& (2147483647 : Int32)) % (6 : Int32))), .val (.ref a_CHAR), .val (.long (65535 : Int64)), .second] [(.int (1 : Int32))]))
        exact own_retZ X9 hx (BodyLoose.notSynchronized Bd) Bd.returns rfl (hb hby at_107) (by decide) (by decide) (by rw [e9]; exact ⟨rfl, N9⟩)
      · refine own_go (fun _ k => XS.icmpYes X0.here hx rfl (pc0 := 39) (pc' := 53) rfl (hb hby at_39) rfl (feq hc39_6).2 (by decide) (by decide) k) ?_
        show own_Ends _ _ _ _ (s₁.setTop (mkF m 53 #[.val (.int p0), .val (.int ((p0 &&& (2147483647 : Int32)) % (6 : Int32))), .unset, .unset, .unset] []))
        refine own_go (fun _ k => XS.iloadN X0.here hx rfl (hb hby at_53) rfl k) ?_
        show own_Ends _ _ _ _ (s₁.setTop (mkF m 54 #[.val (.int p0), .val (.int ((p0 &&& (2147483647 : Int32)) % (6 : Int32))), .unset, .unset, .unset] [(.int ((p0 &&& (2147483647 : Int32)) % (6 : Int32)))]))
        refine own_go (fun _ k => XS.iconst X0.here hx rfl (hb hby at_54) k) ?_
        show own_Ends _ _ _ _ (s₁.setTop (mkF m 55 #[.val (.int p0), .val (.int ((p0 &&& (2147483647 : Int32)) % (6 : Int32))), .unset, .unset, .unset] [(.int (3 : Int32)), (.int ((p0 &&& (2147483647 : Int32)) % (6 : Int32)))]))
        by_cases hc55_9 : ((p0 &&& (2147483647 : Int32)) % (6 : Int32)) = (3 : Int32)
        · refine own_go (fun _ k => XS.icmpNo X0.here hx rfl (hb hby at_55) rfl (teq hc55_9).2 k) ?_
          show own_Ends _ _ _ _ (s₁.setTop (mkF m 58 #[.val (.int p0), .val (.int ((p0 &&& (2147483647 : Int32)) % (6 : Int32))), .unset, .unset, .unset] []))
          obtain ⟨T11, X11, e11, st11⟩ := getS2 X0 hx hZ hown (host := "") (Or.inl (hw _ (List.mem_of_getElem? (i := 13) rfl))) Via.refl e0 (S_SHORT.ext O0.2) (g := (mkF m 58 #[.val (.int p0), .val (.int ((p0 &&& (2147483647 : Int32)) % (6 : Int32))), .unset, .unset, .unset] [])) rfl (hb hby at_58)
          refine own_go st11 ?_
          show own_Ends _ _ _ _ (T11.setTop (mkF m 61 #[.val (.int p0), .val (.int ((p0 &&& (2147483647 : Int32)) % (6 : Int32))), .unset, .unset, .unset] [(.ref a_SHORT)]))
          refine own_go (fun _ k => XS.astoreN X11.here hx rfl (hb hby at_61) rfl rfl (l' := #[.val (.int p0), .val (.int ((p0 &&& (2147483647 : Int32)) % (6 : Int32))), .val (.ref a_SHORT), .unset, .unset]) rfl k) ?_
          show own_Ends _ _ _ _ (T11.setTop (mkF m 62 #[.val (.int p0), .val (.int ((p0 &&& (2147483647 : Int32)) % (6 : Int32))), .val (.ref a_SHORT), .unset, .unset] []))
          refine own_go (X11.ldc2Long hx hown (mvT hZ (hw _ (List.mem_of_getElem? (i := 15) rfl))) (g := (mkF m 62 #[.val (.int p0), .val (.int ((p0 &&& (2147483647 : Int32)) % (6 : Int32))), .val (.ref a_SHORT), .unset, .unset] [])) rfl (hb hby at_62)) ?_
          show own_Ends _ _ _ _ (T11.setTop (mkF m 65 #[.val (.int p0), .val (.int ((p0 &&& (2147483647 : Int32)) % (6 : Int32))), .val (.ref a_SHORT), .unset, .unset] [(.long (32767 : Int64))]))
          refine own_go (fun _ k => XS.lstoreN X11.here hx rfl (hb hby at_65) rfl (l' := #[.val (.int p0), .val (.int ((p0 &&& (2147483647 : Int32)) % (6 : Int32))), .val (.ref a_SHORT), .val (.long (32767 : Int64)), .second]) rfl k) ?_
          show own_Ends _ _ _ _ (T11.setTop (mkF m 66 #[.val (.int p0), .val (.int ((p0 &&& (2147483647 : Int32)) % (6 : Int32))), .val (.ref a_SHORT), .val (.long (32767 : Int64)), .second] []))
          refine own_go (fun _ k => XS.goto X11.here hx rfl (pc0 := 66) (pc' := 93) rfl (hb hby at_66) (by decide) (by decide) k) ?_
          show own_Ends _ _ _ _ (T11.setTop (mkF m 93 #[.val (.int p0), .val (.int ((p0 &&& (2147483647 : Int32)) % (6 : Int32))), .val (.ref a_SHORT), .val (.long (32767 : Int64)), .second] []))
          refine own_go (fun _ k => XS.aloadN X11.here hx rfl (hb hby at_93) rfl rfl k) ?_
          show own_Ends _ _ _ _ (T11.setTop (mkF m 94 #[.val (.int p0), .val (.int ((p0 &&& (2147483647 : Int32)) % (6 : Int32))), .val (.ref a_SHORT), .val (.long (32767 : Int64)), .second] [(.ref a_SHORT)]))
          obtain ⟨cq12, kq12, q12a, q12b, q12c⟩ := isOf hZ e11 (E_SHORT.ext O0.2)
          obtain ⟨_, _, ⟨T12, Lz12, kz12, nz12⟩, -, X12, ⟨Lc12, hQ12, l12, y12, z12⟩, st12⟩ := X11.virtualBack hx (y := (⟨"com/example/pathwright/pathwright/code/ValueType", "max", "()J"⟩ : MethodName)) (z := (⟨"com/example/pathwright/pathwright/code/ValueType", "max", "()J"⟩ : MethodName)) hown (mvT hZ (hw _ (List.mem_of_getElem? (i := 4) rfl))) (mvT hZ (hw _ (List.mem_of_getElem? (i := 5) rfl))) (notFace_of_selects (args := #[]) (mvT hZ (hw _ (List.mem_of_getElem? (i := 7) rfl)))) (mvT hZ (hw _ (List.mem_of_getElem? (i := 7) rfl))) (mvT hZ (hw _ (List.mem_of_getElem? (i := 6) rfl))) (by decide) (backOf (W := 0) (own_max l Z a0 hw [] a_SHORT (1 : Int32) (16 : Int32) (32767 : Int64) h0 n0 O0 F_SHORT_signed F_SHORT_bits (by decide +kernel)) hZ (hw _ (List.mem_of_getElem? (i := 8) rfl)) (hw _ (List.mem_of_getElem? (i := 2) rfl)) (by decide) (by decide)) q12a q12c (g := (mkF m 94 #[.val (.int p0), .val (.int ((p0 &&& (2147483647 : Int32)) % (6 : Int32))), .val (.ref a_SHORT), .val (.long (32767 : Int64)), .second] [(.ref a_SHORT)])) rfl (by rw [hml]; rfl) (Steps.refl _) (argsL := []) (rest := []) (lenOf own_pd0 rfl) rfl (by show 2 * 0 + _ ≤ _; exact Nat.le_of_eq rfl) (hb hby at_94) (fun _ _ => ⟨rfl, e11, (by decide : 0 + 0 ≤ _), (by decide : 0 + 0 ≤ _)⟩)
          dsimp only [Pt.U, Pt.locs, Pt.cells, Pt.slots] at X12 l12 y12 z12 st12 hQ12
          subst l12 y12 z12
          obtain ⟨rfl, Nq12, e12⟩ := hQ12
          have N12 := Fr.app N0 Nq12
          refine own_tr st12 ?_
          show own_Ends _ _ _ _ (T12.setTop (mkF m 97 #[.val (.int p0), .val (.int ((p0 &&& (2147483647 : Int32)) % (6 : Int32))), .val (.ref a_SHORT), .val (.long (32767 : Int64)), .second] [(.long (32767 : Int64))]))
          refine own_go (fun _ k => XS.lloadN X12.here hx rfl (hb hby at_97) rfl k) ?_
          show own_Ends _ _ _ _ (T12.setTop (mkF m 98 #[.val (.int p0), .val (.int ((p0 &&& (2147483647 : Int32)) % (6 : Int32))), .val (.ref a_SHORT), .val (.long (32767 : Int64)), .second] [(.long (32767 : Int64)), (.long (32767 : Int64))]))
          refine own_go (fun _ k => XS.lcmp X12.here hx rfl (hb hby at_98) rfl k) ?_
          show own_Ends _ _ _ _ (T12.setTop (mkF m 99 #[.val (.int p0), .val (.int ((p0 &&& (2147483647 : Int32)) % (6 : Int32))), .val (.ref a_SHORT), .val (.long (32767 : Int64)), .second] [(.int (lcmpW (32767 : Int64) (32767 : Int64)))]))
          refine own_go (fun _ k => XS.ifNo X12.here hx rfl (hb hby at_99) rfl ((if0 _ _).trans (teq ((lw_eq (32767 : Int64) (32767 : Int64)).mpr rfl)).2) k) ?_
          show own_Ends _ _ _ _ (T12.setTop (mkF m 102 #[.val (.int p0), .val (.int ((p0 &&& (2147483647 : Int32)) % (6 : Int32))), .val (.ref a_SHORT), .val (.long (32767 : Int64)), .second] []))
          refine own_go (fun _ k => XS.iconst X12.here hx rfl (hb hby at_102) k) ?_
          show own_Ends _ _ _ _ (T12.setTop (mkF m 103 #[.val (.int p0), .val (.int ((p0 &&& (2147483647 : Int32)) % (6 : Int32))), .val (.ref a_SHORT), .val (.long (32767 : Int64)), .second] [(.int (1 : Int32))]))
          refine own_go (fun _ k => XS.goto X12.here hx rfl (pc0 := 103) (pc' := 107) rfl (hb hby at_103) (by decide) (by decide) k) ?_
          show own_Ends _ _ _ _ (T12.setTop (mkF m 107 #[.val (.int p0), .val (.int ((p0 &&& (2147483647 : Int32)) % (6 : Int32))), .val (.ref a_SHORT), .val (.long (32767 : Int64)), .second] [(.int (1 : Int32))]))
          exact own_retZ X12 hx (BodyLoose.notSynchronized Bd) Bd.returns rfl (hb hby at_107) (by decide) (by decide) (by rw [e12]; exact ⟨rfl, N12⟩)
        · refine own_go (fun _ k => XS.icmpYes X0.here hx rfl (pc0 := 55) (pc' := 69) rfl (hb hby at_55) rfl (feq hc55_9).2 (by decide) (by decide) k) ?_
          show own_Ends _ _ _ _ (s₁.setTop (mkF m 69 #[.val (.int p0), .val (.int ((p0 &&& (2147483647 : Int32)) % (6 : Int32))), .unset, .unset, .unset] []))
          refine own_go (fun _ k => XS.iloadN X0.here hx rfl (hb hby at_69) rfl k) ?_
          show own_Ends _ _ _ _ (s₁.setTop (mkF m 70 #[.val (.int p0), .val (.int ((p0 &&& (2147483647 : Int32)) % (6 : Int32))), .unset, .unset, .unset] [(.int ((p0 &&& (2147483647 : Int32)) % (6 : Int32)))]))
          refine own_go (fun _ k => XS.iconst X0.here hx rfl (hb hby at_70) k) ?_
          show own_Ends _ _ _ _ (s₁.setTop (mkF m 71 #[.val (.int p0), .val (.int ((p0 &&& (2147483647 : Int32)) % (6 : Int32))), .unset, .unset, .unset] [(.int (4 : Int32)), (.int ((p0 &&& (2147483647 : Int32)) % (6 : Int32)))]))
          by_cases hc71_12 : ((p0 &&& (2147483647 : Int32)) % (6 : Int32)) = (4 : Int32)
          · refine own_go (fun _ k => XS.icmpNo X0.here hx rfl (hb hby at_71) rfl (teq hc71_12).2 k) ?_
            show own_Ends _ _ _ _ (s₁.setTop (mkF m 74 #[.val (.int p0), .val (.int ((p0 &&& (2147483647 : Int32)) % (6 : Int32))), .unset, .unset, .unset] []))
            obtain ⟨T14, X14, e14, st14⟩ := getS2 X0 hx hZ hown (host := "") (Or.inl (hw _ (List.mem_of_getElem? (i := 25) rfl))) Via.refl e0 (S_INT.ext O0.2) (g := (mkF m 74 #[.val (.int p0), .val (.int ((p0 &&& (2147483647 : Int32)) % (6 : Int32))), .unset, .unset, .unset] [])) rfl (hb hby at_74)
            refine own_go st14 ?_
            show own_Ends _ _ _ _ (T14.setTop (mkF m 77 #[.val (.int p0), .val (.int ((p0 &&& (2147483647 : Int32)) % (6 : Int32))), .unset, .unset, .unset] [(.ref a_INT)]))
            refine own_go (fun _ k => XS.astoreN X14.here hx rfl (hb hby at_77) rfl rfl (l' := #[.val (.int p0), .val (.int ((p0 &&& (2147483647 : Int32)) % (6 : Int32))), .val (.ref a_INT), .unset, .unset]) rfl k) ?_
            show own_Ends _ _ _ _ (T14.setTop (mkF m 78 #[.val (.int p0), .val (.int ((p0 &&& (2147483647 : Int32)) % (6 : Int32))), .val (.ref a_INT), .unset, .unset] []))
            refine own_go (X14.ldc2Long hx hown (mvT hZ (hw _ (List.mem_of_getElem? (i := 27) rfl))) (g := (mkF m 78 #[.val (.int p0), .val (.int ((p0 &&& (2147483647 : Int32)) % (6 : Int32))), .val (.ref a_INT), .unset, .unset] [])) rfl (hb hby at_78)) ?_
            show own_Ends _ _ _ _ (T14.setTop (mkF m 81 #[.val (.int p0), .val (.int ((p0 &&& (2147483647 : Int32)) % (6 : Int32))), .val (.ref a_INT), .unset, .unset] [(.long (2147483647 : Int64))]))
            refine own_go (fun _ k => XS.lstoreN X14.here hx rfl (hb hby at_81) rfl (l' := #[.val (.int p0), .val (.int ((p0 &&& (2147483647 : Int32)) % (6 : Int32))), .val (.ref a_INT), .val (.long (2147483647 : Int64)), .second]) rfl k) ?_
            show own_Ends _ _ _ _ (T14.setTop (mkF m 82 #[.val (.int p0), .val (.int ((p0 &&& (2147483647 : Int32)) % (6 : Int32))), .val (.ref a_INT), .val (.long (2147483647 : Int64)), .second] []))
            refine own_go (fun _ k => XS.goto X14.here hx rfl (pc0 := 82) (pc' := 93) rfl (hb hby at_82) (by decide) (by decide) k) ?_
            show own_Ends _ _ _ _ (T14.setTop (mkF m 93 #[.val (.int p0), .val (.int ((p0 &&& (2147483647 : Int32)) % (6 : Int32))), .val (.ref a_INT), .val (.long (2147483647 : Int64)), .second] []))
            refine own_go (fun _ k => XS.aloadN X14.here hx rfl (hb hby at_93) rfl rfl k) ?_
            show own_Ends _ _ _ _ (T14.setTop (mkF m 94 #[.val (.int p0), .val (.int ((p0 &&& (2147483647 : Int32)) % (6 : Int32))), .val (.ref a_INT), .val (.long (2147483647 : Int64)), .second] [(.ref a_INT)]))
            obtain ⟨cq15, kq15, q15a, q15b, q15c⟩ := isOf hZ e14 (E_INT.ext O0.2)
            obtain ⟨_, _, ⟨T15, Lz15, kz15, nz15⟩, -, X15, ⟨Lc15, hQ15, l15, y15, z15⟩, st15⟩ := X14.virtualBack hx (y := (⟨"com/example/pathwright/pathwright/code/ValueType", "max", "()J"⟩ : MethodName)) (z := (⟨"com/example/pathwright/pathwright/code/ValueType", "max", "()J"⟩ : MethodName)) hown (mvT hZ (hw _ (List.mem_of_getElem? (i := 4) rfl))) (mvT hZ (hw _ (List.mem_of_getElem? (i := 5) rfl))) (notFace_of_selects (args := #[]) (mvT hZ (hw _ (List.mem_of_getElem? (i := 7) rfl)))) (mvT hZ (hw _ (List.mem_of_getElem? (i := 7) rfl))) (mvT hZ (hw _ (List.mem_of_getElem? (i := 6) rfl))) (by decide) (backOf (W := 0) (own_max l Z a0 hw [] a_INT (1 : Int32) (32 : Int32) (2147483647 : Int64) h0 n0 O0 F_INT_signed F_INT_bits (by decide +kernel)) hZ (hw _ (List.mem_of_getElem? (i := 8) rfl)) (hw _ (List.mem_of_getElem? (i := 2) rfl)) (by decide) (by decide)) q15a q15c (g := (mkF m 94 #[.val (.int p0), .val (.int ((p0 &&& (2147483647 : Int32)) % (6 : Int32))), .val (.ref a_INT), .val (.long (2147483647 : Int64)), .second] [(.ref a_INT)])) rfl (by rw [hml]; rfl) (Steps.refl _) (argsL := []) (rest := []) (lenOf own_pd0 rfl) rfl (by show 2 * 0 + _ ≤ _; exact Nat.le_of_eq rfl) (hb hby at_94) (fun _ _ => ⟨rfl, e14, (by decide : 0 + 0 ≤ _), (by decide : 0 + 0 ≤ _)⟩)
            dsimp only [Pt.U, Pt.locs, Pt.cells, Pt.slots] at X15 l15 y15 z15 st15 hQ15
            subst l15 y15 z15
            obtain ⟨rfl, Nq15, e15⟩ := hQ15
            have N15 := Fr.app N0 Nq15
            refine own_tr st15 ?_
            show own_Ends _ _ _ _ (T15.setTop (mkF m 97 #[.val (.int p0), .val (.int ((p0 &&& (2147483647 : Int32)) % (6 : Int32))), .val (.ref a_INT), .val (.long (2147483647 : Int64)), .second] [(.long (2147483647 : Int64))]))
            refine own_go (fun _ k => XS.lloadN X15.here hx rfl (hb hby at_97) rfl k) ?_
            show own_Ends _ _ _ _ (T15.setTop (mkF m 98 #[.val (.int p0), .val (.int ((p0 &&& (2147483647 : Int32)) % (6 : Int32))), .val (.ref a_INT), .val (.long (2147483647 : Int64)), .second] [(.long (2147483647 : Int64)), (.long (2147483647 : Int64))]))
            refine own_go (fun _ k => XS.lcmp X15.here hx rfl (hb hby at_98) rfl k) ?_
            show own_Ends _ _ _ _ (T15.setTop (mkF m 99 #[.val (.int p0), .val (.int ((p0 &&& (2147483647 : Int32)) % (6 : Int32))), .val (.ref a_INT), .val (.long (2147483647 : Int64)), .second] [(.int (lcmpW (2147483647 : Int64) (2147483647 : Int64)))]))
            refine own_go (fun _ k => XS.ifNo X15.here hx rfl (hb hby at_99) rfl ((if0 _ _).trans (teq ((lw_eq (2147483647 : Int64) (2147483647 : Int64)).mpr rfl)).2) k) ?_
            show own_Ends _ _ _ _ (T15.setTop (mkF m 102 #[.val (.int p0), .val (.int ((p0 &&& (2147483647 : Int32)) % (6 : Int32))), .val (.ref a_INT), .val (.long (2147483647 : Int64)), .second] []))
            refine own_go (fun _ k => XS.iconst X15.here hx rfl (hb hby at_102) k) ?_
            show own_Ends _ _ _ _ (T15.setTop (mkF m 103 #[.val (.int p0), .val (.int ((p0 &&& (2147483647 : Int32)) % (6 : Int32))), .val (.ref a_INT), .val (.long (2147483647 : Int64)), .second] [(.int (1 : Int32))]))
            refine own_go (fun _ k => XS.goto X15.here hx rfl (pc0 := 103) (pc' := 107) rfl (hb hby at_103) (by decide) (by decide) k) ?_
            show own_Ends _ _ _ _ (T15.setTop (mkF m 107 #[.val (.int p0), .val (.int ((p0 &&& (2147483647 : Int32)) % (6 : Int32))), .val (.ref a_INT), .val (.long (2147483647 : Int64)), .second] [(.int (1 : Int32))]))
            exact own_retZ X15 hx (BodyLoose.notSynchronized Bd) Bd.returns rfl (hb hby at_107) (by decide) (by decide) (by rw [e15]; exact ⟨rfl, N15⟩)
          · refine own_go (fun _ k => XS.icmpYes X0.here hx rfl (pc0 := 71) (pc' := 85) rfl (hb hby at_71) rfl (feq hc71_12).2 (by decide) (by decide) k) ?_
            show own_Ends _ _ _ _ (s₁.setTop (mkF m 85 #[.val (.int p0), .val (.int ((p0 &&& (2147483647 : Int32)) % (6 : Int32))), .unset, .unset, .unset] []))
            obtain ⟨T16, X16, e16, st16⟩ := getS2 X0 hx hZ hown (host := "") (Or.inl (hw _ (List.mem_of_getElem? (i := 22) rfl))) Via.refl e0 (S_LONG.ext O0.2) (g := (mkF m 85 #[.val (.int p0), .val (.int ((p0 &&& (2147483647 : Int32)) % (6 : Int32))), .unset, .unset, .unset] [])) rfl (hb hby at_85)
            refine own_go st16 ?_
            show own_Ends _ _ _ _ (T16.setTop (mkF m 88 #[.val (.int p0), .val (.int ((p0 &&& (2147483647 : Int32)) % (6 : Int32))), .unset, .unset, .unset] [(.ref a_LONG)]))
            refine own_go (fun _ k => XS.astoreN X16.here hx rfl (hb hby at_88) rfl rfl (l' := #[.val (.int p0), .val (.int ((p0 &&& (2147483647 : Int32)) % (6 : Int32))), .val (.ref a_LONG), .unset, .unset]) rfl k) ?_
            show own_Ends _ _ _ _ (T16.setTop (mkF m 89 #[.val (.int p0), .val (.int ((p0 &&& (2147483647 : Int32)) % (6 : Int32))), .val (.ref a_LONG), .unset, .unset] []))
            refine own_go (X16.ldc2Long hx hown (mvT hZ (hw _ (List.mem_of_getElem? (i := 24) rfl))) (g := (mkF m 89 #[.val (.int p0), .val (.int ((p0 &&& (2147483647 : Int32)) % (6 : Int32))), .val (.ref a_LONG), .unset, .unset] [])) rfl (hb hby at_89)) ?_
            show own_Ends _ _ _ _ (T16.setTop (mkF m 92 #[.val (.int p0), .val (.int ((p0 &&& (2147483647 : Int32)) % (6 : Int32))), .val (.ref a_LONG), .unset, .unset] [(.long (9223372036854775807 : Int64))]))
            refine own_go (fun _ k => XS.lstoreN X16.here hx rfl (hb hby at_92) rfl (l' := #[.val (.int p0), .val (.int ((p0 &&& (2147483647 : Int32)) % (6 : Int32))), .val (.ref a_LONG), .val (.long (9223372036854775807 : Int64)), .second]) rfl k) ?_
            show own_Ends _ _ _ _ (T16.setTop (mkF m 93 #[.val (.int p0), .val (.int ((p0 &&& (2147483647 : Int32)) % (6 : Int32))), .val (.ref a_LONG), .val (.long (9223372036854775807 : Int64)), .second] []))
            refine own_go (fun _ k => XS.aloadN X16.here hx rfl (hb hby at_93) rfl rfl k) ?_
            show own_Ends _ _ _ _ (T16.setTop (mkF m 94 #[.val (.int p0), .val (.int ((p0 &&& (2147483647 : Int32)) % (6 : Int32))), .val (.ref a_LONG), .val (.long (9223372036854775807 : Int64)), .second] [(.ref a_LONG)]))
            obtain ⟨cq17, kq17, q17a, q17b, q17c⟩ := isOf hZ e16 (E_LONG.ext O0.2)
            obtain ⟨_, _, ⟨T17, Lz17, kz17, nz17⟩, -, X17, ⟨Lc17, hQ17, l17, y17, z17⟩, st17⟩ := X16.virtualBack hx (y := (⟨"com/example/pathwright/pathwright/code/ValueType", "max", "()J"⟩ : MethodName)) (z := (⟨"com/example/pathwright/pathwright/code/ValueType", "max", "()J"⟩ : MethodName)) hown (mvT hZ (hw _ (List.mem_of_getElem? (i := 4) rfl))) (mvT hZ (hw _ (List.mem_of_getElem? (i := 5) rfl))) (notFace_of_selects (args := #[]) (mvT hZ (hw _ (List.mem_of_getElem? (i := 7) rfl)))) (mvT hZ (hw _ (List.mem_of_getElem? (i := 7) rfl))) (mvT hZ (hw _ (List.mem_of_getElem? (i := 6) rfl))) (by decide) (backOf (W := 0) (own_max l Z a0 hw [] a_LONG (1 : Int32) (64 : Int32) (9223372036854775807 : Int64) h0 n0 O0 F_LONG_signed F_LONG_bits (by decide +kernel)) hZ (hw _ (List.mem_of_getElem? (i := 8) rfl)) (hw _ (List.mem_of_getElem? (i := 2) rfl)) (by decide) (by decide)) q17a q17c (g := (mkF m 94 #[.val (.int p0), .val (.int ((p0 &&& (2147483647 : Int32)) % (6 : Int32))), .val (.ref a_LONG), .val (.long (9223372036854775807 : Int64)), .second] [(.ref a_LONG)])) rfl (by rw [hml]; rfl) (Steps.refl _) (argsL := []) (rest := []) (lenOf own_pd0 rfl) rfl (by show 2 * 0 + _ ≤ _; exact Nat.le_of_eq rfl) (hb hby at_94) (fun _ _ => ⟨rfl, e16, (by decide : 0 + 0 ≤ _), (by decide : 0 + 0 ≤ _)⟩)
            dsimp only [Pt.U, Pt.locs, Pt.cells, Pt.slots] at X17 l17 y17 z17 st17 hQ17
            subst l17 y17 z17
            obtain ⟨rfl, Nq17, e17⟩ := hQ17
            have N17 := Fr.app N0 Nq17
            refine own_tr st17 ?_
            show own_Ends _ _ _ _ (T17.setTop (mkF m 97 #[.val (.int p0), .val (.int ((p0 &&& (2147483647 : Int32)) % (6 : Int32))), .val (.ref a_LONG), .val (.long (9223372036854775807 : Int64)), .second] [(.long (9223372036854775807 : Int64))]))
            refine own_go (fun _ k => XS.lloadN X17.here hx rfl (hb hby at_97) rfl k) ?_
            show own_Ends _ _ _ _ (T17.setTop (mkF m 98 #[.val (.int p0), .val (.int ((p0 &&& (2147483647 : Int32)) % (6 : Int32))), .val (.ref a_LONG), .val (.long (9223372036854775807 : Int64)), .second] [(.long (9223372036854775807 : Int64)), (.long (9223372036854775807 : Int64))]))
            refine own_go (fun _ k => XS.lcmp X17.here hx rfl (hb hby at_98) rfl k) ?_
            show own_Ends _ _ _ _ (T17.setTop (mkF m 99 #[.val (.int p0), .val (.int ((p0 &&& (2147483647 : Int32)) % (6 : Int32))), .val (.ref a_LONG), .val (.long (9223372036854775807 : Int64)), .second] [(.int (lcmpW (9223372036854775807 : Int64) (9223372036854775807 : Int64)))]))
            refine own_go (fun _ k => XS.ifNo X17.here hx rfl (hb hby at_99) rfl ((if0 _ _).trans (teq ((lw_eq (9223372036854775807 : Int64) (9223372036854775807 : Int64)).mpr rfl)).2) k) ?_
            show own_Ends _ _ _ _ (T17.setTop (mkF m 102 #[.val (.int p0), .val (.int ((p0 &&& (2147483647 : Int32)) % (6 : Int32))), .val (.ref a_LONG), .val (.long (9223372036854775807 : Int64)), .second] []))
            refine own_go (fun _ k => XS.iconst X17.here hx rfl (hb hby at_102) k) ?_
            show own_Ends _ _ _ _ (T17.setTop (mkF m 103 #[.val (.int p0), .val (.int ((p0 &&& (2147483647 : Int32)) % (6 : Int32))), .val (.ref a_LONG), .val (.long (9223372036854775807 : Int64)), .second] [(.int (1 : Int32))]))
            refine own_go (fun _ k => XS.goto X17.here hx rfl (pc0 := 103) (pc' := 107) rfl (hb hby at_103) (by decide) (by decide) k) ?_
            show own_Ends _ _ _ _ (T17.setTop (mkF m 107 #[.val (.int p0), .val (.int ((p0 &&& (2147483647 : Int32)) % (6 : Int32))), .val (.ref a_LONG), .val (.long (9223372036854775807 : Int64)), .second] [(.int (1 : Int32))]))
            exact own_retZ X17 hx (BodyLoose.notSynchronized Bd) Bd.returns rfl (hb hby at_107) (by decide) (by decide) (by rw [e17]; exact ⟨rfl, N17⟩)
set_option maxRecDepth 65536 in
set_option maxHeartbeats 40000000 in
theorem comes_1 {Post : Tables → Env → Array Value → State → Outcome → State → Prop} (hpost : ∀ tb e args s v u, (limb_1_1.after args s (.returned v) u = true ∧ limb_1_2.after args s (.returned v) u = true ∧ True) → FrameEnd s (.returned v) u (Jvm.fieldLocs frame_1_writes args s ++ Jvm.arrayLocs frame_1_arrays args s ++ Jvm.staticLocs frame_1_statics s) 0 0 → Post tb e args s (.returned v) u) :
    ArmFor flags0 classFile x code maxLocals ret World_1 tables_1 room_1 Calls_1 rest_1 Pre_1 Post := by
  intro l hfl _ _ p e ha hc hk s m args below hf hA hF happ hP
  obtain ⟨hcalls, hrest, hpre⟩ := hP
  obtain ⟨-, -, -, hnamed, -, -, -, hat⟩ := (Spec.applies_iff hf).mp happ
  obtain ⟨hg, hn⟩ := and_e (Cond.before_iff.mp (show (Jvm.Cond.and given_1 narrow_1).before args s = true from hpre))
  obtain ⟨hg0, hg1⟩ := and_e hg
  obtain ⟨w0, rfl⟩ : ∃ w0 : Value, args = #[w0] := by
    have hs : args.size = 1 := by simpa [Cond.value, given_1] using hg0
    obtain ⟨L⟩ := args
    match L, hs with
    | [w0], _ => exact ⟨w0, rfl⟩
  have hw := fun d (hd : d ∈ tables_1) => atoms_spec (ws := Jvm.Cond.code x code maxLocals ret :: tables_1) hat d (List.mem_cons_of_mem _ hd)
  have hfit : Fit s := fun {y c} hc i hi => by
    obtain ⟨ha, rfl⟩ := Array.getElem?_eq_some_iff.mp hc
    have q := List.all_eq_true.mp ((Array.all_eq_true_iff_forall_mem.mp hF) _ (Array.getElem_mem ha)) i (List.mem_range.mpr hi)
    simpa [Array.getElem?_eq_getElem hi] using q
  obtain ⟨i0, ei0⟩ := is_v hg1
  obtain rfl : w0 = (.int i0) := Option.some.inj ei0
  obtain ⟨hn0, hm0⟩ := and_e hn
  obtain ⟨a_BOOLEAN, ev_BOOLEAN⟩ := exa_v hn0
  have S_BOOLEAN : Sta s s.heap "com/example/pathwright/pathwright/code/ValueType" "BOOLEAN" "Lcom/example/pathwright/pathwright/code/ValueType;" (.ref a_BOOLEAN) := Sta.start ev_BOOLEAN (Or.inr ⟨(hw _ (List.mem_of_getElem? (i := 2) rfl)), (hw _ (List.mem_of_getElem? (i := 3) rfl))⟩)
  have E_BOOLEAN : Exa s s.heap a_BOOLEAN "com/example/pathwright/pathwright/code/ValueType" := Exa.start ev_BOOLEAN hn0
  obtain ⟨hn1, hm1⟩ := and_e hm0
  have F_BOOLEAN_signed : Fld s s.heap a_BOOLEAN "com/example/pathwright/pathwright/code/ValueType" "signed" "Z" (.int (0 : Int32)) := own_fldI ev_BOOLEAN hn1
  obtain ⟨hn2, hm2⟩ := and_e hm1
  have F_BOOLEAN_bits : Fld s s.heap a_BOOLEAN "com/example/pathwright/pathwright/code/ValueType" "bits" "I" (.int (1 : Int32)) := own_fldI ev_BOOLEAN hn2
  obtain ⟨hn3, hm3⟩ := and_e hm2
  obtain ⟨a_SHORT, ev_SHORT⟩ := exa_v hn3
  have S_SHORT : Sta s s.heap "com/example/pathwright/pathwright/code/ValueType" "SHORT" "Lcom/example/pathwright/pathwright/code/ValueType;" (.ref a_SHORT) := Sta.start ev_SHORT (Or.inr ⟨(hw _ (List.mem_of_getElem? (i := 2) rfl)), (hw _ (List.mem_of_getElem? (i := 14) rfl))⟩)
  have E_SHORT : Exa s s.heap a_SHORT "com/example/pathwright/pathwright/code/ValueType" := Exa.start ev_SHORT hn3
  obtain ⟨hn4, hm4⟩ := and_e hm3
  have F_SHORT_signed : Fld s s.heap a_SHORT "com/example/pathwright/pathwright/code/ValueType" "signed" "Z" (.int (1 : Int32)) := own_fldI ev_SHORT hn4
  obtain ⟨hn5, hm5⟩ := and_e hm4
  have F_SHORT_bits : Fld s s.heap a_SHORT "com/example/pathwright/pathwright/code/ValueType" "bits" "I" (.int (16 : Int32)) := own_fldI ev_SHORT hn5
  obtain ⟨hn6, hm6⟩ := and_e hm5
  obtain ⟨a_CHAR, ev_CHAR⟩ := exa_v hn6
  have S_CHAR : Sta s s.heap "com/example/pathwright/pathwright/code/ValueType" "CHAR" "Lcom/example/pathwright/pathwright/code/ValueType;" (.ref a_CHAR) := Sta.start ev_CHAR (Or.inr ⟨(hw _ (List.mem_of_getElem? (i := 2) rfl)), (hw _ (List.mem_of_getElem? (i := 17) rfl))⟩)
  have E_CHAR : Exa s s.heap a_CHAR "com/example/pathwright/pathwright/code/ValueType" := Exa.start ev_CHAR hn6
  obtain ⟨hn7, hm7⟩ := and_e hm6
  have F_CHAR_signed : Fld s s.heap a_CHAR "com/example/pathwright/pathwright/code/ValueType" "signed" "Z" (.int (0 : Int32)) := own_fldI ev_CHAR hn7
  obtain ⟨hn8, hm8⟩ := and_e hm7
  have F_CHAR_bits : Fld s s.heap a_CHAR "com/example/pathwright/pathwright/code/ValueType" "bits" "I" (.int (16 : Int32)) := own_fldI ev_CHAR hn8
  obtain ⟨hn9, hm9⟩ := and_e hm8
  obtain ⟨a_BYTE, ev_BYTE⟩ := exa_v hn9
  have S_BYTE : Sta s s.heap "com/example/pathwright/pathwright/code/ValueType" "BYTE" "Lcom/example/pathwright/pathwright/code/ValueType;" (.ref a_BYTE) := Sta.start ev_BYTE (Or.inr ⟨(hw _ (List.mem_of_getElem? (i := 2) rfl)), (hw _ (List.mem_of_getElem? (i := 20) rfl))⟩)
  have E_BYTE : Exa s s.heap a_BYTE "com/example/pathwright/pathwright/code/ValueType" := Exa.start ev_BYTE hn9
  obtain ⟨hn10, hm10⟩ := and_e hm9
  have F_BYTE_signed : Fld s s.heap a_BYTE "com/example/pathwright/pathwright/code/ValueType" "signed" "Z" (.int (1 : Int32)) := own_fldI ev_BYTE hn10
  obtain ⟨hn11, hm11⟩ := and_e hm10
  have F_BYTE_bits : Fld s s.heap a_BYTE "com/example/pathwright/pathwright/code/ValueType" "bits" "I" (.int (8 : Int32)) := own_fldI ev_BYTE hn11
  obtain ⟨hn12, hm12⟩ := and_e hm11
  obtain ⟨a_LONG, ev_LONG⟩ := exa_v hn12
  have S_LONG : Sta s s.heap "com/example/pathwright/pathwright/code/ValueType" "LONG" "Lcom/example/pathwright/pathwright/code/ValueType;" (.ref a_LONG) := Sta.start ev_LONG (Or.inr ⟨(hw _ (List.mem_of_getElem? (i := 2) rfl)), (hw _ (List.mem_of_getElem? (i := 23) rfl))⟩)
  have E_LONG : Exa s s.heap a_LONG "com/example/pathwright/pathwright/code/ValueType" := Exa.start ev_LONG hn12
  obtain ⟨hn13, hm13⟩ := and_e hm12
  have F_LONG_signed : Fld s s.heap a_LONG "com/example/pathwright/pathwright/code/ValueType" "signed" "Z" (.int (1 : Int32)) := own_fldI ev_LONG hn13
  obtain ⟨hn14, hm14⟩ := and_e hm13
  have F_LONG_bits : Fld s s.heap a_LONG "com/example/pathwright/pathwright/code/ValueType" "bits" "I" (.int (64 : Int32)) := own_fldI ev_LONG hn14
  obtain ⟨hn15, hm15⟩ := and_e hm14
  obtain ⟨a_INT, ev_INT⟩ := exa_v hn15
  have S_INT : Sta s s.heap "com/example/pathwright/pathwright/code/ValueType" "INT" "Lcom/example/pathwright/pathwright/code/ValueType;" (.ref a_INT) := Sta.start ev_INT (Or.inr ⟨(hw _ (List.mem_of_getElem? (i := 2) rfl)), (hw _ (List.mem_of_getElem? (i := 26) rfl))⟩)
  have E_INT : Exa s s.heap a_INT "com/example/pathwright/pathwright/code/ValueType" := Exa.start ev_INT hn15
  obtain ⟨hn16, hm16⟩ := and_e hm15
  have F_INT_signed : Fld s s.heap a_INT "com/example/pathwright/pathwright/code/ValueType" "signed" "Z" (.int (1 : Int32)) := own_fldI ev_INT hn16
  have F_INT_bits : Fld s s.heap a_INT "com/example/pathwright/pathwright/code/ValueType" "bits" "I" (.int (32 : Int32)) := own_fldI ev_INT hm16
  obtain ⟨n, o, h1, h2, h3, _, L, rfl, ⟨rfl, N⟩, hq⟩ := own_law l s _ hw tables_1 i0 a_BOOLEAN a_SHORT a_CHAR a_BYTE a_LONG a_INT s.heap s.heap.size (Old.start s) S_BOOLEAN E_BOOLEAN F_BOOLEAN_signed F_BOOLEAN_bits S_SHORT E_SHORT F_SHORT_signed F_SHORT_bits S_CHAR E_CHAR F_CHAR_signed F_CHAR_bits S_BYTE E_BYTE F_BYTE_signed F_BYTE_bits S_LONG E_LONG F_LONG_signed F_LONG_bits S_INT E_INT F_INT_signed F_INT_bits p e ha hc hk s m _ below hf ((Spec.applies_iff_loose hf).mp happ).1 ⟨rfl, State.Warmed39.refl s, rfl⟩ trivial
  refine ⟨n, _, h1, h2, h3, hpost _ _ _ _ _ _ ⟨Cond.after_iff.mpr rfl, Cond.after_iff.mpr (eq_i res_at (Term.int_eval (1)) rfl), trivial⟩ ⟨hq.1, hq.2.1, (hq.2.2.sift fun y hy => Or.inr (N y hy)).mono (by decide) (by decide)⟩⟩
theorem main_1_1 : Claimed_1_1 := comes_1 fun _ _ _ _ _ _ h hF => ⟨h.1, hF⟩
theorem main_1_2 : Claimed_1_2 := comes_1 fun _ _ _ _ _ _ h hF => ⟨h.2.1, hF⟩
end Jvm.Pilot.@@N@@
namespace Jvm.Pilot.@@N@@
open Jvm Jvm.ClassFile Sem Op Lib Jvm.Free Jvm.Stand Jvm.Pilot.@@N@@.Jvm.D
/-! MADE BY PROGRAM (witnessworld.py) out of the Statement's table words and the real class files: 13 classes; the members and pool entries that the words name. The judged class is class 1, her method 1. -/
namespace start1
open Jvm.ClassFile
def u (s : String) : CpInfo := .utf8 (stringToUtf16 s)
/-- a pool by its gaps: so many unusable entries, then the entry; so many at the end -/
def gap : Nat → List CpInfo → List CpInfo
  | 0, r => r
  | n + 1, r => .unusable :: gap n r
def poolList (es : List (Nat × CpInfo)) (last : Nat) : List CpInfo := es.foldr (fun e r => gap e.1 (e.2 :: r)) (gap last [])
def pool (es : List (Nat × CpInfo)) (last : Nat) : Array CpInfo := ⟨poolList es last⟩
def fileOf (pool : Array CpInfo) (this : Nat) (attrs : Array Attribute := #[]) (ms : Array MethodInfo := #[]) (fl : Nat := 33) (sup : Nat := 0) (ifs : Array Nat := #[]) (fds : Array FieldInfo := #[]) : ClassFile where
  minorVersion := 0
  majorVersion := 65
  constantPool := pool
  accessFlags := fl
  thisClass := this
  superClass := sup
  interfaces := ifs
  fields := fds
  methods := ms
  attributes := attrs
def plain (name : String) (sup : Option ClassId) : Class where
  name := name
  kind := .ordinary
  loader := none
  accessFlags := 33
  super := sup
  interfaces := #[]
  cf := none
  fields := #[]
  methods := #[]
  instanceTypes := #[]
  staticTypes := #[]
  resolved := #[]
  callSites := []
  init := .initialized
  statics := none
  mirror := none

def pool0 : Array CpInfo := pool [(5, u "<init>"), (0, u "()V"), (1, .class_ 10), (1, u "java/lang/Object")] 113

def k0m0 : Method := { name := "<init>", desc := "()V", sig := { parameters := [], returnType := none }, accessFlags := 1, code := none }
/-- java/lang/Object -/
def k0 : Class := { plain "java/lang/Object" none with
  accessFlags := 33
  interfaces := #[]
  cf := some (fileOf pool0 8 #[] #[{ accessFlags := 1, nameIndex := 5, descriptorIndex := 6, attributes := #[] }] 33 0 #[] #[])
  fields := #[]
  methods := #[k0m0]
  instanceTypes := #[]
  staticTypes := #[]
  resolved := Array.replicate 124 none
  statics := none }

def pool1 : Array CpInfo := pool [(2, .class_ 4), (1, u "java/lang/Object"), (0, u "<init>"), (0, u "()V"), (0, .integer 2147483647), (0, .fieldref 9 10), (0, .class_ 11), (0, .nameAndType 12 13), (0, u "com/example/pathwright/pathwright/code/ValueType"), (0, u "BOOLEAN"), (0, u "Lcom/example/pathwright/pathwright/code/ValueType;"), (0, .fieldref 9 15), (0, .nameAndType 16 13), (0, u "BYTE"), (0, .long 127), (1, .fieldref 9 20), (0, .nameAndType 21 13), (0, u "CHAR"), (0, .long 65535), (1, .fieldref 9 25), (0, .nameAndType 26 13), (0, u "SHORT"), (0, .long 32767), (1, .fieldref 9 30), (0, .nameAndType 31 13), (0, u "INT"), (0, .long 2147483647), (1, .fieldref 9 35), (0, .nameAndType 36 13), (0, u "LONG"), (0, .long 9223372036854775807), (1, .methodref 9 40), (0, .nameAndType 41 42), (0, u "max"), (0, u "()J"), (0, .class_ 44), (0, u "com/example/pathwright/pathwright/code/ValueTypeMaxPinLaw"), (2, u "law"), (0, u "(I)Z")] 3

def k1m0 : Method := { name := "<init>", desc := "()V", sig := { parameters := [], returnType := none }, accessFlags := 1, code := none }
def k1c1 : Code := { maxStack := 4, maxLocals := 5, code := code, exceptionTable := #[], attributes := #[] }
def k1m1 : Method := { name := "law", desc := "(I)Z", sig := { parameters := [.int], returnType := some .boolean }, accessFlags := 9, code := some k1c1 }
/-- com/example/pathwright/pathwright/code/ValueTypeMaxPinLaw -/
def k1 : Class := { plain "com/example/pathwright/pathwright/code/ValueTypeMaxPinLaw" (some 0) with
  accessFlags := 49
  interfaces := #[]
  cf := some (fileOf pool1 43 #[] #[{ accessFlags := 1, nameIndex := 5, descriptorIndex := 6, attributes := #[] }, { accessFlags := 9, nameIndex := 47, descriptorIndex := 48, attributes := #[] }] 49 2 #[] #[])
  fields := #[]
  methods := #[k1m0, k1m1]
  instanceTypes := #[]
  staticTypes := #[]
  resolved := Array.replicate 52 none
  statics := none }

def pool2 : Array CpInfo := pool [(1, .class_ 2), (0, u "java/lang/constant/Constable"), (0, .class_ 4), (0, u "java/lang/Object")] 6

/-- java/lang/constant/Constable -/
def k2 : Class := { plain "java/lang/constant/Constable" (some 0) with
  accessFlags := 1537
  interfaces := #[]
  cf := some (fileOf pool2 1 #[] #[] 1537 3 #[] #[])
  fields := #[]
  methods := #[]
  instanceTypes := #[]
  staticTypes := #[]
  resolved := Array.replicate 11 none
  statics := none }

def pool3 : Array CpInfo := pool [(1, .class_ 2), (0, u "java/lang/Comparable"), (0, .class_ 4), (0, u "java/lang/Object")] 7

/-- java/lang/Comparable -/
def k3 : Class := { plain "java/lang/Comparable" (some 0) with
  accessFlags := 1537
  interfaces := #[]
  cf := some (fileOf pool3 1 #[] #[] 1537 3 #[] #[])
  fields := #[]
  methods := #[]
  instanceTypes := #[]
  staticTypes := #[]
  resolved := Array.replicate 12 none
  statics := none }

def pool4 : Array CpInfo := pool [(1, .class_ 2), (0, u "java/io/Serializable"), (0, .class_ 4), (0, u "java/lang/Object")] 2

/-- java/io/Serializable -/
def k4 : Class := { plain "java/io/Serializable" (some 0) with
  accessFlags := 1537
  interfaces := #[]
  cf := some (fileOf pool4 1 #[] #[] 1537 3 #[] #[])
  fields := #[]
  methods := #[]
  instanceTypes := #[]
  staticTypes := #[]
  resolved := Array.replicate 7 none
  statics := none }

def pool5 : Array CpInfo := pool [(2, .class_ 4), (1, u "java/lang/Enum"), (0, u "name"), (0, u "Ljava/lang/String;"), (2, u "ordinal"), (0, u "I"), (1, .class_ 14), (1, u "java/lang/Object"), (4, u "hash"), (86, .class_ 108), (1, u "java/lang/Enum$EnumDesc"), (2, .class_ 112), (0, u "java/lang/constant/Constable"), (0, .class_ 114), (0, u "java/lang/Comparable"), (0, .class_ 116), (0, u "java/io/Serializable")] 87

/-- java/lang/Enum -/
def k5 : Class := { plain "java/lang/Enum" (some 0) with
  accessFlags := 1057
  interfaces := #[2, 3, 4]
  cf := some (fileOf pool5 2 #[.nestMembers #[106]] #[] 1057 12 #[111, 113, 115] #[{ accessFlags := 18, nameIndex := 5, descriptorIndex := 6, attributes := #[] }, { accessFlags := 18, nameIndex := 9, descriptorIndex := 10, attributes := #[] }, { accessFlags := 2, nameIndex := 19, descriptorIndex := 10, attributes := #[] }])
  fields := #[{ name := "name", type := (.object "java/lang/String"), accessFlags := 18, slot := 0, constantValue := 0 }, { name := "ordinal", type := .int, accessFlags := 18, slot := 1, constantValue := 0 }, { name := "hash", type := .int, accessFlags := 2, slot := 2, constantValue := 0 }]
  methods := #[]
  instanceTypes := #[(.object "java/lang/String"), .int, .int]
  staticTypes := #[]
  resolved := Array.replicate 204 none
  statics := none }

def pool6 : Array CpInfo := pool [(25, .class_ 26), (0, u "com/example/pathwright/pathwright/code/DataType"), (0, .class_ 28), (0, u "java/lang/Object")] 15

/-- com/example/pathwright/pathwright/code/DataType -/
def k6 : Class := { plain "com/example/pathwright/pathwright/code/DataType" (some 0) with
  accessFlags := 1537
  interfaces := #[]
  cf := some (fileOf pool6 25 #[] #[] 1537 27 #[] #[])
  fields := #[]
  methods := #[]
  instanceTypes := #[]
  staticTypes := #[]
  resolved := Array.replicate 44 none
  statics := none }

def pool7 : Array CpInfo := pool [(1, .class_ 2), (0, u "com/example/pathwright/pathwright/code/ValueType"), (2, u "BOOLEAN"), (0, u "Lcom/example/pathwright/pathwright/code/ValueType;"), (2, u "BYTE"), (2, u "CHAR"), (2, u "SHORT"), (2, u "INT"), (2, u "LONG"), (2, u "$VALUES"), (0, u "[Lcom/example/pathwright/pathwright/code/ValueType;"), (6, .class_ 34), (1, u "java/lang/Enum"), (8, u "javaName"), (0, u "Ljava/lang/String;"), (2, u "descriptor"), (2, u "javaClass"), (0, u "Ljava/lang/Class;"), (0, .fieldref 1 53), (0, .nameAndType 54 55), (0, u "bits"), (0, u "I"), (0, .fieldref 1 57), (0, .nameAndType 58 59), (0, u "signed"), (0, u "Z"), (18, .class_ 80), (1, u "com/example/pathwright/pathwright/code/ValueType$1"), (14, u "()J"), (2, u "max"), (118, .class_ 218), (0, u "com/example/pathwright/pathwright/code/DataType")] 52

def k7c0 : Code := { maxStack := 4, maxLocals := 1, code := prog_51_method_12_code, exceptionTable := #[], attributes := #[] }
def k7m0 : Method := { name := "max", desc := "()J", sig := { parameters := [], returnType := some .long }, accessFlags := 1, code := some k7c0 }
/-- com/example/pathwright/pathwright/code/ValueType -/
def k7 : Class := { plain "com/example/pathwright/pathwright/code/ValueType" (some 5) with
  accessFlags := 16433
  interfaces := #[6]
  cf := some (fileOf pool7 1 #[.nestMembers #[78]] #[{ accessFlags := 1, nameIndex := 98, descriptorIndex := 95, attributes := #[] }] 16433 32 #[217] #[{ accessFlags := 16409, nameIndex := 5, descriptorIndex := 6, attributes := #[] }, { accessFlags := 16409, nameIndex := 9, descriptorIndex := 6, attributes := #[] }, { accessFlags := 16409, nameIndex := 12, descriptorIndex := 6, attributes := #[] }, { accessFlags := 16409, nameIndex := 15, descriptorIndex := 6, attributes := #[] }, { accessFlags := 16409, nameIndex := 18, descriptorIndex := 6, attributes := #[] }, { accessFlags := 16409, nameIndex := 21, descriptorIndex := 6, attributes := #[] }, { accessFlags := 18, nameIndex := 43, descriptorIndex := 44, attributes := #[] }, { accessFlags := 18, nameIndex := 47, descriptorIndex := 44, attributes := #[] }, { accessFlags := 18, nameIndex := 50, descriptorIndex := 51, attributes := #[] }, { accessFlags := 18, nameIndex := 54, descriptorIndex := 55, attributes := #[] }, { accessFlags := 18, nameIndex := 58, descriptorIndex := 59, attributes := #[] }, { accessFlags := 4122, nameIndex := 24, descriptorIndex := 25, attributes := #[] }])
  fields := #[{ name := "BOOLEAN", type := (.object "com/example/pathwright/pathwright/code/ValueType"), accessFlags := 16409, slot := 0, constantValue := 0 }, { name := "BYTE", type := (.object "com/example/pathwright/pathwright/code/ValueType"), accessFlags := 16409, slot := 1, constantValue := 0 }, { name := "CHAR", type := (.object "com/example/pathwright/pathwright/code/ValueType"), accessFlags := 16409, slot := 2, constantValue := 0 }, { name := "SHORT", type := (.object "com/example/pathwright/pathwright/code/ValueType"), accessFlags := 16409, slot := 3, constantValue := 0 }, { name := "INT", type := (.object "com/example/pathwright/pathwright/code/ValueType"), accessFlags := 16409, slot := 4, constantValue := 0 }, { name := "LONG", type := (.object "com/example/pathwright/pathwright/code/ValueType"), accessFlags := 16409, slot := 5, constantValue := 0 }, { name := "javaName", type := (.object "java/lang/String"), accessFlags := 18, slot := 3, constantValue := 0 }, { name := "descriptor", type := (.object "java/lang/String"), accessFlags := 18, slot := 4, constantValue := 0 }, { name := "javaClass", type := (.object "java/lang/Class"), accessFlags := 18, slot := 5, constantValue := 0 }, { name := "bits", type := .int, accessFlags := 18, slot := 6, constantValue := 0 }, { name := "signed", type := .boolean, accessFlags := 18, slot := 7, constantValue := 0 }, { name := "$VALUES", type := (.array (.object "com/example/pathwright/pathwright/code/ValueType")), accessFlags := 4122, slot := 6, constantValue := 0 }]
  methods := #[k7m0]
  instanceTypes := #[(.object "java/lang/String"), .int, .int, (.object "java/lang/String"), (.object "java/lang/String"), (.object "java/lang/Class"), .int, .boolean]
  staticTypes := #[(.object "com/example/pathwright/pathwright/code/ValueType"), (.object "com/example/pathwright/pathwright/code/ValueType"), (.object "com/example/pathwright/pathwright/code/ValueType"), (.object "com/example/pathwright/pathwright/code/ValueType"), (.object "com/example/pathwright/pathwright/code/ValueType"), (.object "com/example/pathwright/pathwright/code/ValueType"), (.array (.object "com/example/pathwright/pathwright/code/ValueType"))]
  resolved := Array.replicate 271 none
  statics := some 0 }

def pool8 : Array CpInfo := pool [(1, u "java/lang/Cloneable"), (0, .class_ 1), (0, u "java/lang/Object"), (0, .class_ 3)] 3

/-- java/lang/Cloneable -/
def k8 : Class := { plain "java/lang/Cloneable" (some 0) with
  accessFlags := 1537
  interfaces := #[]
  cf := some (fileOf pool8 2 #[] #[] 1537 4 #[] #[])
  fields := #[]
  methods := #[]
  instanceTypes := #[]
  staticTypes := #[]
  resolved := Array.replicate 8 none
  statics := none }

/-- the primitive byte -/
def k9 : Class := { plain "byte" none with kind := .primitive 'B', accessFlags := 0x411 }
/-- [B -/
def k10 : Class := { plain "[B" (some 0) with kind := .array 9 .byte, interfaces := #[8, 4], accessFlags := 1041 }

/-- the primitive int -/
def k11 : Class := { plain "int" none with kind := .primitive 'I', accessFlags := 0x411 }
/-- [I -/
def k12 : Class := { plain "[I" (some 0) with kind := .array 11 .int, interfaces := #[8, 4], accessFlags := 1041 }

def heap : Heap := #[{ cls := 7, slots := #[.ref 1, .ref 4, .ref 3, .ref 2, .ref 6, .ref 5, .null], vm := .statics 7 },
  { cls := 7, slots := #[.null, .int 0, .int 0, .null, .null, .null, .int 1, .int 0], vm := .none },
  { cls := 7, slots := #[.null, .int 0, .int 0, .null, .null, .null, .int 16, .int 1], vm := .none },
  { cls := 7, slots := #[.null, .int 0, .int 0, .null, .null, .null, .int 16, .int 0], vm := .none },
  { cls := 7, slots := #[.null, .int 0, .int 0, .null, .null, .null, .int 8, .int 1], vm := .none },
  { cls := 7, slots := #[.null, .int 0, .int 0, .null, .null, .null, .int 64, .int 1], vm := .none },
  { cls := 7, slots := #[.null, .int 0, .int 0, .null, .null, .null, .int 32, .int 1], vm := .none }]
def classes : Array Class := #[k0, k1, k2, k3, k4, k5, k6, k7, k8, k9, k10, k11, k12]
def interned : List (Array UInt16 × Addr) := []
def slotsUsed : Nat := 55
def theMethod : MethodId := ⟨1, 1⟩
def args0 : Array Value := #[.int 3]
def aboutOver (below : List Frame) : State where
  vm := { classes := classes, interned := interned.toArray }
  heap := heap
  slotsUsed := slotsUsed
  threads := #[{ frames := .invoking theMethod args0 :: below }]
def below0 : List Frame := [.native { method := ⟨0, 0⟩, args := #[] }]
def about1 : State := aboutOver below0
def p0 : Program := .bare "" "" ""
def e0 : Env := launch0.env 0 0 0
theorem w_frames : about1.frames = Frame.invoking theMethod args0 :: below0 := rfl
set_option maxRecDepth 65536 in
theorem w_args : argsFit about1.vm theMethod args0 = true := by decide +kernel
set_option maxRecDepth 65536 in
theorem w_heap : heapFits about1 = true := by decide +kernel
set_option maxRecDepth 65536 in
theorem w_runnable : about1.curStatus? = some .runnable := by decide +kernel
set_option maxRecDepth 65536 in
theorem w_alone : about1.alone = true := by decide +kernel
set_option maxRecDepth 65536 in
theorem w_named : about1.methodNamed? x = some theMethod := by decide +kernel
set_option maxRecDepth 65536 in
theorem w_hears : about1.hears theMethod below0 = true := by decide +kernel
set_option maxRecDepth 65536 in
theorem w_ripe : about1.ripe theMethod args0 below0 = true := by decide +kernel
theorem w_running : about1.status = .running := rfl
set_option maxRecDepth 65536 in
theorem w_room : about1.hasRoom e0.platform room_1 = true :=
  launch0.hasRoom_least _ room_1 (by decide +kernel) (by decide +kernel) (by decide +kernel) (by decide +kernel) (by decide +kernel) (by decide +kernel)
theorem allAtoms_all (ts : List Jvm.Cond) (a : Array Jvm.Value) (st : Jvm.State) : (allAtoms ts).before a st = ts.all (fun c => c.before a st) := by
  induction ts with
  | nil => rfl
  | cons c t ih =>
    show (Jvm.Cond.and c (allAtoms t)).before a st = _
    rw [Jvm.Cond.before_and, ih, List.all_cons]
def words1 : List Jvm.Cond := Jvm.Cond.code x code maxLocals ret :: tables_1
/-- a 'code' word, met by the world's own term for the bytes: nothing is compared byte by byte -/
theorem code_word {y : MethodName} {bytes : ByteArray} {mx : Nat} {rt : Option FieldType} {a : Array Value} {s : State} {m : MethodId} {meth : Method} {c : Code} (h1 : s.methodNamed? y = some m) (h2 : s.vm.method? m = some meth) (h3 : meth.code = some c) (h4 : c.code = bytes)
    (h5 : (c.maxLocals == mx && c.exceptionTable.isEmpty && decide (c.maxStack ≤ mostOperands) && decide (meth.sig.returnType = rt) && !meth.locks && decide (parseMethodDescriptor y.desc = some meth.sig)) = true) : (Jvm.Cond.code y bytes mx rt).before a s = true := by
  simp only [Bool.and_eq_true, beq_iff_eq, Bool.not_eq_true', decide_eq_true_eq] at h5
  obtain ⟨⟨⟨⟨⟨g1, g2⟩, g3⟩, g4⟩, g5⟩, g6⟩ := h5
  simp [Cond.before, Cond.holds, Cond.value, h1, h2, h3, h4, g1, g2, g3, g4, g5, g6]
def isCode : Jvm.Cond → Bool
  | .code _ _ _ _ => true
  | _ => false
theorem all_split {L : List Jvm.Cond} {P : Jvm.Cond → Bool} (h1 : L.all (fun c => isCode c || P c) = true) (h2 : ∀ c ∈ L.filter isCode, P c = true) : L.all P = true := by
  refine List.all_eq_true.mpr fun c hc => ?_
  have h := List.all_eq_true.mp h1 c hc
  rcases Bool.eq_false_or_eq_true (isCode c) with hi | hi
  · exact h2 c (List.mem_filter.mpr ⟨hc, hi⟩)
  · simpa [hi] using h
set_option maxRecDepth 65536 in
theorem w_c0 : (Jvm.Cond.code x code maxLocals ret).before args0 about1 = true := code_word (m := ⟨1, 1⟩) (meth := k1m1) (c := k1c1) (by decide +kernel) rfl rfl rfl (by decide +kernel)
set_option maxRecDepth 65536 in
theorem w_c1 : (Jvm.Cond.code ({ cls := "com/example/pathwright/pathwright/code/ValueType", name := "max", desc := "()J" } : Jvm.MethodName) prog_51_method_12_code (1 : Nat) (Option.some Jvm.ClassFile.FieldType.long)).before args0 about1 = true := code_word (m := ⟨7, 0⟩) (meth := k7m0) (c := k7c0) (by decide +kernel) rfl rfl rfl (by decide +kernel)
def codes1 : List Jvm.Cond := [Jvm.Cond.code x code maxLocals ret, Jvm.Cond.code ({ cls := "com/example/pathwright/pathwright/code/ValueType", name := "max", desc := "()J" } : Jvm.MethodName) prog_51_method_12_code (1 : Nat) (Option.some Jvm.ClassFile.FieldType.long)]
set_option maxRecDepth 65536 in
theorem codes_eq : words1.filter isCode = codes1 := rfl
theorem w_codes : ∀ c ∈ words1.filter isCode, c.before args0 about1 = true := by
  rw [codes_eq]
  intro c hc
  simp only [codes1, List.mem_cons, List.not_mem_nil, or_false] at hc
  rcases hc with rfl | rfl
  · exact w_c0
  · exact w_c1
set_option maxRecDepth 65536 in
theorem w_t1 : (words1.take 24).all (fun c => isCode c || c.before args0 about1) = true := by decide +kernel
set_option maxRecDepth 65536 in
theorem w_t2 : (words1.drop 24).all (fun c => isCode c || c.before args0 about1) = true := by decide +kernel
theorem w_tables : (allAtoms (Jvm.Cond.code x code maxLocals ret :: tables_1)).before args0 about1 = true := by
  rw [allAtoms_all]
  show words1.all (fun c => c.before args0 about1) = true
  refine all_split ?_ w_codes
  rw [← List.take_append_drop 24 words1, List.all_append, w_t1, w_t2]
  rfl
set_option maxRecDepth 65536 in
theorem w_case : (Jvm.Cond.and given_1 narrow_1).before args0 about1 = true := by decide +kernel
theorem w_applies : (headSpec (Jvm.Cond.code x code maxLocals ret :: tables_1) room_1).applies x e0.platform about1 = true :=
  (Spec.applies_iff w_frames).mpr ⟨w_running, w_runnable, w_alone, w_named, w_hears, w_ripe, w_room, w_tables⟩
theorem atStart : AtStart classFile x code maxLocals ret World_1 tables_1 room_1 Calls_1 rest_1 Pre_1 launch0 p0 e0 about1 theMethod args0 below0 :=
  ⟨lists_1, trivial, launch0.admits_env _ _ _, launch0.least_env, fairChoices_fair.cas, fairChoices_fair.clock, w_frames, w_args, w_heap, w_applies, trivial, trivial, w_case⟩
end start1
theorem witness_1 : WitnessClaimed_1 := ⟨start1.p0, start1.e0, start1.about1, start1.theMethod, start1.args0, start1.below0, start1.atStart⟩
end Jvm.Pilot.@@N@@
