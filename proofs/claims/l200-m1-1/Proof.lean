import JvmDerived
import JvmDerived.Pilot.@@N@@Statement
import JvmDerived.Pilot.@@N@@Code
set_option linter.unusedVariables false
set_option linter.unusedSimpArgs false
namespace Jvm.Pilot.@@N@@
open Jvm Jvm.ClassFile Sem Op Lib Jvm.Free Jvm.Stand Jvm.LawKit Jvm.RoadKit Bundle Jvm.Pilot.@@N@@.Jvm.D
/-! own_Ends: from the state T the run ends well -/
def own_Ends (p : Program) (e : Env) (below : List Frame) (P : State → Outcome → Prop) (T : State) : Prop := ∃ U o, Steps p.tables e below T U ∧ U.status = .running ∧ Ended U below o ∧ P U o
def own_Got (s : State) (Q : Option Value → Heap → List Loc → Prop) (C N : Nat) (U : State) (o : Outcome) : Prop := ∃ v L, o = .returned v ∧ Q v U.heap L ∧ FrameEnd s o U L C N
section Own
variable {p : Program} {l : Launch} {e : Env} {R : Room} {s : State} {m : MethodId} {args : Array Value} {below : List Frame} {meth : Method} {c : Code} {T T' : State} {locs : List Loc} {cells slots : Nat} {P : State → Outcome → Prop}
theorem own_go (h : ∀ target, Steps p.tables e below T' target → Steps p.tables e below T target) (k : own_Ends p e below P T') : own_Ends p e below P T := by
  obtain ⟨U, o, h1, h2⟩ := k; exact ⟨U, o, h _ h1, h2⟩
theorem own_tr (h : Steps p.tables e below T T') (k : own_Ends p e below P T') : own_Ends p e below P T := by
  obtain ⟨U, o, h1, h2⟩ := k; exact ⟨U, o, h.trans h1, h2⟩
variable {Q : Option Value → Heap → List Loc → Prop} {C N : Nat}
theorem own_ret (X : Stand p l e R s m args below meth c T locs cells slots) (hx : p.tables.exec = Jvm.exec) (lk : meth.locks = false) {pc : Nat} {Ls : Array Slot} {w : Value} {t : FieldType} {i : Instr} {rest : List Value} (hret : meth.sig.returnType = some t) (hn : narrow t w = w)
    (hi : (i = .ireturn ∧ (t = .int ∨ t = .boolean ∨ t = .byte ∨ t = .char ∨ t = .short) ∧ ∃ z, w = .int z) ∨ (i = .lreturn ∧ t = .long ∧ ∃ z, w = .long z) ∨ (i = .dreturn ∧ t = .double ∧ ∃ z, w = .double z) ∨ (i = .freturn ∧ t = .float ∧ ∃ z, w = .float z) ∨ (i = .areturn ∧ t.isReference = true ∧ w.isRef = true))
    (hd : decode c.code pc = .ok (i, 1)) (hC : cells ≤ C) (hN : slots ≤ N) (hq : Q (some w) T.heap locs) : own_Ends p e below (own_Got s Q C N) (T.setTop (mkF m pc Ls (w :: rest))) := by
  obtain ⟨fs, hr, hrun, hended, hW, hsame⟩ := X.leave (v := some w) (fun h => by rw [hret] at h; cases h) lk
  exact ⟨_, _, retOut X hx hret hn hi hd hr, hrun, hended, _, _, rfl, hq, ⟨_, rfl⟩, hW, hsame.mono hC hN⟩
theorem own_retI (X : Stand p l e R s m args below meth c T locs cells slots) (hx : p.tables.exec = Jvm.exec) (lk : meth.locks = false) {pc : Nat} {Ls : Array Slot} {z : Int32} {rest : List Value} (hret : meth.sig.returnType = some .int)
    (hd : decode c.code pc = .ok (.ireturn, 1)) (hC : cells ≤ C) (hN : slots ≤ N) (hq : Q (some (.int z)) T.heap locs) : own_Ends p e below (own_Got s Q C N) (T.setTop (mkF m pc Ls (.int z :: rest))) :=
  own_ret X hx lk hret rfl (Or.inl ⟨rfl, Or.inl rfl, _, rfl⟩) hd hC hN hq
theorem own_retZ (X : Stand p l e R s m args below meth c T locs cells slots) (hx : p.tables.exec = Jvm.exec) (lk : meth.locks = false) {pc : Nat} {Ls : Array Slot} {z : Int32} {rest : List Value} (hret : meth.sig.returnType = some .boolean) (hn : narrow .boolean (.int z) = .int z)
    (hd : decode c.code pc = .ok (.ireturn, 1)) (hC : cells ≤ C) (hN : slots ≤ N) (hq : Q (some (.int z)) T.heap locs) : own_Ends p e below (own_Got s Q C N) (T.setTop (mkF m pc Ls (.int z :: rest))) :=
  own_ret X hx lk hret hn (Or.inl ⟨rfl, Or.inr (Or.inl rfl), _, rfl⟩) hd hC hN hq
theorem own_retJ (X : Stand p l e R s m args below meth c T locs cells slots) (hx : p.tables.exec = Jvm.exec) (lk : meth.locks = false) {pc : Nat} {Ls : Array Slot} {z : Int64} {rest : List Value} (hret : meth.sig.returnType = some .long)
    (hd : decode c.code pc = .ok (.lreturn, 1)) (hC : cells ≤ C) (hN : slots ≤ N) (hq : Q (some (.long z)) T.heap locs) : own_Ends p e below (own_Got s Q C N) (T.setTop (mkF m pc Ls (.long z :: rest))) :=
  own_ret X hx lk hret rfl (Or.inr (Or.inl ⟨rfl, rfl, _, rfl⟩)) hd hC hN hq
theorem own_retR (X : Stand p l e R s m args below meth c T locs cells slots) (hx : p.tables.exec = Jvm.exec) (lk : meth.locks = false) {pc : Nat} {Ls : Array Slot} {w : Value} {t : FieldType} {rest : List Value} (hret : meth.sig.returnType = some t) (ht : t.isReference = true) (hw : w.isRef = true)
    (hd : decode c.code pc = .ok (.areturn, 1)) (hC : cells ≤ C) (hN : slots ≤ N) (hq : Q (some w) T.heap locs) : own_Ends p e below (own_Got s Q C N) (T.setTop (mkF m pc Ls (w :: rest))) :=
  own_ret X hx lk hret (by rcases ref_cases hw with rfl | ⟨a, rfl⟩ <;> cases t <;> first | rfl | exact absurd ht (by decide)) (Or.inr (Or.inr (Or.inr (Or.inr ⟨rfl, ht, hw⟩)))) hd hC hN hq
theorem own_retV (X : Stand p l e R s m args below meth c T locs cells slots) (hx : p.tables.exec = Jvm.exec) (lk : meth.locks = false) {pc : Nat} {Ls : Array Slot} {st : List Value} (hret : meth.sig.returnType = none)
    (hd : decode c.code pc = .ok (.return_, 1)) (hC : cells ≤ C) (hN : slots ≤ N) (hq : Q none T.heap locs) : own_Ends p e below (own_Got s Q C N) (T.setTop (mkF m pc Ls [])) := by
  obtain ⟨fs, hr, hrun, hended, hW, hsame⟩ := X.leave (v := none) (fun _ => rfl) lk
  exact ⟨_, _, X.returnOut hx hret hd hr, hrun, hended, _, _, rfl, hq, ⟨_, rfl⟩, hW, hsame.mono hC hN⟩
theorem own_fldI {Z : State} {a : Addr} {av : Array Value} {t : Term} {k : Int32} {C n d : String} (ev : t.eval av Z none [] Z = some (.ref a)) (h : (Jvm.Cond.eq (.field t C n d) (.int k)).value av Z none Z [] = some true) : Fld Z Z.heap a C n d (.int k) := by
  obtain ⟨x, y, ex, ey, k1, k2⟩ := cmp_v (Or.inl h)
  cases (Term.int_eval (args := av) (first := Z) (o := none) (idx := []) (s := Z) k).symm.trans ey
  obtain ⟨z, rfl⟩ := k2
  obtain rfl : z = k := gotT (Cond.eq_ints ex (Term.int_eval k)) h
  exact Fld.start ((fld_at ev).symm.trans ex)
theorem own_fldJ {Z : State} {a : Addr} {av : Array Value} {t : Term} {k : Int64} {C n d : String} (ev : t.eval av Z none [] Z = some (.ref a)) (h : (Jvm.Cond.eq (.field t C n d) (.long k)).value av Z none Z [] = some true) : Fld Z Z.heap a C n d (.long k) := by
  obtain ⟨x, y, ex, ey, k1, k2⟩ := cmp_v (Or.inl h)
  cases (long_at (args := av) (first := Z) (o := none) (idx := []) (s := Z) k).symm.trans ey
  obtain ⟨z, rfl⟩ := k2
  obtain rfl : z = k := gotT (eq_L ex (long_at k)) h
  exact Fld.start ((fld_at ev).symm.trans ex)
theorem own_staJ {Z : State} {av : Array Value} {k : Int64} {t : Term} (h : (Jvm.Cond.eq t (.long k)).value av Z none Z [] = some true) : t.eval av Z none [] Z = some (.long k) := by
  obtain ⟨x, y, ex, ey, k1, k2⟩ := cmp_v (Or.inl h)
  cases (long_at (args := av) (first := Z) (o := none) (idx := []) (s := Z) k).symm.trans ey
  obtain ⟨z, rfl⟩ := k2
  obtain rfl : z = k := gotT (eq_L ex (long_at k)) h
  exact ex
theorem own_staI {Z : State} {av : Array Value} {k : Int32} {t : Term} (h : (Jvm.Cond.eq t (.int k)).value av Z none Z [] = some true) : t.eval av Z none [] Z = some (.int k) := by
  obtain ⟨x, y, ex, ey, k1, k2⟩ := cmp_v (Or.inl h)
  cases (Term.int_eval (args := av) (first := Z) (o := none) (idx := []) (s := Z) k).symm.trans ey
  obtain ⟨z, rfl⟩ := k2
  obtain rfl : z = k := gotT (Cond.eq_ints ex (Term.int_eval k)) h
  exact ex
end Own
theorem own_d1_0 : decode prog_24_method_6_code 0 = .ok (.iload_n 1, 1) := by decide +kernel
theorem own_d1_1 : decode prog_24_method_6_code 1 = .ok (.aload_n 0, 1) := by decide +kernel
theorem own_d1_2 : decode prog_24_method_6_code 2 = .ok (.getfield 39, 3) := by decide +kernel
theorem own_d1_5 : decode prog_24_method_6_code 5 = .ok (.if_icmp .le 7, 3) := by decide +kernel
theorem own_d1_8 : decode prog_24_method_6_code 8 = .ok (.iconst 1, 1) := by decide +kernel
theorem own_d1_9 : decode prog_24_method_6_code 9 = .ok (.goto 4, 3) := by decide +kernel
theorem own_d1_12 : decode prog_24_method_6_code 12 = .ok (.iconst 0, 1) := by decide +kernel
theorem own_d1_13 : decode prog_24_method_6_code 13 = .ok (.ireturn, 1) := by decide +kernel
theorem own_ef_own_exceeded (m : MethodId) (x0 : Addr) (x1 : Int32) : entryFrame m #[(.ref x0), (.int x1)] 2 = mkF m 0 #[.val (.ref x0), .val (.int x1)] [] := by first | (simp [entryFrame, mkF, argsToLocals, Value.category]; done) | rfl
def Q_own_exceeded (Z : State) (a : Addr) (p : Int32) (b : Int32) (r : Int32) (h0 : Heap) (n0 : Nat) (v : Option Value) (h : Heap) (L : List Loc) : Prop := v = some (.int r) ∧ Fr n0 L ∧ h = h0
theorem own_pn_com_example_warmline_warmline_core_Limit : plainName "com/example/warmline/warmline/core/Limit" = true := by first | (simp [plainName, overriddenIn]; done) | decide +kernel
set_option maxRecDepth 65536 in
set_option maxHeartbeats 40000000 in
theorem own_exceeded (l : Launch) (Z : State) (a0 : Array Value) (hw : ∀ d ∈ tables_1, d.before a0 Z = true) (ws : List Jvm.Cond) (a : Addr) (p : Int32) (b : Int32) (r : Int32) (h0 : Heap) (n0 : Nat) (O0 : Old Z n0 h0) (F : Fld Z Z.heap a "com/example/warmline/warmline/core/Limit" "bytes" "I" (.int b)) (hr : r = if b < p then 1 else 0) :
    MetFree l (⟨"com/example/warmline/warmline/core/Limit", "isExceededBy", "(I)Z"⟩ : MethodName) (head1 (Jvm.Cond.code (⟨"com/example/warmline/warmline/core/Limit", "isExceededBy", "(I)Z"⟩ : MethodName) prog_24_method_6_code 2 (some .boolean) :: ws) ({ frames := 0, cells := 0, slots := 0, locals := 0 } : Room)) (fun args_ U => args_ = #[(.ref a), (.int p)] ∧ Z.Warmed39 U.vm ∧ U.heap = h0) (fun _ _ _ _ _ => True) (fun _ U o U' => ∃ v L, o = .returned v ∧ Q_own_exceeded Z a p b r h0 n0 v U'.heap L ∧ FrameEnd U o U' L ({ frames := 0, cells := 0, slots := 0, locals := 0 } : Room).cells ({ frames := 0, cells := 0, slots := 0, locals := 0 } : Room).slots) := by
  refine MetFree.of_bodySF (plainFor_of_name own_pn_com_example_warmline_warmline_core_Limit) hisR ?_
  intro pP eE sS mM args below meth cC s₁ Bd hml0 hP hK
  obtain ⟨rfl, hZ, hh⟩ := hP
  have hx := Bd.exec
  have hby := Bd.bytes
  have hml : cC.maxLocals = 2 := hml0
  have hown : sS.vm.findClass "com/example/warmline/warmline/core/Limit" = some mM.cls := findClass_of_methodNamed Bd.named
  have hnm := (name_of_methodNamed Bd.named Bd.method).1
  have X0 : Stand pP l eE ({ frames := 0, cells := 0, slots := 0, locals := 0 } : Room) sS mM #[(.ref a), (.int p)] below meth cC s₁ [] 0 0 := Stand.of_body Bd
  have e0 : s₁.heap = h0 := by rw [← hh, Bd.state]; rfl
  have N0 := Fr.nil n0
  show own_Ends pP eE below (own_Got sS (Q_own_exceeded Z a p b r h0 n0) ({ frames := 0, cells := 0, slots := 0, locals := 0 } : Room).cells ({ frames := 0, cells := 0, slots := 0, locals := 0 } : Room).slots) (s₁.setTop (entryFrame mM #[(.ref a), (.int p)] 2))
  rw [own_ef_own_exceeded mM a p]
  refine own_go (fun _ k => XS.iloadN X0.here hx rfl (hb hby own_d1_0) rfl k) ?_
  show own_Ends _ _ _ _ (s₁.setTop (mkF mM 1 #[.val (.ref a), .val (.int p)] [(.int p)]))
  refine own_go (fun _ k => XS.aloadN X0.here hx rfl (hb hby own_d1_1) rfl rfl k) ?_
  show own_Ends _ _ _ _ (s₁.setTop (mkF mM 2 #[.val (.ref a), .val (.int p)] [(.ref a), (.int p)]))
  obtain ⟨T1, X1, e1, st1⟩ := getF X0 hx hZ hown (host := "") (Or.inl (hw _ (List.mem_of_getElem? (i := 8) rfl))) Via.refl e0 (F.ext O0.2) (g := (mkF mM 2 #[.val (.ref a), .val (.int p)] [(.ref a), (.int p)])) rfl rfl (hb hby own_d1_2)
  refine own_go st1 ?_
  show own_Ends _ _ _ _ (T1.setTop (mkF mM 5 #[.val (.ref a), .val (.int p)] [(.int b), (.int p)]))
  by_cases hc5_1 : b < p
  · refine own_go (fun _ k => XS.icmpNo X1.here hx rfl (hb hby own_d1_5) rfl (tlt hc5_1).2.2.2 k) ?_
    show own_Ends _ _ _ _ (T1.setTop (mkF mM 8 #[.val (.ref a), .val (.int p)] []))
    refine own_go (fun _ k => XS.iconst X1.here hx rfl (hb hby own_d1_8) k) ?_
    show own_Ends _ _ _ _ (T1.setTop (mkF mM 9 #[.val (.ref a), .val (.int p)] [(.int (1 : Int32))]))
    refine own_go (fun _ k => XS.goto X1.here hx rfl (pc0 := 9) (pc' := 13) rfl (hb hby own_d1_9) (by decide) (by decide) k) ?_
    show own_Ends _ _ _ _ (T1.setTop (mkF mM 13 #[.val (.ref a), .val (.int p)] [(.int (1 : Int32))]))
    exact own_retZ X1 hx (BodyLoose.notSynchronized Bd) Bd.returns rfl (hb hby own_d1_13) (by decide) (by decide) (by rw [e1]; exact ⟨by rw [hr, if_pos hc5_1], N0, rfl⟩)
  · refine own_go (fun _ k => XS.icmpYes X1.here hx rfl (pc0 := 5) (pc' := 12) rfl (hb hby own_d1_5) rfl (flt hc5_1).2.2.2 (by decide) (by decide) k) ?_
    show own_Ends _ _ _ _ (T1.setTop (mkF mM 12 #[.val (.ref a), .val (.int p)] []))
    refine own_go (fun _ k => XS.iconst X1.here hx rfl (hb hby own_d1_12) k) ?_
    show own_Ends _ _ _ _ (T1.setTop (mkF mM 13 #[.val (.ref a), .val (.int p)] [(.int (0 : Int32))]))
    exact own_retZ X1 hx (BodyLoose.notSynchronized Bd) Bd.returns rfl (hb hby own_d1_13) (by decide) (by decide) (by rw [e1]; exact ⟨by rw [hr, if_neg hc5_1], N0, rfl⟩)
theorem own_pd0 : parseMethodDescriptor "(I)Z" = some ⟨[.int], some .boolean⟩ := by decide +kernel
theorem own_ef_own_law (m : MethodId) (x0 : Int32) (x1 : Int32) : entryFrame m #[(.int x0), (.int x1)] maxLocals = mkF m 0 #[.val (.int x0), .val (.int x1), .unset, .unset, .unset, .unset, .unset, .unset, .unset] [] := by first | (simp [entryFrame, mkF, argsToLocals, Value.category, maxLocals]; done) | rfl
def Q_own_law (Z : State) (p0 : Int32) (p1 : Int32) (a_MAX_INLINE_SIZE : Addr) (a_C1_MAX_INLINE_SIZE : Addr) (a_FREQ_INLINE_SIZE : Addr) (a_HUGE_METHOD_LIMIT : Addr) (h0 : Heap) (n0 : Nat) (v : Option Value) (h : Heap) (L : List Loc) : Prop := v = some (.int 1) ∧ Fr n0 L
theorem own_pn_com_example_warmline_warmline_core_LimitIsExceededByPinLaw : plainName "com/example/warmline/warmline/core/LimitIsExceededByPinLaw" = true := by first | (simp [plainName, overriddenIn]; done) | decide +kernel
set_option maxRecDepth 65536 in
set_option maxHeartbeats 40000000 in
theorem own_law (l : Launch) (Z : State) (a0 : Array Value) (hw : ∀ d ∈ tables_1, d.before a0 Z = true) (ws : List Jvm.Cond) (p0 : Int32) (p1 : Int32) (a_MAX_INLINE_SIZE : Addr) (a_C1_MAX_INLINE_SIZE : Addr) (a_FREQ_INLINE_SIZE : Addr) (a_HUGE_METHOD_LIMIT : Addr) (h0 : Heap) (n0 : Nat) (O0 : Old Z n0 h0) (S_MAX_INLINE_SIZE : Sta Z Z.heap "com/example/warmline/warmline/core/Limit" "MAX_INLINE_SIZE" "Lcom/example/warmline/warmline/core/Limit;" (.ref a_MAX_INLINE_SIZE)) (E_MAX_INLINE_SIZE : Exa Z Z.heap a_MAX_INLINE_SIZE "com/example/warmline/warmline/core/Limit") (F_MAX_INLINE_SIZE_bytes : Fld Z Z.heap a_MAX_INLINE_SIZE "com/example/warmline/warmline/core/Limit" "bytes" "I" (.int (35 : Int32))) (S_C1_MAX_INLINE_SIZE : Sta Z Z.heap "com/example/warmline/warmline/core/Limit" "C1_MAX_INLINE_SIZE" "Lcom/example/warmline/warmline/core/Limit;" (.ref a_C1_MAX_INLINE_SIZE)) (E_C1_MAX_INLINE_SIZE : Exa Z Z.heap a_C1_MAX_INLINE_SIZE "com/example/warmline/warmline/core/Limit") (F_C1_MAX_INLINE_SIZE_bytes : Fld Z Z.heap a_C1_MAX_INLINE_SIZE "com/example/warmline/warmline/core/Limit" "bytes" "I" (.int (35 : Int32))) (S_FREQ_INLINE_SIZE : Sta Z Z.heap "com/example/warmline/warmline/core/Limit" "FREQ_INLINE_SIZE" "Lcom/example/warmline/warmline/core/Limit;" (.ref a_FREQ_INLINE_SIZE)) (E_FREQ_INLINE_SIZE : Exa Z Z.heap a_FREQ_INLINE_SIZE "com/example/warmline/warmline/core/Limit") (F_FREQ_INLINE_SIZE_bytes : Fld Z Z.heap a_FREQ_INLINE_SIZE "com/example/warmline/warmline/core/Limit" "bytes" "I" (.int (325 : Int32))) (S_HUGE_METHOD_LIMIT : Sta Z Z.heap "com/example/warmline/warmline/core/Limit" "HUGE_METHOD_LIMIT" "Lcom/example/warmline/warmline/core/Limit;" (.ref a_HUGE_METHOD_LIMIT)) (E_HUGE_METHOD_LIMIT : Exa Z Z.heap a_HUGE_METHOD_LIMIT "com/example/warmline/warmline/core/Limit") (F_HUGE_METHOD_LIMIT_bytes : Fld Z Z.heap a_HUGE_METHOD_LIMIT "com/example/warmline/warmline/core/Limit" "bytes" "I" (.int (8000 : Int32))) :
    MetFree l x (head1 (Jvm.Cond.code x code maxLocals ret :: ws) room_1) (fun args_ U => args_ = #[(.int p0), (.int p1)] ∧ Z.Warmed39 U.vm ∧ U.heap = h0) (fun _ _ _ _ _ => True) (fun _ U o U' => ∃ v L, o = .returned v ∧ Q_own_law Z p0 p1 a_MAX_INLINE_SIZE a_C1_MAX_INLINE_SIZE a_FREQ_INLINE_SIZE a_HUGE_METHOD_LIMIT h0 n0 v U'.heap L ∧ FrameEnd U o U' L 0 0) := by
  refine MetFree.of_bodySF (plainFor_of_name own_pn_com_example_warmline_warmline_core_LimitIsExceededByPinLaw) hisR ?_
  intro pP eE sS mM args below meth cC s₁ Bd hml0 hP hK
  obtain ⟨rfl, hZ, hh⟩ := hP
  have hx := Bd.exec
  have hby := Bd.bytes
  have hml : cC.maxLocals = 9 := hml0
  have hown : sS.vm.findClass "com/example/warmline/warmline/core/LimitIsExceededByPinLaw" = some mM.cls := findClass_of_methodNamed Bd.named
  have hnm := (name_of_methodNamed Bd.named Bd.method).1
  have X0 : Stand pP l eE room_1 sS mM #[(.int p0), (.int p1)] below meth cC s₁ [] 0 0 := Stand.of_body Bd
  have e0 : s₁.heap = h0 := by rw [← hh, Bd.state]; rfl
  have N0 := Fr.nil n0
  show own_Ends pP eE below (own_Got sS (Q_own_law Z p0 p1 a_MAX_INLINE_SIZE a_C1_MAX_INLINE_SIZE a_FREQ_INLINE_SIZE a_HUGE_METHOD_LIMIT h0 n0) 0 0) (s₁.setTop (entryFrame mM #[(.int p0), (.int p1)] maxLocals))
  rw [own_ef_own_law mM p0 p1]
  refine own_go (fun _ k => XS.iloadN X0.here hx rfl (hb hby at_0) rfl k) ?_
  show own_Ends _ _ _ _ (s₁.setTop (mkF mM 1 #[.val (.int p0), .val (.int p1), .unset, .unset, .unset, .unset, .unset, .unset, .unset] [(.int p0)]))
  refine own_go (fun _ k => XS.iconst X0.here hx rfl (hb hby at_1) k) ?_
  show own_Ends _ _ _ _ (s₁.setTop (mkF mM 2 #[.val (.int p0), .val (.int p1), .unset, .unset, .unset, .unset, .unset, .unset, .unset] [(.int (3 : Int32)), (.int p0)]))
  refine own_go (fun _ k => XS.iand X0.here hx rfl (hb hby at_2) rfl k) ?_
  show own_Ends _ _ _ _ (s₁.setTop (mkF mM 3 #[.val (.int p0), .val (.int p1), .unset, .unset, .unset, .unset, .unset, .unset, .unset] [(.int (p0 &&& (3 : Int32)))]))
  refine own_go (fun _ k => XS.istoreN X0.here hx rfl (hb hby at_3) rfl (l' := #[.val (.int p0), .val (.int p1), .val (.int (p0 &&& (3 : Int32))), .unset, .unset, .unset, .unset, .unset, .unset]) rfl k) ?_
  show own_Ends _ _ _ _ (s₁.setTop (mkF mM 4 #[.val (.int p0), .val (.int p1), .val (.int (p0 &&& (3 : Int32))), .unset, .unset, .unset, .unset, .unset, .unset] []))
  refine own_go (fun _ k => XS.iloadN X0.here hx rfl (hb hby at_4) rfl k) ?_
  show own_Ends _ _ _ _ (s₁.setTop (mkF mM 5 #[.val (.int p0), .val (.int p1), .val (.int (p0 &&& (3 : Int32))), .unset, .unset, .unset, .unset, .unset, .unset] [(.int (p0 &&& (3 : Int32)))]))
  by_cases hc5_0 : (p0 &&& (3 : Int32)) = (0 : Int32)
  · refine own_go (fun _ k => XS.ifNo X0.here hx rfl (hb hby at_5) rfl ((if0 _ _).trans (teq hc5_0).2) k) ?_
    show own_Ends _ _ _ _ (s₁.setTop (mkF mM 8 #[.val (.int p0), .val (.int p1), .val (.int (p0 &&& (3 : Int32))), .unset, .unset, .unset, .unset, .unset, .unset] []))
    obtain ⟨T2, X2, e2, st2⟩ := getS2 X0 hx hZ hown (host := "") (Or.inl (hw _ (List.mem_of_getElem? (i := 0) rfl))) Via.refl e0 (S_MAX_INLINE_SIZE.ext O0.2) (g := (mkF mM 8 #[.val (.int p0), .val (.int p1), .val (.int (p0 &&& (3 : Int32))), .unset, .unset, .unset, .unset, .unset, .unset] [])) rfl (hb hby at_8)
    refine own_go st2 ?_
    show own_Ends _ _ _ _ (T2.setTop (mkF mM 11 #[.val (.int p0), .val (.int p1), .val (.int (p0 &&& (3 : Int32))), .unset, .unset, .unset, .unset, .unset, .unset] [(.ref a_MAX_INLINE_SIZE)]))
    refine own_go (fun _ k => XS.astoreN X2.here hx rfl (hb hby at_11) rfl rfl (l' := #[.val (.int p0), .val (.int p1), .val (.int (p0 &&& (3 : Int32))), .val (.ref a_MAX_INLINE_SIZE), .unset, .unset, .unset, .unset, .unset]) rfl k) ?_
    show own_Ends _ _ _ _ (T2.setTop (mkF mM 12 #[.val (.int p0), .val (.int p1), .val (.int (p0 &&& (3 : Int32))), .val (.ref a_MAX_INLINE_SIZE), .unset, .unset, .unset, .unset, .unset] []))
    refine own_go (fun _ k => XS.bipush X2.here hx rfl (hb hby at_12) k) ?_
    show own_Ends _ _ _ _ (T2.setTop (mkF mM 14 #[.val (.int p0), .val (.int p1), .val (.int (p0 &&& (3 : Int32))), .val (.ref a_MAX_INLINE_SIZE), .unset, .unset, .unset, .unset, .unset] [(.int (35 : Int32))]))
    refine own_go (fun _ k => XS.istore X2.here hx rfl (hb hby at_14) rfl (l' := #[.val (.int p0), .val (.int p1), .val (.int (p0 &&& (3 : Int32))), .val (.ref a_MAX_INLINE_SIZE), .val (.int (35 : Int32)), .unset, .unset, .unset, .unset]) rfl k) ?_
    show own_Ends _ _ _ _ (T2.setTop (mkF mM 16 #[.val (.int p0), .val (.int p1), .val (.int (p0 &&& (3 : Int32))), .val (.ref a_MAX_INLINE_SIZE), .val (.int (35 : Int32)), .unset, .unset, .unset, .unset] []))
    refine own_go (fun _ k => XS.goto X2.here hx rfl (pc0 := 16) (pc' := 61) rfl (hb hby at_16) (by decide) (by decide) k) ?_
    show own_Ends _ _ _ _ (T2.setTop (mkF mM 61 #[.val (.int p0), .val (.int p1), .val (.int (p0 &&& (3 : Int32))), .val (.ref a_MAX_INLINE_SIZE), .val (.int (35 : Int32)), .unset, .unset, .unset, .unset] []))
    refine own_go (fun _ k => XS.aloadN X2.here hx rfl (hb hby at_61) rfl rfl k) ?_
    show own_Ends _ _ _ _ (T2.setTop (mkF mM 62 #[.val (.int p0), .val (.int p1), .val (.int (p0 &&& (3 : Int32))), .val (.ref a_MAX_INLINE_SIZE), .val (.int (35 : Int32)), .unset, .unset, .unset, .unset] [(.ref a_MAX_INLINE_SIZE)]))
    refine own_go (fun _ k => XS.iload X2.here hx rfl (hb hby at_62) rfl k) ?_
    show own_Ends _ _ _ _ (T2.setTop (mkF mM 64 #[.val (.int p0), .val (.int p1), .val (.int (p0 &&& (3 : Int32))), .val (.ref a_MAX_INLINE_SIZE), .val (.int (35 : Int32)), .unset, .unset, .unset, .unset] [(.int (35 : Int32)), (.ref a_MAX_INLINE_SIZE)]))
    obtain ⟨cq3, kq3, q3a, q3b, q3c⟩ := isOf hZ e2 (E_MAX_INLINE_SIZE.ext O0.2)
    obtain ⟨_, _, ⟨T3, Lz3, kz3, nz3⟩, -, X3, ⟨Lc3, hQ3, l3, y3, z3⟩, st3⟩ := X2.virtualBack hx (y := (⟨"com/example/warmline/warmline/core/Limit", "isExceededBy", "(I)Z"⟩ : MethodName)) (z := (⟨"com/example/warmline/warmline/core/Limit", "isExceededBy", "(I)Z"⟩ : MethodName)) hown (mvT hZ (hw _ (List.mem_of_getElem? (i := 3) rfl))) (mvT hZ (hw _ (List.mem_of_getElem? (i := 4) rfl))) (notFace_of_selects (args := #[]) (mvT hZ (hw _ (List.mem_of_getElem? (i := 6) rfl)))) (mvT hZ (hw _ (List.mem_of_getElem? (i := 6) rfl))) (mvT hZ (hw _ (List.mem_of_getElem? (i := 5) rfl))) (by decide) (backOf (W := 0) (own_exceeded l Z a0 hw [] a_MAX_INLINE_SIZE (35 : Int32) (35 : Int32) (0 : Int32) h0 n0 O0 F_MAX_INLINE_SIZE_bytes (by decide +kernel)) hZ (hw _ (List.mem_of_getElem? (i := 7) rfl)) (hw _ (List.mem_of_getElem? (i := 1) rfl)) (by decide) (by decide)) q3a q3c (g := (mkF mM 64 #[.val (.int p0), .val (.int p1), .val (.int (p0 &&& (3 : Int32))), .val (.ref a_MAX_INLINE_SIZE), .val (.int (35 : Int32)), .unset, .unset, .unset, .unset] [(.int (35 : Int32)), (.ref a_MAX_INLINE_SIZE)])) rfl (by rw [hml]; rfl) (Steps.refl _) (argsL := [(.int (35 : Int32))]) (rest := []) (lenOf own_pd0 rfl) rfl (by show 2 * 0 + _ ≤ _; exact Nat.le_of_eq rfl) (hb hby at_64) (fun _ _ => ⟨rfl, e2, (by decide : 0 + 0 ≤ _), (by decide : 0 + 0 ≤ _)⟩)
    dsimp only [Pt.U, Pt.locs, Pt.cells, Pt.slots] at X3 l3 y3 z3 st3 hQ3
    subst l3 y3 z3
    obtain ⟨rfl, Nq3, e3⟩ := hQ3
    have N3 := Fr.app N0 Nq3
    refine own_tr st3 ?_
    show own_Ends _ _ _ _ (T3.setTop (mkF mM 67 #[.val (.int p0), .val (.int p1), .val (.int (p0 &&& (3 : Int32))), .val (.ref a_MAX_INLINE_SIZE), .val (.int (35 : Int32)), .unset, .unset, .unset, .unset] [(.int (0 : Int32))]))
    refine own_go (fun _ k => XS.istore X3.here hx rfl (hb hby at_67) rfl (l' := #[.val (.int p0), .val (.int p1), .val (.int (p0 &&& (3 : Int32))), .val (.ref a_MAX_INLINE_SIZE), .val (.int (35 : Int32)), .val (.int (0 : Int32)), .unset, .unset, .unset]) rfl k) ?_
    show own_Ends _ _ _ _ (T3.setTop (mkF mM 69 #[.val (.int p0), .val (.int p1), .val (.int (p0 &&& (3 : Int32))), .val (.ref a_MAX_INLINE_SIZE), .val (.int (35 : Int32)), .val (.int (0 : Int32)), .unset, .unset, .unset] []))
    refine own_go (fun _ k => XS.aloadN X3.here hx rfl (hb hby at_69) rfl rfl k) ?_
    show own_Ends _ _ _ _ (T3.setTop (mkF mM 70 #[.val (.int p0), .val (.int p1), .val (.int (p0 &&& (3 : Int32))), .val (.ref a_MAX_INLINE_SIZE), .val (.int (35 : Int32)), .val (.int (0 : Int32)), .unset, .unset, .unset] [(.ref a_MAX_INLINE_SIZE)]))
    refine own_go (fun _ k => XS.iload X3.here hx rfl (hb hby at_70) rfl k) ?_
    show own_Ends _ _ _ _ (T3.setTop (mkF mM 72 #[.val (.int p0), .val (.int p1), .val (.int (p0 &&& (3 : Int32))), .val (.ref a_MAX_INLINE_SIZE), .val (.int (35 : Int32)), .val (.int (0 : Int32)), .unset, .unset, .unset] [(.int (35 : Int32)), (.ref a_MAX_INLINE_SIZE)]))
    refine own_go (fun _ k => XS.iconst X3.here hx rfl (hb hby at_72) k) ?_
    show own_Ends _ _ _ _ (T3.setTop (mkF mM 73 #[.val (.int p0), .val (.int p1), .val (.int (p0 &&& (3 : Int32))), .val (.ref a_MAX_INLINE_SIZE), .val (.int (35 : Int32)), .val (.int (0 : Int32)), .unset, .unset, .unset] [(.int (1 : Int32)), (.int (35 : Int32)), (.ref a_MAX_INLINE_SIZE)]))
    refine own_go (fun _ k => XS.iadd X3.here hx rfl (hb hby at_73) rfl k) ?_
    show own_Ends _ _ _ _ (T3.setTop (mkF mM 74 #[.val (.int p0), .val (.int p1), .val (.int (p0 &&& (3 : Int32))), .val (.ref a_MAX_INLINE_SIZE), .val (.int (35 : Int32)), .val (.int (0 : Int32)), .unset, .unset, .unset] [(.int ((35 : Int32) + (1 : Int32))), (.ref a_MAX_INLINE_SIZE)]))
    obtain ⟨cq4, kq4, q4a, q4b, q4c⟩ := isOf hZ e3 (E_MAX_INLINE_SIZE.ext O0.2)
    obtain ⟨_, _, ⟨T4, Lz4, kz4, nz4⟩, -, X4, ⟨Lc4, hQ4, l4, y4, z4⟩, st4⟩ := X3.virtualBack hx (y := (⟨"com/example/warmline/warmline/core/Limit", "isExceededBy", "(I)Z"⟩ : MethodName)) (z := (⟨"com/example/warmline/warmline/core/Limit", "isExceededBy", "(I)Z"⟩ : MethodName)) hown (mvT hZ (hw _ (List.mem_of_getElem? (i := 3) rfl))) (mvT hZ (hw _ (List.mem_of_getElem? (i := 4) rfl))) (notFace_of_selects (args := #[]) (mvT hZ (hw _ (List.mem_of_getElem? (i := 6) rfl)))) (mvT hZ (hw _ (List.mem_of_getElem? (i := 6) rfl))) (mvT hZ (hw _ (List.mem_of_getElem? (i := 5) rfl))) (by decide) (backOf (W := 0) (own_exceeded l Z a0 hw [] a_MAX_INLINE_SIZE ((35 : Int32) + (1 : Int32)) (35 : Int32) (1 : Int32) h0 n0 O0 F_MAX_INLINE_SIZE_bytes (by decide +kernel)) hZ (hw _ (List.mem_of_getElem? (i := 7) rfl)) (hw _ (List.mem_of_getElem? (i := 1) rfl)) (by decide) (by decide)) q4a q4c (g := (mkF mM 74 #[.val (.int p0), .val (.int p1), .val (.int (p0 &&& (3 : Int32))), .val (.ref a_MAX_INLINE_SIZE), .val (.int (35 : Int32)), .val (.int (0 : Int32)), .unset, .unset, .unset] [(.int ((35 : Int32) + (1 : Int32))), (.ref a_MAX_INLINE_SIZE)])) rfl (by rw [hml]; rfl) (Steps.refl _) (argsL := [(.int ((35 : Int32) + (1 : Int32)))]) (rest := []) (lenOf own_pd0 rfl) rfl (by show 2 * 0 + _ ≤ _; exact Nat.le_of_eq rfl) (hb hby at_74) (fun _ _ => ⟨rfl, e3, (by decide : 0 + 0 ≤ _), (by decide : 0 + 0 ≤ _)⟩)
    dsimp only [Pt.U, Pt.locs, Pt.cells, Pt.slots] at X4 l4 y4 z4 st4 hQ4
    subst l4 y4 z4
    obtain ⟨rfl, Nq4, e4⟩ := hQ4
    have N4 := Fr.app N3 Nq4
    refine own_tr st4 ?_
    show own_Ends _ _ _ _ (T4.setTop (mkF mM 77 #[.val (.int p0), .val (.int p1), .val (.int (p0 &&& (3 : Int32))), .val (.ref a_MAX_INLINE_SIZE), .val (.int (35 : Int32)), .val (.int (0 : Int32)), .unset, .unset, .unset] [(.int (1 : Int32))]))
    refine own_go (fun _ k => XS.istore X4.here hx rfl (hb hby at_77) rfl (l' := #[.val (.int p0), .val (.int p1), .val (.int (p0 &&& (3 : Int32))), .val (.ref a_MAX_INLINE_SIZE), .val (.int (35 : Int32)), .val (.int (0 : Int32)), .val (.int (1 : Int32)), .unset, .unset]) rfl k) ?_
    show own_Ends _ _ _ _ (T4.setTop (mkF mM 79 #[.val (.int p0), .val (.int p1), .val (.int (p0 &&& (3 : Int32))), .val (.ref a_MAX_INLINE_SIZE), .val (.int (35 : Int32)), .val (.int (0 : Int32)), .val (.int (1 : Int32)), .unset, .unset] []))
    refine own_go (fun _ k => XS.aloadN X4.here hx rfl (hb hby at_79) rfl rfl k) ?_
    show own_Ends _ _ _ _ (T4.setTop (mkF mM 80 #[.val (.int p0), .val (.int p1), .val (.int (p0 &&& (3 : Int32))), .val (.ref a_MAX_INLINE_SIZE), .val (.int (35 : Int32)), .val (.int (0 : Int32)), .val (.int (1 : Int32)), .unset, .unset] [(.ref a_MAX_INLINE_SIZE)]))
    refine own_go (fun _ k => XS.iloadN X4.here hx rfl (hb hby at_80) rfl k) ?_
    show own_Ends _ _ _ _ (T4.setTop (mkF mM 81 #[.val (.int p0), .val (.int p1), .val (.int (p0 &&& (3 : Int32))), .val (.ref a_MAX_INLINE_SIZE), .val (.int (35 : Int32)), .val (.int (0 : Int32)), .val (.int (1 : Int32)), .unset, .unset] [(.int p1), (.ref a_MAX_INLINE_SIZE)]))
    by_cases hf81_4 : (35 : Int32) < p1
    · obtain ⟨cq6, kq6, q6a, q6b, q6c⟩ := isOf hZ e4 (E_MAX_INLINE_SIZE.ext O0.2)
      obtain ⟨_, _, ⟨T6, Lz6, kz6, nz6⟩, -, X6, ⟨Lc6, hQ6, l6, y6, z6⟩, st6⟩ := X4.virtualBack hx (y := (⟨"com/example/warmline/warmline/core/Limit", "isExceededBy", "(I)Z"⟩ : MethodName)) (z := (⟨"com/example/warmline/warmline/core/Limit", "isExceededBy", "(I)Z"⟩ : MethodName)) hown (mvT hZ (hw _ (List.mem_of_getElem? (i := 3) rfl))) (mvT hZ (hw _ (List.mem_of_getElem? (i := 4) rfl))) (notFace_of_selects (args := #[]) (mvT hZ (hw _ (List.mem_of_getElem? (i := 6) rfl)))) (mvT hZ (hw _ (List.mem_of_getElem? (i := 6) rfl))) (mvT hZ (hw _ (List.mem_of_getElem? (i := 5) rfl))) (by decide) (backOf (W := 0) (own_exceeded l Z a0 hw [] a_MAX_INLINE_SIZE p1 (35 : Int32) (1 : Int32) h0 n0 O0 F_MAX_INLINE_SIZE_bytes (by rw [if_pos hf81_4])) hZ (hw _ (List.mem_of_getElem? (i := 7) rfl)) (hw _ (List.mem_of_getElem? (i := 1) rfl)) (by decide) (by decide)) q6a q6c (g := (mkF mM 81 #[.val (.int p0), .val (.int p1), .val (.int (p0 &&& (3 : Int32))), .val (.ref a_MAX_INLINE_SIZE), .val (.int (35 : Int32)), .val (.int (0 : Int32)), .val (.int (1 : Int32)), .unset, .unset] [(.int p1), (.ref a_MAX_INLINE_SIZE)])) rfl (by rw [hml]; rfl) (Steps.refl _) (argsL := [(.int p1)]) (rest := []) (lenOf own_pd0 rfl) rfl (by show 2 * 0 + _ ≤ _; exact Nat.le_of_eq rfl) (hb hby at_81) (fun _ _ => ⟨rfl, e4, (by decide : 0 + 0 ≤ _), (by decide : 0 + 0 ≤ _)⟩)
      dsimp only [Pt.U, Pt.locs, Pt.cells, Pt.slots] at X6 l6 y6 z6 st6 hQ6
      subst l6 y6 z6
      obtain ⟨rfl, Nq6, e6⟩ := hQ6
      have N6 := Fr.app N4 Nq6
      refine own_tr st6 ?_
      show own_Ends _ _ _ _ (T6.setTop (mkF mM 84 #[.val (.int p0), .val (.int p1), .val (.int (p0 &&& (3 : Int32))), .val (.ref a_MAX_INLINE_SIZE), .val (.int (35 : Int32)), .val (.int (0 : Int32)), .val (.int (1 : Int32)), .unset, .unset] [(.int (1 : Int32))]))
      refine own_go (fun _ k => XS.istore X6.here hx rfl (hb hby at_84) rfl (l' := #[.val (.int p0), .val (.int p1), .val (.int (p0 &&& (3 : Int32))), .val (.ref a_MAX_INLINE_SIZE), .val (.int (35 : Int32)), .val (.int (0 : Int32)), .val (.int (1 : Int32)), .val (.int (1 : Int32)), .unset]) rfl k) ?_
      show own_Ends _ _ _ _ (T6.setTop (mkF mM 86 #[.val (.int p0), .val (.int p1), .val (.int (p0 &&& (3 : Int32))), .val (.ref a_MAX_INLINE_SIZE), .val (.int (35 : Int32)), .val (.int (0 : Int32)), .val (.int (1 : Int32)), .val (.int (1 : Int32)), .unset] []))
      refine own_go (fun _ k => XS.iloadN X6.here hx rfl (hb hby at_86) rfl k) ?_
      show own_Ends _ _ _ _ (T6.setTop (mkF mM 87 #[.val (.int p0), .val (.int p1), .val (.int (p0 &&& (3 : Int32))), .val (.ref a_MAX_INLINE_SIZE), .val (.int (35 : Int32)), .val (.int (0 : Int32)), .val (.int (1 : Int32)), .val (.int (1 : Int32)), .unset] [(.int p1)]))
      refine own_go (fun _ k => XS.iload X6.here hx rfl (hb hby at_87) rfl k) ?_
      show own_Ends _ _ _ _ (T6.setTop (mkF mM 89 #[.val (.int p0), .val (.int p1), .val (.int (p0 &&& (3 : Int32))), .val (.ref a_MAX_INLINE_SIZE), .val (.int (35 : Int32)), .val (.int (0 : Int32)), .val (.int (1 : Int32)), .val (.int (1 : Int32)), .unset] [(.int (35 : Int32)), (.int p1)]))
      refine own_go (fun _ k => XS.icmpNo X6.here hx rfl (hb hby at_89) rfl (tlt hf81_4).2.2.2 k) ?_
      show own_Ends _ _ _ _ (T6.setTop (mkF mM 92 #[.val (.int p0), .val (.int p1), .val (.int (p0 &&& (3 : Int32))), .val (.ref a_MAX_INLINE_SIZE), .val (.int (35 : Int32)), .val (.int (0 : Int32)), .val (.int (1 : Int32)), .val (.int (1 : Int32)), .unset] []))
      refine own_go (fun _ k => XS.iconst X6.here hx rfl (hb hby at_92) k) ?_
      show own_Ends _ _ _ _ (T6.setTop (mkF mM 93 #[.val (.int p0), .val (.int p1), .val (.int (p0 &&& (3 : Int32))), .val (.ref a_MAX_INLINE_SIZE), .val (.int (35 : Int32)), .val (.int (0 : Int32)), .val (.int (1 : Int32)), .val (.int (1 : Int32)), .unset] [(.int (1 : Int32))]))
      refine own_go (fun _ k => XS.goto X6.here hx rfl (pc0 := 93) (pc' := 97) rfl (hb hby at_93) (by decide) (by decide) k) ?_
      show own_Ends _ _ _ _ (T6.setTop (mkF mM 97 #[.val (.int p0), .val (.int p1), .val (.int (p0 &&& (3 : Int32))), .val (.ref a_MAX_INLINE_SIZE), .val (.int (35 : Int32)), .val (.int (0 : Int32)), .val (.int (1 : Int32)), .val (.int (1 : Int32)), .unset] [(.int (1 : Int32))]))
      refine own_go (fun _ k => XS.istore X6.here hx rfl (hb hby at_97) rfl (l' := #[.val (.int p0), .val (.int p1), .val (.int (p0 &&& (3 : Int32))), .val (.ref a_MAX_INLINE_SIZE), .val (.int (35 : Int32)), .val (.int (0 : Int32)), .val (.int (1 : Int32)), .val (.int (1 : Int32)), .val (.int (1 : Int32))]) rfl k) ?_
      show own_Ends _ _ _ _ (T6.setTop (mkF mM 99 #[.val (.int p0), .val (.int p1), .val (.int (p0 &&& (3 : Int32))), .val (.ref a_MAX_INLINE_SIZE), .val (.int (35 : Int32)), .val (.int (0 : Int32)), .val (.int (1 : Int32)), .val (.int (1 : Int32)), .val (.int (1 : Int32))] []))
      refine own_go (fun _ k => XS.iload X6.here hx rfl (hb hby at_99) rfl k) ?_
      show own_Ends _ _ _ _ (T6.setTop (mkF mM 101 #[.val (.int p0), .val (.int p1), .val (.int (p0 &&& (3 : Int32))), .val (.ref a_MAX_INLINE_SIZE), .val (.int (35 : Int32)), .val (.int (0 : Int32)), .val (.int (1 : Int32)), .val (.int (1 : Int32)), .val (.int (1 : Int32))] [(.int (0 : Int32))]))
      refine own_go (fun _ k => XS.ifNo X6.here hx rfl (hb hby at_101) rfl ((if0 _ _).trans (teq (by decide : (0 : Int32) = (0 : Int32))).2) k) ?_
      show own_Ends _ _ _ _ (T6.setTop (mkF mM 104 #[.val (.int p0), .val (.int p1), .val (.int (p0 &&& (3 : Int32))), .val (.ref a_MAX_INLINE_SIZE), .val (.int (35 : Int32)), .val (.int (0 : Int32)), .val (.int (1 : Int32)), .val (.int (1 : Int32)), .val (.int (1 : Int32))] []))
      refine own_go (fun _ k => XS.iload X6.here hx rfl (hb hby at_104) rfl k) ?_
      show own_Ends _ _ _ _ (T6.setTop (mkF mM 106 #[.val (.int p0), .val (.int p1), .val (.int (p0 &&& (3 : Int32))), .val (.ref a_MAX_INLINE_SIZE), .val (.int (35 : Int32)), .val (.int (0 : Int32)), .val (.int (1 : Int32)), .val (.int (1 : Int32)), .val (.int (1 : Int32))] [(.int (1 : Int32))]))
      refine own_go (fun _ k => XS.ifNo X6.here hx rfl (hb hby at_106) rfl ((if0 _ _).trans (feq (by decide : ¬ ((1 : Int32) = (0 : Int32)))).1) k) ?_
      show own_Ends _ _ _ _ (T6.setTop (mkF mM 109 #[.val (.int p0), .val (.int p1), .val (.int (p0 &&& (3 : Int32))), .val (.ref a_MAX_INLINE_SIZE), .val (.int (35 : Int32)), .val (.int (0 : Int32)), .val (.int (1 : Int32)), .val (.int (1 : Int32)), .val (.int (1 : Int32))] []))
      refine own_go (fun _ k => XS.iload X6.here hx rfl (hb hby at_109) rfl k) ?_
      show own_Ends _ _ _ _ (T6.setTop (mkF mM 111 #[.val (.int p0), .val (.int p1), .val (.int (p0 &&& (3 : Int32))), .val (.ref a_MAX_INLINE_SIZE), .val (.int (35 : Int32)), .val (.int (0 : Int32)), .val (.int (1 : Int32)), .val (.int (1 : Int32)), .val (.int (1 : Int32))] [(.int (1 : Int32))]))
      refine own_go (fun _ k => XS.iload X6.here hx rfl (hb hby at_111) rfl k) ?_
      show own_Ends _ _ _ _ (T6.setTop (mkF mM 113 #[.val (.int p0), .val (.int p1), .val (.int (p0 &&& (3 : Int32))), .val (.ref a_MAX_INLINE_SIZE), .val (.int (35 : Int32)), .val (.int (0 : Int32)), .val (.int (1 : Int32)), .val (.int (1 : Int32)), .val (.int (1 : Int32))] [(.int (1 : Int32)), (.int (1 : Int32))]))
      refine own_go (fun _ k => XS.icmpNo X6.here hx rfl (hb hby at_113) rfl (teq (by decide : (1 : Int32) = (1 : Int32))).2 k) ?_
      show own_Ends _ _ _ _ (T6.setTop (mkF mM 116 #[.val (.int p0), .val (.int p1), .val (.int (p0 &&& (3 : Int32))), .val (.ref a_MAX_INLINE_SIZE), .val (.int (35 : Int32)), .val (.int (0 : Int32)), .val (.int (1 : Int32)), .val (.int (1 : Int32)), .val (.int (1 : Int32))] []))
      refine own_go (fun _ k => XS.iconst X6.here hx rfl (hb hby at_116) k) ?_
      show own_Ends _ _ _ _ (T6.setTop (mkF mM 117 #[.val (.int p0), .val (.int p1), .val (.int (p0 &&& (3 : Int32))), .val (.ref a_MAX_INLINE_SIZE), .val (.int (35 : Int32)), .val (.int (0 : Int32)), .val (.int (1 : Int32)), .val (.int (1 : Int32)), .val (.int (1 : Int32))] [(.int (1 : Int32))]))
      refine own_go (fun _ k => XS.goto X6.here hx rfl (pc0 := 117) (pc' := 121) rfl (hb hby at_117) (by decide) (by decide) k) ?_
      show own_Ends _ _ _ _ (T6.setTop (mkF mM 121 #[.val (.int p0), .val (.int p1), .val (.int (p0 &&& (3 : Int32))), .val (.ref a_MAX_INLINE_SIZE), .val (.int (35 : Int32)), .val (.int (0 : Int32)), .val (.int (1 : Int32)), .val (.int (1 : Int32)), .val (.int (1 : Int32))] [(.int (1 : Int32))]))
      exact own_retZ X6 hx (BodyLoose.notSynchronized Bd) Bd.returns rfl (hb hby at_121) (by decide) (by decide) (by rw [e6]; exact ⟨rfl, N6⟩)
    · obtain ⟨cq7, kq7, q7a, q7b, q7c⟩ := isOf hZ e4 (E_MAX_INLINE_SIZE.ext O0.2)
      obtain ⟨_, _, ⟨T7, Lz7, kz7, nz7⟩, -, X7, ⟨Lc7, hQ7, l7, y7, z7⟩, st7⟩ := X4.virtualBack hx (y := (⟨"com/example/warmline/warmline/core/Limit", "isExceededBy", "(I)Z"⟩ : MethodName)) (z := (⟨"com/example/warmline/warmline/core/Limit", "isExceededBy", "(I)Z"⟩ : MethodName)) hown (mvT hZ (hw _ (List.mem_of_getElem? (i := 3) rfl))) (mvT hZ (hw _ (List.mem_of_getElem? (i := 4) rfl))) (notFace_of_selects (args := #[]) (mvT hZ (hw _ (List.mem_of_getElem? (i := 6) rfl)))) (mvT hZ (hw _ (List.mem_of_getElem? (i := 6) rfl))) (mvT hZ (hw _ (List.mem_of_getElem? (i := 5) rfl))) (by decide) (backOf (W := 0) (own_exceeded l Z a0 hw [] a_MAX_INLINE_SIZE p1 (35 : Int32) (0 : Int32) h0 n0 O0 F_MAX_INLINE_SIZE_bytes (by rw [if_neg hf81_4])) hZ (hw _ (List.mem_of_getElem? (i := 7) rfl)) (hw _ (List.mem_of_getElem? (i := 1) rfl)) (by decide) (by decide)) q7a q7c (g := (mkF mM 81 #[.val (.int p0), .val (.int p1), .val (.int (p0 &&& (3 : Int32))), .val (.ref a_MAX_INLINE_SIZE), .val (.int (35 : Int32)), .val (.int (0 : Int32)), .val (.int (1 : Int32)), .unset, .unset] [(.int p1), (.ref a_MAX_INLINE_SIZE)])) rfl (by rw [hml]; rfl) (Steps.refl _) (argsL := [(.int p1)]) (rest := []) (lenOf own_pd0 rfl) rfl (by show 2 * 0 + _ ≤ _; exact Nat.le_of_eq rfl) (hb hby at_81) (fun _ _ => ⟨rfl, e4, (by decide : 0 + 0 ≤ _), (by decide : 0 + 0 ≤ _)⟩)
      dsimp only [Pt.U, Pt.locs, Pt.cells, Pt.slots] at X7 l7 y7 z7 st7 hQ7
      subst l7 y7 z7
      obtain ⟨rfl, Nq7, e7⟩ := hQ7
      have N7 := Fr.app N4 Nq7
      refine own_tr st7 ?_
      show own_Ends _ _ _ _ (T7.setTop (mkF mM 84 #[.val (.int p0), .val (.int p1), .val (.int (p0 &&& (3 : Int32))), .val (.ref a_MAX_INLINE_SIZE), .val (.int (35 : Int32)), .val (.int (0 : Int32)), .val (.int (1 : Int32)), .unset, .unset] [(.int (0 : Int32))]))
      refine own_go (fun _ k => XS.istore X7.here hx rfl (hb hby at_84) rfl (l' := #[.val (.int p0), .val (.int p1), .val (.int (p0 &&& (3 : Int32))), .val (.ref a_MAX_INLINE_SIZE), .val (.int (35 : Int32)), .val (.int (0 : Int32)), .val (.int (1 : Int32)), .val (.int (0 : Int32)), .unset]) rfl k) ?_
      show own_Ends _ _ _ _ (T7.setTop (mkF mM 86 #[.val (.int p0), .val (.int p1), .val (.int (p0 &&& (3 : Int32))), .val (.ref a_MAX_INLINE_SIZE), .val (.int (35 : Int32)), .val (.int (0 : Int32)), .val (.int (1 : Int32)), .val (.int (0 : Int32)), .unset] []))
      refine own_go (fun _ k => XS.iloadN X7.here hx rfl (hb hby at_86) rfl k) ?_
      show own_Ends _ _ _ _ (T7.setTop (mkF mM 87 #[.val (.int p0), .val (.int p1), .val (.int (p0 &&& (3 : Int32))), .val (.ref a_MAX_INLINE_SIZE), .val (.int (35 : Int32)), .val (.int (0 : Int32)), .val (.int (1 : Int32)), .val (.int (0 : Int32)), .unset] [(.int p1)]))
      refine own_go (fun _ k => XS.iload X7.here hx rfl (hb hby at_87) rfl k) ?_
      show own_Ends _ _ _ _ (T7.setTop (mkF mM 89 #[.val (.int p0), .val (.int p1), .val (.int (p0 &&& (3 : Int32))), .val (.ref a_MAX_INLINE_SIZE), .val (.int (35 : Int32)), .val (.int (0 : Int32)), .val (.int (1 : Int32)), .val (.int (0 : Int32)), .unset] [(.int (35 : Int32)), (.int p1)]))
      refine own_go (fun _ k => XS.icmpYes X7.here hx rfl (pc0 := 89) (pc' := 96) rfl (hb hby at_89) rfl (flt hf81_4).2.2.2 (by decide) (by decide) k) ?_
      show own_Ends _ _ _ _ (T7.setTop (mkF mM 96 #[.val (.int p0), .val (.int p1), .val (.int (p0 &&& (3 : Int32))), .val (.ref a_MAX_INLINE_SIZE), .val (.int (35 : Int32)), .val (.int (0 : Int32)), .val (.int (1 : Int32)), .val (.int (0 : Int32)), .unset] []))
      refine own_go (fun _ k => XS.iconst X7.here hx rfl (hb hby at_96) k) ?_
      show own_Ends _ _ _ _ (T7.setTop (mkF mM 97 #[.val (.int p0), .val (.int p1), .val (.int (p0 &&& (3 : Int32))), .val (.ref a_MAX_INLINE_SIZE), .val (.int (35 : Int32)), .val (.int (0 : Int32)), .val (.int (1 : Int32)), .val (.int (0 : Int32)), .unset] [(.int (0 : Int32))]))
      refine own_go (fun _ k => XS.istore X7.here hx rfl (hb hby at_97) rfl (l' := #[.val (.int p0), .val (.int p1), .val (.int (p0 &&& (3 : Int32))), .val (.ref a_MAX_INLINE_SIZE), .val (.int (35 : Int32)), .val (.int (0 : Int32)), .val (.int (1 : Int32)), .val (.int (0 : Int32)), .val (.int (0 : Int32))]) rfl k) ?_
      show own_Ends _ _ _ _ (T7.setTop (mkF mM 99 #[.val (.int p0), .val (.int p1), .val (.int (p0 &&& (3 : Int32))), .val (.ref a_MAX_INLINE_SIZE), .val (.int (35 : Int32)), .val (.int (0 : Int32)), .val (.int (1 : Int32)), .val (.int (0 : Int32)), .val (.int (0 : Int32))] []))
      refine own_go (fun _ k => XS.iload X7.here hx rfl (hb hby at_99) rfl k) ?_
      show own_Ends _ _ _ _ (T7.setTop (mkF mM 101 #[.val (.int p0), .val (.int p1), .val (.int (p0 &&& (3 : Int32))), .val (.ref a_MAX_INLINE_SIZE), .val (.int (35 : Int32)), .val (.int (0 : Int32)), .val (.int (1 : Int32)), .val (.int (0 : Int32)), .val (.int (0 : Int32))] [(.int (0 : Int32))]))
      refine own_go (fun _ k => XS.ifNo X7.here hx rfl (hb hby at_101) rfl ((if0 _ _).trans (teq (by decide : (0 : Int32) = (0 : Int32))).2) k) ?_
      show own_Ends _ _ _ _ (T7.setTop (mkF mM 104 #[.val (.int p0), .val (.int p1), .val (.int (p0 &&& (3 : Int32))), .val (.ref a_MAX_INLINE_SIZE), .val (.int (35 : Int32)), .val (.int (0 : Int32)), .val (.int (1 : Int32)), .val (.int (0 : Int32)), .val (.int (0 : Int32))] []))
      refine own_go (fun _ k => XS.iload X7.here hx rfl (hb hby at_104) rfl k) ?_
      show own_Ends _ _ _ _ (T7.setTop (mkF mM 106 #[.val (.int p0), .val (.int p1), .val (.int (p0 &&& (3 : Int32))), .val (.ref a_MAX_INLINE_SIZE), .val (.int (35 : Int32)), .val (.int (0 : Int32)), .val (.int (1 : Int32)), .val (.int (0 : Int32)), .val (.int (0 : Int32))] [(.int (1 : Int32))]))
      refine own_go (fun _ k => XS.ifNo X7.here hx rfl (hb hby at_106) rfl ((if0 _ _).trans (feq (by decide : ¬ ((1 : Int32) = (0 : Int32)))).1) k) ?_
      show own_Ends _ _ _ _ (T7.setTop (mkF mM 109 #[.val (.int p0), .val (.int p1), .val (.int (p0 &&& (3 : Int32))), .val (.ref a_MAX_INLINE_SIZE), .val (.int (35 : Int32)), .val (.int (0 : Int32)), .val (.int (1 : Int32)), .val (.int (0 : Int32)), .val (.int (0 : Int32))] []))
      refine own_go (fun _ k => XS.iload X7.here hx rfl (hb hby at_109) rfl k) ?_
      show own_Ends _ _ _ _ (T7.setTop (mkF mM 111 #[.val (.int p0), .val (.int p1), .val (.int (p0 &&& (3 : Int32))), .val (.ref a_MAX_INLINE_SIZE), .val (.int (35 : Int32)), .val (.int (0 : Int32)), .val (.int (1 : Int32)), .val (.int (0 : Int32)), .val (.int (0 : Int32))] [(.int (0 : Int32))]))
      refine own_go (fun _ k => XS.iload X7.here hx rfl (hb hby at_111) rfl k) ?_
      show own_Ends _ _ _ _ (T7.setTop (mkF mM 113 #[.val (.int p0), .val (.int p1), .val (.int (p0 &&& (3 : Int32))), .val (.ref a_MAX_INLINE_SIZE), .val (.int (35 : Int32)), .val (.int (0 : Int32)), .val (.int (1 : Int32)), .val (.int (0 : Int32)), .val (.int (0 : Int32))] [(.int (0 : Int32)), (.int (0 : Int32))]))
      refine own_go (fun _ k => XS.icmpNo X7.here hx rfl (hb hby at_113) rfl (teq (by decide : (0 : Int32) = (0 : Int32))).2 k) ?_
      show own_Ends _ _ _ _ (T7.setTop (mkF mM 116 #[.val (.int p0), .val (.int p1), .val (.int (p0 &&& (3 : Int32))), .val (.ref a_MAX_INLINE_SIZE), .val (.int (35 : Int32)), .val (.int (0 : Int32)), .val (.int (1 : Int32)), .val (.int (0 : Int32)), .val (.int (0 : Int32))] []))
      refine own_go (fun _ k => XS.iconst X7.here hx rfl (hb hby at_116) k) ?_
      show own_Ends _ _ _ _ (T7.setTop (mkF mM 117 #[.val (.int p0), .val (.int p1), .val (.int (p0 &&& (3 : Int32))), .val (.ref a_MAX_INLINE_SIZE), .val (.int (35 : Int32)), .val (.int (0 : Int32)), .val (.int (1 : Int32)), .val (.int (0 : Int32)), .val (.int (0 : Int32))] [(.int (1 : Int32))]))
      refine own_go (fun _ k => XS.goto X7.here hx rfl (pc0 := 117) (pc' := 121) rfl (hb hby at_117) (by decide) (by decide) k) ?_
      show own_Ends _ _ _ _ (T7.setTop (mkF mM 121 #[.val (.int p0), .val (.int p1), .val (.int (p0 &&& (3 : Int32))), .val (.ref a_MAX_INLINE_SIZE), .val (.int (35 : Int32)), .val (.int (0 : Int32)), .val (.int (1 : Int32)), .val (.int (0 : Int32)), .val (.int (0 : Int32))] [(.int (1 : Int32))]))
      exact own_retZ X7 hx (BodyLoose.notSynchronized Bd) Bd.returns rfl (hb hby at_121) (by decide) (by decide) (by rw [e7]; exact ⟨rfl, N7⟩)
  · refine own_go (fun _ k => XS.ifYes X0.here hx rfl (pc0 := 5) (pc' := 19) rfl (hb hby at_5) rfl ((if0 _ _).trans (feq hc5_0).2) (by decide) (by decide) k) ?_
    show own_Ends _ _ _ _ (s₁.setTop (mkF mM 19 #[.val (.int p0), .val (.int p1), .val (.int (p0 &&& (3 : Int32))), .unset, .unset, .unset, .unset, .unset, .unset] []))
    refine own_go (fun _ k => XS.iloadN X0.here hx rfl (hb hby at_19) rfl k) ?_
    show own_Ends _ _ _ _ (s₁.setTop (mkF mM 20 #[.val (.int p0), .val (.int p1), .val (.int (p0 &&& (3 : Int32))), .unset, .unset, .unset, .unset, .unset, .unset] [(.int (p0 &&& (3 : Int32)))]))
    refine own_go (fun _ k => XS.iconst X0.here hx rfl (hb hby at_20) k) ?_
    show own_Ends _ _ _ _ (s₁.setTop (mkF mM 21 #[.val (.int p0), .val (.int p1), .val (.int (p0 &&& (3 : Int32))), .unset, .unset, .unset, .unset, .unset, .unset] [(.int (1 : Int32)), (.int (p0 &&& (3 : Int32)))]))
    by_cases hc21_7 : (p0 &&& (3 : Int32)) = (1 : Int32)
    · refine own_go (fun _ k => XS.icmpNo X0.here hx rfl (hb hby at_21) rfl (teq hc21_7).2 k) ?_
      show own_Ends _ _ _ _ (s₁.setTop (mkF mM 24 #[.val (.int p0), .val (.int p1), .val (.int (p0 &&& (3 : Int32))), .unset, .unset, .unset, .unset, .unset, .unset] []))
      obtain ⟨T9, X9, e9, st9⟩ := getS2 X0 hx hZ hown (host := "") (Or.inl (hw _ (List.mem_of_getElem? (i := 12) rfl))) Via.refl e0 (S_FREQ_INLINE_SIZE.ext O0.2) (g := (mkF mM 24 #[.val (.int p0), .val (.int p1), .val (.int (p0 &&& (3 : Int32))), .unset, .unset, .unset, .unset, .unset, .unset] [])) rfl (hb hby at_24)
      refine own_go st9 ?_
      show own_Ends _ _ _ _ (T9.setTop (mkF mM 27 #[.val (.int p0), .val (.int p1), .val (.int (p0 &&& (3 : Int32))), .unset, .unset, .unset, .unset, .unset, .unset] [(.ref a_FREQ_INLINE_SIZE)]))
      refine own_go (fun _ k => XS.astoreN X9.here hx rfl (hb hby at_27) rfl rfl (l' := #[.val (.int p0), .val (.int p1), .val (.int (p0 &&& (3 : Int32))), .val (.ref a_FREQ_INLINE_SIZE), .unset, .unset, .unset, .unset, .unset]) rfl k) ?_
      show own_Ends _ _ _ _ (T9.setTop (mkF mM 28 #[.val (.int p0), .val (.int p1), .val (.int (p0 &&& (3 : Int32))), .val (.ref a_FREQ_INLINE_SIZE), .unset, .unset, .unset, .unset, .unset] []))
      refine own_go (fun _ k => XS.sipush X9.here hx rfl (hb hby at_28) k) ?_
      show own_Ends _ _ _ _ (T9.setTop (mkF mM 31 #[.val (.int p0), .val (.int p1), .val (.int (p0 &&& (3 : Int32))), .val (.ref a_FREQ_INLINE_SIZE), .unset, .unset, .unset, .unset, .unset] [(.int (325 : Int32))]))
      refine own_go (fun _ k => XS.istore X9.here hx rfl (hb hby at_31) rfl (l' := #[.val (.int p0), .val (.int p1), .val (.int (p0 &&& (3 : Int32))), .val (.ref a_FREQ_INLINE_SIZE), .val (.int (325 : Int32)), .unset, .unset, .unset, .unset]) rfl k) ?_
      show own_Ends _ _ _ _ (T9.setTop (mkF mM 33 #[.val (.int p0), .val (.int p1), .val (.int (p0 &&& (3 : Int32))), .val (.ref a_FREQ_INLINE_SIZE), .val (.int (325 : Int32)), .unset, .unset, .unset, .unset] []))
      refine own_go (fun _ k => XS.goto X9.here hx rfl (pc0 := 33) (pc' := 61) rfl (hb hby at_33) (by decide) (by decide) k) ?_
      show own_Ends _ _ _ _ (T9.setTop (mkF mM 61 #[.val (.int p0), .val (.int p1), .val (.int (p0 &&& (3 : Int32))), .val (.ref a_FREQ_INLINE_SIZE), .val (.int (325 : Int32)), .unset, .unset, .unset, .unset] []))
      refine own_go (fun _ k => XS.aloadN X9.here hx rfl (hb hby at_61) rfl rfl k) ?_
      show own_Ends _ _ _ _ (T9.setTop (mkF mM 62 #[.val (.int p0), .val (.int p1), .val (.int (p0 &&& (3 : Int32))), .val (.ref a_FREQ_INLINE_SIZE), .val (.int (325 : Int32)), .unset, .unset, .unset, .unset] [(.ref a_FREQ_INLINE_SIZE)]))
      refine own_go (fun _ k => XS.iload X9.here hx rfl (hb hby at_62) rfl k) ?_
      show own_Ends _ _ _ _ (T9.setTop (mkF mM 64 #[.val (.int p0), .val (.int p1), .val (.int (p0 &&& (3 : Int32))), .val (.ref a_FREQ_INLINE_SIZE), .val (.int (325 : Int32)), .unset, .unset, .unset, .unset] [(.int (325 : Int32)), (.ref a_FREQ_INLINE_SIZE)]))
      obtain ⟨cq10, kq10, q10a, q10b, q10c⟩ := isOf hZ e9 (E_FREQ_INLINE_SIZE.ext O0.2)
      obtain ⟨_, _, ⟨T10, Lz10, kz10, nz10⟩, -, X10, ⟨Lc10, hQ10, l10, y10, z10⟩, st10⟩ := X9.virtualBack hx (y := (⟨"com/example/warmline/warmline/core/Limit", "isExceededBy", "(I)Z"⟩ : MethodName)) (z := (⟨"com/example/warmline/warmline/core/Limit", "isExceededBy", "(I)Z"⟩ : MethodName)) hown (mvT hZ (hw _ (List.mem_of_getElem? (i := 3) rfl))) (mvT hZ (hw _ (List.mem_of_getElem? (i := 4) rfl))) (notFace_of_selects (args := #[]) (mvT hZ (hw _ (List.mem_of_getElem? (i := 6) rfl)))) (mvT hZ (hw _ (List.mem_of_getElem? (i := 6) rfl))) (mvT hZ (hw _ (List.mem_of_getElem? (i := 5) rfl))) (by decide) (backOf (W := 0) (own_exceeded l Z a0 hw [] a_FREQ_INLINE_SIZE (325 : Int32) (325 : Int32) (0 : Int32) h0 n0 O0 F_FREQ_INLINE_SIZE_bytes (by decide +kernel)) hZ (hw _ (List.mem_of_getElem? (i := 7) rfl)) (hw _ (List.mem_of_getElem? (i := 1) rfl)) (by decide) (by decide)) q10a q10c (g := (mkF mM 64 #[.val (.int p0), .val (.int p1), .val (.int (p0 &&& (3 : Int32))), .val (.ref a_FREQ_INLINE_SIZE), .val (.int (325 : Int32)), .unset, .unset, .unset, .unset] [(.int (325 : Int32)), (.ref a_FREQ_INLINE_SIZE)])) rfl (by rw [hml]; rfl) (Steps.refl _) (argsL := [(.int (325 : Int32))]) (rest := []) (lenOf own_pd0 rfl) rfl (by show 2 * 0 + _ ≤ _; exact Nat.le_of_eq rfl) (hb hby at_64) (fun _ _ => ⟨rfl, e9, (by decide : 0 + 0 ≤ _), (by decide : 0 + 0 ≤ _)⟩)
      dsimp only [Pt.U, Pt.locs, Pt.cells, Pt.slots] at X10 l10 y10 z10 st10 hQ10
      subst l10 y10 z10
      obtain ⟨rfl, Nq10, e10⟩ := hQ10
      have N10 := Fr.app N0 Nq10
      refine own_tr st10 ?_
      show own_Ends _ _ _ _ (T10.setTop (mkF mM 67 #[.val (.int p0), .val (.int p1), .val (.int (p0 &&& (3 : Int32))), .val (.ref a_FREQ_INLINE_SIZE), .val (.int (325 : Int32)), .unset, .unset, .unset, .unset] [(.int (0 : Int32))]))
      refine own_go (fun _ k => XS.istore X10.here hx rfl (hb hby at_67) rfl (l' := #[.val (.int p0), .val (.int p1), .val (.int (p0 &&& (3 : Int32))), .val (.ref a_FREQ_INLINE_SIZE), .val (.int (325 : Int32)), .val (.int (0 : Int32)), .unset, .unset, .unset]) rfl k) ?_
      show own_Ends _ _ _ _ (T10.setTop (mkF mM 69 #[.val (.int p0), .val (.int p1), .val (.int (p0 &&& (3 : Int32))), .val (.ref a_FREQ_INLINE_SIZE), .val (.int (325 : Int32)), .val (.int (0 : Int32)), .unset, .unset, .unset] []))
      refine own_go (fun _ k => XS.aloadN X10.here hx rfl (hb hby at_69) rfl rfl k) ?_
      show own_Ends _ _ _ _ (T10.setTop (mkF mM 70 #[.val (.int p0), .val (.int p1), .val (.int (p0 &&& (3 : Int32))), .val (.ref a_FREQ_INLINE_SIZE), .val (.int (325 : Int32)), .val (.int (0 : Int32)), .unset, .unset, .unset] [(.ref a_FREQ_INLINE_SIZE)]))
      refine own_go (fun _ k => XS.iload X10.here hx rfl (hb hby at_70) rfl k) ?_
      show own_Ends _ _ _ _ (T10.setTop (mkF mM 72 #[.val (.int p0), .val (.int p1), .val (.int (p0 &&& (3 : Int32))), .val (.ref a_FREQ_INLINE_SIZE), .val (.int (325 : Int32)), .val (.int (0 : Int32)), .unset, .unset, .unset] [(.int (325 : Int32)), (.ref a_FREQ_INLINE_SIZE)]))
      refine own_go (fun _ k => XS.iconst X10.here hx rfl (hb hby at_72) k) ?_
      show own_Ends _ _ _ _ (T10.setTop (mkF mM 73 #[.val (.int p0), .val (.int p1), .val (.int (p0 &&& (3 : Int32))), .val (.ref a_FREQ_INLINE_SIZE), .val (.int (325 : Int32)), .val (.int (0 : Int32)), .unset, .unset, .unset] [(.int (1 : Int32)), (.int (325 : Int32)), (.ref a_FREQ_INLINE_SIZE)]))
      refine own_go (fun _ k => XS.iadd X10.here hx rfl (hb hby at_73) rfl k) ?_
      show own_Ends _ _ _ _ (T10.setTop (mkF mM 74 #[.val (.int p0), .val (.int p1), .val (.int (p0 &&& (3 : Int32))), .val (.ref a_FREQ_INLINE_SIZE), .val (.int (325 : Int32)), .val (.int (0 : Int32)), .unset, .unset, .unset] [(.int ((325 : Int32) + (1 : Int32))), (.ref a_FREQ_INLINE_SIZE)]))
      obtain ⟨cq11, kq11, q11a, q11b, q11c⟩ := isOf hZ e10 (E_FREQ_INLINE_SIZE.ext O0.2)
      obtain ⟨_, _, ⟨T11, Lz11, kz11, nz11⟩, -, X11, ⟨Lc11, hQ11, l11, y11, z11⟩, st11⟩ := X10.virtualBack hx (y := (⟨"com/example/warmline/warmline/core/Limit", "isExceededBy", "(I)Z"⟩ : MethodName)) (z := (⟨"com/example/warmline/warmline/core/Limit", "isExceededBy", "(I)Z"⟩ : MethodName)) hown (mvT hZ (hw _ (List.mem_of_getElem? (i := 3) rfl))) (mvT hZ (hw _ (List.mem_of_getElem? (i := 4) rfl))) (notFace_of_selects (args := #[]) (mvT hZ (hw _ (List.mem_of_getElem? (i := 6) rfl)))) (mvT hZ (hw _ (List.mem_of_getElem? (i := 6) rfl))) (mvT hZ (hw _ (List.mem_of_getElem? (i := 5) rfl))) (by decide) (backOf (W := 0) (own_exceeded l Z a0 hw [] a_FREQ_INLINE_SIZE ((325 : Int32) + (1 : Int32)) (325 : Int32) (1 : Int32) h0 n0 O0 F_FREQ_INLINE_SIZE_bytes (by decide +kernel)) hZ (hw _ (List.mem_of_getElem? (i := 7) rfl)) (hw _ (List.mem_of_getElem? (i := 1) rfl)) (by decide) (by decide)) q11a q11c (g := (mkF mM 74 #[.val (.int p0), .val (.int p1), .val (.int (p0 &&& (3 : Int32))), .val (.ref a_FREQ_INLINE_SIZE), .val (.int (325 : Int32)), .val (.int (0 : Int32)), .unset, .unset, .unset] [(.int ((325 : Int32) + (1 : Int32))), (.ref a_FREQ_INLINE_SIZE)])) rfl (by rw [hml]; rfl) (Steps.refl _) (argsL := [(.int ((325 : Int32) + (1 : Int32)))]) (rest := []) (lenOf own_pd0 rfl) rfl (by show 2 * 0 + _ ≤ _; exact Nat.le_of_eq rfl) (hb hby at_74) (fun _ _ => ⟨rfl, e10, (by decide : 0 + 0 ≤ _), (by decide : 0 + 0 ≤ _)⟩)
      dsimp only [Pt.U, Pt.locs, Pt.cells, Pt.slots] at X11 l11 y11 z11 st11 hQ11
      subst l11 y11 z11
      obtain ⟨rfl, Nq11, e11⟩ := hQ11
      have N11 := Fr.app N10 Nq11
      refine own_tr st11 ?_
      show own_Ends _ _ _ _ (T11.setTop (mkF mM 77 #[.val (.int p0), .val (.int p1), .val (.int (p0 &&& (3 : Int32))), .val (.ref a_FREQ_INLINE_SIZE), .val (.int (325 : Int32)), .val (.int (0 : Int32)), .unset, .unset, .unset] [(.int (1 : Int32))]))
      refine own_go (fun _ k => XS.istore X11.here hx rfl (hb hby at_77) rfl (l' := #[.val (.int p0), .val (.int p1), .val (.int (p0 &&& (3 : Int32))), .val (.ref a_FREQ_INLINE_SIZE), .val (.int (325 : Int32)), .val (.int (0 : Int32)), .val (.int (1 : Int32)), .unset, .unset]) rfl k) ?_
      show own_Ends _ _ _ _ (T11.setTop (mkF mM 79 #[.val (.int p0), .val (.int p1), .val (.int (p0 &&& (3 : Int32))), .val (.ref a_FREQ_INLINE_SIZE), .val (.int (325 : Int32)), .val (.int (0 : Int32)), .val (.int (1 : Int32)), .unset, .unset] []))
      refine own_go (fun _ k => XS.aloadN X11.here hx rfl (hb hby at_79) rfl rfl k) ?_
      show own_Ends _ _ _ _ (T11.setTop (mkF mM 80 #[.val (.int p0), .val (.int p1), .val (.int (p0 &&& (3 : Int32))), .val (.ref a_FREQ_INLINE_SIZE), .val (.int (325 : Int32)), .val (.int (0 : Int32)), .val (.int (1 : Int32)), .unset, .unset] [(.ref a_FREQ_INLINE_SIZE)]))
      refine own_go (fun _ k => XS.iloadN X11.here hx rfl (hb hby at_80) rfl k) ?_
      show own_Ends _ _ _ _ (T11.setTop (mkF mM 81 #[.val (.int p0), .val (.int p1), .val (.int (p0 &&& (3 : Int32))), .val (.ref a_FREQ_INLINE_SIZE), .val (.int (325 : Int32)), .val (.int (0 : Int32)), .val (.int (1 : Int32)), .unset, .unset] [(.int p1), (.ref a_FREQ_INLINE_SIZE)]))
      by_cases hf81_11 : (325 : Int32) < p1
      · obtain ⟨cq13, kq13, q13a, q13b, q13c⟩ := isOf hZ e11 (E_FREQ_INLINE_SIZE.ext O0.2)
        obtain ⟨_, _, ⟨T13, Lz13, kz13, nz13⟩, -, X13, ⟨Lc13, hQ13, l13, y13, z13⟩, st13⟩ := X11.virtualBack hx (y := (⟨"com/example/warmline/warmline/core/Limit", "isExceededBy", "(I)Z"⟩ : MethodName)) (z := (⟨"com/example/warmline/warmline/core/Limit", "isExceededBy", "(I)Z"⟩ : MethodName)) hown (mvT hZ (hw _ (List.mem_of_getElem? (i := 3) rfl))) (mvT hZ (hw _ (List.mem_of_getElem? (i := 4) rfl))) (notFace_of_selects (args := #[]) (mvT hZ (hw _ (List.mem_of_getElem? (i := 6) rfl)))) (mvT hZ (hw _ (List.mem_of_getElem? (i := 6) rfl))) (mvT hZ (hw _ (List.mem_of_getElem? (i := 5) rfl))) (by decide) (backOf (W := 0) (own_exceeded l Z a0 hw [] a_FREQ_INLINE_SIZE p1 (325 : Int32) (1 : Int32) h0 n0 O0 F_FREQ_INLINE_SIZE_bytes (by rw [if_pos hf81_11])) hZ (hw _ (List.mem_of_getElem? (i := 7) rfl)) (hw _ (List.mem_of_getElem? (i := 1) rfl)) (by decide) (by decide)) q13a q13c (g := (mkF mM 81 #[.val (.int p0), .val (.int p1), .val (.int (p0 &&& (3 : Int32))), .val (.ref a_FREQ_INLINE_SIZE), .val (.int (325 : Int32)), .val (.int (0 : Int32)), .val (.int (1 : Int32)), .unset, .unset] [(.int p1), (.ref a_FREQ_INLINE_SIZE)])) rfl (by rw [hml]; rfl) (Steps.refl _) (argsL := [(.int p1)]) (rest := []) (lenOf own_pd0 rfl) rfl (by show 2 * 0 + _ ≤ _; exact Nat.le_of_eq rfl) (hb hby at_81) (fun _ _ => ⟨rfl, e11, (by decide : 0 + 0 ≤ _), (by decide : 0 + 0 ≤ _)⟩)
        dsimp only [Pt.U, Pt.locs, Pt.cells, Pt.slots] at X13 l13 y13 z13 st13 hQ13
        subst l13 y13 z13
        obtain ⟨rfl, Nq13, e13⟩ := hQ13
        have N13 := Fr.app N11 Nq13
        refine own_tr st13 ?_
        show own_Ends _ _ _ _ (T13.setTop (mkF mM 84 #[.val (.int p0), .val (.int p1), .val (.int (p0 &&& (3 : Int32))), .val (.ref a_FREQ_INLINE_SIZE), .val (.int (325 : Int32)), .val (.int (0 : Int32)), .val (.int (1 : Int32)), .unset, .unset] [(.int (1 : Int32))]))
        refine own_go (fun _ k => XS.istore X13.here hx rfl (hb hby at_84) rfl (l' := #[.val (.int p0), .val (.int p1), .val (.int (p0 &&& (3 : Int32))), .val (.ref a_FREQ_INLINE_SIZE), .val (.int (325 : Int32)), .val (.int (0 : Int32)), .val (.int (1 : Int32)), .val (.int (1 : Int32)), .unset]) rfl k) ?_
        show own_Ends _ _ _ _ (T13.setTop (mkF mM 86 #[.val (.int p0), .val (.int p1), .val (.int (p0 &&& (3 : Int32))), .val (.ref a_FREQ_INLINE_SIZE), .val (.int (325 : Int32)), .val (.int (0 : Int32)), .val (.int (1 : Int32)), .val (.int (1 : Int32)), .unset] []))
        refine own_go (fun _ k => XS.iloadN X13.here hx rfl (hb hby at_86) rfl k) ?_
        show own_Ends _ _ _ _ (T13.setTop (mkF mM 87 #[.val (.int p0), .val (.int p1), .val (.int (p0 &&& (3 : Int32))), .val (.ref a_FREQ_INLINE_SIZE), .val (.int (325 : Int32)), .val (.int (0 : Int32)), .val (.int (1 : Int32)), .val (.int (1 : Int32)), .unset] [(.int p1)]))
        refine own_go (fun _ k => XS.iload X13.here hx rfl (hb hby at_87) rfl k) ?_
        show own_Ends _ _ _ _ (T13.setTop (mkF mM 89 #[.val (.int p0), .val (.int p1), .val (.int (p0 &&& (3 : Int32))), .val (.ref a_FREQ_INLINE_SIZE), .val (.int (325 : Int32)), .val (.int (0 : Int32)), .val (.int (1 : Int32)), .val (.int (1 : Int32)), .unset] [(.int (325 : Int32)), (.int p1)]))
        refine own_go (fun _ k => XS.icmpNo X13.here hx rfl (hb hby at_89) rfl (tlt hf81_11).2.2.2 k) ?_
        show own_Ends _ _ _ _ (T13.setTop (mkF mM 92 #[.val (.int p0), .val (.int p1), .val (.int (p0 &&& (3 : Int32))), .val (.ref a_FREQ_INLINE_SIZE), .val (.int (325 : Int32)), .val (.int (0 : Int32)), .val (.int (1 : Int32)), .val (.int (1 : Int32)), .unset] []))
        refine own_go (fun _ k => XS.iconst X13.here hx rfl (hb hby at_92) k) ?_
        show own_Ends _ _ _ _ (T13.setTop (mkF mM 93 #[.val (.int p0), .val (.int p1), .val (.int (p0 &&& (3 : Int32))), .val (.ref a_FREQ_INLINE_SIZE), .val (.int (325 : Int32)), .val (.int (0 : Int32)), .val (.int (1 : Int32)), .val (.int (1 : Int32)), .unset] [(.int (1 : Int32))]))
        refine own_go (fun _ k => XS.goto X13.here hx rfl (pc0 := 93) (pc' := 97) rfl (hb hby at_93) (by decide) (by decide) k) ?_
        show own_Ends _ _ _ _ (T13.setTop (mkF mM 97 #[.val (.int p0), .val (.int p1), .val (.int (p0 &&& (3 : Int32))), .val (.ref a_FREQ_INLINE_SIZE), .val (.int (325 : Int32)), .val (.int (0 : Int32)), .val (.int (1 : Int32)), .val (.int (1 : Int32)), .unset] [(.int (1 : Int32))]))
        refine own_go (fun _ k => XS.istore X13.here hx rfl (hb hby at_97) rfl (l' := #[.val (.int p0), .val (.int p1), .val (.int (p0 &&& (3 : Int32))), .val (.ref a_FREQ_INLINE_SIZE), .val (.int (325 : Int32)), .val (.int (0 : Int32)), .val (.int (1 : Int32)), .val (.int (1 : Int32)), .val (.int (1 : Int32))]) rfl k) ?_
        show own_Ends _ _ _ _ (T13.setTop (mkF mM 99 #[.val (.int p0), .val (.int p1), .val (.int (p0 &&& (3 : Int32))), .val (.ref a_FREQ_INLINE_SIZE), .val (.int (325 : Int32)), .val (.int (0 : Int32)), .val (.int (1 : Int32)), .val (.int (1 : Int32)), .val (.int (1 : Int32))] []))
        refine own_go (fun _ k => XS.iload X13.here hx rfl (hb hby at_99) rfl k) ?_
        show own_Ends _ _ _ _ (T13.setTop (mkF mM 101 #[.val (.int p0), .val (.int p1), .val (.int (p0 &&& (3 : Int32))), .val (.ref a_FREQ_INLINE_SIZE), .val (.int (325 : Int32)), .val (.int (0 : Int32)), .val (.int (1 : Int32)), .val (.int (1 : Int32)), .val (.int (1 : Int32))] [(.int (0 : Int32))]))
        refine own_go (fun _ k => XS.ifNo X13.here hx rfl (hb hby at_101) rfl ((if0 _ _).trans (teq (by decide : (0 : Int32) = (0 : Int32))).2) k) ?_
        show own_Ends _ _ _ _ (T13.setTop (mkF mM 104 #[.val (.int p0), .val (.int p1), .val (.int (p0 &&& (3 : Int32))), .val (.ref a_FREQ_INLINE_SIZE), .val (.int (325 : Int32)), .val (.int (0 : Int32)), .val (.int (1 : Int32)), .val (.int (1 : Int32)), .val (.int (1 : Int32))] []))
        refine own_go (fun _ k => XS.iload X13.here hx rfl (hb hby at_104) rfl k) ?_
        show own_Ends _ _ _ _ (T13.setTop (mkF mM 106 #[.val (.int p0), .val (.int p1), .val (.int (p0 &&& (3 : Int32))), .val (.ref a_FREQ_INLINE_SIZE), .val (.int (325 : Int32)), .val (.int (0 : Int32)), .val (.int (1 : Int32)), .val (.int (1 : Int32)), .val (.int (1 : Int32))] [(.int (1 : Int32))]))
        refine own_go (fun _ k => XS.ifNo X13.here hx rfl (hb hby at_106) rfl ((if0 _ _).trans (feq (by decide : ¬ ((1 : Int32) = (0 : Int32)))).1) k) ?_
        show own_Ends _ _ _ _ (T13.setTop (mkF mM 109 #[.val (.int p0), .val (.int p1), .val (.int (p0 &&& (3 : Int32))), .val (.ref a_FREQ_INLINE_SIZE), .val (.int (325 : Int32)), .val (.int (0 : Int32)), .val (.int (1 : Int32)), .val (.int (1 : Int32)), .val (.int (1 : Int32))] []))
        refine own_go (fun _ k => XS.iload X13.here hx rfl (hb hby at_109) rfl k) ?_
        show own_Ends _ _ _ _ (T13.setTop (mkF mM 111 #[.val (.int p0), .val (.int p1), .val (.int (p0 &&& (3 : Int32))), .val (.ref a_FREQ_INLINE_SIZE), .val (.int (325 : Int32)), .val (.int (0 : Int32)), .val (.int (1 : Int32)), .val (.int (1 : Int32)), .val (.int (1 : Int32))] [(.int (1 : Int32))]))
        refine own_go (fun _ k => XS.iload X13.here hx rfl (hb hby at_111) rfl k) ?_
        show own_Ends _ _ _ _ (T13.setTop (mkF mM 113 #[.val (.int p0), .val (.int p1), .val (.int (p0 &&& (3 : Int32))), .val (.ref a_FREQ_INLINE_SIZE), .val (.int (325 : Int32)), .val (.int (0 : Int32)), .val (.int (1 : Int32)), .val (.int (1 : Int32)), .val (.int (1 : Int32))] [(.int (1 : Int32)), (.int (1 : Int32))]))
        refine own_go (fun _ k => XS.icmpNo X13.here hx rfl (hb hby at_113) rfl (teq (by decide : (1 : Int32) = (1 : Int32))).2 k) ?_
        show own_Ends _ _ _ _ (T13.setTop (mkF mM 116 #[.val (.int p0), .val (.int p1), .val (.int (p0 &&& (3 : Int32))), .val (.ref a_FREQ_INLINE_SIZE), .val (.int (325 : Int32)), .val (.int (0 : Int32)), .val (.int (1 : Int32)), .val (.int (1 : Int32)), .val (.int (1 : Int32))] []))
        refine own_go (fun _ k => XS.iconst X13.here hx rfl (hb hby at_116) k) ?_
        show own_Ends _ _ _ _ (T13.setTop (mkF mM 117 #[.val (.int p0), .val (.int p1), .val (.int (p0 &&& (3 : Int32))), .val (.ref a_FREQ_INLINE_SIZE), .val (.int (325 : Int32)), .val (.int (0 : Int32)), .val (.int (1 : Int32)), .val (.int (1 : Int32)), .val (.int (1 : Int32))] [(.int (1 : Int32))]))
        refine own_go (fun _ k => XS.goto X13.here hx rfl (pc0 := 117) (pc' := 121) rfl (hb hby at_117) (by decide) (by decide) k) ?_
        show own_Ends _ _ _ _ (T13.setTop (mkF mM 121 #[.val (.int p0), .val (.int p1), .val (.int (p0 &&& (3 : Int32))), .val (.ref a_FREQ_INLINE_SIZE), .val (.int (325 : Int32)), .val (.int (0 : Int32)), .val (.int (1 : Int32)), .val (.int (1 : Int32)), .val (.int (1 : Int32))] [(.int (1 : Int32))]))
        exact own_retZ X13 hx (BodyLoose.notSynchronized Bd) Bd.returns rfl (hb hby at_121) (by decide) (by decide) (by rw [e13]; exact ⟨rfl, N13⟩)
      · obtain ⟨cq14, kq14, q14a, q14b, q14c⟩ := isOf hZ e11 (E_FREQ_INLINE_SIZE.ext O0.2)
        obtain ⟨_, _, ⟨T14, Lz14, kz14, nz14⟩, -, X14, ⟨Lc14, hQ14, l14, y14, z14⟩, st14⟩ := X11.virtualBack hx (y := (⟨"com/example/warmline/warmline/core/Limit", "isExceededBy", "(I)Z"⟩ : MethodName)) (z := (⟨"com/example/warmline/warmline/core/Limit", "isExceededBy", "(I)Z"⟩ : MethodName)) hown (mvT hZ (hw _ (List.mem_of_getElem? (i := 3) rfl))) (mvT hZ (hw _ (List.mem_of_getElem? (i := 4) rfl))) (notFace_of_selects (args := #[]) (mvT hZ (hw _ (List.mem_of_getElem? (i := 6) rfl)))) (mvT hZ (hw _ (List.mem_of_getElem? (i := 6) rfl))) (mvT hZ (hw _ (List.mem_of_getElem? (i := 5) rfl))) (by decide) (backOf (W := 0) (own_exceeded l Z a0 hw [] a_FREQ_INLINE_SIZE p1 (325 : Int32) (0 : Int32) h0 n0 O0 F_FREQ_INLINE_SIZE_bytes (by rw [if_neg hf81_11])) hZ (hw _ (List.mem_of_getElem? (i := 7) rfl)) (hw _ (List.mem_of_getElem? (i := 1) rfl)) (by decide) (by decide)) q14a q14c (g := (mkF mM 81 #[.val (.int p0), .val (.int p1), .val (.int (p0 &&& (3 : Int32))), .val (.ref a_FREQ_INLINE_SIZE), .val (.int (325 : Int32)), .val (.int (0 : Int32)), .val (.int (1 : Int32)), .unset, .unset] [(.int p1), (.ref a_FREQ_INLINE_SIZE)])) rfl (by rw [hml]; rfl) (Steps.refl _) (argsL := [(.int p1)]) (rest := []) (lenOf own_pd0 rfl) rfl (by show 2 * 0 + _ ≤ _; exact Nat.le_of_eq rfl) (hb hby at_81) (fun _ _ => ⟨rfl, e11, (by decide : 0 + 0 ≤ _), (by decide : 0 + 0 ≤ _)⟩)
        dsimp only [Pt.U, Pt.locs, Pt.cells, Pt.slots] at X14 l14 y14 z14 st14 hQ14
        subst l14 y14 z14
        obtain ⟨rfl, Nq14, e14⟩ := hQ14
        have N14 := Fr.app N11 Nq14
        refine own_tr st14 ?_
        show own_Ends _ _ _ _ (T14.setTop (mkF mM 84 #[.val (.int p0), .val (.int p1), .val (.int (p0 &&& (3 : Int32))), .val (.ref a_FREQ_INLINE_SIZE), .val (.int (325 : Int32)), .val (.int (0 : Int32)), .val (.int (1 : Int32)), .unset, .unset] [(.int (0 : Int32))]))
        refine own_go (fun _ k => XS.istore X14.here hx rfl (hb hby at_84) rfl (l' := #[.val (.int p0), .val (.int p1), .val (.int (p0 &&& (3 : Int32))), .val (.ref a_FREQ_INLINE_SIZE), .val (.int (325 : Int32)), .val (.int (0 : Int32)), .val (.int (1 : Int32)), .val (.int (0 : Int32)), .unset]) rfl k) ?_
        show own_Ends _ _ _ _ (T14.setTop (mkF mM 86 #[.val (.int p0), .val (.int p1), .val (.int (p0 &&& (3 : Int32))), .val (.ref a_FREQ_INLINE_SIZE), .val (.int (325 : Int32)), .val (.int (0 : Int32)), .val (.int (1 : Int32)), .val (.int (0 : Int32)), .unset] []))
        refine own_go (fun _ k => XS.iloadN X14.here hx rfl (hb hby at_86) rfl k) ?_
        show own_Ends _ _ _ _ (T14.setTop (mkF mM 87 #[.val (.int p0), .val (.int p1), .val (.int (p0 &&& (3 : Int32))), .val (.ref a_FREQ_INLINE_SIZE), .val (.int (325 : Int32)), .val (.int (0 : Int32)), .val (.int (1 : Int32)), .val (.int (0 : Int32)), .unset] [(.int p1)]))
        refine own_go (fun _ k => XS.iload X14.here hx rfl (hb hby at_87) rfl k) ?_
        show own_Ends _ _ _ _ (T14.setTop (mkF mM 89 #[.val (.int p0), .val (.int p1), .val (.int (p0 &&& (3 : Int32))), .val (.ref a_FREQ_INLINE_SIZE), .val (.int (325 : Int32)), .val (.int (0 : Int32)), .val (.int (1 : Int32)), .val (.int (0 : Int32)), .unset] [(.int (325 : Int32)), (.int p1)]))
        refine own_go (fun _ k => XS.icmpYes X14.here hx rfl (pc0 := 89) (pc' := 96) rfl (hb hby at_89) rfl (flt hf81_11).2.2.2 (by decide) (by decide) k) ?_
        show own_Ends _ _ _ _ (T14.setTop (mkF mM 96 #[.val (.int p0), .val (.int p1), .val (.int (p0 &&& (3 : Int32))), .val (.ref a_FREQ_INLINE_SIZE), .val (.int (325 : Int32)), .val (.int (0 : Int32)), .val (.int (1 : Int32)), .val (.int (0 : Int32)), .unset] []))
        refine own_go (fun _ k => XS.iconst X14.here hx rfl (hb hby at_96) k) ?_
        show own_Ends _ _ _ _ (T14.setTop (mkF mM 97 #[.val (.int p0), .val (.int p1), .val (.int (p0 &&& (3 : Int32))), .val (.ref a_FREQ_INLINE_SIZE), .val (.int (325 : Int32)), .val (.int (0 : Int32)), .val (.int (1 : Int32)), .val (.int (0 : Int32)), .unset] [(.int (0 : Int32))]))
        refine own_go (fun _ k => XS.istore X14.here hx rfl (hb hby at_97) rfl (l' := #[.val (.int p0), .val (.int p1), .val (.int (p0 &&& (3 : Int32))), .val (.ref a_FREQ_INLINE_SIZE), .val (.int (325 : Int32)), .val (.int (0 : Int32)), .val (.int (1 : Int32)), .val (.int (0 : Int32)), .val (.int (0 : Int32))]) rfl k) ?_
        show own_Ends _ _ _ _ (T14.setTop (mkF mM 99 #[.val (.int p0), .val (.int p1), .val (.int (p0 &&& (3 : Int32))), .val (.ref a_FREQ_INLINE_SIZE), .val (.int (325 : Int32)), .val (.int (0 : Int32)), .val (.int (1 : Int32)), .val (.int (0 : Int32)), .val (.int (0 : Int32))] []))
        refine own_go (fun _ k => XS.iload X14.here hx rfl (hb hby at_99) rfl k) ?_
        show own_Ends _ _ _ _ (T14.setTop (mkF mM 101 #[.val (.int p0), .val (.int p1), .val (.int (p0 &&& (3 : Int32))), .val (.ref a_FREQ_INLINE_SIZE), .val (.int (325 : Int32)), .val (.int (0 : Int32)), .val (.int (1 : Int32)), .val (.int (0 : Int32)), .val (.int (0 : Int32))] [(.int (0 : Int32))]))
        refine own_go (fun _ k => XS.ifNo X14.here hx rfl (hb hby at_101) rfl ((if0 _ _).trans (teq (by decide : (0 : Int32) = (0 : Int32))).2) k) ?_
        show own_Ends _ _ _ _ (T14.setTop (mkF mM 104 #[.val (.int p0), .val (.int p1), .val (.int (p0 &&& (3 : Int32))), .val (.ref a_FREQ_INLINE_SIZE), .val (.int (325 : Int32)), .val (.int (0 : Int32)), .val (.int (1 : Int32)), .val (.int (0 : Int32)), .val (.int (0 : Int32))] []))
        refine own_go (fun _ k => XS.iload X14.here hx rfl (hb hby at_104) rfl k) ?_
        show own_Ends _ _ _ _ (T14.setTop (mkF mM 106 #[.val (.int p0), .val (.int p1), .val (.int (p0 &&& (3 : Int32))), .val (.ref a_FREQ_INLINE_SIZE), .val (.int (325 : Int32)), .val (.int (0 : Int32)), .val (.int (1 : Int32)), .val (.int (0 : Int32)), .val (.int (0 : Int32))] [(.int (1 : Int32))]))
        refine own_go (fun _ k => XS.ifNo X14.here hx rfl (hb hby at_106) rfl ((if0 _ _).trans (feq (by decide : ¬ ((1 : Int32) = (0 : Int32)))).1) k) ?_
        show own_Ends _ _ _ _ (T14.setTop (mkF mM 109 #[.val (.int p0), .val (.int p1), .val (.int (p0 &&& (3 : Int32))), .val (.ref a_FREQ_INLINE_SIZE), .val (.int (325 : Int32)), .val (.int (0 : Int32)), .val (.int (1 : Int32)), .val (.int (0 : Int32)), .val (.int (0 : Int32))] []))
        refine own_go (fun _ k => XS.iload X14.here hx rfl (hb hby at_109) rfl k) ?_
        show own_Ends _ _ _ _ (T14.setTop (mkF mM 111 #[.val (.int p0), .val (.int p1), .val (.int (p0 &&& (3 : Int32))), .val (.ref a_FREQ_INLINE_SIZE), .val (.int (325 : Int32)), .val (.int (0 : Int32)), .val (.int (1 : Int32)), .val (.int (0 : Int32)), .val (.int (0 : Int32))] [(.int (0 : Int32))]))
        refine own_go (fun _ k => XS.iload X14.here hx rfl (hb hby at_111) rfl k) ?_
        show own_Ends _ _ _ _ (T14.setTop (mkF mM 113 #[.val (.int p0), .val (.int p1), .val (.int (p0 &&& (3 : Int32))), .val (.ref a_FREQ_INLINE_SIZE), .val (.int (325 : Int32)), .val (.int (0 : Int32)), .val (.int (1 : Int32)), .val (.int (0 : Int32)), .val (.int (0 : Int32))] [(.int (0 : Int32)), (.int (0 : Int32))]))
        refine own_go (fun _ k => XS.icmpNo X14.here hx rfl (hb hby at_113) rfl (teq (by decide : (0 : Int32) = (0 : Int32))).2 k) ?_
        show own_Ends _ _ _ _ (T14.setTop (mkF mM 116 #[.val (.int p0), .val (.int p1), .val (.int (p0 &&& (3 : Int32))), .val (.ref a_FREQ_INLINE_SIZE), .val (.int (325 : Int32)), .val (.int (0 : Int32)), .val (.int (1 : Int32)), .val (.int (0 : Int32)), .val (.int (0 : Int32))] []))
        refine own_go (fun _ k => XS.iconst X14.here hx rfl (hb hby at_116) k) ?_
        show own_Ends _ _ _ _ (T14.setTop (mkF mM 117 #[.val (.int p0), .val (.int p1), .val (.int (p0 &&& (3 : Int32))), .val (.ref a_FREQ_INLINE_SIZE), .val (.int (325 : Int32)), .val (.int (0 : Int32)), .val (.int (1 : Int32)), .val (.int (0 : Int32)), .val (.int (0 : Int32))] [(.int (1 : Int32))]))
        refine own_go (fun _ k => XS.goto X14.here hx rfl (pc0 := 117) (pc' := 121) rfl (hb hby at_117) (by decide) (by decide) k) ?_
        show own_Ends _ _ _ _ (T14.setTop (mkF mM 121 #[.val (.int p0), .val (.int p1), .val (.int (p0 &&& (3 : Int32))), .val (.ref a_FREQ_INLINE_SIZE), .val (.int (325 : Int32)), .val (.int (0 : Int32)), .val (.int (1 : Int32)), .val (.int (0 : Int32)), .val (.int (0 : Int32))] [(.int (1 : Int32))]))
        exact own_retZ X14 hx (BodyLoose.notSynchronized Bd) Bd.returns rfl (hb hby at_121) (by decide) (by decide) (by rw [e14]; exact ⟨rfl, N14⟩)
    · refine own_go (fun _ k => XS.icmpYes X0.here hx rfl (pc0 := 21) (pc' := 36) rfl (hb hby at_21) rfl (feq hc21_7).2 (by decide) (by decide) k) ?_
      show own_Ends _ _ _ _ (s₁.setTop (mkF mM 36 #[.val (.int p0), .val (.int p1), .val (.int (p0 &&& (3 : Int32))), .unset, .unset, .unset, .unset, .unset, .unset] []))
      refine own_go (fun _ k => XS.iloadN X0.here hx rfl (hb hby at_36) rfl k) ?_
      show own_Ends _ _ _ _ (s₁.setTop (mkF mM 37 #[.val (.int p0), .val (.int p1), .val (.int (p0 &&& (3 : Int32))), .unset, .unset, .unset, .unset, .unset, .unset] [(.int (p0 &&& (3 : Int32)))]))
      refine own_go (fun _ k => XS.iconst X0.here hx rfl (hb hby at_37) k) ?_
      show own_Ends _ _ _ _ (s₁.setTop (mkF mM 38 #[.val (.int p0), .val (.int p1), .val (.int (p0 &&& (3 : Int32))), .unset, .unset, .unset, .unset, .unset, .unset] [(.int (2 : Int32)), (.int (p0 &&& (3 : Int32)))]))
      by_cases hc38_14 : (p0 &&& (3 : Int32)) = (2 : Int32)
      · refine own_go (fun _ k => XS.icmpNo X0.here hx rfl (hb hby at_38) rfl (teq hc38_14).2 k) ?_
        show own_Ends _ _ _ _ (s₁.setTop (mkF mM 41 #[.val (.int p0), .val (.int p1), .val (.int (p0 &&& (3 : Int32))), .unset, .unset, .unset, .unset, .unset, .unset] []))
        obtain ⟨T16, X16, e16, st16⟩ := getS2 X0 hx hZ hown (host := "") (Or.inl (hw _ (List.mem_of_getElem? (i := 10) rfl))) Via.refl e0 (S_C1_MAX_INLINE_SIZE.ext O0.2) (g := (mkF mM 41 #[.val (.int p0), .val (.int p1), .val (.int (p0 &&& (3 : Int32))), .unset, .unset, .unset, .unset, .unset, .unset] [])) rfl (hb hby at_41)
        refine own_go st16 ?_
        show own_Ends _ _ _ _ (T16.setTop (mkF mM 44 #[.val (.int p0), .val (.int p1), .val (.int (p0 &&& (3 : Int32))), .unset, .unset, .unset, .unset, .unset, .unset] [(.ref a_C1_MAX_INLINE_SIZE)]))
        refine own_go (fun _ k => XS.astoreN X16.here hx rfl (hb hby at_44) rfl rfl (l' := #[.val (.int p0), .val (.int p1), .val (.int (p0 &&& (3 : Int32))), .val (.ref a_C1_MAX_INLINE_SIZE), .unset, .unset, .unset, .unset, .unset]) rfl k) ?_
        show own_Ends _ _ _ _ (T16.setTop (mkF mM 45 #[.val (.int p0), .val (.int p1), .val (.int (p0 &&& (3 : Int32))), .val (.ref a_C1_MAX_INLINE_SIZE), .unset, .unset, .unset, .unset, .unset] []))
        refine own_go (fun _ k => XS.bipush X16.here hx rfl (hb hby at_45) k) ?_
        show own_Ends _ _ _ _ (T16.setTop (mkF mM 47 #[.val (.int p0), .val (.int p1), .val (.int (p0 &&& (3 : Int32))), .val (.ref a_C1_MAX_INLINE_SIZE), .unset, .unset, .unset, .unset, .unset] [(.int (35 : Int32))]))
        refine own_go (fun _ k => XS.istore X16.here hx rfl (hb hby at_47) rfl (l' := #[.val (.int p0), .val (.int p1), .val (.int (p0 &&& (3 : Int32))), .val (.ref a_C1_MAX_INLINE_SIZE), .val (.int (35 : Int32)), .unset, .unset, .unset, .unset]) rfl k) ?_
        show own_Ends _ _ _ _ (T16.setTop (mkF mM 49 #[.val (.int p0), .val (.int p1), .val (.int (p0 &&& (3 : Int32))), .val (.ref a_C1_MAX_INLINE_SIZE), .val (.int (35 : Int32)), .unset, .unset, .unset, .unset] []))
        refine own_go (fun _ k => XS.goto X16.here hx rfl (pc0 := 49) (pc' := 61) rfl (hb hby at_49) (by decide) (by decide) k) ?_
        show own_Ends _ _ _ _ (T16.setTop (mkF mM 61 #[.val (.int p0), .val (.int p1), .val (.int (p0 &&& (3 : Int32))), .val (.ref a_C1_MAX_INLINE_SIZE), .val (.int (35 : Int32)), .unset, .unset, .unset, .unset] []))
        refine own_go (fun _ k => XS.aloadN X16.here hx rfl (hb hby at_61) rfl rfl k) ?_
        show own_Ends _ _ _ _ (T16.setTop (mkF mM 62 #[.val (.int p0), .val (.int p1), .val (.int (p0 &&& (3 : Int32))), .val (.ref a_C1_MAX_INLINE_SIZE), .val (.int (35 : Int32)), .unset, .unset, .unset, .unset] [(.ref a_C1_MAX_INLINE_SIZE)]))
        refine own_go (fun _ k => XS.iload X16.here hx rfl (hb hby at_62) rfl k) ?_
        show own_Ends _ _ _ _ (T16.setTop (mkF mM 64 #[.val (.int p0), .val (.int p1), .val (.int (p0 &&& (3 : Int32))), .val (.ref a_C1_MAX_INLINE_SIZE), .val (.int (35 : Int32)), .unset, .unset, .unset, .unset] [(.int (35 : Int32)), (.ref a_C1_MAX_INLINE_SIZE)]))
        obtain ⟨cq17, kq17, q17a, q17b, q17c⟩ := isOf hZ e16 (E_C1_MAX_INLINE_SIZE.ext O0.2)
        obtain ⟨_, _, ⟨T17, Lz17, kz17, nz17⟩, -, X17, ⟨Lc17, hQ17, l17, y17, z17⟩, st17⟩ := X16.virtualBack hx (y := (⟨"com/example/warmline/warmline/core/Limit", "isExceededBy", "(I)Z"⟩ : MethodName)) (z := (⟨"com/example/warmline/warmline/core/Limit", "isExceededBy", "(I)Z"⟩ : MethodName)) hown (mvT hZ (hw _ (List.mem_of_getElem? (i := 3) rfl))) (mvT hZ (hw _ (List.mem_of_getElem? (i := 4) rfl))) (notFace_of_selects (args := #[]) (mvT hZ (hw _ (List.mem_of_getElem? (i := 6) rfl)))) (mvT hZ (hw _ (List.mem_of_getElem? (i := 6) rfl))) (mvT hZ (hw _ (List.mem_of_getElem? (i := 5) rfl))) (by decide) (backOf (W := 0) (own_exceeded l Z a0 hw [] a_C1_MAX_INLINE_SIZE (35 : Int32) (35 : Int32) (0 : Int32) h0 n0 O0 F_C1_MAX_INLINE_SIZE_bytes (by decide +kernel)) hZ (hw _ (List.mem_of_getElem? (i := 7) rfl)) (hw _ (List.mem_of_getElem? (i := 1) rfl)) (by decide) (by decide)) q17a q17c (g := (mkF mM 64 #[.val (.int p0), .val (.int p1), .val (.int (p0 &&& (3 : Int32))), .val (.ref a_C1_MAX_INLINE_SIZE), .val (.int (35 : Int32)), .unset, .unset, .unset, .unset] [(.int (35 : Int32)), (.ref a_C1_MAX_INLINE_SIZE)])) rfl (by rw [hml]; rfl) (Steps.refl _) (argsL := [(.int (35 : Int32))]) (rest := []) (lenOf own_pd0 rfl) rfl (by show 2 * 0 + _ ≤ _; exact Nat.le_of_eq rfl) (hb hby at_64) (fun _ _ => ⟨rfl, e16, (by decide : 0 + 0 ≤ _), (by decide : 0 + 0 ≤ _)⟩)
        dsimp only [Pt.U, Pt.locs, Pt.cells, Pt.slots] at X17 l17 y17 z17 st17 hQ17
        subst l17 y17 z17
        obtain ⟨rfl, Nq17, e17⟩ := hQ17
        have N17 := Fr.app N0 Nq17
        refine own_tr st17 ?_
        show own_Ends _ _ _ _ (T17.setTop (mkF mM 67 #[.val (.int p0), .val (.int p1), .val (.int (p0 &&& (3 : Int32))), .val (.ref a_C1_MAX_INLINE_SIZE), .val (.int (35 : Int32)), .unset, .unset, .unset, .unset] [(.int (0 : Int32))]))
        refine own_go (fun _ k => XS.istore X17.here hx rfl (hb hby at_67) rfl (l' := #[.val (.int p0), .val (.int p1), .val (.int (p0 &&& (3 : Int32))), .val (.ref a_C1_MAX_INLINE_SIZE), .val (.int (35 : Int32)), .val (.int (0 : Int32)), .unset, .unset, .unset]) rfl k) ?_
        show own_Ends _ _ _ _ (T17.setTop (mkF mM 69 #[.val (.int p0), .val (.int p1), .val (.int (p0 &&& (3 : Int32))), .val (.ref a_C1_MAX_INLINE_SIZE), .val (.int (35 : Int32)), .val (.int (0 : Int32)), .unset, .unset, .unset] []))
        refine own_go (fun _ k => XS.aloadN X17.here hx rfl (hb hby at_69) rfl rfl k) ?_
        show own_Ends _ _ _ _ (T17.setTop (mkF mM 70 #[.val (.int p0), .val (.int p1), .val (.int (p0 &&& (3 : Int32))), .val (.ref a_C1_MAX_INLINE_SIZE), .val (.int (35 : Int32)), .val (.int (0 : Int32)), .unset, .unset, .unset] [(.ref a_C1_MAX_INLINE_SIZE)]))
        refine own_go (fun _ k => XS.iload X17.here hx rfl (hb hby at_70) rfl k) ?_
        show own_Ends _ _ _ _ (T17.setTop (mkF mM 72 #[.val (.int p0), .val (.int p1), .val (.int (p0 &&& (3 : Int32))), .val (.ref a_C1_MAX_INLINE_SIZE), .val (.int (35 : Int32)), .val (.int (0 : Int32)), .unset, .unset, .unset] [(.int (35 : Int32)), (.ref a_C1_MAX_INLINE_SIZE)]))
        refine own_go (fun _ k => XS.iconst X17.here hx rfl (hb hby at_72) k) ?_
        show own_Ends _ _ _ _ (T17.setTop (mkF mM 73 #[.val (.int p0), .val (.int p1), .val (.int (p0 &&& (3 : Int32))), .val (.ref a_C1_MAX_INLINE_SIZE), .val (.int (35 : Int32)), .val (.int (0 : Int32)), .unset, .unset, .unset] [(.int (1 : Int32)), (.int (35 : Int32)), (.ref a_C1_MAX_INLINE_SIZE)]))
        refine own_go (fun _ k => XS.iadd X17.here hx rfl (hb hby at_73) rfl k) ?_
        show own_Ends _ _ _ _ (T17.setTop (mkF mM 74 #[.val (.int p0), .val (.int p1), .val (.int (p0 &&& (3 : Int32))), .val (.ref a_C1_MAX_INLINE_SIZE), .val (.int (35 : Int32)), .val (.int (0 : Int32)), .unset, .unset, .unset] [(.int ((35 : Int32) + (1 : Int32))), (.ref a_C1_MAX_INLINE_SIZE)]))
        obtain ⟨cq18, kq18, q18a, q18b, q18c⟩ := isOf hZ e17 (E_C1_MAX_INLINE_SIZE.ext O0.2)
        obtain ⟨_, _, ⟨T18, Lz18, kz18, nz18⟩, -, X18, ⟨Lc18, hQ18, l18, y18, z18⟩, st18⟩ := X17.virtualBack hx (y := (⟨"com/example/warmline/warmline/core/Limit", "isExceededBy", "(I)Z"⟩ : MethodName)) (z := (⟨"com/example/warmline/warmline/core/Limit", "isExceededBy", "(I)Z"⟩ : MethodName)) hown (mvT hZ (hw _ (List.mem_of_getElem? (i := 3) rfl))) (mvT hZ (hw _ (List.mem_of_getElem? (i := 4) rfl))) (notFace_of_selects (args := #[]) (mvT hZ (hw _ (List.mem_of_getElem? (i := 6) rfl)))) (mvT hZ (hw _ (List.mem_of_getElem? (i := 6) rfl))) (mvT hZ (hw _ (List.mem_of_getElem? (i := 5) rfl))) (by decide) (backOf (W := 0) (own_exceeded l Z a0 hw [] a_C1_MAX_INLINE_SIZE ((35 : Int32) + (1 : Int32)) (35 : Int32) (1 : Int32) h0 n0 O0 F_C1_MAX_INLINE_SIZE_bytes (by decide +kernel)) hZ (hw _ (List.mem_of_getElem? (i := 7) rfl)) (hw _ (List.mem_of_getElem? (i := 1) rfl)) (by decide) (by decide)) q18a q18c (g := (mkF mM 74 #[.val (.int p0), .val (.int p1), .val (.int (p0 &&& (3 : Int32))), .val (.ref a_C1_MAX_INLINE_SIZE), .val (.int (35 : Int32)), .val (.int (0 : Int32)), .unset, .unset, .unset] [(.int ((35 : Int32) + (1 : Int32))), (.ref a_C1_MAX_INLINE_SIZE)])) rfl (by rw [hml]; rfl) (Steps.refl _) (argsL := [(.int ((35 : Int32) + (1 : Int32)))]) (rest := []) (lenOf own_pd0 rfl) rfl (by show 2 * 0 + _ ≤ _; exact Nat.le_of_eq rfl) (hb hby at_74) (fun _ _ => ⟨rfl, e17, (by decide : 0 + 0 ≤ _), (by decide : 0 + 0 ≤ _)⟩)
        dsimp only [Pt.U, Pt.locs, Pt.cells, Pt.slots] at X18 l18 y18 z18 st18 hQ18
        subst l18 y18 z18
        obtain ⟨rfl, Nq18, e18⟩ := hQ18
        have N18 := Fr.app N17 Nq18
        refine own_tr st18 ?_
        show own_Ends _ _ _ _ (T18.setTop (mkF mM 77 #[.val (.int p0), .val (.int p1), .val (.int (p0 &&& (3 : Int32))), .val (.ref a_C1_MAX_INLINE_SIZE), .val (.int (35 : Int32)), .val (.int (0 : Int32)), .unset, .unset, .unset] [(.int (1 : Int32))]))
        refine own_go (fun _ k => XS.istore X18.here hx rfl (hb hby at_77) rfl (l' := #[.val (.int p0), .val (.int p1), .val (.int (p0 &&& (3 : Int32))), .val (.ref a_C1_MAX_INLINE_SIZE), .val (.int (35 : Int32)), .val (.int (0 : Int32)), .val (.int (1 : Int32)), .unset, .unset]) rfl k) ?_
        show own_Ends _ _ _ _ (T18.setTop (mkF mM 79 #[.val (.int p0), .val (.int p1), .val (.int (p0 &&& (3 : Int32))), .val (.ref a_C1_MAX_INLINE_SIZE), .val (.int (35 : Int32)), .val (.int (0 : Int32)), .val (.int (1 : Int32)), .unset, .unset] []))
        refine own_go (fun _ k => XS.aloadN X18.here hx rfl (hb hby at_79) rfl rfl k) ?_
        show own_Ends _ _ _ _ (T18.setTop (mkF mM 80 #[.val (.int p0), .val (.int p1), .val (.int (p0 &&& (3 : Int32))), .val (.ref a_C1_MAX_INLINE_SIZE), .val (.int (35 : Int32)), .val (.int (0 : Int32)), .val (.int (1 : Int32)), .unset, .unset] [(.ref a_C1_MAX_INLINE_SIZE)]))
        refine own_go (fun _ k => XS.iloadN X18.here hx rfl (hb hby at_80) rfl k) ?_
        show own_Ends _ _ _ _ (T18.setTop (mkF mM 81 #[.val (.int p0), .val (.int p1), .val (.int (p0 &&& (3 : Int32))), .val (.ref a_C1_MAX_INLINE_SIZE), .val (.int (35 : Int32)), .val (.int (0 : Int32)), .val (.int (1 : Int32)), .unset, .unset] [(.int p1), (.ref a_C1_MAX_INLINE_SIZE)]))
        by_cases hf81_18 : (35 : Int32) < p1
        · obtain ⟨cq20, kq20, q20a, q20b, q20c⟩ := isOf hZ e18 (E_C1_MAX_INLINE_SIZE.ext O0.2)
          obtain ⟨_, _, ⟨T20, Lz20, kz20, nz20⟩, -, X20, ⟨Lc20, hQ20, l20, y20, z20⟩, st20⟩ := X18.virtualBack hx (y := (⟨"com/example/warmline/warmline/core/Limit", "isExceededBy", "(I)Z"⟩ : MethodName)) (z := (⟨"com/example/warmline/warmline/core/Limit", "isExceededBy", "(I)Z"⟩ : MethodName)) hown (mvT hZ (hw _ (List.mem_of_getElem? (i := 3) rfl))) (mvT hZ (hw _ (List.mem_of_getElem? (i := 4) rfl))) (notFace_of_selects (args := #[]) (mvT hZ (hw _ (List.mem_of_getElem? (i := 6) rfl)))) (mvT hZ (hw _ (List.mem_of_getElem? (i := 6) rfl))) (mvT hZ (hw _ (List.mem_of_getElem? (i := 5) rfl))) (by decide) (backOf (W := 0) (own_exceeded l Z a0 hw [] a_C1_MAX_INLINE_SIZE p1 (35 : Int32) (1 : Int32) h0 n0 O0 F_C1_MAX_INLINE_SIZE_bytes (by rw [if_pos hf81_18])) hZ (hw _ (List.mem_of_getElem? (i := 7) rfl)) (hw _ (List.mem_of_getElem? (i := 1) rfl)) (by decide) (by decide)) q20a q20c (g := (mkF mM 81 #[.val (.int p0), .val (.int p1), .val (.int (p0 &&& (3 : Int32))), .val (.ref a_C1_MAX_INLINE_SIZE), .val (.int (35 : Int32)), .val (.int (0 : Int32)), .val (.int (1 : Int32)), .unset, .unset] [(.int p1), (.ref a_C1_MAX_INLINE_SIZE)])) rfl (by rw [hml]; rfl) (Steps.refl _) (argsL := [(.int p1)]) (rest := []) (lenOf own_pd0 rfl) rfl (by show 2 * 0 + _ ≤ _; exact Nat.le_of_eq rfl) (hb hby at_81) (fun _ _ => ⟨rfl, e18, (by decide : 0 + 0 ≤ _), (by decide : 0 + 0 ≤ _)⟩)
          dsimp only [Pt.U, Pt.locs, Pt.cells, Pt.slots] at X20 l20 y20 z20 st20 hQ20
          subst l20 y20 z20
          obtain ⟨rfl, Nq20, e20⟩ := hQ20
          have N20 := Fr.app N18 Nq20
          refine own_tr st20 ?_
          show own_Ends _ _ _ _ (T20.setTop (mkF mM 84 #[.val (.int p0), .val (.int p1), .val (.int (p0 &&& (3 : Int32))), .val (.ref a_C1_MAX_INLINE_SIZE), .val (.int (35 : Int32)), .val (.int (0 : Int32)), .val (.int (1 : Int32)), .unset, .unset] [(.int (1 : Int32))]))
          refine own_go (fun _ k => XS.istore X20.here hx rfl (hb hby at_84) rfl (l' := #[.val (.int p0), .val (.int p1), .val (.int (p0 &&& (3 : Int32))), .val (.ref a_C1_MAX_INLINE_SIZE), .val (.int (35 : Int32)), .val (.int (0 : Int32)), .val (.int (1 : Int32)), .val (.int (1 : Int32)), .unset]) rfl k) ?_
          show own_Ends _ _ _ _ (T20.setTop (mkF mM 86 #[.val (.int p0), .val (.int p1), .val (.int (p0 &&& (3 : Int32))), .val (.ref a_C1_MAX_INLINE_SIZE), .val (.int (35 : Int32)), .val (.int (0 : Int32)), .val (.int (1 : Int32)), .val (.int (1 : Int32)), .unset] []))
          refine own_go (fun _ k => XS.iloadN X20.here hx rfl (hb hby at_86) rfl k) ?_
          show own_Ends _ _ _ _ (T20.setTop (mkF mM 87 #[.val (.int p0), .val (.int p1), .val (.int (p0 &&& (3 : Int32))), .val (.ref a_C1_MAX_INLINE_SIZE), .val (.int (35 : Int32)), .val (.int (0 : Int32)), .val (.int (1 : Int32)), .val (.int (1 : Int32)), .unset] [(.int p1)]))
          refine own_go (fun _ k => XS.iload X20.here hx rfl (hb hby at_87) rfl k) ?_
          show own_Ends _ _ _ _ (T20.setTop (mkF mM 89 #[.val (.int p0), .val (.int p1), .val (.int (p0 &&& (3 : Int32))), .val (.ref a_C1_MAX_INLINE_SIZE), .val (.int (35 : Int32)), .val (.int (0 : Int32)), .val (.int (1 : Int32)), .val (.int (1 : Int32)), .unset] [(.int (35 : Int32)), (.int p1)]))
          refine own_go (fun _ k => XS.icmpNo X20.here hx rfl (hb hby at_89) rfl (tlt hf81_18).2.2.2 k) ?_
          show own_Ends _ _ _ _ (T20.setTop (mkF mM 92 #[.val (.int p0), .val (.int p1), .val (.int (p0 &&& (3 : Int32))), .val (.ref a_C1_MAX_INLINE_SIZE), .val (.int (35 : Int32)), .val (.int (0 : Int32)), .val (.int (1 : Int32)), .val (.int (1 : Int32)), .unset] []))
          refine own_go (fun _ k => XS.iconst X20.here hx rfl (hb hby at_92) k) ?_
          show own_Ends _ _ _ _ (T20.setTop (mkF mM 93 #[.val (.int p0), .val (.int p1), .val (.int (p0 &&& (3 : Int32))), .val (.ref a_C1_MAX_INLINE_SIZE), .val (.int (35 : Int32)), .val (.int (0 : Int32)), .val (.int (1 : Int32)), .val (.int (1 : Int32)), .unset] [(.int (1 : Int32))]))
          refine own_go (fun _ k => XS.goto X20.here hx rfl (pc0 := 93) (pc' := 97) rfl (hb hby at_93) (by decide) (by decide) k) ?_
          show own_Ends _ _ _ _ (T20.setTop (mkF mM 97 #[.val (.int p0), .val (.int p1), .val (.int (p0 &&& (3 : Int32))), .val (.ref a_C1_MAX_INLINE_SIZE), .val (.int (35 : Int32)), .val (.int (0 : Int32)), .val (.int (1 : Int32)), .val (.int (1 : Int32)), .unset] [(.int (1 : Int32))]))
          refine own_go (fun _ k => XS.istore X20.here hx rfl (hb hby at_97) rfl (l' := #[.val (.int p0), .val (.int p1), .val (.int (p0 &&& (3 : Int32))), .val (.ref a_C1_MAX_INLINE_SIZE), .val (.int (35 : Int32)), .val (.int (0 : Int32)), .val (.int (1 : Int32)), .val (.int (1 : Int32)), .val (.int (1 : Int32))]) rfl k) ?_
          show own_Ends _ _ _ _ (T20.setTop (mkF mM 99 #[.val (.int p0), .val (.int p1), .val (.int (p0 &&& (3 : Int32))), .val (.ref a_C1_MAX_INLINE_SIZE), .val (.int (35 : Int32)), .val (.int (0 : Int32)), .val (.int (1 : Int32)), .val (.int (1 : Int32)), .val (.int (1 : Int32))] []))
          refine own_go (fun _ k => XS.iload X20.here hx rfl (hb hby at_99) rfl k) ?_
          show own_Ends _ _ _ _ (T20.setTop (mkF mM 101 #[.val (.int p0), .val (.int p1), .val (.int (p0 &&& (3 : Int32))), .val (.ref a_C1_MAX_INLINE_SIZE), .val (.int (35 : Int32)), .val (.int (0 : Int32)), .val (.int (1 : Int32)), .val (.int (1 : Int32)), .val (.int (1 : Int32))] [(.int (0 : Int32))]))
          refine own_go (fun _ k => XS.ifNo X20.here hx rfl (hb hby at_101) rfl ((if0 _ _).trans (teq (by decide : (0 : Int32) = (0 : Int32))).2) k) ?_
          show own_Ends _ _ _ _ (T20.setTop (mkF mM 104 #[.val (.int p0), .val (.int p1), .val (.int (p0 &&& (3 : Int32))), .val (.ref a_C1_MAX_INLINE_SIZE), .val (.int (35 : Int32)), .val (.int (0 : Int32)), .val (.int (1 : Int32)), .val (.int (1 : Int32)), .val (.int (1 : Int32))] []))
          refine own_go (fun _ k => XS.iload X20.here hx rfl (hb hby at_104) rfl k) ?_
          show own_Ends _ _ _ _ (T20.setTop (mkF mM 106 #[.val (.int p0), .val (.int p1), .val (.int (p0 &&& (3 : Int32))), .val (.ref a_C1_MAX_INLINE_SIZE), .val (.int (35 : Int32)), .val (.int (0 : Int32)), .val (.int (1 : Int32)), .val (.int (1 : Int32)), .val (.int (1 : Int32))] [(.int (1 : Int32))]))
          refine own_go (fun _ k => XS.ifNo X20.here hx rfl (hb hby at_106) rfl ((if0 _ _).trans (feq (by decide : ¬ ((1 : Int32) = (0 : Int32)))).1) k) ?_
          show own_Ends _ _ _ _ (T20.setTop (mkF mM 109 #[.val (.int p0), .val (.int p1), .val (.int (p0 &&& (3 : Int32))), .val (.ref a_C1_MAX_INLINE_SIZE), .val (.int (35 : Int32)), .val (.int (0 : Int32)), .val (.int (1 : Int32)), .val (.int (1 : Int32)), .val (.int (1 : Int32))] []))
          refine own_go (fun _ k => XS.iload X20.here hx rfl (hb hby at_109) rfl k) ?_
          show own_Ends _ _ _ _ (T20.setTop (mkF mM 111 #[.val (.int p0), .val (.int p1), .val (.int (p0 &&& (3 : Int32))), .val (.ref a_C1_MAX_INLINE_SIZE), .val (.int (35 : Int32)), .val (.int (0 : Int32)), .val (.int (1 : Int32)), .val (.int (1 : Int32)), .val (.int (1 : Int32))] [(.int (1 : Int32))]))
          refine own_go (fun _ k => XS.iload X20.here hx rfl (hb hby at_111) rfl k) ?_
          show own_Ends _ _ _ _ (T20.setTop (mkF mM 113 #[.val (.int p0), .val (.int p1), .val (.int (p0 &&& (3 : Int32))), .val (.ref a_C1_MAX_INLINE_SIZE), .val (.int (35 : Int32)), .val (.int (0 : Int32)), .val (.int (1 : Int32)), .val (.int (1 : Int32)), .val (.int (1 : Int32))] [(.int (1 : Int32)), (.int (1 : Int32))]))
          refine own_go (fun _ k => XS.icmpNo X20.here hx rfl (hb hby at_113) rfl (teq (by decide : (1 : Int32) = (1 : Int32))).2 k) ?_
          show own_Ends _ _ _ _ (T20.setTop (mkF mM 116 #[.val (.int p0), .val (.int p1), .val (.int (p0 &&& (3 : Int32))), .val (.ref a_C1_MAX_INLINE_SIZE), .val (.int (35 : Int32)), .val (.int (0 : Int32)), .val (.int (1 : Int32)), .val (.int (1 : Int32)), .val (.int (1 : Int32))] []))
          refine own_go (fun _ k => XS.iconst X20.here hx rfl (hb hby at_116) k) ?_
          show own_Ends _ _ _ _ (T20.setTop (mkF mM 117 #[.val (.int p0), .val (.int p1), .val (.int (p0 &&& (3 : Int32))), .val (.ref a_C1_MAX_INLINE_SIZE), .val (.int (35 : Int32)), .val (.int (0 : Int32)), .val (.int (1 : Int32)), .val (.int (1 : Int32)), .val (.int (1 : Int32))] [(.int (1 : Int32))]))
          refine own_go (fun _ k => XS.goto X20.here hx rfl (pc0 := 117) (pc' := 121) rfl (hb hby at_117) (by decide) (by decide) k) ?_
          show own_Ends _ _ _ _ (T20.setTop (mkF mM 121 #[.val (.int p0), .val (.int p1), .val (.int (p0 &&& (3 : Int32))), .val (.ref a_C1_MAX_INLINE_SIZE), .val (.int (35 : Int32)), .val (.int (0 : Int32)), .val (.int (1 : Int32)), .val (.int (1 : Int32)), .val (.int (1 : Int32))] [(.int (1 : Int32))]))
          exact own_retZ X20 hx (BodyLoose.notSynchronized Bd) Bd.returns rfl (hb hby at_121) (by decide) (by decide) (by rw [e20]; exact ⟨rfl, N20⟩)
        · obtain ⟨cq21, kq21, q21a, q21b, q21c⟩ := isOf hZ e18 (E_C1_MAX_INLINE_SIZE.ext O0.2)
          obtain ⟨_, _, ⟨T21, Lz21, kz21, nz21⟩, -, X21, ⟨Lc21, hQ21, l21, y21, z21⟩, st21⟩ := X18.virtualBack hx (y := (⟨"com/example/warmline/warmline/core/Limit", "isExceededBy", "(I)Z"⟩ : MethodName)) (z := (⟨"com/example/warmline/warmline/core/Limit", "isExceededBy", "(I)Z"⟩ : MethodName)) hown (mvT hZ (hw _ (List.mem_of_getElem? (i := 3) rfl))) (mvT hZ (hw _ (List.mem_of_getElem? (i := 4) rfl))) (notFace_of_selects (args := #[]) (mvT hZ (hw _ (List.mem_of_getElem? (i := 6) rfl)))) (mvT hZ (hw _ (List.mem_of_getElem? (i := 6) rfl))) (mvT hZ (hw _ (List.mem_of_getElem? (i := 5) rfl))) (by decide) (backOf (W := 0) (own_exceeded l Z a0 hw [] a_C1_MAX_INLINE_SIZE p1 (35 : Int32) (0 : Int32) h0 n0 O0 F_C1_MAX_INLINE_SIZE_bytes (by rw [if_neg hf81_18])) hZ (hw _ (List.mem_of_getElem? (i := 7) rfl)) (hw _ (List.mem_of_getElem? (i := 1) rfl)) (by decide) (by decide)) q21a q21c (g := (mkF mM 81 #[.val (.int p0), .val (.int p1), .val (.int (p0 &&& (3 : Int32))), .val (.ref a_C1_MAX_INLINE_SIZE), .val (.int (35 : Int32)), .val (.int (0 : Int32)), .val (.int (1 : Int32)), .unset, .unset] [(.int p1), (.ref a_C1_MAX_INLINE_SIZE)])) rfl (by rw [hml]; rfl) (Steps.refl _) (argsL := [(.int p1)]) (rest := []) (lenOf own_pd0 rfl) rfl (by show 2 * 0 + _ ≤ _; exact Nat.le_of_eq rfl) (hb hby at_81) (fun _ _ => ⟨rfl, e18, (by decide : 0 + 0 ≤ _), (by decide : 0 + 0 ≤ _)⟩)
          dsimp only [Pt.U, Pt.locs, Pt.cells, Pt.slots] at X21 l21 y21 z21 st21 hQ21
          subst l21 y21 z21
          obtain ⟨rfl, Nq21, e21⟩ := hQ21
          have N21 := Fr.app N18 Nq21
          refine own_tr st21 ?_
          show own_Ends _ _ _ _ (T21.setTop (mkF mM 84 #[.val (.int p0), .val (.int p1), .val (.int (p0 &&& (3 : Int32))), .val (.ref a_C1_MAX_INLINE_SIZE), .val (.int (35 : Int32)), .val (.int (0 : Int32)), .val (.int (1 : Int32)), .unset, .unset] [(.int (0 : Int32))]))
          refine own_go (fun _ k => XS.istore X21.here hx rfl (hb hby at_84) rfl (l' := #[.val (.int p0), .val (.int p1), .val (.int (p0 &&& (3 : Int32))), .val (.ref a_C1_MAX_INLINE_SIZE), .val (.int (35 : Int32)), .val (.int (0 : Int32)), .val (.int (1 : Int32)), .val (.int (0 : Int32)), .unset]) rfl k) ?_
          show own_Ends _ _ _ _ (T21.setTop (mkF mM 86 #[.val (.int p0), .val (.int p1), .val (.int (p0 &&& (3 : Int32))), .val (.ref a_C1_MAX_INLINE_SIZE), .val (.int (35 : Int32)), .val (.int (0 : Int32)), .val (.int (1 : Int32)), .val (.int (0 : Int32)), .unset] []))
          refine own_go (fun _ k => XS.iloadN X21.here hx rfl (hb hby at_86) rfl k) ?_
          show own_Ends _ _ _ _ (T21.setTop (mkF mM 87 #[.val (.int p0), .val (.int p1), .val (.int (p0 &&& (3 : Int32))), .val (.ref a_C1_MAX_INLINE_SIZE), .val (.int (35 : Int32)), .val (.int (0 : Int32)), .val (.int (1 : Int32)), .val (.int (0 : Int32)), .unset] [(.int p1)]))
          refine own_go (fun _ k => XS.iload X21.here hx rfl (hb hby at_87) rfl k) ?_
          show own_Ends _ _ _ _ (T21.setTop (mkF mM 89 #[.val (.int p0), .val (.int p1), .val (.int (p0 &&& (3 : Int32))), .val (.ref a_C1_MAX_INLINE_SIZE), .val (.int (35 : Int32)), .val (.int (0 : Int32)), .val (.int (1 : Int32)), .val (.int (0 : Int32)), .unset] [(.int (35 : Int32)), (.int p1)]))
          refine own_go (fun _ k => XS.icmpYes X21.here hx rfl (pc0 := 89) (pc' := 96) rfl (hb hby at_89) rfl (flt hf81_18).2.2.2 (by decide) (by decide) k) ?_
          show own_Ends _ _ _ _ (T21.setTop (mkF mM 96 #[.val (.int p0), .val (.int p1), .val (.int (p0 &&& (3 : Int32))), .val (.ref a_C1_MAX_INLINE_SIZE), .val (.int (35 : Int32)), .val (.int (0 : Int32)), .val (.int (1 : Int32)), .val (.int (0 : Int32)), .unset] []))
          refine own_go (fun _ k => XS.iconst X21.here hx rfl (hb hby at_96) k) ?_
          show own_Ends _ _ _ _ (T21.setTop (mkF mM 97 #[.val (.int p0), .val (.int p1), .val (.int (p0 &&& (3 : Int32))), .val (.ref a_C1_MAX_INLINE_SIZE), .val (.int (35 : Int32)), .val (.int (0 : Int32)), .val (.int (1 : Int32)), .val (.int (0 : Int32)), .unset] [(.int (0 : Int32))]))
          refine own_go (fun _ k => XS.istore X21.here hx rfl (hb hby at_97) rfl (l' := #[.val (.int p0), .val (.int p1), .val (.int (p0 &&& (3 : Int32))), .val (.ref a_C1_MAX_INLINE_SIZE), .val (.int (35 : Int32)), .val (.int (0 : Int32)), .val (.int (1 : Int32)), .val (.int (0 : Int32)), .val (.int (0 : Int32))]) rfl k) ?_
          show own_Ends _ _ _ _ (T21.setTop (mkF mM 99 #[.val (.int p0), .val (.int p1), .val (.int (p0 &&& (3 : Int32))), .val (.ref a_C1_MAX_INLINE_SIZE), .val (.int (35 : Int32)), .val (.int (0 : Int32)), .val (.int (1 : Int32)), .val (.int (0 : Int32)), .val (.int (0 : Int32))] []))
          refine own_go (fun _ k => XS.iload X21.here hx rfl (hb hby at_99) rfl k) ?_
          show own_Ends _ _ _ _ (T21.setTop (mkF mM 101 #[.val (.int p0), .val (.int p1), .val (.int (p0 &&& (3 : Int32))), .val (.ref a_C1_MAX_INLINE_SIZE), .val (.int (35 : Int32)), .val (.int (0 : Int32)), .val (.int (1 : Int32)), .val (.int (0 : Int32)), .val (.int (0 : Int32))] [(.int (0 : Int32))]))
          refine own_go (fun _ k => XS.ifNo X21.here hx rfl (hb hby at_101) rfl ((if0 _ _).trans (teq (by decide : (0 : Int32) = (0 : Int32))).2) k) ?_
          show own_Ends _ _ _ _ (T21.setTop (mkF mM 104 #[.val (.int p0), .val (.int p1), .val (.int (p0 &&& (3 : Int32))), .val (.ref a_C1_MAX_INLINE_SIZE), .val (.int (35 : Int32)), .val (.int (0 : Int32)), .val (.int (1 : Int32)), .val (.int (0 : Int32)), .val (.int (0 : Int32))] []))
          refine own_go (fun _ k => XS.iload X21.here hx rfl (hb hby at_104) rfl k) ?_
          show own_Ends _ _ _ _ (T21.setTop (mkF mM 106 #[.val (.int p0), .val (.int p1), .val (.int (p0 &&& (3 : Int32))), .val (.ref a_C1_MAX_INLINE_SIZE), .val (.int (35 : Int32)), .val (.int (0 : Int32)), .val (.int (1 : Int32)), .val (.int (0 : Int32)), .val (.int (0 : Int32))] [(.int (1 : Int32))]))
          refine own_go (fun _ k => XS.ifNo X21.here hx rfl (hb hby at_106) rfl ((if0 _ _).trans (feq (by decide : ¬ ((1 : Int32) = (0 : Int32)))).1) k) ?_
          show own_Ends _ _ _ _ (T21.setTop (mkF mM 109 #[.val (.int p0), .val (.int p1), .val (.int (p0 &&& (3 : Int32))), .val (.ref a_C1_MAX_INLINE_SIZE), .val (.int (35 : Int32)), .val (.int (0 : Int32)), .val (.int (1 : Int32)), .val (.int (0 : Int32)), .val (.int (0 : Int32))] []))
          refine own_go (fun _ k => XS.iload X21.here hx rfl (hb hby at_109) rfl k) ?_
          show own_Ends _ _ _ _ (T21.setTop (mkF mM 111 #[.val (.int p0), .val (.int p1), .val (.int (p0 &&& (3 : Int32))), .val (.ref a_C1_MAX_INLINE_SIZE), .val (.int (35 : Int32)), .val (.int (0 : Int32)), .val (.int (1 : Int32)), .val (.int (0 : Int32)), .val (.int (0 : Int32))] [(.int (0 : Int32))]))
          refine own_go (fun _ k => XS.iload X21.here hx rfl (hb hby at_111) rfl k) ?_
          show own_Ends _ _ _ _ (T21.setTop (mkF mM 113 #[.val (.int p0), .val (.int p1), .val (.int (p0 &&& (3 : Int32))), .val (.ref a_C1_MAX_INLINE_SIZE), .val (.int (35 : Int32)), .val (.int (0 : Int32)), .val (.int (1 : Int32)), .val (.int (0 : Int32)), .val (.int (0 : Int32))] [(.int (0 : Int32)), (.int (0 : Int32))]))
          refine own_go (fun _ k => XS.icmpNo X21.here hx rfl (hb hby at_113) rfl (teq (by decide : (0 : Int32) = (0 : Int32))).2 k) ?_
          show own_Ends _ _ _ _ (T21.setTop (mkF mM 116 #[.val (.int p0), .val (.int p1), .val (.int (p0 &&& (3 : Int32))), .val (.ref a_C1_MAX_INLINE_SIZE), .val (.int (35 : Int32)), .val (.int (0 : Int32)), .val (.int (1 : Int32)), .val (.int (0 : Int32)), .val (.int (0 : Int32))] []))
          refine own_go (fun _ k => XS.iconst X21.here hx rfl (hb hby at_116) k) ?_
          show own_Ends _ _ _ _ (T21.setTop (mkF mM 117 #[.val (.int p0), .val (.int p1), .val (.int (p0 &&& (3 : Int32))), .val (.ref a_C1_MAX_INLINE_SIZE), .val (.int (35 : Int32)), .val (.int (0 : Int32)), .val (.int (1 : Int32)), .val (.int (0 : Int32)), .val (.int (0 : Int32))] [(.int (1 : Int32))]))
          refine own_go (fun _ k => XS.goto X21.here hx rfl (pc0 := 117) (pc' := 121) rfl (hb hby at_117) (by decide) (by decide) k) ?_
          show own_Ends _ _ _ _ (T21.setTop (mkF mM 121 #[.val (.int p0), .val (.int p1), .val (.int (p0 &&& (3 : Int32))), .val (.ref a_C1_MAX_INLINE_SIZE), .val (.int (35 : Int32)), .val (.int (0 : Int32)), .val (.int (1 : Int32)), .val (.int (0 : Int32)), .val (.int (0 : Int32))] [(.int (1 : Int32))]))
          exact own_retZ X21 hx (BodyLoose.notSynchronized Bd) Bd.returns rfl (hb hby at_121) (by decide) (by decide) (by rw [e21]; exact ⟨rfl, N21⟩)
      · refine own_go (fun _ k => XS.icmpYes X0.here hx rfl (pc0 := 38) (pc' := 52) rfl (hb hby at_38) rfl (feq hc38_14).2 (by decide) (by decide) k) ?_
        show own_Ends _ _ _ _ (s₁.setTop (mkF mM 52 #[.val (.int p0), .val (.int p1), .val (.int (p0 &&& (3 : Int32))), .unset, .unset, .unset, .unset, .unset, .unset] []))
        obtain ⟨T22, X22, e22, st22⟩ := getS2 X0 hx hZ hown (host := "") (Or.inl (hw _ (List.mem_of_getElem? (i := 14) rfl))) Via.refl e0 (S_HUGE_METHOD_LIMIT.ext O0.2) (g := (mkF mM 52 #[.val (.int p0), .val (.int p1), .val (.int (p0 &&& (3 : Int32))), .unset, .unset, .unset, .unset, .unset, .unset] [])) rfl (hb hby at_52)
        refine own_go st22 ?_
        show own_Ends _ _ _ _ (T22.setTop (mkF mM 55 #[.val (.int p0), .val (.int p1), .val (.int (p0 &&& (3 : Int32))), .unset, .unset, .unset, .unset, .unset, .unset] [(.ref a_HUGE_METHOD_LIMIT)]))
        refine own_go (fun _ k => XS.astoreN X22.here hx rfl (hb hby at_55) rfl rfl (l' := #[.val (.int p0), .val (.int p1), .val (.int (p0 &&& (3 : Int32))), .val (.ref a_HUGE_METHOD_LIMIT), .unset, .unset, .unset, .unset, .unset]) rfl k) ?_
        show own_Ends _ _ _ _ (T22.setTop (mkF mM 56 #[.val (.int p0), .val (.int p1), .val (.int (p0 &&& (3 : Int32))), .val (.ref a_HUGE_METHOD_LIMIT), .unset, .unset, .unset, .unset, .unset] []))
        refine own_go (fun _ k => XS.sipush X22.here hx rfl (hb hby at_56) k) ?_
        show own_Ends _ _ _ _ (T22.setTop (mkF mM 59 #[.val (.int p0), .val (.int p1), .val (.int (p0 &&& (3 : Int32))), .val (.ref a_HUGE_METHOD_LIMIT), .unset, .unset, .unset, .unset, .unset] [(.int (8000 : Int32))]))
        refine own_go (fun _ k => XS.istore X22.here hx rfl (hb hby at_59) rfl (l' := #[.val (.int p0), .val (.int p1), .val (.int (p0 &&& (3 : Int32))), .val (.ref a_HUGE_METHOD_LIMIT), .val (.int (8000 : Int32)), .unset, .unset, .unset, .unset]) rfl k) ?_
        show own_Ends _ _ _ _ (T22.setTop (mkF mM 61 #[.val (.int p0), .val (.int p1), .val (.int (p0 &&& (3 : Int32))), .val (.ref a_HUGE_METHOD_LIMIT), .val (.int (8000 : Int32)), .unset, .unset, .unset, .unset] []))
        refine own_go (fun _ k => XS.aloadN X22.here hx rfl (hb hby at_61) rfl rfl k) ?_
        show own_Ends _ _ _ _ (T22.setTop (mkF mM 62 #[.val (.int p0), .val (.int p1), .val (.int (p0 &&& (3 : Int32))), .val (.ref a_HUGE_METHOD_LIMIT), .val (.int (8000 : Int32)), .unset, .unset, .unset, .unset] [(.ref a_HUGE_METHOD_LIMIT)]))
        refine own_go (fun _ k => XS.iload X22.here hx rfl (hb hby at_62) rfl k) ?_
        show own_Ends _ _ _ _ (T22.setTop (mkF mM 64 #[.val (.int p0), .val (.int p1), .val (.int (p0 &&& (3 : Int32))), .val (.ref a_HUGE_METHOD_LIMIT), .val (.int (8000 : Int32)), .unset, .unset, .unset, .unset] [(.int (8000 : Int32)), (.ref a_HUGE_METHOD_LIMIT)]))
        obtain ⟨cq23, kq23, q23a, q23b, q23c⟩ := isOf hZ e22 (E_HUGE_METHOD_LIMIT.ext O0.2)
        obtain ⟨_, _, ⟨T23, Lz23, kz23, nz23⟩, -, X23, ⟨Lc23, hQ23, l23, y23, z23⟩, st23⟩ := X22.virtualBack hx (y := (⟨"com/example/warmline/warmline/core/Limit", "isExceededBy", "(I)Z"⟩ : MethodName)) (z := (⟨"com/example/warmline/warmline/core/Limit", "isExceededBy", "(I)Z"⟩ : MethodName)) hown (mvT hZ (hw _ (List.mem_of_getElem? (i := 3) rfl))) (mvT hZ (hw _ (List.mem_of_getElem? (i := 4) rfl))) (notFace_of_selects (args := #[]) (mvT hZ (hw _ (List.mem_of_getElem? (i := 6) rfl)))) (mvT hZ (hw _ (List.mem_of_getElem? (i := 6) rfl))) (mvT hZ (hw _ (List.mem_of_getElem? (i := 5) rfl))) (by decide) (backOf (W := 0) (own_exceeded l Z a0 hw [] a_HUGE_METHOD_LIMIT (8000 : Int32) (8000 : Int32) (0 : Int32) h0 n0 O0 F_HUGE_METHOD_LIMIT_bytes (by decide +kernel)) hZ (hw _ (List.mem_of_getElem? (i := 7) rfl)) (hw _ (List.mem_of_getElem? (i := 1) rfl)) (by decide) (by decide)) q23a q23c (g := (mkF mM 64 #[.val (.int p0), .val (.int p1), .val (.int (p0 &&& (3 : Int32))), .val (.ref a_HUGE_METHOD_LIMIT), .val (.int (8000 : Int32)), .unset, .unset, .unset, .unset] [(.int (8000 : Int32)), (.ref a_HUGE_METHOD_LIMIT)])) rfl (by rw [hml]; rfl) (Steps.refl _) (argsL := [(.int (8000 : Int32))]) (rest := []) (lenOf own_pd0 rfl) rfl (by show 2 * 0 + _ ≤ _; exact Nat.le_of_eq rfl) (hb hby at_64) (fun _ _ => ⟨rfl, e22, (by decide : 0 + 0 ≤ _), (by decide : 0 + 0 ≤ _)⟩)
        dsimp only [Pt.U, Pt.locs, Pt.cells, Pt.slots] at X23 l23 y23 z23 st23 hQ23
        subst l23 y23 z23
        obtain ⟨rfl, Nq23, e23⟩ := hQ23
        have N23 := Fr.app N0 Nq23
        refine own_tr st23 ?_
        show own_Ends _ _ _ _ (T23.setTop (mkF mM 67 #[.val (.int p0), .val (.int p1), .val (.int (p0 &&& (3 : Int32))), .val (.ref a_HUGE_METHOD_LIMIT), .val (.int (8000 : Int32)), .unset, .unset, .unset, .unset] [(.int (0 : Int32))]))
        refine own_go (fun _ k => XS.istore X23.here hx rfl (hb hby at_67) rfl (l' := #[.val (.int p0), .val (.int p1), .val (.int (p0 &&& (3 : Int32))), .val (.ref a_HUGE_METHOD_LIMIT), .val (.int (8000 : Int32)), .val (.int (0 : Int32)), .unset, .unset, .unset]) rfl k) ?_
        show own_Ends _ _ _ _ (T23.setTop (mkF mM 69 #[.val (.int p0), .val (.int p1), .val (.int (p0 &&& (3 : Int32))), .val (.ref a_HUGE_METHOD_LIMIT), .val (.int (8000 : Int32)), .val (.int (0 : Int32)), .unset, .unset, .unset] []))
        refine own_go (fun _ k => XS.aloadN X23.here hx rfl (hb hby at_69) rfl rfl k) ?_
        show own_Ends _ _ _ _ (T23.setTop (mkF mM 70 #[.val (.int p0), .val (.int p1), .val (.int (p0 &&& (3 : Int32))), .val (.ref a_HUGE_METHOD_LIMIT), .val (.int (8000 : Int32)), .val (.int (0 : Int32)), .unset, .unset, .unset] [(.ref a_HUGE_METHOD_LIMIT)]))
        refine own_go (fun _ k => XS.iload X23.here hx rfl (hb hby at_70) rfl k) ?_
        show own_Ends _ _ _ _ (T23.setTop (mkF mM 72 #[.val (.int p0), .val (.int p1), .val (.int (p0 &&& (3 : Int32))), .val (.ref a_HUGE_METHOD_LIMIT), .val (.int (8000 : Int32)), .val (.int (0 : Int32)), .unset, .unset, .unset] [(.int (8000 : Int32)), (.ref a_HUGE_METHOD_LIMIT)]))
        refine own_go (fun _ k => XS.iconst X23.here hx rfl (hb hby at_72) k) ?_
        show own_Ends _ _ _ _ (T23.setTop (mkF mM 73 #[.val (.int p0), .val (.int p1), .val (.int (p0 &&& (3 : Int32))), .val (.ref a_HUGE_METHOD_LIMIT), .val (.int (8000 : Int32)), .val (.int (0 : Int32)), .unset, .unset, .unset] [(.int (1 : Int32)), (.int (8000 : Int32)), (.ref a_HUGE_METHOD_LIMIT)]))
        refine own_go (fun _ k => XS.iadd X23.here hx rfl (hb hby at_73) rfl k) ?_
        show own_Ends _ _ _ _ (T23.setTop (mkF mM 74 #[.val (.int p0), .val (.int p1), .val (.int (p0 &&& (3 : Int32))), .val (.ref a_HUGE_METHOD_LIMIT), .val (.int (8000 : Int32)), .val (.int (0 : Int32)), .unset, .unset, .unset] [(.int ((8000 : Int32) + (1 : Int32))), (.ref a_HUGE_METHOD_LIMIT)]))
        obtain ⟨cq24, kq24, q24a, q24b, q24c⟩ := isOf hZ e23 (E_HUGE_METHOD_LIMIT.ext O0.2)
        obtain ⟨_, _, ⟨T24, Lz24, kz24, nz24⟩, -, X24, ⟨Lc24, hQ24, l24, y24, z24⟩, st24⟩ := X23.virtualBack hx (y := (⟨"com/example/warmline/warmline/core/Limit", "isExceededBy", "(I)Z"⟩ : MethodName)) (z := (⟨"com/example/warmline/warmline/core/Limit", "isExceededBy", "(I)Z"⟩ : MethodName)) hown (mvT hZ (hw _ (List.mem_of_getElem? (i := 3) rfl))) (mvT hZ (hw _ (List.mem_of_getElem? (i := 4) rfl))) (notFace_of_selects (args := #[]) (mvT hZ (hw _ (List.mem_of_getElem? (i := 6) rfl)))) (mvT hZ (hw _ (List.mem_of_getElem? (i := 6) rfl))) (mvT hZ (hw _ (List.mem_of_getElem? (i := 5) rfl))) (by decide) (backOf (W := 0) (own_exceeded l Z a0 hw [] a_HUGE_METHOD_LIMIT ((8000 : Int32) + (1 : Int32)) (8000 : Int32) (1 : Int32) h0 n0 O0 F_HUGE_METHOD_LIMIT_bytes (by decide +kernel)) hZ (hw _ (List.mem_of_getElem? (i := 7) rfl)) (hw _ (List.mem_of_getElem? (i := 1) rfl)) (by decide) (by decide)) q24a q24c (g := (mkF mM 74 #[.val (.int p0), .val (.int p1), .val (.int (p0 &&& (3 : Int32))), .val (.ref a_HUGE_METHOD_LIMIT), .val (.int (8000 : Int32)), .val (.int (0 : Int32)), .unset, .unset, .unset] [(.int ((8000 : Int32) + (1 : Int32))), (.ref a_HUGE_METHOD_LIMIT)])) rfl (by rw [hml]; rfl) (Steps.refl _) (argsL := [(.int ((8000 : Int32) + (1 : Int32)))]) (rest := []) (lenOf own_pd0 rfl) rfl (by show 2 * 0 + _ ≤ _; exact Nat.le_of_eq rfl) (hb hby at_74) (fun _ _ => ⟨rfl, e23, (by decide : 0 + 0 ≤ _), (by decide : 0 + 0 ≤ _)⟩)
        dsimp only [Pt.U, Pt.locs, Pt.cells, Pt.slots] at X24 l24 y24 z24 st24 hQ24
        subst l24 y24 z24
        obtain ⟨rfl, Nq24, e24⟩ := hQ24
        have N24 := Fr.app N23 Nq24
        refine own_tr st24 ?_
        show own_Ends _ _ _ _ (T24.setTop (mkF mM 77 #[.val (.int p0), .val (.int p1), .val (.int (p0 &&& (3 : Int32))), .val (.ref a_HUGE_METHOD_LIMIT), .val (.int (8000 : Int32)), .val (.int (0 : Int32)), .unset, .unset, .unset] [(.int (1 : Int32))]))
        refine own_go (fun _ k => XS.istore X24.here hx rfl (hb hby at_77) rfl (l' := #[.val (.int p0), .val (.int p1), .val (.int (p0 &&& (3 : Int32))), .val (.ref a_HUGE_METHOD_LIMIT), .val (.int (8000 : Int32)), .val (.int (0 : Int32)), .val (.int (1 : Int32)), .unset, .unset]) rfl k) ?_
        show own_Ends _ _ _ _ (T24.setTop (mkF mM 79 #[.val (.int p0), .val (.int p1), .val (.int (p0 &&& (3 : Int32))), .val (.ref a_HUGE_METHOD_LIMIT), .val (.int (8000 : Int32)), .val (.int (0 : Int32)), .val (.int (1 : Int32)), .unset, .unset] []))
        refine own_go (fun _ k => XS.aloadN X24.here hx rfl (hb hby at_79) rfl rfl k) ?_
        show own_Ends _ _ _ _ (T24.setTop (mkF mM 80 #[.val (.int p0), .val (.int p1), .val (.int (p0 &&& (3 : Int32))), .val (.ref a_HUGE_METHOD_LIMIT), .val (.int (8000 : Int32)), .val (.int (0 : Int32)), .val (.int (1 : Int32)), .unset, .unset] [(.ref a_HUGE_METHOD_LIMIT)]))
        refine own_go (fun _ k => XS.iloadN X24.here hx rfl (hb hby at_80) rfl k) ?_
        show own_Ends _ _ _ _ (T24.setTop (mkF mM 81 #[.val (.int p0), .val (.int p1), .val (.int (p0 &&& (3 : Int32))), .val (.ref a_HUGE_METHOD_LIMIT), .val (.int (8000 : Int32)), .val (.int (0 : Int32)), .val (.int (1 : Int32)), .unset, .unset] [(.int p1), (.ref a_HUGE_METHOD_LIMIT)]))
        by_cases hf81_24 : (8000 : Int32) < p1
        · obtain ⟨cq26, kq26, q26a, q26b, q26c⟩ := isOf hZ e24 (E_HUGE_METHOD_LIMIT.ext O0.2)
          obtain ⟨_, _, ⟨T26, Lz26, kz26, nz26⟩, -, X26, ⟨Lc26, hQ26, l26, y26, z26⟩, st26⟩ := X24.virtualBack hx (y := (⟨"com/example/warmline/warmline/core/Limit", "isExceededBy", "(I)Z"⟩ : MethodName)) (z := (⟨"com/example/warmline/warmline/core/Limit", "isExceededBy", "(I)Z"⟩ : MethodName)) hown (mvT hZ (hw _ (List.mem_of_getElem? (i := 3) rfl))) (mvT hZ (hw _ (List.mem_of_getElem? (i := 4) rfl))) (notFace_of_selects (args := #[]) (mvT hZ (hw _ (List.mem_of_getElem? (i := 6) rfl)))) (mvT hZ (hw _ (List.mem_of_getElem? (i := 6) rfl))) (mvT hZ (hw _ (List.mem_of_getElem? (i := 5) rfl))) (by decide) (backOf (W := 0) (own_exceeded l Z a0 hw [] a_HUGE_METHOD_LIMIT p1 (8000 : Int32) (1 : Int32) h0 n0 O0 F_HUGE_METHOD_LIMIT_bytes (by rw [if_pos hf81_24])) hZ (hw _ (List.mem_of_getElem? (i := 7) rfl)) (hw _ (List.mem_of_getElem? (i := 1) rfl)) (by decide) (by decide)) q26a q26c (g := (mkF mM 81 #[.val (.int p0), .val (.int p1), .val (.int (p0 &&& (3 : Int32))), .val (.ref a_HUGE_METHOD_LIMIT), .val (.int (8000 : Int32)), .val (.int (0 : Int32)), .val (.int (1 : Int32)), .unset, .unset] [(.int p1), (.ref a_HUGE_METHOD_LIMIT)])) rfl (by rw [hml]; rfl) (Steps.refl _) (argsL := [(.int p1)]) (rest := []) (lenOf own_pd0 rfl) rfl (by show 2 * 0 + _ ≤ _; exact Nat.le_of_eq rfl) (hb hby at_81) (fun _ _ => ⟨rfl, e24, (by decide : 0 + 0 ≤ _), (by decide : 0 + 0 ≤ _)⟩)
          dsimp only [Pt.U, Pt.locs, Pt.cells, Pt.slots] at X26 l26 y26 z26 st26 hQ26
          subst l26 y26 z26
          obtain ⟨rfl, Nq26, e26⟩ := hQ26
          have N26 := Fr.app N24 Nq26
          refine own_tr st26 ?_
          show own_Ends _ _ _ _ (T26.setTop (mkF mM 84 #[.val (.int p0), .val (.int p1), .val (.int (p0 &&& (3 : Int32))), .val (.ref a_HUGE_METHOD_LIMIT), .val (.int (8000 : Int32)), .val (.int (0 : Int32)), .val (.int (1 : Int32)), .unset, .unset] [(.int (1 : Int32))]))
          refine own_go (fun _ k => XS.istore X26.here hx rfl (hb hby at_84) rfl (l' := #[.val (.int p0), .val (.int p1), .val (.int (p0 &&& (3 : Int32))), .val (.ref a_HUGE_METHOD_LIMIT), .val (.int (8000 : Int32)), .val (.int (0 : Int32)), .val (.int (1 : Int32)), .val (.int (1 : Int32)), .unset]) rfl k) ?_
          show own_Ends _ _ _ _ (T26.setTop (mkF mM 86 #[.val (.int p0), .val (.int p1), .val (.int (p0 &&& (3 : Int32))), .val (.ref a_HUGE_METHOD_LIMIT), .val (.int (8000 : Int32)), .val (.int (0 : Int32)), .val (.int (1 : Int32)), .val (.int (1 : Int32)), .unset] []))
          refine own_go (fun _ k => XS.iloadN X26.here hx rfl (hb hby at_86) rfl k) ?_
          show own_Ends _ _ _ _ (T26.setTop (mkF mM 87 #[.val (.int p0), .val (.int p1), .val (.int (p0 &&& (3 : Int32))), .val (.ref a_HUGE_METHOD_LIMIT), .val (.int (8000 : Int32)), .val (.int (0 : Int32)), .val (.int (1 : Int32)), .val (.int (1 : Int32)), .unset] [(.int p1)]))
          refine own_go (fun _ k => XS.iload X26.here hx rfl (hb hby at_87) rfl k) ?_
          show own_Ends _ _ _ _ (T26.setTop (mkF mM 89 #[.val (.int p0), .val (.int p1), .val (.int (p0 &&& (3 : Int32))), .val (.ref a_HUGE_METHOD_LIMIT), .val (.int (8000 : Int32)), .val (.int (0 : Int32)), .val (.int (1 : Int32)), .val (.int (1 : Int32)), .unset] [(.int (8000 : Int32)), (.int p1)]))
          refine own_go (fun _ k => XS.icmpNo X26.here hx rfl (hb hby at_89) rfl (tlt hf81_24).2.2.2 k) ?_
          show own_Ends _ _ _ _ (T26.setTop (mkF mM 92 #[.val (.int p0), .val (.int p1), .val (.int (p0 &&& (3 : Int32))), .val (.ref a_HUGE_METHOD_LIMIT), .val (.int (8000 : Int32)), .val (.int (0 : Int32)), .val (.int (1 : Int32)), .val (.int (1 : Int32)), .unset] []))
          refine own_go (fun _ k => XS.iconst X26.here hx rfl (hb hby at_92) k) ?_
          show own_Ends _ _ _ _ (T26.setTop (mkF mM 93 #[.val (.int p0), .val (.int p1), .val (.int (p0 &&& (3 : Int32))), .val (.ref a_HUGE_METHOD_LIMIT), .val (.int (8000 : Int32)), .val (.int (0 : Int32)), .val (.int (1 : Int32)), .val (.int (1 : Int32)), .unset] [(.int (1 : Int32))]))
          refine own_go (fun _ k => XS.goto X26.here hx rfl (pc0 := 93) (pc' := 97) rfl (hb hby at_93) (by decide) (by decide) k) ?_
          show own_Ends _ _ _ _ (T26.setTop (mkF mM 97 #[.val (.int p0), .val (.int p1), .val (.int (p0 &&& (3 : Int32))), .val (.ref a_HUGE_METHOD_LIMIT), .val (.int (8000 : Int32)), .val (.int (0 : Int32)), .val (.int (1 : Int32)), .val (.int (1 : Int32)), .unset] [(.int (1 : Int32))]))
          refine own_go (fun _ k => XS.istore X26.here hx rfl (hb hby at_97) rfl (l' := #[.val (.int p0), .val (.int p1), .val (.int (p0 &&& (3 : Int32))), .val (.ref a_HUGE_METHOD_LIMIT), .val (.int (8000 : Int32)), .val (.int (0 : Int32)), .val (.int (1 : Int32)), .val (.int (1 : Int32)), .val (.int (1 : Int32))]) rfl k) ?_
          show own_Ends _ _ _ _ (T26.setTop (mkF mM 99 #[.val (.int p0), .val (.int p1), .val (.int (p0 &&& (3 : Int32))), .val (.ref a_HUGE_METHOD_LIMIT), .val (.int (8000 : Int32)), .val (.int (0 : Int32)), .val (.int (1 : Int32)), .val (.int (1 : Int32)), .val (.int (1 : Int32))] []))
          refine own_go (fun _ k => XS.iload X26.here hx rfl (hb hby at_99) rfl k) ?_
          show own_Ends _ _ _ _ (T26.setTop (mkF mM 101 #[.val (.int p0), .val (.int p1), .val (.int (p0 &&& (3 : Int32))), .val (.ref a_HUGE_METHOD_LIMIT), .val (.int (8000 : Int32)), .val (.int (0 : Int32)), .val (.int (1 : Int32)), .val (.int (1 : Int32)), .val (.int (1 : Int32))] [(.int (0 : Int32))]))
          refine own_go (fun _ k => XS.ifNo X26.here hx rfl (hb hby at_101) rfl ((if0 _ _).trans (teq (by decide : (0 : Int32) = (0 : Int32))).2) k) ?_
          show own_Ends _ _ _ _ (T26.setTop (mkF mM 104 #[.val (.int p0), .val (.int p1), .val (.int (p0 &&& (3 : Int32))), .val (.ref a_HUGE_METHOD_LIMIT), .val (.int (8000 : Int32)), .val (.int (0 : Int32)), .val (.int (1 : Int32)), .val (.int (1 : Int32)), .val (.int (1 : Int32))] []))
          refine own_go (fun _ k => XS.iload X26.here hx rfl (hb hby at_104) rfl k) ?_
          show own_Ends _ _ _ _ (T26.setTop (mkF mM 106 #[.val (.int p0), .val (.int p1), .val (.int (p0 &&& (3 : Int32))), .val (.ref a_HUGE_METHOD_LIMIT), .val (.int (8000 : Int32)), .val (.int (0 : Int32)), .val (.int (1 : Int32)), .val (.int (1 : Int32)), .val (.int (1 : Int32))] [(.int (1 : Int32))]))
          refine own_go (fun _ k => XS.ifNo X26.here hx rfl (hb hby at_106) rfl ((if0 _ _).trans (feq (by decide : ¬ ((1 : Int32) = (0 : Int32)))).1) k) ?_
          show own_Ends _ _ _ _ (T26.setTop (mkF mM 109 #[.val (.int p0), .val (.int p1), .val (.int (p0 &&& (3 : Int32))), .val (.ref a_HUGE_METHOD_LIMIT), .val (.int (8000 : Int32)), .val (.int (0 : Int32)), .val (.int (1 : Int32)), .val (.int (1 : Int32)), .val (.int (1 : Int32))] []))
          refine own_go (fun _ k => XS.iload X26.here hx rfl (hb hby at_109) rfl k) ?_
          show own_Ends _ _ _ _ (T26.setTop (mkF mM 111 #[.val (.int p0), .val (.int p1), .val (.int (p0 &&& (3 : Int32))), .val (.ref a_HUGE_METHOD_LIMIT), .val (.int (8000 : Int32)), .val (.int (0 : Int32)), .val (.int (1 : Int32)), .val (.int (1 : Int32)), .val (.int (1 : Int32))] [(.int (1 : Int32))]))
          refine own_go (fun _ k => XS.iload X26.here hx rfl (hb hby at_111) rfl k) ?_
          show own_Ends _ _ _ _ (T26.setTop (mkF mM 113 #[.val (.int p0), .val (.int p1), .val (.int (p0 &&& (3 : Int32))), .val (.ref a_HUGE_METHOD_LIMIT), .val (.int (8000 : Int32)), .val (.int (0 : Int32)), .val (.int (1 : Int32)), .val (.int (1 : Int32)), .val (.int (1 : Int32))] [(.int (1 : Int32)), (.int (1 : Int32))]))
          refine own_go (fun _ k => XS.icmpNo X26.here hx rfl (hb hby at_113) rfl (teq (by decide : (1 : Int32) = (1 : Int32))).2 k) ?_
          show own_Ends _ _ _ _ (T26.setTop (mkF mM 116 #[.val (.int p0), .val (.int p1), .val (.int (p0 &&& (3 : Int32))), .val (.ref a_HUGE_METHOD_LIMIT), .val (.int (8000 : Int32)), .val (.int (0 : Int32)), .val (.int (1 : Int32)), .val (.int (1 : Int32)), .val (.int (1 : Int32))] []))
          refine own_go (fun _ k => XS.iconst X26.here hx rfl (hb hby at_116) k) ?_
          show own_Ends _ _ _ _ (T26.setTop (mkF mM 117 #[.val (.int p0), .val (.int p1), .val (.int (p0 &&& (3 : Int32))), .val (.ref a_HUGE_METHOD_LIMIT), .val (.int (8000 : Int32)), .val (.int (0 : Int32)), .val (.int (1 : Int32)), .val (.int (1 : Int32)), .val (.int (1 : Int32))] [(.int (1 : Int32))]))
          refine own_go (fun _ k => XS.goto X26.here hx rfl (pc0 := 117) (pc' := 121) rfl (hb hby at_117) (by decide) (by decide) k) ?_
          show own_Ends _ _ _ _ (T26.setTop (mkF mM 121 #[.val (.int p0), .val (.int p1), .val (.int (p0 &&& (3 : Int32))), .val (.ref a_HUGE_METHOD_LIMIT), .val (.int (8000 : Int32)), .val (.int (0 : Int32)), .val (.int (1 : Int32)), .val (.int (1 : Int32)), .val (.int (1 : Int32))] [(.int (1 : Int32))]))
          exact own_retZ X26 hx (BodyLoose.notSynchronized Bd) Bd.returns rfl (hb hby at_121) (by decide) (by decide) (by rw [e26]; exact ⟨rfl, N26⟩)
        · obtain ⟨cq27, kq27, q27a, q27b, q27c⟩ := isOf hZ e24 (E_HUGE_METHOD_LIMIT.ext O0.2)
          obtain ⟨_, _, ⟨T27, Lz27, kz27, nz27⟩, -, X27, ⟨Lc27, hQ27, l27, y27, z27⟩, st27⟩ := X24.virtualBack hx (y := (⟨"com/example/warmline/warmline/core/Limit", "isExceededBy", "(I)Z"⟩ : MethodName)) (z := (⟨"com/example/warmline/warmline/core/Limit", "isExceededBy", "(I)Z"⟩ : MethodName)) hown (mvT hZ (hw _ (List.mem_of_getElem? (i := 3) rfl))) (mvT hZ (hw _ (List.mem_of_getElem? (i := 4) rfl))) (notFace_of_selects (args := #[]) (mvT hZ (hw _ (List.mem_of_getElem? (i := 6) rfl)))) (mvT hZ (hw _ (List.mem_of_getElem? (i := 6) rfl))) (mvT hZ (hw _ (List.mem_of_getElem? (i := 5) rfl))) (by decide) (backOf (W := 0) (own_exceeded l Z a0 hw [] a_HUGE_METHOD_LIMIT p1 (8000 : Int32) (0 : Int32) h0 n0 O0 F_HUGE_METHOD_LIMIT_bytes (by rw [if_neg hf81_24])) hZ (hw _ (List.mem_of_getElem? (i := 7) rfl)) (hw _ (List.mem_of_getElem? (i := 1) rfl)) (by decide) (by decide)) q27a q27c (g := (mkF mM 81 #[.val (.int p0), .val (.int p1), .val (.int (p0 &&& (3 : Int32))), .val (.ref a_HUGE_METHOD_LIMIT), .val (.int (8000 : Int32)), .val (.int (0 : Int32)), .val (.int (1 : Int32)), .unset, .unset] [(.int p1), (.ref a_HUGE_METHOD_LIMIT)])) rfl (by rw [hml]; rfl) (Steps.refl _) (argsL := [(.int p1)]) (rest := []) (lenOf own_pd0 rfl) rfl (by show 2 * 0 + _ ≤ _; exact Nat.le_of_eq rfl) (hb hby at_81) (fun _ _ => ⟨rfl, e24, (by decide : 0 + 0 ≤ _), (by decide : 0 + 0 ≤ _)⟩)
          dsimp only [Pt.U, Pt.locs, Pt.cells, Pt.slots] at X27 l27 y27 z27 st27 hQ27
          subst l27 y27 z27
          obtain ⟨rfl, Nq27, e27⟩ := hQ27
          have N27 := Fr.app N24 Nq27
          refine own_tr st27 ?_
          show own_Ends _ _ _ _ (T27.setTop (mkF mM 84 #[.val (.int p0), .val (.int p1), .val (.int (p0 &&& (3 : Int32))), .val (.ref a_HUGE_METHOD_LIMIT), .val (.int (8000 : Int32)), .val (.int (0 : Int32)), .val (.int (1 : Int32)), .unset, .unset] [(.int (0 : Int32))]))
          refine own_go (fun _ k => XS.istore X27.here hx rfl (hb hby at_84) rfl (l' := #[.val (.int p0), .val (.int p1), .val (.int (p0 &&& (3 : Int32))), .val (.ref a_HUGE_METHOD_LIMIT), .val (.int (8000 : Int32)), .val (.int (0 : Int32)), .val (.int (1 : Int32)), .val (.int (0 : Int32)), .unset]) rfl k) ?_
          show own_Ends _ _ _ _ (T27.setTop (mkF mM 86 #[.val (.int p0), .val (.int p1), .val (.int (p0 &&& (3 : Int32))), .val (.ref a_HUGE_METHOD_LIMIT), .val (.int (8000 : Int32)), .val (.int (0 : Int32)), .val (.int (1 : Int32)), .val (.int (0 : Int32)), .unset] []))
          refine own_go (fun _ k => XS.iloadN X27.here hx rfl (hb hby at_86) rfl k) ?_
          show own_Ends _ _ _ _ (T27.setTop (mkF mM 87 #[.val (.int p0), .val (.int p1), .val (.int (p0 &&& (3 : Int32))), .val (.ref a_HUGE_METHOD_LIMIT), .val (.int (8000 : Int32)), .val (.int (0 : Int32)), .val (.int (1 : Int32)), .val (.int (0 : Int32)), .unset] [(.int p1)]))
          refine own_go (fun _ k => XS.iload X27.here hx rfl (hb hby at_87) rfl k) ?_
          show own_Ends _ _ _ _ (T27.setTop (mkF mM 89 #[.val (.int p0), .val (.int p1), .val (.int (p0 &&& (3 : Int32))), .val (.ref a_HUGE_METHOD_LIMIT), .val (.int (8000 : Int32)), .val (.int (0 : Int32)), .val (.int (1 : Int32)), .val (.int (0 : Int32)), .unset] [(.int (8000 : Int32)), (.int p1)]))
          refine own_go (fun _ k => XS.icmpYes X27.here hx rfl (pc0 := 89) (pc' := 96) rfl (hb hby at_89) rfl (flt hf81_24).2.2.2 (by decide) (by decide) k) ?_
          show own_Ends _ _ _ _ (T27.setTop (mkF mM 96 #[.val (.int p0), .val (.int p1), .val (.int (p0 &&& (3 : Int32))), .val (.ref a_HUGE_METHOD_LIMIT), .val (.int (8000 : Int32)), .val (.int (0 : Int32)), .val (.int (1 : Int32)), .val (.int (0 : Int32)), .unset] []))
          refine own_go (fun _ k => XS.iconst X27.here hx rfl (hb hby at_96) k) ?_
          show own_Ends _ _ _ _ (T27.setTop (mkF mM 97 #[.val (.int p0), .val (.int p1), .val (.int (p0 &&& (3 : Int32))), .val (.ref a_HUGE_METHOD_LIMIT), .val (.int (8000 : Int32)), .val (.int (0 : Int32)), .val (.int (1 : Int32)), .val (.int (0 : Int32)), .unset] [(.int (0 : Int32))]))
          refine own_go (fun _ k => XS.istore X27.here hx rfl (hb hby at_97) rfl (l' := #[.val (.int p0), .val (.int p1), .val (.int (p0 &&& (3 : Int32))), .val (.ref a_HUGE_METHOD_LIMIT), .val (.int (8000 : Int32)), .val (.int (0 : Int32)), .val (.int (1 : Int32)), .val (.int (0 : Int32)), .val (.int (0 : Int32))]) rfl k) ?_
          show own_Ends _ _ _ _ (T27.setTop (mkF mM 99 #[.val (.int p0), .val (.int p1), .val (.int (p0 &&& (3 : Int32))), .val (.ref a_HUGE_METHOD_LIMIT), .val (.int (8000 : Int32)), .val (.int (0 : Int32)), .val (.int (1 : Int32)), .val (.int (0 : Int32)), .val (.int (0 : Int32))] []))
          refine own_go (fun _ k => XS.iload X27.here hx rfl (hb hby at_99) rfl k) ?_
          show own_Ends _ _ _ _ (T27.setTop (mkF mM 101 #[.val (.int p0), .val (.int p1), .val (.int (p0 &&& (3 : Int32))), .val (.ref a_HUGE_METHOD_LIMIT), .val (.int (8000 : Int32)), .val (.int (0 : Int32)), .val (.int (1 : Int32)), .val (.int (0 : Int32)), .val (.int (0 : Int32))] [(.int (0 : Int32))]))
          refine own_go (fun _ k => XS.ifNo X27.here hx rfl (hb hby at_101) rfl ((if0 _ _).trans (teq (by decide : (0 : Int32) = (0 : Int32))).2) k) ?_
          show own_Ends _ _ _ _ (T27.setTop (mkF mM 104 #[.val (.int p0), .val (.int p1), .val (.int (p0 &&& (3 : Int32))), .val (.ref a_HUGE_METHOD_LIMIT), .val (.int (8000 : Int32)), .val (.int (0 : Int32)), .val (.int (1 : Int32)), .val (.int (0 : Int32)), .val (.int (0 : Int32))] []))
          refine own_go (fun _ k => XS.iload X27.here hx rfl (hb hby at_104) rfl k) ?_
          show own_Ends _ _ _ _ (T27.setTop (mkF mM 106 #[.val (.int p0), .val (.int p1), .val (.int (p0 &&& (3 : Int32))), .val (.ref a_HUGE_METHOD_LIMIT), .val (.int (8000 : Int32)), .val (.int (0 : Int32)), .val (.int (1 : Int32)), .val (.int (0 : Int32)), .val (.int (0 : Int32))] [(.int (1 : Int32))]))
          refine own_go (fun _ k => XS.ifNo X27.here hx rfl (hb hby at_106) rfl ((if0 _ _).trans (feq (by decide : ¬ ((1 : Int32) = (0 : Int32)))).1) k) ?_
          show own_Ends _ _ _ _ (T27.setTop (mkF mM 109 #[.val (.int p0), .val (.int p1), .val (.int (p0 &&& (3 : Int32))), .val (.ref a_HUGE_METHOD_LIMIT), .val (.int (8000 : Int32)), .val (.int (0 : Int32)), .val (.int (1 : Int32)), .val (.int (0 : Int32)), .val (.int (0 : Int32))] []))
          refine own_go (fun _ k => XS.iload X27.here hx rfl (hb hby at_109) rfl k) ?_
          show own_Ends _ _ _ _ (T27.setTop (mkF mM 111 #[.val (.int p0), .val (.int p1), .val (.int (p0 &&& (3 : Int32))), .val (.ref a_HUGE_METHOD_LIMIT), .val (.int (8000 : Int32)), .val (.int (0 : Int32)), .val (.int (1 : Int32)), .val (.int (0 : Int32)), .val (.int (0 : Int32))] [(.int (0 : Int32))]))
          refine own_go (fun _ k => XS.iload X27.here hx rfl (hb hby at_111) rfl k) ?_
          show own_Ends _ _ _ _ (T27.setTop (mkF mM 113 #[.val (.int p0), .val (.int p1), .val (.int (p0 &&& (3 : Int32))), .val (.ref a_HUGE_METHOD_LIMIT), .val (.int (8000 : Int32)), .val (.int (0 : Int32)), .val (.int (1 : Int32)), .val (.int (0 : Int32)), .val (.int (0 : Int32))] [(.int (0 : Int32)), (.int (0 : Int32))]))
          refine own_go (fun _ k => XS.icmpNo X27.here hx rfl (hb hby at_113) rfl (teq (by decide : (0 : Int32) = (0 : Int32))).2 k) ?_
          show own_Ends _ _ _ _ (T27.setTop (mkF mM 116 #[.val (.int p0), .val (.int p1), .val (.int (p0 &&& (3 : Int32))), .val (.ref a_HUGE_METHOD_LIMIT), .val (.int (8000 : Int32)), .val (.int (0 : Int32)), .val (.int (1 : Int32)), .val (.int (0 : Int32)), .val (.int (0 : Int32))] []))
          refine own_go (fun _ k => XS.iconst X27.here hx rfl (hb hby at_116) k) ?_
          show own_Ends _ _ _ _ (T27.setTop (mkF mM 117 #[.val (.int p0), .val (.int p1), .val (.int (p0 &&& (3 : Int32))), .val (.ref a_HUGE_METHOD_LIMIT), .val (.int (8000 : Int32)), .val (.int (0 : Int32)), .val (.int (1 : Int32)), .val (.int (0 : Int32)), .val (.int (0 : Int32))] [(.int (1 : Int32))]))
          refine own_go (fun _ k => XS.goto X27.here hx rfl (pc0 := 117) (pc' := 121) rfl (hb hby at_117) (by decide) (by decide) k) ?_
          show own_Ends _ _ _ _ (T27.setTop (mkF mM 121 #[.val (.int p0), .val (.int p1), .val (.int (p0 &&& (3 : Int32))), .val (.ref a_HUGE_METHOD_LIMIT), .val (.int (8000 : Int32)), .val (.int (0 : Int32)), .val (.int (1 : Int32)), .val (.int (0 : Int32)), .val (.int (0 : Int32))] [(.int (1 : Int32))]))
          exact own_retZ X27 hx (BodyLoose.notSynchronized Bd) Bd.returns rfl (hb hby at_121) (by decide) (by decide) (by rw [e27]; exact ⟨rfl, N27⟩)
set_option maxRecDepth 65536 in
set_option maxHeartbeats 40000000 in
theorem comes_1 {Post : Tables → Env → Array Value → State → Outcome → State → Prop} (hpost : ∀ tb e args s v u, (limb_1_1.after args s (.returned v) u = true ∧ limb_1_2.after args s (.returned v) u = true ∧ True) → FrameEnd s (.returned v) u (Jvm.fieldLocs frame_1_writes args s ++ Jvm.arrayLocs frame_1_arrays args s ++ Jvm.staticLocs frame_1_statics s) 0 0 → Post tb e args s (.returned v) u) :
    ArmFor flags0 classFile x code maxLocals ret World_1 tables_1 room_1 Calls_1 rest_1 Pre_1 Post := by
  intro l hfl _ _ p e ha hc hk s m args below hf hA hF happ hP
  obtain ⟨hcalls, hrest, hpre⟩ := hP
  obtain ⟨-, -, -, hnamed, -, -, -, hat⟩ := (Spec.applies_iff hf).mp happ
  obtain ⟨hg, hn⟩ := and_e (Cond.before_iff.mp (show (Jvm.Cond.and given_1 narrow_1).before args s = true from hpre))
  obtain ⟨hg0, hr0⟩ := and_e hg
  obtain ⟨hg1, hg2⟩ := and_e hr0
  obtain ⟨w0, w1, rfl⟩ : ∃ w0 w1 : Value, args = #[w0, w1] := by
    have hs : args.size = 2 := by simpa [Cond.value, given_1] using hg0
    obtain ⟨L⟩ := args
    match L, hs with
    | [w0, w1], _ => exact ⟨w0, w1, rfl⟩
  have hw := fun d (hd : d ∈ tables_1) => atoms_spec (ws := Jvm.Cond.code x code maxLocals ret :: tables_1) hat d (List.mem_cons_of_mem _ hd)
  have hfit : Fit s := fun {y c} hc i hi => by
    obtain ⟨ha, rfl⟩ := Array.getElem?_eq_some_iff.mp hc
    have q := List.all_eq_true.mp ((Array.all_eq_true_iff_forall_mem.mp hF) _ (Array.getElem_mem ha)) i (List.mem_range.mpr hi)
    simpa [Array.getElem?_eq_getElem hi] using q
  obtain ⟨i0, ei0⟩ := is_v hg1
  obtain rfl : w0 = (.int i0) := Option.some.inj ei0
  obtain ⟨i1, ei1⟩ := is_v hg2
  obtain rfl : w1 = (.int i1) := Option.some.inj ei1
  obtain ⟨hn0, hm0⟩ := and_e hn
  obtain ⟨a_MAX_INLINE_SIZE, ev_MAX_INLINE_SIZE⟩ := exa_v hn0
  have S_MAX_INLINE_SIZE : Sta s s.heap "com/example/warmline/warmline/core/Limit" "MAX_INLINE_SIZE" "Lcom/example/warmline/warmline/core/Limit;" (.ref a_MAX_INLINE_SIZE) := Sta.start ev_MAX_INLINE_SIZE (Or.inr ⟨(hw _ (List.mem_of_getElem? (i := 1) rfl)), (hw _ (List.mem_of_getElem? (i := 2) rfl))⟩)
  have E_MAX_INLINE_SIZE : Exa s s.heap a_MAX_INLINE_SIZE "com/example/warmline/warmline/core/Limit" := Exa.start ev_MAX_INLINE_SIZE hn0
  obtain ⟨hn1, hm1⟩ := and_e hm0
  have F_MAX_INLINE_SIZE_bytes : Fld s s.heap a_MAX_INLINE_SIZE "com/example/warmline/warmline/core/Limit" "bytes" "I" (.int (35 : Int32)) := own_fldI ev_MAX_INLINE_SIZE hn1
  obtain ⟨hn2, hm2⟩ := and_e hm1
  obtain ⟨a_C1_MAX_INLINE_SIZE, ev_C1_MAX_INLINE_SIZE⟩ := exa_v hn2
  have S_C1_MAX_INLINE_SIZE : Sta s s.heap "com/example/warmline/warmline/core/Limit" "C1_MAX_INLINE_SIZE" "Lcom/example/warmline/warmline/core/Limit;" (.ref a_C1_MAX_INLINE_SIZE) := Sta.start ev_C1_MAX_INLINE_SIZE (Or.inr ⟨(hw _ (List.mem_of_getElem? (i := 1) rfl)), (hw _ (List.mem_of_getElem? (i := 11) rfl))⟩)
  have E_C1_MAX_INLINE_SIZE : Exa s s.heap a_C1_MAX_INLINE_SIZE "com/example/warmline/warmline/core/Limit" := Exa.start ev_C1_MAX_INLINE_SIZE hn2
  obtain ⟨hn3, hm3⟩ := and_e hm2
  have F_C1_MAX_INLINE_SIZE_bytes : Fld s s.heap a_C1_MAX_INLINE_SIZE "com/example/warmline/warmline/core/Limit" "bytes" "I" (.int (35 : Int32)) := own_fldI ev_C1_MAX_INLINE_SIZE hn3
  obtain ⟨hn4, hm4⟩ := and_e hm3
  obtain ⟨a_FREQ_INLINE_SIZE, ev_FREQ_INLINE_SIZE⟩ := exa_v hn4
  have S_FREQ_INLINE_SIZE : Sta s s.heap "com/example/warmline/warmline/core/Limit" "FREQ_INLINE_SIZE" "Lcom/example/warmline/warmline/core/Limit;" (.ref a_FREQ_INLINE_SIZE) := Sta.start ev_FREQ_INLINE_SIZE (Or.inr ⟨(hw _ (List.mem_of_getElem? (i := 1) rfl)), (hw _ (List.mem_of_getElem? (i := 13) rfl))⟩)
  have E_FREQ_INLINE_SIZE : Exa s s.heap a_FREQ_INLINE_SIZE "com/example/warmline/warmline/core/Limit" := Exa.start ev_FREQ_INLINE_SIZE hn4
  obtain ⟨hn5, hm5⟩ := and_e hm4
  have F_FREQ_INLINE_SIZE_bytes : Fld s s.heap a_FREQ_INLINE_SIZE "com/example/warmline/warmline/core/Limit" "bytes" "I" (.int (325 : Int32)) := own_fldI ev_FREQ_INLINE_SIZE hn5
  obtain ⟨hn6, hm6⟩ := and_e hm5
  obtain ⟨a_HUGE_METHOD_LIMIT, ev_HUGE_METHOD_LIMIT⟩ := exa_v hn6
  have S_HUGE_METHOD_LIMIT : Sta s s.heap "com/example/warmline/warmline/core/Limit" "HUGE_METHOD_LIMIT" "Lcom/example/warmline/warmline/core/Limit;" (.ref a_HUGE_METHOD_LIMIT) := Sta.start ev_HUGE_METHOD_LIMIT (Or.inr ⟨(hw _ (List.mem_of_getElem? (i := 1) rfl)), (hw _ (List.mem_of_getElem? (i := 15) rfl))⟩)
  have E_HUGE_METHOD_LIMIT : Exa s s.heap a_HUGE_METHOD_LIMIT "com/example/warmline/warmline/core/Limit" := Exa.start ev_HUGE_METHOD_LIMIT hn6
  have F_HUGE_METHOD_LIMIT_bytes : Fld s s.heap a_HUGE_METHOD_LIMIT "com/example/warmline/warmline/core/Limit" "bytes" "I" (.int (8000 : Int32)) := own_fldI ev_HUGE_METHOD_LIMIT hm6
  obtain ⟨n, o, h1, h2, h3, _, L, rfl, ⟨rfl, N⟩, hq⟩ := own_law l s _ hw tables_1 i0 i1 a_MAX_INLINE_SIZE a_C1_MAX_INLINE_SIZE a_FREQ_INLINE_SIZE a_HUGE_METHOD_LIMIT s.heap s.heap.size (Old.start s) S_MAX_INLINE_SIZE E_MAX_INLINE_SIZE F_MAX_INLINE_SIZE_bytes S_C1_MAX_INLINE_SIZE E_C1_MAX_INLINE_SIZE F_C1_MAX_INLINE_SIZE_bytes S_FREQ_INLINE_SIZE E_FREQ_INLINE_SIZE F_FREQ_INLINE_SIZE_bytes S_HUGE_METHOD_LIMIT E_HUGE_METHOD_LIMIT F_HUGE_METHOD_LIMIT_bytes p e ha hc hk s m _ below hf ((Spec.applies_iff_loose hf).mp happ).1 ⟨rfl, State.Warmed39.refl s, rfl⟩ trivial
  refine ⟨n, _, h1, h2, h3, hpost _ _ _ _ _ _ ⟨Cond.after_iff.mpr rfl, Cond.after_iff.mpr (eq_i res_at (Term.int_eval (1)) rfl), trivial⟩ ⟨hq.1, hq.2.1, (hq.2.2.sift fun y hy => Or.inr (N y hy)).mono (by decide) (by decide)⟩⟩
theorem main_1_1 : Claimed_1_1 := comes_1 fun _ _ _ _ _ _ h hF => ⟨h.1, hF⟩
theorem main_1_2 : Claimed_1_2 := comes_1 fun _ _ _ _ _ _ h hF => ⟨h.2.1, hF⟩
end Jvm.Pilot.@@N@@
namespace Jvm.Pilot.@@N@@
open Jvm Jvm.ClassFile Sem Op Lib Jvm.Free Jvm.Stand Jvm.Pilot.@@N@@.Jvm.D
/-! MADE BY PROGRAM (witnessworld.py) out of the Statement's table words and the real class files: 12 classes; the members and pool entries that the words name. The judged class is class 1, her method 1. -/
namespace start1
open Jvm.ClassFile
def u (s : String) : CpInfo := .utf8 (stringToUtf16 s)
/-- a pool by its gaps: so many unusable entries, then the entry; so many at the end -/
def gap : Nat → List CpInfo → List CpInfo
  | 0, r => r
  | n + 1, r => .unusable :: gap n r
def poolList (es : List (Nat × CpInfo)) (last : Nat) : List CpInfo := es.foldr (fun e r => gap e.1 (e.2 :: r)) (gap last [])
def pool (es : List (Nat × CpInfo)) (last : Nat) : Array CpInfo := ⟨poolList es last⟩
def fileOf (pool : Array CpInfo) (this : Nat) (attrs : Array Attribute := #[]) (ms : Array MethodInfo := #[]) (fl : Nat := 33) (sup : Nat := 0) (ifs : Array Nat := #[]) (fds : Array FieldInfo := #[]) : ClassFile where
  minorVersion := 0
  majorVersion := 65
  constantPool := pool
  accessFlags := fl
  thisClass := this
  superClass := sup
  interfaces := ifs
  fields := fds
  methods := ms
  attributes := attrs
def plain (name : String) (sup : Option ClassId) : Class where
  name := name
  kind := .ordinary
  loader := none
  accessFlags := 33
  super := sup
  interfaces := #[]
  cf := none
  fields := #[]
  methods := #[]
  instanceTypes := #[]
  staticTypes := #[]
  resolved := #[]
  callSites := []
  init := .initialized
  statics := none
  mirror := none

def pool0 : Array CpInfo := pool [(5, u "<init>"), (0, u "()V"), (1, .class_ 10), (1, u "java/lang/Object")] 113

def k0m0 : Method := { name := "<init>", desc := "()V", sig := { parameters := [], returnType := none }, accessFlags := 1, code := none }
/-- java/lang/Object -/
def k0 : Class := { plain "java/lang/Object" none with
  accessFlags := 33
  interfaces := #[]
  cf := some (fileOf pool0 8 #[] #[{ accessFlags := 1, nameIndex := 5, descriptorIndex := 6, attributes := #[] }] 33 0 #[] #[])
  fields := #[]
  methods := #[k0m0]
  instanceTypes := #[]
  staticTypes := #[]
  resolved := Array.replicate 124 none
  statics := none }

def pool1 : Array CpInfo := pool [(2, .class_ 4), (1, u "java/lang/Object"), (0, u "<init>"), (0, u "()V"), (0, .fieldref 8 9), (0, .class_ 10), (0, .nameAndType 11 12), (0, u "com/example/warmline/warmline/core/Limit"), (0, u "MAX_INLINE_SIZE"), (0, u "Lcom/example/warmline/warmline/core/Limit;"), (0, .fieldref 8 14), (0, .nameAndType 15 12), (0, u "FREQ_INLINE_SIZE"), (0, .fieldref 8 17), (0, .nameAndType 18 12), (0, u "C1_MAX_INLINE_SIZE"), (0, .fieldref 8 20), (0, .nameAndType 21 12), (0, u "HUGE_METHOD_LIMIT"), (0, .methodref 8 23), (0, .nameAndType 24 25), (0, u "isExceededBy"), (0, u "(I)Z"), (0, .class_ 27), (0, u "com/example/warmline/warmline/core/LimitIsExceededByPinLaw"), (2, u "law"), (0, u "(II)Z")] 3

def k1m0 : Method := { name := "<init>", desc := "()V", sig := { parameters := [], returnType := none }, accessFlags := 1, code := none }
def k1c1 : Code := { maxStack := 3, maxLocals := 9, code := code, exceptionTable := #[], attributes := #[] }
def k1m1 : Method := { name := "law", desc := "(II)Z", sig := { parameters := [.int, .int], returnType := some .boolean }, accessFlags := 9, code := some k1c1 }
/-- com/example/warmline/warmline/core/LimitIsExceededByPinLaw -/
def k1 : Class := { plain "com/example/warmline/warmline/core/LimitIsExceededByPinLaw" (some 0) with
  accessFlags := 49
  interfaces := #[]
  cf := some (fileOf pool1 26 #[] #[{ accessFlags := 1, nameIndex := 5, descriptorIndex := 6, attributes := #[] }, { accessFlags := 9, nameIndex := 30, descriptorIndex := 31, attributes := #[] }] 49 2 #[] #[])
  fields := #[]
  methods := #[k1m0, k1m1]
  instanceTypes := #[]
  staticTypes := #[]
  resolved := Array.replicate 35 none
  statics := none }

def pool2 : Array CpInfo := pool [(1, .class_ 2), (0, u "java/lang/constant/Constable"), (0, .class_ 4), (0, u "java/lang/Object")] 6

/-- java/lang/constant/Constable -/
def k2 : Class := { plain "java/lang/constant/Constable" (some 0) with
  accessFlags := 1537
  interfaces := #[]
  cf := some (fileOf pool2 1 #[] #[] 1537 3 #[] #[])
  fields := #[]
  methods := #[]
  instanceTypes := #[]
  staticTypes := #[]
  resolved := Array.replicate 11 none
  statics := none }

def pool3 : Array CpInfo := pool [(1, .class_ 2), (0, u "java/lang/Comparable"), (0, .class_ 4), (0, u "java/lang/Object")] 7

/-- java/lang/Comparable -/
def k3 : Class := { plain "java/lang/Comparable" (some 0) with
  accessFlags := 1537
  interfaces := #[]
  cf := some (fileOf pool3 1 #[] #[] 1537 3 #[] #[])
  fields := #[]
  methods := #[]
  instanceTypes := #[]
  staticTypes := #[]
  resolved := Array.replicate 12 none
  statics := none }

def pool4 : Array CpInfo := pool [(1, .class_ 2), (0, u "java/io/Serializable"), (0, .class_ 4), (0, u "java/lang/Object")] 2

/-- java/io/Serializable -/
def k4 : Class := { plain "java/io/Serializable" (some 0) with
  accessFlags := 1537
  interfaces := #[]
  cf := some (fileOf pool4 1 #[] #[] 1537 3 #[] #[])
  fields := #[]
  methods := #[]
  instanceTypes := #[]
  staticTypes := #[]
  resolved := Array.replicate 7 none
  statics := none }

def pool5 : Array CpInfo := pool [(2, .class_ 4), (1, u "java/lang/Enum"), (0, u "name"), (0, u "Ljava/lang/String;"), (2, u "ordinal"), (0, u "I"), (1, .class_ 14), (1, u "java/lang/Object"), (4, u "hash"), (86, .class_ 108), (1, u "java/lang/Enum$EnumDesc"), (2, .class_ 112), (0, u "java/lang/constant/Constable"), (0, .class_ 114), (0, u "java/lang/Comparable"), (0, .class_ 116), (0, u "java/io/Serializable")] 87

/-- java/lang/Enum -/
def k5 : Class := { plain "java/lang/Enum" (some 0) with
  accessFlags := 1057
  interfaces := #[2, 3, 4]
  cf := some (fileOf pool5 2 #[.nestMembers #[106]] #[] 1057 12 #[111, 113, 115] #[{ accessFlags := 18, nameIndex := 5, descriptorIndex := 6, attributes := #[] }, { accessFlags := 18, nameIndex := 9, descriptorIndex := 10, attributes := #[] }, { accessFlags := 2, nameIndex := 19, descriptorIndex := 10, attributes := #[] }])
  fields := #[{ name := "name", type := (.object "java/lang/String"), accessFlags := 18, slot := 0, constantValue := 0 }, { name := "ordinal", type := .int, accessFlags := 18, slot := 1, constantValue := 0 }, { name := "hash", type := .int, accessFlags := 2, slot := 2, constantValue := 0 }]
  methods := #[]
  instanceTypes := #[(.object "java/lang/String"), .int, .int]
  staticTypes := #[]
  resolved := Array.replicate 204 none
  statics := none }

def pool6 : Array CpInfo := pool [(1, .class_ 2), (0, u "com/example/warmline/warmline/core/Limit"), (2, u "MAX_INLINE_SIZE"), (0, u "Lcom/example/warmline/warmline/core/Limit;"), (2, u "FREQ_INLINE_SIZE"), (2, u "C1_MAX_INLINE_SIZE"), (2, u "HUGE_METHOD_LIMIT"), (2, u "$VALUES"), (0, u "[Lcom/example/warmline/warmline/core/Limit;"), (6, .class_ 28), (1, u "java/lang/Enum"), (8, u "flag"), (0, u "Ljava/lang/String;"), (0, .fieldref 1 40), (0, .nameAndType 41 42), (0, u "bytes"), (0, u "I"), (2, u "isExceededBy"), (0, u "(I)Z")] 46

def k6c0 : Code := { maxStack := 2, maxLocals := 2, code := prog_24_method_6_code, exceptionTable := #[], attributes := #[] }
def k6m0 : Method := { name := "isExceededBy", desc := "(I)Z", sig := { parameters := [.int], returnType := some .boolean }, accessFlags := 1, code := some k6c0 }
/-- com/example/warmline/warmline/core/Limit -/
def k6 : Class := { plain "com/example/warmline/warmline/core/Limit" (some 5) with
  accessFlags := 16433
  interfaces := #[]
  cf := some (fileOf pool6 1 #[] #[{ accessFlags := 1, nameIndex := 45, descriptorIndex := 46, attributes := #[] }] 16433 26 #[] #[{ accessFlags := 16409, nameIndex := 5, descriptorIndex := 6, attributes := #[] }, { accessFlags := 16409, nameIndex := 9, descriptorIndex := 6, attributes := #[] }, { accessFlags := 16409, nameIndex := 12, descriptorIndex := 6, attributes := #[] }, { accessFlags := 16409, nameIndex := 15, descriptorIndex := 6, attributes := #[] }, { accessFlags := 18, nameIndex := 37, descriptorIndex := 38, attributes := #[] }, { accessFlags := 18, nameIndex := 41, descriptorIndex := 42, attributes := #[] }, { accessFlags := 4122, nameIndex := 18, descriptorIndex := 19, attributes := #[] }])
  fields := #[{ name := "MAX_INLINE_SIZE", type := (.object "com/example/warmline/warmline/core/Limit"), accessFlags := 16409, slot := 0, constantValue := 0 }, { name := "FREQ_INLINE_SIZE", type := (.object "com/example/warmline/warmline/core/Limit"), accessFlags := 16409, slot := 1, constantValue := 0 }, { name := "C1_MAX_INLINE_SIZE", type := (.object "com/example/warmline/warmline/core/Limit"), accessFlags := 16409, slot := 2, constantValue := 0 }, { name := "HUGE_METHOD_LIMIT", type := (.object "com/example/warmline/warmline/core/Limit"), accessFlags := 16409, slot := 3, constantValue := 0 }, { name := "flag", type := (.object "java/lang/String"), accessFlags := 18, slot := 3, constantValue := 0 }, { name := "bytes", type := .int, accessFlags := 18, slot := 4, constantValue := 0 }, { name := "$VALUES", type := (.array (.object "com/example/warmline/warmline/core/Limit")), accessFlags := 4122, slot := 4, constantValue := 0 }]
  methods := #[k6m0]
  instanceTypes := #[(.object "java/lang/String"), .int, .int, (.object "java/lang/String"), .int]
  staticTypes := #[(.object "com/example/warmline/warmline/core/Limit"), (.object "com/example/warmline/warmline/core/Limit"), (.object "com/example/warmline/warmline/core/Limit"), (.object "com/example/warmline/warmline/core/Limit"), (.array (.object "com/example/warmline/warmline/core/Limit"))]
  resolved := Array.replicate 93 none
  statics := some 0 }

def pool7 : Array CpInfo := pool [(1, u "java/lang/Cloneable"), (0, .class_ 1), (0, u "java/lang/Object"), (0, .class_ 3)] 3

/-- java/lang/Cloneable -/
def k7 : Class := { plain "java/lang/Cloneable" (some 0) with
  accessFlags := 1537
  interfaces := #[]
  cf := some (fileOf pool7 2 #[] #[] 1537 4 #[] #[])
  fields := #[]
  methods := #[]
  instanceTypes := #[]
  staticTypes := #[]
  resolved := Array.replicate 8 none
  statics := none }

/-- the primitive byte -/
def k8 : Class := { plain "byte" none with kind := .primitive 'B', accessFlags := 0x411 }
/-- [B -/
def k9 : Class := { plain "[B" (some 0) with kind := .array 8 .byte, interfaces := #[7, 4], accessFlags := 1041 }

/-- the primitive int -/
def k10 : Class := { plain "int" none with kind := .primitive 'I', accessFlags := 0x411 }
/-- [I -/
def k11 : Class := { plain "[I" (some 0) with kind := .array 10 .int, interfaces := #[7, 4], accessFlags := 1041 }

def heap : Heap := #[{ cls := 6, slots := #[.ref 1, .ref 3, .ref 2, .ref 4, .null], vm := .statics 6 },
  { cls := 6, slots := #[.null, .int 0, .int 0, .null, .int 35], vm := .none },
  { cls := 6, slots := #[.null, .int 0, .int 0, .null, .int 35], vm := .none },
  { cls := 6, slots := #[.null, .int 0, .int 0, .null, .int 325], vm := .none },
  { cls := 6, slots := #[.null, .int 0, .int 0, .null, .int 8000], vm := .none }]
def classes : Array Class := #[k0, k1, k2, k3, k4, k5, k6, k7, k8, k9, k10, k11]
def interned : List (Array UInt16 × Addr) := []
def slotsUsed : Nat := 25
def theMethod : MethodId := ⟨1, 1⟩
def args0 : Array Value := #[.int 1, .int 7]
def aboutOver (below : List Frame) : State where
  vm := { classes := classes, interned := interned.toArray }
  heap := heap
  slotsUsed := slotsUsed
  threads := #[{ frames := .invoking theMethod args0 :: below }]
def below0 : List Frame := [.native { method := ⟨0, 0⟩, args := #[] }]
def about1 : State := aboutOver below0
def p0 : Program := .bare "" "" ""
def e0 : Env := launch0.env 0 0 0
theorem w_frames : about1.frames = Frame.invoking theMethod args0 :: below0 := rfl
set_option maxRecDepth 65536 in
theorem w_args : argsFit about1.vm theMethod args0 = true := by decide +kernel
set_option maxRecDepth 65536 in
theorem w_heap : heapFits about1 = true := by decide +kernel
set_option maxRecDepth 65536 in
theorem w_runnable : about1.curStatus? = some .runnable := by decide +kernel
set_option maxRecDepth 65536 in
theorem w_alone : about1.alone = true := by decide +kernel
set_option maxRecDepth 65536 in
theorem w_named : about1.methodNamed? x = some theMethod := by decide +kernel
set_option maxRecDepth 65536 in
theorem w_hears : about1.hears theMethod below0 = true := by decide +kernel
set_option maxRecDepth 65536 in
theorem w_ripe : about1.ripe theMethod args0 below0 = true := by decide +kernel
theorem w_running : about1.status = .running := rfl
set_option maxRecDepth 65536 in
theorem w_room : about1.hasRoom e0.platform room_1 = true :=
  launch0.hasRoom_least _ room_1 (by decide +kernel) (by decide +kernel) (by decide +kernel) (by decide +kernel) (by decide +kernel) (by decide +kernel)
theorem allAtoms_all (ts : List Jvm.Cond) (a : Array Jvm.Value) (st : Jvm.State) : (allAtoms ts).before a st = ts.all (fun c => c.before a st) := by
  induction ts with
  | nil => rfl
  | cons c t ih =>
    show (Jvm.Cond.and c (allAtoms t)).before a st = _
    rw [Jvm.Cond.before_and, ih, List.all_cons]
def words1 : List Jvm.Cond := Jvm.Cond.code x code maxLocals ret :: tables_1
/-- a 'code' word, met by the world's own term for the bytes: nothing is compared byte by byte -/
theorem code_word {y : MethodName} {bytes : ByteArray} {mx : Nat} {rt : Option FieldType} {a : Array Value} {s : State} {m : MethodId} {meth : Method} {c : Code} (h1 : s.methodNamed? y = some m) (h2 : s.vm.method? m = some meth) (h3 : meth.code = some c) (h4 : c.code = bytes)
    (h5 : (c.maxLocals == mx && c.exceptionTable.isEmpty && decide (c.maxStack ≤ mostOperands) && decide (meth.sig.returnType = rt) && !meth.locks && decide (parseMethodDescriptor y.desc = some meth.sig)) = true) : (Jvm.Cond.code y bytes mx rt).before a s = true := by
  simp only [Bool.and_eq_true, beq_iff_eq, Bool.not_eq_true', decide_eq_true_eq] at h5
  obtain ⟨⟨⟨⟨⟨g1, g2⟩, g3⟩, g4⟩, g5⟩, g6⟩ := h5
  simp [Cond.before, Cond.holds, Cond.value, h1, h2, h3, h4, g1, g2, g3, g4, g5, g6]
def isCode : Jvm.Cond → Bool
  | .code _ _ _ _ => true
  | _ => false
theorem all_split {L : List Jvm.Cond} {P : Jvm.Cond → Bool} (h1 : L.all (fun c => isCode c || P c) = true) (h2 : ∀ c ∈ L.filter isCode, P c = true) : L.all P = true := by
  refine List.all_eq_true.mpr fun c hc => ?_
  have h := List.all_eq_true.mp h1 c hc
  rcases Bool.eq_false_or_eq_true (isCode c) with hi | hi
  · exact h2 c (List.mem_filter.mpr ⟨hc, hi⟩)
  · simpa [hi] using h
set_option maxRecDepth 65536 in
theorem w_c0 : (Jvm.Cond.code x code maxLocals ret).before args0 about1 = true := code_word (m := ⟨1, 1⟩) (meth := k1m1) (c := k1c1) (by decide +kernel) rfl rfl rfl (by decide +kernel)
set_option maxRecDepth 65536 in
theorem w_c1 : (Jvm.Cond.code ({ cls := "com/example/warmline/warmline/core/Limit", name := "isExceededBy", desc := "(I)Z" } : Jvm.MethodName) prog_24_method_6_code (2 : Nat) (Option.some Jvm.ClassFile.FieldType.boolean)).before args0 about1 = true := code_word (m := ⟨6, 0⟩) (meth := k6m0) (c := k6c0) (by decide +kernel) rfl rfl rfl (by decide +kernel)
def codes1 : List Jvm.Cond := [Jvm.Cond.code x code maxLocals ret, Jvm.Cond.code ({ cls := "com/example/warmline/warmline/core/Limit", name := "isExceededBy", desc := "(I)Z" } : Jvm.MethodName) prog_24_method_6_code (2 : Nat) (Option.some Jvm.ClassFile.FieldType.boolean)]
set_option maxRecDepth 65536 in
theorem codes_eq : words1.filter isCode = codes1 := rfl
theorem w_codes : ∀ c ∈ words1.filter isCode, c.before args0 about1 = true := by
  rw [codes_eq]
  intro c hc
  simp only [codes1, List.mem_cons, List.not_mem_nil, or_false] at hc
  rcases hc with rfl | rfl
  · exact w_c0
  · exact w_c1
set_option maxRecDepth 65536 in
theorem w_t1 : words1.all (fun c => isCode c || c.before args0 about1) = true := by decide +kernel
theorem w_tables : (allAtoms (Jvm.Cond.code x code maxLocals ret :: tables_1)).before args0 about1 = true := by
  rw [allAtoms_all]
  show words1.all (fun c => c.before args0 about1) = true
  refine all_split ?_ w_codes
  rw [w_t1]
set_option maxRecDepth 65536 in
theorem w_case : (Jvm.Cond.and given_1 narrow_1).before args0 about1 = true := by decide +kernel
theorem w_applies : (headSpec (Jvm.Cond.code x code maxLocals ret :: tables_1) room_1).applies x e0.platform about1 = true :=
  (Spec.applies_iff w_frames).mpr ⟨w_running, w_runnable, w_alone, w_named, w_hears, w_ripe, w_room, w_tables⟩
theorem atStart : AtStart classFile x code maxLocals ret World_1 tables_1 room_1 Calls_1 rest_1 Pre_1 launch0 p0 e0 about1 theMethod args0 below0 :=
  ⟨lists_1, trivial, launch0.admits_env _ _ _, launch0.least_env, fairChoices_fair.cas, fairChoices_fair.clock, w_frames, w_args, w_heap, w_applies, trivial, trivial, w_case⟩
end start1
theorem witness_1 : WitnessClaimed_1 := ⟨start1.p0, start1.e0, start1.about1, start1.theMethod, start1.args0, start1.below0, start1.atStart⟩
end Jvm.Pilot.@@N@@
