import JvmDerived
import JvmDerived.Pilot.@@N@@Statement
import JvmDerived.Pilot.@@N@@Code
set_option linter.unusedVariables false
set_option linter.unusedSimpArgs false
namespace Jvm.Pilot.@@N@@
open Jvm Jvm.ClassFile Sem Op Lib Jvm.Free Jvm.Stand Jvm.LawKit Jvm.RoadKit Bundle Jvm.Pilot.@@N@@.Jvm.D
/-! own_Ends: from the state T the run ends well -/
def own_Ends (p : Program) (e : Env) (below : List Frame) (P : State → Outcome → Prop) (T : State) : Prop := ∃ U o, Steps p.tables e below T U ∧ U.status = .running ∧ Ended U below o ∧ P U o
def own_Got (s : State) (Q : Option Value → Heap → List Loc → Prop) (C N : Nat) (U : State) (o : Outcome) : Prop := ∃ v L, o = .returned v ∧ Q v U.heap L ∧ FrameEnd s o U L C N
section Own
variable {p : Program} {l : Launch} {e : Env} {R : Room} {s : State} {m : MethodId} {args : Array Value} {below : List Frame} {meth : Method} {c : Code} {T T' : State} {locs : List Loc} {cells slots : Nat} {P : State → Outcome → Prop}
theorem own_go (h : ∀ target, Steps p.tables e below T' target → Steps p.tables e below T target) (k : own_Ends p e below P T') : own_Ends p e below P T := by
  obtain ⟨U, o, h1, h2⟩ := k; exact ⟨U, o, h _ h1, h2⟩
theorem own_tr (h : Steps p.tables e below T T') (k : own_Ends p e below P T') : own_Ends p e below P T := by
  obtain ⟨U, o, h1, h2⟩ := k; exact ⟨U, o, h.trans h1, h2⟩
variable {Q : Option Value → Heap → List Loc → Prop} {C N : Nat}
theorem own_ret (X : Stand p l e R s m args below meth c T locs cells slots) (hx : p.tables.exec = Jvm.exec) (lk : meth.locks = false) {pc : Nat} {Ls : Array Slot} {w : Value} {t : FieldType} {i : Instr} {rest : List Value} (hret : meth.sig.returnType = some t) (hn : narrow t w = w)
    (hi : (i = .ireturn ∧ (t = .int ∨ t = .boolean ∨ t = .byte ∨ t = .char ∨ t = .short) ∧ ∃ z, w = .int z) ∨ (i = .lreturn ∧ t = .long ∧ ∃ z, w = .long z) ∨ (i = .dreturn ∧ t = .double ∧ ∃ z, w = .double z) ∨ (i = .freturn ∧ t = .float ∧ ∃ z, w = .float z) ∨ (i = .areturn ∧ t.isReference = true ∧ w.isRef = true))
    (hd : decode c.code pc = .ok (i, 1)) (hC : cells ≤ C) (hN : slots ≤ N) (hq : Q (some w) T.heap locs) : own_Ends p e below (own_Got s Q C N) (T.setTop (mkF m pc Ls (w :: rest))) := by
  obtain ⟨fs, hr, hrun, hended, hW, hsame⟩ := X.leave (v := some w) (fun h => by rw [hret] at h; cases h) lk
  exact ⟨_, _, retOut X hx hret hn hi hd hr, hrun, hended, _, _, rfl, hq, ⟨_, rfl⟩, hW, hsame.mono hC hN⟩
theorem own_retI (X : Stand p l e R s m args below meth c T locs cells slots) (hx : p.tables.exec = Jvm.exec) (lk : meth.locks = false) {pc : Nat} {Ls : Array Slot} {z : Int32} {rest : List Value} (hret : meth.sig.returnType = some .int)
    (hd : decode c.code pc = .ok (.ireturn, 1)) (hC : cells ≤ C) (hN : slots ≤ N) (hq : Q (some (.int z)) T.heap locs) : own_Ends p e below (own_Got s Q C N) (T.setTop (mkF m pc Ls (.int z :: rest))) :=
  own_ret X hx lk hret rfl (Or.inl ⟨rfl, Or.inl rfl, _, rfl⟩) hd hC hN hq
theorem own_retZ (X : Stand p l e R s m args below meth c T locs cells slots) (hx : p.tables.exec = Jvm.exec) (lk : meth.locks = false) {pc : Nat} {Ls : Array Slot} {z : Int32} {rest : List Value} (hret : meth.sig.returnType = some .boolean) (hn : narrow .boolean (.int z) = .int z)
    (hd : decode c.code pc = .ok (.ireturn, 1)) (hC : cells ≤ C) (hN : slots ≤ N) (hq : Q (some (.int z)) T.heap locs) : own_Ends p e below (own_Got s Q C N) (T.setTop (mkF m pc Ls (.int z :: rest))) :=
  own_ret X hx lk hret hn (Or.inl ⟨rfl, Or.inr (Or.inl rfl), _, rfl⟩) hd hC hN hq
theorem own_retJ (X : Stand p l e R s m args below meth c T locs cells slots) (hx : p.tables.exec = Jvm.exec) (lk : meth.locks = false) {pc : Nat} {Ls : Array Slot} {z : Int64} {rest : List Value} (hret : meth.sig.returnType = some .long)
    (hd : decode c.code pc = .ok (.lreturn, 1)) (hC : cells ≤ C) (hN : slots ≤ N) (hq : Q (some (.long z)) T.heap locs) : own_Ends p e below (own_Got s Q C N) (T.setTop (mkF m pc Ls (.long z :: rest))) :=
  own_ret X hx lk hret rfl (Or.inr (Or.inl ⟨rfl, rfl, _, rfl⟩)) hd hC hN hq
theorem own_retR (X : Stand p l e R s m args below meth c T locs cells slots) (hx : p.tables.exec = Jvm.exec) (lk : meth.locks = false) {pc : Nat} {Ls : Array Slot} {w : Value} {t : FieldType} {rest : List Value} (hret : meth.sig.returnType = some t) (ht : t.isReference = true) (hw : w.isRef = true)
    (hd : decode c.code pc = .ok (.areturn, 1)) (hC : cells ≤ C) (hN : slots ≤ N) (hq : Q (some w) T.heap locs) : own_Ends p e below (own_Got s Q C N) (T.setTop (mkF m pc Ls (w :: rest))) :=
  own_ret X hx lk hret (by rcases ref_cases hw with rfl | ⟨a, rfl⟩ <;> cases t <;> first | rfl | exact absurd ht (by decide)) (Or.inr (Or.inr (Or.inr (Or.inr ⟨rfl, ht, hw⟩)))) hd hC hN hq
theorem own_retV (X : Stand p l e R s m args below meth c T locs cells slots) (hx : p.tables.exec = Jvm.exec) (lk : meth.locks = false) {pc : Nat} {Ls : Array Slot} {st : List Value} (hret : meth.sig.returnType = none)
    (hd : decode c.code pc = .ok (.return_, 1)) (hC : cells ≤ C) (hN : slots ≤ N) (hq : Q none T.heap locs) : own_Ends p e below (own_Got s Q C N) (T.setTop (mkF m pc Ls [])) := by
  obtain ⟨fs, hr, hrun, hended, hW, hsame⟩ := X.leave (v := none) (fun _ => rfl) lk
  exact ⟨_, _, X.returnOut hx hret hd hr, hrun, hended, _, _, rfl, hq, ⟨_, rfl⟩, hW, hsame.mono hC hN⟩
theorem own_fldI {Z : State} {a : Addr} {av : Array Value} {t : Term} {k : Int32} {C n d : String} (ev : t.eval av Z none [] Z = some (.ref a)) (h : (Jvm.Cond.eq (.field t C n d) (.int k)).value av Z none Z [] = some true) : Fld Z Z.heap a C n d (.int k) := by
  obtain ⟨x, y, ex, ey, k1, k2⟩ := cmp_v (Or.inl h)
  cases (Term.int_eval (args := av) (first := Z) (o := none) (idx := []) (s := Z) k).symm.trans ey
  obtain ⟨z, rfl⟩ := k2
  obtain rfl : z = k := gotT (Cond.eq_ints ex (Term.int_eval k)) h
  exact Fld.start ((fld_at ev).symm.trans ex)
theorem own_fldJ {Z : State} {a : Addr} {av : Array Value} {t : Term} {k : Int64} {C n d : String} (ev : t.eval av Z none [] Z = some (.ref a)) (h : (Jvm.Cond.eq (.field t C n d) (.long k)).value av Z none Z [] = some true) : Fld Z Z.heap a C n d (.long k) := by
  obtain ⟨x, y, ex, ey, k1, k2⟩ := cmp_v (Or.inl h)
  cases (long_at (args := av) (first := Z) (o := none) (idx := []) (s := Z) k).symm.trans ey
  obtain ⟨z, rfl⟩ := k2
  obtain rfl : z = k := gotT (eq_L ex (long_at k)) h
  exact Fld.start ((fld_at ev).symm.trans ex)
theorem own_staJ {Z : State} {av : Array Value} {k : Int64} {t : Term} (h : (Jvm.Cond.eq t (.long k)).value av Z none Z [] = some true) : t.eval av Z none [] Z = some (.long k) := by
  obtain ⟨x, y, ex, ey, k1, k2⟩ := cmp_v (Or.inl h)
  cases (long_at (args := av) (first := Z) (o := none) (idx := []) (s := Z) k).symm.trans ey
  obtain ⟨z, rfl⟩ := k2
  obtain rfl : z = k := gotT (eq_L ex (long_at k)) h
  exact ex
theorem own_staI {Z : State} {av : Array Value} {k : Int32} {t : Term} (h : (Jvm.Cond.eq t (.int k)).value av Z none Z [] = some true) : t.eval av Z none [] Z = some (.int k) := by
  obtain ⟨x, y, ex, ey, k1, k2⟩ := cmp_v (Or.inl h)
  cases (Term.int_eval (args := av) (first := Z) (o := none) (idx := []) (s := Z) k).symm.trans ey
  obtain ⟨z, rfl⟩ := k2
  obtain rfl : z = k := gotT (Cond.eq_ints ex (Term.int_eval k)) h
  exact ex
end Own
theorem own_d1_0 : decode prog_70_method_8_code 0 = .ok (.lload_n 0, 1) := by decide +kernel
theorem own_d1_1 : decode prog_70_method_8_code 1 = .ok (.getstatic 182, 3) := by decide +kernel
theorem own_d1_4 : decode prog_70_method_8_code 4 = .ok (.lcmp, 1) := by decide +kernel
theorem own_d1_5 : decode prog_70_method_8_code 5 = .ok (.ifCond .lt 15, 3) := by decide +kernel
theorem own_d1_8 : decode prog_70_method_8_code 8 = .ok (.lload_n 0, 1) := by decide +kernel
theorem own_d1_9 : decode prog_70_method_8_code 9 = .ok (.getstatic 186, 3) := by decide +kernel
theorem own_d1_12 : decode prog_70_method_8_code 12 = .ok (.lcmp, 1) := by decide +kernel
theorem own_d1_13 : decode prog_70_method_8_code 13 = .ok (.ifCond .gt 7, 3) := by decide +kernel
theorem own_d1_16 : decode prog_70_method_8_code 16 = .ok (.iconst 1, 1) := by decide +kernel
theorem own_d1_17 : decode prog_70_method_8_code 17 = .ok (.goto 4, 3) := by decide +kernel
theorem own_d1_20 : decode prog_70_method_8_code 20 = .ok (.iconst 0, 1) := by decide +kernel
theorem own_d1_21 : decode prog_70_method_8_code 21 = .ok (.ireturn, 1) := by decide +kernel
theorem own_ef_own_holds (m : MethodId) (x0 : Int64) : entryFrame m #[(.long x0)] 2 = mkF m 0 #[.val (.long x0), .second] [] := by first | (simp [entryFrame, mkF, argsToLocals, Value.category]; done) | rfl
def Q_own_holds (Z : State) (q0 : Int64) (r : Int32) (h0 : Heap) (n0 : Nat) (v : Option Value) (h : Heap) (L : List Loc) : Prop := v = some (.int r) ∧ Fr n0 L ∧ h = h0
theorem own_pn_com_example_reckon_reckon_io_Timestamps : plainName "com/example/reckon/reckon/io/Timestamps" = true := by first | (simp [plainName, overriddenIn]; done) | decide +kernel
set_option maxRecDepth 65536 in
set_option maxHeartbeats 40000000 in
theorem own_holds (l : Launch) (Z : State) (a0 : Array Value) (hw : ∀ d ∈ tables_1, d.before a0 Z = true) (ws : List Jvm.Cond) (q0 : Int64) (r : Int32) (h0 : Heap) (n0 : Nat) (O0 : Old Z n0 h0) (S_EARLIEST : Sta Z Z.heap "com/example/reckon/reckon/io/Timestamps" "EARLIEST" "J" (.long (-62167219200 : Int64))) (S_LATEST : Sta Z Z.heap "com/example/reckon/reckon/io/Timestamps" "LATEST" "J" (.long (253402300799 : Int64))) (hr : r = if q0 < (-62167219200 : Int64) then 0 else if (253402300799 : Int64) < q0 then 0 else 1) :
    MetFree l (⟨"com/example/reckon/reckon/io/Timestamps", "holds", "(J)Z"⟩ : MethodName) (head1 (Jvm.Cond.code (⟨"com/example/reckon/reckon/io/Timestamps", "holds", "(J)Z"⟩ : MethodName) prog_70_method_8_code 2 (some .boolean) :: ws) ({ frames := 0, cells := 0, slots := 0, locals := 0 } : Room)) (fun a U => a = #[(.long q0)] ∧ Z.Warmed39 U.vm ∧ U.heap = h0) (fun _ _ _ _ _ => True) (fun _ U o U' => ∃ v L, o = .returned v ∧ Q_own_holds Z q0 r h0 n0 v U'.heap L ∧ FrameEnd U o U' L ({ frames := 0, cells := 0, slots := 0, locals := 0 } : Room).cells ({ frames := 0, cells := 0, slots := 0, locals := 0 } : Room).slots) := by
  refine MetFree.of_bodySF (plainFor_of_name own_pn_com_example_reckon_reckon_io_Timestamps) hisR ?_
  intro p e s m args below meth c s₁ Bd hml0 hP hK
  obtain ⟨rfl, hZ, hh⟩ := hP
  have hx := Bd.exec
  have hby := Bd.bytes
  have hml : c.maxLocals = 2 := hml0
  have hown : s.vm.findClass "com/example/reckon/reckon/io/Timestamps" = some m.cls := findClass_of_methodNamed Bd.named
  have hnm := (name_of_methodNamed Bd.named Bd.method).1
  have X0 : Stand p l e ({ frames := 0, cells := 0, slots := 0, locals := 0 } : Room) s m #[(.long q0)] below meth c s₁ [] 0 0 := Stand.of_body Bd
  have e0 : s₁.heap = h0 := by rw [← hh, Bd.state]; rfl
  have N0 := Fr.nil n0
  show own_Ends p e below (own_Got s (Q_own_holds Z q0 r h0 n0) ({ frames := 0, cells := 0, slots := 0, locals := 0 } : Room).cells ({ frames := 0, cells := 0, slots := 0, locals := 0 } : Room).slots) (s₁.setTop (entryFrame m #[(.long q0)] 2))
  rw [own_ef_own_holds m q0]
  refine own_go (fun _ k => XS.lloadN X0.here hx rfl (hb hby own_d1_0) rfl k) ?_
  show own_Ends _ _ _ _ (s₁.setTop (mkF m 1 #[.val (.long q0), .second] [(.long q0)]))
  obtain ⟨T1, X1, e1, st1⟩ := getS2 X0 hx hZ hown (host := "") (Or.inl (hw _ (List.mem_of_getElem? (i := 6) rfl))) Via.refl e0 (S_EARLIEST.ext O0.2) (g := (mkF m 1 #[.val (.long q0), .second] [(.long q0)])) rfl (hb hby own_d1_1)
  refine own_go st1 ?_
  show own_Ends _ _ _ _ (T1.setTop (mkF m 4 #[.val (.long q0), .second] [(.long (-62167219200 : Int64)), (.long q0)]))
  refine own_go (fun _ k => XS.lcmp X1.here hx rfl (hb hby own_d1_4) rfl k) ?_
  show own_Ends _ _ _ _ (T1.setTop (mkF m 5 #[.val (.long q0), .second] [(.int (lcmpW q0 (-62167219200 : Int64)))]))
  by_cases hc5_1 : q0 < (-62167219200 : Int64)
  · refine own_go (fun _ k => XS.ifYes X1.here hx rfl (pc0 := 5) (pc' := 20) rfl (hb hby own_d1_5) rfl ((if0 _ _).trans (tlt ((lw_lt q0 (-62167219200 : Int64)).mpr hc5_1)).1) (by decide) (by decide) k) ?_
    show own_Ends _ _ _ _ (T1.setTop (mkF m 20 #[.val (.long q0), .second] []))
    refine own_go (fun _ k => XS.iconst X1.here hx rfl (hb hby own_d1_20) k) ?_
    show own_Ends _ _ _ _ (T1.setTop (mkF m 21 #[.val (.long q0), .second] [(.int (0 : Int32))]))
    exact own_retZ X1 hx (BodyLoose.notSynchronized Bd) Bd.returns rfl (hb hby own_d1_21) (by decide) (by decide) (by rw [e1]; exact ⟨by rw [hr, if_pos hc5_1], N0, rfl⟩)
  · refine own_go (fun _ k => XS.ifNo X1.here hx rfl (hb hby own_d1_5) rfl ((if0 _ _).trans (flt (mt (lw_lt q0 (-62167219200 : Int64)).mp hc5_1)).1) k) ?_
    show own_Ends _ _ _ _ (T1.setTop (mkF m 8 #[.val (.long q0), .second] []))
    refine own_go (fun _ k => XS.lloadN X1.here hx rfl (hb hby own_d1_8) rfl k) ?_
    show own_Ends _ _ _ _ (T1.setTop (mkF m 9 #[.val (.long q0), .second] [(.long q0)]))
    obtain ⟨T3, X3, e3, st3⟩ := getS2 X1 hx hZ hown (host := "") (Or.inl (hw _ (List.mem_of_getElem? (i := 8) rfl))) Via.refl e1 (S_LATEST.ext O0.2) (g := (mkF m 9 #[.val (.long q0), .second] [(.long q0)])) rfl (hb hby own_d1_9)
    refine own_go st3 ?_
    show own_Ends _ _ _ _ (T3.setTop (mkF m 12 #[.val (.long q0), .second] [(.long (253402300799 : Int64)), (.long q0)]))
    refine own_go (fun _ k => XS.lcmp X3.here hx rfl (hb hby own_d1_12) rfl k) ?_
    show own_Ends _ _ _ _ (T3.setTop (mkF m 13 #[.val (.long q0), .second] [(.int (lcmpW q0 (253402300799 : Int64)))]))
    by_cases hc13_3 : (253402300799 : Int64) < q0
    · refine own_go (fun _ k => XS.ifYes X3.here hx rfl (pc0 := 13) (pc' := 20) rfl (hb hby own_d1_13) rfl ((if0 _ _).trans (tlt ((lw_gt q0 (253402300799 : Int64)).mpr hc13_3)).2.2.1) (by decide) (by decide) k) ?_
      show own_Ends _ _ _ _ (T3.setTop (mkF m 20 #[.val (.long q0), .second] []))
      refine own_go (fun _ k => XS.iconst X3.here hx rfl (hb hby own_d1_20) k) ?_
      show own_Ends _ _ _ _ (T3.setTop (mkF m 21 #[.val (.long q0), .second] [(.int (0 : Int32))]))
      exact own_retZ X3 hx (BodyLoose.notSynchronized Bd) Bd.returns rfl (hb hby own_d1_21) (by decide) (by decide) (by rw [e3]; exact ⟨by rw [hr, if_neg hc5_1, if_pos hc13_3], N0, rfl⟩)
    · refine own_go (fun _ k => XS.ifNo X3.here hx rfl (hb hby own_d1_13) rfl ((if0 _ _).trans (flt (mt (lw_gt q0 (253402300799 : Int64)).mp hc13_3)).2.2.1) k) ?_
      show own_Ends _ _ _ _ (T3.setTop (mkF m 16 #[.val (.long q0), .second] []))
      refine own_go (fun _ k => XS.iconst X3.here hx rfl (hb hby own_d1_16) k) ?_
      show own_Ends _ _ _ _ (T3.setTop (mkF m 17 #[.val (.long q0), .second] [(.int (1 : Int32))]))
      refine own_go (fun _ k => XS.goto X3.here hx rfl (pc0 := 17) (pc' := 21) rfl (hb hby own_d1_17) (by decide) (by decide) k) ?_
      show own_Ends _ _ _ _ (T3.setTop (mkF m 21 #[.val (.long q0), .second] [(.int (1 : Int32))]))
      exact own_retZ X3 hx (BodyLoose.notSynchronized Bd) Bd.returns rfl (hb hby own_d1_21) (by decide) (by decide) (by rw [e3]; exact ⟨by rw [hr, if_neg hc5_1, if_neg hc13_3], N0, rfl⟩)
theorem own_pd0 : parseMethodDescriptor "(J)Z" = some ⟨[.long], some .boolean⟩ := by decide +kernel
theorem own_ef_own_law (m : MethodId) (x0 : Int64) (x1 : Int32) (x2 : Int32) : entryFrame m #[(.long x0), (.int x1), (.int x2)] maxLocals = mkF m 0 #[.val (.long x0), .second, .val (.int x1), .val (.int x2), .unset, .unset, .unset, .unset] [] := by first | (simp [entryFrame, mkF, argsToLocals, Value.category, maxLocals]; done) | rfl
def Q_own_law (Z : State) (q0 : Int64) (p1 : Int32) (p2 : Int32) (h0 : Heap) (n0 : Nat) (v : Option Value) (h : Heap) (L : List Loc) : Prop := v = some (.int 1) ∧ Fr n0 L
theorem own_pn_com_example_reckon_reckon_io_TimestampsHoldsPinLaw : plainName "com/example/reckon/reckon/io/TimestampsHoldsPinLaw" = true := by first | (simp [plainName, overriddenIn]; done) | decide +kernel
set_option maxRecDepth 65536 in
set_option maxHeartbeats 40000000 in
theorem own_law (l : Launch) (Z : State) (a0 : Array Value) (hw : ∀ d ∈ tables_1, d.before a0 Z = true) (ws : List Jvm.Cond) (q0 : Int64) (p1 : Int32) (p2 : Int32) (h0 : Heap) (n0 : Nat) (O0 : Old Z n0 h0) (S_EARLIEST : Sta Z Z.heap "com/example/reckon/reckon/io/Timestamps" "EARLIEST" "J" (.long (-62167219200 : Int64))) (S_LATEST : Sta Z Z.heap "com/example/reckon/reckon/io/Timestamps" "LATEST" "J" (.long (253402300799 : Int64))) :
    MetFree l x (head1 (Jvm.Cond.code x code maxLocals ret :: ws) room_1) (fun a U => a = #[(.long q0), (.int p1), (.int p2)] ∧ Z.Warmed39 U.vm ∧ U.heap = h0) (fun _ _ _ _ _ => True) (fun _ U o U' => ∃ v L, o = .returned v ∧ Q_own_law Z q0 p1 p2 h0 n0 v U'.heap L ∧ FrameEnd U o U' L 0 0) := by
  refine MetFree.of_bodySF (plainFor_of_name own_pn_com_example_reckon_reckon_io_TimestampsHoldsPinLaw) hisR ?_
  intro p e s m args below meth c s₁ Bd hml0 hP hK
  obtain ⟨rfl, hZ, hh⟩ := hP
  have hx := Bd.exec
  have hby := Bd.bytes
  have hml : c.maxLocals = 8 := hml0
  have hown : s.vm.findClass "com/example/reckon/reckon/io/TimestampsHoldsPinLaw" = some m.cls := findClass_of_methodNamed Bd.named
  have hnm := (name_of_methodNamed Bd.named Bd.method).1
  have X0 : Stand p l e room_1 s m #[(.long q0), (.int p1), (.int p2)] below meth c s₁ [] 0 0 := Stand.of_body Bd
  have e0 : s₁.heap = h0 := by rw [← hh, Bd.state]; rfl
  have N0 := Fr.nil n0
  show own_Ends p e below (own_Got s (Q_own_law Z q0 p1 p2 h0 n0) 0 0) (s₁.setTop (entryFrame m #[(.long q0), (.int p1), (.int p2)] maxLocals))
  rw [own_ef_own_law m q0 p1 p2]
  refine own_go (fun _ k => XS.iloadN X0.here hx rfl (hb hby at_0) rfl k) ?_
  show own_Ends _ _ _ _ (s₁.setTop (mkF m 1 #[.val (.long q0), .second, .val (.int p1), .val (.int p2), .unset, .unset, .unset, .unset] [(.int p1)]))
  refine own_go (fun _ k => XS.iconst X0.here hx rfl (hb hby at_1) k) ?_
  show own_Ends _ _ _ _ (s₁.setTop (mkF m 2 #[.val (.long q0), .second, .val (.int p1), .val (.int p2), .unset, .unset, .unset, .unset] [(.int (3 : Int32)), (.int p1)]))
  refine own_go (fun _ k => XS.iand X0.here hx rfl (hb hby at_2) rfl k) ?_
  show own_Ends _ _ _ _ (s₁.setTop (mkF m 3 #[.val (.long q0), .second, .val (.int p1), .val (.int p2), .unset, .unset, .unset, .unset] [(.int (p1 &&& (3 : Int32)))]))
  refine own_go (fun _ k => XS.istore X0.here hx rfl (hb hby at_3) rfl (l' := #[.val (.long q0), .second, .val (.int p1), .val (.int p2), .unset, .unset, .val (.int (p1 &&& (3 : Int32))), .unset]) rfl k) ?_
  show own_Ends _ _ _ _ (s₁.setTop (mkF m 5 #[.val (.long q0), .second, .val (.int p1), .val (.int p2), .unset, .unset, .val (.int (p1 &&& (3 : Int32))), .unset] []))
  refine own_go (fun _ k => XS.iload X0.here hx rfl (hb hby at_5) rfl k) ?_
  show own_Ends _ _ _ _ (s₁.setTop (mkF m 7 #[.val (.long q0), .second, .val (.int p1), .val (.int p2), .unset, .unset, .val (.int (p1 &&& (3 : Int32))), .unset] [(.int (p1 &&& (3 : Int32)))]))
  refine own_go (fun _ k => XS.iconst X0.here hx rfl (hb hby at_7) k) ?_
  show own_Ends _ _ _ _ (s₁.setTop (mkF m 8 #[.val (.long q0), .second, .val (.int p1), .val (.int p2), .unset, .unset, .val (.int (p1 &&& (3 : Int32))), .unset] [(.int (1 : Int32)), (.int (p1 &&& (3 : Int32)))]))
  by_cases hc8_0 : (p1 &&& (3 : Int32)) = (1 : Int32)
  · refine own_go (fun _ k => XS.icmpNo X0.here hx rfl (hb hby at_8) rfl (teq hc8_0).2 k) ?_
    show own_Ends _ _ _ _ (s₁.setTop (mkF m 11 #[.val (.long q0), .second, .val (.int p1), .val (.int p2), .unset, .unset, .val (.int (p1 &&& (3 : Int32))), .unset] []))
    refine own_go (X0.ldc2Long hx hown (mvT hZ (hw _ (List.mem_of_getElem? (i := 1) rfl))) (g := (mkF m 11 #[.val (.long q0), .second, .val (.int p1), .val (.int p2), .unset, .unset, .val (.int (p1 &&& (3 : Int32))), .unset] [])) rfl (hb hby at_11)) ?_
    show own_Ends _ _ _ _ (s₁.setTop (mkF m 14 #[.val (.long q0), .second, .val (.int p1), .val (.int p2), .unset, .unset, .val (.int (p1 &&& (3 : Int32))), .unset] [(.long (-62167219200 : Int64))]))
    refine own_go (fun _ k => XS.iloadN X0.here hx rfl (hb hby at_14) rfl k) ?_
    show own_Ends _ _ _ _ (s₁.setTop (mkF m 15 #[.val (.long q0), .second, .val (.int p1), .val (.int p2), .unset, .unset, .val (.int (p1 &&& (3 : Int32))), .unset] [(.int p2), (.long (-62167219200 : Int64))]))
    refine own_go (fun _ k => XS.i2l X0.here hx rfl (hb hby at_15) rfl k) ?_
    show own_Ends _ _ _ _ (s₁.setTop (mkF m 16 #[.val (.long q0), .second, .val (.int p1), .val (.int p2), .unset, .unset, .val (.int (p1 &&& (3 : Int32))), .unset] [(.long (p2.toInt64)), (.long (-62167219200 : Int64))]))
    refine own_go (fun _ k => XS.ladd X0.here hx rfl (hb hby at_16) rfl k) ?_
    show own_Ends _ _ _ _ (s₁.setTop (mkF m 17 #[.val (.long q0), .second, .val (.int p1), .val (.int p2), .unset, .unset, .val (.int (p1 &&& (3 : Int32))), .unset] [(.long ((-62167219200 : Int64) + (p2.toInt64)))]))
    refine own_go (fun _ k => XS.lstore X0.here hx rfl (hb hby at_17) rfl (l' := #[.val (.long q0), .second, .val (.int p1), .val (.int p2), .val (.long ((-62167219200 : Int64) + (p2.toInt64))), .second, .val (.int (p1 &&& (3 : Int32))), .unset]) rfl k) ?_
    show own_Ends _ _ _ _ (s₁.setTop (mkF m 19 #[.val (.long q0), .second, .val (.int p1), .val (.int p2), .val (.long ((-62167219200 : Int64) + (p2.toInt64))), .second, .val (.int (p1 &&& (3 : Int32))), .unset] []))
    refine own_go (fun _ k => XS.goto X0.here hx rfl (pc0 := 19) (pc' := 42) rfl (hb hby at_19) (by decide) (by decide) k) ?_
    show own_Ends _ _ _ _ (s₁.setTop (mkF m 42 #[.val (.long q0), .second, .val (.int p1), .val (.int p2), .val (.long ((-62167219200 : Int64) + (p2.toInt64))), .second, .val (.int (p1 &&& (3 : Int32))), .unset] []))
    refine own_go (fun _ k => XS.lload X0.here hx rfl (hb hby at_42) rfl k) ?_
    show own_Ends _ _ _ _ (s₁.setTop (mkF m 44 #[.val (.long q0), .second, .val (.int p1), .val (.int p2), .val (.long ((-62167219200 : Int64) + (p2.toInt64))), .second, .val (.int (p1 &&& (3 : Int32))), .unset] [(.long ((-62167219200 : Int64) + (p2.toInt64)))]))
    refine own_go (X0.ldc2Long hx hown (mvT hZ (hw _ (List.mem_of_getElem? (i := 1) rfl))) (g := (mkF m 44 #[.val (.long q0), .second, .val (.int p1), .val (.int p2), .val (.long ((-62167219200 : Int64) + (p2.toInt64))), .second, .val (.int (p1 &&& (3 : Int32))), .unset] [(.long ((-62167219200 : Int64) + (p2.toInt64)))])) rfl (hb hby at_44)) ?_
    show own_Ends _ _ _ _ (s₁.setTop (mkF m 47 #[.val (.long q0), .second, .val (.int p1), .val (.int p2), .val (.long ((-62167219200 : Int64) + (p2.toInt64))), .second, .val (.int (p1 &&& (3 : Int32))), .unset] [(.long (-62167219200 : Int64)), (.long ((-62167219200 : Int64) + (p2.toInt64)))]))
    refine own_go (fun _ k => XS.lcmp X0.here hx rfl (hb hby at_47) rfl k) ?_
    show own_Ends _ _ _ _ (s₁.setTop (mkF m 48 #[.val (.long q0), .second, .val (.int p1), .val (.int p2), .val (.long ((-62167219200 : Int64) + (p2.toInt64))), .second, .val (.int (p1 &&& (3 : Int32))), .unset] [(.int (lcmpW ((-62167219200 : Int64) + (p2.toInt64)) (-62167219200 : Int64)))]))
    by_cases hc48_1 : ((-62167219200 : Int64) + (p2.toInt64)) < (-62167219200 : Int64)
    · refine own_go (fun _ k => XS.ifYes X0.here hx rfl (pc0 := 48) (pc' := 64) rfl (hb hby at_48) rfl ((if0 _ _).trans (tlt ((lw_lt ((-62167219200 : Int64) + (p2.toInt64)) (-62167219200 : Int64)).mpr hc48_1)).1) (by decide) (by decide) k) ?_
      show own_Ends _ _ _ _ (s₁.setTop (mkF m 64 #[.val (.long q0), .second, .val (.int p1), .val (.int p2), .val (.long ((-62167219200 : Int64) + (p2.toInt64))), .second, .val (.int (p1 &&& (3 : Int32))), .unset] []))
      refine own_go (fun _ k => XS.iconst X0.here hx rfl (hb hby at_64) k) ?_
      show own_Ends _ _ _ _ (s₁.setTop (mkF m 65 #[.val (.long q0), .second, .val (.int p1), .val (.int p2), .val (.long ((-62167219200 : Int64) + (p2.toInt64))), .second, .val (.int (p1 &&& (3 : Int32))), .unset] [(.int (0 : Int32))]))
      refine own_go (fun _ k => XS.istore X0.here hx rfl (hb hby at_65) rfl (l' := #[.val (.long q0), .second, .val (.int p1), .val (.int p2), .val (.long ((-62167219200 : Int64) + (p2.toInt64))), .second, .val (.int (p1 &&& (3 : Int32))), .val (.int (0 : Int32))]) rfl k) ?_
      show own_Ends _ _ _ _ (s₁.setTop (mkF m 67 #[.val (.long q0), .second, .val (.int p1), .val (.int p2), .val (.long ((-62167219200 : Int64) + (p2.toInt64))), .second, .val (.int (p1 &&& (3 : Int32))), .val (.int (0 : Int32))] []))
      refine own_go (fun _ k => XS.lload X0.here hx rfl (hb hby at_67) rfl k) ?_
      show own_Ends _ _ _ _ (s₁.setTop (mkF m 69 #[.val (.long q0), .second, .val (.int p1), .val (.int p2), .val (.long ((-62167219200 : Int64) + (p2.toInt64))), .second, .val (.int (p1 &&& (3 : Int32))), .val (.int (0 : Int32))] [(.long ((-62167219200 : Int64) + (p2.toInt64)))]))
      obtain ⟨_, _, ⟨T3, Lz3, kz3, nz3⟩, -, X3, ⟨Lc3, hQ3, l3, y3, z3⟩, st3⟩ := Jvm.LawKit.callS X0 hx (y := (⟨"com/example/reckon/reckon/io/Timestamps", "holds", "(J)Z"⟩ : MethodName)) hown (mvT hZ (hw _ (List.mem_of_getElem? (i := 2) rfl))) (mvT hZ (hw _ (List.mem_of_getElem? (i := 3) rfl))) (mvT hZ (hw _ (List.mem_of_getElem? (i := 4) rfl))) (mvT hZ (hw _ (List.mem_of_getElem? (i := 5) rfl))) (by decide) (backOf (W := 0) (own_holds l Z a0 hw [] ((-62167219200 : Int64) + (p2.toInt64)) (0 : Int32) h0 n0 O0 S_EARLIEST S_LATEST (by rw [if_pos hc48_1])) hZ (hw _ (List.mem_of_getElem? (i := 5) rfl)) (hw _ (List.mem_of_getElem? (i := 4) rfl)) (by decide) (by decide)) (g := (mkF m 69 #[.val (.long q0), .second, .val (.int p1), .val (.int p2), .val (.long ((-62167219200 : Int64) + (p2.toInt64))), .second, .val (.int (p1 &&& (3 : Int32))), .val (.int (0 : Int32))] [(.long ((-62167219200 : Int64) + (p2.toInt64)))])) rfl (by rw [hml]; rfl) (argsL := [(.long ((-62167219200 : Int64) + (p2.toInt64)))]) (rest := []) (lenOf own_pd0 rfl) rfl (by show 2 * 0 + _ ≤ _; exact Nat.le_of_eq rfl) (hb hby at_69) (fun _ _ => ⟨rfl, e0, (by decide : 0 + 0 ≤ _), (by decide : 0 + 0 ≤ _)⟩)
      dsimp only [Pt.U, Pt.locs, Pt.cells, Pt.slots] at X3 l3 y3 z3 st3 hQ3
      subst l3 y3 z3
      obtain ⟨rfl, Nq3, e3⟩ := hQ3
      have N3 := Fr.app N0 Nq3
      refine own_go st3 ?_
      show own_Ends _ _ _ _ (T3.setTop (mkF m 72 #[.val (.long q0), .second, .val (.int p1), .val (.int p2), .val (.long ((-62167219200 : Int64) + (p2.toInt64))), .second, .val (.int (p1 &&& (3 : Int32))), .val (.int (0 : Int32))] [(.int (0 : Int32))]))
      refine own_go (fun _ k => XS.iload X3.here hx rfl (hb hby at_72) rfl k) ?_
      show own_Ends _ _ _ _ (T3.setTop (mkF m 74 #[.val (.long q0), .second, .val (.int p1), .val (.int p2), .val (.long ((-62167219200 : Int64) + (p2.toInt64))), .second, .val (.int (p1 &&& (3 : Int32))), .val (.int (0 : Int32))] [(.int (0 : Int32)), (.int (0 : Int32))]))
      refine own_go (fun _ k => XS.icmpNo X3.here hx rfl (hb hby at_74) rfl (teq (by decide : (0 : Int32) = (0 : Int32))).2 k) ?_
      show own_Ends _ _ _ _ (T3.setTop (mkF m 77 #[.val (.long q0), .second, .val (.int p1), .val (.int p2), .val (.long ((-62167219200 : Int64) + (p2.toInt64))), .second, .val (.int (p1 &&& (3 : Int32))), .val (.int (0 : Int32))] []))
      refine own_go (fun _ k => XS.iconst X3.here hx rfl (hb hby at_77) k) ?_
      show own_Ends _ _ _ _ (T3.setTop (mkF m 78 #[.val (.long q0), .second, .val (.int p1), .val (.int p2), .val (.long ((-62167219200 : Int64) + (p2.toInt64))), .second, .val (.int (p1 &&& (3 : Int32))), .val (.int (0 : Int32))] [(.int (1 : Int32))]))
      refine own_go (fun _ k => XS.goto X3.here hx rfl (pc0 := 78) (pc' := 82) rfl (hb hby at_78) (by decide) (by decide) k) ?_
      show own_Ends _ _ _ _ (T3.setTop (mkF m 82 #[.val (.long q0), .second, .val (.int p1), .val (.int p2), .val (.long ((-62167219200 : Int64) + (p2.toInt64))), .second, .val (.int (p1 &&& (3 : Int32))), .val (.int (0 : Int32))] [(.int (1 : Int32))]))
      exact own_retZ X3 hx (BodyLoose.notSynchronized Bd) Bd.returns rfl (hb hby at_82) (by decide) (by decide) (by rw [e3]; exact ⟨rfl, N3⟩)
    · refine own_go (fun _ k => XS.ifNo X0.here hx rfl (hb hby at_48) rfl ((if0 _ _).trans (flt (mt (lw_lt ((-62167219200 : Int64) + (p2.toInt64)) (-62167219200 : Int64)).mp hc48_1)).1) k) ?_
      show own_Ends _ _ _ _ (s₁.setTop (mkF m 51 #[.val (.long q0), .second, .val (.int p1), .val (.int p2), .val (.long ((-62167219200 : Int64) + (p2.toInt64))), .second, .val (.int (p1 &&& (3 : Int32))), .unset] []))
      refine own_go (fun _ k => XS.lload X0.here hx rfl (hb hby at_51) rfl k) ?_
      show own_Ends _ _ _ _ (s₁.setTop (mkF m 53 #[.val (.long q0), .second, .val (.int p1), .val (.int p2), .val (.long ((-62167219200 : Int64) + (p2.toInt64))), .second, .val (.int (p1 &&& (3 : Int32))), .unset] [(.long ((-62167219200 : Int64) + (p2.toInt64)))]))
      refine own_go (X0.ldc2Long hx hown (mvT hZ (hw _ (List.mem_of_getElem? (i := 0) rfl))) (g := (mkF m 53 #[.val (.long q0), .second, .val (.int p1), .val (.int p2), .val (.long ((-62167219200 : Int64) + (p2.toInt64))), .second, .val (.int (p1 &&& (3 : Int32))), .unset] [(.long ((-62167219200 : Int64) + (p2.toInt64)))])) rfl (hb hby at_53)) ?_
      show own_Ends _ _ _ _ (s₁.setTop (mkF m 56 #[.val (.long q0), .second, .val (.int p1), .val (.int p2), .val (.long ((-62167219200 : Int64) + (p2.toInt64))), .second, .val (.int (p1 &&& (3 : Int32))), .unset] [(.long (253402300799 : Int64)), (.long ((-62167219200 : Int64) + (p2.toInt64)))]))
      refine own_go (fun _ k => XS.lcmp X0.here hx rfl (hb hby at_56) rfl k) ?_
      show own_Ends _ _ _ _ (s₁.setTop (mkF m 57 #[.val (.long q0), .second, .val (.int p1), .val (.int p2), .val (.long ((-62167219200 : Int64) + (p2.toInt64))), .second, .val (.int (p1 &&& (3 : Int32))), .unset] [(.int (lcmpW ((-62167219200 : Int64) + (p2.toInt64)) (253402300799 : Int64)))]))
      by_cases hc57_3 : (253402300799 : Int64) < ((-62167219200 : Int64) + (p2.toInt64))
      · refine own_go (fun _ k => XS.ifYes X0.here hx rfl (pc0 := 57) (pc' := 64) rfl (hb hby at_57) rfl ((if0 _ _).trans (tlt ((lw_gt ((-62167219200 : Int64) + (p2.toInt64)) (253402300799 : Int64)).mpr hc57_3)).2.2.1) (by decide) (by decide) k) ?_
        show own_Ends _ _ _ _ (s₁.setTop (mkF m 64 #[.val (.long q0), .second, .val (.int p1), .val (.int p2), .val (.long ((-62167219200 : Int64) + (p2.toInt64))), .second, .val (.int (p1 &&& (3 : Int32))), .unset] []))
        refine own_go (fun _ k => XS.iconst X0.here hx rfl (hb hby at_64) k) ?_
        show own_Ends _ _ _ _ (s₁.setTop (mkF m 65 #[.val (.long q0), .second, .val (.int p1), .val (.int p2), .val (.long ((-62167219200 : Int64) + (p2.toInt64))), .second, .val (.int (p1 &&& (3 : Int32))), .unset] [(.int (0 : Int32))]))
        refine own_go (fun _ k => XS.istore X0.here hx rfl (hb hby at_65) rfl (l' := #[.val (.long q0), .second, .val (.int p1), .val (.int p2), .val (.long ((-62167219200 : Int64) + (p2.toInt64))), .second, .val (.int (p1 &&& (3 : Int32))), .val (.int (0 : Int32))]) rfl k) ?_
        show own_Ends _ _ _ _ (s₁.setTop (mkF m 67 #[.val (.long q0), .second, .val (.int p1), .val (.int p2), .val (.long ((-62167219200 : Int64) + (p2.toInt64))), .second, .val (.int (p1 &&& (3 : Int32))), .val (.int (0 : Int32))] []))
        refine own_go (fun _ k => XS.lload X0.here hx rfl (hb hby at_67) rfl k) ?_
        show own_Ends _ _ _ _ (s₁.setTop (mkF m 69 #[.val (.long q0), .second, .val (.int p1), .val (.int p2), .val (.long ((-62167219200 : Int64) + (p2.toInt64))), .second, .val (.int (p1 &&& (3 : Int32))), .val (.int (0 : Int32))] [(.long ((-62167219200 : Int64) + (p2.toInt64)))]))
        obtain ⟨_, _, ⟨T5, Lz5, kz5, nz5⟩, -, X5, ⟨Lc5, hQ5, l5, y5, z5⟩, st5⟩ := Jvm.LawKit.callS X0 hx (y := (⟨"com/example/reckon/reckon/io/Timestamps", "holds", "(J)Z"⟩ : MethodName)) hown (mvT hZ (hw _ (List.mem_of_getElem? (i := 2) rfl))) (mvT hZ (hw _ (List.mem_of_getElem? (i := 3) rfl))) (mvT hZ (hw _ (List.mem_of_getElem? (i := 4) rfl))) (mvT hZ (hw _ (List.mem_of_getElem? (i := 5) rfl))) (by decide) (backOf (W := 0) (own_holds l Z a0 hw [] ((-62167219200 : Int64) + (p2.toInt64)) (0 : Int32) h0 n0 O0 S_EARLIEST S_LATEST (by rw [if_neg hc48_1, if_pos hc57_3])) hZ (hw _ (List.mem_of_getElem? (i := 5) rfl)) (hw _ (List.mem_of_getElem? (i := 4) rfl)) (by decide) (by decide)) (g := (mkF m 69 #[.val (.long q0), .second, .val (.int p1), .val (.int p2), .val (.long ((-62167219200 : Int64) + (p2.toInt64))), .second, .val (.int (p1 &&& (3 : Int32))), .val (.int (0 : Int32))] [(.long ((-62167219200 : Int64) + (p2.toInt64)))])) rfl (by rw [hml]; rfl) (argsL := [(.long ((-62167219200 : Int64) + (p2.toInt64)))]) (rest := []) (lenOf own_pd0 rfl) rfl (by show 2 * 0 + _ ≤ _; exact Nat.le_of_eq rfl) (hb hby at_69) (fun _ _ => ⟨rfl, e0, (by decide : 0 + 0 ≤ _), (by decide : 0 + 0 ≤ _)⟩)
        dsimp only [Pt.U, Pt.locs, Pt.cells, Pt.slots] at X5 l5 y5 z5 st5 hQ5
        subst l5 y5 z5
        obtain ⟨rfl, Nq5, e5⟩ := hQ5
        have N5 := Fr.app N0 Nq5
        refine own_go st5 ?_
        show own_Ends _ _ _ _ (T5.setTop (mkF m 72 #[.val (.long q0), .second, .val (.int p1), .val (.int p2), .val (.long ((-62167219200 : Int64) + (p2.toInt64))), .second, .val (.int (p1 &&& (3 : Int32))), .val (.int (0 : Int32))] [(.int (0 : Int32))]))
        refine own_go (fun _ k => XS.iload X5.here hx rfl (hb hby at_72) rfl k) ?_
        show own_Ends _ _ _ _ (T5.setTop (mkF m 74 #[.val (.long q0), .second, .val (.int p1), .val (.int p2), .val (.long ((-62167219200 : Int64) + (p2.toInt64))), .second, .val (.int (p1 &&& (3 : Int32))), .val (.int (0 : Int32))] [(.int (0 : Int32)), (.int (0 : Int32))]))
        refine own_go (fun _ k => XS.icmpNo X5.here hx rfl (hb hby at_74) rfl (teq (by decide : (0 : Int32) = (0 : Int32))).2 k) ?_
        show own_Ends _ _ _ _ (T5.setTop (mkF m 77 #[.val (.long q0), .second, .val (.int p1), .val (.int p2), .val (.long ((-62167219200 : Int64) + (p2.toInt64))), .second, .val (.int (p1 &&& (3 : Int32))), .val (.int (0 : Int32))] []))
        refine own_go (fun _ k => XS.iconst X5.here hx rfl (hb hby at_77) k) ?_
        show own_Ends _ _ _ _ (T5.setTop (mkF m 78 #[.val (.long q0), .second, .val (.int p1), .val (.int p2), .val (.long ((-62167219200 : Int64) + (p2.toInt64))), .second, .val (.int (p1 &&& (3 : Int32))), .val (.int (0 : Int32))] [(.int (1 : Int32))]))
        refine own_go (fun _ k => XS.goto X5.here hx rfl (pc0 := 78) (pc' := 82) rfl (hb hby at_78) (by decide) (by decide) k) ?_
        show own_Ends _ _ _ _ (T5.setTop (mkF m 82 #[.val (.long q0), .second, .val (.int p1), .val (.int p2), .val (.long ((-62167219200 : Int64) + (p2.toInt64))), .second, .val (.int (p1 &&& (3 : Int32))), .val (.int (0 : Int32))] [(.int (1 : Int32))]))
        exact own_retZ X5 hx (BodyLoose.notSynchronized Bd) Bd.returns rfl (hb hby at_82) (by decide) (by decide) (by rw [e5]; exact ⟨rfl, N5⟩)
      · refine own_go (fun _ k => XS.ifNo X0.here hx rfl (hb hby at_57) rfl ((if0 _ _).trans (flt (mt (lw_gt ((-62167219200 : Int64) + (p2.toInt64)) (253402300799 : Int64)).mp hc57_3)).2.2.1) k) ?_
        show own_Ends _ _ _ _ (s₁.setTop (mkF m 60 #[.val (.long q0), .second, .val (.int p1), .val (.int p2), .val (.long ((-62167219200 : Int64) + (p2.toInt64))), .second, .val (.int (p1 &&& (3 : Int32))), .unset] []))
        refine own_go (fun _ k => XS.iconst X0.here hx rfl (hb hby at_60) k) ?_
        show own_Ends _ _ _ _ (s₁.setTop (mkF m 61 #[.val (.long q0), .second, .val (.int p1), .val (.int p2), .val (.long ((-62167219200 : Int64) + (p2.toInt64))), .second, .val (.int (p1 &&& (3 : Int32))), .unset] [(.int (1 : Int32))]))
        refine own_go (fun _ k => XS.goto X0.here hx rfl (pc0 := 61) (pc' := 65) rfl (hb hby at_61) (by decide) (by decide) k) ?_
        show own_Ends _ _ _ _ (s₁.setTop (mkF m 65 #[.val (.long q0), .second, .val (.int p1), .val (.int p2), .val (.long ((-62167219200 : Int64) + (p2.toInt64))), .second, .val (.int (p1 &&& (3 : Int32))), .unset] [(.int (1 : Int32))]))
        refine own_go (fun _ k => XS.istore X0.here hx rfl (hb hby at_65) rfl (l' := #[.val (.long q0), .second, .val (.int p1), .val (.int p2), .val (.long ((-62167219200 : Int64) + (p2.toInt64))), .second, .val (.int (p1 &&& (3 : Int32))), .val (.int (1 : Int32))]) rfl k) ?_
        show own_Ends _ _ _ _ (s₁.setTop (mkF m 67 #[.val (.long q0), .second, .val (.int p1), .val (.int p2), .val (.long ((-62167219200 : Int64) + (p2.toInt64))), .second, .val (.int (p1 &&& (3 : Int32))), .val (.int (1 : Int32))] []))
        refine own_go (fun _ k => XS.lload X0.here hx rfl (hb hby at_67) rfl k) ?_
        show own_Ends _ _ _ _ (s₁.setTop (mkF m 69 #[.val (.long q0), .second, .val (.int p1), .val (.int p2), .val (.long ((-62167219200 : Int64) + (p2.toInt64))), .second, .val (.int (p1 &&& (3 : Int32))), .val (.int (1 : Int32))] [(.long ((-62167219200 : Int64) + (p2.toInt64)))]))
        obtain ⟨_, _, ⟨T6, Lz6, kz6, nz6⟩, -, X6, ⟨Lc6, hQ6, l6, y6, z6⟩, st6⟩ := Jvm.LawKit.callS X0 hx (y := (⟨"com/example/reckon/reckon/io/Timestamps", "holds", "(J)Z"⟩ : MethodName)) hown (mvT hZ (hw _ (List.mem_of_getElem? (i := 2) rfl))) (mvT hZ (hw _ (List.mem_of_getElem? (i := 3) rfl))) (mvT hZ (hw _ (List.mem_of_getElem? (i := 4) rfl))) (mvT hZ (hw _ (List.mem_of_getElem? (i := 5) rfl))) (by decide) (backOf (W := 0) (own_holds l Z a0 hw [] ((-62167219200 : Int64) + (p2.toInt64)) (1 : Int32) h0 n0 O0 S_EARLIEST S_LATEST (by rw [if_neg hc48_1, if_neg hc57_3])) hZ (hw _ (List.mem_of_getElem? (i := 5) rfl)) (hw _ (List.mem_of_getElem? (i := 4) rfl)) (by decide) (by decide)) (g := (mkF m 69 #[.val (.long q0), .second, .val (.int p1), .val (.int p2), .val (.long ((-62167219200 : Int64) + (p2.toInt64))), .second, .val (.int (p1 &&& (3 : Int32))), .val (.int (1 : Int32))] [(.long ((-62167219200 : Int64) + (p2.toInt64)))])) rfl (by rw [hml]; rfl) (argsL := [(.long ((-62167219200 : Int64) + (p2.toInt64)))]) (rest := []) (lenOf own_pd0 rfl) rfl (by show 2 * 0 + _ ≤ _; exact Nat.le_of_eq rfl) (hb hby at_69) (fun _ _ => ⟨rfl, e0, (by decide : 0 + 0 ≤ _), (by decide : 0 + 0 ≤ _)⟩)
        dsimp only [Pt.U, Pt.locs, Pt.cells, Pt.slots] at X6 l6 y6 z6 st6 hQ6
        subst l6 y6 z6
        obtain ⟨rfl, Nq6, e6⟩ := hQ6
        have N6 := Fr.app N0 Nq6
        refine own_go st6 ?_
        show own_Ends _ _ _ _ (T6.setTop (mkF m 72 #[.val (.long q0), .second, .val (.int p1), .val (.int p2), .val (.long ((-62167219200 : Int64) + (p2.toInt64))), .second, .val (.int (p1 &&& (3 : Int32))), .val (.int (1 : Int32))] [(.int (1 : Int32))]))
        refine own_go (fun _ k => XS.iload X6.here hx rfl (hb hby at_72) rfl k) ?_
        show own_Ends _ _ _ _ (T6.setTop (mkF m 74 #[.val (.long q0), .second, .val (.int p1), .val (.int p2), .val (.long ((-62167219200 : Int64) + (p2.toInt64))), .second, .val (.int (p1 &&& (3 : Int32))), .val (.int (1 : Int32))] [(.int (1 : Int32)), (.int (1 : Int32))]))
        refine own_go (fun _ k => XS.icmpNo X6.here hx rfl (hb hby at_74) rfl (teq (by decide : (1 : Int32) = (1 : Int32))).2 k) ?_
        show own_Ends _ _ _ _ (T6.setTop (mkF m 77 #[.val (.long q0), .second, .val (.int p1), .val (.int p2), .val (.long ((-62167219200 : Int64) + (p2.toInt64))), .second, .val (.int (p1 &&& (3 : Int32))), .val (.int (1 : Int32))] []))
        refine own_go (fun _ k => XS.iconst X6.here hx rfl (hb hby at_77) k) ?_
        show own_Ends _ _ _ _ (T6.setTop (mkF m 78 #[.val (.long q0), .second, .val (.int p1), .val (.int p2), .val (.long ((-62167219200 : Int64) + (p2.toInt64))), .second, .val (.int (p1 &&& (3 : Int32))), .val (.int (1 : Int32))] [(.int (1 : Int32))]))
        refine own_go (fun _ k => XS.goto X6.here hx rfl (pc0 := 78) (pc' := 82) rfl (hb hby at_78) (by decide) (by decide) k) ?_
        show own_Ends _ _ _ _ (T6.setTop (mkF m 82 #[.val (.long q0), .second, .val (.int p1), .val (.int p2), .val (.long ((-62167219200 : Int64) + (p2.toInt64))), .second, .val (.int (p1 &&& (3 : Int32))), .val (.int (1 : Int32))] [(.int (1 : Int32))]))
        exact own_retZ X6 hx (BodyLoose.notSynchronized Bd) Bd.returns rfl (hb hby at_82) (by decide) (by decide) (by rw [e6]; exact ⟨rfl, N6⟩)
  · refine own_go (fun _ k => XS.icmpYes X0.here hx rfl (pc0 := 8) (pc' := 22) rfl (hb hby at_8) rfl (feq hc8_0).2 (by decide) (by decide) k) ?_
    show own_Ends _ _ _ _ (s₁.setTop (mkF m 22 #[.val (.long q0), .second, .val (.int p1), .val (.int p2), .unset, .unset, .val (.int (p1 &&& (3 : Int32))), .unset] []))
    refine own_go (fun _ k => XS.iload X0.here hx rfl (hb hby at_22) rfl k) ?_
    show own_Ends _ _ _ _ (s₁.setTop (mkF m 24 #[.val (.long q0), .second, .val (.int p1), .val (.int p2), .unset, .unset, .val (.int (p1 &&& (3 : Int32))), .unset] [(.int (p1 &&& (3 : Int32)))]))
    refine own_go (fun _ k => XS.iconst X0.here hx rfl (hb hby at_24) k) ?_
    show own_Ends _ _ _ _ (s₁.setTop (mkF m 25 #[.val (.long q0), .second, .val (.int p1), .val (.int p2), .unset, .unset, .val (.int (p1 &&& (3 : Int32))), .unset] [(.int (2 : Int32)), (.int (p1 &&& (3 : Int32)))]))
    by_cases hc25_6 : (p1 &&& (3 : Int32)) = (2 : Int32)
    · refine own_go (fun _ k => XS.icmpNo X0.here hx rfl (hb hby at_25) rfl (teq hc25_6).2 k) ?_
      show own_Ends _ _ _ _ (s₁.setTop (mkF m 28 #[.val (.long q0), .second, .val (.int p1), .val (.int p2), .unset, .unset, .val (.int (p1 &&& (3 : Int32))), .unset] []))
      refine own_go (X0.ldc2Long hx hown (mvT hZ (hw _ (List.mem_of_getElem? (i := 0) rfl))) (g := (mkF m 28 #[.val (.long q0), .second, .val (.int p1), .val (.int p2), .unset, .unset, .val (.int (p1 &&& (3 : Int32))), .unset] [])) rfl (hb hby at_28)) ?_
      show own_Ends _ _ _ _ (s₁.setTop (mkF m 31 #[.val (.long q0), .second, .val (.int p1), .val (.int p2), .unset, .unset, .val (.int (p1 &&& (3 : Int32))), .unset] [(.long (253402300799 : Int64))]))
      refine own_go (fun _ k => XS.iloadN X0.here hx rfl (hb hby at_31) rfl k) ?_
      show own_Ends _ _ _ _ (s₁.setTop (mkF m 32 #[.val (.long q0), .second, .val (.int p1), .val (.int p2), .unset, .unset, .val (.int (p1 &&& (3 : Int32))), .unset] [(.int p2), (.long (253402300799 : Int64))]))
      refine own_go (fun _ k => XS.i2l X0.here hx rfl (hb hby at_32) rfl k) ?_
      show own_Ends _ _ _ _ (s₁.setTop (mkF m 33 #[.val (.long q0), .second, .val (.int p1), .val (.int p2), .unset, .unset, .val (.int (p1 &&& (3 : Int32))), .unset] [(.long (p2.toInt64)), (.long (253402300799 : Int64))]))
      refine own_go (fun _ k => XS.ladd X0.here hx rfl (hb hby at_33) rfl k) ?_
      show own_Ends _ _ _ _ (s₁.setTop (mkF m 34 #[.val (.long q0), .second, .val (.int p1), .val (.int p2), .unset, .unset, .val (.int (p1 &&& (3 : Int32))), .unset] [(.long ((253402300799 : Int64) + (p2.toInt64)))]))
      refine own_go (fun _ k => XS.lstore X0.here hx rfl (hb hby at_34) rfl (l' := #[.val (.long q0), .second, .val (.int p1), .val (.int p2), .val (.long ((253402300799 : Int64) + (p2.toInt64))), .second, .val (.int (p1 &&& (3 : Int32))), .unset]) rfl k) ?_
      show own_Ends _ _ _ _ (s₁.setTop (mkF m 36 #[.val (.long q0), .second, .val (.int p1), .val (.int p2), .val (.long ((253402300799 : Int64) + (p2.toInt64))), .second, .val (.int (p1 &&& (3 : Int32))), .unset] []))
      refine own_go (fun _ k => XS.goto X0.here hx rfl (pc0 := 36) (pc' := 42) rfl (hb hby at_36) (by decide) (by decide) k) ?_
      show own_Ends _ _ _ _ (s₁.setTop (mkF m 42 #[.val (.long q0), .second, .val (.int p1), .val (.int p2), .val (.long ((253402300799 : Int64) + (p2.toInt64))), .second, .val (.int (p1 &&& (3 : Int32))), .unset] []))
      refine own_go (fun _ k => XS.lload X0.here hx rfl (hb hby at_42) rfl k) ?_
      show own_Ends _ _ _ _ (s₁.setTop (mkF m 44 #[.val (.long q0), .second, .val (.int p1), .val (.int p2), .val (.long ((253402300799 : Int64) + (p2.toInt64))), .second, .val (.int (p1 &&& (3 : Int32))), .unset] [(.long ((253402300799 : Int64) + (p2.toInt64)))]))
      refine own_go (X0.ldc2Long hx hown (mvT hZ (hw _ (List.mem_of_getElem? (i := 1) rfl))) (g := (mkF m 44 #[.val (.long q0), .second, .val (.int p1), .val (.int p2), .val (.long ((253402300799 : Int64) + (p2.toInt64))), .second, .val (.int (p1 &&& (3 : Int32))), .unset] [(.long ((253402300799 : Int64) + (p2.toInt64)))])) rfl (hb hby at_44)) ?_
      show own_Ends _ _ _ _ (s₁.setTop (mkF m 47 #[.val (.long q0), .second, .val (.int p1), .val (.int p2), .val (.long ((253402300799 : Int64) + (p2.toInt64))), .second, .val (.int (p1 &&& (3 : Int32))), .unset] [(.long (-62167219200 : Int64)), (.long ((253402300799 : Int64) + (p2.toInt64)))]))
      refine own_go (fun _ k => XS.lcmp X0.here hx rfl (hb hby at_47) rfl k) ?_
      show own_Ends _ _ _ _ (s₁.setTop (mkF m 48 #[.val (.long q0), .second, .val (.int p1), .val (.int p2), .val (.long ((253402300799 : Int64) + (p2.toInt64))), .second, .val (.int (p1 &&& (3 : Int32))), .unset] [(.int (lcmpW ((253402300799 : Int64) + (p2.toInt64)) (-62167219200 : Int64)))]))
      by_cases hc48_7 : ((253402300799 : Int64) + (p2.toInt64)) < (-62167219200 : Int64)
      · refine own_go (fun _ k => XS.ifYes X0.here hx rfl (pc0 := 48) (pc' := 64) rfl (hb hby at_48) rfl ((if0 _ _).trans (tlt ((lw_lt ((253402300799 : Int64) + (p2.toInt64)) (-62167219200 : Int64)).mpr hc48_7)).1) (by decide) (by decide) k) ?_
        show own_Ends _ _ _ _ (s₁.setTop (mkF m 64 #[.val (.long q0), .second, .val (.int p1), .val (.int p2), .val (.long ((253402300799 : Int64) + (p2.toInt64))), .second, .val (.int (p1 &&& (3 : Int32))), .unset] []))
        refine own_go (fun _ k => XS.iconst X0.here hx rfl (hb hby at_64) k) ?_
        show own_Ends _ _ _ _ (s₁.setTop (mkF m 65 #[.val (.long q0), .second, .val (.int p1), .val (.int p2), .val (.long ((253402300799 : Int64) + (p2.toInt64))), .second, .val (.int (p1 &&& (3 : Int32))), .unset] [(.int (0 : Int32))]))
        refine own_go (fun _ k => XS.istore X0.here hx rfl (hb hby at_65) rfl (l' := #[.val (.long q0), .second, .val (.int p1), .val (.int p2), .val (.long ((253402300799 : Int64) + (p2.toInt64))), .second, .val (.int (p1 &&& (3 : Int32))), .val (.int (0 : Int32))]) rfl k) ?_
        show own_Ends _ _ _ _ (s₁.setTop (mkF m 67 #[.val (.long q0), .second, .val (.int p1), .val (.int p2), .val (.long ((253402300799 : Int64) + (p2.toInt64))), .second, .val (.int (p1 &&& (3 : Int32))), .val (.int (0 : Int32))] []))
        refine own_go (fun _ k => XS.lload X0.here hx rfl (hb hby at_67) rfl k) ?_
        show own_Ends _ _ _ _ (s₁.setTop (mkF m 69 #[.val (.long q0), .second, .val (.int p1), .val (.int p2), .val (.long ((253402300799 : Int64) + (p2.toInt64))), .second, .val (.int (p1 &&& (3 : Int32))), .val (.int (0 : Int32))] [(.long ((253402300799 : Int64) + (p2.toInt64)))]))
        obtain ⟨_, _, ⟨T9, Lz9, kz9, nz9⟩, -, X9, ⟨Lc9, hQ9, l9, y9, z9⟩, st9⟩ := Jvm.LawKit.callS X0 hx (y := (⟨"com/example/reckon/reckon/io/Timestamps", "holds", "(J)Z"⟩ : MethodName)) hown (mvT hZ (hw _ (List.mem_of_getElem? (i := 2) rfl))) (mvT hZ (hw _ (List.mem_of_getElem? (i := 3) rfl))) (mvT hZ (hw _ (List.mem_of_getElem? (i := 4) rfl))) (mvT hZ (hw _ (List.mem_of_getElem? (i := 5) rfl))) (by decide) (backOf (W := 0) (own_holds l Z a0 hw [] ((253402300799 : Int64) + (p2.toInt64)) (0 : Int32) h0 n0 O0 S_EARLIEST S_LATEST (by rw [if_pos hc48_7])) hZ (hw _ (List.mem_of_getElem? (i := 5) rfl)) (hw _ (List.mem_of_getElem? (i := 4) rfl)) (by decide) (by decide)) (g := (mkF m 69 #[.val (.long q0), .second, .val (.int p1), .val (.int p2), .val (.long ((253402300799 : Int64) + (p2.toInt64))), .second, .val (.int (p1 &&& (3 : Int32))), .val (.int (0 : Int32))] [(.long ((253402300799 : Int64) + (p2.toInt64)))])) rfl (by rw [hml]; rfl) (argsL := [(.long ((253402300799 : Int64) + (p2.toInt64)))]) (rest := []) (lenOf own_pd0 rfl) rfl (by show 2 * 0 + _ ≤ _; exact Nat.le_of_eq rfl) (hb hby at_69) (fun _ _ => ⟨rfl, e0, (by decide : 0 + 0 ≤ _), (by decide : 0 + 0 ≤ _)⟩)
        dsimp only [Pt.U, Pt.locs, Pt.cells, Pt.slots] at X9 l9 y9 z9 st9 hQ9
        subst l9 y9 z9
        obtain ⟨rfl, Nq9, e9⟩ := hQ9
        have N9 := Fr.app N0 Nq9
        refine own_go st9 ?_
        show own_Ends _ _ _ _ (T9.setTop (mkF m 72 #[.val (.long q0), .second, .val (.int p1), .val (.int p2), .val (.long ((253402300799 : Int64) + (p2.toInt64))), .second, .val (.int (p1 &&& (3 : Int32))), .val (.int (0 : Int32))] [(.int (0 : Int32))]))
        refine own_go (fun _ k => XS.iload X9.here hx rfl (hb hby at_72) rfl k) ?_
        show own_Ends _ _ _ _ (T9.setTop (mkF m 74 #[.val (.long q0), .second, .val (.int p1), .val (.int p2), .val (.long ((253402300799 : Int64) + (p2.toInt64))), .second, .val (.int (p1 &&& (3 : Int32))), .val (.int (0 : Int32))] [(.int (0 : Int32)), (.int (0 : Int32))]))
        refine own_go (fun _ k => XS.icmpNo X9.here hx rfl (hb hby at_74) rfl (teq (by decide : (0 : Int32) = (0 : Int32))).2 k) ?_
        show own_Ends _ _ _ _ (T9.setTop (mkF m 77 #[.val (.long q0), .second, .val (.int p1), .val (.int p2), .val (.long ((253402300799 : Int64) + (p2.toInt64))), .second, .val (.int (p1 &&& (3 : Int32))), .val (.int (0 : Int32))] []))
        refine own_go (fun _ k => XS.iconst X9.here hx rfl (hb hby at_77) k) ?_
        show own_Ends _ _ _ _ (T9.setTop (mkF m 78 #[.val (.long q0), .second, .val (.int p1), .val (.int p2), .val (.long ((253402300799 : Int64) + (p2.toInt64))), .second, .val (.int (p1 &&& (3 : Int32))), .val (.int (0 : Int32))] [(.int (1 : Int32))]))
        refine own_go (fun _ k => XS.goto X9.here hx rfl (pc0 := 78) (pc' := 82) rfl (hb hby at_78) (by decide) (by decide) k) ?_
        show own_Ends _ _ _ _ (T9.setTop (mkF m 82 #[.val (.long q0), .second, .val (.int p1), .val (.int p2), .val (.long ((253402300799 : Int64) + (p2.toInt64))), .second, .val (.int (p1 &&& (3 : Int32))), .val (.int (0 : Int32))] [(.int (1 : Int32))]))
        exact own_retZ X9 hx (BodyLoose.notSynchronized Bd) Bd.returns rfl (hb hby at_82) (by decide) (by decide) (by rw [e9]; exact ⟨rfl, N9⟩)
      · refine own_go (fun _ k => XS.ifNo X0.here hx rfl (hb hby at_48) rfl ((if0 _ _).trans (flt (mt (lw_lt ((253402300799 : Int64) + (p2.toInt64)) (-62167219200 : Int64)).mp hc48_7)).1) k) ?_
        show own_Ends _ _ _ _ (s₁.setTop (mkF m 51 #[.val (.long q0), .second, .val (.int p1), .val (.int p2), .val (.long ((253402300799 : Int64) + (p2.toInt64))), .second, .val (.int (p1 &&& (3 : Int32))), .unset] []))
        refine own_go (fun _ k => XS.lload X0.here hx rfl (hb hby at_51) rfl k) ?_
        show own_Ends _ _ _ _ (s₁.setTop (mkF m 53 #[.val (.long q0), .second, .val (.int p1), .val (.int p2), .val (.long ((253402300799 : Int64) + (p2.toInt64))), .second, .val (.int (p1 &&& (3 : Int32))), .unset] [(.long ((253402300799 : Int64) + (p2.toInt64)))]))
        refine own_go (X0.ldc2Long hx hown (mvT hZ (hw _ (List.mem_of_getElem? (i := 0) rfl))) (g := (mkF m 53 #[.val (.long q0), .second, .val (.int p1), .val (.int p2), .val (.long ((253402300799 : Int64) + (p2.toInt64))), .second, .val (.int (p1 &&& (3 : Int32))), .unset] [(.long ((253402300799 : Int64) + (p2.toInt64)))])) rfl (hb hby at_53)) ?_
        show own_Ends _ _ _ _ (s₁.setTop (mkF m 56 #[.val (.long q0), .second, .val (.int p1), .val (.int p2), .val (.long ((253402300799 : Int64) + (p2.toInt64))), .second, .val (.int (p1 &&& (3 : Int32))), .unset] [(.long (253402300799 : Int64)), (.long ((253402300799 : Int64) + (p2.toInt64)))]))
        refine own_go (fun _ k => XS.lcmp X0.here hx rfl (hb hby at_56) rfl k) ?_
        show own_Ends _ _ _ _ (s₁.setTop (mkF m 57 #[.val (.long q0), .second, .val (.int p1), .val (.int p2), .val (.long ((253402300799 : Int64) + (p2.toInt64))), .second, .val (.int (p1 &&& (3 : Int32))), .unset] [(.int (lcmpW ((253402300799 : Int64) + (p2.toInt64)) (253402300799 : Int64)))]))
        by_cases hc57_9 : (253402300799 : Int64) < ((253402300799 : Int64) + (p2.toInt64))
        · refine own_go (fun _ k => XS.ifYes X0.here hx rfl (pc0 := 57) (pc' := 64) rfl (hb hby at_57) rfl ((if0 _ _).trans (tlt ((lw_gt ((253402300799 : Int64) + (p2.toInt64)) (253402300799 : Int64)).mpr hc57_9)).2.2.1) (by decide) (by decide) k) ?_
          show own_Ends _ _ _ _ (s₁.setTop (mkF m 64 #[.val (.long q0), .second, .val (.int p1), .val (.int p2), .val (.long ((253402300799 : Int64) + (p2.toInt64))), .second, .val (.int (p1 &&& (3 : Int32))), .unset] []))
          refine own_go (fun _ k => XS.iconst X0.here hx rfl (hb hby at_64) k) ?_
          show own_Ends _ _ _ _ (s₁.setTop (mkF m 65 #[.val (.long q0), .second, .val (.int p1), .val (.int p2), .val (.long ((253402300799 : Int64) + (p2.toInt64))), .second, .val (.int (p1 &&& (3 : Int32))), .unset] [(.int (0 : Int32))]))
          refine own_go (fun _ k => XS.istore X0.here hx rfl (hb hby at_65) rfl (l' := #[.val (.long q0), .second, .val (.int p1), .val (.int p2), .val (.long ((253402300799 : Int64) + (p2.toInt64))), .second, .val (.int (p1 &&& (3 : Int32))), .val (.int (0 : Int32))]) rfl k) ?_
          show own_Ends _ _ _ _ (s₁.setTop (mkF m 67 #[.val (.long q0), .second, .val (.int p1), .val (.int p2), .val (.long ((253402300799 : Int64) + (p2.toInt64))), .second, .val (.int (p1 &&& (3 : Int32))), .val (.int (0 : Int32))] []))
          refine own_go (fun _ k => XS.lload X0.here hx rfl (hb hby at_67) rfl k) ?_
          show own_Ends _ _ _ _ (s₁.setTop (mkF m 69 #[.val (.long q0), .second, .val (.int p1), .val (.int p2), .val (.long ((253402300799 : Int64) + (p2.toInt64))), .second, .val (.int (p1 &&& (3 : Int32))), .val (.int (0 : Int32))] [(.long ((253402300799 : Int64) + (p2.toInt64)))]))
          obtain ⟨_, _, ⟨T11, Lz11, kz11, nz11⟩, -, X11, ⟨Lc11, hQ11, l11, y11, z11⟩, st11⟩ := Jvm.LawKit.callS X0 hx (y := (⟨"com/example/reckon/reckon/io/Timestamps", "holds", "(J)Z"⟩ : MethodName)) hown (mvT hZ (hw _ (List.mem_of_getElem? (i := 2) rfl))) (mvT hZ (hw _ (List.mem_of_getElem? (i := 3) rfl))) (mvT hZ (hw _ (List.mem_of_getElem? (i := 4) rfl))) (mvT hZ (hw _ (List.mem_of_getElem? (i := 5) rfl))) (by decide) (backOf (W := 0) (own_holds l Z a0 hw [] ((253402300799 : Int64) + (p2.toInt64)) (0 : Int32) h0 n0 O0 S_EARLIEST S_LATEST (by rw [if_neg hc48_7, if_pos hc57_9])) hZ (hw _ (List.mem_of_getElem? (i := 5) rfl)) (hw _ (List.mem_of_getElem? (i := 4) rfl)) (by decide) (by decide)) (g := (mkF m 69 #[.val (.long q0), .second, .val (.int p1), .val (.int p2), .val (.long ((253402300799 : Int64) + (p2.toInt64))), .second, .val (.int (p1 &&& (3 : Int32))), .val (.int (0 : Int32))] [(.long ((253402300799 : Int64) + (p2.toInt64)))])) rfl (by rw [hml]; rfl) (argsL := [(.long ((253402300799 : Int64) + (p2.toInt64)))]) (rest := []) (lenOf own_pd0 rfl) rfl (by show 2 * 0 + _ ≤ _; exact Nat.le_of_eq rfl) (hb hby at_69) (fun _ _ => ⟨rfl, e0, (by decide : 0 + 0 ≤ _), (by decide : 0 + 0 ≤ _)⟩)
          dsimp only [Pt.U, Pt.locs, Pt.cells, Pt.slots] at X11 l11 y11 z11 st11 hQ11
          subst l11 y11 z11
          obtain ⟨rfl, Nq11, e11⟩ := hQ11
          have N11 := Fr.app N0 Nq11
          refine own_go st11 ?_
          show own_Ends _ _ _ _ (T11.setTop (mkF m 72 #[.val (.long q0), .second, .val (.int p1), .val (.int p2), .val (.long ((253402300799 : Int64) + (p2.toInt64))), .second, .val (.int (p1 &&& (3 : Int32))), .val (.int (0 : Int32))] [(.int (0 : Int32))]))
          refine own_go (fun _ k => XS.iload X11.here hx rfl (hb hby at_72) rfl k) ?_
          show own_Ends _ _ _ _ (T11.setTop (mkF m 74 #[.val (.long q0), .second, .val (.int p1), .val (.int p2), .val (.long ((253402300799 : Int64) + (p2.toInt64))), .second, .val (.int (p1 &&& (3 : Int32))), .val (.int (0 : Int32))] [(.int (0 : Int32)), (.int (0 : Int32))]))
          refine own_go (fun _ k => XS.icmpNo X11.here hx rfl (hb hby at_74) rfl (teq (by decide : (0 : Int32) = (0 : Int32))).2 k) ?_
          show own_Ends _ _ _ _ (T11.setTop (mkF m 77 #[.val (.long q0), .second, .val (.int p1), .val (.int p2), .val (.long ((253402300799 : Int64) + (p2.toInt64))), .second, .val (.int (p1 &&& (3 : Int32))), .val (.int (0 : Int32))] []))
          refine own_go (fun _ k => XS.iconst X11.here hx rfl (hb hby at_77) k) ?_
          show own_Ends _ _ _ _ (T11.setTop (mkF m 78 #[.val (.long q0), .second, .val (.int p1), .val (.int p2), .val (.long ((253402300799 : Int64) + (p2.toInt64))), .second, .val (.int (p1 &&& (3 : Int32))), .val (.int (0 : Int32))] [(.int (1 : Int32))]))
          refine own_go (fun _ k => XS.goto X11.here hx rfl (pc0 := 78) (pc' := 82) rfl (hb hby at_78) (by decide) (by decide) k) ?_
          show own_Ends _ _ _ _ (T11.setTop (mkF m 82 #[.val (.long q0), .second, .val (.int p1), .val (.int p2), .val (.long ((253402300799 : Int64) + (p2.toInt64))), .second, .val (.int (p1 &&& (3 : Int32))), .val (.int (0 : Int32))] [(.int (1 : Int32))]))
          exact own_retZ X11 hx (BodyLoose.notSynchronized Bd) Bd.returns rfl (hb hby at_82) (by decide) (by decide) (by rw [e11]; exact ⟨rfl, N11⟩)
        · refine own_go (fun _ k => XS.ifNo X0.here hx rfl (hb hby at_57) rfl ((if0 _ _).trans (flt (mt (lw_gt ((253402300799 : Int64) + (p2.toInt64)) (253402300799 : Int64)).mp hc57_9)).2.2.1) k) ?_
          show own_Ends _ _ _ _ (s₁.setTop (mkF m 60 #[.val (.long q0), .second, .val (.int p1), .val (.int p2), .val (.long ((253402300799 : Int64) + (p2.toInt64))), .second, .val (.int (p1 &&& (3 : Int32))), .unset] []))
          refine own_go (fun _ k => XS.iconst X0.here hx rfl (hb hby at_60) k) ?_
          show own_Ends _ _ _ _ (s₁.setTop (mkF m 61 #[.val (.long q0), .second, .val (.int p1), .val (.int p2), .val (.long ((253402300799 : Int64) + (p2.toInt64))), .second, .val (.int (p1 &&& (3 : Int32))), .unset] [(.int (1 : Int32))]))
          refine own_go (fun _ k => XS.goto X0.here hx rfl (pc0 := 61) (pc' := 65) rfl (hb hby at_61) (by decide) (by decide) k) ?_
          show own_Ends _ _ _ _ (s₁.setTop (mkF m 65 #[.val (.long q0), .second, .val (.int p1), .val (.int p2), .val (.long ((253402300799 : Int64) + (p2.toInt64))), .second, .val (.int (p1 &&& (3 : Int32))), .unset] [(.int (1 : Int32))]))
          refine own_go (fun _ k => XS.istore X0.here hx rfl (hb hby at_65) rfl (l' := #[.val (.long q0), .second, .val (.int p1), .val (.int p2), .val (.long ((253402300799 : Int64) + (p2.toInt64))), .second, .val (.int (p1 &&& (3 : Int32))), .val (.int (1 : Int32))]) rfl k) ?_
          show own_Ends _ _ _ _ (s₁.setTop (mkF m 67 #[.val (.long q0), .second, .val (.int p1), .val (.int p2), .val (.long ((253402300799 : Int64) + (p2.toInt64))), .second, .val (.int (p1 &&& (3 : Int32))), .val (.int (1 : Int32))] []))
          refine own_go (fun _ k => XS.lload X0.here hx rfl (hb hby at_67) rfl k) ?_
          show own_Ends _ _ _ _ (s₁.setTop (mkF m 69 #[.val (.long q0), .second, .val (.int p1), .val (.int p2), .val (.long ((253402300799 : Int64) + (p2.toInt64))), .second, .val (.int (p1 &&& (3 : Int32))), .val (.int (1 : Int32))] [(.long ((253402300799 : Int64) + (p2.toInt64)))]))
          obtain ⟨_, _, ⟨T12, Lz12, kz12, nz12⟩, -, X12, ⟨Lc12, hQ12, l12, y12, z12⟩, st12⟩ := Jvm.LawKit.callS X0 hx (y := (⟨"com/example/reckon/reckon/io/Timestamps", "holds", "(J)Z"⟩ : MethodName)) hown (mvT hZ (hw _ (List.mem_of_getElem? (i := 2) rfl))) (mvT hZ (hw _ (List.mem_of_getElem? (i := 3) rfl))) (mvT hZ (hw _ (List.mem_of_getElem? (i := 4) rfl))) (mvT hZ (hw _ (List.mem_of_getElem? (i := 5) rfl))) (by decide) (backOf (W := 0) (own_holds l Z a0 hw [] ((253402300799 : Int64) + (p2.toInt64)) (1 : Int32) h0 n0 O0 S_EARLIEST S_LATEST (by rw [if_neg hc48_7, if_neg hc57_9])) hZ (hw _ (List.mem_of_getElem? (i := 5) rfl)) (hw _ (List.mem_of_getElem? (i := 4) rfl)) (by decide) (by decide)) (g := (mkF m 69 #[.val (.long q0), .second, .val (.int p1), .val (.int p2), .val (.long ((253402300799 : Int64) + (p2.toInt64))), .second, .val (.int (p1 &&& (3 : Int32))), .val (.int (1 : Int32))] [(.long ((253402300799 : Int64) + (p2.toInt64)))])) rfl (by rw [hml]; rfl) (argsL := [(.long ((253402300799 : Int64) + (p2.toInt64)))]) (rest := []) (lenOf own_pd0 rfl) rfl (by show 2 * 0 + _ ≤ _; exact Nat.le_of_eq rfl) (hb hby at_69) (fun _ _ => ⟨rfl, e0, (by decide : 0 + 0 ≤ _), (by decide : 0 + 0 ≤ _)⟩)
          dsimp only [Pt.U, Pt.locs, Pt.cells, Pt.slots] at X12 l12 y12 z12 st12 hQ12
          subst l12 y12 z12
          obtain ⟨rfl, Nq12, e12⟩ := hQ12
          have N12 := Fr.app N0 Nq12
          refine own_go st12 ?_
          show own_Ends _ _ _ _ (T12.setTop (mkF m 72 #[.val (.long q0), .second, .val (.int p1), .val (.int p2), .val (.long ((253402300799 : Int64) + (p2.toInt64))), .second, .val (.int (p1 &&& (3 : Int32))), .val (.int (1 : Int32))] [(.int (1 : Int32))]))
          refine own_go (fun _ k => XS.iload X12.here hx rfl (hb hby at_72) rfl k) ?_
          show own_Ends _ _ _ _ (T12.setTop (mkF m 74 #[.val (.long q0), .second, .val (.int p1), .val (.int p2), .val (.long ((253402300799 : Int64) + (p2.toInt64))), .second, .val (.int (p1 &&& (3 : Int32))), .val (.int (1 : Int32))] [(.int (1 : Int32)), (.int (1 : Int32))]))
          refine own_go (fun _ k => XS.icmpNo X12.here hx rfl (hb hby at_74) rfl (teq (by decide : (1 : Int32) = (1 : Int32))).2 k) ?_
          show own_Ends _ _ _ _ (T12.setTop (mkF m 77 #[.val (.long q0), .second, .val (.int p1), .val (.int p2), .val (.long ((253402300799 : Int64) + (p2.toInt64))), .second, .val (.int (p1 &&& (3 : Int32))), .val (.int (1 : Int32))] []))
          refine own_go (fun _ k => XS.iconst X12.here hx rfl (hb hby at_77) k) ?_
          show own_Ends _ _ _ _ (T12.setTop (mkF m 78 #[.val (.long q0), .second, .val (.int p1), .val (.int p2), .val (.long ((253402300799 : Int64) + (p2.toInt64))), .second, .val (.int (p1 &&& (3 : Int32))), .val (.int (1 : Int32))] [(.int (1 : Int32))]))
          refine own_go (fun _ k => XS.goto X12.here hx rfl (pc0 := 78) (pc' := 82) rfl (hb hby at_78) (by decide) (by decide) k) ?_
          show own_Ends _ _ _ _ (T12.setTop (mkF m 82 #[.val (.long q0), .second, .val (.int p1), .val (.int p2), .val (.long ((253402300799 : Int64) + (p2.toInt64))), .second, .val (.int (p1 &&& (3 : Int32))), .val (.int (1 : Int32))] [(.int (1 : Int32))]))
          exact own_retZ X12 hx (BodyLoose.notSynchronized Bd) Bd.returns rfl (hb hby at_82) (by decide) (by decide) (by rw [e12]; exact ⟨rfl, N12⟩)
    · refine own_go (fun _ k => XS.icmpYes X0.here hx rfl (pc0 := 25) (pc' := 39) rfl (hb hby at_25) rfl (feq hc25_6).2 (by decide) (by decide) k) ?_
      show own_Ends _ _ _ _ (s₁.setTop (mkF m 39 #[.val (.long q0), .second, .val (.int p1), .val (.int p2), .unset, .unset, .val (.int (p1 &&& (3 : Int32))), .unset] []))
      refine own_go (fun _ k => XS.lloadN X0.here hx rfl (hb hby at_39) rfl k) ?_
      show own_Ends _ _ _ _ (s₁.setTop (mkF m 40 #[.val (.long q0), .second, .val (.int p1), .val (.int p2), .unset, .unset, .val (.int (p1 &&& (3 : Int32))), .unset] [(.long q0)]))
      refine own_go (fun _ k => XS.lstore X0.here hx rfl (hb hby at_40) rfl (l' := #[.val (.long q0), .second, .val (.int p1), .val (.int p2), .val (.long q0), .second, .val (.int (p1 &&& (3 : Int32))), .unset]) rfl k) ?_
      show own_Ends _ _ _ _ (s₁.setTop (mkF m 42 #[.val (.long q0), .second, .val (.int p1), .val (.int p2), .val (.long q0), .second, .val (.int (p1 &&& (3 : Int32))), .unset] []))
      refine own_go (fun _ k => XS.lload X0.here hx rfl (hb hby at_42) rfl k) ?_
      show own_Ends _ _ _ _ (s₁.setTop (mkF m 44 #[.val (.long q0), .second, .val (.int p1), .val (.int p2), .val (.long q0), .second, .val (.int (p1 &&& (3 : Int32))), .unset] [(.long q0)]))
      refine own_go (X0.ldc2Long hx hown (mvT hZ (hw _ (List.mem_of_getElem? (i := 1) rfl))) (g := (mkF m 44 #[.val (.long q0), .second, .val (.int p1), .val (.int p2), .val (.long q0), .second, .val (.int (p1 &&& (3 : Int32))), .unset] [(.long q0)])) rfl (hb hby at_44)) ?_
      show own_Ends _ _ _ _ (s₁.setTop (mkF m 47 #[.val (.long q0), .second, .val (.int p1), .val (.int p2), .val (.long q0), .second, .val (.int (p1 &&& (3 : Int32))), .unset] [(.long (-62167219200 : Int64)), (.long q0)]))
      refine own_go (fun _ k => XS.lcmp X0.here hx rfl (hb hby at_47) rfl k) ?_
      show own_Ends _ _ _ _ (s₁.setTop (mkF m 48 #[.val (.long q0), .second, .val (.int p1), .val (.int p2), .val (.long q0), .second, .val (.int (p1 &&& (3 : Int32))), .unset] [(.int (lcmpW q0 (-62167219200 : Int64)))]))
      by_cases hc48_12 : q0 < (-62167219200 : Int64)
      · refine own_go (fun _ k => XS.ifYes X0.here hx rfl (pc0 := 48) (pc' := 64) rfl (hb hby at_48) rfl ((if0 _ _).trans (tlt ((lw_lt q0 (-62167219200 : Int64)).mpr hc48_12)).1) (by decide) (by decide) k) ?_
        show own_Ends _ _ _ _ (s₁.setTop (mkF m 64 #[.val (.long q0), .second, .val (.int p1), .val (.int p2), .val (.long q0), .second, .val (.int (p1 &&& (3 : Int32))), .unset] []))
        refine own_go (fun _ k => XS.iconst X0.here hx rfl (hb hby at_64) k) ?_
        show own_Ends _ _ _ _ (s₁.setTop (mkF m 65 #[.val (.long q0), .second, .val (.int p1), .val (.int p2), .val (.long q0), .second, .val (.int (p1 &&& (3 : Int32))), .unset] [(.int (0 : Int32))]))
        refine own_go (fun _ k => XS.istore X0.here hx rfl (hb hby at_65) rfl (l' := #[.val (.long q0), .second, .val (.int p1), .val (.int p2), .val (.long q0), .second, .val (.int (p1 &&& (3 : Int32))), .val (.int (0 : Int32))]) rfl k) ?_
        show own_Ends _ _ _ _ (s₁.setTop (mkF m 67 #[.val (.long q0), .second, .val (.int p1), .val (.int p2), .val (.long q0), .second, .val (.int (p1 &&& (3 : Int32))), .val (.int (0 : Int32))] []))
        refine own_go (fun _ k => XS.lload X0.here hx rfl (hb hby at_67) rfl k) ?_
        show own_Ends _ _ _ _ (s₁.setTop (mkF m 69 #[.val (.long q0), .second, .val (.int p1), .val (.int p2), .val (.long q0), .second, .val (.int (p1 &&& (3 : Int32))), .val (.int (0 : Int32))] [(.long q0)]))
        obtain ⟨_, _, ⟨T14, Lz14, kz14, nz14⟩, -, X14, ⟨Lc14, hQ14, l14, y14, z14⟩, st14⟩ := Jvm.LawKit.callS X0 hx (y := (⟨"com/example/reckon/reckon/io/Timestamps", "holds", "(J)Z"⟩ : MethodName)) hown (mvT hZ (hw _ (List.mem_of_getElem? (i := 2) rfl))) (mvT hZ (hw _ (List.mem_of_getElem? (i := 3) rfl))) (mvT hZ (hw _ (List.mem_of_getElem? (i := 4) rfl))) (mvT hZ (hw _ (List.mem_of_getElem? (i := 5) rfl))) (by decide) (backOf (W := 0) (own_holds l Z a0 hw [] q0 (0 : Int32) h0 n0 O0 S_EARLIEST S_LATEST (by rw [if_pos hc48_12])) hZ (hw _ (List.mem_of_getElem? (i := 5) rfl)) (hw _ (List.mem_of_getElem? (i := 4) rfl)) (by decide) (by decide)) (g := (mkF m 69 #[.val (.long q0), .second, .val (.int p1), .val (.int p2), .val (.long q0), .second, .val (.int (p1 &&& (3 : Int32))), .val (.int (0 : Int32))] [(.long q0)])) rfl (by rw [hml]; rfl) (argsL := [(.long q0)]) (rest := []) (lenOf own_pd0 rfl) rfl (by show 2 * 0 + _ ≤ _; exact Nat.le_of_eq rfl) (hb hby at_69) (fun _ _ => ⟨rfl, e0, (by decide : 0 + 0 ≤ _), (by decide : 0 + 0 ≤ _)⟩)
        dsimp only [Pt.U, Pt.locs, Pt.cells, Pt.slots] at X14 l14 y14 z14 st14 hQ14
        subst l14 y14 z14
        obtain ⟨rfl, Nq14, e14⟩ := hQ14
        have N14 := Fr.app N0 Nq14
        refine own_go st14 ?_
        show own_Ends _ _ _ _ (T14.setTop (mkF m 72 #[.val (.long q0), .second, .val (.int p1), .val (.int p2), .val (.long q0), .second, .val (.int (p1 &&& (3 : Int32))), .val (.int (0 : Int32))] [(.int (0 : Int32))]))
        refine own_go (fun _ k => XS.iload X14.here hx rfl (hb hby at_72) rfl k) ?_
        show own_Ends _ _ _ _ (T14.setTop (mkF m 74 #[.val (.long q0), .second, .val (.int p1), .val (.int p2), .val (.long q0), .second, .val (.int (p1 &&& (3 : Int32))), .val (.int (0 : Int32))] [(.int (0 : Int32)), (.int (0 : Int32))]))
        refine own_go (fun _ k => XS.icmpNo X14.here hx rfl (hb hby at_74) rfl (teq (by decide : (0 : Int32) = (0 : Int32))).2 k) ?_
        show own_Ends _ _ _ _ (T14.setTop (mkF m 77 #[.val (.long q0), .second, .val (.int p1), .val (.int p2), .val (.long q0), .second, .val (.int (p1 &&& (3 : Int32))), .val (.int (0 : Int32))] []))
        refine own_go (fun _ k => XS.iconst X14.here hx rfl (hb hby at_77) k) ?_
        show own_Ends _ _ _ _ (T14.setTop (mkF m 78 #[.val (.long q0), .second, .val (.int p1), .val (.int p2), .val (.long q0), .second, .val (.int (p1 &&& (3 : Int32))), .val (.int (0 : Int32))] [(.int (1 : Int32))]))
        refine own_go (fun _ k => XS.goto X14.here hx rfl (pc0 := 78) (pc' := 82) rfl (hb hby at_78) (by decide) (by decide) k) ?_
        show own_Ends _ _ _ _ (T14.setTop (mkF m 82 #[.val (.long q0), .second, .val (.int p1), .val (.int p2), .val (.long q0), .second, .val (.int (p1 &&& (3 : Int32))), .val (.int (0 : Int32))] [(.int (1 : Int32))]))
        exact own_retZ X14 hx (BodyLoose.notSynchronized Bd) Bd.returns rfl (hb hby at_82) (by decide) (by decide) (by rw [e14]; exact ⟨rfl, N14⟩)
      · refine own_go (fun _ k => XS.ifNo X0.here hx rfl (hb hby at_48) rfl ((if0 _ _).trans (flt (mt (lw_lt q0 (-62167219200 : Int64)).mp hc48_12)).1) k) ?_
        show own_Ends _ _ _ _ (s₁.setTop (mkF m 51 #[.val (.long q0), .second, .val (.int p1), .val (.int p2), .val (.long q0), .second, .val (.int (p1 &&& (3 : Int32))), .unset] []))
        refine own_go (fun _ k => XS.lload X0.here hx rfl (hb hby at_51) rfl k) ?_
        show own_Ends _ _ _ _ (s₁.setTop (mkF m 53 #[.val (.long q0), .second, .val (.int p1), .val (.int p2), .val (.long q0), .second, .val (.int (p1 &&& (3 : Int32))), .unset] [(.long q0)]))
        refine own_go (X0.ldc2Long hx hown (mvT hZ (hw _ (List.mem_of_getElem? (i := 0) rfl))) (g := (mkF m 53 #[.val (.long q0), .second, .val (.int p1), .val (.int p2), .val (.long q0), .second, .val (.int (p1 &&& (3 : Int32))), .unset] [(.long q0)])) rfl (hb hby at_53)) ?_
        show own_Ends _ _ _ _ (s₁.setTop (mkF m 56 #[.val (.long q0), .second, .val (.int p1), .val (.int p2), .val (.long q0), .second, .val (.int (p1 &&& (3 : Int32))), .unset] [(.long (253402300799 : Int64)), (.long q0)]))
        refine own_go (fun _ k => XS.lcmp X0.here hx rfl (hb hby at_56) rfl k) ?_
        show own_Ends _ _ _ _ (s₁.setTop (mkF m 57 #[.val (.long q0), .second, .val (.int p1), .val (.int p2), .val (.long q0), .second, .val (.int (p1 &&& (3 : Int32))), .unset] [(.int (lcmpW q0 (253402300799 : Int64)))]))
        by_cases hc57_14 : (253402300799 : Int64) < q0
        · refine own_go (fun _ k => XS.ifYes X0.here hx rfl (pc0 := 57) (pc' := 64) rfl (hb hby at_57) rfl ((if0 _ _).trans (tlt ((lw_gt q0 (253402300799 : Int64)).mpr hc57_14)).2.2.1) (by decide) (by decide) k) ?_
          show own_Ends _ _ _ _ (s₁.setTop (mkF m 64 #[.val (.long q0), .second, .val (.int p1), .val (.int p2), .val (.long q0), .second, .val (.int (p1 &&& (3 : Int32))), .unset] []))
          refine own_go (fun _ k => XS.iconst X0.here hx rfl (hb hby at_64) k) ?_
          show own_Ends _ _ _ _ (s₁.setTop (mkF m 65 #[.val (.long q0), .second, .val (.int p1), .val (.int p2), .val (.long q0), .second, .val (.int (p1 &&& (3 : Int32))), .unset] [(.int (0 : Int32))]))
          refine own_go (fun _ k => XS.istore X0.here hx rfl (hb hby at_65) rfl (l' := #[.val (.long q0), .second, .val (.int p1), .val (.int p2), .val (.long q0), .second, .val (.int (p1 &&& (3 : Int32))), .val (.int (0 : Int32))]) rfl k) ?_
          show own_Ends _ _ _ _ (s₁.setTop (mkF m 67 #[.val (.long q0), .second, .val (.int p1), .val (.int p2), .val (.long q0), .second, .val (.int (p1 &&& (3 : Int32))), .val (.int (0 : Int32))] []))
          refine own_go (fun _ k => XS.lload X0.here hx rfl (hb hby at_67) rfl k) ?_
          show own_Ends _ _ _ _ (s₁.setTop (mkF m 69 #[.val (.long q0), .second, .val (.int p1), .val (.int p2), .val (.long q0), .second, .val (.int (p1 &&& (3 : Int32))), .val (.int (0 : Int32))] [(.long q0)]))
          obtain ⟨_, _, ⟨T16, Lz16, kz16, nz16⟩, -, X16, ⟨Lc16, hQ16, l16, y16, z16⟩, st16⟩ := Jvm.LawKit.callS X0 hx (y := (⟨"com/example/reckon/reckon/io/Timestamps", "holds", "(J)Z"⟩ : MethodName)) hown (mvT hZ (hw _ (List.mem_of_getElem? (i := 2) rfl))) (mvT hZ (hw _ (List.mem_of_getElem? (i := 3) rfl))) (mvT hZ (hw _ (List.mem_of_getElem? (i := 4) rfl))) (mvT hZ (hw _ (List.mem_of_getElem? (i := 5) rfl))) (by decide) (backOf (W := 0) (own_holds l Z a0 hw [] q0 (0 : Int32) h0 n0 O0 S_EARLIEST S_LATEST (by rw [if_neg hc48_12, if_pos hc57_14])) hZ (hw _ (List.mem_of_getElem? (i := 5) rfl)) (hw _ (List.mem_of_getElem? (i := 4) rfl)) (by decide) (by decide)) (g := (mkF m 69 #[.val (.long q0), .second, .val (.int p1), .val (.int p2), .val (.long q0), .second, .val (.int (p1 &&& (3 : Int32))), .val (.int (0 : Int32))] [(.long q0)])) rfl (by rw [hml]; rfl) (argsL := [(.long q0)]) (rest := []) (lenOf own_pd0 rfl) rfl (by show 2 * 0 + _ ≤ _; exact Nat.le_of_eq rfl) (hb hby at_69) (fun _ _ => ⟨rfl, e0, (by decide : 0 + 0 ≤ _), (by decide : 0 + 0 ≤ _)⟩)
          dsimp only [Pt.U, Pt.locs, Pt.cells, Pt.slots] at X16 l16 y16 z16 st16 hQ16
          subst l16 y16 z16
          obtain ⟨rfl, Nq16, e16⟩ := hQ16
          have N16 := Fr.app N0 Nq16
          refine own_go st16 ?_
          show own_Ends _ _ _ _ (T16.setTop (mkF m 72 #[.val (.long q0), .second, .val (.int p1), .val (.int p2), .val (.long q0), .second, .val (.int (p1 &&& (3 : Int32))), .val (.int (0 : Int32))] [(.int (0 : Int32))]))
          refine own_go (fun _ k => XS.iload X16.here hx rfl (hb hby at_72) rfl k) ?_
          show own_Ends _ _ _ _ (T16.setTop (mkF m 74 #[.val (.long q0), .second, .val (.int p1), .val (.int p2), .val (.long q0), .second, .val (.int (p1 &&& (3 : Int32))), .val (.int (0 : Int32))] [(.int (0 : Int32)), (.int (0 : Int32))]))
          refine own_go (fun _ k => XS.icmpNo X16.here hx rfl (hb hby at_74) rfl (teq (by decide : (0 : Int32) = (0 : Int32))).2 k) ?_
          show own_Ends _ _ _ _ (T16.setTop (mkF m 77 #[.val (.long q0), .second, .val (.int p1), .val (.int p2), .val (.long q0), .second, .val (.int (p1 &&& (3 : Int32))), .val (.int (0 : Int32))] []))
          refine own_go (fun _ k => XS.iconst X16.here hx rfl (hb hby at_77) k) ?_
          show own_Ends _ _ _ _ (T16.setTop (mkF m 78 #[.val (.long q0), .second, .val (.int p1), .val (.int p2), .val (.long q0), .second, .val (.int (p1 &&& (3 : Int32))), .val (.int (0 : Int32))] [(.int (1 : Int32))]))
          refine own_go (fun _ k => XS.goto X16.here hx rfl (pc0 := 78) (pc' := 82) rfl (hb hby at_78) (by decide) (by decide) k) ?_
          show own_Ends _ _ _ _ (T16.setTop (mkF m 82 #[.val (.long q0), .second, .val (.int p1), .val (.int p2), .val (.long q0), .second, .val (.int (p1 &&& (3 : Int32))), .val (.int (0 : Int32))] [(.int (1 : Int32))]))
          exact own_retZ X16 hx (BodyLoose.notSynchronized Bd) Bd.returns rfl (hb hby at_82) (by decide) (by decide) (by rw [e16]; exact ⟨rfl, N16⟩)
        · refine own_go (fun _ k => XS.ifNo X0.here hx rfl (hb hby at_57) rfl ((if0 _ _).trans (flt (mt (lw_gt q0 (253402300799 : Int64)).mp hc57_14)).2.2.1) k) ?_
          show own_Ends _ _ _ _ (s₁.setTop (mkF m 60 #[.val (.long q0), .second, .val (.int p1), .val (.int p2), .val (.long q0), .second, .val (.int (p1 &&& (3 : Int32))), .unset] []))
          refine own_go (fun _ k => XS.iconst X0.here hx rfl (hb hby at_60) k) ?_
          show own_Ends _ _ _ _ (s₁.setTop (mkF m 61 #[.val (.long q0), .second, .val (.int p1), .val (.int p2), .val (.long q0), .second, .val (.int (p1 &&& (3 : Int32))), .unset] [(.int (1 : Int32))]))
          refine own_go (fun _ k => XS.goto X0.here hx rfl (pc0 := 61) (pc' := 65) rfl (hb hby at_61) (by decide) (by decide) k) ?_
          show own_Ends _ _ _ _ (s₁.setTop (mkF m 65 #[.val (.long q0), .second, .val (.int p1), .val (.int p2), .val (.long q0), .second, .val (.int (p1 &&& (3 : Int32))), .unset] [(.int (1 : Int32))]))
          refine own_go (fun _ k => XS.istore X0.here hx rfl (hb hby at_65) rfl (l' := #[.val (.long q0), .second, .val (.int p1), .val (.int p2), .val (.long q0), .second, .val (.int (p1 &&& (3 : Int32))), .val (.int (1 : Int32))]) rfl k) ?_
          show own_Ends _ _ _ _ (s₁.setTop (mkF m 67 #[.val (.long q0), .second, .val (.int p1), .val (.int p2), .val (.long q0), .second, .val (.int (p1 &&& (3 : Int32))), .val (.int (1 : Int32))] []))
          refine own_go (fun _ k => XS.lload X0.here hx rfl (hb hby at_67) rfl k) ?_
          show own_Ends _ _ _ _ (s₁.setTop (mkF m 69 #[.val (.long q0), .second, .val (.int p1), .val (.int p2), .val (.long q0), .second, .val (.int (p1 &&& (3 : Int32))), .val (.int (1 : Int32))] [(.long q0)]))
          obtain ⟨_, _, ⟨T17, Lz17, kz17, nz17⟩, -, X17, ⟨Lc17, hQ17, l17, y17, z17⟩, st17⟩ := Jvm.LawKit.callS X0 hx (y := (⟨"com/example/reckon/reckon/io/Timestamps", "holds", "(J)Z"⟩ : MethodName)) hown (mvT hZ (hw _ (List.mem_of_getElem? (i := 2) rfl))) (mvT hZ (hw _ (List.mem_of_getElem? (i := 3) rfl))) (mvT hZ (hw _ (List.mem_of_getElem? (i := 4) rfl))) (mvT hZ (hw _ (List.mem_of_getElem? (i := 5) rfl))) (by decide) (backOf (W := 0) (own_holds l Z a0 hw [] q0 (1 : Int32) h0 n0 O0 S_EARLIEST S_LATEST (by rw [if_neg hc48_12, if_neg hc57_14])) hZ (hw _ (List.mem_of_getElem? (i := 5) rfl)) (hw _ (List.mem_of_getElem? (i := 4) rfl)) (by decide) (by decide)) (g := (mkF m 69 #[.val (.long q0), .second, .val (.int p1), .val (.int p2), .val (.long q0), .second, .val (.int (p1 &&& (3 : Int32))), .val (.int (1 : Int32))] [(.long q0)])) rfl (by rw [hml]; rfl) (argsL := [(.long q0)]) (rest := []) (lenOf own_pd0 rfl) rfl (by show 2 * 0 + _ ≤ _; exact Nat.le_of_eq rfl) (hb hby at_69) (fun _ _ => ⟨rfl, e0, (by decide : 0 + 0 ≤ _), (by decide : 0 + 0 ≤ _)⟩)
          dsimp only [Pt.U, Pt.locs, Pt.cells, Pt.slots] at X17 l17 y17 z17 st17 hQ17
          subst l17 y17 z17
          obtain ⟨rfl, Nq17, e17⟩ := hQ17
          have N17 := Fr.app N0 Nq17
          refine own_go st17 ?_
          show own_Ends _ _ _ _ (T17.setTop (mkF m 72 #[.val (.long q0), .second, .val (.int p1), .val (.int p2), .val (.long q0), .second, .val (.int (p1 &&& (3 : Int32))), .val (.int (1 : Int32))] [(.int (1 : Int32))]))
          refine own_go (fun _ k => XS.iload X17.here hx rfl (hb hby at_72) rfl k) ?_
          show own_Ends _ _ _ _ (T17.setTop (mkF m 74 #[.val (.long q0), .second, .val (.int p1), .val (.int p2), .val (.long q0), .second, .val (.int (p1 &&& (3 : Int32))), .val (.int (1 : Int32))] [(.int (1 : Int32)), (.int (1 : Int32))]))
          refine own_go (fun _ k => XS.icmpNo X17.here hx rfl (hb hby at_74) rfl (teq (by decide : (1 : Int32) = (1 : Int32))).2 k) ?_
          show own_Ends _ _ _ _ (T17.setTop (mkF m 77 #[.val (.long q0), .second, .val (.int p1), .val (.int p2), .val (.long q0), .second, .val (.int (p1 &&& (3 : Int32))), .val (.int (1 : Int32))] []))
          refine own_go (fun _ k => XS.iconst X17.here hx rfl (hb hby at_77) k) ?_
          show own_Ends _ _ _ _ (T17.setTop (mkF m 78 #[.val (.long q0), .second, .val (.int p1), .val (.int p2), .val (.long q0), .second, .val (.int (p1 &&& (3 : Int32))), .val (.int (1 : Int32))] [(.int (1 : Int32))]))
          refine own_go (fun _ k => XS.goto X17.here hx rfl (pc0 := 78) (pc' := 82) rfl (hb hby at_78) (by decide) (by decide) k) ?_
          show own_Ends _ _ _ _ (T17.setTop (mkF m 82 #[.val (.long q0), .second, .val (.int p1), .val (.int p2), .val (.long q0), .second, .val (.int (p1 &&& (3 : Int32))), .val (.int (1 : Int32))] [(.int (1 : Int32))]))
          exact own_retZ X17 hx (BodyLoose.notSynchronized Bd) Bd.returns rfl (hb hby at_82) (by decide) (by decide) (by rw [e17]; exact ⟨rfl, N17⟩)
set_option maxRecDepth 65536 in
set_option maxHeartbeats 40000000 in
theorem comes_1 {Post : Tables → Env → Array Value → State → Outcome → State → Prop} (hpost : ∀ tb e args s v u, (limb_1_1.after args s (.returned v) u = true ∧ limb_1_2.after args s (.returned v) u = true ∧ True) → FrameEnd s (.returned v) u (Jvm.fieldLocs frame_1_writes args s ++ Jvm.arrayLocs frame_1_arrays args s ++ Jvm.staticLocs frame_1_statics s) 0 0 → Post tb e args s (.returned v) u) :
    ArmFor flags0 classFile x code maxLocals ret World_1 tables_1 room_1 Calls_1 rest_1 Pre_1 Post := by
  intro l hfl _ _ p e ha hc hk s m args below hf hA hF happ hP
  obtain ⟨hcalls, hrest, hpre⟩ := hP
  obtain ⟨-, -, -, hnamed, -, -, -, hat⟩ := (Spec.applies_iff hf).mp happ
  obtain ⟨hg, hn⟩ := and_e (Cond.before_iff.mp (show (Jvm.Cond.and given_1 narrow_1).before args s = true from hpre))
  obtain ⟨hg0, hr0⟩ := and_e hg
  obtain ⟨hg1, hr1⟩ := and_e hr0
  obtain ⟨hg2, hg3⟩ := and_e hr1
  obtain ⟨w0, w1, w2, rfl⟩ : ∃ w0 w1 w2 : Value, args = #[w0, w1, w2] := by
    have hs : args.size = 3 := by simpa [Cond.value, given_1] using hg0
    obtain ⟨L⟩ := args
    match L, hs with
    | [w0, w1, w2], _ => exact ⟨w0, w1, w2, rfl⟩
  have hw := fun d (hd : d ∈ tables_1) => atoms_spec (ws := Jvm.Cond.code x code maxLocals ret :: tables_1) hat d (List.mem_cons_of_mem _ hd)
  have hfit : Fit s := fun {y c} hc i hi => by
    obtain ⟨ha, rfl⟩ := Array.getElem?_eq_some_iff.mp hc
    have q := List.all_eq_true.mp ((Array.all_eq_true_iff_forall_mem.mp hF) _ (Array.getElem_mem ha)) i (List.mem_range.mpr hi)
    simpa [Array.getElem?_eq_getElem hi] using q
  obtain ⟨i0, ei0⟩ := isL_v hg1
  obtain rfl : w0 = (.long i0) := Option.some.inj ei0
  obtain ⟨i1, ei1⟩ := is_v hg2
  obtain rfl : w1 = (.int i1) := Option.some.inj ei1
  obtain ⟨i2, ei2⟩ := is_v hg3
  obtain rfl : w2 = (.int i2) := Option.some.inj ei2
  obtain ⟨hn0, hm0⟩ := and_e hn
  have S_EARLIEST : Sta s s.heap "com/example/reckon/reckon/io/Timestamps" "EARLIEST" "J" (.long (-62167219200 : Int64)) := Sta.start (own_staJ hn0) (Or.inr ⟨(hw _ (List.mem_of_getElem? (i := 4) rfl)), (hw _ (List.mem_of_getElem? (i := 7) rfl))⟩)
  have S_LATEST : Sta s s.heap "com/example/reckon/reckon/io/Timestamps" "LATEST" "J" (.long (253402300799 : Int64)) := Sta.start (own_staJ hm0) (Or.inr ⟨(hw _ (List.mem_of_getElem? (i := 4) rfl)), (hw _ (List.mem_of_getElem? (i := 9) rfl))⟩)
  obtain ⟨n, o, h1, h2, h3, _, L, rfl, ⟨rfl, N⟩, hq⟩ := own_law l s _ hw tables_1 i0 i1 i2 s.heap s.heap.size (Old.start s) S_EARLIEST S_LATEST p e ha hc hk s m _ below hf ((Spec.applies_iff_loose hf).mp happ).1 ⟨rfl, State.Warmed39.refl s, rfl⟩ trivial
  refine ⟨n, _, h1, h2, h3, hpost _ _ _ _ _ _ ⟨Cond.after_iff.mpr rfl, Cond.after_iff.mpr (eq_i res_at (Term.int_eval (1)) rfl), trivial⟩ ⟨hq.1, hq.2.1, (hq.2.2.sift fun y hy => Or.inr (N y hy)).mono (by decide) (by decide)⟩⟩
theorem main_1_1 : Claimed_1_1 := comes_1 fun _ _ _ _ _ _ h hF => ⟨h.1, hF⟩
theorem main_1_2 : Claimed_1_2 := comes_1 fun _ _ _ _ _ _ h hF => ⟨h.2.1, hF⟩
end Jvm.Pilot.@@N@@
namespace Jvm.Pilot.@@N@@
open Jvm Jvm.ClassFile Sem Op Lib Jvm.Free Jvm.Stand Jvm.Pilot.@@N@@.Jvm.D
/-! MADE BY PROGRAM (witnessworld.py) out of the Statement's table words and the real class files: 7 classes; the members and pool entries that the words name. The judged class is class 1, her method 1. -/
namespace start1
open Jvm.ClassFile
def u (s : String) : CpInfo := .utf8 (stringToUtf16 s)
/-- a pool by its gaps: so many unusable entries, then the entry; so many at the end -/
def gap : Nat → List CpInfo → List CpInfo
  | 0, r => r
  | n + 1, r => .unusable :: gap n r
def poolList (es : List (Nat × CpInfo)) (last : Nat) : List CpInfo := es.foldr (fun e r => gap e.1 (e.2 :: r)) (gap last [])
def pool (es : List (Nat × CpInfo)) (last : Nat) : Array CpInfo := ⟨poolList es last⟩
def fileOf (pool : Array CpInfo) (this : Nat) (attrs : Array Attribute := #[]) (ms : Array MethodInfo := #[]) (fl : Nat := 33) (sup : Nat := 0) (ifs : Array Nat := #[]) (fds : Array FieldInfo := #[]) : ClassFile where
  minorVersion := 0
  majorVersion := 65
  constantPool := pool
  accessFlags := fl
  thisClass := this
  superClass := sup
  interfaces := ifs
  fields := fds
  methods := ms
  attributes := attrs
def plain (name : String) (sup : Option ClassId) : Class where
  name := name
  kind := .ordinary
  loader := none
  accessFlags := 33
  super := sup
  interfaces := #[]
  cf := none
  fields := #[]
  methods := #[]
  instanceTypes := #[]
  staticTypes := #[]
  resolved := #[]
  callSites := []
  init := .initialized
  statics := none
  mirror := none

def pool0 : Array CpInfo := pool [(5, u "<init>"), (0, u "()V"), (1, .class_ 10), (1, u "java/lang/Object")] 113

def k0m0 : Method := { name := "<init>", desc := "()V", sig := { parameters := [], returnType := none }, accessFlags := 1, code := none }
/-- java/lang/Object -/
def k0 : Class := { plain "java/lang/Object" none with
  accessFlags := 33
  interfaces := #[]
  cf := some (fileOf pool0 8 #[] #[{ accessFlags := 1, nameIndex := 5, descriptorIndex := 6, attributes := #[] }] 33 0 #[] #[])
  fields := #[]
  methods := #[k0m0]
  instanceTypes := #[]
  staticTypes := #[]
  resolved := Array.replicate 124 none
  statics := none }

def pool1 : Array CpInfo := pool [(2, .class_ 4), (1, u "java/lang/Object"), (0, u "<init>"), (0, u "()V"), (0, .class_ 8), (0, u "com/example/reckon/reckon/io/TimestampsHoldsPinLaw"), (0, .long 18446744011542332416), (1, .long 253402300799), (1, .methodref 14 15), (0, .class_ 16), (0, .nameAndType 17 18), (0, u "com/example/reckon/reckon/io/Timestamps"), (0, u "holds"), (0, u "(J)Z"), (0, u "FIRST"), (0, u "J"), (1, u "LAST"), (2, u "law"), (0, u "(JII)Z")] 3

def k1m0 : Method := { name := "<init>", desc := "()V", sig := { parameters := [], returnType := none }, accessFlags := 2, code := none }
def k1c1 : Code := { maxStack := 4, maxLocals := 8, code := code, exceptionTable := #[], attributes := #[] }
def k1m1 : Method := { name := "law", desc := "(JII)Z", sig := { parameters := [.long, .int, .int], returnType := some .boolean }, accessFlags := 9, code := some k1c1 }
/-- com/example/reckon/reckon/io/TimestampsHoldsPinLaw -/
def k1 : Class := { plain "com/example/reckon/reckon/io/TimestampsHoldsPinLaw" (some 0) with
  accessFlags := 49
  interfaces := #[]
  cf := some (fileOf pool1 7 #[] #[{ accessFlags := 2, nameIndex := 5, descriptorIndex := 6, attributes := #[] }, { accessFlags := 9, nameIndex := 25, descriptorIndex := 26, attributes := #[] }] 49 2 #[] #[{ accessFlags := 26, nameIndex := 19, descriptorIndex := 20, attributes := #[] }, { accessFlags := 26, nameIndex := 22, descriptorIndex := 20, attributes := #[] }])
  fields := #[{ name := "FIRST", type := .long, accessFlags := 26, slot := 0, constantValue := 0 }, { name := "LAST", type := .long, accessFlags := 26, slot := 1, constantValue := 0 }]
  methods := #[k1m0, k1m1]
  instanceTypes := #[]
  staticTypes := #[.long, .long]
  resolved := Array.replicate 30 none
  statics := none }

def pool2 : Array CpInfo := pool [(2, .class_ 4), (1, u "java/lang/Object"), (0, u "<init>"), (0, u "()V"), (1, .class_ 10), (1, u "com/example/reckon/reckon/io/Timestamps"), (4, u "UNIX_SECONDS"), (0, u "Ljava/util/regex/Pattern;"), (26, u "ISO_TIME"), (0, u "Ljava/time/format/DateTimeFormatter;"), (34, u "holds"), (0, u "(J)Z"), (50, u "TO_SECONDS"), (50, .fieldref 8 183), (0, .nameAndType 184 185), (0, u "EARLIEST"), (0, u "J"), (0, .fieldref 8 187), (0, .nameAndType 188 185), (0, u "LATEST"), (22, u "YEARS"), (0, u "Ljava/lang/String;")] 32

def k2m0 : Method := { name := "<init>", desc := "()V", sig := { parameters := [], returnType := none }, accessFlags := 2, code := none }
def k2c1 : Code := { maxStack := 4, maxLocals := 2, code := prog_70_method_8_code, exceptionTable := #[], attributes := #[] }
def k2m1 : Method := { name := "holds", desc := "(J)Z", sig := { parameters := [.long], returnType := some .boolean }, accessFlags := 8, code := some k2c1 }
/-- com/example/reckon/reckon/io/Timestamps -/
def k2 : Class := { plain "com/example/reckon/reckon/io/Timestamps" (some 0) with
  accessFlags := 33
  interfaces := #[]
  cf := some (fileOf pool2 8 #[] #[{ accessFlags := 2, nameIndex := 5, descriptorIndex := 6, attributes := #[] }, { accessFlags := 8, nameIndex := 79, descriptorIndex := 80, attributes := #[] }] 33 2 #[] #[{ accessFlags := 24, nameIndex := 211, descriptorIndex := 212, attributes := #[] }, { accessFlags := 24, nameIndex := 184, descriptorIndex := 185, attributes := #[] }, { accessFlags := 24, nameIndex := 188, descriptorIndex := 185, attributes := #[] }, { accessFlags := 26, nameIndex := 43, descriptorIndex := 44, attributes := #[] }, { accessFlags := 26, nameIndex := 131, descriptorIndex := 44, attributes := #[] }, { accessFlags := 26, nameIndex := 15, descriptorIndex := 16, attributes := #[] }])
  fields := #[{ name := "YEARS", type := (.object "java/lang/String"), accessFlags := 24, slot := 0, constantValue := 0 }, { name := "EARLIEST", type := .long, accessFlags := 24, slot := 1, constantValue := 0 }, { name := "LATEST", type := .long, accessFlags := 24, slot := 2, constantValue := 0 }, { name := "ISO_TIME", type := (.object "java/time/format/DateTimeFormatter"), accessFlags := 26, slot := 3, constantValue := 0 }, { name := "TO_SECONDS", type := (.object "java/time/format/DateTimeFormatter"), accessFlags := 26, slot := 4, constantValue := 0 }, { name := "UNIX_SECONDS", type := (.object "java/util/regex/Pattern"), accessFlags := 26, slot := 5, constantValue := 0 }]
  methods := #[k2m0, k2m1]
  instanceTypes := #[]
  staticTypes := #[(.object "java/lang/String"), .long, .long, (.object "java/time/format/DateTimeFormatter"), (.object "java/time/format/DateTimeFormatter"), (.object "java/util/regex/Pattern")]
  resolved := Array.replicate 245 none
  statics := some 0 }

def pool3 : Array CpInfo := pool [(1, u "java/lang/Cloneable"), (0, .class_ 1), (0, u "java/lang/Object"), (0, .class_ 3)] 3

/-- java/lang/Cloneable -/
def k3 : Class := { plain "java/lang/Cloneable" (some 0) with
  accessFlags := 1537
  interfaces := #[]
  cf := some (fileOf pool3 2 #[] #[] 1537 4 #[] #[])
  fields := #[]
  methods := #[]
  instanceTypes := #[]
  staticTypes := #[]
  resolved := Array.replicate 8 none
  statics := none }

def pool4 : Array CpInfo := pool [(1, u "java/io/Serializable"), (0, .class_ 1), (0, u "java/lang/Object"), (0, .class_ 3)] 3

/-- java/io/Serializable -/
def k4 : Class := { plain "java/io/Serializable" (some 0) with
  accessFlags := 1537
  interfaces := #[]
  cf := some (fileOf pool4 2 #[] #[] 1537 4 #[] #[])
  fields := #[]
  methods := #[]
  instanceTypes := #[]
  staticTypes := #[]
  resolved := Array.replicate 8 none
  statics := none }

/-- the primitive byte -/
def k5 : Class := { plain "byte" none with kind := .primitive 'B', accessFlags := 0x411 }
/-- [B -/
def k6 : Class := { plain "[B" (some 0) with kind := .array 5 .byte, interfaces := #[3, 4], accessFlags := 1041 }

def heap : Heap := #[{ cls := 2, slots := #[.null, .long (-62167219200), .long 253402300799, .null, .null, .null], vm := .statics 2 }]
def classes : Array Class := #[k0, k1, k2, k3, k4, k5, k6]
def interned : List (Array UInt16 × Addr) := []
def slotsUsed : Nat := 6
def theMethod : MethodId := ⟨1, 1⟩
def args0 : Array Value := #[.long 5, .int 1, .int 7]
def aboutOver (below : List Frame) : State where
  vm := { classes := classes, interned := interned.toArray }
  heap := heap
  slotsUsed := slotsUsed
  threads := #[{ frames := .invoking theMethod args0 :: below }]
def below0 : List Frame := [.native { method := ⟨0, 0⟩, args := #[] }]
def about1 : State := aboutOver below0
def p0 : Program := .bare "" "" ""
def e0 : Env := launch0.env 0 0 0
theorem w_frames : about1.frames = Frame.invoking theMethod args0 :: below0 := rfl
set_option maxRecDepth 65536 in
theorem w_args : argsFit about1.vm theMethod args0 = true := by decide +kernel
set_option maxRecDepth 65536 in
theorem w_heap : heapFits about1 = true := by decide +kernel
set_option maxRecDepth 65536 in
theorem w_runnable : about1.curStatus? = some .runnable := by decide +kernel
set_option maxRecDepth 65536 in
theorem w_alone : about1.alone = true := by decide +kernel
set_option maxRecDepth 65536 in
theorem w_named : about1.methodNamed? x = some theMethod := by decide +kernel
set_option maxRecDepth 65536 in
theorem w_hears : about1.hears theMethod below0 = true := by decide +kernel
set_option maxRecDepth 65536 in
theorem w_ripe : about1.ripe theMethod args0 below0 = true := by decide +kernel
theorem w_running : about1.status = .running := rfl
set_option maxRecDepth 65536 in
theorem w_room : about1.hasRoom e0.platform room_1 = true :=
  launch0.hasRoom_least _ room_1 (by decide +kernel) (by decide +kernel) (by decide +kernel) (by decide +kernel) (by decide +kernel) (by decide +kernel)
theorem allAtoms_all (ts : List Jvm.Cond) (a : Array Jvm.Value) (st : Jvm.State) : (allAtoms ts).before a st = ts.all (fun c => c.before a st) := by
  induction ts with
  | nil => rfl
  | cons c t ih =>
    show (Jvm.Cond.and c (allAtoms t)).before a st = _
    rw [Jvm.Cond.before_and, ih, List.all_cons]
def words1 : List Jvm.Cond := Jvm.Cond.code x code maxLocals ret :: tables_1
/-- a 'code' word, met by the world's own term for the bytes: nothing is compared byte by byte -/
theorem code_word {y : MethodName} {bytes : ByteArray} {mx : Nat} {rt : Option FieldType} {a : Array Value} {s : State} {m : MethodId} {meth : Method} {c : Code} (h1 : s.methodNamed? y = some m) (h2 : s.vm.method? m = some meth) (h3 : meth.code = some c) (h4 : c.code = bytes)
    (h5 : (c.maxLocals == mx && c.exceptionTable.isEmpty && decide (c.maxStack ≤ mostOperands) && decide (meth.sig.returnType = rt) && !meth.locks && decide (parseMethodDescriptor y.desc = some meth.sig)) = true) : (Jvm.Cond.code y bytes mx rt).before a s = true := by
  simp only [Bool.and_eq_true, beq_iff_eq, Bool.not_eq_true', decide_eq_true_eq] at h5
  obtain ⟨⟨⟨⟨⟨g1, g2⟩, g3⟩, g4⟩, g5⟩, g6⟩ := h5
  simp [Cond.before, Cond.holds, Cond.value, h1, h2, h3, h4, g1, g2, g3, g4, g5, g6]
def isCode : Jvm.Cond → Bool
  | .code _ _ _ _ => true
  | _ => false
theorem all_split {L : List Jvm.Cond} {P : Jvm.Cond → Bool} (h1 : L.all (fun c => isCode c || P c) = true) (h2 : ∀ c ∈ L.filter isCode, P c = true) : L.all P = true := by
  refine List.all_eq_true.mpr fun c hc => ?_
  have h := List.all_eq_true.mp h1 c hc
  rcases Bool.eq_false_or_eq_true (isCode c) with hi | hi
  · exact h2 c (List.mem_filter.mpr ⟨hc, hi⟩)
  · simpa [hi] using h
set_option maxRecDepth 65536 in
theorem w_c0 : (Jvm.Cond.code x code maxLocals ret).before args0 about1 = true := code_word (m := ⟨1, 1⟩) (meth := k1m1) (c := k1c1) (by decide +kernel) rfl rfl rfl (by decide +kernel)
set_option maxRecDepth 65536 in
theorem w_c1 : (Jvm.Cond.code ({ cls := "com/example/reckon/reckon/io/Timestamps", name := "holds", desc := "(J)Z" } : Jvm.MethodName) prog_70_method_8_code (2 : Nat) (Option.some Jvm.ClassFile.FieldType.boolean)).before args0 about1 = true := code_word (m := ⟨2, 1⟩) (meth := k2m1) (c := k2c1) (by decide +kernel) rfl rfl rfl (by decide +kernel)
def codes1 : List Jvm.Cond := [Jvm.Cond.code x code maxLocals ret, Jvm.Cond.code ({ cls := "com/example/reckon/reckon/io/Timestamps", name := "holds", desc := "(J)Z" } : Jvm.MethodName) prog_70_method_8_code (2 : Nat) (Option.some Jvm.ClassFile.FieldType.boolean)]
set_option maxRecDepth 65536 in
theorem codes_eq : words1.filter isCode = codes1 := rfl
theorem w_codes : ∀ c ∈ words1.filter isCode, c.before args0 about1 = true := by
  rw [codes_eq]
  intro c hc
  simp only [codes1, List.mem_cons, List.not_mem_nil, or_false] at hc
  rcases hc with rfl | rfl
  · exact w_c0
  · exact w_c1
set_option maxRecDepth 65536 in
theorem w_t1 : words1.all (fun c => isCode c || c.before args0 about1) = true := by decide +kernel
theorem w_tables : (allAtoms (Jvm.Cond.code x code maxLocals ret :: tables_1)).before args0 about1 = true := by
  rw [allAtoms_all]
  show words1.all (fun c => c.before args0 about1) = true
  refine all_split ?_ w_codes
  rw [w_t1]
set_option maxRecDepth 65536 in
theorem w_case : (Jvm.Cond.and given_1 narrow_1).before args0 about1 = true := by decide +kernel
theorem w_applies : (headSpec (Jvm.Cond.code x code maxLocals ret :: tables_1) room_1).applies x e0.platform about1 = true :=
  (Spec.applies_iff w_frames).mpr ⟨w_running, w_runnable, w_alone, w_named, w_hears, w_ripe, w_room, w_tables⟩
theorem atStart : AtStart classFile x code maxLocals ret World_1 tables_1 room_1 Calls_1 rest_1 Pre_1 launch0 p0 e0 about1 theMethod args0 below0 :=
  ⟨lists_1, trivial, launch0.admits_env _ _ _, launch0.least_env, fairChoices_fair.cas, fairChoices_fair.clock, w_frames, w_args, w_heap, w_applies, trivial, trivial, w_case⟩
end start1
theorem witness_1 : WitnessClaimed_1 := ⟨start1.p0, start1.e0, start1.about1, start1.theMethod, start1.args0, start1.below0, start1.atStart⟩
end Jvm.Pilot.@@N@@
