import JvmDerived
import JvmDerived.Pilot.@@N@@Statement
import JvmDerived.Pilot.@@N@@Code
set_option linter.unusedVariables false
set_option linter.unusedSimpArgs false
namespace Jvm.Pilot.@@N@@
open Jvm Jvm.ClassFile Sem Op Lib Jvm.Free Jvm.Stand Jvm.LawKit Jvm.RoadKit Bundle Jvm.Pilot.@@N@@.Jvm.D
/-! own_Ends: from the state T the run ends well -/
def own_Ends (p : Program) (e : Env) (below : List Frame) (P : State → Outcome → Prop) (T : State) : Prop := ∃ U o, Steps p.tables e below T U ∧ U.status = .running ∧ Ended U below o ∧ P U o
def own_Got (s : State) (Q : Option Value → Heap → List Loc → Prop) (C N : Nat) (U : State) (o : Outcome) : Prop := ∃ v L, o = .returned v ∧ Q v U.heap L ∧ FrameEnd s o U L C N
section Own
variable {p : Program} {l : Launch} {e : Env} {R : Room} {s : State} {m : MethodId} {args : Array Value} {below : List Frame} {meth : Method} {c : Code} {T T' : State} {locs : List Loc} {cells slots : Nat} {P : State → Outcome → Prop}
theorem own_go (h : ∀ target, Steps p.tables e below T' target → Steps p.tables e below T target) (k : own_Ends p e below P T') : own_Ends p e below P T := by
  obtain ⟨U, o, h1, h2⟩ := k; exact ⟨U, o, h _ h1, h2⟩
theorem own_tr (h : Steps p.tables e below T T') (k : own_Ends p e below P T') : own_Ends p e below P T := by
  obtain ⟨U, o, h1, h2⟩ := k; exact ⟨U, o, h.trans h1, h2⟩
variable {Q : Option Value → Heap → List Loc → Prop} {C N : Nat}
theorem own_ret (X : Stand p l e R s m args below meth c T locs cells slots) (hx : p.tables.exec = Jvm.exec) (lk : meth.locks = false) {pc : Nat} {Ls : Array Slot} {w : Value} {t : FieldType} {i : Instr} {rest : List Value} (hret : meth.sig.returnType = some t) (hn : narrow t w = w)
    (hi : (i = .ireturn ∧ (t = .int ∨ t = .boolean ∨ t = .byte ∨ t = .char ∨ t = .short) ∧ ∃ z, w = .int z) ∨ (i = .lreturn ∧ t = .long ∧ ∃ z, w = .long z) ∨ (i = .dreturn ∧ t = .double ∧ ∃ z, w = .double z) ∨ (i = .freturn ∧ t = .float ∧ ∃ z, w = .float z) ∨ (i = .areturn ∧ t.isReference = true ∧ w.isRef = true))
    (hd : decode c.code pc = .ok (i, 1)) (hC : cells ≤ C) (hN : slots ≤ N) (hq : Q (some w) T.heap locs) : own_Ends p e below (own_Got s Q C N) (T.setTop (mkF m pc Ls (w :: rest))) := by
  obtain ⟨fs, hr, hrun, hended, hW, hsame⟩ := X.leave (v := some w) (fun h => by rw [hret] at h; cases h) lk
  exact ⟨_, _, retOut X hx hret hn hi hd hr, hrun, hended, _, _, rfl, hq, ⟨_, rfl⟩, hW, hsame.mono hC hN⟩
theorem own_retI (X : Stand p l e R s m args below meth c T locs cells slots) (hx : p.tables.exec = Jvm.exec) (lk : meth.locks = false) {pc : Nat} {Ls : Array Slot} {z : Int32} {rest : List Value} (hret : meth.sig.returnType = some .int)
    (hd : decode c.code pc = .ok (.ireturn, 1)) (hC : cells ≤ C) (hN : slots ≤ N) (hq : Q (some (.int z)) T.heap locs) : own_Ends p e below (own_Got s Q C N) (T.setTop (mkF m pc Ls (.int z :: rest))) :=
  own_ret X hx lk hret rfl (Or.inl ⟨rfl, Or.inl rfl, _, rfl⟩) hd hC hN hq
theorem own_retZ (X : Stand p l e R s m args below meth c T locs cells slots) (hx : p.tables.exec = Jvm.exec) (lk : meth.locks = false) {pc : Nat} {Ls : Array Slot} {z : Int32} {rest : List Value} (hret : meth.sig.returnType = some .boolean) (hn : narrow .boolean (.int z) = .int z)
    (hd : decode c.code pc = .ok (.ireturn, 1)) (hC : cells ≤ C) (hN : slots ≤ N) (hq : Q (some (.int z)) T.heap locs) : own_Ends p e below (own_Got s Q C N) (T.setTop (mkF m pc Ls (.int z :: rest))) :=
  own_ret X hx lk hret hn (Or.inl ⟨rfl, Or.inr (Or.inl rfl), _, rfl⟩) hd hC hN hq
theorem own_retJ (X : Stand p l e R s m args below meth c T locs cells slots) (hx : p.tables.exec = Jvm.exec) (lk : meth.locks = false) {pc : Nat} {Ls : Array Slot} {z : Int64} {rest : List Value} (hret : meth.sig.returnType = some .long)
    (hd : decode c.code pc = .ok (.lreturn, 1)) (hC : cells ≤ C) (hN : slots ≤ N) (hq : Q (some (.long z)) T.heap locs) : own_Ends p e below (own_Got s Q C N) (T.setTop (mkF m pc Ls (.long z :: rest))) :=
  own_ret X hx lk hret rfl (Or.inr (Or.inl ⟨rfl, rfl, _, rfl⟩)) hd hC hN hq
theorem own_retR (X : Stand p l e R s m args below meth c T locs cells slots) (hx : p.tables.exec = Jvm.exec) (lk : meth.locks = false) {pc : Nat} {Ls : Array Slot} {w : Value} {t : FieldType} {rest : List Value} (hret : meth.sig.returnType = some t) (ht : t.isReference = true) (hw : w.isRef = true)
    (hd : decode c.code pc = .ok (.areturn, 1)) (hC : cells ≤ C) (hN : slots ≤ N) (hq : Q (some w) T.heap locs) : own_Ends p e below (own_Got s Q C N) (T.setTop (mkF m pc Ls (w :: rest))) :=
  own_ret X hx lk hret (by rcases ref_cases hw with rfl | ⟨a, rfl⟩ <;> cases t <;> first | rfl | exact absurd ht (by decide)) (Or.inr (Or.inr (Or.inr (Or.inr ⟨rfl, ht, hw⟩)))) hd hC hN hq
theorem own_retV (X : Stand p l e R s m args below meth c T locs cells slots) (hx : p.tables.exec = Jvm.exec) (lk : meth.locks = false) {pc : Nat} {Ls : Array Slot} {st : List Value} (hret : meth.sig.returnType = none)
    (hd : decode c.code pc = .ok (.return_, 1)) (hC : cells ≤ C) (hN : slots ≤ N) (hq : Q none T.heap locs) : own_Ends p e below (own_Got s Q C N) (T.setTop (mkF m pc Ls [])) := by
  obtain ⟨fs, hr, hrun, hended, hW, hsame⟩ := X.leave (v := none) (fun _ => rfl) lk
  exact ⟨_, _, X.returnOut hx hret hd hr, hrun, hended, _, _, rfl, hq, ⟨_, rfl⟩, hW, hsame.mono hC hN⟩
theorem own_fldI {Z : State} {a : Addr} {av : Array Value} {t : Term} {k : Int32} {C n d : String} (ev : t.eval av Z none [] Z = some (.ref a)) (h : (Jvm.Cond.eq (.field t C n d) (.int k)).value av Z none Z [] = some true) : Fld Z Z.heap a C n d (.int k) := by
  obtain ⟨x, y, ex, ey, k1, k2⟩ := cmp_v (Or.inl h)
  cases (Term.int_eval (args := av) (first := Z) (o := none) (idx := []) (s := Z) k).symm.trans ey
  obtain ⟨z, rfl⟩ := k2
  obtain rfl : z = k := gotT (Cond.eq_ints ex (Term.int_eval k)) h
  exact Fld.start ((fld_at ev).symm.trans ex)
theorem own_fldJ {Z : State} {a : Addr} {av : Array Value} {t : Term} {k : Int64} {C n d : String} (ev : t.eval av Z none [] Z = some (.ref a)) (h : (Jvm.Cond.eq (.field t C n d) (.long k)).value av Z none Z [] = some true) : Fld Z Z.heap a C n d (.long k) := by
  obtain ⟨x, y, ex, ey, k1, k2⟩ := cmp_v (Or.inl h)
  cases (long_at (args := av) (first := Z) (o := none) (idx := []) (s := Z) k).symm.trans ey
  obtain ⟨z, rfl⟩ := k2
  obtain rfl : z = k := gotT (eq_L ex (long_at k)) h
  exact Fld.start ((fld_at ev).symm.trans ex)
theorem own_staJ {Z : State} {av : Array Value} {k : Int64} {t : Term} (h : (Jvm.Cond.eq t (.long k)).value av Z none Z [] = some true) : t.eval av Z none [] Z = some (.long k) := by
  obtain ⟨x, y, ex, ey, k1, k2⟩ := cmp_v (Or.inl h)
  cases (long_at (args := av) (first := Z) (o := none) (idx := []) (s := Z) k).symm.trans ey
  obtain ⟨z, rfl⟩ := k2
  obtain rfl : z = k := gotT (eq_L ex (long_at k)) h
  exact ex
theorem own_staI {Z : State} {av : Array Value} {k : Int32} {t : Term} (h : (Jvm.Cond.eq t (.int k)).value av Z none Z [] = some true) : t.eval av Z none [] Z = some (.int k) := by
  obtain ⟨x, y, ex, ey, k1, k2⟩ := cmp_v (Or.inl h)
  cases (Term.int_eval (args := av) (first := Z) (o := none) (idx := []) (s := Z) k).symm.trans ey
  obtain ⟨z, rfl⟩ := k2
  obtain rfl : z = k := gotT (Cond.eq_ints ex (Term.int_eval k)) h
  exact ex
end Own
theorem own_range (c0 : Int32) (h0 : ¬ c0 < (0 : Int32)) (h1 : c0 < (14 : Int32)) : c0 = (0 : Int32) ∨ c0 = (1 : Int32) ∨ c0 = (2 : Int32) ∨ c0 = (3 : Int32) ∨ c0 = (4 : Int32) ∨ c0 = (5 : Int32) ∨ c0 = (6 : Int32) ∨ c0 = (7 : Int32) ∨ c0 = (8 : Int32) ∨ c0 = (9 : Int32) ∨ c0 = (10 : Int32) ∨ c0 = (11 : Int32) ∨ c0 = (12 : Int32) ∨ c0 = (13 : Int32) := by
  rw [Int32.lt_iff_toInt_lt] at h0 h1
  have e0 : (0 : Int32).toInt = 0 := rfl
  have e1 : (14 : Int32).toInt = 14 := rfl
  have k : c0.toInt = 0 ∨ c0.toInt = 1 ∨ c0.toInt = 2 ∨ c0.toInt = 3 ∨ c0.toInt = 4 ∨ c0.toInt = 5 ∨ c0.toInt = 6 ∨ c0.toInt = 7 ∨ c0.toInt = 8 ∨ c0.toInt = 9 ∨ c0.toInt = 10 ∨ c0.toInt = 11 ∨ c0.toInt = 12 ∨ c0.toInt = 13 := by omega
  rcases k with k | k | k | k | k | k | k | k | k | k | k | k | k | k
  · exact Or.inl (Int32.toInt_inj.mp k)
  · exact Or.inr (Or.inl (Int32.toInt_inj.mp k))
  · exact Or.inr (Or.inr (Or.inl (Int32.toInt_inj.mp k)))
  · exact Or.inr (Or.inr (Or.inr (Or.inl (Int32.toInt_inj.mp k))))
  · exact Or.inr (Or.inr (Or.inr (Or.inr (Or.inl (Int32.toInt_inj.mp k)))))
  · exact Or.inr (Or.inr (Or.inr (Or.inr (Or.inr (Or.inl (Int32.toInt_inj.mp k))))))
  · exact Or.inr (Or.inr (Or.inr (Or.inr (Or.inr (Or.inr (Or.inl (Int32.toInt_inj.mp k)))))))
  · exact Or.inr (Or.inr (Or.inr (Or.inr (Or.inr (Or.inr (Or.inr (Or.inl (Int32.toInt_inj.mp k))))))))
  · exact Or.inr (Or.inr (Or.inr (Or.inr (Or.inr (Or.inr (Or.inr (Or.inr (Or.inl (Int32.toInt_inj.mp k)))))))))
  · exact Or.inr (Or.inr (Or.inr (Or.inr (Or.inr (Or.inr (Or.inr (Or.inr (Or.inr (Or.inl (Int32.toInt_inj.mp k))))))))))
  · exact Or.inr (Or.inr (Or.inr (Or.inr (Or.inr (Or.inr (Or.inr (Or.inr (Or.inr (Or.inr (Or.inl (Int32.toInt_inj.mp k)))))))))))
  · exact Or.inr (Or.inr (Or.inr (Or.inr (Or.inr (Or.inr (Or.inr (Or.inr (Or.inr (Or.inr (Or.inr (Or.inl (Int32.toInt_inj.mp k))))))))))))
  · exact Or.inr (Or.inr (Or.inr (Or.inr (Or.inr (Or.inr (Or.inr (Or.inr (Or.inr (Or.inr (Or.inr (Or.inr (Or.inl (Int32.toInt_inj.mp k)))))))))))))
  · exact Or.inr (Or.inr (Or.inr (Or.inr (Or.inr (Or.inr (Or.inr (Or.inr (Or.inr (Or.inr (Or.inr (Or.inr (Or.inr (Int32.toInt_inj.mp k)))))))))))))
theorem own_pick (Z : State) (a_JAVA : Addr) (a_CPP : Addr) (a_DOTNET : Addr) (a_PYTHON : Addr) (a_DELPHI : Addr) (a_ERLANG : Addr) (a_RUBY : Addr) (a_OTHER : Addr) (a_HTTP : Addr) (a_GO : Addr) (a_PHP : Addr) (a_OMS : Addr) (a_RUST : Addr) (a_NODE_JS : Addr) (E_JAVA : Exa Z Z.heap a_JAVA "com/example/letters_over_wire/lettersoverwire/LanguageCode") (F_JAVA_code : Fld Z Z.heap a_JAVA "com/example/letters_over_wire/lettersoverwire/LanguageCode" "code" "I" (.int (0 : Int32))) (E_CPP : Exa Z Z.heap a_CPP "com/example/letters_over_wire/lettersoverwire/LanguageCode") (F_CPP_code : Fld Z Z.heap a_CPP "com/example/letters_over_wire/lettersoverwire/LanguageCode" "code" "I" (.int (1 : Int32))) (E_DOTNET : Exa Z Z.heap a_DOTNET "com/example/letters_over_wire/lettersoverwire/LanguageCode") (F_DOTNET_code : Fld Z Z.heap a_DOTNET "com/example/letters_over_wire/lettersoverwire/LanguageCode" "code" "I" (.int (2 : Int32))) (E_PYTHON : Exa Z Z.heap a_PYTHON "com/example/letters_over_wire/lettersoverwire/LanguageCode") (F_PYTHON_code : Fld Z Z.heap a_PYTHON "com/example/letters_over_wire/lettersoverwire/LanguageCode" "code" "I" (.int (3 : Int32))) (E_DELPHI : Exa Z Z.heap a_DELPHI "com/example/letters_over_wire/lettersoverwire/LanguageCode") (F_DELPHI_code : Fld Z Z.heap a_DELPHI "com/example/letters_over_wire/lettersoverwire/LanguageCode" "code" "I" (.int (4 : Int32))) (E_ERLANG : Exa Z Z.heap a_ERLANG "com/example/letters_over_wire/lettersoverwire/LanguageCode") (F_ERLANG_code : Fld Z Z.heap a_ERLANG "com/example/letters_over_wire/lettersoverwire/LanguageCode" "code" "I" (.int (5 : Int32))) (E_RUBY : Exa Z Z.heap a_RUBY "com/example/letters_over_wire/lettersoverwire/LanguageCode") (F_RUBY_code : Fld Z Z.heap a_RUBY "com/example/letters_over_wire/lettersoverwire/LanguageCode" "code" "I" (.int (6 : Int32))) (E_OTHER : Exa Z Z.heap a_OTHER "com/example/letters_over_wire/lettersoverwire/LanguageCode") (F_OTHER_code : Fld Z Z.heap a_OTHER "com/example/letters_over_wire/lettersoverwire/LanguageCode" "code" "I" (.int (7 : Int32))) (E_HTTP : Exa Z Z.heap a_HTTP "com/example/letters_over_wire/lettersoverwire/LanguageCode") (F_HTTP_code : Fld Z Z.heap a_HTTP "com/example/letters_over_wire/lettersoverwire/LanguageCode" "code" "I" (.int (8 : Int32))) (E_GO : Exa Z Z.heap a_GO "com/example/letters_over_wire/lettersoverwire/LanguageCode") (F_GO_code : Fld Z Z.heap a_GO "com/example/letters_over_wire/lettersoverwire/LanguageCode" "code" "I" (.int (9 : Int32))) (E_PHP : Exa Z Z.heap a_PHP "com/example/letters_over_wire/lettersoverwire/LanguageCode") (F_PHP_code : Fld Z Z.heap a_PHP "com/example/letters_over_wire/lettersoverwire/LanguageCode" "code" "I" (.int (10 : Int32))) (E_OMS : Exa Z Z.heap a_OMS "com/example/letters_over_wire/lettersoverwire/LanguageCode") (F_OMS_code : Fld Z Z.heap a_OMS "com/example/letters_over_wire/lettersoverwire/LanguageCode" "code" "I" (.int (11 : Int32))) (E_RUST : Exa Z Z.heap a_RUST "com/example/letters_over_wire/lettersoverwire/LanguageCode") (F_RUST_code : Fld Z Z.heap a_RUST "com/example/letters_over_wire/lettersoverwire/LanguageCode" "code" "I" (.int (12 : Int32))) (E_NODE_JS : Exa Z Z.heap a_NODE_JS "com/example/letters_over_wire/lettersoverwire/LanguageCode") (F_NODE_JS_code : Fld Z Z.heap a_NODE_JS "com/example/letters_over_wire/lettersoverwire/LanguageCode" "code" "I" (.int (13 : Int32))) (c0 : Int32) (h0 : ¬ c0 < (0 : Int32)) (h1 : c0 < (14 : Int32)) : ∃ x : Addr, x = (if c0 = (0 : Int32) then a_JAVA else if c0 = (1 : Int32) then a_CPP else if c0 = (2 : Int32) then a_DOTNET else if c0 = (3 : Int32) then a_PYTHON else if c0 = (4 : Int32) then a_DELPHI else if c0 = (5 : Int32) then a_ERLANG else if c0 = (6 : Int32) then a_RUBY else if c0 = (7 : Int32) then a_OTHER else if c0 = (8 : Int32) then a_HTTP else if c0 = (9 : Int32) then a_GO else if c0 = (10 : Int32) then a_PHP else if c0 = (11 : Int32) then a_OMS else if c0 = (12 : Int32) then a_RUST else a_NODE_JS) ∧ Exa Z Z.heap x "com/example/letters_over_wire/lettersoverwire/LanguageCode" ∧ Fld Z Z.heap x "com/example/letters_over_wire/lettersoverwire/LanguageCode" "code" "I" (.int c0) ∧ ([(.ref a_JAVA), (.ref a_CPP), (.ref a_DOTNET), (.ref a_PYTHON), (.ref a_DELPHI), (.ref a_ERLANG), (.ref a_RUBY), (.ref a_OTHER), (.ref a_HTTP), (.ref a_GO), (.ref a_PHP), (.ref a_OMS), (.ref a_RUST), (.ref a_NODE_JS)] : List Value).getD c0.toNatClampNeg .null = .ref x := by
  rcases own_range c0 h0 h1 with rfl | rfl | rfl | rfl | rfl | rfl | rfl | rfl | rfl | rfl | rfl | rfl | rfl | rfl
  · exact ⟨a_JAVA, by simp, E_JAVA, F_JAVA_code, rfl⟩
  · exact ⟨a_CPP, by simp, E_CPP, F_CPP_code, rfl⟩
  · exact ⟨a_DOTNET, by simp, E_DOTNET, F_DOTNET_code, rfl⟩
  · exact ⟨a_PYTHON, by simp, E_PYTHON, F_PYTHON_code, rfl⟩
  · exact ⟨a_DELPHI, by simp, E_DELPHI, F_DELPHI_code, rfl⟩
  · exact ⟨a_ERLANG, by simp, E_ERLANG, F_ERLANG_code, rfl⟩
  · exact ⟨a_RUBY, by simp, E_RUBY, F_RUBY_code, rfl⟩
  · exact ⟨a_OTHER, by simp, E_OTHER, F_OTHER_code, rfl⟩
  · exact ⟨a_HTTP, by simp, E_HTTP, F_HTTP_code, rfl⟩
  · exact ⟨a_GO, by simp, E_GO, F_GO_code, rfl⟩
  · exact ⟨a_PHP, by simp, E_PHP, F_PHP_code, rfl⟩
  · exact ⟨a_OMS, by simp, E_OMS, F_OMS_code, rfl⟩
  · exact ⟨a_RUST, by simp, E_RUST, F_RUST_code, rfl⟩
  · exact ⟨a_NODE_JS, by simp, E_NODE_JS, F_NODE_JS_code, rfl⟩
theorem own_d9_0 : decode jdk_32_method_1_code 0 = .ok (.getstatic 1, 3) := by decide +kernel
theorem own_d9_3 : decode jdk_32_method_1_code 3 = .ok (.astore_n 0, 1) := by decide +kernel
theorem own_d9_4 : decode jdk_32_method_1_code 4 = .ok (.aload_n 0, 1) := by decide +kernel
theorem own_d9_5 : decode jdk_32_method_1_code 5 = .ok (.areturn, 1) := by decide +kernel
theorem own_ef_own_empty (m : MethodId)  : entryFrame m #[] 1 = mkF m 0 #[.unset] [] := by first | (simp [entryFrame, mkF, argsToLocals, Value.category]; done) | rfl
def Q_own_empty (Z : State) (a_EMPTY : Addr) (h0 : Heap) (n0 : Nat) (v : Option Value) (h : Heap) (L : List Loc) : Prop := v = some (.ref a_EMPTY) ∧ Fr n0 L ∧ h = h0
theorem own_pn_java_util_Optional : plainName "java/util/Optional" = true := by first | (simp [plainName, overriddenIn]; done) | decide +kernel
set_option maxRecDepth 65536 in
set_option maxHeartbeats 40000000 in
theorem own_empty (l : Launch) (Z : State) (a0 : Array Value) (hw : ∀ d ∈ tables_1, d.before a0 Z = true) (ws : List Jvm.Cond) (a_EMPTY : Addr) (h0 : Heap) (n0 : Nat) (O0 : Old Z n0 h0) (S_EMPTY : Sta Z Z.heap "java/util/Optional" "EMPTY" "Ljava/util/Optional;" (.ref a_EMPTY)) :
    MetFree l (⟨"java/util/Optional", "empty", "()Ljava/util/Optional;"⟩ : MethodName) (head1 (Jvm.Cond.code (⟨"java/util/Optional", "empty", "()Ljava/util/Optional;"⟩ : MethodName) jdk_32_method_1_code 1 (some (.object "java/util/Optional")) :: ws) ({ frames := 0, cells := 0, slots := 0, locals := 0 } : Room)) (fun args_ U => args_ = #[] ∧ Z.Warmed39 U.vm ∧ U.heap = h0) (fun _ _ _ _ _ => True) (fun _ U o U' => ∃ v L, o = .returned v ∧ Q_own_empty Z a_EMPTY h0 n0 v U'.heap L ∧ FrameEnd U o U' L ({ frames := 0, cells := 0, slots := 0, locals := 0 } : Room).cells ({ frames := 0, cells := 0, slots := 0, locals := 0 } : Room).slots) := by
  refine MetFree.of_bodySF (plainFor_of_name own_pn_java_util_Optional) hisR ?_
  intro pP eE sS mM args below meth cC s₁ Bd hml0 hP hK
  obtain ⟨rfl, hZ, hh⟩ := hP
  have hx := Bd.exec
  have hby := Bd.bytes
  have hml : cC.maxLocals = 1 := hml0
  have hown : sS.vm.findClass "java/util/Optional" = some mM.cls := findClass_of_methodNamed Bd.named
  have hnm := (name_of_methodNamed Bd.named Bd.method).1
  have X0 : Stand pP l eE ({ frames := 0, cells := 0, slots := 0, locals := 0 } : Room) sS mM #[] below meth cC s₁ [] 0 0 := Stand.of_body Bd
  have e0 : s₁.heap = h0 := by rw [← hh, Bd.state]; rfl
  have N0 := Fr.nil n0
  show own_Ends pP eE below (own_Got sS (Q_own_empty Z a_EMPTY h0 n0) ({ frames := 0, cells := 0, slots := 0, locals := 0 } : Room).cells ({ frames := 0, cells := 0, slots := 0, locals := 0 } : Room).slots) (s₁.setTop (entryFrame mM #[] 1))
  rw [own_ef_own_empty mM ]
  obtain ⟨T1, X1, e1, st1⟩ := getS2 X0 hx hZ hown (host := "") (Or.inl (hw _ (List.mem_of_getElem? (i := 49) rfl))) Via.refl e0 (S_EMPTY.ext O0.2) (g := (mkF mM 0 #[.unset] [])) rfl (hb hby own_d9_0)
  refine own_go st1 ?_
  show own_Ends _ _ _ _ (T1.setTop (mkF mM 3 #[.unset] [(.ref a_EMPTY)]))
  refine own_go (fun _ k => XS.astoreN X1.here hx rfl (hb hby own_d9_3) rfl rfl (l' := #[.val (.ref a_EMPTY)]) rfl k) ?_
  show own_Ends _ _ _ _ (T1.setTop (mkF mM 4 #[.val (.ref a_EMPTY)] []))
  refine own_go (fun _ k => XS.aloadN X1.here hx rfl (hb hby own_d9_4) rfl rfl k) ?_
  show own_Ends _ _ _ _ (T1.setTop (mkF mM 5 #[.val (.ref a_EMPTY)] [(.ref a_EMPTY)]))
  exact own_retR X1 hx (BodyLoose.notSynchronized Bd) Bd.returns rfl rfl (hb hby own_d9_5) (by decide) (by decide) (by rw [e1]; exact ⟨rfl, N0, rfl⟩)
theorem own_d6_0 : decode jdk_32_method_6_code 0 = .ok (.aload_n 0, 1) := by decide +kernel
theorem own_d6_1 : decode jdk_32_method_6_code 1 = .ok (.getfield 13, 3) := by decide +kernel
theorem own_d6_4 : decode jdk_32_method_6_code 4 = .ok (.ifnull 7, 3) := by decide +kernel
theorem own_d6_7 : decode jdk_32_method_6_code 7 = .ok (.iconst 1, 1) := by decide +kernel
theorem own_d6_8 : decode jdk_32_method_6_code 8 = .ok (.goto 4, 3) := by decide +kernel
theorem own_d6_12 : decode jdk_32_method_6_code 12 = .ok (.ireturn, 1) := by decide +kernel
theorem own_ef_own_present (m : MethodId) (x0 : Addr) : entryFrame m #[(.ref x0)] 1 = mkF m 0 #[.val (.ref x0)] [] := by first | (simp [entryFrame, mkF, argsToLocals, Value.category]; done) | rfl
def Q_own_present (Z : State) (a : Addr) (x : Addr) (h0 : Heap) (n0 : Nat) (v : Option Value) (h : Heap) (L : List Loc) : Prop := v = some (.int 1) ∧ Fr n0 L ∧ h = h0
set_option maxRecDepth 65536 in
set_option maxHeartbeats 40000000 in
theorem own_present (l : Launch) (Z : State) (a0 : Array Value) (hw : ∀ d ∈ tables_1, d.before a0 Z = true) (ws : List Jvm.Cond) (a : Addr) (x : Addr) (h0 : Heap) (n0 : Nat) (O0 : Old Z n0 h0) (F : Fld Z h0 a "java/util/Optional" "value" "Ljava/lang/Object;" (.ref x)) :
    MetFree l (⟨"java/util/Optional", "isPresent", "()Z"⟩ : MethodName) (head1 (Jvm.Cond.code (⟨"java/util/Optional", "isPresent", "()Z"⟩ : MethodName) jdk_32_method_6_code 1 (some .boolean) :: ws) ({ frames := 0, cells := 0, slots := 0, locals := 0 } : Room)) (fun args_ U => args_ = #[(.ref a)] ∧ Z.Warmed39 U.vm ∧ U.heap = h0) (fun _ _ _ _ _ => True) (fun _ U o U' => ∃ v L, o = .returned v ∧ Q_own_present Z a x h0 n0 v U'.heap L ∧ FrameEnd U o U' L ({ frames := 0, cells := 0, slots := 0, locals := 0 } : Room).cells ({ frames := 0, cells := 0, slots := 0, locals := 0 } : Room).slots) := by
  refine MetFree.of_bodySF (plainFor_of_name own_pn_java_util_Optional) hisR ?_
  intro pP eE sS mM args below meth cC s₁ Bd hml0 hP hK
  obtain ⟨rfl, hZ, hh⟩ := hP
  have hx := Bd.exec
  have hby := Bd.bytes
  have hml : cC.maxLocals = 1 := hml0
  have hown : sS.vm.findClass "java/util/Optional" = some mM.cls := findClass_of_methodNamed Bd.named
  have hnm := (name_of_methodNamed Bd.named Bd.method).1
  have X0 : Stand pP l eE ({ frames := 0, cells := 0, slots := 0, locals := 0 } : Room) sS mM #[(.ref a)] below meth cC s₁ [] 0 0 := Stand.of_body Bd
  have e0 : s₁.heap = h0 := by rw [← hh, Bd.state]; rfl
  have N0 := Fr.nil n0
  show own_Ends pP eE below (own_Got sS (Q_own_present Z a x h0 n0) ({ frames := 0, cells := 0, slots := 0, locals := 0 } : Room).cells ({ frames := 0, cells := 0, slots := 0, locals := 0 } : Room).slots) (s₁.setTop (entryFrame mM #[(.ref a)] 1))
  rw [own_ef_own_present mM a]
  refine own_go (fun _ k => XS.aloadN X0.here hx rfl (hb hby own_d6_0) rfl rfl k) ?_
  show own_Ends _ _ _ _ (s₁.setTop (mkF mM 1 #[.val (.ref a)] [(.ref a)]))
  obtain ⟨T1, X1, e1, st1⟩ := getF X0 hx hZ hown (host := "") (Or.inl (hw _ (List.mem_of_getElem? (i := 20) rfl))) Via.refl e0 F (g := (mkF mM 1 #[.val (.ref a)] [(.ref a)])) rfl rfl (hb hby own_d6_1)
  refine own_go st1 ?_
  show own_Ends _ _ _ _ (T1.setTop (mkF mM 4 #[.val (.ref a)] [(.ref x)]))
  refine own_go (fun _ k => XS.ifnullNo X1.here hx rfl (hb hby own_d6_4) rfl k) ?_
  show own_Ends _ _ _ _ (T1.setTop (mkF mM 7 #[.val (.ref a)] []))
  refine own_go (fun _ k => XS.iconst X1.here hx rfl (hb hby own_d6_7) k) ?_
  show own_Ends _ _ _ _ (T1.setTop (mkF mM 8 #[.val (.ref a)] [(.int (1 : Int32))]))
  refine own_go (fun _ k => XS.goto X1.here hx rfl (pc0 := 8) (pc' := 12) rfl (hb hby own_d6_8) (by decide) (by decide) k) ?_
  show own_Ends _ _ _ _ (T1.setTop (mkF mM 12 #[.val (.ref a)] [(.int (1 : Int32))]))
  exact own_retZ X1 hx (BodyLoose.notSynchronized Bd) Bd.returns rfl (hb hby own_d6_12) (by decide) (by decide) (by rw [e1]; exact ⟨rfl, N0, rfl⟩)
theorem own_d6_11 : decode jdk_32_method_6_code 11 = .ok (.iconst 0, 1) := by decide +kernel
theorem own_ef_own_absent (m : MethodId) (x0 : Addr) : entryFrame m #[(.ref x0)] 1 = mkF m 0 #[.val (.ref x0)] [] := by first | (simp [entryFrame, mkF, argsToLocals, Value.category]; done) | rfl
def Q_own_absent (Z : State) (a : Addr) (h0 : Heap) (n0 : Nat) (v : Option Value) (h : Heap) (L : List Loc) : Prop := v = some (.int 0) ∧ Fr n0 L ∧ h = h0
set_option maxRecDepth 65536 in
set_option maxHeartbeats 40000000 in
theorem own_absent (l : Launch) (Z : State) (a0 : Array Value) (hw : ∀ d ∈ tables_1, d.before a0 Z = true) (ws : List Jvm.Cond) (a : Addr) (h0 : Heap) (n0 : Nat) (O0 : Old Z n0 h0) (F : Fld Z h0 a "java/util/Optional" "value" "Ljava/lang/Object;" .null) :
    MetFree l (⟨"java/util/Optional", "isPresent", "()Z"⟩ : MethodName) (head1 (Jvm.Cond.code (⟨"java/util/Optional", "isPresent", "()Z"⟩ : MethodName) jdk_32_method_6_code 1 (some .boolean) :: ws) ({ frames := 0, cells := 0, slots := 0, locals := 0 } : Room)) (fun args_ U => args_ = #[(.ref a)] ∧ Z.Warmed39 U.vm ∧ U.heap = h0) (fun _ _ _ _ _ => True) (fun _ U o U' => ∃ v L, o = .returned v ∧ Q_own_absent Z a h0 n0 v U'.heap L ∧ FrameEnd U o U' L ({ frames := 0, cells := 0, slots := 0, locals := 0 } : Room).cells ({ frames := 0, cells := 0, slots := 0, locals := 0 } : Room).slots) := by
  refine MetFree.of_bodySF (plainFor_of_name own_pn_java_util_Optional) hisR ?_
  intro pP eE sS mM args below meth cC s₁ Bd hml0 hP hK
  obtain ⟨rfl, hZ, hh⟩ := hP
  have hx := Bd.exec
  have hby := Bd.bytes
  have hml : cC.maxLocals = 1 := hml0
  have hown : sS.vm.findClass "java/util/Optional" = some mM.cls := findClass_of_methodNamed Bd.named
  have hnm := (name_of_methodNamed Bd.named Bd.method).1
  have X0 : Stand pP l eE ({ frames := 0, cells := 0, slots := 0, locals := 0 } : Room) sS mM #[(.ref a)] below meth cC s₁ [] 0 0 := Stand.of_body Bd
  have e0 : s₁.heap = h0 := by rw [← hh, Bd.state]; rfl
  have N0 := Fr.nil n0
  show own_Ends pP eE below (own_Got sS (Q_own_absent Z a h0 n0) ({ frames := 0, cells := 0, slots := 0, locals := 0 } : Room).cells ({ frames := 0, cells := 0, slots := 0, locals := 0 } : Room).slots) (s₁.setTop (entryFrame mM #[(.ref a)] 1))
  rw [own_ef_own_absent mM a]
  refine own_go (fun _ k => XS.aloadN X0.here hx rfl (hb hby own_d6_0) rfl rfl k) ?_
  show own_Ends _ _ _ _ (s₁.setTop (mkF mM 1 #[.val (.ref a)] [(.ref a)]))
  obtain ⟨T1, X1, e1, st1⟩ := getF X0 hx hZ hown (host := "") (Or.inl (hw _ (List.mem_of_getElem? (i := 20) rfl))) Via.refl e0 F (g := (mkF mM 1 #[.val (.ref a)] [(.ref a)])) rfl rfl (hb hby own_d6_1)
  refine own_go st1 ?_
  show own_Ends _ _ _ _ (T1.setTop (mkF mM 4 #[.val (.ref a)] [.null]))
  refine own_go (fun _ k => XS.ifnullYes X1.here hx rfl (pc0 := 4) (pc' := 11) rfl (hb hby own_d6_4) rfl (by decide) (by decide) k) ?_
  show own_Ends _ _ _ _ (T1.setTop (mkF mM 11 #[.val (.ref a)] []))
  refine own_go (fun _ k => XS.iconst X1.here hx rfl (hb hby own_d6_11) k) ?_
  show own_Ends _ _ _ _ (T1.setTop (mkF mM 12 #[.val (.ref a)] [(.int (0 : Int32))]))
  exact own_retZ X1 hx (BodyLoose.notSynchronized Bd) Bd.returns rfl (hb hby own_d6_12) (by decide) (by decide) (by rw [e1]; exact ⟨rfl, N0, rfl⟩)
theorem own_d7_0 : decode jdk_32_method_5_code 0 = .ok (.aload_n 0, 1) := by decide +kernel
theorem own_d7_1 : decode jdk_32_method_5_code 1 = .ok (.getfield 13, 3) := by decide +kernel
theorem own_d7_4 : decode jdk_32_method_5_code 4 = .ok (.ifnonnull 13, 3) := by decide +kernel
theorem own_d7_17 : decode jdk_32_method_5_code 17 = .ok (.aload_n 0, 1) := by decide +kernel
theorem own_d7_18 : decode jdk_32_method_5_code 18 = .ok (.getfield 13, 3) := by decide +kernel
theorem own_d7_21 : decode jdk_32_method_5_code 21 = .ok (.areturn, 1) := by decide +kernel
theorem own_ef_own_get (m : MethodId) (x0 : Addr) : entryFrame m #[(.ref x0)] 1 = mkF m 0 #[.val (.ref x0)] [] := by first | (simp [entryFrame, mkF, argsToLocals, Value.category]; done) | rfl
def Q_own_get (Z : State) (a : Addr) (x : Addr) (h0 : Heap) (n0 : Nat) (v : Option Value) (h : Heap) (L : List Loc) : Prop := v = some (.ref x) ∧ Fr n0 L ∧ h = h0
set_option maxRecDepth 65536 in
set_option maxHeartbeats 40000000 in
theorem own_get (l : Launch) (Z : State) (a0 : Array Value) (hw : ∀ d ∈ tables_1, d.before a0 Z = true) (ws : List Jvm.Cond) (a : Addr) (x : Addr) (h0 : Heap) (n0 : Nat) (O0 : Old Z n0 h0) (F : Fld Z h0 a "java/util/Optional" "value" "Ljava/lang/Object;" (.ref x)) :
    MetFree l (⟨"java/util/Optional", "get", "()Ljava/lang/Object;"⟩ : MethodName) (head1 (Jvm.Cond.code (⟨"java/util/Optional", "get", "()Ljava/lang/Object;"⟩ : MethodName) jdk_32_method_5_code 1 (some (.object "java/lang/Object")) :: ws) ({ frames := 0, cells := 0, slots := 0, locals := 0 } : Room)) (fun args_ U => args_ = #[(.ref a)] ∧ Z.Warmed39 U.vm ∧ U.heap = h0) (fun _ _ _ _ _ => True) (fun _ U o U' => ∃ v L, o = .returned v ∧ Q_own_get Z a x h0 n0 v U'.heap L ∧ FrameEnd U o U' L ({ frames := 0, cells := 0, slots := 0, locals := 0 } : Room).cells ({ frames := 0, cells := 0, slots := 0, locals := 0 } : Room).slots) := by
  refine MetFree.of_bodySF (plainFor_of_name own_pn_java_util_Optional) hisR ?_
  intro pP eE sS mM args below meth cC s₁ Bd hml0 hP hK
  obtain ⟨rfl, hZ, hh⟩ := hP
  have hx := Bd.exec
  have hby := Bd.bytes
  have hml : cC.maxLocals = 1 := hml0
  have hown : sS.vm.findClass "java/util/Optional" = some mM.cls := findClass_of_methodNamed Bd.named
  have hnm := (name_of_methodNamed Bd.named Bd.method).1
  have X0 : Stand pP l eE ({ frames := 0, cells := 0, slots := 0, locals := 0 } : Room) sS mM #[(.ref a)] below meth cC s₁ [] 0 0 := Stand.of_body Bd
  have e0 : s₁.heap = h0 := by rw [← hh, Bd.state]; rfl
  have N0 := Fr.nil n0
  show own_Ends pP eE below (own_Got sS (Q_own_get Z a x h0 n0) ({ frames := 0, cells := 0, slots := 0, locals := 0 } : Room).cells ({ frames := 0, cells := 0, slots := 0, locals := 0 } : Room).slots) (s₁.setTop (entryFrame mM #[(.ref a)] 1))
  rw [own_ef_own_get mM a]
  refine own_go (fun _ k => XS.aloadN X0.here hx rfl (hb hby own_d7_0) rfl rfl k) ?_
  show own_Ends _ _ _ _ (s₁.setTop (mkF mM 1 #[.val (.ref a)] [(.ref a)]))
  obtain ⟨T1, X1, e1, st1⟩ := getF X0 hx hZ hown (host := "") (Or.inl (hw _ (List.mem_of_getElem? (i := 20) rfl))) Via.refl e0 F (g := (mkF mM 1 #[.val (.ref a)] [(.ref a)])) rfl rfl (hb hby own_d7_1)
  refine own_go st1 ?_
  show own_Ends _ _ _ _ (T1.setTop (mkF mM 4 #[.val (.ref a)] [(.ref x)]))
  refine own_go (fun _ k => XS.ifnonnullYes X1.here hx rfl (pc0 := 4) (pc' := 17) rfl (hb hby own_d7_4) rfl (by decide) (by decide) k) ?_
  show own_Ends _ _ _ _ (T1.setTop (mkF mM 17 #[.val (.ref a)] []))
  refine own_go (fun _ k => XS.aloadN X1.here hx rfl (hb hby own_d7_17) rfl rfl k) ?_
  show own_Ends _ _ _ _ (T1.setTop (mkF mM 18 #[.val (.ref a)] [(.ref a)]))
  obtain ⟨T2, X2, e2, st2⟩ := getF X1 hx hZ hown (host := "") (Or.inl (hw _ (List.mem_of_getElem? (i := 20) rfl))) Via.refl e1 F (g := (mkF mM 18 #[.val (.ref a)] [(.ref a)])) rfl rfl (hb hby own_d7_18)
  refine own_go st2 ?_
  show own_Ends _ _ _ _ (T2.setTop (mkF mM 21 #[.val (.ref a)] [(.ref x)]))
  exact own_retR X2 hx (BodyLoose.notSynchronized Bd) Bd.returns rfl rfl (hb hby own_d7_21) (by decide) (by decide) (by rw [e2]; exact ⟨rfl, N0, rfl⟩)
theorem own_d3_0 : decode jdk_32_method_2_code 0 = .ok (.aload_n 0, 1) := by decide +kernel
theorem own_d3_1 : decode jdk_32_method_2_code 1 = .ok (.invokespecial 7, 3) := by decide +kernel
theorem own_d3_4 : decode jdk_32_method_2_code 4 = .ok (.aload_n 0, 1) := by decide +kernel
theorem own_d3_5 : decode jdk_32_method_2_code 5 = .ok (.aload_n 1, 1) := by decide +kernel
theorem own_d3_6 : decode jdk_32_method_2_code 6 = .ok (.putfield 13, 3) := by decide +kernel
theorem own_d3_9 : decode jdk_32_method_2_code 9 = .ok (.return_, 1) := by decide +kernel
theorem own_ef_own_optinit (m : MethodId) (x0 : Addr) (x1 : Addr) : entryFrame m #[(.ref x0), (.ref x1)] 2 = mkF m 0 #[.val (.ref x0), .val (.ref x1)] [] := by first | (simp [entryFrame, mkF, argsToLocals, Value.category]; done) | rfl
def Q_own_optinit (Z : State) (a : Addr) (x : Addr) (h0 : Heap) (n0 : Nat) (v : Option Value) (h : Heap) (L : List Loc) : Prop := v = none ∧ Fr n0 L ∧ Keep h0 h [a] ∧ Exa Z h a "java/util/Optional" ∧ Fld Z h a "java/util/Optional" "value" "Ljava/lang/Object;" (.ref x)
set_option maxRecDepth 65536 in
set_option maxHeartbeats 40000000 in
theorem own_optinit (l : Launch) (Z : State) (a0 : Array Value) (hw : ∀ d ∈ tables_1, d.before a0 Z = true) (ws : List Jvm.Cond) (a : Addr) (x : Addr) (h0 : Heap) (n0 : Nat) (O0 : Old Z n0 h0) (g_a : n0 ≤ a) (E : Exa Z h0 a "java/util/Optional") (F : Fld Z h0 a "java/util/Optional" "value" "Ljava/lang/Object;" .null) :
    MetFree l (⟨"java/util/Optional", "<init>", "(Ljava/lang/Object;)V"⟩ : MethodName) (head1 (Jvm.Cond.code (⟨"java/util/Optional", "<init>", "(Ljava/lang/Object;)V"⟩ : MethodName) jdk_32_method_2_code 2 none :: ws) ({ frames := 1, cells := 0, slots := 0, locals := 12 } : Room)) (fun args_ U => args_ = #[(.ref a), (.ref x)] ∧ Z.Warmed39 U.vm ∧ U.heap = h0) (fun _ _ _ _ _ => True) (fun _ U o U' => ∃ v L, o = .returned v ∧ Q_own_optinit Z a x h0 n0 v U'.heap L ∧ FrameEnd U o U' L ({ frames := 1, cells := 0, slots := 0, locals := 12 } : Room).cells ({ frames := 1, cells := 0, slots := 0, locals := 12 } : Room).slots) := by
  refine MetFree.of_bodySF (plainFor_of_name own_pn_java_util_Optional) hisR ?_
  intro pP eE sS mM args below meth cC s₁ Bd hml0 hP hK
  obtain ⟨rfl, hZ, hh⟩ := hP
  have hx := Bd.exec
  have hby := Bd.bytes
  have hml : cC.maxLocals = 2 := hml0
  have hown : sS.vm.findClass "java/util/Optional" = some mM.cls := findClass_of_methodNamed Bd.named
  have hnm := (name_of_methodNamed Bd.named Bd.method).1
  have X0 : Stand pP l eE ({ frames := 1, cells := 0, slots := 0, locals := 12 } : Room) sS mM #[(.ref a), (.ref x)] below meth cC s₁ [] 0 0 := Stand.of_body Bd
  have e0 : s₁.heap = h0 := by rw [← hh, Bd.state]; rfl
  have N0 := Fr.nil n0
  show own_Ends pP eE below (own_Got sS (Q_own_optinit Z a x h0 n0) ({ frames := 1, cells := 0, slots := 0, locals := 12 } : Room).cells ({ frames := 1, cells := 0, slots := 0, locals := 12 } : Room).slots) (s₁.setTop (entryFrame mM #[(.ref a), (.ref x)] 2))
  rw [own_ef_own_optinit mM a x]
  refine own_go (fun _ k => XS.aloadN X0.here hx rfl (hb hby own_d3_0) rfl rfl k) ?_
  show own_Ends _ _ _ _ (s₁.setTop (mkF mM 1 #[.val (.ref a), .val (.ref x)] [(.ref a)]))
  obtain ⟨T1, X1, e1, st1⟩ := initO X0 hx hZ hown (hw _ (List.mem_of_getElem? (i := 17) rfl)) (hw _ (List.mem_of_getElem? (i := 18) rfl)) (hw _ (List.mem_of_getElem? (i := 19) rfl)) e0 (g := (mkF mM 1 #[.val (.ref a), .val (.ref x)] [(.ref a)])) rfl (by rw [hml]; rfl) rfl (hb hby own_d3_1) (by decide) (W := 0) (by show 2 * 0 + _ ≤ _; exact Nat.le_of_eq rfl) (by decide)
  refine own_go st1 ?_
  show own_Ends _ _ _ _ (T1.setTop (mkF mM 4 #[.val (.ref a), .val (.ref x)] []))
  refine own_go (fun _ k => XS.aloadN X1.here hx rfl (hb hby own_d3_4) rfl rfl k) ?_
  show own_Ends _ _ _ _ (T1.setTop (mkF mM 5 #[.val (.ref a), .val (.ref x)] [(.ref a)]))
  refine own_go (fun _ k => XS.aloadN X1.here hx rfl (hb hby own_d3_5) rfl rfl k) ?_
  show own_Ends _ _ _ _ (T1.setTop (mkF mM 6 #[.val (.ref a), .val (.ref x)] [(.ref x), (.ref a)]))
  obtain ⟨T2, h2, X2, e2, W2, st2⟩ := putF X1 hx hZ hown (host := "") (Or.inl (hw _ (List.mem_of_getElem? (i := 20) rfl))) Via.refl e1 F E (Or.inr ⟨(hw _ (List.mem_of_getElem? (i := 21) rfl)), rfl, hnm⟩) (hw _ (List.mem_of_getElem? (i := 12) rfl)) (ty := (.object "java/lang/Object")) (by decide) rfl rfl (g := (mkF mM 6 #[.val (.ref a), .val (.ref x)] [(.ref x), (.ref a)])) rfl rfl (hb hby own_d3_6)
  have Fw2 := F.same W2
  have O2 := O0.wr W2 g_a
  have K2 := (Keep.refl h0 [a]).wr W2 (Or.inl (List.mem_of_getElem? (i := 0) rfl))
  have N2 := Fr.snoc X2 N0 g_a
  refine own_go st2 ?_
  show own_Ends _ _ _ _ (T2.setTop (mkF mM 9 #[.val (.ref a), .val (.ref x)] []))
  exact own_retV X2 hx (BodyLoose.notSynchronized Bd) (st := []) Bd.returns (hb hby own_d3_9) (by decide) (by decide) (by rw [e2]; exact ⟨rfl, N2, K2, (E.wr W2), Fw2⟩)
theorem own_pd0 : parseMethodDescriptor "(Ljava/lang/Object;)V" = some ⟨[(.object "java/lang/Object")], none⟩ := by decide +kernel
theorem own_d2_0 : decode jdk_32_method_4_code 0 = .ok (.aload_n 0, 1) := by decide +kernel
theorem own_d2_1 : decode jdk_32_method_4_code 1 = .ok (.ifnonnull 9, 3) := by decide +kernel
theorem own_d2_10 : decode jdk_32_method_4_code 10 = .ok (.new 2, 3) := by decide +kernel
theorem own_d2_13 : decode jdk_32_method_4_code 13 = .ok (.dup, 1) := by decide +kernel
theorem own_d2_14 : decode jdk_32_method_4_code 14 = .ok (.aload_n 0, 1) := by decide +kernel
theorem own_d2_15 : decode jdk_32_method_4_code 15 = .ok (.invokespecial 23, 3) := by decide +kernel
theorem own_d2_18 : decode jdk_32_method_4_code 18 = .ok (.areturn, 1) := by decide +kernel
theorem own_ef_own_ofNullable (m : MethodId) (x0 : Addr) : entryFrame m #[(.ref x0)] 1 = mkF m 0 #[.val (.ref x0)] [] := by first | (simp [entryFrame, mkF, argsToLocals, Value.category]; done) | rfl
def Q_own_ofNullable (Z : State) (x : Addr) (h0 : Heap) (n0 : Nat) (v : Option Value) (h : Heap) (L : List Loc) : Prop := ∃ b : Addr, v = some (.ref b) ∧ Fr n0 L ∧ n0 ≤ b ∧ Keep h0 h [] ∧ Exa Z h b "java/util/Optional" ∧ Fld Z h b "java/util/Optional" "value" "Ljava/lang/Object;" (.ref x)
set_option maxRecDepth 65536 in
set_option maxHeartbeats 40000000 in
theorem own_ofNullable (l : Launch) (Z : State) (a0 : Array Value) (hw : ∀ d ∈ tables_1, d.before a0 Z = true) (ws : List Jvm.Cond) (x : Addr) (h0 : Heap) (n0 : Nat) (O0 : Old Z n0 h0) :
    MetFree l (⟨"java/util/Optional", "ofNullable", "(Ljava/lang/Object;)Ljava/util/Optional;"⟩ : MethodName) (head1 (Jvm.Cond.code (⟨"java/util/Optional", "ofNullable", "(Ljava/lang/Object;)Ljava/util/Optional;"⟩ : MethodName) jdk_32_method_4_code 1 (some (.object "java/util/Optional")) :: ws) ({ frames := 2, cells := 1, slots := 1, locals := 26 } : Room)) (fun args_ U => args_ = #[(.ref x)] ∧ Z.Warmed39 U.vm ∧ U.heap = h0) (fun _ _ _ _ _ => True) (fun _ U o U' => ∃ v L, o = .returned v ∧ Q_own_ofNullable Z x h0 n0 v U'.heap L ∧ FrameEnd U o U' L ({ frames := 2, cells := 1, slots := 1, locals := 26 } : Room).cells ({ frames := 2, cells := 1, slots := 1, locals := 26 } : Room).slots) := by
  refine MetFree.of_bodySF (plainFor_of_name own_pn_java_util_Optional) hisR ?_
  intro pP eE sS mM args below meth cC s₁ Bd hml0 hP hK
  obtain ⟨rfl, hZ, hh⟩ := hP
  have hx := Bd.exec
  have hby := Bd.bytes
  have hml : cC.maxLocals = 1 := hml0
  have hown : sS.vm.findClass "java/util/Optional" = some mM.cls := findClass_of_methodNamed Bd.named
  have hnm := (name_of_methodNamed Bd.named Bd.method).1
  have X0 : Stand pP l eE ({ frames := 2, cells := 1, slots := 1, locals := 26 } : Room) sS mM #[(.ref x)] below meth cC s₁ [] 0 0 := Stand.of_body Bd
  have e0 : s₁.heap = h0 := by rw [← hh, Bd.state]; rfl
  have N0 := Fr.nil n0
  show own_Ends pP eE below (own_Got sS (Q_own_ofNullable Z x h0 n0) ({ frames := 2, cells := 1, slots := 1, locals := 26 } : Room).cells ({ frames := 2, cells := 1, slots := 1, locals := 26 } : Room).slots) (s₁.setTop (entryFrame mM #[(.ref x)] 1))
  rw [own_ef_own_ofNullable mM x]
  refine own_go (fun _ k => XS.aloadN X0.here hx rfl (hb hby own_d2_0) rfl rfl k) ?_
  show own_Ends _ _ _ _ (s₁.setTop (mkF mM 1 #[.val (.ref x)] [(.ref x)]))
  refine own_go (fun _ k => XS.ifnonnullYes X0.here hx rfl (pc0 := 1) (pc' := 10) rfl (hb hby own_d2_1) rfl (by decide) (by decide) k) ?_
  show own_Ends _ _ _ _ (s₁.setTop (mkF mM 10 #[.val (.ref x)] []))
  obtain ⟨T1, h1, X1, e1, E1, A1, D1, -, st1⟩ := newO X0 hx hZ hown (hw _ (List.mem_of_getElem? (i := 11) rfl)) (hw _ (List.mem_of_getElem? (i := 12) rfl)) (hw _ (List.mem_of_getElem? (i := 9) rfl)) e0 (g := (mkF mM 10 #[.val (.ref x)] [])) rfl (hb hby own_d2_10) (by decide) (by decide)
  obtain ⟨b1, g1⟩ : ∃ z, z = h0.size := ⟨_, rfl⟩
  rw [← g1] at A1 D1 st1
  have O1 := O0.ext E1
  have g_b1 : n0 ≤ b1 := by rw [g1, ← O0.1]; exact O0.2.1
  have sz_b1 : h0.size ≤ b1 := Nat.le_trans (Keep.refl h0 []).1 (Nat.le_of_eq g1.symm)
  have K1 := (Keep.refl h0 []).ext E1
  have E_b1 : Exa Z h1 b1 "java/util/Optional" := A1
  have F_value_b1 : Fld Z h1 b1 "java/util/Optional" "value" "Ljava/lang/Object;" .null := D1 (Or.inr (hw _ (List.mem_of_getElem? (i := 21) rfl))) (ty := (.object "java/lang/Object")) (by decide)
  refine own_go st1 ?_
  show own_Ends _ _ _ _ (T1.setTop (mkF mM 13 #[.val (.ref x)] [(.ref b1)]))
  refine own_go (fun _ k => XS.dup X1.here hx rfl (hb hby own_d2_13) rfl rfl k) ?_
  show own_Ends _ _ _ _ (T1.setTop (mkF mM 14 #[.val (.ref x)] [(.ref b1), (.ref b1)]))
  refine own_go (fun _ k => XS.aloadN X1.here hx rfl (hb hby own_d2_14) rfl rfl k) ?_
  show own_Ends _ _ _ _ (T1.setTop (mkF mM 15 #[.val (.ref x)] [(.ref x), (.ref b1), (.ref b1)]))
  obtain ⟨_, _, ⟨T2, Lz2, kz2, nz2⟩, -, X2, ⟨Lc2, hQ2, l2, y2, z2⟩, st2⟩ := X1.specialBack hx (y := (⟨"java/util/Optional", "<init>", "(Ljava/lang/Object;)V"⟩ : MethodName)) rfl hown (mvT hZ (hw _ (List.mem_of_getElem? (i := 13) rfl))) (mvT hZ (hw _ (List.mem_of_getElem? (i := 14) rfl))) (mvT hZ (hw _ (List.mem_of_getElem? (i := 16) rfl))) (by decide) (backOf (W := 1) (own_optinit l Z a0 hw [] b1 x h1 n0 O1 g_b1 E_b1 F_value_b1) hZ (hw _ (List.mem_of_getElem? (i := 16) rfl)) (hw _ (List.mem_of_getElem? (i := 9) rfl)) (by decide) (by decide)) (g := (mkF mM 15 #[.val (.ref x)] [(.ref x), (.ref b1), (.ref b1)])) rfl (by rw [hml]; rfl) (Steps.refl _) (a := b1) (argsL := [(.ref x)]) (rest := [(.ref b1)]) (lenOf own_pd0 rfl) rfl (by show 2 * 0 + _ ≤ _; exact Nat.le_of_eq rfl) (hb hby own_d2_15) (fun _ _ => ⟨rfl, e1, (by decide : 1 + 0 ≤ _), (by decide : 1 + 0 ≤ _)⟩)
  dsimp only [Pt.U, Pt.locs, Pt.cells, Pt.slots] at X2 l2 y2 z2 st2 hQ2
  subst l2 y2 z2
  obtain ⟨rfl, Nq2, K2, E_b1_2, F_b1_2⟩ := hQ2
  have N2 := Fr.app N0 Nq2
  have O2 := O1.keep K2 (allS g_b1 all0)
  have Kk2 := K1.trans K2 (allS (Or.inr sz_b1) (all0))
  refine own_tr st2 ?_
  show own_Ends _ _ _ _ (T2.setTop (mkF mM 18 #[.val (.ref x)] [(.ref b1)]))
  exact own_retR X2 hx (BodyLoose.notSynchronized Bd) Bd.returns rfl rfl (hb hby own_d2_18) (by decide) (by decide) (⟨b1, rfl, N2, g_b1, Kk2, E_b1_2, F_b1_2⟩)
theorem own_pd1 : parseMethodDescriptor "()Ljava/util/Optional;" = some ⟨[], some (.object "java/util/Optional")⟩ := by decide +kernel
theorem own_d1_0 : decode prog_12_method_5_code 0 = .ok (.iload_n 0, 1) := by decide +kernel
theorem own_d1_1 : decode prog_12_method_5_code 1 = .ok (.ifCond .lt 11, 3) := by decide +kernel
theorem own_d1_4 : decode prog_12_method_5_code 4 = .ok (.iload_n 0, 1) := by decide +kernel
theorem own_d1_5 : decode prog_12_method_5_code 5 = .ok (.getstatic 69, 3) := by decide +kernel
theorem own_d1_8 : decode prog_12_method_5_code 8 = .ok (.arraylength, 1) := by decide +kernel
theorem own_d1_9 : decode prog_12_method_5_code 9 = .ok (.if_icmp .lt 7, 3) := by decide +kernel
theorem own_d1_12 : decode prog_12_method_5_code 12 = .ok (.invokestatic 72, 3) := by decide +kernel
theorem own_d1_15 : decode prog_12_method_5_code 15 = .ok (.areturn, 1) := by decide +kernel
theorem own_ef_own_forOut (m : MethodId) (x0 : Int32) : entryFrame m #[(.int x0)] 1 = mkF m 0 #[.val (.int x0)] [] := by first | (simp [entryFrame, mkF, argsToLocals, Value.category]; done) | rfl
def Q_own_forOut (Z : State) (p : Int32) (a_EMPTY : Addr) (arr : Addr) (kk : ClassId) (a_JAVA : Addr) (a_CPP : Addr) (a_DOTNET : Addr) (a_PYTHON : Addr) (a_DELPHI : Addr) (a_ERLANG : Addr) (a_RUBY : Addr) (a_OTHER : Addr) (a_HTTP : Addr) (a_GO : Addr) (a_PHP : Addr) (a_OMS : Addr) (a_RUST : Addr) (a_NODE_JS : Addr) (h0 : Heap) (n0 : Nat) (v : Option Value) (h : Heap) (L : List Loc) : Prop := v = some (.ref a_EMPTY) ∧ Fr n0 L ∧ h = h0
theorem own_pn_com_example_letters_over_wire_lettersoverwire_LanguageCode : plainName "com/example/letters_over_wire/lettersoverwire/LanguageCode" = true := by first | (simp [plainName, overriddenIn]; done) | decide +kernel
set_option maxRecDepth 65536 in
set_option maxHeartbeats 40000000 in
theorem own_forOut (l : Launch) (Z : State) (a0 : Array Value) (hw : ∀ d ∈ tables_1, d.before a0 Z = true) (ws : List Jvm.Cond) (p : Int32) (a_EMPTY : Addr) (arr : Addr) (kk : ClassId) (a_JAVA : Addr) (a_CPP : Addr) (a_DOTNET : Addr) (a_PYTHON : Addr) (a_DELPHI : Addr) (a_ERLANG : Addr) (a_RUBY : Addr) (a_OTHER : Addr) (a_HTTP : Addr) (a_GO : Addr) (a_PHP : Addr) (a_OMS : Addr) (a_RUST : Addr) (a_NODE_JS : Addr) (h0 : Heap) (n0 : Nat) (O0 : Old Z n0 h0) (S_BY_CODE : Sta Z Z.heap "com/example/letters_over_wire/lettersoverwire/LanguageCode" "BY_CODE" "[Lcom/example/letters_over_wire/lettersoverwire/LanguageCode;" (.ref arr)) (V_arr : Arv Z Z.heap arr kk (.object "com/example/letters_over_wire/lettersoverwire/LanguageCode") (14 : Int32) [(.ref a_JAVA), (.ref a_CPP), (.ref a_DOTNET), (.ref a_PYTHON), (.ref a_DELPHI), (.ref a_ERLANG), (.ref a_RUBY), (.ref a_OTHER), (.ref a_HTTP), (.ref a_GO), (.ref a_PHP), (.ref a_OMS), (.ref a_RUST), (.ref a_NODE_JS)] .null) (S_EMPTY : Sta Z Z.heap "java/util/Optional" "EMPTY" "Ljava/util/Optional;" (.ref a_EMPTY)) (hout : p < (0 : Int32) ∨ ¬ p < (14 : Int32)) :
    MetFree l (⟨"com/example/letters_over_wire/lettersoverwire/LanguageCode", "forCode", "(I)Ljava/util/Optional;"⟩ : MethodName) (head1 (Jvm.Cond.code (⟨"com/example/letters_over_wire/lettersoverwire/LanguageCode", "forCode", "(I)Ljava/util/Optional;"⟩ : MethodName) prog_12_method_5_code 1 (some (.object "java/util/Optional")) :: ws) ({ frames := 1, cells := 0, slots := 0, locals := 12 } : Room)) (fun args_ U => args_ = #[(.int p)] ∧ Z.Warmed39 U.vm ∧ U.heap = h0) (fun _ _ _ _ _ => True) (fun _ U o U' => ∃ v L, o = .returned v ∧ Q_own_forOut Z p a_EMPTY arr kk a_JAVA a_CPP a_DOTNET a_PYTHON a_DELPHI a_ERLANG a_RUBY a_OTHER a_HTTP a_GO a_PHP a_OMS a_RUST a_NODE_JS h0 n0 v U'.heap L ∧ FrameEnd U o U' L ({ frames := 1, cells := 0, slots := 0, locals := 12 } : Room).cells ({ frames := 1, cells := 0, slots := 0, locals := 12 } : Room).slots) := by
  refine MetFree.of_bodySF (plainFor_of_name own_pn_com_example_letters_over_wire_lettersoverwire_LanguageCode) hisR ?_
  intro pP eE sS mM args below meth cC s₁ Bd hml0 hP hK
  obtain ⟨rfl, hZ, hh⟩ := hP
  have hx := Bd.exec
  have hby := Bd.bytes
  have hml : cC.maxLocals = 1 := hml0
  have hown : sS.vm.findClass "com/example/letters_over_wire/lettersoverwire/LanguageCode" = some mM.cls := findClass_of_methodNamed Bd.named
  have hnm := (name_of_methodNamed Bd.named Bd.method).1
  have X0 : Stand pP l eE ({ frames := 1, cells := 0, slots := 0, locals := 12 } : Room) sS mM #[(.int p)] below meth cC s₁ [] 0 0 := Stand.of_body Bd
  have e0 : s₁.heap = h0 := by rw [← hh, Bd.state]; rfl
  have N0 := Fr.nil n0
  show own_Ends pP eE below (own_Got sS (Q_own_forOut Z p a_EMPTY arr kk a_JAVA a_CPP a_DOTNET a_PYTHON a_DELPHI a_ERLANG a_RUBY a_OTHER a_HTTP a_GO a_PHP a_OMS a_RUST a_NODE_JS h0 n0) ({ frames := 1, cells := 0, slots := 0, locals := 12 } : Room).cells ({ frames := 1, cells := 0, slots := 0, locals := 12 } : Room).slots) (s₁.setTop (entryFrame mM #[(.int p)] 1))
  rw [own_ef_own_forOut mM p]
  refine own_go (fun _ k => XS.iloadN X0.here hx rfl (hb hby own_d1_0) rfl k) ?_
  show own_Ends _ _ _ _ (s₁.setTop (mkF mM 1 #[.val (.int p)] [(.int p)]))
  by_cases hc1_0 : p < (0 : Int32)
  · refine own_go (fun _ k => XS.ifYes X0.here hx rfl (pc0 := 1) (pc' := 12) rfl (hb hby own_d1_1) rfl ((if0 _ _).trans (tlt hc1_0).1) (by decide) (by decide) k) ?_
    show own_Ends _ _ _ _ (s₁.setTop (mkF mM 12 #[.val (.int p)] []))
    obtain ⟨_, _, ⟨T2, Lz2, kz2, nz2⟩, -, X2, ⟨Lc2, hQ2, l2, y2, z2⟩, st2⟩ := Jvm.LawKit.callS X0 hx (y := (⟨"java/util/Optional", "empty", "()Ljava/util/Optional;"⟩ : MethodName)) hown (mvT hZ (hw _ (List.mem_of_getElem? (i := 46) rfl))) (mvT hZ (hw _ (List.mem_of_getElem? (i := 47) rfl))) (mvT hZ (hw _ (List.mem_of_getElem? (i := 9) rfl))) (mvT hZ (hw _ (List.mem_of_getElem? (i := 48) rfl))) (by decide) (backOf (W := 0) (own_empty l Z a0 hw [] a_EMPTY h0 n0 O0 S_EMPTY) hZ (hw _ (List.mem_of_getElem? (i := 48) rfl)) (hw _ (List.mem_of_getElem? (i := 9) rfl)) (by decide) (by decide)) (g := (mkF mM 12 #[.val (.int p)] [])) rfl (by rw [hml]; rfl) (argsL := []) (rest := []) (lenOf own_pd1 rfl) rfl (by show 2 * 0 + _ ≤ _; exact Nat.le_of_eq rfl) (hb hby own_d1_12) (fun _ _ => ⟨rfl, e0, (by decide : 0 + 0 ≤ _), (by decide : 0 + 0 ≤ _)⟩)
    dsimp only [Pt.U, Pt.locs, Pt.cells, Pt.slots] at X2 l2 y2 z2 st2 hQ2
    subst l2 y2 z2
    obtain ⟨rfl, Nq2, e2⟩ := hQ2
    have N2 := Fr.app N0 Nq2
    refine own_go st2 ?_
    show own_Ends _ _ _ _ (T2.setTop (mkF mM 15 #[.val (.int p)] [(.ref a_EMPTY)]))
    exact own_retR X2 hx (BodyLoose.notSynchronized Bd) Bd.returns rfl rfl (hb hby own_d1_15) (by decide) (by decide) (by rw [e2]; exact ⟨rfl, N2, rfl⟩)
  · refine own_go (fun _ k => XS.ifNo X0.here hx rfl (hb hby own_d1_1) rfl ((if0 _ _).trans (flt hc1_0).1) k) ?_
    show own_Ends _ _ _ _ (s₁.setTop (mkF mM 4 #[.val (.int p)] []))
    refine own_go (fun _ k => XS.iloadN X0.here hx rfl (hb hby own_d1_4) rfl k) ?_
    show own_Ends _ _ _ _ (s₁.setTop (mkF mM 5 #[.val (.int p)] [(.int p)]))
    obtain ⟨T3, X3, e3, st3⟩ := getS2 X0 hx hZ hown (host := "") (Or.inl (hw _ (List.mem_of_getElem? (i := 4) rfl))) Via.refl e0 (S_BY_CODE.ext O0.2) (g := (mkF mM 5 #[.val (.int p)] [(.int p)])) rfl (hb hby own_d1_5)
    refine own_go st3 ?_
    show own_Ends _ _ _ _ (T3.setTop (mkF mM 8 #[.val (.int p)] [(.ref arr), (.int p)]))
    obtain ⟨cl4, Ar4, aq4, aS4, aN4, aH4, aG4⟩ := id (V_arr.ext O0.2)
    refine own_go (X3.arraylength hx (by rw [e3]; exact Ar4.1) (State.isArrayOf_alike hZ.alike Ar4.2.1) (g := (mkF mM 8 #[.val (.int p)] [(.ref arr), (.int p)])) rfl rfl (hb hby own_d1_8)) ?_
    rw [len_of aS4 aN4]
    show own_Ends _ _ _ _ (T3.setTop (mkF mM 9 #[.val (.int p)] [(.int (14 : Int32)), (.int p)]))
    refine own_go (fun _ k => XS.icmpNo X3.here hx rfl (hb hby own_d1_9) rfl (flt (hout.resolve_left hc1_0)).1 k) ?_
    show own_Ends _ _ _ _ (T3.setTop (mkF mM 12 #[.val (.int p)] []))
    obtain ⟨_, _, ⟨T5, Lz5, kz5, nz5⟩, -, X5, ⟨Lc5, hQ5, l5, y5, z5⟩, st5⟩ := Jvm.LawKit.callS X3 hx (y := (⟨"java/util/Optional", "empty", "()Ljava/util/Optional;"⟩ : MethodName)) hown (mvT hZ (hw _ (List.mem_of_getElem? (i := 46) rfl))) (mvT hZ (hw _ (List.mem_of_getElem? (i := 47) rfl))) (mvT hZ (hw _ (List.mem_of_getElem? (i := 9) rfl))) (mvT hZ (hw _ (List.mem_of_getElem? (i := 48) rfl))) (by decide) (backOf (W := 0) (own_empty l Z a0 hw [] a_EMPTY h0 n0 O0 S_EMPTY) hZ (hw _ (List.mem_of_getElem? (i := 48) rfl)) (hw _ (List.mem_of_getElem? (i := 9) rfl)) (by decide) (by decide)) (g := (mkF mM 12 #[.val (.int p)] [])) rfl (by rw [hml]; rfl) (argsL := []) (rest := []) (lenOf own_pd1 rfl) rfl (by show 2 * 0 + _ ≤ _; exact Nat.le_of_eq rfl) (hb hby own_d1_12) (fun _ _ => ⟨rfl, e3, (by decide : 0 + 0 ≤ _), (by decide : 0 + 0 ≤ _)⟩)
    dsimp only [Pt.U, Pt.locs, Pt.cells, Pt.slots] at X5 l5 y5 z5 st5 hQ5
    subst l5 y5 z5
    obtain ⟨rfl, Nq5, e5⟩ := hQ5
    have N5 := Fr.app N0 Nq5
    refine own_go st5 ?_
    show own_Ends _ _ _ _ (T5.setTop (mkF mM 15 #[.val (.int p)] [(.ref a_EMPTY)]))
    exact own_retR X5 hx (BodyLoose.notSynchronized Bd) Bd.returns rfl rfl (hb hby own_d1_15) (by decide) (by decide) (by rw [e5]; exact ⟨rfl, N5, rfl⟩)
theorem own_pd2 : parseMethodDescriptor "(Ljava/lang/Object;)Ljava/util/Optional;" = some ⟨[(.object "java/lang/Object")], some (.object "java/util/Optional")⟩ := by decide +kernel
theorem own_d1_16 : decode prog_12_method_5_code 16 = .ok (.getstatic 69, 3) := by decide +kernel
theorem own_d1_19 : decode prog_12_method_5_code 19 = .ok (.iload_n 0, 1) := by decide +kernel
theorem own_d1_20 : decode prog_12_method_5_code 20 = .ok (.aaload, 1) := by decide +kernel
theorem own_d1_21 : decode prog_12_method_5_code 21 = .ok (.invokestatic 78, 3) := by decide +kernel
theorem own_d1_24 : decode prog_12_method_5_code 24 = .ok (.areturn, 1) := by decide +kernel
theorem own_ef_own_forIn (m : MethodId) (x0 : Int32) : entryFrame m #[(.int x0)] 1 = mkF m 0 #[.val (.int x0)] [] := by first | (simp [entryFrame, mkF, argsToLocals, Value.category]; done) | rfl
def Q_own_forIn (Z : State) (p : Int32) (x : Addr) (arr : Addr) (kk : ClassId) (a_JAVA : Addr) (a_CPP : Addr) (a_DOTNET : Addr) (a_PYTHON : Addr) (a_DELPHI : Addr) (a_ERLANG : Addr) (a_RUBY : Addr) (a_OTHER : Addr) (a_HTTP : Addr) (a_GO : Addr) (a_PHP : Addr) (a_OMS : Addr) (a_RUST : Addr) (a_NODE_JS : Addr) (h0 : Heap) (n0 : Nat) (v : Option Value) (h : Heap) (L : List Loc) : Prop := ∃ b : Addr, v = some (.ref b) ∧ Fr n0 L ∧ n0 ≤ b ∧ Keep h0 h [] ∧ Exa Z h b "java/util/Optional" ∧ Fld Z h b "java/util/Optional" "value" "Ljava/lang/Object;" (.ref x)
set_option maxRecDepth 65536 in
set_option maxHeartbeats 40000000 in
theorem own_forIn (l : Launch) (Z : State) (a0 : Array Value) (hw : ∀ d ∈ tables_1, d.before a0 Z = true) (ws : List Jvm.Cond) (p : Int32) (x : Addr) (arr : Addr) (kk : ClassId) (a_JAVA : Addr) (a_CPP : Addr) (a_DOTNET : Addr) (a_PYTHON : Addr) (a_DELPHI : Addr) (a_ERLANG : Addr) (a_RUBY : Addr) (a_OTHER : Addr) (a_HTTP : Addr) (a_GO : Addr) (a_PHP : Addr) (a_OMS : Addr) (a_RUST : Addr) (a_NODE_JS : Addr) (h0 : Heap) (n0 : Nat) (O0 : Old Z n0 h0) (S_BY_CODE : Sta Z Z.heap "com/example/letters_over_wire/lettersoverwire/LanguageCode" "BY_CODE" "[Lcom/example/letters_over_wire/lettersoverwire/LanguageCode;" (.ref arr)) (V_arr : Arv Z Z.heap arr kk (.object "com/example/letters_over_wire/lettersoverwire/LanguageCode") (14 : Int32) [(.ref a_JAVA), (.ref a_CPP), (.ref a_DOTNET), (.ref a_PYTHON), (.ref a_DELPHI), (.ref a_ERLANG), (.ref a_RUBY), (.ref a_OTHER), (.ref a_HTTP), (.ref a_GO), (.ref a_PHP), (.ref a_OMS), (.ref a_RUST), (.ref a_NODE_JS)] .null) (hp0 : ¬ p < (0 : Int32)) (hp1 : p < (14 : Int32)) (hv : ([(.ref a_JAVA), (.ref a_CPP), (.ref a_DOTNET), (.ref a_PYTHON), (.ref a_DELPHI), (.ref a_ERLANG), (.ref a_RUBY), (.ref a_OTHER), (.ref a_HTTP), (.ref a_GO), (.ref a_PHP), (.ref a_OMS), (.ref a_RUST), (.ref a_NODE_JS)] : List Value).getD p.toNatClampNeg .null = .ref x) :
    MetFree l (⟨"com/example/letters_over_wire/lettersoverwire/LanguageCode", "forCode", "(I)Ljava/util/Optional;"⟩ : MethodName) (head1 (Jvm.Cond.code (⟨"com/example/letters_over_wire/lettersoverwire/LanguageCode", "forCode", "(I)Ljava/util/Optional;"⟩ : MethodName) prog_12_method_5_code 1 (some (.object "java/util/Optional")) :: ws) ({ frames := 3, cells := 1, slots := 1, locals := 38 } : Room)) (fun args_ U => args_ = #[(.int p)] ∧ Z.Warmed39 U.vm ∧ U.heap = h0) (fun _ _ _ _ _ => True) (fun _ U o U' => ∃ v L, o = .returned v ∧ Q_own_forIn Z p x arr kk a_JAVA a_CPP a_DOTNET a_PYTHON a_DELPHI a_ERLANG a_RUBY a_OTHER a_HTTP a_GO a_PHP a_OMS a_RUST a_NODE_JS h0 n0 v U'.heap L ∧ FrameEnd U o U' L ({ frames := 3, cells := 1, slots := 1, locals := 38 } : Room).cells ({ frames := 3, cells := 1, slots := 1, locals := 38 } : Room).slots) := by
  refine MetFree.of_bodySF (plainFor_of_name own_pn_com_example_letters_over_wire_lettersoverwire_LanguageCode) hisR ?_
  intro pP eE sS mM args below meth cC s₁ Bd hml0 hP hK
  obtain ⟨rfl, hZ, hh⟩ := hP
  have hx := Bd.exec
  have hby := Bd.bytes
  have hml : cC.maxLocals = 1 := hml0
  have hown : sS.vm.findClass "com/example/letters_over_wire/lettersoverwire/LanguageCode" = some mM.cls := findClass_of_methodNamed Bd.named
  have hnm := (name_of_methodNamed Bd.named Bd.method).1
  have X0 : Stand pP l eE ({ frames := 3, cells := 1, slots := 1, locals := 38 } : Room) sS mM #[(.int p)] below meth cC s₁ [] 0 0 := Stand.of_body Bd
  have e0 : s₁.heap = h0 := by rw [← hh, Bd.state]; rfl
  have N0 := Fr.nil n0
  show own_Ends pP eE below (own_Got sS (Q_own_forIn Z p x arr kk a_JAVA a_CPP a_DOTNET a_PYTHON a_DELPHI a_ERLANG a_RUBY a_OTHER a_HTTP a_GO a_PHP a_OMS a_RUST a_NODE_JS h0 n0) ({ frames := 3, cells := 1, slots := 1, locals := 38 } : Room).cells ({ frames := 3, cells := 1, slots := 1, locals := 38 } : Room).slots) (s₁.setTop (entryFrame mM #[(.int p)] 1))
  rw [own_ef_own_forIn mM p]
  refine own_go (fun _ k => XS.iloadN X0.here hx rfl (hb hby own_d1_0) rfl k) ?_
  show own_Ends _ _ _ _ (s₁.setTop (mkF mM 1 #[.val (.int p)] [(.int p)]))
  refine own_go (fun _ k => XS.ifNo X0.here hx rfl (hb hby own_d1_1) rfl ((if0 _ _).trans (flt hp0).1) k) ?_
  show own_Ends _ _ _ _ (s₁.setTop (mkF mM 4 #[.val (.int p)] []))
  refine own_go (fun _ k => XS.iloadN X0.here hx rfl (hb hby own_d1_4) rfl k) ?_
  show own_Ends _ _ _ _ (s₁.setTop (mkF mM 5 #[.val (.int p)] [(.int p)]))
  obtain ⟨T1, X1, e1, st1⟩ := getS2 X0 hx hZ hown (host := "") (Or.inl (hw _ (List.mem_of_getElem? (i := 4) rfl))) Via.refl e0 (S_BY_CODE.ext O0.2) (g := (mkF mM 5 #[.val (.int p)] [(.int p)])) rfl (hb hby own_d1_5)
  refine own_go st1 ?_
  show own_Ends _ _ _ _ (T1.setTop (mkF mM 8 #[.val (.int p)] [(.ref arr), (.int p)]))
  obtain ⟨cl2, Ar2, aq2, aS2, aN2, aH2, aG2⟩ := id (V_arr.ext O0.2)
  refine own_go (X1.arraylength hx (by rw [e1]; exact Ar2.1) (State.isArrayOf_alike hZ.alike Ar2.2.1) (g := (mkF mM 8 #[.val (.int p)] [(.ref arr), (.int p)])) rfl rfl (hb hby own_d1_8)) ?_
  rw [len_of aS2 aN2]
  show own_Ends _ _ _ _ (T1.setTop (mkF mM 9 #[.val (.int p)] [(.int (14 : Int32)), (.int p)]))
  refine own_go (fun _ k => XS.icmpYes X1.here hx rfl (pc0 := 9) (pc' := 16) rfl (hb hby own_d1_9) rfl (tlt hp1).1 (by decide) (by decide) k) ?_
  show own_Ends _ _ _ _ (T1.setTop (mkF mM 16 #[.val (.int p)] []))
  obtain ⟨T3, X3, e3, st3⟩ := getS2 X1 hx hZ hown (host := "") (Or.inl (hw _ (List.mem_of_getElem? (i := 4) rfl))) Via.refl e1 (S_BY_CODE.ext O0.2) (g := (mkF mM 16 #[.val (.int p)] [])) rfl (hb hby own_d1_16)
  refine own_go st3 ?_
  show own_Ends _ _ _ _ (T3.setTop (mkF mM 19 #[.val (.int p)] [(.ref arr)]))
  refine own_go (fun _ k => XS.iloadN X3.here hx rfl (hb hby own_d1_19) rfl k) ?_
  show own_Ends _ _ _ _ (T3.setTop (mkF mM 20 #[.val (.int p)] [(.int p), (.ref arr)]))
  obtain ⟨cl4, Ar4, aq4, aS4, aN4, aH4, aG4⟩ := id (V_arr.ext O0.2)
  have hin4 := inb_of aS4 ⟨hp0, hp1⟩
  refine own_go (X3.aaload hx (j := p) (v := (.ref x)) (by rw [e3]; exact Ar4.1) (State.isArrayOf_alike hZ.alike Ar4.2.1) rfl Ar4.2.2 hin4 (aH4.at hin4 hv) (g := (mkF mM 20 #[.val (.int p)] [(.int p), (.ref arr)])) rfl rfl (hb hby own_d1_20)) ?_
  show own_Ends _ _ _ _ (T3.setTop (mkF mM 21 #[.val (.int p)] [(.ref x)]))
  obtain ⟨_, _, ⟨T5, Lz5, kz5, nz5⟩, -, X5, ⟨Lc5, hQ5, l5, y5, z5⟩, st5⟩ := Jvm.LawKit.callS X3 hx (y := (⟨"java/util/Optional", "ofNullable", "(Ljava/lang/Object;)Ljava/util/Optional;"⟩ : MethodName)) hown (mvT hZ (hw _ (List.mem_of_getElem? (i := 7) rfl))) (mvT hZ (hw _ (List.mem_of_getElem? (i := 8) rfl))) (mvT hZ (hw _ (List.mem_of_getElem? (i := 9) rfl))) (mvT hZ (hw _ (List.mem_of_getElem? (i := 10) rfl))) (by decide) (backOf (W := 0) (own_ofNullable l Z a0 hw [] x h0 n0 O0) hZ (hw _ (List.mem_of_getElem? (i := 10) rfl)) (hw _ (List.mem_of_getElem? (i := 9) rfl)) (by decide) (by decide)) (g := (mkF mM 21 #[.val (.int p)] [(.ref x)])) rfl (by rw [hml]; rfl) (argsL := [(.ref x)]) (rest := []) (lenOf own_pd2 rfl) rfl (by show 2 * 0 + _ ≤ _; exact Nat.le_of_eq rfl) (hb hby own_d1_21) (fun _ _ => ⟨rfl, e3, (by decide : 0 + 1 ≤ _), (by decide : 0 + 1 ≤ _)⟩)
  dsimp only [Pt.U, Pt.locs, Pt.cells, Pt.slots] at X5 l5 y5 z5 st5 hQ5
  subst l5 y5 z5
  obtain ⟨c5, rfl, Nq5, g_c5, K5, E_c5, F_c5⟩ := hQ5
  have N5 := Fr.app N0 Nq5
  have O5 := O0.keep K5 all0
  have Kk5 := (Keep.refl h0 []).trans K5 (all0)
  refine own_go st5 ?_
  show own_Ends _ _ _ _ (T5.setTop (mkF mM 24 #[.val (.int p)] [(.ref c5)]))
  exact own_retR X5 hx (BodyLoose.notSynchronized Bd) Bd.returns rfl rfl (hb hby own_d1_24) (by decide) (by decide) (⟨c5, rfl, N5, g_c5, Kk5, E_c5, F_c5⟩)
theorem own_last (c0 : Int32) (h0 : ¬ c0 < (0 : Int32)) (h1 : c0 < (14 : Int32)) (n0 : ¬ c0 = (0 : Int32)) (n1 : ¬ c0 = (1 : Int32)) (n2 : ¬ c0 = (2 : Int32)) (n3 : ¬ c0 = (3 : Int32)) (n4 : ¬ c0 = (4 : Int32)) (n5 : ¬ c0 = (5 : Int32)) (n6 : ¬ c0 = (6 : Int32)) (n7 : ¬ c0 = (7 : Int32)) (n8 : ¬ c0 = (8 : Int32)) (n9 : ¬ c0 = (9 : Int32)) (n10 : ¬ c0 = (10 : Int32)) (n11 : ¬ c0 = (11 : Int32)) (n12 : ¬ c0 = (12 : Int32)) : c0 = (13 : Int32) := by
  rcases own_range c0 h0 h1 with rfl | rfl | rfl | rfl | rfl | rfl | rfl | rfl | rfl | rfl | rfl | rfl | rfl | rfl
  all_goals first | rfl | (exact absurd rfl ‹_›)
theorem own_d5_0 : decode method_3_code 0 = .ok (.iload_n 0, 1) := by decide +kernel
theorem own_d5_1 : decode method_3_code 1 = .ok (.ifCond .ne 7, 3) := by decide +kernel
theorem own_d5_4 : decode method_3_code 4 = .ok (.getstatic 33, 3) := by decide +kernel
theorem own_d5_7 : decode method_3_code 7 = .ok (.areturn, 1) := by decide +kernel
theorem own_d5_8 : decode method_3_code 8 = .ok (.iload_n 0, 1) := by decide +kernel
theorem own_d5_9 : decode method_3_code 9 = .ok (.iconst 1, 1) := by decide +kernel
theorem own_d5_10 : decode method_3_code 10 = .ok (.if_icmp .ne 7, 3) := by decide +kernel
theorem own_d5_13 : decode method_3_code 13 = .ok (.getstatic 37, 3) := by decide +kernel
theorem own_d5_16 : decode method_3_code 16 = .ok (.areturn, 1) := by decide +kernel
theorem own_d5_17 : decode method_3_code 17 = .ok (.iload_n 0, 1) := by decide +kernel
theorem own_d5_18 : decode method_3_code 18 = .ok (.iconst 2, 1) := by decide +kernel
theorem own_d5_19 : decode method_3_code 19 = .ok (.if_icmp .ne 7, 3) := by decide +kernel
theorem own_d5_22 : decode method_3_code 22 = .ok (.getstatic 40, 3) := by decide +kernel
theorem own_d5_25 : decode method_3_code 25 = .ok (.areturn, 1) := by decide +kernel
theorem own_d5_26 : decode method_3_code 26 = .ok (.iload_n 0, 1) := by decide +kernel
theorem own_d5_27 : decode method_3_code 27 = .ok (.iconst 3, 1) := by decide +kernel
theorem own_d5_28 : decode method_3_code 28 = .ok (.if_icmp .ne 7, 3) := by decide +kernel
theorem own_d5_31 : decode method_3_code 31 = .ok (.getstatic 43, 3) := by decide +kernel
theorem own_d5_34 : decode method_3_code 34 = .ok (.areturn, 1) := by decide +kernel
theorem own_d5_35 : decode method_3_code 35 = .ok (.iload_n 0, 1) := by decide +kernel
theorem own_d5_36 : decode method_3_code 36 = .ok (.iconst 4, 1) := by decide +kernel
theorem own_d5_37 : decode method_3_code 37 = .ok (.if_icmp .ne 7, 3) := by decide +kernel
theorem own_d5_40 : decode method_3_code 40 = .ok (.getstatic 46, 3) := by decide +kernel
theorem own_d5_43 : decode method_3_code 43 = .ok (.areturn, 1) := by decide +kernel
theorem own_d5_44 : decode method_3_code 44 = .ok (.iload_n 0, 1) := by decide +kernel
theorem own_d5_45 : decode method_3_code 45 = .ok (.iconst 5, 1) := by decide +kernel
theorem own_d5_46 : decode method_3_code 46 = .ok (.if_icmp .ne 7, 3) := by decide +kernel
theorem own_d5_49 : decode method_3_code 49 = .ok (.getstatic 49, 3) := by decide +kernel
theorem own_d5_52 : decode method_3_code 52 = .ok (.areturn, 1) := by decide +kernel
theorem own_d5_53 : decode method_3_code 53 = .ok (.iload_n 0, 1) := by decide +kernel
theorem own_d5_54 : decode method_3_code 54 = .ok (.bipush 6, 2) := by decide +kernel
theorem own_d5_56 : decode method_3_code 56 = .ok (.if_icmp .ne 7, 3) := by decide +kernel
theorem own_d5_59 : decode method_3_code 59 = .ok (.getstatic 52, 3) := by decide +kernel
theorem own_d5_62 : decode method_3_code 62 = .ok (.areturn, 1) := by decide +kernel
theorem own_d5_63 : decode method_3_code 63 = .ok (.iload_n 0, 1) := by decide +kernel
theorem own_d5_64 : decode method_3_code 64 = .ok (.bipush 7, 2) := by decide +kernel
theorem own_d5_66 : decode method_3_code 66 = .ok (.if_icmp .ne 7, 3) := by decide +kernel
theorem own_d5_69 : decode method_3_code 69 = .ok (.getstatic 55, 3) := by decide +kernel
theorem own_d5_72 : decode method_3_code 72 = .ok (.areturn, 1) := by decide +kernel
theorem own_d5_73 : decode method_3_code 73 = .ok (.iload_n 0, 1) := by decide +kernel
theorem own_d5_74 : decode method_3_code 74 = .ok (.bipush 8, 2) := by decide +kernel
theorem own_d5_76 : decode method_3_code 76 = .ok (.if_icmp .ne 7, 3) := by decide +kernel
theorem own_d5_79 : decode method_3_code 79 = .ok (.getstatic 58, 3) := by decide +kernel
theorem own_d5_82 : decode method_3_code 82 = .ok (.areturn, 1) := by decide +kernel
theorem own_d5_83 : decode method_3_code 83 = .ok (.iload_n 0, 1) := by decide +kernel
theorem own_d5_84 : decode method_3_code 84 = .ok (.bipush 9, 2) := by decide +kernel
theorem own_d5_86 : decode method_3_code 86 = .ok (.if_icmp .ne 7, 3) := by decide +kernel
theorem own_d5_89 : decode method_3_code 89 = .ok (.getstatic 61, 3) := by decide +kernel
theorem own_d5_92 : decode method_3_code 92 = .ok (.areturn, 1) := by decide +kernel
theorem own_d5_93 : decode method_3_code 93 = .ok (.iload_n 0, 1) := by decide +kernel
theorem own_d5_94 : decode method_3_code 94 = .ok (.bipush 10, 2) := by decide +kernel
theorem own_d5_96 : decode method_3_code 96 = .ok (.if_icmp .ne 7, 3) := by decide +kernel
theorem own_d5_99 : decode method_3_code 99 = .ok (.getstatic 64, 3) := by decide +kernel
theorem own_d5_102 : decode method_3_code 102 = .ok (.areturn, 1) := by decide +kernel
theorem own_d5_103 : decode method_3_code 103 = .ok (.iload_n 0, 1) := by decide +kernel
theorem own_d5_104 : decode method_3_code 104 = .ok (.bipush 11, 2) := by decide +kernel
theorem own_d5_106 : decode method_3_code 106 = .ok (.if_icmp .ne 7, 3) := by decide +kernel
theorem own_d5_109 : decode method_3_code 109 = .ok (.getstatic 67, 3) := by decide +kernel
theorem own_d5_112 : decode method_3_code 112 = .ok (.areturn, 1) := by decide +kernel
theorem own_d5_113 : decode method_3_code 113 = .ok (.iload_n 0, 1) := by decide +kernel
theorem own_d5_114 : decode method_3_code 114 = .ok (.bipush 12, 2) := by decide +kernel
theorem own_d5_116 : decode method_3_code 116 = .ok (.if_icmp .ne 7, 3) := by decide +kernel
theorem own_d5_119 : decode method_3_code 119 = .ok (.getstatic 70, 3) := by decide +kernel
theorem own_d5_122 : decode method_3_code 122 = .ok (.areturn, 1) := by decide +kernel
theorem own_d5_123 : decode method_3_code 123 = .ok (.iload_n 0, 1) := by decide +kernel
theorem own_d5_124 : decode method_3_code 124 = .ok (.bipush 13, 2) := by decide +kernel
theorem own_d5_126 : decode method_3_code 126 = .ok (.if_icmp .ne 7, 3) := by decide +kernel
theorem own_d5_129 : decode method_3_code 129 = .ok (.getstatic 73, 3) := by decide +kernel
theorem own_d5_132 : decode method_3_code 132 = .ok (.areturn, 1) := by decide +kernel
theorem own_ef_own_expIn (m : MethodId) (x0 : Int32) : entryFrame m #[(.int x0)] 1 = mkF m 0 #[.val (.int x0)] [] := by first | (simp [entryFrame, mkF, argsToLocals, Value.category]; done) | rfl
def Q_own_expIn (Z : State) (p : Int32) (x : Addr) (a_JAVA : Addr) (a_CPP : Addr) (a_DOTNET : Addr) (a_PYTHON : Addr) (a_DELPHI : Addr) (a_ERLANG : Addr) (a_RUBY : Addr) (a_OTHER : Addr) (a_HTTP : Addr) (a_GO : Addr) (a_PHP : Addr) (a_OMS : Addr) (a_RUST : Addr) (a_NODE_JS : Addr) (h0 : Heap) (n0 : Nat) (v : Option Value) (h : Heap) (L : List Loc) : Prop := v = some (.ref x) ∧ Fr n0 L ∧ h = h0
theorem own_pn_com_example_letters_over_wire_lettersoverwire_LanguageCodeForCodePinLaw : plainName "com/example/letters_over_wire/lettersoverwire/LanguageCodeForCodePinLaw" = true := by first | (simp [plainName, overriddenIn]; done) | decide +kernel
set_option maxRecDepth 65536 in
set_option maxHeartbeats 40000000 in
theorem own_expIn (l : Launch) (Z : State) (a0 : Array Value) (hw : ∀ d ∈ tables_1, d.before a0 Z = true) (ws : List Jvm.Cond) (p : Int32) (x : Addr) (a_JAVA : Addr) (a_CPP : Addr) (a_DOTNET : Addr) (a_PYTHON : Addr) (a_DELPHI : Addr) (a_ERLANG : Addr) (a_RUBY : Addr) (a_OTHER : Addr) (a_HTTP : Addr) (a_GO : Addr) (a_PHP : Addr) (a_OMS : Addr) (a_RUST : Addr) (a_NODE_JS : Addr) (h0 : Heap) (n0 : Nat) (O0 : Old Z n0 h0) (S_JAVA : Sta Z Z.heap "com/example/letters_over_wire/lettersoverwire/LanguageCode" "JAVA" "Lcom/example/letters_over_wire/lettersoverwire/LanguageCode;" (.ref a_JAVA)) (S_CPP : Sta Z Z.heap "com/example/letters_over_wire/lettersoverwire/LanguageCode" "CPP" "Lcom/example/letters_over_wire/lettersoverwire/LanguageCode;" (.ref a_CPP)) (S_DOTNET : Sta Z Z.heap "com/example/letters_over_wire/lettersoverwire/LanguageCode" "DOTNET" "Lcom/example/letters_over_wire/lettersoverwire/LanguageCode;" (.ref a_DOTNET)) (S_PYTHON : Sta Z Z.heap "com/example/letters_over_wire/lettersoverwire/LanguageCode" "PYTHON" "Lcom/example/letters_over_wire/lettersoverwire/LanguageCode;" (.ref a_PYTHON)) (S_DELPHI : Sta Z Z.heap "com/example/letters_over_wire/lettersoverwire/LanguageCode" "DELPHI" "Lcom/example/letters_over_wire/lettersoverwire/LanguageCode;" (.ref a_DELPHI)) (S_ERLANG : Sta Z Z.heap "com/example/letters_over_wire/lettersoverwire/LanguageCode" "ERLANG" "Lcom/example/letters_over_wire/lettersoverwire/LanguageCode;" (.ref a_ERLANG)) (S_RUBY : Sta Z Z.heap "com/example/letters_over_wire/lettersoverwire/LanguageCode" "RUBY" "Lcom/example/letters_over_wire/lettersoverwire/LanguageCode;" (.ref a_RUBY)) (S_OTHER : Sta Z Z.heap "com/example/letters_over_wire/lettersoverwire/LanguageCode" "OTHER" "Lcom/example/letters_over_wire/lettersoverwire/LanguageCode;" (.ref a_OTHER)) (S_HTTP : Sta Z Z.heap "com/example/letters_over_wire/lettersoverwire/LanguageCode" "HTTP" "Lcom/example/letters_over_wire/lettersoverwire/LanguageCode;" (.ref a_HTTP)) (S_GO : Sta Z Z.heap "com/example/letters_over_wire/lettersoverwire/LanguageCode" "GO" "Lcom/example/letters_over_wire/lettersoverwire/LanguageCode;" (.ref a_GO)) (S_PHP : Sta Z Z.heap "com/example/letters_over_wire/lettersoverwire/LanguageCode" "PHP" "Lcom/example/letters_over_wire/lettersoverwire/LanguageCode;" (.ref a_PHP)) (S_OMS : Sta Z Z.heap "com/example/letters_over_wire/lettersoverwire/LanguageCode" "OMS" "Lcom/example/letters_over_wire/lettersoverwire/LanguageCode;" (.ref a_OMS)) (S_RUST : Sta Z Z.heap "com/example/letters_over_wire/lettersoverwire/LanguageCode" "RUST" "Lcom/example/letters_over_wire/lettersoverwire/LanguageCode;" (.ref a_RUST)) (S_NODE_JS : Sta Z Z.heap "com/example/letters_over_wire/lettersoverwire/LanguageCode" "NODE_JS" "Lcom/example/letters_over_wire/lettersoverwire/LanguageCode;" (.ref a_NODE_JS)) (hp0 : ¬ p < (0 : Int32)) (hp1 : p < (14 : Int32)) (hr : x = (if p = (0 : Int32) then a_JAVA else if p = (1 : Int32) then a_CPP else if p = (2 : Int32) then a_DOTNET else if p = (3 : Int32) then a_PYTHON else if p = (4 : Int32) then a_DELPHI else if p = (5 : Int32) then a_ERLANG else if p = (6 : Int32) then a_RUBY else if p = (7 : Int32) then a_OTHER else if p = (8 : Int32) then a_HTTP else if p = (9 : Int32) then a_GO else if p = (10 : Int32) then a_PHP else if p = (11 : Int32) then a_OMS else if p = (12 : Int32) then a_RUST else a_NODE_JS)) :
    MetFree l (⟨"com/example/letters_over_wire/lettersoverwire/LanguageCodeForCodePinLaw", "expected", "(I)Lcom/example/letters_over_wire/lettersoverwire/LanguageCode;"⟩ : MethodName) (head1 (Jvm.Cond.code (⟨"com/example/letters_over_wire/lettersoverwire/LanguageCodeForCodePinLaw", "expected", "(I)Lcom/example/letters_over_wire/lettersoverwire/LanguageCode;"⟩ : MethodName) method_3_code 1 (some (.object "com/example/letters_over_wire/lettersoverwire/LanguageCode")) :: ws) ({ frames := 0, cells := 0, slots := 0, locals := 0 } : Room)) (fun args_ U => args_ = #[(.int p)] ∧ Z.Warmed39 U.vm ∧ U.heap = h0) (fun _ _ _ _ _ => True) (fun _ U o U' => ∃ v L, o = .returned v ∧ Q_own_expIn Z p x a_JAVA a_CPP a_DOTNET a_PYTHON a_DELPHI a_ERLANG a_RUBY a_OTHER a_HTTP a_GO a_PHP a_OMS a_RUST a_NODE_JS h0 n0 v U'.heap L ∧ FrameEnd U o U' L ({ frames := 0, cells := 0, slots := 0, locals := 0 } : Room).cells ({ frames := 0, cells := 0, slots := 0, locals := 0 } : Room).slots) := by
  refine MetFree.of_bodySF (plainFor_of_name own_pn_com_example_letters_over_wire_lettersoverwire_LanguageCodeForCodePinLaw) hisR ?_
  intro pP eE sS mM args below meth cC s₁ Bd hml0 hP hK
  obtain ⟨rfl, hZ, hh⟩ := hP
  have hx := Bd.exec
  have hby := Bd.bytes
  have hml : cC.maxLocals = 1 := hml0
  have hown : sS.vm.findClass "com/example/letters_over_wire/lettersoverwire/LanguageCodeForCodePinLaw" = some mM.cls := findClass_of_methodNamed Bd.named
  have hnm := (name_of_methodNamed Bd.named Bd.method).1
  have X0 : Stand pP l eE ({ frames := 0, cells := 0, slots := 0, locals := 0 } : Room) sS mM #[(.int p)] below meth cC s₁ [] 0 0 := Stand.of_body Bd
  have e0 : s₁.heap = h0 := by rw [← hh, Bd.state]; rfl
  have N0 := Fr.nil n0
  show own_Ends pP eE below (own_Got sS (Q_own_expIn Z p x a_JAVA a_CPP a_DOTNET a_PYTHON a_DELPHI a_ERLANG a_RUBY a_OTHER a_HTTP a_GO a_PHP a_OMS a_RUST a_NODE_JS h0 n0) ({ frames := 0, cells := 0, slots := 0, locals := 0 } : Room).cells ({ frames := 0, cells := 0, slots := 0, locals := 0 } : Room).slots) (s₁.setTop (entryFrame mM #[(.int p)] 1))
  rw [own_ef_own_expIn mM p]
  refine own_go (fun _ k => XS.iloadN X0.here hx rfl (hb hby own_d5_0) rfl k) ?_
  show own_Ends _ _ _ _ (s₁.setTop (mkF mM 1 #[.val (.int p)] [(.int p)]))
  by_cases hc1_0 : p = (0 : Int32)
  · refine own_go (fun _ k => XS.ifNo X0.here hx rfl (hb hby own_d5_1) rfl ((if0 _ _).trans (teq hc1_0).2) k) ?_
    show own_Ends _ _ _ _ (s₁.setTop (mkF mM 4 #[.val (.int p)] []))
    obtain ⟨T2, X2, e2, st2⟩ := getS2 X0 hx hZ hown (host := "") (Or.inl (hw _ (List.mem_of_getElem? (i := 53) rfl))) Via.refl e0 (S_JAVA.ext O0.2) (g := (mkF mM 4 #[.val (.int p)] [])) rfl (hb hby own_d5_4)
    refine own_go st2 ?_
    show own_Ends _ _ _ _ (T2.setTop (mkF mM 7 #[.val (.int p)] [(.ref a_JAVA)]))
    exact own_retR X2 hx (BodyLoose.notSynchronized Bd) Bd.returns rfl rfl (hb hby own_d5_7) (by decide) (by decide) (by rw [e2]; exact ⟨by rw [hr, if_pos hc1_0], N0, rfl⟩)
  · refine own_go (fun _ k => XS.ifYes X0.here hx rfl (pc0 := 1) (pc' := 8) rfl (hb hby own_d5_1) rfl ((if0 _ _).trans (feq hc1_0).2) (by decide) (by decide) k) ?_
    show own_Ends _ _ _ _ (s₁.setTop (mkF mM 8 #[.val (.int p)] []))
    refine own_go (fun _ k => XS.iloadN X0.here hx rfl (hb hby own_d5_8) rfl k) ?_
    show own_Ends _ _ _ _ (s₁.setTop (mkF mM 9 #[.val (.int p)] [(.int p)]))
    refine own_go (fun _ k => XS.iconst X0.here hx rfl (hb hby own_d5_9) k) ?_
    show own_Ends _ _ _ _ (s₁.setTop (mkF mM 10 #[.val (.int p)] [(.int (1 : Int32)), (.int p)]))
    by_cases hc10_2 : p = (1 : Int32)
    · refine own_go (fun _ k => XS.icmpNo X0.here hx rfl (hb hby own_d5_10) rfl (teq hc10_2).2 k) ?_
      show own_Ends _ _ _ _ (s₁.setTop (mkF mM 13 #[.val (.int p)] []))
      obtain ⟨T4, X4, e4, st4⟩ := getS2 X0 hx hZ hown (host := "") (Or.inl (hw _ (List.mem_of_getElem? (i := 45) rfl))) Via.refl e0 (S_CPP.ext O0.2) (g := (mkF mM 13 #[.val (.int p)] [])) rfl (hb hby own_d5_13)
      refine own_go st4 ?_
      show own_Ends _ _ _ _ (T4.setTop (mkF mM 16 #[.val (.int p)] [(.ref a_CPP)]))
      exact own_retR X4 hx (BodyLoose.notSynchronized Bd) Bd.returns rfl rfl (hb hby own_d5_16) (by decide) (by decide) (by rw [e4]; exact ⟨by rw [hr, if_neg hc1_0, if_pos hc10_2], N0, rfl⟩)
    · refine own_go (fun _ k => XS.icmpYes X0.here hx rfl (pc0 := 10) (pc' := 17) rfl (hb hby own_d5_10) rfl (feq hc10_2).2 (by decide) (by decide) k) ?_
      show own_Ends _ _ _ _ (s₁.setTop (mkF mM 17 #[.val (.int p)] []))
      refine own_go (fun _ k => XS.iloadN X0.here hx rfl (hb hby own_d5_17) rfl k) ?_
      show own_Ends _ _ _ _ (s₁.setTop (mkF mM 18 #[.val (.int p)] [(.int p)]))
      refine own_go (fun _ k => XS.iconst X0.here hx rfl (hb hby own_d5_18) k) ?_
      show own_Ends _ _ _ _ (s₁.setTop (mkF mM 19 #[.val (.int p)] [(.int (2 : Int32)), (.int p)]))
      by_cases hc19_4 : p = (2 : Int32)
      · refine own_go (fun _ k => XS.icmpNo X0.here hx rfl (hb hby own_d5_19) rfl (teq hc19_4).2 k) ?_
        show own_Ends _ _ _ _ (s₁.setTop (mkF mM 22 #[.val (.int p)] []))
        obtain ⟨T6, X6, e6, st6⟩ := getS2 X0 hx hZ hown (host := "") (Or.inl (hw _ (List.mem_of_getElem? (i := 26) rfl))) Via.refl e0 (S_DOTNET.ext O0.2) (g := (mkF mM 22 #[.val (.int p)] [])) rfl (hb hby own_d5_22)
        refine own_go st6 ?_
        show own_Ends _ _ _ _ (T6.setTop (mkF mM 25 #[.val (.int p)] [(.ref a_DOTNET)]))
        exact own_retR X6 hx (BodyLoose.notSynchronized Bd) Bd.returns rfl rfl (hb hby own_d5_25) (by decide) (by decide) (by rw [e6]; exact ⟨by rw [hr, if_neg hc1_0, if_neg hc10_2, if_pos hc19_4], N0, rfl⟩)
      · refine own_go (fun _ k => XS.icmpYes X0.here hx rfl (pc0 := 19) (pc' := 26) rfl (hb hby own_d5_19) rfl (feq hc19_4).2 (by decide) (by decide) k) ?_
        show own_Ends _ _ _ _ (s₁.setTop (mkF mM 26 #[.val (.int p)] []))
        refine own_go (fun _ k => XS.iloadN X0.here hx rfl (hb hby own_d5_26) rfl k) ?_
        show own_Ends _ _ _ _ (s₁.setTop (mkF mM 27 #[.val (.int p)] [(.int p)]))
        refine own_go (fun _ k => XS.iconst X0.here hx rfl (hb hby own_d5_27) k) ?_
        show own_Ends _ _ _ _ (s₁.setTop (mkF mM 28 #[.val (.int p)] [(.int (3 : Int32)), (.int p)]))
        by_cases hc28_6 : p = (3 : Int32)
        · refine own_go (fun _ k => XS.icmpNo X0.here hx rfl (hb hby own_d5_28) rfl (teq hc28_6).2 k) ?_
          show own_Ends _ _ _ _ (s₁.setTop (mkF mM 31 #[.val (.int p)] []))
          obtain ⟨T8, X8, e8, st8⟩ := getS2 X0 hx hZ hown (host := "") (Or.inl (hw _ (List.mem_of_getElem? (i := 55) rfl))) Via.refl e0 (S_PYTHON.ext O0.2) (g := (mkF mM 31 #[.val (.int p)] [])) rfl (hb hby own_d5_31)
          refine own_go st8 ?_
          show own_Ends _ _ _ _ (T8.setTop (mkF mM 34 #[.val (.int p)] [(.ref a_PYTHON)]))
          exact own_retR X8 hx (BodyLoose.notSynchronized Bd) Bd.returns rfl rfl (hb hby own_d5_34) (by decide) (by decide) (by rw [e8]; exact ⟨by rw [hr, if_neg hc1_0, if_neg hc10_2, if_neg hc19_4, if_pos hc28_6], N0, rfl⟩)
        · refine own_go (fun _ k => XS.icmpYes X0.here hx rfl (pc0 := 28) (pc' := 35) rfl (hb hby own_d5_28) rfl (feq hc28_6).2 (by decide) (by decide) k) ?_
          show own_Ends _ _ _ _ (s₁.setTop (mkF mM 35 #[.val (.int p)] []))
          refine own_go (fun _ k => XS.iloadN X0.here hx rfl (hb hby own_d5_35) rfl k) ?_
          show own_Ends _ _ _ _ (s₁.setTop (mkF mM 36 #[.val (.int p)] [(.int p)]))
          refine own_go (fun _ k => XS.iconst X0.here hx rfl (hb hby own_d5_36) k) ?_
          show own_Ends _ _ _ _ (s₁.setTop (mkF mM 37 #[.val (.int p)] [(.int (4 : Int32)), (.int p)]))
          by_cases hc37_8 : p = (4 : Int32)
          · refine own_go (fun _ k => XS.icmpNo X0.here hx rfl (hb hby own_d5_37) rfl (teq hc37_8).2 k) ?_
            show own_Ends _ _ _ _ (s₁.setTop (mkF mM 40 #[.val (.int p)] []))
            obtain ⟨T10, X10, e10, st10⟩ := getS2 X0 hx hZ hown (host := "") (Or.inl (hw _ (List.mem_of_getElem? (i := 59) rfl))) Via.refl e0 (S_DELPHI.ext O0.2) (g := (mkF mM 40 #[.val (.int p)] [])) rfl (hb hby own_d5_40)
            refine own_go st10 ?_
            show own_Ends _ _ _ _ (T10.setTop (mkF mM 43 #[.val (.int p)] [(.ref a_DELPHI)]))
            exact own_retR X10 hx (BodyLoose.notSynchronized Bd) Bd.returns rfl rfl (hb hby own_d5_43) (by decide) (by decide) (by rw [e10]; exact ⟨by rw [hr, if_neg hc1_0, if_neg hc10_2, if_neg hc19_4, if_neg hc28_6, if_pos hc37_8], N0, rfl⟩)
          · refine own_go (fun _ k => XS.icmpYes X0.here hx rfl (pc0 := 37) (pc' := 44) rfl (hb hby own_d5_37) rfl (feq hc37_8).2 (by decide) (by decide) k) ?_
            show own_Ends _ _ _ _ (s₁.setTop (mkF mM 44 #[.val (.int p)] []))
            refine own_go (fun _ k => XS.iloadN X0.here hx rfl (hb hby own_d5_44) rfl k) ?_
            show own_Ends _ _ _ _ (s₁.setTop (mkF mM 45 #[.val (.int p)] [(.int p)]))
            refine own_go (fun _ k => XS.iconst X0.here hx rfl (hb hby own_d5_45) k) ?_
            show own_Ends _ _ _ _ (s₁.setTop (mkF mM 46 #[.val (.int p)] [(.int (5 : Int32)), (.int p)]))
            by_cases hc46_10 : p = (5 : Int32)
            · refine own_go (fun _ k => XS.icmpNo X0.here hx rfl (hb hby own_d5_46) rfl (teq hc46_10).2 k) ?_
              show own_Ends _ _ _ _ (s₁.setTop (mkF mM 49 #[.val (.int p)] []))
              obtain ⟨T12, X12, e12, st12⟩ := getS2 X0 hx hZ hown (host := "") (Or.inl (hw _ (List.mem_of_getElem? (i := 63) rfl))) Via.refl e0 (S_ERLANG.ext O0.2) (g := (mkF mM 49 #[.val (.int p)] [])) rfl (hb hby own_d5_49)
              refine own_go st12 ?_
              show own_Ends _ _ _ _ (T12.setTop (mkF mM 52 #[.val (.int p)] [(.ref a_ERLANG)]))
              exact own_retR X12 hx (BodyLoose.notSynchronized Bd) Bd.returns rfl rfl (hb hby own_d5_52) (by decide) (by decide) (by rw [e12]; exact ⟨by rw [hr, if_neg hc1_0, if_neg hc10_2, if_neg hc19_4, if_neg hc28_6, if_neg hc37_8, if_pos hc46_10], N0, rfl⟩)
            · refine own_go (fun _ k => XS.icmpYes X0.here hx rfl (pc0 := 46) (pc' := 53) rfl (hb hby own_d5_46) rfl (feq hc46_10).2 (by decide) (by decide) k) ?_
              show own_Ends _ _ _ _ (s₁.setTop (mkF mM 53 #[.val (.int p)] []))
              refine own_go (fun _ k => XS.iloadN X0.here hx rfl (hb hby own_d5_53) rfl k) ?_
              show own_Ends _ _ _ _ (s₁.setTop (mkF mM 54 #[.val (.int p)] [(.int p)]))
              refine own_go (fun _ k => XS.bipush X0.here hx rfl (hb hby own_d5_54) k) ?_
              show own_Ends _ _ _ _ (s₁.setTop (mkF mM 56 #[.val (.int p)] [(.int (6 : Int32)), (.int p)]))
              by_cases hc56_12 : p = (6 : Int32)
              · refine own_go (fun _ k => XS.icmpNo X0.here hx rfl (hb hby own_d5_56) rfl (teq hc56_12).2 k) ?_
                show own_Ends _ _ _ _ (s₁.setTop (mkF mM 59 #[.val (.int p)] []))
                obtain ⟨T14, X14, e14, st14⟩ := getS2 X0 hx hZ hown (host := "") (Or.inl (hw _ (List.mem_of_getElem? (i := 61) rfl))) Via.refl e0 (S_RUBY.ext O0.2) (g := (mkF mM 59 #[.val (.int p)] [])) rfl (hb hby own_d5_59)
                refine own_go st14 ?_
                show own_Ends _ _ _ _ (T14.setTop (mkF mM 62 #[.val (.int p)] [(.ref a_RUBY)]))
                exact own_retR X14 hx (BodyLoose.notSynchronized Bd) Bd.returns rfl rfl (hb hby own_d5_62) (by decide) (by decide) (by rw [e14]; exact ⟨by rw [hr, if_neg hc1_0, if_neg hc10_2, if_neg hc19_4, if_neg hc28_6, if_neg hc37_8, if_neg hc46_10, if_pos hc56_12], N0, rfl⟩)
              · refine own_go (fun _ k => XS.icmpYes X0.here hx rfl (pc0 := 56) (pc' := 63) rfl (hb hby own_d5_56) rfl (feq hc56_12).2 (by decide) (by decide) k) ?_
                show own_Ends _ _ _ _ (s₁.setTop (mkF mM 63 #[.val (.int p)] []))
                refine own_go (fun _ k => XS.iloadN X0.here hx rfl (hb hby own_d5_63) rfl k) ?_
                show own_Ends _ _ _ _ (s₁.setTop (mkF mM 64 #[.val (.int p)] [(.int p)]))
                refine own_go (fun _ k => XS.bipush X0.here hx rfl (hb hby own_d5_64) k) ?_
                show own_Ends _ _ _ _ (s₁.setTop (mkF mM 66 #[.val (.int p)] [(.int (7 : Int32)), (.int p)]))
                by_cases hc66_14 : p = (7 : Int32)
                · refine own_go (fun _ k => XS.icmpNo X0.here hx rfl (hb hby own_d5_66) rfl (teq hc66_14).2 k) ?_
                  show own_Ends _ _ _ _ (s₁.setTop (mkF mM 69 #[.val (.int p)] []))
                  obtain ⟨T16, X16, e16, st16⟩ := getS2 X0 hx hZ hown (host := "") (Or.inl (hw _ (List.mem_of_getElem? (i := 57) rfl))) Via.refl e0 (S_OTHER.ext O0.2) (g := (mkF mM 69 #[.val (.int p)] [])) rfl (hb hby own_d5_69)
                  refine own_go st16 ?_
                  show own_Ends _ _ _ _ (T16.setTop (mkF mM 72 #[.val (.int p)] [(.ref a_OTHER)]))
                  exact own_retR X16 hx (BodyLoose.notSynchronized Bd) Bd.returns rfl rfl (hb hby own_d5_72) (by decide) (by decide) (by rw [e16]; exact ⟨by rw [hr, if_neg hc1_0, if_neg hc10_2, if_neg hc19_4, if_neg hc28_6, if_neg hc37_8, if_neg hc46_10, if_neg hc56_12, if_pos hc66_14], N0, rfl⟩)
                · refine own_go (fun _ k => XS.icmpYes X0.here hx rfl (pc0 := 66) (pc' := 73) rfl (hb hby own_d5_66) rfl (feq hc66_14).2 (by decide) (by decide) k) ?_
                  show own_Ends _ _ _ _ (s₁.setTop (mkF mM 73 #[.val (.int p)] []))
                  refine own_go (fun _ k => XS.iloadN X0.here hx rfl (hb hby own_d5_73) rfl k) ?_
                  show own_Ends _ _ _ _ (s₁.setTop (mkF mM 74 #[.val (.int p)] [(.int p)]))
                  refine own_go (fun _ k => XS.bipush X0.here hx rfl (hb hby own_d5_74) k) ?_
                  show own_Ends _ _ _ _ (s₁.setTop (mkF mM 76 #[.val (.int p)] [(.int (8 : Int32)), (.int p)]))
                  by_cases hc76_16 : p = (8 : Int32)
                  · refine own_go (fun _ k => XS.icmpNo X0.here hx rfl (hb hby own_d5_76) rfl (teq hc76_16).2 k) ?_
                    show own_Ends _ _ _ _ (s₁.setTop (mkF mM 79 #[.val (.int p)] []))
                    obtain ⟨T18, X18, e18, st18⟩ := getS2 X0 hx hZ hown (host := "") (Or.inl (hw _ (List.mem_of_getElem? (i := 51) rfl))) Via.refl e0 (S_HTTP.ext O0.2) (g := (mkF mM 79 #[.val (.int p)] [])) rfl (hb hby own_d5_79)
                    refine own_go st18 ?_
                    show own_Ends _ _ _ _ (T18.setTop (mkF mM 82 #[.val (.int p)] [(.ref a_HTTP)]))
                    exact own_retR X18 hx (BodyLoose.notSynchronized Bd) Bd.returns rfl rfl (hb hby own_d5_82) (by decide) (by decide) (by rw [e18]; exact ⟨by rw [hr, if_neg hc1_0, if_neg hc10_2, if_neg hc19_4, if_neg hc28_6, if_neg hc37_8, if_neg hc46_10, if_neg hc56_12, if_neg hc66_14, if_pos hc76_16], N0, rfl⟩)
                  · refine own_go (fun _ k => XS.icmpYes X0.here hx rfl (pc0 := 76) (pc' := 83) rfl (hb hby own_d5_76) rfl (feq hc76_16).2 (by decide) (by decide) k) ?_
                    show own_Ends _ _ _ _ (s₁.setTop (mkF mM 83 #[.val (.int p)] []))
                    refine own_go (fun _ k => XS.iloadN X0.here hx rfl (hb hby own_d5_83) rfl k) ?_
                    show own_Ends _ _ _ _ (s₁.setTop (mkF mM 84 #[.val (.int p)] [(.int p)]))
                    refine own_go (fun _ k => XS.bipush X0.here hx rfl (hb hby own_d5_84) k) ?_
                    show own_Ends _ _ _ _ (s₁.setTop (mkF mM 86 #[.val (.int p)] [(.int (9 : Int32)), (.int p)]))
                    by_cases hc86_18 : p = (9 : Int32)
                    · refine own_go (fun _ k => XS.icmpNo X0.here hx rfl (hb hby own_d5_86) rfl (teq hc86_18).2 k) ?_
                      show own_Ends _ _ _ _ (s₁.setTop (mkF mM 89 #[.val (.int p)] []))
                      obtain ⟨T20, X20, e20, st20⟩ := getS2 X0 hx hZ hown (host := "") (Or.inl (hw _ (List.mem_of_getElem? (i := 67) rfl))) Via.refl e0 (S_GO.ext O0.2) (g := (mkF mM 89 #[.val (.int p)] [])) rfl (hb hby own_d5_89)
                      refine own_go st20 ?_
                      show own_Ends _ _ _ _ (T20.setTop (mkF mM 92 #[.val (.int p)] [(.ref a_GO)]))
                      exact own_retR X20 hx (BodyLoose.notSynchronized Bd) Bd.returns rfl rfl (hb hby own_d5_92) (by decide) (by decide) (by rw [e20]; exact ⟨by rw [hr, if_neg hc1_0, if_neg hc10_2, if_neg hc19_4, if_neg hc28_6, if_neg hc37_8, if_neg hc46_10, if_neg hc56_12, if_neg hc66_14, if_neg hc76_16, if_pos hc86_18], N0, rfl⟩)
                    · refine own_go (fun _ k => XS.icmpYes X0.here hx rfl (pc0 := 86) (pc' := 93) rfl (hb hby own_d5_86) rfl (feq hc86_18).2 (by decide) (by decide) k) ?_
                      show own_Ends _ _ _ _ (s₁.setTop (mkF mM 93 #[.val (.int p)] []))
                      refine own_go (fun _ k => XS.iloadN X0.here hx rfl (hb hby own_d5_93) rfl k) ?_
                      show own_Ends _ _ _ _ (s₁.setTop (mkF mM 94 #[.val (.int p)] [(.int p)]))
                      refine own_go (fun _ k => XS.bipush X0.here hx rfl (hb hby own_d5_94) k) ?_
                      show own_Ends _ _ _ _ (s₁.setTop (mkF mM 96 #[.val (.int p)] [(.int (10 : Int32)), (.int p)]))
                      by_cases hc96_20 : p = (10 : Int32)
                      · refine own_go (fun _ k => XS.icmpNo X0.here hx rfl (hb hby own_d5_96) rfl (teq hc96_20).2 k) ?_
                        show own_Ends _ _ _ _ (s₁.setTop (mkF mM 99 #[.val (.int p)] []))
                        obtain ⟨T22, X22, e22, st22⟩ := getS2 X0 hx hZ hown (host := "") (Or.inl (hw _ (List.mem_of_getElem? (i := 69) rfl))) Via.refl e0 (S_PHP.ext O0.2) (g := (mkF mM 99 #[.val (.int p)] [])) rfl (hb hby own_d5_99)
                        refine own_go st22 ?_
                        show own_Ends _ _ _ _ (T22.setTop (mkF mM 102 #[.val (.int p)] [(.ref a_PHP)]))
                        exact own_retR X22 hx (BodyLoose.notSynchronized Bd) Bd.returns rfl rfl (hb hby own_d5_102) (by decide) (by decide) (by rw [e22]; exact ⟨by rw [hr, if_neg hc1_0, if_neg hc10_2, if_neg hc19_4, if_neg hc28_6, if_neg hc37_8, if_neg hc46_10, if_neg hc56_12, if_neg hc66_14, if_neg hc76_16, if_neg hc86_18, if_pos hc96_20], N0, rfl⟩)
                      · refine own_go (fun _ k => XS.icmpYes X0.here hx rfl (pc0 := 96) (pc' := 103) rfl (hb hby own_d5_96) rfl (feq hc96_20).2 (by decide) (by decide) k) ?_
                        show own_Ends _ _ _ _ (s₁.setTop (mkF mM 103 #[.val (.int p)] []))
                        refine own_go (fun _ k => XS.iloadN X0.here hx rfl (hb hby own_d5_103) rfl k) ?_
                        show own_Ends _ _ _ _ (s₁.setTop (mkF mM 104 #[.val (.int p)] [(.int p)]))
                        refine own_go (fun _ k => XS.bipush X0.here hx rfl (hb hby own_d5_104) k) ?_
                        show own_Ends _ _ _ _ (s₁.setTop (mkF mM 106 #[.val (.int p)] [(.int (11 : Int32)), (.int p)]))
                        by_cases hc106_22 : p = (11 : Int32)
                        · refine own_go (fun _ k => XS.icmpNo X0.here hx rfl (hb hby own_d5_106) rfl (teq hc106_22).2 k) ?_
                          show own_Ends _ _ _ _ (s₁.setTop (mkF mM 109 #[.val (.int p)] []))
                          obtain ⟨T24, X24, e24, st24⟩ := getS2 X0 hx hZ hown (host := "") (Or.inl (hw _ (List.mem_of_getElem? (i := 71) rfl))) Via.refl e0 (S_OMS.ext O0.2) (g := (mkF mM 109 #[.val (.int p)] [])) rfl (hb hby own_d5_109)
                          refine own_go st24 ?_
                          show own_Ends _ _ _ _ (T24.setTop (mkF mM 112 #[.val (.int p)] [(.ref a_OMS)]))
                          exact own_retR X24 hx (BodyLoose.notSynchronized Bd) Bd.returns rfl rfl (hb hby own_d5_112) (by decide) (by decide) (by rw [e24]; exact ⟨by rw [hr, if_neg hc1_0, if_neg hc10_2, if_neg hc19_4, if_neg hc28_6, if_neg hc37_8, if_neg hc46_10, if_neg hc56_12, if_neg hc66_14, if_neg hc76_16, if_neg hc86_18, if_neg hc96_20, if_pos hc106_22], N0, rfl⟩)
                        · refine own_go (fun _ k => XS.icmpYes X0.here hx rfl (pc0 := 106) (pc' := 113) rfl (hb hby own_d5_106) rfl (feq hc106_22).2 (by decide) (by decide) k) ?_
                          show own_Ends _ _ _ _ (s₁.setTop (mkF mM 113 #[.val (.int p)] []))
                          refine own_go (fun _ k => XS.iloadN X0.here hx rfl (hb hby own_d5_113) rfl k) ?_
                          show own_Ends _ _ _ _ (s₁.setTop (mkF mM 114 #[.val (.int p)] [(.int p)]))
                          refine own_go (fun _ k => XS.bipush X0.here hx rfl (hb hby own_d5_114) k) ?_
                          show own_Ends _ _ _ _ (s₁.setTop (mkF mM 116 #[.val (.int p)] [(.int (12 : Int32)), (.int p)]))
                          by_cases hc116_24 : p = (12 : Int32)
                          · refine own_go (fun _ k => XS.icmpNo X0.here hx rfl (hb hby own_d5_116) rfl (teq hc116_24).2 k) ?_
                            show own_Ends _ _ _ _ (s₁.setTop (mkF mM 119 #[.val (.int p)] []))
                            obtain ⟨T26, X26, e26, st26⟩ := getS2 X0 hx hZ hown (host := "") (Or.inl (hw _ (List.mem_of_getElem? (i := 73) rfl))) Via.refl e0 (S_RUST.ext O0.2) (g := (mkF mM 119 #[.val (.int p)] [])) rfl (hb hby own_d5_119)
                            refine own_go st26 ?_
                            show own_Ends _ _ _ _ (T26.setTop (mkF mM 122 #[.val (.int p)] [(.ref a_RUST)]))
                            exact own_retR X26 hx (BodyLoose.notSynchronized Bd) Bd.returns rfl rfl (hb hby own_d5_122) (by decide) (by decide) (by rw [e26]; exact ⟨by rw [hr, if_neg hc1_0, if_neg hc10_2, if_neg hc19_4, if_neg hc28_6, if_neg hc37_8, if_neg hc46_10, if_neg hc56_12, if_neg hc66_14, if_neg hc76_16, if_neg hc86_18, if_neg hc96_20, if_neg hc106_22, if_pos hc116_24], N0, rfl⟩)
                          · refine own_go (fun _ k => XS.icmpYes X0.here hx rfl (pc0 := 116) (pc' := 123) rfl (hb hby own_d5_116) rfl (feq hc116_24).2 (by decide) (by decide) k) ?_
                            show own_Ends _ _ _ _ (s₁.setTop (mkF mM 123 #[.val (.int p)] []))
                            refine own_go (fun _ k => XS.iloadN X0.here hx rfl (hb hby own_d5_123) rfl k) ?_
                            show own_Ends _ _ _ _ (s₁.setTop (mkF mM 124 #[.val (.int p)] [(.int p)]))
                            refine own_go (fun _ k => XS.bipush X0.here hx rfl (hb hby own_d5_124) k) ?_
                            show own_Ends _ _ _ _ (s₁.setTop (mkF mM 126 #[.val (.int p)] [(.int (13 : Int32)), (.int p)]))
                            refine own_go (fun _ k => XS.icmpNo X0.here hx rfl (hb hby own_d5_126) rfl (teq (own_last p hp0 hp1 hc1_0 hc10_2 hc19_4 hc28_6 hc37_8 hc46_10 hc56_12 hc66_14 hc76_16 hc86_18 hc96_20 hc106_22 hc116_24)).2 k) ?_
                            show own_Ends _ _ _ _ (s₁.setTop (mkF mM 129 #[.val (.int p)] []))
                            obtain ⟨T27, X27, e27, st27⟩ := getS2 X0 hx hZ hown (host := "") (Or.inl (hw _ (List.mem_of_getElem? (i := 65) rfl))) Via.refl e0 (S_NODE_JS.ext O0.2) (g := (mkF mM 129 #[.val (.int p)] [])) rfl (hb hby own_d5_129)
                            refine own_go st27 ?_
                            show own_Ends _ _ _ _ (T27.setTop (mkF mM 132 #[.val (.int p)] [(.ref a_NODE_JS)]))
                            exact own_retR X27 hx (BodyLoose.notSynchronized Bd) Bd.returns rfl rfl (hb hby own_d5_132) (by decide) (by decide) (by rw [e27]; exact ⟨by rw [hr, if_neg hc1_0, if_neg hc10_2, if_neg hc19_4, if_neg hc28_6, if_neg hc37_8, if_neg hc46_10, if_neg hc56_12, if_neg hc66_14, if_neg hc76_16, if_neg hc86_18, if_neg hc96_20, if_neg hc106_22, if_neg hc116_24], N0, rfl⟩)
theorem own_d5_133 : decode method_3_code 133 = .ok (.aconst_null, 1) := by decide +kernel
theorem own_d5_134 : decode method_3_code 134 = .ok (.areturn, 1) := by decide +kernel
theorem own_ef_own_expOut (m : MethodId) (x0 : Int32) : entryFrame m #[(.int x0)] 1 = mkF m 0 #[.val (.int x0)] [] := by first | (simp [entryFrame, mkF, argsToLocals, Value.category]; done) | rfl
def Q_own_expOut (Z : State) (p : Int32) (h0 : Heap) (n0 : Nat) (v : Option Value) (h : Heap) (L : List Loc) : Prop := v = some .null ∧ Fr n0 L ∧ h = h0
set_option maxRecDepth 65536 in
set_option maxHeartbeats 40000000 in
theorem own_expOut (l : Launch) (Z : State) (a0 : Array Value) (hw : ∀ d ∈ tables_1, d.before a0 Z = true) (ws : List Jvm.Cond) (p : Int32) (h0 : Heap) (n0 : Nat) (O0 : Old Z n0 h0) (hout : p < (0 : Int32) ∨ ¬ p < (14 : Int32)) :
    MetFree l (⟨"com/example/letters_over_wire/lettersoverwire/LanguageCodeForCodePinLaw", "expected", "(I)Lcom/example/letters_over_wire/lettersoverwire/LanguageCode;"⟩ : MethodName) (head1 (Jvm.Cond.code (⟨"com/example/letters_over_wire/lettersoverwire/LanguageCodeForCodePinLaw", "expected", "(I)Lcom/example/letters_over_wire/lettersoverwire/LanguageCode;"⟩ : MethodName) method_3_code 1 (some (.object "com/example/letters_over_wire/lettersoverwire/LanguageCode")) :: ws) ({ frames := 0, cells := 0, slots := 0, locals := 0 } : Room)) (fun args_ U => args_ = #[(.int p)] ∧ Z.Warmed39 U.vm ∧ U.heap = h0) (fun _ _ _ _ _ => True) (fun _ U o U' => ∃ v L, o = .returned v ∧ Q_own_expOut Z p h0 n0 v U'.heap L ∧ FrameEnd U o U' L ({ frames := 0, cells := 0, slots := 0, locals := 0 } : Room).cells ({ frames := 0, cells := 0, slots := 0, locals := 0 } : Room).slots) := by
  refine MetFree.of_bodySF (plainFor_of_name own_pn_com_example_letters_over_wire_lettersoverwire_LanguageCodeForCodePinLaw) hisR ?_
  intro pP eE sS mM args below meth cC s₁ Bd hml0 hP hK
  obtain ⟨rfl, hZ, hh⟩ := hP
  have hx := Bd.exec
  have hby := Bd.bytes
  have hml : cC.maxLocals = 1 := hml0
  have hown : sS.vm.findClass "com/example/letters_over_wire/lettersoverwire/LanguageCodeForCodePinLaw" = some mM.cls := findClass_of_methodNamed Bd.named
  have hnm := (name_of_methodNamed Bd.named Bd.method).1
  have X0 : Stand pP l eE ({ frames := 0, cells := 0, slots := 0, locals := 0 } : Room) sS mM #[(.int p)] below meth cC s₁ [] 0 0 := Stand.of_body Bd
  have e0 : s₁.heap = h0 := by rw [← hh, Bd.state]; rfl
  have N0 := Fr.nil n0
  show own_Ends pP eE below (own_Got sS (Q_own_expOut Z p h0 n0) ({ frames := 0, cells := 0, slots := 0, locals := 0 } : Room).cells ({ frames := 0, cells := 0, slots := 0, locals := 0 } : Room).slots) (s₁.setTop (entryFrame mM #[(.int p)] 1))
  rw [own_ef_own_expOut mM p]
  refine own_go (fun _ k => XS.iloadN X0.here hx rfl (hb hby own_d5_0) rfl k) ?_
  show own_Ends _ _ _ _ (s₁.setTop (mkF mM 1 #[.val (.int p)] [(.int p)]))
  refine own_go (fun _ k => XS.ifYes X0.here hx rfl (pc0 := 1) (pc' := 8) rfl (hb hby own_d5_1) rfl ((if0 _ _).trans (feq (fun q => by rw [q] at hout; exact absurd hout (by decide))).2) (by decide) (by decide) k) ?_
  show own_Ends _ _ _ _ (s₁.setTop (mkF mM 8 #[.val (.int p)] []))
  refine own_go (fun _ k => XS.iloadN X0.here hx rfl (hb hby own_d5_8) rfl k) ?_
  show own_Ends _ _ _ _ (s₁.setTop (mkF mM 9 #[.val (.int p)] [(.int p)]))
  refine own_go (fun _ k => XS.iconst X0.here hx rfl (hb hby own_d5_9) k) ?_
  show own_Ends _ _ _ _ (s₁.setTop (mkF mM 10 #[.val (.int p)] [(.int (1 : Int32)), (.int p)]))
  refine own_go (fun _ k => XS.icmpYes X0.here hx rfl (pc0 := 10) (pc' := 17) rfl (hb hby own_d5_10) rfl (feq (fun q => by rw [q] at hout; exact absurd hout (by decide))).2 (by decide) (by decide) k) ?_
  show own_Ends _ _ _ _ (s₁.setTop (mkF mM 17 #[.val (.int p)] []))
  refine own_go (fun _ k => XS.iloadN X0.here hx rfl (hb hby own_d5_17) rfl k) ?_
  show own_Ends _ _ _ _ (s₁.setTop (mkF mM 18 #[.val (.int p)] [(.int p)]))
  refine own_go (fun _ k => XS.iconst X0.here hx rfl (hb hby own_d5_18) k) ?_
  show own_Ends _ _ _ _ (s₁.setTop (mkF mM 19 #[.val (.int p)] [(.int (2 : Int32)), (.int p)]))
  refine own_go (fun _ k => XS.icmpYes X0.here hx rfl (pc0 := 19) (pc' := 26) rfl (hb hby own_d5_19) rfl (feq (fun q => by rw [q] at hout; exact absurd hout (by decide))).2 (by decide) (by decide) k) ?_
  show own_Ends _ _ _ _ (s₁.setTop (mkF mM 26 #[.val (.int p)] []))
  refine own_go (fun _ k => XS.iloadN X0.here hx rfl (hb hby own_d5_26) rfl k) ?_
  show own_Ends _ _ _ _ (s₁.setTop (mkF mM 27 #[.val (.int p)] [(.int p)]))
  refine own_go (fun _ k => XS.iconst X0.here hx rfl (hb hby own_d5_27) k) ?_
  show own_Ends _ _ _ _ (s₁.setTop (mkF mM 28 #[.val (.int p)] [(.int (3 : Int32)), (.int p)]))
  refine own_go (fun _ k => XS.icmpYes X0.here hx rfl (pc0 := 28) (pc' := 35) rfl (hb hby own_d5_28) rfl (feq (fun q => by rw [q] at hout; exact absurd hout (by decide))).2 (by decide) (by decide) k) ?_
  show own_Ends _ _ _ _ (s₁.setTop (mkF mM 35 #[.val (.int p)] []))
  refine own_go (fun _ k => XS.iloadN X0.here hx rfl (hb hby own_d5_35) rfl k) ?_
  show own_Ends _ _ _ _ (s₁.setTop (mkF mM 36 #[.val (.int p)] [(.int p)]))
  refine own_go (fun _ k => XS.iconst X0.here hx rfl (hb hby own_d5_36) k) ?_
  show own_Ends _ _ _ _ (s₁.setTop (mkF mM 37 #[.val (.int p)] [(.int (4 : Int32)), (.int p)]))
  refine own_go (fun _ k => XS.icmpYes X0.here hx rfl (pc0 := 37) (pc' := 44) rfl (hb hby own_d5_37) rfl (feq (fun q => by rw [q] at hout; exact absurd hout (by decide))).2 (by decide) (by decide) k) ?_
  show own_Ends _ _ _ _ (s₁.setTop (mkF mM 44 #[.val (.int p)] []))
  refine own_go (fun _ k => XS.iloadN X0.here hx rfl (hb hby own_d5_44) rfl k) ?_
  show own_Ends _ _ _ _ (s₁.setTop (mkF mM 45 #[.val (.int p)] [(.int p)]))
  refine own_go (fun _ k => XS.iconst X0.here hx rfl (hb hby own_d5_45) k) ?_
  show own_Ends _ _ _ _ (s₁.setTop (mkF mM 46 #[.val (.int p)] [(.int (5 : Int32)), (.int p)]))
  refine own_go (fun _ k => XS.icmpYes X0.here hx rfl (pc0 := 46) (pc' := 53) rfl (hb hby own_d5_46) rfl (feq (fun q => by rw [q] at hout; exact absurd hout (by decide))).2 (by decide) (by decide) k) ?_
  show own_Ends _ _ _ _ (s₁.setTop (mkF mM 53 #[.val (.int p)] []))
  refine own_go (fun _ k => XS.iloadN X0.here hx rfl (hb hby own_d5_53) rfl k) ?_
  show own_Ends _ _ _ _ (s₁.setTop (mkF mM 54 #[.val (.int p)] [(.int p)]))
  refine own_go (fun _ k => XS.bipush X0.here hx rfl (hb hby own_d5_54) k) ?_
  show own_Ends _ _ _ _ (s₁.setTop (mkF mM 56 #[.val (.int p)] [(.int (6 : Int32)), (.int p)]))
  refine own_go (fun _ k => XS.icmpYes X0.here hx rfl (pc0 := 56) (pc' := 63) rfl (hb hby own_d5_56) rfl (feq (fun q => by rw [q] at hout; exact absurd hout (by decide))).2 (by decide) (by decide) k) ?_
  show own_Ends _ _ _ _ (s₁.setTop (mkF mM 63 #[.val (.int p)] []))
  refine own_go (fun _ k => XS.iloadN X0.here hx rfl (hb hby own_d5_63) rfl k) ?_
  show own_Ends _ _ _ _ (s₁.setTop (mkF mM 64 #[.val (.int p)] [(.int p)]))
  refine own_go (fun _ k => XS.bipush X0.here hx rfl (hb hby own_d5_64) k) ?_
  show own_Ends _ _ _ _ (s₁.setTop (mkF mM 66 #[.val (.int p)] [(.int (7 : Int32)), (.int p)]))
  refine own_go (fun _ k => XS.icmpYes X0.here hx rfl (pc0 := 66) (pc' := 73) rfl (hb hby own_d5_66) rfl (feq (fun q => by rw [q] at hout; exact absurd hout (by decide))).2 (by decide) (by decide) k) ?_
  show own_Ends _ _ _ _ (s₁.setTop (mkF mM 73 #[.val (.int p)] []))
  refine own_go (fun _ k => XS.iloadN X0.here hx rfl (hb hby own_d5_73) rfl k) ?_
  show own_Ends _ _ _ _ (s₁.setTop (mkF mM 74 #[.val (.int p)] [(.int p)]))
  refine own_go (fun _ k => XS.bipush X0.here hx rfl (hb hby own_d5_74) k) ?_
  show own_Ends _ _ _ _ (s₁.setTop (mkF mM 76 #[.val (.int p)] [(.int (8 : Int32)), (.int p)]))
  refine own_go (fun _ k => XS.icmpYes X0.here hx rfl (pc0 := 76) (pc' := 83) rfl (hb hby own_d5_76) rfl (feq (fun q => by rw [q] at hout; exact absurd hout (by decide))).2 (by decide) (by decide) k) ?_
  show own_Ends _ _ _ _ (s₁.setTop (mkF mM 83 #[.val (.int p)] []))
  refine own_go (fun _ k => XS.iloadN X0.here hx rfl (hb hby own_d5_83) rfl k) ?_
  show own_Ends _ _ _ _ (s₁.setTop (mkF mM 84 #[.val (.int p)] [(.int p)]))
  refine own_go (fun _ k => XS.bipush X0.here hx rfl (hb hby own_d5_84) k) ?_
  show own_Ends _ _ _ _ (s₁.setTop (mkF mM 86 #[.val (.int p)] [(.int (9 : Int32)), (.int p)]))
  refine own_go (fun _ k => XS.icmpYes X0.here hx rfl (pc0 := 86) (pc' := 93) rfl (hb hby own_d5_86) rfl (feq (fun q => by rw [q] at hout; exact absurd hout (by decide))).2 (by decide) (by decide) k) ?_
  show own_Ends _ _ _ _ (s₁.setTop (mkF mM 93 #[.val (.int p)] []))
  refine own_go (fun _ k => XS.iloadN X0.here hx rfl (hb hby own_d5_93) rfl k) ?_
  show own_Ends _ _ _ _ (s₁.setTop (mkF mM 94 #[.val (.int p)] [(.int p)]))
  refine own_go (fun _ k => XS.bipush X0.here hx rfl (hb hby own_d5_94) k) ?_
  show own_Ends _ _ _ _ (s₁.setTop (mkF mM 96 #[.val (.int p)] [(.int (10 : Int32)), (.int p)]))
  refine own_go (fun _ k => XS.icmpYes X0.here hx rfl (pc0 := 96) (pc' := 103) rfl (hb hby own_d5_96) rfl (feq (fun q => by rw [q] at hout; exact absurd hout (by decide))).2 (by decide) (by decide) k) ?_
  show own_Ends _ _ _ _ (s₁.setTop (mkF mM 103 #[.val (.int p)] []))
  refine own_go (fun _ k => XS.iloadN X0.here hx rfl (hb hby own_d5_103) rfl k) ?_
  show own_Ends _ _ _ _ (s₁.setTop (mkF mM 104 #[.val (.int p)] [(.int p)]))
  refine own_go (fun _ k => XS.bipush X0.here hx rfl (hb hby own_d5_104) k) ?_
  show own_Ends _ _ _ _ (s₁.setTop (mkF mM 106 #[.val (.int p)] [(.int (11 : Int32)), (.int p)]))
  refine own_go (fun _ k => XS.icmpYes X0.here hx rfl (pc0 := 106) (pc' := 113) rfl (hb hby own_d5_106) rfl (feq (fun q => by rw [q] at hout; exact absurd hout (by decide))).2 (by decide) (by decide) k) ?_
  show own_Ends _ _ _ _ (s₁.setTop (mkF mM 113 #[.val (.int p)] []))
  refine own_go (fun _ k => XS.iloadN X0.here hx rfl (hb hby own_d5_113) rfl k) ?_
  show own_Ends _ _ _ _ (s₁.setTop (mkF mM 114 #[.val (.int p)] [(.int p)]))
  refine own_go (fun _ k => XS.bipush X0.here hx rfl (hb hby own_d5_114) k) ?_
  show own_Ends _ _ _ _ (s₁.setTop (mkF mM 116 #[.val (.int p)] [(.int (12 : Int32)), (.int p)]))
  refine own_go (fun _ k => XS.icmpYes X0.here hx rfl (pc0 := 116) (pc' := 123) rfl (hb hby own_d5_116) rfl (feq (fun q => by rw [q] at hout; exact absurd hout (by decide))).2 (by decide) (by decide) k) ?_
  show own_Ends _ _ _ _ (s₁.setTop (mkF mM 123 #[.val (.int p)] []))
  refine own_go (fun _ k => XS.iloadN X0.here hx rfl (hb hby own_d5_123) rfl k) ?_
  show own_Ends _ _ _ _ (s₁.setTop (mkF mM 124 #[.val (.int p)] [(.int p)]))
  refine own_go (fun _ k => XS.bipush X0.here hx rfl (hb hby own_d5_124) k) ?_
  show own_Ends _ _ _ _ (s₁.setTop (mkF mM 126 #[.val (.int p)] [(.int (13 : Int32)), (.int p)]))
  refine own_go (fun _ k => XS.icmpYes X0.here hx rfl (pc0 := 126) (pc' := 133) rfl (hb hby own_d5_126) rfl (feq (fun q => by rw [q] at hout; exact absurd hout (by decide))).2 (by decide) (by decide) k) ?_
  show own_Ends _ _ _ _ (s₁.setTop (mkF mM 133 #[.val (.int p)] []))
  refine own_go (fun _ k => XS.aconstNull X0.here hx rfl (hb hby own_d5_133) k) ?_
  show own_Ends _ _ _ _ (s₁.setTop (mkF mM 134 #[.val (.int p)] [.null]))
  exact own_retR X0 hx (BodyLoose.notSynchronized Bd) Bd.returns rfl rfl (hb hby own_d5_134) (by decide) (by decide) (by rw [e0]; exact ⟨rfl, N0, rfl⟩)
theorem own_d8_0 : decode prog_12_method_4_code 0 = .ok (.aload_n 0, 1) := by decide +kernel
theorem own_d8_1 : decode prog_12_method_4_code 1 = .ok (.getfield 65, 3) := by decide +kernel
theorem own_d8_4 : decode prog_12_method_4_code 4 = .ok (.ireturn, 1) := by decide +kernel
theorem own_ef_own_code (m : MethodId) (x0 : Addr) : entryFrame m #[(.ref x0)] 1 = mkF m 0 #[.val (.ref x0)] [] := by first | (simp [entryFrame, mkF, argsToLocals, Value.category]; done) | rfl
def Q_own_code (Z : State) (a : Addr) (k0 : Int32) (h0 : Heap) (n0 : Nat) (v : Option Value) (h : Heap) (L : List Loc) : Prop := v = some (.int k0) ∧ Fr n0 L ∧ h = h0
set_option maxRecDepth 65536 in
set_option maxHeartbeats 40000000 in
theorem own_code (l : Launch) (Z : State) (a0 : Array Value) (hw : ∀ d ∈ tables_1, d.before a0 Z = true) (ws : List Jvm.Cond) (a : Addr) (k0 : Int32) (h0 : Heap) (n0 : Nat) (O0 : Old Z n0 h0) (F : Fld Z Z.heap a "com/example/letters_over_wire/lettersoverwire/LanguageCode" "code" "I" (.int k0)) :
    MetFree l (⟨"com/example/letters_over_wire/lettersoverwire/LanguageCode", "code", "()I"⟩ : MethodName) (head1 (Jvm.Cond.code (⟨"com/example/letters_over_wire/lettersoverwire/LanguageCode", "code", "()I"⟩ : MethodName) prog_12_method_4_code 1 (some .int) :: ws) ({ frames := 0, cells := 0, slots := 0, locals := 0 } : Room)) (fun args_ U => args_ = #[(.ref a)] ∧ Z.Warmed39 U.vm ∧ U.heap = h0) (fun _ _ _ _ _ => True) (fun _ U o U' => ∃ v L, o = .returned v ∧ Q_own_code Z a k0 h0 n0 v U'.heap L ∧ FrameEnd U o U' L ({ frames := 0, cells := 0, slots := 0, locals := 0 } : Room).cells ({ frames := 0, cells := 0, slots := 0, locals := 0 } : Room).slots) := by
  refine MetFree.of_bodySF (plainFor_of_name own_pn_com_example_letters_over_wire_lettersoverwire_LanguageCode) hisR ?_
  intro pP eE sS mM args below meth cC s₁ Bd hml0 hP hK
  obtain ⟨rfl, hZ, hh⟩ := hP
  have hx := Bd.exec
  have hby := Bd.bytes
  have hml : cC.maxLocals = 1 := hml0
  have hown : sS.vm.findClass "com/example/letters_over_wire/lettersoverwire/LanguageCode" = some mM.cls := findClass_of_methodNamed Bd.named
  have hnm := (name_of_methodNamed Bd.named Bd.method).1
  have X0 : Stand pP l eE ({ frames := 0, cells := 0, slots := 0, locals := 0 } : Room) sS mM #[(.ref a)] below meth cC s₁ [] 0 0 := Stand.of_body Bd
  have e0 : s₁.heap = h0 := by rw [← hh, Bd.state]; rfl
  have N0 := Fr.nil n0
  show own_Ends pP eE below (own_Got sS (Q_own_code Z a k0 h0 n0) ({ frames := 0, cells := 0, slots := 0, locals := 0 } : Room).cells ({ frames := 0, cells := 0, slots := 0, locals := 0 } : Room).slots) (s₁.setTop (entryFrame mM #[(.ref a)] 1))
  rw [own_ef_own_code mM a]
  refine own_go (fun _ k => XS.aloadN X0.here hx rfl (hb hby own_d8_0) rfl rfl k) ?_
  show own_Ends _ _ _ _ (s₁.setTop (mkF mM 1 #[.val (.ref a)] [(.ref a)]))
  obtain ⟨T1, X1, e1, st1⟩ := getF X0 hx hZ hown (host := "") (Or.inl (hw _ (List.mem_of_getElem? (i := 42) rfl))) Via.refl e0 (F.ext O0.2) (g := (mkF mM 1 #[.val (.ref a)] [(.ref a)])) rfl rfl (hb hby own_d8_1)
  refine own_go st1 ?_
  show own_Ends _ _ _ _ (T1.setTop (mkF mM 4 #[.val (.ref a)] [(.int k0)]))
  exact own_retI X1 hx (BodyLoose.notSynchronized Bd) Bd.returns (hb hby own_d8_4) (by decide) (by decide) (by rw [e1]; exact ⟨rfl, N0, rfl⟩)
theorem own_pd3 : parseMethodDescriptor "(I)Ljava/util/Optional;" = some ⟨[.int], some (.object "java/util/Optional")⟩ := by decide +kernel
theorem own_pd4 : parseMethodDescriptor "(I)Lcom/example/letters_over_wire/lettersoverwire/LanguageCode;" = some ⟨[.int], some (.object "com/example/letters_over_wire/lettersoverwire/LanguageCode")⟩ := by decide +kernel
theorem own_pd5 : parseMethodDescriptor "()Z" = some ⟨[], some .boolean⟩ := by decide +kernel
theorem own_pd6 : parseMethodDescriptor "()Ljava/lang/Object;" = some ⟨[], some (.object "java/lang/Object")⟩ := by decide +kernel
theorem own_pd7 : parseMethodDescriptor "()I" = some ⟨[], some .int⟩ := by decide +kernel
theorem own_ef_own_law (m : MethodId) (x0 : Int32) (x1 : Int32) (x2 : Int32) : entryFrame m #[(.int x0), (.int x1), (.int x2)] maxLocals = mkF m 0 #[.val (.int x0), .val (.int x1), .val (.int x2), .unset, .unset, .unset] [] := by first | (simp [entryFrame, mkF, argsToLocals, Value.category, maxLocals]; done) | rfl
def Q_own_law (Z : State) (p0 : Int32) (p1 : Int32) (p2 : Int32) (a_EMPTY : Addr) (arr : Addr) (kk : ClassId) (a_JAVA : Addr) (a_CPP : Addr) (a_DOTNET : Addr) (a_PYTHON : Addr) (a_DELPHI : Addr) (a_ERLANG : Addr) (a_RUBY : Addr) (a_OTHER : Addr) (a_HTTP : Addr) (a_GO : Addr) (a_PHP : Addr) (a_OMS : Addr) (a_RUST : Addr) (a_NODE_JS : Addr) (h0 : Heap) (n0 : Nat) (v : Option Value) (h : Heap) (L : List Loc) : Prop := v = some (.int 1) ∧ Fr n0 L
set_option maxRecDepth 65536 in
set_option maxHeartbeats 40000000 in
theorem own_law (l : Launch) (Z : State) (a0 : Array Value) (hw : ∀ d ∈ tables_1, d.before a0 Z = true) (ws : List Jvm.Cond) (p0 : Int32) (p1 : Int32) (p2 : Int32) (a_EMPTY : Addr) (arr : Addr) (kk : ClassId) (a_JAVA : Addr) (a_CPP : Addr) (a_DOTNET : Addr) (a_PYTHON : Addr) (a_DELPHI : Addr) (a_ERLANG : Addr) (a_RUBY : Addr) (a_OTHER : Addr) (a_HTTP : Addr) (a_GO : Addr) (a_PHP : Addr) (a_OMS : Addr) (a_RUST : Addr) (a_NODE_JS : Addr) (h0 : Heap) (n0 : Nat) (O0 : Old Z n0 h0) (S_JAVA : Sta Z Z.heap "com/example/letters_over_wire/lettersoverwire/LanguageCode" "JAVA" "Lcom/example/letters_over_wire/lettersoverwire/LanguageCode;" (.ref a_JAVA)) (E_JAVA : Exa Z Z.heap a_JAVA "com/example/letters_over_wire/lettersoverwire/LanguageCode") (F_JAVA_code : Fld Z Z.heap a_JAVA "com/example/letters_over_wire/lettersoverwire/LanguageCode" "code" "I" (.int (0 : Int32))) (S_CPP : Sta Z Z.heap "com/example/letters_over_wire/lettersoverwire/LanguageCode" "CPP" "Lcom/example/letters_over_wire/lettersoverwire/LanguageCode;" (.ref a_CPP)) (E_CPP : Exa Z Z.heap a_CPP "com/example/letters_over_wire/lettersoverwire/LanguageCode") (F_CPP_code : Fld Z Z.heap a_CPP "com/example/letters_over_wire/lettersoverwire/LanguageCode" "code" "I" (.int (1 : Int32))) (S_DOTNET : Sta Z Z.heap "com/example/letters_over_wire/lettersoverwire/LanguageCode" "DOTNET" "Lcom/example/letters_over_wire/lettersoverwire/LanguageCode;" (.ref a_DOTNET)) (E_DOTNET : Exa Z Z.heap a_DOTNET "com/example/letters_over_wire/lettersoverwire/LanguageCode") (F_DOTNET_code : Fld Z Z.heap a_DOTNET "com/example/letters_over_wire/lettersoverwire/LanguageCode" "code" "I" (.int (2 : Int32))) (S_PYTHON : Sta Z Z.heap "com/example/letters_over_wire/lettersoverwire/LanguageCode" "PYTHON" "Lcom/example/letters_over_wire/lettersoverwire/LanguageCode;" (.ref a_PYTHON)) (E_PYTHON : Exa Z Z.heap a_PYTHON "com/example/letters_over_wire/lettersoverwire/LanguageCode") (F_PYTHON_code : Fld Z Z.heap a_PYTHON "com/example/letters_over_wire/lettersoverwire/LanguageCode" "code" "I" (.int (3 : Int32))) (S_DELPHI : Sta Z Z.heap "com/example/letters_over_wire/lettersoverwire/LanguageCode" "DELPHI" "Lcom/example/letters_over_wire/lettersoverwire/LanguageCode;" (.ref a_DELPHI)) (E_DELPHI : Exa Z Z.heap a_DELPHI "com/example/letters_over_wire/lettersoverwire/LanguageCode") (F_DELPHI_code : Fld Z Z.heap a_DELPHI "com/example/letters_over_wire/lettersoverwire/LanguageCode" "code" "I" (.int (4 : Int32))) (S_ERLANG : Sta Z Z.heap "com/example/letters_over_wire/lettersoverwire/LanguageCode" "ERLANG" "Lcom/example/letters_over_wire/lettersoverwire/LanguageCode;" (.ref a_ERLANG)) (E_ERLANG : Exa Z Z.heap a_ERLANG "com/example/letters_over_wire/lettersoverwire/LanguageCode") (F_ERLANG_code : Fld Z Z.heap a_ERLANG "com/example/letters_over_wire/lettersoverwire/LanguageCode" "code" "I" (.int (5 : Int32))) (S_RUBY : Sta Z Z.heap "com/example/letters_over_wire/lettersoverwire/LanguageCode" "RUBY" "Lcom/example/letters_over_wire/lettersoverwire/LanguageCode;" (.ref a_RUBY)) (E_RUBY : Exa Z Z.heap a_RUBY "com/example/letters_over_wire/lettersoverwire/LanguageCode") (F_RUBY_code : Fld Z Z.heap a_RUBY "com/example/letters_over_wire/lettersoverwire/LanguageCode" "code" "I" (.int (6 : Int32))) (S_OTHER : Sta Z Z.heap "com/example/letters_over_wire/lettersoverwire/LanguageCode" "OTHER" "Lcom/example/letters_over_wire/lettersoverwire/LanguageCode;" (.ref a_OTHER)) (E_OTHER : Exa Z Z.heap a_OTHER "com/example/letters_over_wire/lettersoverwire/LanguageCode") (F_OTHER_code : Fld Z Z.heap a_OTHER "com/example/letters_over_wire/lettersoverwire/LanguageCode" "code" "I" (.int (7 : Int32))) (S_HTTP : Sta Z Z.heap "com/example/letters_over_wire/lettersoverwire/LanguageCode" "HTTP" "Lcom/example/letters_over_wire/lettersoverwire/LanguageCode;" (.ref a_HTTP)) (E_HTTP : Exa Z Z.heap a_HTTP "com/example/letters_over_wire/lettersoverwire/LanguageCode") (F_HTTP_code : Fld Z Z.heap a_HTTP "com/example/letters_over_wire/lettersoverwire/LanguageCode" "code" "I" (.int (8 : Int32))) (S_GO : Sta Z Z.heap "com/example/letters_over_wire/lettersoverwire/LanguageCode" "GO" "Lcom/example/letters_over_wire/lettersoverwire/LanguageCode;" (.ref a_GO)) (E_GO : Exa Z Z.heap a_GO "com/example/letters_over_wire/lettersoverwire/LanguageCode") (F_GO_code : Fld Z Z.heap a_GO "com/example/letters_over_wire/lettersoverwire/LanguageCode" "code" "I" (.int (9 : Int32))) (S_PHP : Sta Z Z.heap "com/example/letters_over_wire/lettersoverwire/LanguageCode" "PHP" "Lcom/example/letters_over_wire/lettersoverwire/LanguageCode;" (.ref a_PHP)) (E_PHP : Exa Z Z.heap a_PHP "com/example/letters_over_wire/lettersoverwire/LanguageCode") (F_PHP_code : Fld Z Z.heap a_PHP "com/example/letters_over_wire/lettersoverwire/LanguageCode" "code" "I" (.int (10 : Int32))) (S_OMS : Sta Z Z.heap "com/example/letters_over_wire/lettersoverwire/LanguageCode" "OMS" "Lcom/example/letters_over_wire/lettersoverwire/LanguageCode;" (.ref a_OMS)) (E_OMS : Exa Z Z.heap a_OMS "com/example/letters_over_wire/lettersoverwire/LanguageCode") (F_OMS_code : Fld Z Z.heap a_OMS "com/example/letters_over_wire/lettersoverwire/LanguageCode" "code" "I" (.int (11 : Int32))) (S_RUST : Sta Z Z.heap "com/example/letters_over_wire/lettersoverwire/LanguageCode" "RUST" "Lcom/example/letters_over_wire/lettersoverwire/LanguageCode;" (.ref a_RUST)) (E_RUST : Exa Z Z.heap a_RUST "com/example/letters_over_wire/lettersoverwire/LanguageCode") (F_RUST_code : Fld Z Z.heap a_RUST "com/example/letters_over_wire/lettersoverwire/LanguageCode" "code" "I" (.int (12 : Int32))) (S_NODE_JS : Sta Z Z.heap "com/example/letters_over_wire/lettersoverwire/LanguageCode" "NODE_JS" "Lcom/example/letters_over_wire/lettersoverwire/LanguageCode;" (.ref a_NODE_JS)) (E_NODE_JS : Exa Z Z.heap a_NODE_JS "com/example/letters_over_wire/lettersoverwire/LanguageCode") (F_NODE_JS_code : Fld Z Z.heap a_NODE_JS "com/example/letters_over_wire/lettersoverwire/LanguageCode" "code" "I" (.int (13 : Int32))) (S_BY_CODE : Sta Z Z.heap "com/example/letters_over_wire/lettersoverwire/LanguageCode" "BY_CODE" "[Lcom/example/letters_over_wire/lettersoverwire/LanguageCode;" (.ref arr)) (V_arr : Arv Z Z.heap arr kk (.object "com/example/letters_over_wire/lettersoverwire/LanguageCode") (14 : Int32) [(.ref a_JAVA), (.ref a_CPP), (.ref a_DOTNET), (.ref a_PYTHON), (.ref a_DELPHI), (.ref a_ERLANG), (.ref a_RUBY), (.ref a_OTHER), (.ref a_HTTP), (.ref a_GO), (.ref a_PHP), (.ref a_OMS), (.ref a_RUST), (.ref a_NODE_JS)] .null) (S_EMPTY : Sta Z Z.heap "java/util/Optional" "EMPTY" "Ljava/util/Optional;" (.ref a_EMPTY)) (E_EMPTY : Exa Z Z.heap a_EMPTY "java/util/Optional") (F_EMPTY_value : Fld Z Z.heap a_EMPTY "java/util/Optional" "value" "Ljava/lang/Object;" .null) :
    MetFree l x (head1 (Jvm.Cond.code x code maxLocals ret :: ws) room_1) (fun args_ U => args_ = #[(.int p0), (.int p1), (.int p2)] ∧ Z.Warmed39 U.vm ∧ U.heap = h0) (fun _ _ _ _ _ => True) (fun _ U o U' => ∃ v L, o = .returned v ∧ Q_own_law Z p0 p1 p2 a_EMPTY arr kk a_JAVA a_CPP a_DOTNET a_PYTHON a_DELPHI a_ERLANG a_RUBY a_OTHER a_HTTP a_GO a_PHP a_OMS a_RUST a_NODE_JS h0 n0 v U'.heap L ∧ FrameEnd U o U' L 16 128) := by
  refine MetFree.of_bodySF (plainFor_of_name own_pn_com_example_letters_over_wire_lettersoverwire_LanguageCodeForCodePinLaw) hisR ?_
  intro pP eE sS mM args below meth cC s₁ Bd hml0 hP hK
  obtain ⟨rfl, hZ, hh⟩ := hP
  have hx := Bd.exec
  have hby := Bd.bytes
  have hml : cC.maxLocals = 6 := hml0
  have hown : sS.vm.findClass "com/example/letters_over_wire/lettersoverwire/LanguageCodeForCodePinLaw" = some mM.cls := findClass_of_methodNamed Bd.named
  have hnm := (name_of_methodNamed Bd.named Bd.method).1
  have X0 : Stand pP l eE room_1 sS mM #[(.int p0), (.int p1), (.int p2)] below meth cC s₁ [] 0 0 := Stand.of_body Bd
  have e0 : s₁.heap = h0 := by rw [← hh, Bd.state]; rfl
  have N0 := Fr.nil n0
  show own_Ends pP eE below (own_Got sS (Q_own_law Z p0 p1 p2 a_EMPTY arr kk a_JAVA a_CPP a_DOTNET a_PYTHON a_DELPHI a_ERLANG a_RUBY a_OTHER a_HTTP a_GO a_PHP a_OMS a_RUST a_NODE_JS h0 n0) 16 128) (s₁.setTop (entryFrame mM #[(.int p0), (.int p1), (.int p2)] maxLocals))
  rw [own_ef_own_law mM p0 p1 p2]
  have cut : ∀ (c0 : Int32), own_Ends pP eE below (own_Got sS (Q_own_law Z p0 p1 p2 a_EMPTY arr kk a_JAVA a_CPP a_DOTNET a_PYTHON a_DELPHI a_ERLANG a_RUBY a_OTHER a_HTTP a_GO a_PHP a_OMS a_RUST a_NODE_JS h0 n0) 16 128) (s₁.setTop (mkF mM 17 #[.val (.int p0), .val (.int p1), .val (.int p2), .val (.int c0), .unset, .unset] [])) := by
    intro c0
    show own_Ends _ _ _ _ (s₁.setTop (mkF mM 17 #[.val (.int p0), .val (.int p1), .val (.int p2), .val (.int c0), .unset, .unset] []))
    refine own_go (fun _ k => XS.iloadN X0.here hx rfl (hb hby at_17) rfl k) ?_
    show own_Ends _ _ _ _ (s₁.setTop (mkF mM 18 #[.val (.int p0), .val (.int p1), .val (.int p2), .val (.int c0), .unset, .unset] [(.int c0)]))
    by_cases hq0 : c0 < (0 : Int32)
    · obtain ⟨_, _, ⟨T1, Lz1, kz1, nz1⟩, -, X1, ⟨Lc1, hQ1, l1, y1, z1⟩, st1⟩ := Jvm.LawKit.callS X0 hx (y := (⟨"com/example/letters_over_wire/lettersoverwire/LanguageCode", "forCode", "(I)Ljava/util/Optional;"⟩ : MethodName)) hown (mvT hZ (hw _ (List.mem_of_getElem? (i := 0) rfl))) (mvT hZ (hw _ (List.mem_of_getElem? (i := 1) rfl))) (mvT hZ (hw _ (List.mem_of_getElem? (i := 2) rfl))) (mvT hZ (hw _ (List.mem_of_getElem? (i := 3) rfl))) (by decide) (backOf (W := 0) (own_forOut l Z a0 hw [] c0 a_EMPTY arr kk a_JAVA a_CPP a_DOTNET a_PYTHON a_DELPHI a_ERLANG a_RUBY a_OTHER a_HTTP a_GO a_PHP a_OMS a_RUST a_NODE_JS h0 n0 O0 S_BY_CODE V_arr S_EMPTY (Or.inl hq0)) hZ (hw _ (List.mem_of_getElem? (i := 3) rfl)) (hw _ (List.mem_of_getElem? (i := 2) rfl)) (by decide) (by decide)) (g := (mkF mM 18 #[.val (.int p0), .val (.int p1), .val (.int p2), .val (.int c0), .unset, .unset] [(.int c0)])) rfl (by rw [hml]; rfl) (argsL := [(.int c0)]) (rest := []) (lenOf own_pd3 rfl) rfl (by show 2 * 0 + _ ≤ _; exact Nat.le_of_eq rfl) (hb hby at_18) (fun _ _ => ⟨rfl, e0, (by decide : 0 + 0 ≤ _), (by decide : 0 + 0 ≤ _)⟩)
      dsimp only [Pt.U, Pt.locs, Pt.cells, Pt.slots] at X1 l1 y1 z1 st1 hQ1
      subst l1 y1 z1
      obtain ⟨rfl, Nq1, e1⟩ := hQ1
      have N1 := Fr.app N0 Nq1
      refine own_go st1 ?_
      show own_Ends _ _ _ _ (T1.setTop (mkF mM 21 #[.val (.int p0), .val (.int p1), .val (.int p2), .val (.int c0), .unset, .unset] [(.ref a_EMPTY)]))
      refine own_go (fun _ k => XS.astore X1.here hx rfl (hb hby at_21) rfl rfl (l' := #[.val (.int p0), .val (.int p1), .val (.int p2), .val (.int c0), .val (.ref a_EMPTY), .unset]) rfl k) ?_
      show own_Ends _ _ _ _ (T1.setTop (mkF mM 23 #[.val (.int p0), .val (.int p1), .val (.int p2), .val (.int c0), .val (.ref a_EMPTY), .unset] []))
      refine own_go (fun _ k => XS.iloadN X1.here hx rfl (hb hby at_23) rfl k) ?_
      show own_Ends _ _ _ _ (T1.setTop (mkF mM 24 #[.val (.int p0), .val (.int p1), .val (.int p2), .val (.int c0), .val (.ref a_EMPTY), .unset] [(.int c0)]))
      obtain ⟨_, _, ⟨T2, Lz2, kz2, nz2⟩, -, X2, ⟨Lc2, hQ2, l2, y2, z2⟩, st2⟩ := Jvm.LawKit.callS X1 hx (y := (⟨"com/example/letters_over_wire/lettersoverwire/LanguageCodeForCodePinLaw", "expected", "(I)Lcom/example/letters_over_wire/lettersoverwire/LanguageCode;"⟩ : MethodName)) hown (mvT hZ (hw _ (List.mem_of_getElem? (i := 22) rfl))) (mvT hZ (hw _ (List.mem_of_getElem? (i := 23) rfl))) (mvT hZ (hw _ (List.mem_of_getElem? (i := 24) rfl))) (mvT hZ (hw _ (List.mem_of_getElem? (i := 25) rfl))) (by decide) (backOf (W := 0) (own_expOut l Z a0 hw [] c0 h0 n0 O0 (Or.inl hq0)) hZ (hw _ (List.mem_of_getElem? (i := 25) rfl)) (hw _ (List.mem_of_getElem? (i := 24) rfl)) (by decide) (by decide)) (g := (mkF mM 24 #[.val (.int p0), .val (.int p1), .val (.int p2), .val (.int c0), .val (.ref a_EMPTY), .unset] [(.int c0)])) rfl (by rw [hml]; rfl) (argsL := [(.int c0)]) (rest := []) (lenOf own_pd4 rfl) rfl (by show 2 * 0 + _ ≤ _; exact Nat.le_of_eq rfl) (hb hby at_24) (fun _ _ => ⟨rfl, e1, (by decide : 0 + 0 ≤ _), (by decide : 0 + 0 ≤ _)⟩)
      dsimp only [Pt.U, Pt.locs, Pt.cells, Pt.slots] at X2 l2 y2 z2 st2 hQ2
      subst l2 y2 z2
      obtain ⟨rfl, Nq2, e2⟩ := hQ2
      have N2 := Fr.app N1 Nq2
      refine own_go st2 ?_
      show own_Ends _ _ _ _ (T2.setTop (mkF mM 27 #[.val (.int p0), .val (.int p1), .val (.int p2), .val (.int c0), .val (.ref a_EMPTY), .unset] [.null]))
      refine own_go (fun _ k => XS.astore X2.here hx rfl (hb hby at_27) rfl rfl (l' := #[.val (.int p0), .val (.int p1), .val (.int p2), .val (.int c0), .val (.ref a_EMPTY), .val .null]) rfl k) ?_
      show own_Ends _ _ _ _ (T2.setTop (mkF mM 29 #[.val (.int p0), .val (.int p1), .val (.int p2), .val (.int c0), .val (.ref a_EMPTY), .val .null] []))
      refine own_go (fun _ k => XS.aload X2.here hx rfl (hb hby at_29) rfl rfl k) ?_
      show own_Ends _ _ _ _ (T2.setTop (mkF mM 31 #[.val (.int p0), .val (.int p1), .val (.int p2), .val (.int c0), .val (.ref a_EMPTY), .val .null] [.null]))
      refine own_go (fun _ k => XS.ifnonnullNo X2.here hx rfl (hb hby at_31) rfl k) ?_
      show own_Ends _ _ _ _ (T2.setTop (mkF mM 34 #[.val (.int p0), .val (.int p1), .val (.int p2), .val (.int c0), .val (.ref a_EMPTY), .val .null] []))
      refine own_go (fun _ k => XS.aload X2.here hx rfl (hb hby at_34) rfl rfl k) ?_
      show own_Ends _ _ _ _ (T2.setTop (mkF mM 36 #[.val (.int p0), .val (.int p1), .val (.int p2), .val (.int c0), .val (.ref a_EMPTY), .val .null] [(.ref a_EMPTY)]))
      obtain ⟨cq3, kq3, q3a, q3b, q3c⟩ := isOf hZ e2 (E_EMPTY.ext O0.2)
      obtain ⟨_, _, ⟨T3, Lz3, kz3, nz3⟩, -, X3, ⟨Lc3, hQ3, l3, y3, z3⟩, st3⟩ := X2.virtualBack hx (y := (⟨"java/util/Optional", "isPresent", "()Z"⟩ : MethodName)) (z := (⟨"java/util/Optional", "isPresent", "()Z"⟩ : MethodName)) hown (mvT hZ (hw _ (List.mem_of_getElem? (i := 27) rfl))) (mvT hZ (hw _ (List.mem_of_getElem? (i := 28) rfl))) (notFace_of_selects (args := #[]) (mvT hZ (hw _ (List.mem_of_getElem? (i := 30) rfl)))) (mvT hZ (hw _ (List.mem_of_getElem? (i := 30) rfl))) (mvT hZ (hw _ (List.mem_of_getElem? (i := 29) rfl))) (by decide) (backOf (W := 0) (own_absent l Z a0 hw [] a_EMPTY h0 n0 O0 (F_EMPTY_value.ext O0.2)) hZ (hw _ (List.mem_of_getElem? (i := 31) rfl)) (hw _ (List.mem_of_getElem? (i := 9) rfl)) (by decide) (by decide)) q3a q3c (g := (mkF mM 36 #[.val (.int p0), .val (.int p1), .val (.int p2), .val (.int c0), .val (.ref a_EMPTY), .val .null] [(.ref a_EMPTY)])) rfl (by rw [hml]; rfl) (Steps.refl _) (argsL := []) (rest := []) (lenOf own_pd5 rfl) rfl (by show 2 * 0 + _ ≤ _; exact Nat.le_of_eq rfl) (hb hby at_36) (fun _ _ => ⟨rfl, e2, (by decide : 0 + 0 ≤ _), (by decide : 0 + 0 ≤ _)⟩)
      dsimp only [Pt.U, Pt.locs, Pt.cells, Pt.slots] at X3 l3 y3 z3 st3 hQ3
      subst l3 y3 z3
      obtain ⟨rfl, Nq3, e3⟩ := hQ3
      have N3 := Fr.app N2 Nq3
      refine own_tr st3 ?_
      show own_Ends _ _ _ _ (T3.setTop (mkF mM 39 #[.val (.int p0), .val (.int p1), .val (.int p2), .val (.int c0), .val (.ref a_EMPTY), .val .null] [(.int (0 : Int32))]))
      refine own_go (fun _ k => XS.ifNo X3.here hx rfl (hb hby at_39) rfl ((if0 _ _).trans (teq (by decide : (0 : Int32) = (0 : Int32))).2) k) ?_
      show own_Ends _ _ _ _ (T3.setTop (mkF mM 42 #[.val (.int p0), .val (.int p1), .val (.int p2), .val (.int c0), .val (.ref a_EMPTY), .val .null] []))
      refine own_go (fun _ k => XS.iconst X3.here hx rfl (hb hby at_42) k) ?_
      show own_Ends _ _ _ _ (T3.setTop (mkF mM 43 #[.val (.int p0), .val (.int p1), .val (.int p2), .val (.int c0), .val (.ref a_EMPTY), .val .null] [(.int (1 : Int32))]))
      refine own_go (fun _ k => XS.goto X3.here hx rfl (pc0 := 43) (pc' := 47) rfl (hb hby at_43) (by decide) (by decide) k) ?_
      show own_Ends _ _ _ _ (T3.setTop (mkF mM 47 #[.val (.int p0), .val (.int p1), .val (.int p2), .val (.int c0), .val (.ref a_EMPTY), .val .null] [(.int (1 : Int32))]))
      exact own_retZ X3 hx (BodyLoose.notSynchronized Bd) Bd.returns rfl (hb hby at_47) (by decide) (by decide) (by rw [e3]; exact ⟨rfl, N3⟩)
    · by_cases hq1 : c0 < (14 : Int32)
      · obtain ⟨x, hx0, E_x, F_x, hv⟩ := own_pick Z a_JAVA a_CPP a_DOTNET a_PYTHON a_DELPHI a_ERLANG a_RUBY a_OTHER a_HTTP a_GO a_PHP a_OMS a_RUST a_NODE_JS E_JAVA F_JAVA_code E_CPP F_CPP_code E_DOTNET F_DOTNET_code E_PYTHON F_PYTHON_code E_DELPHI F_DELPHI_code E_ERLANG F_ERLANG_code E_RUBY F_RUBY_code E_OTHER F_OTHER_code E_HTTP F_HTTP_code E_GO F_GO_code E_PHP F_PHP_code E_OMS F_OMS_code E_RUST F_RUST_code E_NODE_JS F_NODE_JS_code c0 hq0 hq1
        obtain ⟨_, _, ⟨T4, Lz4, kz4, nz4⟩, -, X4, ⟨Lc4, hQ4, l4, y4, z4⟩, st4⟩ := Jvm.LawKit.callS X0 hx (y := (⟨"com/example/letters_over_wire/lettersoverwire/LanguageCode", "forCode", "(I)Ljava/util/Optional;"⟩ : MethodName)) hown (mvT hZ (hw _ (List.mem_of_getElem? (i := 0) rfl))) (mvT hZ (hw _ (List.mem_of_getElem? (i := 1) rfl))) (mvT hZ (hw _ (List.mem_of_getElem? (i := 2) rfl))) (mvT hZ (hw _ (List.mem_of_getElem? (i := 3) rfl))) (by decide) (backOf (W := 0) (own_forIn l Z a0 hw [] c0 x arr kk a_JAVA a_CPP a_DOTNET a_PYTHON a_DELPHI a_ERLANG a_RUBY a_OTHER a_HTTP a_GO a_PHP a_OMS a_RUST a_NODE_JS h0 n0 O0 S_BY_CODE V_arr hq0 hq1 hv) hZ (hw _ (List.mem_of_getElem? (i := 3) rfl)) (hw _ (List.mem_of_getElem? (i := 2) rfl)) (by decide) (by decide)) (g := (mkF mM 18 #[.val (.int p0), .val (.int p1), .val (.int p2), .val (.int c0), .unset, .unset] [(.int c0)])) rfl (by rw [hml]; rfl) (argsL := [(.int c0)]) (rest := []) (lenOf own_pd3 rfl) rfl (by show 2 * 0 + _ ≤ _; exact Nat.le_of_eq rfl) (hb hby at_18) (fun _ _ => ⟨rfl, e0, (by decide : 0 + 1 ≤ _), (by decide : 0 + 1 ≤ _)⟩)
        dsimp only [Pt.U, Pt.locs, Pt.cells, Pt.slots] at X4 l4 y4 z4 st4 hQ4
        subst l4 y4 z4
        obtain ⟨c4, rfl, Nq4, g_c4, K4, E_c4, F_c4⟩ := hQ4
        have N4 := Fr.app N0 Nq4
        have O4 := O0.keep K4 all0
        refine own_go st4 ?_
        show own_Ends _ _ _ _ (T4.setTop (mkF mM 21 #[.val (.int p0), .val (.int p1), .val (.int p2), .val (.int c0), .unset, .unset] [(.ref c4)]))
        refine own_go (fun _ k => XS.astore X4.here hx rfl (hb hby at_21) rfl rfl (l' := #[.val (.int p0), .val (.int p1), .val (.int p2), .val (.int c0), .val (.ref c4), .unset]) rfl k) ?_
        show own_Ends _ _ _ _ (T4.setTop (mkF mM 23 #[.val (.int p0), .val (.int p1), .val (.int p2), .val (.int c0), .val (.ref c4), .unset] []))
        refine own_go (fun _ k => XS.iloadN X4.here hx rfl (hb hby at_23) rfl k) ?_
        show own_Ends _ _ _ _ (T4.setTop (mkF mM 24 #[.val (.int p0), .val (.int p1), .val (.int p2), .val (.int c0), .val (.ref c4), .unset] [(.int c0)]))
        obtain ⟨_, _, ⟨T5, Lz5, kz5, nz5⟩, -, X5, ⟨Lc5, hQ5, l5, y5, z5⟩, st5⟩ := Jvm.LawKit.callS X4 hx (y := (⟨"com/example/letters_over_wire/lettersoverwire/LanguageCodeForCodePinLaw", "expected", "(I)Lcom/example/letters_over_wire/lettersoverwire/LanguageCode;"⟩ : MethodName)) hown (mvT hZ (hw _ (List.mem_of_getElem? (i := 22) rfl))) (mvT hZ (hw _ (List.mem_of_getElem? (i := 23) rfl))) (mvT hZ (hw _ (List.mem_of_getElem? (i := 24) rfl))) (mvT hZ (hw _ (List.mem_of_getElem? (i := 25) rfl))) (by decide) (backOf (W := 0) (own_expIn l Z a0 hw [] c0 x a_JAVA a_CPP a_DOTNET a_PYTHON a_DELPHI a_ERLANG a_RUBY a_OTHER a_HTTP a_GO a_PHP a_OMS a_RUST a_NODE_JS T4.heap n0 O4 S_JAVA S_CPP S_DOTNET S_PYTHON S_DELPHI S_ERLANG S_RUBY S_OTHER S_HTTP S_GO S_PHP S_OMS S_RUST S_NODE_JS hq0 hq1 hx0) hZ (hw _ (List.mem_of_getElem? (i := 25) rfl)) (hw _ (List.mem_of_getElem? (i := 24) rfl)) (by decide) (by decide)) (g := (mkF mM 24 #[.val (.int p0), .val (.int p1), .val (.int p2), .val (.int c0), .val (.ref c4), .unset] [(.int c0)])) rfl (by rw [hml]; rfl) (argsL := [(.int c0)]) (rest := []) (lenOf own_pd4 rfl) rfl (by show 2 * 0 + _ ≤ _; exact Nat.le_of_eq rfl) (hb hby at_24) (fun _ _ => ⟨rfl, rfl, (by decide : 1 + 0 ≤ _), (by decide : 1 + 0 ≤ _)⟩)
        dsimp only [Pt.U, Pt.locs, Pt.cells, Pt.slots] at X5 l5 y5 z5 st5 hQ5
        subst l5 y5 z5
        obtain ⟨rfl, Nq5, e5⟩ := hQ5
        have N5 := Fr.app N4 Nq5
        refine own_go st5 ?_
        show own_Ends _ _ _ _ (T5.setTop (mkF mM 27 #[.val (.int p0), .val (.int p1), .val (.int p2), .val (.int c0), .val (.ref c4), .unset] [(.ref x)]))
        refine own_go (fun _ k => XS.astore X5.here hx rfl (hb hby at_27) rfl rfl (l' := #[.val (.int p0), .val (.int p1), .val (.int p2), .val (.int c0), .val (.ref c4), .val (.ref x)]) rfl k) ?_
        show own_Ends _ _ _ _ (T5.setTop (mkF mM 29 #[.val (.int p0), .val (.int p1), .val (.int p2), .val (.int c0), .val (.ref c4), .val (.ref x)] []))
        refine own_go (fun _ k => XS.aload X5.here hx rfl (hb hby at_29) rfl rfl k) ?_
        show own_Ends _ _ _ _ (T5.setTop (mkF mM 31 #[.val (.int p0), .val (.int p1), .val (.int p2), .val (.int c0), .val (.ref c4), .val (.ref x)] [(.ref x)]))
        refine own_go (fun _ k => XS.ifnonnullYes X5.here hx rfl (pc0 := 31) (pc' := 48) rfl (hb hby at_31) rfl (by decide) (by decide) k) ?_
        show own_Ends _ _ _ _ (T5.setTop (mkF mM 48 #[.val (.int p0), .val (.int p1), .val (.int p2), .val (.int c0), .val (.ref c4), .val (.ref x)] []))
        refine own_go (fun _ k => XS.aload X5.here hx rfl (hb hby at_48) rfl rfl k) ?_
        show own_Ends _ _ _ _ (T5.setTop (mkF mM 50 #[.val (.int p0), .val (.int p1), .val (.int p2), .val (.int c0), .val (.ref c4), .val (.ref x)] [(.ref c4)]))
        obtain ⟨cq6, kq6, q6a, q6b, q6c⟩ := isOf hZ e5 E_c4
        obtain ⟨_, _, ⟨T6, Lz6, kz6, nz6⟩, -, X6, ⟨Lc6, hQ6, l6, y6, z6⟩, st6⟩ := X5.virtualBack hx (y := (⟨"java/util/Optional", "isPresent", "()Z"⟩ : MethodName)) (z := (⟨"java/util/Optional", "isPresent", "()Z"⟩ : MethodName)) hown (mvT hZ (hw _ (List.mem_of_getElem? (i := 27) rfl))) (mvT hZ (hw _ (List.mem_of_getElem? (i := 28) rfl))) (notFace_of_selects (args := #[]) (mvT hZ (hw _ (List.mem_of_getElem? (i := 30) rfl)))) (mvT hZ (hw _ (List.mem_of_getElem? (i := 30) rfl))) (mvT hZ (hw _ (List.mem_of_getElem? (i := 29) rfl))) (by decide) (backOf (W := 0) (own_present l Z a0 hw [] c4 x T4.heap n0 O4 F_c4) hZ (hw _ (List.mem_of_getElem? (i := 31) rfl)) (hw _ (List.mem_of_getElem? (i := 9) rfl)) (by decide) (by decide)) q6a q6c (g := (mkF mM 50 #[.val (.int p0), .val (.int p1), .val (.int p2), .val (.int c0), .val (.ref c4), .val (.ref x)] [(.ref c4)])) rfl (by rw [hml]; rfl) (Steps.refl _) (argsL := []) (rest := []) (lenOf own_pd5 rfl) rfl (by show 2 * 0 + _ ≤ _; exact Nat.le_of_eq rfl) (hb hby at_50) (fun _ _ => ⟨rfl, e5, (by decide : 1 + 0 ≤ _), (by decide : 1 + 0 ≤ _)⟩)
        dsimp only [Pt.U, Pt.locs, Pt.cells, Pt.slots] at X6 l6 y6 z6 st6 hQ6
        subst l6 y6 z6
        obtain ⟨rfl, Nq6, e6⟩ := hQ6
        have N6 := Fr.app N5 Nq6
        refine own_tr st6 ?_
        show own_Ends _ _ _ _ (T6.setTop (mkF mM 53 #[.val (.int p0), .val (.int p1), .val (.int p2), .val (.int c0), .val (.ref c4), .val (.ref x)] [(.int (1 : Int32))]))
        refine own_go (fun _ k => XS.ifNo X6.here hx rfl (hb hby at_53) rfl ((if0 _ _).trans (feq (by decide : ¬ ((1 : Int32) = (0 : Int32)))).1) k) ?_
        show own_Ends _ _ _ _ (T6.setTop (mkF mM 56 #[.val (.int p0), .val (.int p1), .val (.int p2), .val (.int c0), .val (.ref c4), .val (.ref x)] []))
        refine own_go (fun _ k => XS.aload X6.here hx rfl (hb hby at_56) rfl rfl k) ?_
        show own_Ends _ _ _ _ (T6.setTop (mkF mM 58 #[.val (.int p0), .val (.int p1), .val (.int p2), .val (.int c0), .val (.ref c4), .val (.ref x)] [(.ref c4)]))
        obtain ⟨cq7, kq7, q7a, q7b, q7c⟩ := isOf hZ e6 E_c4
        obtain ⟨_, _, ⟨T7, Lz7, kz7, nz7⟩, -, X7, ⟨Lc7, hQ7, l7, y7, z7⟩, st7⟩ := X6.virtualBack hx (y := (⟨"java/util/Optional", "get", "()Ljava/lang/Object;"⟩ : MethodName)) (z := (⟨"java/util/Optional", "get", "()Ljava/lang/Object;"⟩ : MethodName)) hown (mvT hZ (hw _ (List.mem_of_getElem? (i := 32) rfl))) (mvT hZ (hw _ (List.mem_of_getElem? (i := 33) rfl))) (notFace_of_selects (args := #[]) (mvT hZ (hw _ (List.mem_of_getElem? (i := 35) rfl)))) (mvT hZ (hw _ (List.mem_of_getElem? (i := 35) rfl))) (mvT hZ (hw _ (List.mem_of_getElem? (i := 34) rfl))) (by decide) (backOf (W := 0) (own_get l Z a0 hw [] c4 x T4.heap n0 O4 F_c4) hZ (hw _ (List.mem_of_getElem? (i := 36) rfl)) (hw _ (List.mem_of_getElem? (i := 9) rfl)) (by decide) (by decide)) q7a q7c (g := (mkF mM 58 #[.val (.int p0), .val (.int p1), .val (.int p2), .val (.int c0), .val (.ref c4), .val (.ref x)] [(.ref c4)])) rfl (by rw [hml]; rfl) (Steps.refl _) (argsL := []) (rest := []) (lenOf own_pd6 rfl) rfl (by show 2 * 0 + _ ≤ _; exact Nat.le_of_eq rfl) (hb hby at_58) (fun _ _ => ⟨rfl, e6, (by decide : 1 + 0 ≤ _), (by decide : 1 + 0 ≤ _)⟩)
        dsimp only [Pt.U, Pt.locs, Pt.cells, Pt.slots] at X7 l7 y7 z7 st7 hQ7
        subst l7 y7 z7
        obtain ⟨rfl, Nq7, e7⟩ := hQ7
        have N7 := Fr.app N6 Nq7
        refine own_tr st7 ?_
        show own_Ends _ _ _ _ (T7.setTop (mkF mM 61 #[.val (.int p0), .val (.int p1), .val (.int p2), .val (.int c0), .val (.ref c4), .val (.ref x)] [(.ref x)]))
        refine own_go (fun _ k => XS.aload X7.here hx rfl (hb hby at_61) rfl rfl k) ?_
        show own_Ends _ _ _ _ (T7.setTop (mkF mM 63 #[.val (.int p0), .val (.int p1), .val (.int p2), .val (.int c0), .val (.ref c4), .val (.ref x)] [(.ref x), (.ref x)]))
        refine own_go (fun _ k => Jvm.RoadKit.acmp (g := (mkF mM 63 #[.val (.int p0), .val (.int p1), .val (.int p2), .val (.int c0), .val (.ref c4), .val (.ref x)] [(.ref x), (.ref x)])) X7 hx rfl rfl rfl (pc0 := 63) (pc' := 66) (same := true) rfl (hb hby at_63) rfl (decide_eq_true rfl) (by decide) (by decide) k) ?_
        show own_Ends _ _ _ _ (T7.setTop (mkF mM 66 #[.val (.int p0), .val (.int p1), .val (.int p2), .val (.int c0), .val (.ref c4), .val (.ref x)] []))
        refine own_go (fun _ k => XS.aload X7.here hx rfl (hb hby at_66) rfl rfl k) ?_
        show own_Ends _ _ _ _ (T7.setTop (mkF mM 68 #[.val (.int p0), .val (.int p1), .val (.int p2), .val (.int c0), .val (.ref c4), .val (.ref x)] [(.ref x)]))
        obtain ⟨cq8, kq8, q8a, q8b, q8c⟩ := isOf hZ e7 (E_x.ext O4.2)
        obtain ⟨_, _, ⟨T8, Lz8, kz8, nz8⟩, -, X8, ⟨Lc8, hQ8, l8, y8, z8⟩, st8⟩ := X7.virtualBack hx (y := (⟨"com/example/letters_over_wire/lettersoverwire/LanguageCode", "code", "()I"⟩ : MethodName)) (z := (⟨"com/example/letters_over_wire/lettersoverwire/LanguageCode", "code", "()I"⟩ : MethodName)) hown (mvT hZ (hw _ (List.mem_of_getElem? (i := 37) rfl))) (mvT hZ (hw _ (List.mem_of_getElem? (i := 38) rfl))) (notFace_of_selects (args := #[]) (mvT hZ (hw _ (List.mem_of_getElem? (i := 40) rfl)))) (mvT hZ (hw _ (List.mem_of_getElem? (i := 40) rfl))) (mvT hZ (hw _ (List.mem_of_getElem? (i := 39) rfl))) (by decide) (backOf (W := 0) (own_code l Z a0 hw [] x c0 T4.heap n0 O4 F_x) hZ (hw _ (List.mem_of_getElem? (i := 41) rfl)) (hw _ (List.mem_of_getElem? (i := 2) rfl)) (by decide) (by decide)) q8a q8c (g := (mkF mM 68 #[.val (.int p0), .val (.int p1), .val (.int p2), .val (.int c0), .val (.ref c4), .val (.ref x)] [(.ref x)])) rfl (by rw [hml]; rfl) (Steps.refl _) (argsL := []) (rest := []) (lenOf own_pd7 rfl) rfl (by show 2 * 0 + _ ≤ _; exact Nat.le_of_eq rfl) (hb hby at_68) (fun _ _ => ⟨rfl, e7, (by decide : 1 + 0 ≤ _), (by decide : 1 + 0 ≤ _)⟩)
        dsimp only [Pt.U, Pt.locs, Pt.cells, Pt.slots] at X8 l8 y8 z8 st8 hQ8
        subst l8 y8 z8
        obtain ⟨rfl, Nq8, e8⟩ := hQ8
        have N8 := Fr.app N7 Nq8
        refine own_tr st8 ?_
        show own_Ends _ _ _ _ (T8.setTop (mkF mM 71 #[.val (.int p0), .val (.int p1), .val (.int p2), .val (.int c0), .val (.ref c4), .val (.ref x)] [(.int c0)]))
        refine own_go (fun _ k => XS.iloadN X8.here hx rfl (hb hby at_71) rfl k) ?_
        show own_Ends _ _ _ _ (T8.setTop (mkF mM 72 #[.val (.int p0), .val (.int p1), .val (.int p2), .val (.int c0), .val (.ref c4), .val (.ref x)] [(.int c0), (.int c0)]))
        refine own_go (fun _ k => XS.icmpNo X8.here hx rfl (hb hby at_72) rfl (teq rfl).2 k) ?_
        show own_Ends _ _ _ _ (T8.setTop (mkF mM 75 #[.val (.int p0), .val (.int p1), .val (.int p2), .val (.int c0), .val (.ref c4), .val (.ref x)] []))
        refine own_go (fun _ k => XS.iconst X8.here hx rfl (hb hby at_75) k) ?_
        show own_Ends _ _ _ _ (T8.setTop (mkF mM 76 #[.val (.int p0), .val (.int p1), .val (.int p2), .val (.int c0), .val (.ref c4), .val (.ref x)] [(.int (1 : Int32))]))
        refine own_go (fun _ k => XS.goto X8.here hx rfl (pc0 := 76) (pc' := 80) rfl (hb hby at_76) (by decide) (by decide) k) ?_
        show own_Ends _ _ _ _ (T8.setTop (mkF mM 80 #[.val (.int p0), .val (.int p1), .val (.int p2), .val (.int c0), .val (.ref c4), .val (.ref x)] [(.int (1 : Int32))]))
        exact own_retZ X8 hx (BodyLoose.notSynchronized Bd) Bd.returns rfl (hb hby at_80) (by decide) (by decide) (by rw [e8]; exact ⟨rfl, N8⟩)
      · obtain ⟨_, _, ⟨T9, Lz9, kz9, nz9⟩, -, X9, ⟨Lc9, hQ9, l9, y9, z9⟩, st9⟩ := Jvm.LawKit.callS X0 hx (y := (⟨"com/example/letters_over_wire/lettersoverwire/LanguageCode", "forCode", "(I)Ljava/util/Optional;"⟩ : MethodName)) hown (mvT hZ (hw _ (List.mem_of_getElem? (i := 0) rfl))) (mvT hZ (hw _ (List.mem_of_getElem? (i := 1) rfl))) (mvT hZ (hw _ (List.mem_of_getElem? (i := 2) rfl))) (mvT hZ (hw _ (List.mem_of_getElem? (i := 3) rfl))) (by decide) (backOf (W := 0) (own_forOut l Z a0 hw [] c0 a_EMPTY arr kk a_JAVA a_CPP a_DOTNET a_PYTHON a_DELPHI a_ERLANG a_RUBY a_OTHER a_HTTP a_GO a_PHP a_OMS a_RUST a_NODE_JS h0 n0 O0 S_BY_CODE V_arr S_EMPTY (Or.inr hq1)) hZ (hw _ (List.mem_of_getElem? (i := 3) rfl)) (hw _ (List.mem_of_getElem? (i := 2) rfl)) (by decide) (by decide)) (g := (mkF mM 18 #[.val (.int p0), .val (.int p1), .val (.int p2), .val (.int c0), .unset, .unset] [(.int c0)])) rfl (by rw [hml]; rfl) (argsL := [(.int c0)]) (rest := []) (lenOf own_pd3 rfl) rfl (by show 2 * 0 + _ ≤ _; exact Nat.le_of_eq rfl) (hb hby at_18) (fun _ _ => ⟨rfl, e0, (by decide : 0 + 0 ≤ _), (by decide : 0 + 0 ≤ _)⟩)
        dsimp only [Pt.U, Pt.locs, Pt.cells, Pt.slots] at X9 l9 y9 z9 st9 hQ9
        subst l9 y9 z9
        obtain ⟨rfl, Nq9, e9⟩ := hQ9
        have N9 := Fr.app N0 Nq9
        refine own_go st9 ?_
        show own_Ends _ _ _ _ (T9.setTop (mkF mM 21 #[.val (.int p0), .val (.int p1), .val (.int p2), .val (.int c0), .unset, .unset] [(.ref a_EMPTY)]))
        refine own_go (fun _ k => XS.astore X9.here hx rfl (hb hby at_21) rfl rfl (l' := #[.val (.int p0), .val (.int p1), .val (.int p2), .val (.int c0), .val (.ref a_EMPTY), .unset]) rfl k) ?_
        show own_Ends _ _ _ _ (T9.setTop (mkF mM 23 #[.val (.int p0), .val (.int p1), .val (.int p2), .val (.int c0), .val (.ref a_EMPTY), .unset] []))
        refine own_go (fun _ k => XS.iloadN X9.here hx rfl (hb hby at_23) rfl k) ?_
        show own_Ends _ _ _ _ (T9.setTop (mkF mM 24 #[.val (.int p0), .val (.int p1), .val (.int p2), .val (.int c0), .val (.ref a_EMPTY), .unset] [(.int c0)]))
        obtain ⟨_, _, ⟨T10, Lz10, kz10, nz10⟩, -, X10, ⟨Lc10, hQ10, l10, y10, z10⟩, st10⟩ := Jvm.LawKit.callS X9 hx (y := (⟨"com/example/letters_over_wire/lettersoverwire/LanguageCodeForCodePinLaw", "expected", "(I)Lcom/example/letters_over_wire/lettersoverwire/LanguageCode;"⟩ : MethodName)) hown (mvT hZ (hw _ (List.mem_of_getElem? (i := 22) rfl))) (mvT hZ (hw _ (List.mem_of_getElem? (i := 23) rfl))) (mvT hZ (hw _ (List.mem_of_getElem? (i := 24) rfl))) (mvT hZ (hw _ (List.mem_of_getElem? (i := 25) rfl))) (by decide) (backOf (W := 0) (own_expOut l Z a0 hw [] c0 h0 n0 O0 (Or.inr hq1)) hZ (hw _ (List.mem_of_getElem? (i := 25) rfl)) (hw _ (List.mem_of_getElem? (i := 24) rfl)) (by decide) (by decide)) (g := (mkF mM 24 #[.val (.int p0), .val (.int p1), .val (.int p2), .val (.int c0), .val (.ref a_EMPTY), .unset] [(.int c0)])) rfl (by rw [hml]; rfl) (argsL := [(.int c0)]) (rest := []) (lenOf own_pd4 rfl) rfl (by show 2 * 0 + _ ≤ _; exact Nat.le_of_eq rfl) (hb hby at_24) (fun _ _ => ⟨rfl, e9, (by decide : 0 + 0 ≤ _), (by decide : 0 + 0 ≤ _)⟩)
        dsimp only [Pt.U, Pt.locs, Pt.cells, Pt.slots] at X10 l10 y10 z10 st10 hQ10
        subst l10 y10 z10
        obtain ⟨rfl, Nq10, e10⟩ := hQ10
        have N10 := Fr.app N9 Nq10
        refine own_go st10 ?_
        show own_Ends _ _ _ _ (T10.setTop (mkF mM 27 #[.val (.int p0), .val (.int p1), .val (.int p2), .val (.int c0), .val (.ref a_EMPTY), .unset] [.null]))
        refine own_go (fun _ k => XS.astore X10.here hx rfl (hb hby at_27) rfl rfl (l' := #[.val (.int p0), .val (.int p1), .val (.int p2), .val (.int c0), .val (.ref a_EMPTY), .val .null]) rfl k) ?_
        show own_Ends _ _ _ _ (T10.setTop (mkF mM 29 #[.val (.int p0), .val (.int p1), .val (.int p2), .val (.int c0), .val (.ref a_EMPTY), .val .null] []))
        refine own_go (fun _ k => XS.aload X10.here hx rfl (hb hby at_29) rfl rfl k) ?_
        show own_Ends _ _ _ _ (T10.setTop (mkF mM 31 #[.val (.int p0), .val (.int p1), .val (.int p2), .val (.int c0), .val (.ref a_EMPTY), .val .null] [.null]))
        refine own_go (fun _ k => XS.ifnonnullNo X10.here hx rfl (hb hby at_31) rfl k) ?_
        show own_Ends _ _ _ _ (T10.setTop (mkF mM 34 #[.val (.int p0), .val (.int p1), .val (.int p2), .val (.int c0), .val (.ref a_EMPTY), .val .null] []))
        refine own_go (fun _ k => XS.aload X10.here hx rfl (hb hby at_34) rfl rfl k) ?_
        show own_Ends _ _ _ _ (T10.setTop (mkF mM 36 #[.val (.int p0), .val (.int p1), .val (.int p2), .val (.int c0), .val (.ref a_EMPTY), .val .null] [(.ref a_EMPTY)]))
        obtain ⟨cq11, kq11, q11a, q11b, q11c⟩ := isOf hZ e10 (E_EMPTY.ext O0.2)
        obtain ⟨_, _, ⟨T11, Lz11, kz11, nz11⟩, -, X11, ⟨Lc11, hQ11, l11, y11, z11⟩, st11⟩ := X10.virtualBack hx (y := (⟨"java/util/Optional", "isPresent", "()Z"⟩ : MethodName)) (z := (⟨"java/util/Optional", "isPresent", "()Z"⟩ : MethodName)) hown (mvT hZ (hw _ (List.mem_of_getElem? (i := 27) rfl))) (mvT hZ (hw _ (List.mem_of_getElem? (i := 28) rfl))) (notFace_of_selects (args := #[]) (mvT hZ (hw _ (List.mem_of_getElem? (i := 30) rfl)))) (mvT hZ (hw _ (List.mem_of_getElem? (i := 30) rfl))) (mvT hZ (hw _ (List.mem_of_getElem? (i := 29) rfl))) (by decide) (backOf (W := 0) (own_absent l Z a0 hw [] a_EMPTY h0 n0 O0 (F_EMPTY_value.ext O0.2)) hZ (hw _ (List.mem_of_getElem? (i := 31) rfl)) (hw _ (List.mem_of_getElem? (i := 9) rfl)) (by decide) (by decide)) q11a q11c (g := (mkF mM 36 #[.val (.int p0), .val (.int p1), .val (.int p2), .val (.int c0), .val (.ref a_EMPTY), .val .null] [(.ref a_EMPTY)])) rfl (by rw [hml]; rfl) (Steps.refl _) (argsL := []) (rest := []) (lenOf own_pd5 rfl) rfl (by show 2 * 0 + _ ≤ _; exact Nat.le_of_eq rfl) (hb hby at_36) (fun _ _ => ⟨rfl, e10, (by decide : 0 + 0 ≤ _), (by decide : 0 + 0 ≤ _)⟩)
        dsimp only [Pt.U, Pt.locs, Pt.cells, Pt.slots] at X11 l11 y11 z11 st11 hQ11
        subst l11 y11 z11
        obtain ⟨rfl, Nq11, e11⟩ := hQ11
        have N11 := Fr.app N10 Nq11
        refine own_tr st11 ?_
        show own_Ends _ _ _ _ (T11.setTop (mkF mM 39 #[.val (.int p0), .val (.int p1), .val (.int p2), .val (.int c0), .val (.ref a_EMPTY), .val .null] [(.int (0 : Int32))]))
        refine own_go (fun _ k => XS.ifNo X11.here hx rfl (hb hby at_39) rfl ((if0 _ _).trans (teq (by decide : (0 : Int32) = (0 : Int32))).2) k) ?_
        show own_Ends _ _ _ _ (T11.setTop (mkF mM 42 #[.val (.int p0), .val (.int p1), .val (.int p2), .val (.int c0), .val (.ref a_EMPTY), .val .null] []))
        refine own_go (fun _ k => XS.iconst X11.here hx rfl (hb hby at_42) k) ?_
        show own_Ends _ _ _ _ (T11.setTop (mkF mM 43 #[.val (.int p0), .val (.int p1), .val (.int p2), .val (.int c0), .val (.ref a_EMPTY), .val .null] [(.int (1 : Int32))]))
        refine own_go (fun _ k => XS.goto X11.here hx rfl (pc0 := 43) (pc' := 47) rfl (hb hby at_43) (by decide) (by decide) k) ?_
        show own_Ends _ _ _ _ (T11.setTop (mkF mM 47 #[.val (.int p0), .val (.int p1), .val (.int p2), .val (.int c0), .val (.ref a_EMPTY), .val .null] [(.int (1 : Int32))]))
        exact own_retZ X11 hx (BodyLoose.notSynchronized Bd) Bd.returns rfl (hb hby at_47) (by decide) (by decide) (by rw [e11]; exact ⟨rfl, N11⟩)
  refine own_go (fun _ k => XS.iloadN X0.here hx rfl (hb hby at_0) rfl k) ?_
  show own_Ends _ _ _ _ (s₁.setTop (mkF mM 1 #[.val (.int p0), .val (.int p1), .val (.int p2), .unset, .unset, .unset] [(.int p2)]))
  refine own_go (fun _ k => XS.iconst X0.here hx rfl (hb hby at_1) k) ?_
  show own_Ends _ _ _ _ (s₁.setTop (mkF mM 2 #[.val (.int p0), .val (.int p1), .val (.int p2), .unset, .unset, .unset] [(.int (1 : Int32)), (.int p2)]))
  refine own_go (fun _ k => XS.iand X0.here hx rfl (hb hby at_2) rfl k) ?_
  show own_Ends _ _ _ _ (s₁.setTop (mkF mM 3 #[.val (.int p0), .val (.int p1), .val (.int p2), .unset, .unset, .unset] [(.int (p2 &&& (1 : Int32)))]))
  by_cases hc3_11 : (p2 &&& (1 : Int32)) = (0 : Int32)
  · refine own_go (fun _ k => XS.ifYes X0.here hx rfl (pc0 := 3) (pc' := 10) rfl (hb hby at_3) rfl ((if0 _ _).trans (teq hc3_11).1) (by decide) (by decide) k) ?_
    show own_Ends _ _ _ _ (s₁.setTop (mkF mM 10 #[.val (.int p0), .val (.int p1), .val (.int p2), .unset, .unset, .unset] []))
    refine own_go (fun _ k => XS.iloadN X0.here hx rfl (hb hby at_10) rfl k) ?_
    show own_Ends _ _ _ _ (s₁.setTop (mkF mM 11 #[.val (.int p0), .val (.int p1), .val (.int p2), .unset, .unset, .unset] [(.int p1)]))
    refine own_go (fun _ k => XS.bipush X0.here hx rfl (hb hby at_11) k) ?_
    show own_Ends _ _ _ _ (s₁.setTop (mkF mM 13 #[.val (.int p0), .val (.int p1), .val (.int p2), .unset, .unset, .unset] [(.int (15 : Int32)), (.int p1)]))
    refine own_go (fun _ k => XS.iand X0.here hx rfl (hb hby at_13) rfl k) ?_
    show own_Ends _ _ _ _ (s₁.setTop (mkF mM 14 #[.val (.int p0), .val (.int p1), .val (.int p2), .unset, .unset, .unset] [(.int (p1 &&& (15 : Int32)))]))
    refine own_go (fun _ k => XS.iconst X0.here hx rfl (hb hby at_14) k) ?_
    show own_Ends _ _ _ _ (s₁.setTop (mkF mM 15 #[.val (.int p0), .val (.int p1), .val (.int p2), .unset, .unset, .unset] [(.int (1 : Int32)), (.int (p1 &&& (15 : Int32)))]))
    refine own_go (fun _ k => XS.isub X0.here hx rfl (hb hby at_15) rfl k) ?_
    show own_Ends _ _ _ _ (s₁.setTop (mkF mM 16 #[.val (.int p0), .val (.int p1), .val (.int p2), .unset, .unset, .unset] [(.int ((p1 &&& (15 : Int32)) - (1 : Int32)))]))
    refine own_go (fun _ k => XS.istoreN X0.here hx rfl (hb hby at_16) rfl (l' := #[.val (.int p0), .val (.int p1), .val (.int p2), .val (.int ((p1 &&& (15 : Int32)) - (1 : Int32))), .unset, .unset]) rfl k) ?_
    show own_Ends _ _ _ _ (s₁.setTop (mkF mM 17 #[.val (.int p0), .val (.int p1), .val (.int p2), .val (.int ((p1 &&& (15 : Int32)) - (1 : Int32))), .unset, .unset] []))
    exact cut ((p1 &&& (15 : Int32)) - (1 : Int32))
  · refine own_go (fun _ k => XS.ifNo X0.here hx rfl (hb hby at_3) rfl ((if0 _ _).trans (feq hc3_11).1) k) ?_
    show own_Ends _ _ _ _ (s₁.setTop (mkF mM 6 #[.val (.int p0), .val (.int p1), .val (.int p2), .unset, .unset, .unset] []))
    refine own_go (fun _ k => XS.iloadN X0.here hx rfl (hb hby at_6) rfl k) ?_
    show own_Ends _ _ _ _ (s₁.setTop (mkF mM 7 #[.val (.int p0), .val (.int p1), .val (.int p2), .unset, .unset, .unset] [(.int p0)]))
    refine own_go (fun _ k => XS.goto X0.here hx rfl (pc0 := 7) (pc' := 16) rfl (hb hby at_7) (by decide) (by decide) k) ?_
    show own_Ends _ _ _ _ (s₁.setTop (mkF mM 16 #[.val (.int p0), .val (.int p1), .val (.int p2), .unset, .unset, .unset] [(.int p0)]))
    refine own_go (fun _ k => XS.istoreN X0.here hx rfl (hb hby at_16) rfl (l' := #[.val (.int p0), .val (.int p1), .val (.int p2), .val (.int p0), .unset, .unset]) rfl k) ?_
    show own_Ends _ _ _ _ (s₁.setTop (mkF mM 17 #[.val (.int p0), .val (.int p1), .val (.int p2), .val (.int p0), .unset, .unset] []))
    exact cut p0
theorem own_len {Z : State} {av : Array Value} {t : Term} {a : Addr} {cl : Cell} {ty : FieldType} {k : Int32} (ev : t.eval av Z none [] Z = some (.ref a)) (A : Arr Z Z.heap a cl ty) (h : (Jvm.Cond.eq (.length t) (.int k)).value av Z none Z [] = some true) : cl.slots.size < 2 ^ 31 ∧ cl.slots.size.toInt32 = k := by
  have e := own_staI h
  have ha : Z.arrayAt? a = some cl := A.fin (State.Warmed39.refl Z).alike
  simp [Term.eval, ev, ha] at e
  exact e
theorem own_elem {Z : State} {av : Array Value} {t u : Term} {a b : Addr} {cl : Cell} {ty : FieldType} {j : Int32} (ev : t.eval av Z none [] Z = some (.ref a)) (A : Arr Z Z.heap a cl ty) (eu : u.eval av Z none [] Z = some (.ref b)) (h : (Jvm.Cond.eq (.elem t (.int j)) u).value av Z none Z [] = some true) : cl.slots[j.toNatClampNeg]? = some (.ref b) := by
  obtain ⟨x, y, ex, ey, k1, k2⟩ := cmp_v (Or.inl h)
  cases eu.symm.trans ey
  obtain ⟨hx1, hx2⟩ := elem_in ex ev (Term.int_eval j) A.1
  have q := gotT (eq_R ex eu k2.2 rfl) h
  rw [← q]; exact hx2
set_option maxRecDepth 65536 in
set_option maxHeartbeats 40000000 in
theorem comes_1 {Post : Tables → Env → Array Value → State → Outcome → State → Prop} (hpost : ∀ tb e args s v u, (limb_1_1.after args s (.returned v) u = true ∧ limb_1_2.after args s (.returned v) u = true ∧ True) → FrameEnd s (.returned v) u (Jvm.fieldLocs frame_1_writes args s ++ Jvm.arrayLocs frame_1_arrays args s ++ Jvm.staticLocs frame_1_statics s) 16 128 → Post tb e args s (.returned v) u) :
    ArmFor flags0 classFile x code maxLocals ret World_1 tables_1 room_1 Calls_1 rest_1 Pre_1 Post := by
  intro l hfl _ _ p e ha hc hk s m args below hf hA hF happ hP
  obtain ⟨hcalls, hrest, hpre⟩ := hP
  obtain ⟨-, -, -, hnamed, -, -, -, hat⟩ := (Spec.applies_iff hf).mp happ
  obtain ⟨hg, hn⟩ := and_e (Cond.before_iff.mp (show (Jvm.Cond.and given_1 narrow_1).before args s = true from hpre))
  obtain ⟨hg0, hr0⟩ := and_e hg
  obtain ⟨hg1, hr1⟩ := and_e hr0
  obtain ⟨hg2, hg3⟩ := and_e hr1
  obtain ⟨w0, w1, w2, rfl⟩ : ∃ w0 w1 w2 : Value, args = #[w0, w1, w2] := by
    have hs : args.size = 3 := by simpa [Cond.value, given_1] using hg0
    obtain ⟨L⟩ := args
    match L, hs with
    | [w0, w1, w2], _ => exact ⟨w0, w1, w2, rfl⟩
  have hw := fun d (hd : d ∈ tables_1) => atoms_spec (ws := Jvm.Cond.code x code maxLocals ret :: tables_1) hat d (List.mem_cons_of_mem _ hd)
  have hfit : Fit s := fun {y c} hc i hi => by
    obtain ⟨ha, rfl⟩ := Array.getElem?_eq_some_iff.mp hc
    have q := List.all_eq_true.mp ((Array.all_eq_true_iff_forall_mem.mp hF) _ (Array.getElem_mem ha)) i (List.mem_range.mpr hi)
    simpa [Array.getElem?_eq_getElem hi] using q
  obtain ⟨hsets, hown0⟩ := atoms_of _ (rest_1_c_eq ▸ (show rest_1_c.before _ s = true from hrest))
  obtain ⟨i0, ei0⟩ := is_v hg1
  obtain rfl : w0 = (.int i0) := Option.some.inj ei0
  obtain ⟨i1, ei1⟩ := is_v hg2
  obtain rfl : w1 = (.int i1) := Option.some.inj ei1
  obtain ⟨i2, ei2⟩ := is_v hg3
  obtain rfl : w2 = (.int i2) := Option.some.inj ei2
  obtain ⟨hn0, hm0⟩ := and_e hn
  obtain ⟨hn1, hm1⟩ := and_e hm0
  obtain ⟨hn2, hm2⟩ := and_e hm1
  obtain ⟨a_DOTNET, ev_DOTNET⟩ := exa_v hn2
  have S_DOTNET : Sta s s.heap "com/example/letters_over_wire/lettersoverwire/LanguageCode" "DOTNET" "Lcom/example/letters_over_wire/lettersoverwire/LanguageCode;" (.ref a_DOTNET) := Sta.start ev_DOTNET (Or.inr ⟨(hw _ (List.mem_of_getElem? (i := 2) rfl)), (hw _ (List.mem_of_getElem? (i := 6) rfl))⟩)
  have E_DOTNET : Exa s s.heap a_DOTNET "com/example/letters_over_wire/lettersoverwire/LanguageCode" := Exa.start ev_DOTNET hn2
  obtain ⟨hn3, hm3⟩ := and_e hm2
  obtain ⟨hn4, hm4⟩ := and_e hm3
  have F_DOTNET_code : Fld s s.heap a_DOTNET "com/example/letters_over_wire/lettersoverwire/LanguageCode" "code" "I" (.int (2 : Int32)) := own_fldI ev_DOTNET hn4
  obtain ⟨hn5, hm5⟩ := and_e hm4
  obtain ⟨a_CPP, ev_CPP⟩ := exa_v hn5
  have S_CPP : Sta s s.heap "com/example/letters_over_wire/lettersoverwire/LanguageCode" "CPP" "Lcom/example/letters_over_wire/lettersoverwire/LanguageCode;" (.ref a_CPP) := Sta.start ev_CPP (Or.inr ⟨(hw _ (List.mem_of_getElem? (i := 2) rfl)), (hw _ (List.mem_of_getElem? (i := 44) rfl))⟩)
  have E_CPP : Exa s s.heap a_CPP "com/example/letters_over_wire/lettersoverwire/LanguageCode" := Exa.start ev_CPP hn5
  obtain ⟨hn6, hm6⟩ := and_e hm5
  obtain ⟨hn7, hm7⟩ := and_e hm6
  have F_CPP_code : Fld s s.heap a_CPP "com/example/letters_over_wire/lettersoverwire/LanguageCode" "code" "I" (.int (1 : Int32)) := own_fldI ev_CPP hn7
  obtain ⟨hn8, hm8⟩ := and_e hm7
  obtain ⟨a_HTTP, ev_HTTP⟩ := exa_v hn8
  have S_HTTP : Sta s s.heap "com/example/letters_over_wire/lettersoverwire/LanguageCode" "HTTP" "Lcom/example/letters_over_wire/lettersoverwire/LanguageCode;" (.ref a_HTTP) := Sta.start ev_HTTP (Or.inr ⟨(hw _ (List.mem_of_getElem? (i := 2) rfl)), (hw _ (List.mem_of_getElem? (i := 50) rfl))⟩)
  have E_HTTP : Exa s s.heap a_HTTP "com/example/letters_over_wire/lettersoverwire/LanguageCode" := Exa.start ev_HTTP hn8
  obtain ⟨hn9, hm9⟩ := and_e hm8
  obtain ⟨hn10, hm10⟩ := and_e hm9
  have F_HTTP_code : Fld s s.heap a_HTTP "com/example/letters_over_wire/lettersoverwire/LanguageCode" "code" "I" (.int (8 : Int32)) := own_fldI ev_HTTP hn10
  obtain ⟨hn11, hm11⟩ := and_e hm10
  obtain ⟨a_JAVA, ev_JAVA⟩ := exa_v hn11
  have S_JAVA : Sta s s.heap "com/example/letters_over_wire/lettersoverwire/LanguageCode" "JAVA" "Lcom/example/letters_over_wire/lettersoverwire/LanguageCode;" (.ref a_JAVA) := Sta.start ev_JAVA (Or.inr ⟨(hw _ (List.mem_of_getElem? (i := 2) rfl)), (hw _ (List.mem_of_getElem? (i := 52) rfl))⟩)
  have E_JAVA : Exa s s.heap a_JAVA "com/example/letters_over_wire/lettersoverwire/LanguageCode" := Exa.start ev_JAVA hn11
  obtain ⟨hn12, hm12⟩ := and_e hm11
  obtain ⟨hn13, hm13⟩ := and_e hm12
  have F_JAVA_code : Fld s s.heap a_JAVA "com/example/letters_over_wire/lettersoverwire/LanguageCode" "code" "I" (.int (0 : Int32)) := own_fldI ev_JAVA hn13
  obtain ⟨hn14, hm14⟩ := and_e hm13
  obtain ⟨a_PYTHON, ev_PYTHON⟩ := exa_v hn14
  have S_PYTHON : Sta s s.heap "com/example/letters_over_wire/lettersoverwire/LanguageCode" "PYTHON" "Lcom/example/letters_over_wire/lettersoverwire/LanguageCode;" (.ref a_PYTHON) := Sta.start ev_PYTHON (Or.inr ⟨(hw _ (List.mem_of_getElem? (i := 2) rfl)), (hw _ (List.mem_of_getElem? (i := 54) rfl))⟩)
  have E_PYTHON : Exa s s.heap a_PYTHON "com/example/letters_over_wire/lettersoverwire/LanguageCode" := Exa.start ev_PYTHON hn14
  obtain ⟨hn15, hm15⟩ := and_e hm14
  obtain ⟨hn16, hm16⟩ := and_e hm15
  have F_PYTHON_code : Fld s s.heap a_PYTHON "com/example/letters_over_wire/lettersoverwire/LanguageCode" "code" "I" (.int (3 : Int32)) := own_fldI ev_PYTHON hn16
  obtain ⟨hn17, hm17⟩ := and_e hm16
  obtain ⟨a_OTHER, ev_OTHER⟩ := exa_v hn17
  have S_OTHER : Sta s s.heap "com/example/letters_over_wire/lettersoverwire/LanguageCode" "OTHER" "Lcom/example/letters_over_wire/lettersoverwire/LanguageCode;" (.ref a_OTHER) := Sta.start ev_OTHER (Or.inr ⟨(hw _ (List.mem_of_getElem? (i := 2) rfl)), (hw _ (List.mem_of_getElem? (i := 56) rfl))⟩)
  have E_OTHER : Exa s s.heap a_OTHER "com/example/letters_over_wire/lettersoverwire/LanguageCode" := Exa.start ev_OTHER hn17
  obtain ⟨hn18, hm18⟩ := and_e hm17
  obtain ⟨hn19, hm19⟩ := and_e hm18
  have F_OTHER_code : Fld s s.heap a_OTHER "com/example/letters_over_wire/lettersoverwire/LanguageCode" "code" "I" (.int (7 : Int32)) := own_fldI ev_OTHER hn19
  obtain ⟨hn20, hm20⟩ := and_e hm19
  obtain ⟨a_DELPHI, ev_DELPHI⟩ := exa_v hn20
  have S_DELPHI : Sta s s.heap "com/example/letters_over_wire/lettersoverwire/LanguageCode" "DELPHI" "Lcom/example/letters_over_wire/lettersoverwire/LanguageCode;" (.ref a_DELPHI) := Sta.start ev_DELPHI (Or.inr ⟨(hw _ (List.mem_of_getElem? (i := 2) rfl)), (hw _ (List.mem_of_getElem? (i := 58) rfl))⟩)
  have E_DELPHI : Exa s s.heap a_DELPHI "com/example/letters_over_wire/lettersoverwire/LanguageCode" := Exa.start ev_DELPHI hn20
  obtain ⟨hn21, hm21⟩ := and_e hm20
  obtain ⟨hn22, hm22⟩ := and_e hm21
  have F_DELPHI_code : Fld s s.heap a_DELPHI "com/example/letters_over_wire/lettersoverwire/LanguageCode" "code" "I" (.int (4 : Int32)) := own_fldI ev_DELPHI hn22
  obtain ⟨hn23, hm23⟩ := and_e hm22
  obtain ⟨a_RUBY, ev_RUBY⟩ := exa_v hn23
  have S_RUBY : Sta s s.heap "com/example/letters_over_wire/lettersoverwire/LanguageCode" "RUBY" "Lcom/example/letters_over_wire/lettersoverwire/LanguageCode;" (.ref a_RUBY) := Sta.start ev_RUBY (Or.inr ⟨(hw _ (List.mem_of_getElem? (i := 2) rfl)), (hw _ (List.mem_of_getElem? (i := 60) rfl))⟩)
  have E_RUBY : Exa s s.heap a_RUBY "com/example/letters_over_wire/lettersoverwire/LanguageCode" := Exa.start ev_RUBY hn23
  obtain ⟨hn24, hm24⟩ := and_e hm23
  obtain ⟨hn25, hm25⟩ := and_e hm24
  have F_RUBY_code : Fld s s.heap a_RUBY "com/example/letters_over_wire/lettersoverwire/LanguageCode" "code" "I" (.int (6 : Int32)) := own_fldI ev_RUBY hn25
  obtain ⟨hn26, hm26⟩ := and_e hm25
  obtain ⟨a_ERLANG, ev_ERLANG⟩ := exa_v hn26
  have S_ERLANG : Sta s s.heap "com/example/letters_over_wire/lettersoverwire/LanguageCode" "ERLANG" "Lcom/example/letters_over_wire/lettersoverwire/LanguageCode;" (.ref a_ERLANG) := Sta.start ev_ERLANG (Or.inr ⟨(hw _ (List.mem_of_getElem? (i := 2) rfl)), (hw _ (List.mem_of_getElem? (i := 62) rfl))⟩)
  have E_ERLANG : Exa s s.heap a_ERLANG "com/example/letters_over_wire/lettersoverwire/LanguageCode" := Exa.start ev_ERLANG hn26
  obtain ⟨hn27, hm27⟩ := and_e hm26
  obtain ⟨hn28, hm28⟩ := and_e hm27
  have F_ERLANG_code : Fld s s.heap a_ERLANG "com/example/letters_over_wire/lettersoverwire/LanguageCode" "code" "I" (.int (5 : Int32)) := own_fldI ev_ERLANG hn28
  obtain ⟨hn29, hm29⟩ := and_e hm28
  obtain ⟨a_NODE_JS, ev_NODE_JS⟩ := exa_v hn29
  have S_NODE_JS : Sta s s.heap "com/example/letters_over_wire/lettersoverwire/LanguageCode" "NODE_JS" "Lcom/example/letters_over_wire/lettersoverwire/LanguageCode;" (.ref a_NODE_JS) := Sta.start ev_NODE_JS (Or.inr ⟨(hw _ (List.mem_of_getElem? (i := 2) rfl)), (hw _ (List.mem_of_getElem? (i := 64) rfl))⟩)
  have E_NODE_JS : Exa s s.heap a_NODE_JS "com/example/letters_over_wire/lettersoverwire/LanguageCode" := Exa.start ev_NODE_JS hn29
  obtain ⟨hn30, hm30⟩ := and_e hm29
  obtain ⟨hn31, hm31⟩ := and_e hm30
  have F_NODE_JS_code : Fld s s.heap a_NODE_JS "com/example/letters_over_wire/lettersoverwire/LanguageCode" "code" "I" (.int (13 : Int32)) := own_fldI ev_NODE_JS hn31
  obtain ⟨hn32, hm32⟩ := and_e hm31
  obtain ⟨a_GO, ev_GO⟩ := exa_v hn32
  have S_GO : Sta s s.heap "com/example/letters_over_wire/lettersoverwire/LanguageCode" "GO" "Lcom/example/letters_over_wire/lettersoverwire/LanguageCode;" (.ref a_GO) := Sta.start ev_GO (Or.inr ⟨(hw _ (List.mem_of_getElem? (i := 2) rfl)), (hw _ (List.mem_of_getElem? (i := 66) rfl))⟩)
  have E_GO : Exa s s.heap a_GO "com/example/letters_over_wire/lettersoverwire/LanguageCode" := Exa.start ev_GO hn32
  obtain ⟨hn33, hm33⟩ := and_e hm32
  obtain ⟨hn34, hm34⟩ := and_e hm33
  have F_GO_code : Fld s s.heap a_GO "com/example/letters_over_wire/lettersoverwire/LanguageCode" "code" "I" (.int (9 : Int32)) := own_fldI ev_GO hn34
  obtain ⟨hn35, hm35⟩ := and_e hm34
  obtain ⟨a_PHP, ev_PHP⟩ := exa_v hn35
  have S_PHP : Sta s s.heap "com/example/letters_over_wire/lettersoverwire/LanguageCode" "PHP" "Lcom/example/letters_over_wire/lettersoverwire/LanguageCode;" (.ref a_PHP) := Sta.start ev_PHP (Or.inr ⟨(hw _ (List.mem_of_getElem? (i := 2) rfl)), (hw _ (List.mem_of_getElem? (i := 68) rfl))⟩)
  have E_PHP : Exa s s.heap a_PHP "com/example/letters_over_wire/lettersoverwire/LanguageCode" := Exa.start ev_PHP hn35
  obtain ⟨hn36, hm36⟩ := and_e hm35
  obtain ⟨hn37, hm37⟩ := and_e hm36
  have F_PHP_code : Fld s s.heap a_PHP "com/example/letters_over_wire/lettersoverwire/LanguageCode" "code" "I" (.int (10 : Int32)) := own_fldI ev_PHP hn37
  obtain ⟨hn38, hm38⟩ := and_e hm37
  obtain ⟨a_OMS, ev_OMS⟩ := exa_v hn38
  have S_OMS : Sta s s.heap "com/example/letters_over_wire/lettersoverwire/LanguageCode" "OMS" "Lcom/example/letters_over_wire/lettersoverwire/LanguageCode;" (.ref a_OMS) := Sta.start ev_OMS (Or.inr ⟨(hw _ (List.mem_of_getElem? (i := 2) rfl)), (hw _ (List.mem_of_getElem? (i := 70) rfl))⟩)
  have E_OMS : Exa s s.heap a_OMS "com/example/letters_over_wire/lettersoverwire/LanguageCode" := Exa.start ev_OMS hn38
  obtain ⟨hn39, hm39⟩ := and_e hm38
  obtain ⟨hn40, hm40⟩ := and_e hm39
  have F_OMS_code : Fld s s.heap a_OMS "com/example/letters_over_wire/lettersoverwire/LanguageCode" "code" "I" (.int (11 : Int32)) := own_fldI ev_OMS hn40
  obtain ⟨hn41, hm41⟩ := and_e hm40
  obtain ⟨a_RUST, ev_RUST⟩ := exa_v hn41
  have S_RUST : Sta s s.heap "com/example/letters_over_wire/lettersoverwire/LanguageCode" "RUST" "Lcom/example/letters_over_wire/lettersoverwire/LanguageCode;" (.ref a_RUST) := Sta.start ev_RUST (Or.inr ⟨(hw _ (List.mem_of_getElem? (i := 2) rfl)), (hw _ (List.mem_of_getElem? (i := 72) rfl))⟩)
  have E_RUST : Exa s s.heap a_RUST "com/example/letters_over_wire/lettersoverwire/LanguageCode" := Exa.start ev_RUST hn41
  obtain ⟨hn42, hm42⟩ := and_e hm41
  have F_RUST_code : Fld s s.heap a_RUST "com/example/letters_over_wire/lettersoverwire/LanguageCode" "code" "I" (.int (12 : Int32)) := own_fldI ev_RUST hm42
  have hj2 := Cond.before_iff.mp (hsets _ (List.mem_of_getElem? (i := 2) rfl))
  obtain ⟨a_EMPTY, ev_EMPTY⟩ := exa_v hj2
  have S_EMPTY : Sta s s.heap "java/util/Optional" "EMPTY" "Ljava/util/Optional;" (.ref a_EMPTY) := Sta.start ev_EMPTY (Or.inl (hsets _ (List.mem_of_getElem? (i := 1) rfl)))
  have E_EMPTY : Exa s s.heap a_EMPTY "java/util/Optional" := Exa.start ev_EMPTY hj2
  have hj3 := Cond.before_iff.mp (hsets _ (List.mem_of_getElem? (i := 3) rfl))
  have F_EMPTY_value : Fld s s.heap a_EMPTY "java/util/Optional" "value" "Ljava/lang/Object;" .null := Fld.start ((fld_at ev_EMPTY).symm.trans (null_v hj3))
  obtain ⟨arr, ev_arr⟩ := arr_v hn0
  obtain ⟨cl, Aa_arr⟩ := Arr.start ev_arr hn0
  have S_BY_CODE : Sta s s.heap "com/example/letters_over_wire/lettersoverwire/LanguageCode" "BY_CODE" "[Lcom/example/letters_over_wire/lettersoverwire/LanguageCode;" (.ref arr) := Sta.start ev_arr (Or.inr ⟨(hw _ (List.mem_of_getElem? (i := 2) rfl)), (hw _ (List.mem_of_getElem? (i := 5) rfl))⟩)
  obtain ⟨hsz_arr, hlen_arr⟩ := own_len ev_arr Aa_arr hn1
  have el0 : cl.slots[0]? = some (.ref a_JAVA) := own_elem ev_arr Aa_arr (j := (0 : Int32)) ev_JAVA hn12
  have el1 : cl.slots[1]? = some (.ref a_CPP) := own_elem ev_arr Aa_arr (j := (1 : Int32)) ev_CPP hn6
  have el2 : cl.slots[2]? = some (.ref a_DOTNET) := own_elem ev_arr Aa_arr (j := (2 : Int32)) ev_DOTNET hn3
  have el3 : cl.slots[3]? = some (.ref a_PYTHON) := own_elem ev_arr Aa_arr (j := (3 : Int32)) ev_PYTHON hn15
  have el4 : cl.slots[4]? = some (.ref a_DELPHI) := own_elem ev_arr Aa_arr (j := (4 : Int32)) ev_DELPHI hn21
  have el5 : cl.slots[5]? = some (.ref a_ERLANG) := own_elem ev_arr Aa_arr (j := (5 : Int32)) ev_ERLANG hn27
  have el6 : cl.slots[6]? = some (.ref a_RUBY) := own_elem ev_arr Aa_arr (j := (6 : Int32)) ev_RUBY hn24
  have el7 : cl.slots[7]? = some (.ref a_OTHER) := own_elem ev_arr Aa_arr (j := (7 : Int32)) ev_OTHER hn18
  have el8 : cl.slots[8]? = some (.ref a_HTTP) := own_elem ev_arr Aa_arr (j := (8 : Int32)) ev_HTTP hn9
  have el9 : cl.slots[9]? = some (.ref a_GO) := own_elem ev_arr Aa_arr (j := (9 : Int32)) ev_GO hn33
  have el10 : cl.slots[10]? = some (.ref a_PHP) := own_elem ev_arr Aa_arr (j := (10 : Int32)) ev_PHP hn36
  have el11 : cl.slots[11]? = some (.ref a_OMS) := own_elem ev_arr Aa_arr (j := (11 : Int32)) ev_OMS hn39
  have el12 : cl.slots[12]? = some (.ref a_RUST) := own_elem ev_arr Aa_arr (j := (12 : Int32)) ev_RUST hn42
  have el13 : cl.slots[13]? = some (.ref a_NODE_JS) := own_elem ev_arr Aa_arr (j := (13 : Int32)) ev_NODE_JS hn30
  have V_arr : Arv s s.heap arr cl.cls (.object "com/example/letters_over_wire/lettersoverwire/LanguageCode") (14 : Int32) [(.ref a_JAVA), (.ref a_CPP), (.ref a_DOTNET), (.ref a_PYTHON), (.ref a_DELPHI), (.ref a_ERLANG), (.ref a_RUBY), (.ref a_OTHER), (.ref a_HTTP), (.ref a_GO), (.ref a_PHP), (.ref a_OMS), (.ref a_RUST), (.ref a_NODE_JS)] .null := Arv.start hfit Aa_arr hsz_arr hlen_arr (by decide) rfl ⟨el0, el1, el2, el3, el4, el5, el6, el7, el8, el9, el10, el11, el12, el13, trivial⟩
  obtain ⟨n, o, h1, h2, h3, _, L, rfl, ⟨rfl, N⟩, hq⟩ := own_law l s _ hw tables_1 i0 i1 i2 a_EMPTY arr cl.cls a_JAVA a_CPP a_DOTNET a_PYTHON a_DELPHI a_ERLANG a_RUBY a_OTHER a_HTTP a_GO a_PHP a_OMS a_RUST a_NODE_JS s.heap s.heap.size (Old.start s) S_JAVA E_JAVA F_JAVA_code S_CPP E_CPP F_CPP_code S_DOTNET E_DOTNET F_DOTNET_code S_PYTHON E_PYTHON F_PYTHON_code S_DELPHI E_DELPHI F_DELPHI_code S_ERLANG E_ERLANG F_ERLANG_code S_RUBY E_RUBY F_RUBY_code S_OTHER E_OTHER F_OTHER_code S_HTTP E_HTTP F_HTTP_code S_GO E_GO F_GO_code S_PHP E_PHP F_PHP_code S_OMS E_OMS F_OMS_code S_RUST E_RUST F_RUST_code S_NODE_JS E_NODE_JS F_NODE_JS_code S_BY_CODE V_arr S_EMPTY E_EMPTY F_EMPTY_value p e ha hc hk s m _ below hf ((Spec.applies_iff_loose hf).mp happ).1 ⟨rfl, State.Warmed39.refl s, rfl⟩ trivial
  refine ⟨n, _, h1, h2, h3, hpost _ _ _ _ _ _ ⟨Cond.after_iff.mpr rfl, Cond.after_iff.mpr (eq_i res_at (Term.int_eval (1)) rfl), trivial⟩ ⟨hq.1, hq.2.1, (hq.2.2.sift fun y hy => Or.inr (N y hy)).mono (by decide) (by decide)⟩⟩
theorem main_1_1 : Claimed_1_1 := comes_1 fun _ _ _ _ _ _ h hF => ⟨h.1, hF⟩
theorem main_1_2 : Claimed_1_2 := comes_1 fun _ _ _ _ _ _ h hF => ⟨h.2.1, hF⟩
end Jvm.Pilot.@@N@@
namespace Jvm.Pilot.@@N@@
open Jvm Jvm.ClassFile Sem Op Lib Jvm.Free Jvm.Stand Jvm.Pilot.@@N@@.Jvm.D
/-! MADE BY PROGRAM (witnessworld.py) out of the Statement's table words and the real class files: 14 classes; the members and pool entries that the words name. The judged class is class 1, her method 1. -/
namespace start1
open Jvm.ClassFile
def u (s : String) : CpInfo := .utf8 (stringToUtf16 s)
/-- a pool by its gaps: so many unusable entries, then the entry; so many at the end -/
def gap : Nat → List CpInfo → List CpInfo
  | 0, r => r
  | n + 1, r => .unusable :: gap n r
def poolList (es : List (Nat × CpInfo)) (last : Nat) : List CpInfo := es.foldr (fun e r => gap e.1 (e.2 :: r)) (gap last [])
def pool (es : List (Nat × CpInfo)) (last : Nat) : Array CpInfo := ⟨poolList es last⟩
def fileOf (pool : Array CpInfo) (this : Nat) (attrs : Array Attribute := #[]) (ms : Array MethodInfo := #[]) (fl : Nat := 33) (sup : Nat := 0) (ifs : Array Nat := #[]) (fds : Array FieldInfo := #[]) : ClassFile where
  minorVersion := 0
  majorVersion := 65
  constantPool := pool
  accessFlags := fl
  thisClass := this
  superClass := sup
  interfaces := ifs
  fields := fds
  methods := ms
  attributes := attrs
def plain (name : String) (sup : Option ClassId) : Class where
  name := name
  kind := .ordinary
  loader := none
  accessFlags := 33
  super := sup
  interfaces := #[]
  cf := none
  fields := #[]
  methods := #[]
  instanceTypes := #[]
  staticTypes := #[]
  resolved := #[]
  callSites := []
  init := .initialized
  statics := none
  mirror := none

def pool0 : Array CpInfo := pool [(5, u "<init>"), (0, u "()V"), (1, .class_ 10), (1, u "java/lang/Object")] 113

def k0c0 : Code := { maxStack := 0, maxLocals := 1, code := object_method_1_code, exceptionTable := #[], attributes := #[] }
def k0m0 : Method := { name := "<init>", desc := "()V", sig := { parameters := [], returnType := none }, accessFlags := 1, code := some k0c0 }
/-- java/lang/Object -/
def k0 : Class := { plain "java/lang/Object" none with
  accessFlags := 33
  interfaces := #[]
  cf := some (fileOf pool0 8 #[] #[{ accessFlags := 1, nameIndex := 5, descriptorIndex := 6, attributes := #[] }] 33 0 #[] #[])
  fields := #[]
  methods := #[k0m0]
  instanceTypes := #[]
  staticTypes := #[]
  resolved := Array.replicate 124 none
  statics := none }

def pool1 : Array CpInfo := pool [(2, .class_ 4), (1, u "java/lang/Object"), (0, u "<init>"), (0, u "()V"), (0, .methodref 8 9), (0, .class_ 10), (0, .nameAndType 11 12), (0, u "com/example/letters_over_wire/lettersoverwire/LanguageCode"), (0, u "forCode"), (0, u "(I)Ljava/util/Optional;"), (0, .methodref 14 15), (0, .class_ 16), (0, .nameAndType 17 18), (0, u "com/example/letters_over_wire/lettersoverwire/LanguageCodeForCodePinLaw"), (0, u "expected"), (0, u "(I)Lcom/example/letters_over_wire/lettersoverwire/LanguageCode;"), (0, .methodref 20 21), (0, .class_ 22), (0, .nameAndType 23 24), (0, u "java/util/Optional"), (0, u "isPresent"), (0, u "()Z"), (0, .methodref 20 26), (0, .nameAndType 27 28), (0, u "get"), (0, u "()Ljava/lang/Object;"), (0, .methodref 8 30), (0, .nameAndType 31 32), (0, u "code"), (0, u "()I"), (0, .fieldref 8 34), (0, .nameAndType 35 36), (0, u "JAVA"), (0, u "Lcom/example/letters_over_wire/lettersoverwire/LanguageCode;"), (0, .fieldref 8 38), (0, .nameAndType 39 36), (0, u "CPP"), (0, .fieldref 8 41), (0, .nameAndType 42 36), (0, u "DOTNET"), (0, .fieldref 8 44), (0, .nameAndType 45 36), (0, u "PYTHON"), (0, .fieldref 8 47), (0, .nameAndType 48 36), (0, u "DELPHI"), (0, .fieldref 8 50), (0, .nameAndType 51 36), (0, u "ERLANG"), (0, .fieldref 8 53), (0, .nameAndType 54 36), (0, u "RUBY"), (0, .fieldref 8 56), (0, .nameAndType 57 36), (0, u "OTHER"), (0, .fieldref 8 59), (0, .nameAndType 60 36), (0, u "HTTP"), (0, .fieldref 8 62), (0, .nameAndType 63 36), (0, u "GO"), (0, .fieldref 8 65), (0, .nameAndType 66 36), (0, u "PHP"), (0, .fieldref 8 68), (0, .nameAndType 69 36), (0, u "OMS"), (0, .fieldref 8 71), (0, .nameAndType 72 36), (0, u "RUST"), (0, .fieldref 8 74), (0, .nameAndType 75 36), (0, u "NODE_JS"), (2, u "law"), (0, u "(III)Z")] 3

def k1m0 : Method := { name := "<init>", desc := "()V", sig := { parameters := [], returnType := none }, accessFlags := 1, code := none }
def k1c1 : Code := { maxStack := 2, maxLocals := 6, code := code, exceptionTable := #[], attributes := #[] }
def k1m1 : Method := { name := "law", desc := "(III)Z", sig := { parameters := [.int, .int, .int], returnType := some .boolean }, accessFlags := 9, code := some k1c1 }
def k1c2 : Code := { maxStack := 2, maxLocals := 1, code := method_3_code, exceptionTable := #[], attributes := #[] }
def k1m2 : Method := { name := "expected", desc := "(I)Lcom/example/letters_over_wire/lettersoverwire/LanguageCode;", sig := { parameters := [.int], returnType := some (.object "com/example/letters_over_wire/lettersoverwire/LanguageCode") }, accessFlags := 10, code := some k1c2 }
/-- com/example/letters_over_wire/lettersoverwire/LanguageCodeForCodePinLaw -/
def k1 : Class := { plain "com/example/letters_over_wire/lettersoverwire/LanguageCodeForCodePinLaw" (some 0) with
  accessFlags := 49
  interfaces := #[]
  cf := some (fileOf pool1 14 #[] #[{ accessFlags := 1, nameIndex := 5, descriptorIndex := 6, attributes := #[] }, { accessFlags := 9, nameIndex := 78, descriptorIndex := 79, attributes := #[] }, { accessFlags := 10, nameIndex := 17, descriptorIndex := 18, attributes := #[] }] 49 2 #[] #[])
  fields := #[]
  methods := #[k1m0, k1m1, k1m2]
  instanceTypes := #[]
  staticTypes := #[]
  resolved := Array.replicate 83 none
  statics := none }

def pool2 : Array CpInfo := pool [(1, .class_ 2), (0, u "java/lang/constant/Constable"), (0, .class_ 4), (0, u "java/lang/Object")] 6

/-- java/lang/constant/Constable -/
def k2 : Class := { plain "java/lang/constant/Constable" (some 0) with
  accessFlags := 1537
  interfaces := #[]
  cf := some (fileOf pool2 1 #[] #[] 1537 3 #[] #[])
  fields := #[]
  methods := #[]
  instanceTypes := #[]
  staticTypes := #[]
  resolved := Array.replicate 11 none
  statics := none }

def pool3 : Array CpInfo := pool [(1, .class_ 2), (0, u "java/lang/Comparable"), (0, .class_ 4), (0, u "java/lang/Object")] 7

/-- java/lang/Comparable -/
def k3 : Class := { plain "java/lang/Comparable" (some 0) with
  accessFlags := 1537
  interfaces := #[]
  cf := some (fileOf pool3 1 #[] #[] 1537 3 #[] #[])
  fields := #[]
  methods := #[]
  instanceTypes := #[]
  staticTypes := #[]
  resolved := Array.replicate 12 none
  statics := none }

def pool4 : Array CpInfo := pool [(1, .class_ 2), (0, u "java/io/Serializable"), (0, .class_ 4), (0, u "java/lang/Object")] 2

/-- java/io/Serializable -/
def k4 : Class := { plain "java/io/Serializable" (some 0) with
  accessFlags := 1537
  interfaces := #[]
  cf := some (fileOf pool4 1 #[] #[] 1537 3 #[] #[])
  fields := #[]
  methods := #[]
  instanceTypes := #[]
  staticTypes := #[]
  resolved := Array.replicate 7 none
  statics := none }

def pool5 : Array CpInfo := pool [(2, .class_ 4), (1, u "java/lang/Enum"), (0, u "name"), (0, u "Ljava/lang/String;"), (2, u "ordinal"), (0, u "I"), (1, .class_ 14), (1, u "java/lang/Object"), (4, u "hash"), (86, .class_ 108), (1, u "java/lang/Enum$EnumDesc"), (2, .class_ 112), (0, u "java/lang/constant/Constable"), (0, .class_ 114), (0, u "java/lang/Comparable"), (0, .class_ 116), (0, u "java/io/Serializable")] 87

/-- java/lang/Enum -/
def k5 : Class := { plain "java/lang/Enum" (some 0) with
  accessFlags := 1057
  interfaces := #[2, 3, 4]
  cf := some (fileOf pool5 2 #[.nestMembers #[106]] #[] 1057 12 #[111, 113, 115] #[{ accessFlags := 18, nameIndex := 5, descriptorIndex := 6, attributes := #[] }, { accessFlags := 18, nameIndex := 9, descriptorIndex := 10, attributes := #[] }, { accessFlags := 2, nameIndex := 19, descriptorIndex := 10, attributes := #[] }])
  fields := #[{ name := "name", type := (.object "java/lang/String"), accessFlags := 18, slot := 0, constantValue := 0 }, { name := "ordinal", type := .int, accessFlags := 18, slot := 1, constantValue := 0 }, { name := "hash", type := .int, accessFlags := 2, slot := 2, constantValue := 0 }]
  methods := #[]
  instanceTypes := #[(.object "java/lang/String"), .int, .int]
  staticTypes := #[]
  resolved := Array.replicate 204 none
  statics := none }

def pool6 : Array CpInfo := pool [(1, .class_ 2), (0, u "com/example/letters_over_wire/lettersoverwire/LanguageCode"), (2, u "JAVA"), (0, u "Lcom/example/letters_over_wire/lettersoverwire/LanguageCode;"), (2, u "CPP"), (2, u "DOTNET"), (2, u "PYTHON"), (2, u "DELPHI"), (2, u "ERLANG"), (2, u "RUBY"), (2, u "OTHER"), (2, u "HTTP"), (2, u "GO"), (2, u "PHP"), (2, u "OMS"), (2, u "RUST"), (2, u "NODE_JS"), (2, u "$VALUES"), (0, u "[Lcom/example/letters_over_wire/lettersoverwire/LanguageCode;"), (6, .class_ 58), (1, u "java/lang/Enum"), (6, .fieldref 1 66), (0, .nameAndType 67 68), (0, u "code"), (0, u "I"), (0, .fieldref 1 70), (0, .nameAndType 71 49), (0, u "BY_CODE"), (0, .methodref 73 74), (0, .class_ 75), (0, .nameAndType 76 77), (0, u "java/util/Optional"), (0, u "empty"), (0, u "()Ljava/util/Optional;"), (0, .methodref 73 79), (0, .nameAndType 80 81), (0, u "ofNullable"), (0, u "(Ljava/lang/Object;)Ljava/util/Optional;"), (2, u "forCode"), (0, u "(I)Ljava/util/Optional;"), (51, u "()I")] 10

def k6c0 : Code := { maxStack := 1, maxLocals := 1, code := prog_12_method_4_code, exceptionTable := #[], attributes := #[] }
def k6m0 : Method := { name := "code", desc := "()I", sig := { parameters := [], returnType := some .int }, accessFlags := 1, code := some k6c0 }
def k6c1 : Code := { maxStack := 2, maxLocals := 1, code := prog_12_method_5_code, exceptionTable := #[], attributes := #[] }
def k6m1 : Method := { name := "forCode", desc := "(I)Ljava/util/Optional;", sig := { parameters := [.int], returnType := some (.object "java/util/Optional") }, accessFlags := 9, code := some k6c1 }
/-- com/example/letters_over_wire/lettersoverwire/LanguageCode -/
def k6 : Class := { plain "com/example/letters_over_wire/lettersoverwire/LanguageCode" (some 5) with
  accessFlags := 16433
  interfaces := #[]
  cf := some (fileOf pool6 1 #[] #[{ accessFlags := 1, nameIndex := 67, descriptorIndex := 137, attributes := #[] }, { accessFlags := 9, nameIndex := 84, descriptorIndex := 85, attributes := #[] }] 16433 56 #[] #[{ accessFlags := 16409, nameIndex := 5, descriptorIndex := 6, attributes := #[] }, { accessFlags := 16409, nameIndex := 9, descriptorIndex := 6, attributes := #[] }, { accessFlags := 16409, nameIndex := 12, descriptorIndex := 6, attributes := #[] }, { accessFlags := 16409, nameIndex := 15, descriptorIndex := 6, attributes := #[] }, { accessFlags := 16409, nameIndex := 18, descriptorIndex := 6, attributes := #[] }, { accessFlags := 16409, nameIndex := 21, descriptorIndex := 6, attributes := #[] }, { accessFlags := 16409, nameIndex := 24, descriptorIndex := 6, attributes := #[] }, { accessFlags := 16409, nameIndex := 27, descriptorIndex := 6, attributes := #[] }, { accessFlags := 16409, nameIndex := 30, descriptorIndex := 6, attributes := #[] }, { accessFlags := 16409, nameIndex := 33, descriptorIndex := 6, attributes := #[] }, { accessFlags := 16409, nameIndex := 36, descriptorIndex := 6, attributes := #[] }, { accessFlags := 16409, nameIndex := 39, descriptorIndex := 6, attributes := #[] }, { accessFlags := 16409, nameIndex := 42, descriptorIndex := 6, attributes := #[] }, { accessFlags := 16409, nameIndex := 45, descriptorIndex := 6, attributes := #[] }, { accessFlags := 26, nameIndex := 71, descriptorIndex := 49, attributes := #[] }, { accessFlags := 18, nameIndex := 67, descriptorIndex := 68, attributes := #[] }, { accessFlags := 4122, nameIndex := 48, descriptorIndex := 49, attributes := #[] }])
  fields := #[{ name := "JAVA", type := (.object "com/example/letters_over_wire/lettersoverwire/LanguageCode"), accessFlags := 16409, slot := 0, constantValue := 0 }, { name := "CPP", type := (.object "com/example/letters_over_wire/lettersoverwire/LanguageCode"), accessFlags := 16409, slot := 1, constantValue := 0 }, { name := "DOTNET", type := (.object "com/example/letters_over_wire/lettersoverwire/LanguageCode"), accessFlags := 16409, slot := 2, constantValue := 0 }, { name := "PYTHON", type := (.object "com/example/letters_over_wire/lettersoverwire/LanguageCode"), accessFlags := 16409, slot := 3, constantValue := 0 }, { name := "DELPHI", type := (.object "com/example/letters_over_wire/lettersoverwire/LanguageCode"), accessFlags := 16409, slot := 4, constantValue := 0 }, { name := "ERLANG", type := (.object "com/example/letters_over_wire/lettersoverwire/LanguageCode"), accessFlags := 16409, slot := 5, constantValue := 0 }, { name := "RUBY", type := (.object "com/example/letters_over_wire/lettersoverwire/LanguageCode"), accessFlags := 16409, slot := 6, constantValue := 0 }, { name := "OTHER", type := (.object "com/example/letters_over_wire/lettersoverwire/LanguageCode"), accessFlags := 16409, slot := 7, constantValue := 0 }, { name := "HTTP", type := (.object "com/example/letters_over_wire/lettersoverwire/LanguageCode"), accessFlags := 16409, slot := 8, constantValue := 0 }, { name := "GO", type := (.object "com/example/letters_over_wire/lettersoverwire/LanguageCode"), accessFlags := 16409, slot := 9, constantValue := 0 }, { name := "PHP", type := (.object "com/example/letters_over_wire/lettersoverwire/LanguageCode"), accessFlags := 16409, slot := 10, constantValue := 0 }, { name := "OMS", type := (.object "com/example/letters_over_wire/lettersoverwire/LanguageCode"), accessFlags := 16409, slot := 11, constantValue := 0 }, { name := "RUST", type := (.object "com/example/letters_over_wire/lettersoverwire/LanguageCode"), accessFlags := 16409, slot := 12, constantValue := 0 }, { name := "NODE_JS", type := (.object "com/example/letters_over_wire/lettersoverwire/LanguageCode"), accessFlags := 16409, slot := 13, constantValue := 0 }, { name := "BY_CODE", type := (.array (.object "com/example/letters_over_wire/lettersoverwire/LanguageCode")), accessFlags := 26, slot := 14, constantValue := 0 }, { name := "code", type := .int, accessFlags := 18, slot := 3, constantValue := 0 }, { name := "$VALUES", type := (.array (.object "com/example/letters_over_wire/lettersoverwire/LanguageCode")), accessFlags := 4122, slot := 15, constantValue := 0 }]
  methods := #[k6m0, k6m1]
  instanceTypes := #[(.object "java/lang/String"), .int, .int, .int]
  staticTypes := #[(.object "com/example/letters_over_wire/lettersoverwire/LanguageCode"), (.object "com/example/letters_over_wire/lettersoverwire/LanguageCode"), (.object "com/example/letters_over_wire/lettersoverwire/LanguageCode"), (.object "com/example/letters_over_wire/lettersoverwire/LanguageCode"), (.object "com/example/letters_over_wire/lettersoverwire/LanguageCode"), (.object "com/example/letters_over_wire/lettersoverwire/LanguageCode"), (.object "com/example/letters_over_wire/lettersoverwire/LanguageCode"), (.object "com/example/letters_over_wire/lettersoverwire/LanguageCode"), (.object "com/example/letters_over_wire/lettersoverwire/LanguageCode"), (.object "com/example/letters_over_wire/lettersoverwire/LanguageCode"), (.object "com/example/letters_over_wire/lettersoverwire/LanguageCode"), (.object "com/example/letters_over_wire/lettersoverwire/LanguageCode"), (.object "com/example/letters_over_wire/lettersoverwire/LanguageCode"), (.object "com/example/letters_over_wire/lettersoverwire/LanguageCode"), (.array (.object "com/example/letters_over_wire/lettersoverwire/LanguageCode")), (.array (.object "com/example/letters_over_wire/lettersoverwire/LanguageCode"))]
  resolved := Array.replicate 148 none
  statics := some 0 }

def pool7 : Array CpInfo := pool [(1, .fieldref 2 3), (0, .class_ 4), (0, .nameAndType 5 6), (0, u "java/util/Optional"), (0, u "EMPTY"), (0, u "Ljava/util/Optional;"), (0, .methodref 8 9), (0, .class_ 10), (0, .nameAndType 11 12), (0, u "java/lang/Object"), (0, u "<init>"), (0, u "()V"), (0, .fieldref 2 14), (0, .nameAndType 15 16), (0, u "value"), (0, u "Ljava/lang/Object;"), (6, .methodref 2 24), (0, .nameAndType 11 25), (0, u "(Ljava/lang/Object;)V"), (20, u "()Z"), (8, u "empty"), (0, u "()Ljava/util/Optional;"), (7, u "ofNullable"), (0, u "(Ljava/lang/Object;)Ljava/util/Optional;"), (2, u "isPresent"), (4, u "get"), (0, u "()Ljava/lang/Object;")] 112

def k7c0 : Code := { maxStack := 1, maxLocals := 1, code := jdk_32_method_1_code, exceptionTable := #[], attributes := #[] }
def k7m0 : Method := { name := "empty", desc := "()Ljava/util/Optional;", sig := { parameters := [], returnType := some (.object "java/util/Optional") }, accessFlags := 9, code := some k7c0 }
def k7c1 : Code := { maxStack := 2, maxLocals := 2, code := jdk_32_method_2_code, exceptionTable := #[], attributes := #[] }
def k7m1 : Method := { name := "<init>", desc := "(Ljava/lang/Object;)V", sig := { parameters := [(.object "java/lang/Object")], returnType := none }, accessFlags := 2, code := some k7c1 }
def k7c2 : Code := { maxStack := 3, maxLocals := 1, code := jdk_32_method_4_code, exceptionTable := #[], attributes := #[] }
def k7m2 : Method := { name := "ofNullable", desc := "(Ljava/lang/Object;)Ljava/util/Optional;", sig := { parameters := [(.object "java/lang/Object")], returnType := some (.object "java/util/Optional") }, accessFlags := 9, code := some k7c2 }
def k7c3 : Code := { maxStack := 3, maxLocals := 1, code := jdk_32_method_5_code, exceptionTable := #[], attributes := #[] }
def k7m3 : Method := { name := "get", desc := "()Ljava/lang/Object;", sig := { parameters := [], returnType := some (.object "java/lang/Object") }, accessFlags := 1, code := some k7c3 }
def k7c4 : Code := { maxStack := 1, maxLocals := 1, code := jdk_32_method_6_code, exceptionTable := #[], attributes := #[] }
def k7m4 : Method := { name := "isPresent", desc := "()Z", sig := { parameters := [], returnType := some .boolean }, accessFlags := 1, code := some k7c4 }
/-- java/util/Optional -/
def k7 : Class := { plain "java/util/Optional" (some 0) with
  accessFlags := 49
  interfaces := #[]
  cf := some (fileOf pool7 2 #[] #[{ accessFlags := 9, nameIndex := 55, descriptorIndex := 56, attributes := #[] }, { accessFlags := 2, nameIndex := 11, descriptorIndex := 25, attributes := #[] }, { accessFlags := 9, nameIndex := 64, descriptorIndex := 65, attributes := #[] }, { accessFlags := 1, nameIndex := 73, descriptorIndex := 74, attributes := #[] }, { accessFlags := 1, nameIndex := 68, descriptorIndex := 46, attributes := #[] }] 49 8 #[] #[{ accessFlags := 26, nameIndex := 5, descriptorIndex := 6, attributes := #[] }, { accessFlags := 18, nameIndex := 15, descriptorIndex := 16, attributes := #[] }])
  fields := #[{ name := "EMPTY", type := (.object "java/util/Optional"), accessFlags := 26, slot := 0, constantValue := 0 }, { name := "value", type := (.object "java/lang/Object"), accessFlags := 18, slot := 0, constantValue := 0 }]
  methods := #[k7m0, k7m1, k7m2, k7m3, k7m4]
  instanceTypes := #[(.object "java/lang/Object")]
  staticTypes := #[(.object "java/util/Optional")]
  resolved := Array.replicate 187 none
  statics := some 1 }

def pool8 : Array CpInfo := pool [(1, u "java/lang/Cloneable"), (0, .class_ 1), (0, u "java/lang/Object"), (0, .class_ 3)] 3

/-- java/lang/Cloneable -/
def k8 : Class := { plain "java/lang/Cloneable" (some 0) with
  accessFlags := 1537
  interfaces := #[]
  cf := some (fileOf pool8 2 #[] #[] 1537 4 #[] #[])
  fields := #[]
  methods := #[]
  instanceTypes := #[]
  staticTypes := #[]
  resolved := Array.replicate 8 none
  statics := none }

/-- the primitive byte -/
def k9 : Class := { plain "byte" none with kind := .primitive 'B', accessFlags := 0x411 }
/-- [B -/
def k10 : Class := { plain "[B" (some 0) with kind := .array 9 .byte, interfaces := #[8, 4], accessFlags := 1041 }

/-- the primitive int -/
def k11 : Class := { plain "int" none with kind := .primitive 'I', accessFlags := 0x411 }
/-- [I -/
def k12 : Class := { plain "[I" (some 0) with kind := .array 11 .int, interfaces := #[8, 4], accessFlags := 1041 }

/-- [Lcom/example/letters_over_wire/lettersoverwire/LanguageCode; -/
def k13 : Class := { plain "[Lcom/example/letters_over_wire/lettersoverwire/LanguageCode;" (some 0) with kind := .array 6 (.object "com/example/letters_over_wire/lettersoverwire/LanguageCode"), interfaces := #[8, 4], accessFlags := 1041 }

def heap : Heap := #[{ cls := 6, slots := #[.ref 6, .ref 4, .ref 3, .ref 7, .ref 9, .ref 11, .ref 10, .ref 8, .ref 5, .ref 13, .ref 14, .ref 15, .ref 16, .ref 12, .ref 2, .null], vm := .statics 6 },
  { cls := 7, slots := #[.ref 17], vm := .statics 7 },
  { cls := 13, slots := #[.ref 6, .ref 4, .ref 3, .ref 7, .ref 9, .ref 11, .ref 10, .ref 8, .ref 5, .ref 13, .ref 14, .ref 15, .ref 16, .ref 12], vm := .none },
  { cls := 6, slots := #[.null, .int 0, .int 0, .int 2], vm := .none },
  { cls := 6, slots := #[.null, .int 0, .int 0, .int 1], vm := .none },
  { cls := 6, slots := #[.null, .int 0, .int 0, .int 8], vm := .none },
  { cls := 6, slots := #[.null, .int 0, .int 0, .int 0], vm := .none },
  { cls := 6, slots := #[.null, .int 0, .int 0, .int 3], vm := .none },
  { cls := 6, slots := #[.null, .int 0, .int 0, .int 7], vm := .none },
  { cls := 6, slots := #[.null, .int 0, .int 0, .int 4], vm := .none },
  { cls := 6, slots := #[.null, .int 0, .int 0, .int 6], vm := .none },
  { cls := 6, slots := #[.null, .int 0, .int 0, .int 5], vm := .none },
  { cls := 6, slots := #[.null, .int 0, .int 0, .int 13], vm := .none },
  { cls := 6, slots := #[.null, .int 0, .int 0, .int 9], vm := .none },
  { cls := 6, slots := #[.null, .int 0, .int 0, .int 10], vm := .none },
  { cls := 6, slots := #[.null, .int 0, .int 0, .int 11], vm := .none },
  { cls := 6, slots := #[.null, .int 0, .int 0, .int 12], vm := .none },
  { cls := 7, slots := #[.null], vm := .none }]
def classes : Array Class := #[k0, k1, k2, k3, k4, k5, k6, k7, k8, k9, k10, k11, k12, k13]
def interned : List (Array UInt16 × Addr) := []
def slotsUsed : Nat := 88
def theMethod : MethodId := ⟨1, 1⟩
def args0 : Array Value := #[.int 3, .int 4, .int 1]
def aboutOver (below : List Frame) : State where
  vm := { classes := classes, interned := interned.toArray }
  heap := heap
  slotsUsed := slotsUsed
  threads := #[{ frames := .invoking theMethod args0 :: below }]
def below0 : List Frame := [.native { method := ⟨0, 0⟩, args := #[] }]
def about1 : State := aboutOver below0
def p0 : Program := .bare "" "" ""
def e0 : Env := launch0.env 0 0 0
theorem w_frames : about1.frames = Frame.invoking theMethod args0 :: below0 := rfl
set_option maxRecDepth 65536 in
theorem w_args : argsFit about1.vm theMethod args0 = true := by decide +kernel
set_option maxRecDepth 65536 in
theorem w_heap : heapFits about1 = true := by decide +kernel
set_option maxRecDepth 65536 in
theorem w_runnable : about1.curStatus? = some .runnable := by decide +kernel
set_option maxRecDepth 65536 in
theorem w_alone : about1.alone = true := by decide +kernel
set_option maxRecDepth 65536 in
theorem w_named : about1.methodNamed? x = some theMethod := by decide +kernel
set_option maxRecDepth 65536 in
theorem w_hears : about1.hears theMethod below0 = true := by decide +kernel
set_option maxRecDepth 65536 in
theorem w_ripe : about1.ripe theMethod args0 below0 = true := by decide +kernel
theorem w_running : about1.status = .running := rfl
set_option maxRecDepth 65536 in
theorem w_room : about1.hasRoom e0.platform room_1 = true :=
  launch0.hasRoom_least _ room_1 (by decide +kernel) (by decide +kernel) (by decide +kernel) (by decide +kernel) (by decide +kernel) (by decide +kernel)
theorem allAtoms_all (ts : List Jvm.Cond) (a : Array Jvm.Value) (st : Jvm.State) : (allAtoms ts).before a st = ts.all (fun c => c.before a st) := by
  induction ts with
  | nil => rfl
  | cons c t ih =>
    show (Jvm.Cond.and c (allAtoms t)).before a st = _
    rw [Jvm.Cond.before_and, ih, List.all_cons]
def words1 : List Jvm.Cond := Jvm.Cond.code x code maxLocals ret :: tables_1
/-- a 'code' word, met by the world's own term for the bytes: nothing is compared byte by byte -/
theorem code_word {y : MethodName} {bytes : ByteArray} {mx : Nat} {rt : Option FieldType} {a : Array Value} {s : State} {m : MethodId} {meth : Method} {c : Code} (h1 : s.methodNamed? y = some m) (h2 : s.vm.method? m = some meth) (h3 : meth.code = some c) (h4 : c.code = bytes)
    (h5 : (c.maxLocals == mx && c.exceptionTable.isEmpty && decide (c.maxStack ≤ mostOperands) && decide (meth.sig.returnType = rt) && !meth.locks && decide (parseMethodDescriptor y.desc = some meth.sig)) = true) : (Jvm.Cond.code y bytes mx rt).before a s = true := by
  simp only [Bool.and_eq_true, beq_iff_eq, Bool.not_eq_true', decide_eq_true_eq] at h5
  obtain ⟨⟨⟨⟨⟨g1, g2⟩, g3⟩, g4⟩, g5⟩, g6⟩ := h5
  simp [Cond.before, Cond.holds, Cond.value, h1, h2, h3, h4, g1, g2, g3, g4, g5, g6]
def isCode : Jvm.Cond → Bool
  | .code _ _ _ _ => true
  | _ => false
theorem all_split {L : List Jvm.Cond} {P : Jvm.Cond → Bool} (h1 : L.all (fun c => isCode c || P c) = true) (h2 : ∀ c ∈ L.filter isCode, P c = true) : L.all P = true := by
  refine List.all_eq_true.mpr fun c hc => ?_
  have h := List.all_eq_true.mp h1 c hc
  rcases Bool.eq_false_or_eq_true (isCode c) with hi | hi
  · exact h2 c (List.mem_filter.mpr ⟨hc, hi⟩)
  · simpa [hi] using h
set_option maxRecDepth 65536 in
theorem w_c0 : (Jvm.Cond.code x code maxLocals ret).before args0 about1 = true := code_word (m := ⟨1, 1⟩) (meth := k1m1) (c := k1c1) (by decide +kernel) rfl rfl rfl (by decide +kernel)
set_option maxRecDepth 65536 in
theorem w_c1 : (Jvm.Cond.code ({ cls := "com/example/letters_over_wire/lettersoverwire/LanguageCode", name := "forCode", desc := "(I)Ljava/util/Optional;" } : Jvm.MethodName) prog_12_method_5_code (1 : Nat) (Option.some (Jvm.ClassFile.FieldType.object "java/util/Optional"))).before args0 about1 = true := code_word (m := ⟨6, 1⟩) (meth := k6m1) (c := k6c1) (by decide +kernel) rfl rfl rfl (by decide +kernel)
set_option maxRecDepth 65536 in
theorem w_c2 : (Jvm.Cond.code ({ cls := "java/util/Optional", name := "ofNullable", desc := "(Ljava/lang/Object;)Ljava/util/Optional;" } : Jvm.MethodName) jdk_32_method_4_code (1 : Nat) (Option.some (Jvm.ClassFile.FieldType.object "java/util/Optional"))).before args0 about1 = true := code_word (m := ⟨7, 2⟩) (meth := k7m2) (c := k7c2) (by decide +kernel) rfl rfl rfl (by decide +kernel)
set_option maxRecDepth 65536 in
theorem w_c3 : (Jvm.Cond.code ({ cls := "java/util/Optional", name := "<init>", desc := "(Ljava/lang/Object;)V" } : Jvm.MethodName) jdk_32_method_2_code (2 : Nat) (Option.none : Option Jvm.ClassFile.FieldType)).before args0 about1 = true := code_word (m := ⟨7, 1⟩) (meth := k7m1) (c := k7c1) (by decide +kernel) rfl rfl rfl (by decide +kernel)
set_option maxRecDepth 65536 in
theorem w_c4 : (Jvm.Cond.code ({ cls := "java/lang/Object", name := "<init>", desc := "()V" } : Jvm.MethodName) object_method_1_code (1 : Nat) (Option.none : Option Jvm.ClassFile.FieldType)).before args0 about1 = true := code_word (m := ⟨0, 0⟩) (meth := k0m0) (c := k0c0) (by decide +kernel) rfl rfl rfl (by decide +kernel)
set_option maxRecDepth 65536 in
theorem w_c5 : (Jvm.Cond.code ({ cls := "com/example/letters_over_wire/lettersoverwire/LanguageCodeForCodePinLaw", name := "expected", desc := "(I)Lcom/example/letters_over_wire/lettersoverwire/LanguageCode;" } : Jvm.MethodName) method_3_code (1 : Nat) (Option.some (Jvm.ClassFile.FieldType.object "com/example/letters_over_wire/lettersoverwire/LanguageCode"))).before args0 about1 = true := code_word (m := ⟨1, 2⟩) (meth := k1m2) (c := k1c2) (by decide +kernel) rfl rfl rfl (by decide +kernel)
set_option maxRecDepth 65536 in
theorem w_c6 : (Jvm.Cond.code ({ cls := "java/util/Optional", name := "isPresent", desc := "()Z" } : Jvm.MethodName) jdk_32_method_6_code (1 : Nat) (Option.some Jvm.ClassFile.FieldType.boolean)).before args0 about1 = true := code_word (m := ⟨7, 4⟩) (meth := k7m4) (c := k7c4) (by decide +kernel) rfl rfl rfl (by decide +kernel)
set_option maxRecDepth 65536 in
theorem w_c7 : (Jvm.Cond.code ({ cls := "java/util/Optional", name := "get", desc := "()Ljava/lang/Object;" } : Jvm.MethodName) jdk_32_method_5_code (1 : Nat) (Option.some (Jvm.ClassFile.FieldType.object "java/lang/Object"))).before args0 about1 = true := code_word (m := ⟨7, 3⟩) (meth := k7m3) (c := k7c3) (by decide +kernel) rfl rfl rfl (by decide +kernel)
set_option maxRecDepth 65536 in
theorem w_c8 : (Jvm.Cond.code ({ cls := "com/example/letters_over_wire/lettersoverwire/LanguageCode", name := "code", desc := "()I" } : Jvm.MethodName) prog_12_method_4_code (1 : Nat) (Option.some Jvm.ClassFile.FieldType.int)).before args0 about1 = true := code_word (m := ⟨6, 0⟩) (meth := k6m0) (c := k6c0) (by decide +kernel) rfl rfl rfl (by decide +kernel)
set_option maxRecDepth 65536 in
theorem w_c9 : (Jvm.Cond.code ({ cls := "java/util/Optional", name := "empty", desc := "()Ljava/util/Optional;" } : Jvm.MethodName) jdk_32_method_1_code (1 : Nat) (Option.some (Jvm.ClassFile.FieldType.object "java/util/Optional"))).before args0 about1 = true := code_word (m := ⟨7, 0⟩) (meth := k7m0) (c := k7c0) (by decide +kernel) rfl rfl rfl (by decide +kernel)
def codes1 : List Jvm.Cond := [Jvm.Cond.code x code maxLocals ret, Jvm.Cond.code ({ cls := "com/example/letters_over_wire/lettersoverwire/LanguageCode", name := "forCode", desc := "(I)Ljava/util/Optional;" } : Jvm.MethodName) prog_12_method_5_code (1 : Nat) (Option.some (Jvm.ClassFile.FieldType.object "java/util/Optional")), Jvm.Cond.code ({ cls := "java/util/Optional", name := "ofNullable", desc := "(Ljava/lang/Object;)Ljava/util/Optional;" } : Jvm.MethodName) jdk_32_method_4_code (1 : Nat) (Option.some (Jvm.ClassFile.FieldType.object "java/util/Optional")), Jvm.Cond.code ({ cls := "java/util/Optional", name := "<init>", desc := "(Ljava/lang/Object;)V" } : Jvm.MethodName) jdk_32_method_2_code (2 : Nat) (Option.none : Option Jvm.ClassFile.FieldType), Jvm.Cond.code ({ cls := "java/lang/Object", name := "<init>", desc := "()V" } : Jvm.MethodName) object_method_1_code (1 : Nat) (Option.none : Option Jvm.ClassFile.FieldType), Jvm.Cond.code ({ cls := "com/example/letters_over_wire/lettersoverwire/LanguageCodeForCodePinLaw", name := "expected", desc := "(I)Lcom/example/letters_over_wire/lettersoverwire/LanguageCode;" } : Jvm.MethodName) method_3_code (1 : Nat) (Option.some (Jvm.ClassFile.FieldType.object "com/example/letters_over_wire/lettersoverwire/LanguageCode")), Jvm.Cond.code ({ cls := "java/util/Optional", name := "isPresent", desc := "()Z" } : Jvm.MethodName) jdk_32_method_6_code (1 : Nat) (Option.some Jvm.ClassFile.FieldType.boolean), Jvm.Cond.code ({ cls := "java/util/Optional", name := "get", desc := "()Ljava/lang/Object;" } : Jvm.MethodName) jdk_32_method_5_code (1 : Nat) (Option.some (Jvm.ClassFile.FieldType.object "java/lang/Object")), Jvm.Cond.code ({ cls := "com/example/letters_over_wire/lettersoverwire/LanguageCode", name := "code", desc := "()I" } : Jvm.MethodName) prog_12_method_4_code (1 : Nat) (Option.some Jvm.ClassFile.FieldType.int), Jvm.Cond.code ({ cls := "java/util/Optional", name := "empty", desc := "()Ljava/util/Optional;" } : Jvm.MethodName) jdk_32_method_1_code (1 : Nat) (Option.some (Jvm.ClassFile.FieldType.object "java/util/Optional"))]
set_option maxRecDepth 65536 in
theorem codes_eq : words1.filter isCode = codes1 := rfl
theorem w_codes : ∀ c ∈ words1.filter isCode, c.before args0 about1 = true := by
  rw [codes_eq]
  intro c hc
  simp only [codes1, List.mem_cons, List.not_mem_nil, or_false] at hc
  rcases hc with rfl | rfl | rfl | rfl | rfl | rfl | rfl | rfl | rfl | rfl
  · exact w_c0
  · exact w_c1
  · exact w_c2
  · exact w_c3
  · exact w_c4
  · exact w_c5
  · exact w_c6
  · exact w_c7
  · exact w_c8
  · exact w_c9
set_option maxRecDepth 65536 in
theorem w_t1 : (words1.take 24).all (fun c => isCode c || c.before args0 about1) = true := by decide +kernel
set_option maxRecDepth 65536 in
theorem w_t2 : ((words1.drop 24).take 24).all (fun c => isCode c || c.before args0 about1) = true := by decide +kernel
set_option maxRecDepth 65536 in
theorem w_t3 : (((words1.drop 24).drop 24).take 24).all (fun c => isCode c || c.before args0 about1) = true := by decide +kernel
set_option maxRecDepth 65536 in
theorem w_t4 : (((words1.drop 24).drop 24).drop 24).all (fun c => isCode c || c.before args0 about1) = true := by decide +kernel
theorem w_tables : (allAtoms (Jvm.Cond.code x code maxLocals ret :: tables_1)).before args0 about1 = true := by
  rw [allAtoms_all]
  show words1.all (fun c => c.before args0 about1) = true
  refine all_split ?_ w_codes
  rw [← List.take_append_drop 24 words1, List.all_append, w_t1, ← List.take_append_drop 24 (words1.drop 24), List.all_append, w_t2, ← List.take_append_drop 24 ((words1.drop 24).drop 24), List.all_append, w_t3, w_t4]
  rfl
set_option maxRecDepth 65536 in
theorem w_rest : rest_1_c.before args0 about1 = true := by decide +kernel
set_option maxRecDepth 65536 in
theorem w_case : (Jvm.Cond.and given_1 narrow_1).before args0 about1 = true := by decide +kernel
theorem w_applies : (headSpec (Jvm.Cond.code x code maxLocals ret :: tables_1) room_1).applies x e0.platform about1 = true :=
  (Spec.applies_iff w_frames).mpr ⟨w_running, w_runnable, w_alone, w_named, w_hears, w_ripe, w_room, w_tables⟩
theorem atStart : AtStart classFile x code maxLocals ret World_1 tables_1 room_1 Calls_1 rest_1 Pre_1 launch0 p0 e0 about1 theMethod args0 below0 :=
  ⟨lists_1, trivial, launch0.admits_env _ _ _, launch0.least_env, fairChoices_fair.cas, fairChoices_fair.clock, w_frames, w_args, w_heap, w_applies, trivial, w_rest, w_case⟩
end start1
theorem witness_1 : WitnessClaimed_1 := ⟨start1.p0, start1.e0, start1.about1, start1.theMethod, start1.args0, start1.below0, start1.atStart⟩
end Jvm.Pilot.@@N@@
