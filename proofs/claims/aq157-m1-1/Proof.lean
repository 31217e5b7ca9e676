import JvmDerived
import JvmDerived.Pilot.@@N@@Statement
import JvmDerived.Pilot.@@N@@Code
set_option linter.unusedVariables false
set_option linter.unusedSimpArgs false
namespace Jvm.Pilot.@@N@@
open Jvm Jvm.ClassFile Sem Op Lib Jvm.Free Jvm.Stand Jvm.LawKit Jvm.RoadKit Bundle Jvm.Pilot.@@N@@.Jvm.D
section OwnLayer
variable {p : Program} {l : Launch} {e : Env} {R : Room} {s : State} {m : MethodId} {args : Array Value} {below : List Frame} {meth : Method} {c : Code} {T T' : State} {locs : List Loc} {cells slots : Nat} {K N : Nat} {Q : Option Value → Heap → List Loc → Prop}
/-- from the frame g over the state T the body comes to its end, and Q holds there -/
def Go (p : Program) (e : Env) (below : List Frame) (s : State) (K N : Nat) (Q : Option Value → Heap → List Loc → Prop) (T : State) (g : JFrame) : Prop :=
  ∃ s₂ o, Steps p.tables e below (T.setTop g) s₂ ∧ s₂.status = .running ∧ Ended s₂ below o ∧ ∃ v L, o = .returned v ∧ Q v s₂.heap L ∧ FrameEnd s o s₂ L K N
theorem own_via {g g' : JFrame} (k : Go p e below s K N Q T' g') (h : ∀ t, Steps p.tables e below (T'.setTop g') t → Steps p.tables e below (T.setTop g) t) : Go p e below s K N Q T g := by
  obtain ⟨a, b, h1, r⟩ := k; exact ⟨a, b, h _ h1, r⟩
theorem own_join {g g' : JFrame} (k : Go p e below s K N Q T' g') (h : Steps p.tables e below (T.setTop g) (T'.setTop g')) : Go p e below s K N Q T g := own_via k fun _ q => h.trans q
theorem own_cast {g g' : JFrame} (q : g = g') (k : Go p e below s K N Q T g') : Go p e below s K N Q T g := q ▸ k
theorem own_ret (X : Stand p l e R s m args below meth c T locs cells slots) (hx : p.tables.exec = Jvm.exec) {pc : Nat} {Ls : Array Slot} {w : Value} {t : FieldType} {i : Instr} {rest : List Value} (hret : meth.sig.returnType = some t) (hlocks : meth.locks = false) (hn : narrow t w = w)
    (hi : (i = .ireturn ∧ (t = .int ∨ t = .boolean ∨ t = .byte ∨ t = .char ∨ t = .short) ∧ ∃ z, w = .int z) ∨ (i = .lreturn ∧ t = .long ∧ ∃ z, w = .long z) ∨ (i = .dreturn ∧ t = .double ∧ ∃ z, w = .double z) ∨ (i = .freturn ∧ t = .float ∧ ∃ z, w = .float z) ∨ (i = .areturn ∧ t.isReference = true ∧ w.isRef = true))
    (hd : decode c.code pc = .ok (i, 1)) (hq : Q (some w) T.heap locs) (hk : cells ≤ K) (hs : slots ≤ N) : Go p e below s K N Q T (mkF m pc Ls (w :: rest)) := by
  obtain ⟨fs, hr, hrun, hended, hW, hsame⟩ := X.leave (v := some w) (fun h => by rw [hret] at h; cases h) (hlocks := hlocks)
  exact ⟨_, _, retOut X hx hret hn hi hd hr, hrun, hended, _, _, rfl, hq, ⟨_, rfl⟩, hW, hsame.mono hk hs⟩
theorem own_retI (X : Stand p l e R s m args below meth c T locs cells slots) (hx : p.tables.exec = Jvm.exec) {pc : Nat} {Ls : Array Slot} {z : Int32} {rest : List Value} (hret : meth.sig.returnType = some .int) (hlocks : meth.locks = false)
    (hd : decode c.code pc = .ok (.ireturn, 1)) (hk : cells ≤ K) (hs : slots ≤ N) (hq : Q (some (.int z)) T.heap locs) : Go p e below s K N Q T (mkF m pc Ls (.int z :: rest)) :=
  own_ret X hx hret hlocks rfl (Or.inl ⟨rfl, Or.inl rfl, _, rfl⟩) hd hq hk hs
theorem own_retJ (X : Stand p l e R s m args below meth c T locs cells slots) (hx : p.tables.exec = Jvm.exec) {pc : Nat} {Ls : Array Slot} {z : Int64} {rest : List Value} (hret : meth.sig.returnType = some .long) (hlocks : meth.locks = false)
    (hd : decode c.code pc = .ok (.lreturn, 1)) (hk : cells ≤ K) (hs : slots ≤ N) (hq : Q (some (.long z)) T.heap locs) : Go p e below s K N Q T (mkF m pc Ls (.long z :: rest)) :=
  own_ret X hx hret hlocks rfl (Or.inr (Or.inl ⟨rfl, rfl, _, rfl⟩)) hd hq hk hs
theorem own_retR (X : Stand p l e R s m args below meth c T locs cells slots) (hx : p.tables.exec = Jvm.exec) {pc : Nat} {Ls : Array Slot} {w : Value} {t : FieldType} {rest : List Value} (hret : meth.sig.returnType = some t) (hlocks : meth.locks = false) (ht : t.isReference = true) (hw : w.isRef = true)
    (hd : decode c.code pc = .ok (.areturn, 1)) (hk : cells ≤ K) (hs : slots ≤ N) (hq : Q (some w) T.heap locs) : Go p e below s K N Q T (mkF m pc Ls (w :: rest)) :=
  own_ret X hx hret hlocks (by rcases ref_cases hw with rfl | ⟨a, rfl⟩ <;> cases t <;> rfl) (Or.inr (Or.inr (Or.inr (Or.inr ⟨rfl, ht, hw⟩)))) hd hq hk hs
theorem own_retZ (X : Stand p l e R s m args below meth c T locs cells slots) (hx : p.tables.exec = Jvm.exec) {pc : Nat} {Ls : Array Slot} {z z' : Int32} {rest : List Value} (hret : meth.sig.returnType = some .boolean) (hlocks : meth.locks = false)
    (hd : decode c.code pc = .ok (.ireturn, 1)) (hz : nar .boolean z = z') (hk : cells ≤ K) (hs : slots ≤ N) (hq : Q (some (.int z')) T.heap locs) : Go p e below s K N Q T (mkF m pc Ls (.int z :: rest)) := by
  subst hz
  obtain ⟨fs, hr, hrun, hended, hW, hsame⟩ := X.leave (v := some (.int (nar .boolean z))) (fun h => by rw [hret] at h; cases h) (hlocks := hlocks)
  exact ⟨_, _, retN X hx (t := .boolean) hret (Or.inl rfl) hd hr, hrun, hended, _, _, rfl, hq, ⟨_, rfl⟩, hW, hsame.mono hk hs⟩
theorem own_retV (X : Stand p l e R s m args below meth c T locs cells slots) (hx : p.tables.exec = Jvm.exec) {pc : Nat} {Ls : Array Slot} (hret : meth.sig.returnType = none) (hlocks : meth.locks = false)
    (hd : decode c.code pc = .ok (.return_, 1)) (hk : cells ≤ K) (hs : slots ≤ N) (hq : Q none T.heap locs) : Go p e below s K N Q T (mkF m pc Ls []) := by
  obtain ⟨fs, hr, hrun, hended, hW, hsame⟩ := X.leave (v := none) (fun _ => rfl) (hlocks := hlocks)
  exact ⟨_, _, X.returnOut hx hret hd hr, hrun, hended, _, _, rfl, hq, ⟨_, rfl⟩, hW, hsame.mono hk hs⟩
/-- the int of a truth value -/
def bi (P : Prop) [Decidable P] : Int32 := if P then 1 else 0
theorem bi_t {P : Prop} [Decidable P] (h : P) : bi P = 1 := if_pos h
theorem bi_f {P : Prop} [Decidable P] (h : ¬ P) : bi P = 0 := if_neg h
theorem bi_0 {P : Prop} [Decidable P] : bi P = 0 ↔ ¬ P := by unfold bi; split <;> simp_all
theorem bi_1 {P : Prop} [Decidable P] : bi P = 1 ↔ P := by unfold bi; split <;> simp_all
theorem bi_nar {P : Prop} [Decidable P] : nar .boolean (bi P) = bi P := by unfold bi; split <;> rfl
theorem bi_iff {P P' : Prop} [Decidable P] [Decidable P'] (h : P ↔ P') : bi P = bi P' := by unfold bi; simp only [h]
theorem bi_eq {P P' : Prop} [Decidable P] [Decidable P'] : bi P = bi P' ↔ (P ↔ P') := by unfold bi; split <;> split <;> simp_all
end OwnLayer
section OwnWords
variable {args : Array Value} {s : State} {t : Term} {C n d : String} {x : Addr}
theorem own_fldV {v : Value} (ht : t.eval args s none [] s = some (.ref x)) (h : (Term.field t C n d).eval args s none [] s = some v) : Fld s s.heap x C n d v :=
  Fld.start ((fld_at (C := C) (n := n) (dd := d) ht).symm.trans h)
theorem own_fldI {z : Int32} (ht : t.eval args s none [] s = some (.ref x)) (h : (Cond.eq (.field t C n d) (.int z)).value args s none s [] = some true) : Fld s s.heap x C n d (.int z) := own_fldV ht (eqv_i rfl h)
theorem own_fldJ {z : Int64} (ht : t.eval args s none [] s = some (.ref x)) (h : (Cond.eq (.field t C n d) (.long z)).value args s none s [] = some true) : Fld s s.heap x C n d (.long z) := own_fldV ht (eqv_l rfl h)
end OwnWords
theorem own_narB (P : Prop) [Decidable P] : narrow .boolean (.int (bi P)) = .int (bi P) := by unfold bi; split <;> rfl
theorem own_fitB (P : Prop) [Decidable P] : fits .boolean (.int (bi P)) = true := by unfold bi; split <;> rfl
theorem own_narR {w : Value} {t : FieldType} (hw : w.isRef = true) : narrow t w = w := by rcases ref_cases hw with rfl | ⟨a, rfl⟩ <;> cases t <;> rfl
theorem own_eqR {args : Array Value} {s : State} {a b : Term} {r : Addr} (hb : b.eval args s none [] s = some (.ref r)) (h : (Cond.eq a b).value args s none s [] = some true) : a.eval args s none [] s = some (.ref r) := by
  cases ha : a.eval args s none [] s with
  | none => simp [Cond.value, ha] at h
  | some x => cases x <;> simp [Cond.value, ha, hb] at h ⊢; exact h
theorem pn0 : plainName "com/example/parley/parley/Status" = true := by first | (simp [plainName, overriddenIn]; done) | decide +kernel
theorem pn1 : plainName "com/example/parley/parley/StatusIsTerminalPinLaw" = true := by first | (simp [plainName, overriddenIn]; done) | decide +kernel
theorem pd0 : parseMethodDescriptor "(I)Z" = some ⟨[.int], some .boolean⟩ := by decide +kernel
theorem pd1 : parseMethodDescriptor "(I)Lcom/example/parley/parley/Status;" = some ⟨[.int], some (.object "com/example/parley/parley/Status")⟩ := by decide +kernel
theorem pd2 : parseMethodDescriptor "()I" = some ⟨[], some .int⟩ := by decide +kernel
def cd (i : Int32) : Int32 := if i = (0 : Int32) then (100 : Int32) else if i = (1 : Int32) then (200 : Int32) else if i = (2 : Int32) then (205 : Int32) else if i = (3 : Int32) then (400 : Int32) else if i = (4 : Int32) then (403 : Int32) else if i = (5 : Int32) then (404 : Int32) else if i = (6 : Int32) then (417 : Int32) else (500 : Int32)
theorem cd_or (i : Int32) : (i = 0 ∧ cd i = 100) ∨ (i = 1 ∧ cd i = 200) ∨ (i = 2 ∧ cd i = 205) ∨ (i = 3 ∧ cd i = 400) ∨ (i = 4 ∧ cd i = 403) ∨ (i = 5 ∧ cd i = 404) ∨ (i = 6 ∧ cd i = 417) ∨ (¬ i = 2 ∧ ¬ i = 6 ∧ cd i = 500) := by
  unfold cd
  by_cases h0 : i = 0
  · subst h0; decide
  by_cases h1 : i = 1
  · subst h1; decide
  by_cases h2 : i = 2
  · subst h2; decide
  by_cases h3 : i = 3
  · subst h3; decide
  by_cases h4 : i = 4
  · subst h4; decide
  by_cases h5 : i = 5
  · subst h5; decide
  by_cases h6 : i = 6
  · subst h6; decide
  simp [h0, h1, h2, h3, h4, h5, h6]
theorem cd_t {i : Int32} (h : i = 2 ∨ i = 6) : cd i = (205 : Int32) ∨ cd i = (417 : Int32) := by
  rcases h with rfl | rfl <;> decide
theorem cd_f {i : Int32} (h2 : ¬ i = (2 : Int32)) (h6 : ¬ i = (6 : Int32)) : ¬ (cd i = (205 : Int32) ∨ cd i = (417 : Int32)) := by
  rcases cd_or i with ⟨rfl, h⟩ | ⟨rfl, h⟩ | ⟨rfl, h⟩ | ⟨rfl, h⟩ | ⟨rfl, h⟩ | ⟨rfl, h⟩ | ⟨rfl, h⟩ | ⟨-, -, h⟩ <;> first | exact absurd rfl h2 | exact absurd rfl h6 | (rw [h]; decide)
theorem cd_up (i : Int32) : ¬ ((cd i + (1 : Int32)) = (205 : Int32) ∨ (cd i + (1 : Int32)) = (417 : Int32)) := by
  rcases cd_or i with ⟨-, h⟩ | ⟨-, h⟩ | ⟨-, h⟩ | ⟨-, h⟩ | ⟨-, h⟩ | ⟨-, h⟩ | ⟨-, h⟩ | ⟨-, -, h⟩ <;> rw [h] <;> decide
theorem cd_dn (i : Int32) : ¬ ((cd i - (1 : Int32)) = (205 : Int32) ∨ (cd i - (1 : Int32)) = (417 : Int32)) := by
  rcases cd_or i with ⟨-, h⟩ | ⟨-, h⟩ | ⟨-, h⟩ | ⟨-, h⟩ | ⟨-, h⟩ | ⟨-, h⟩ | ⟨-, h⟩ | ⟨-, -, h⟩ <;> rw [h] <;> decide
def Kn (Z : State) (h : Heap) (f : String) (z : Int32) : Prop := ∃ a, Sta Z h "com/example/parley/parley/Status" f "Lcom/example/parley/parley/Status;" (.ref a) ∧ Exa Z h a "com/example/parley/parley/Status" ∧ Fld Z h a "com/example/parley/parley/Status" "code" "I" (.int z)
def All (Z : State) (h : Heap) : Prop := Kn Z h "CONTINUE" (100 : Int32) ∧ Kn Z h "OK" (200 : Int32) ∧ Kn Z h "REQUEST_COMPLETE" (205 : Int32) ∧ Kn Z h "BAD_REQUEST" (400 : Int32) ∧ Kn Z h "FORBIDDEN" (403 : Int32) ∧ Kn Z h "NOT_FOUND" (404 : Int32) ∧ Kn Z h "EXPECTATION_FAILED" (417 : Int32) ∧ Kn Z h "SERVER_ERROR" (500 : Int32)
theorem d_isT_0 : decode prog_17_method_6_code 0 = .ok (.iload_n 0, 1) := by decide +kernel
theorem d_isT_1 : decode prog_17_method_6_code 1 = .ok (.getstatic 10, 3) := by decide +kernel
theorem d_isT_4 : decode prog_17_method_6_code 4 = .ok (.getfield 47, 3) := by decide +kernel
theorem d_isT_7 : decode prog_17_method_6_code 7 = .ok (.if_icmp .eq 13, 3) := by decide +kernel
theorem d_isT_10 : decode prog_17_method_6_code 10 = .ok (.iload_n 0, 1) := by decide +kernel
theorem d_isT_11 : decode prog_17_method_6_code 11 = .ok (.getstatic 22, 3) := by decide +kernel
theorem d_isT_14 : decode prog_17_method_6_code 14 = .ok (.getfield 47, 3) := by decide +kernel
theorem d_isT_17 : decode prog_17_method_6_code 17 = .ok (.if_icmp .ne 7, 3) := by decide +kernel
theorem d_isT_20 : decode prog_17_method_6_code 20 = .ok (.iconst 1, 1) := by decide +kernel
theorem d_isT_21 : decode prog_17_method_6_code 21 = .ok (.goto 4, 3) := by decide +kernel
theorem d_isT_24 : decode prog_17_method_6_code 24 = .ok (.iconst 0, 1) := by decide +kernel
theorem d_isT_25 : decode prog_17_method_6_code 25 = .ok (.ireturn, 1) := by decide +kernel
def Q_isT (Z : State) (x : Int32) (h0 : Heap) (n0 : Nat) (v : Option Value) (h : Heap) (L : List Loc) : Prop := v = some (.int (bi (x = (205 : Int32) ∨ x = (417 : Int32)))) ∧ Fr n0 L ∧ h = h0
set_option maxRecDepth 65536 in
set_option maxHeartbeats 40000000 in
theorem rm_isT (l : Launch) (Z : State) (a0 : Array Value) (hw : ∀ d ∈ tables_1, d.before a0 Z = true) (ws : List Jvm.Cond) (x : Int32) (h0 : Heap) (n0 : Nat) (Z0 : n0 ≤ h0.size) (hA : All Z h0) :
    MetFree l (⟨"com/example/parley/parley/Status", "isTerminal", "(I)Z"⟩ : MethodName) (head1 (Jvm.Cond.code (⟨"com/example/parley/parley/Status", "isTerminal", "(I)Z"⟩ : MethodName) prog_17_method_6_code 1 (some .boolean) :: ws) ({ frames := 0, cells := 0, slots := 0, locals := 0 } : Room)) (fun aa_ U => aa_ = #[(.int x)] ∧ Z.Warmed39 U.vm ∧ U.heap = h0) (fun _ _ _ _ _ => True) (fun _ U o U' => ∃ v L, o = .returned v ∧ (Q_isT Z x h0 n0) v U'.heap L ∧ FrameEnd U o U' L ({ frames := 0, cells := 0, slots := 0, locals := 0 } : Room).cells ({ frames := 0, cells := 0, slots := 0, locals := 0 } : Room).slots) := by
  refine MetFree.of_bodySF (plainFor_of_name pn0) hisR ?_
  intro p e s m args below meth c s₁ Bd hml0 hP hK
  obtain ⟨rfl, hZ, hh⟩ := hP
  have hx := Bd.exec
  have hby := Bd.bytes
  have hlk : meth.locks = false := BodyLoose.notSynchronized Bd
  have hret := Bd.returns
  have hml : c.maxLocals = 1 := hml0
  have hown : s.vm.findClass "com/example/parley/parley/Status" = some m.cls := findClass_of_methodNamed Bd.named
  have hnm := (name_of_methodNamed Bd.named Bd.method).1
  have X0 : Stand p l e ({ frames := 0, cells := 0, slots := 0, locals := 0 } : Room) s m #[(.int x)] below meth c s₁ [] 0 0 := Stand.of_body Bd
  have e0 : s₁.heap = h0 := by rw [← hh, Bd.state]; rfl
  have N0 := Fr.nil n0
  show Go p e below s ({ frames := 0, cells := 0, slots := 0, locals := 0 } : Room).cells ({ frames := 0, cells := 0, slots := 0, locals := 0 } : Room).slots (Q_isT Z x h0 n0) s₁ (entryFrame m #[(.int x)] 1)
  refine own_cast (g' := mkF m 0 #[.val (.int x)] []) (by first | (simp [entryFrame, mkF, argsToLocals, Value.category]; done) | rfl) ?_
  obtain ⟨⟨a_CONTINUE, S_CONTINUE, E_CONTINUE, F_CONTINUE⟩, ⟨a_OK, S_OK, E_OK, F_OK⟩, ⟨a_REQUEST_COMPLETE, S_REQUEST_COMPLETE, E_REQUEST_COMPLETE, F_REQUEST_COMPLETE⟩, ⟨a_BAD_REQUEST, S_BAD_REQUEST, E_BAD_REQUEST, F_BAD_REQUEST⟩, ⟨a_FORBIDDEN, S_FORBIDDEN, E_FORBIDDEN, F_FORBIDDEN⟩, ⟨a_NOT_FOUND, S_NOT_FOUND, E_NOT_FOUND, F_NOT_FOUND⟩, ⟨a_EXPECTATION_FAILED, S_EXPECTATION_FAILED, E_EXPECTATION_FAILED, F_EXPECTATION_FAILED⟩, ⟨a_SERVER_ERROR, S_SERVER_ERROR, E_SERVER_ERROR, F_SERVER_ERROR⟩⟩ := hA
  show Go _ _ _ _ _ _ _ _ (mkF m 0 #[.val (.int x)] [])
  refine own_via ?_ fun _ kt => XS.iloadN X0.here hx rfl (hb hby d_isT_0) rfl kt
  show Go _ _ _ _ _ _ _ _ (mkF m 1 #[.val (.int x)] [(.int x)])
  obtain ⟨T1, X1, e1, st1⟩ := getS2 X0 hx hZ hown (host := "") (Or.inl (hw _ (List.mem_of_getElem? (i := 4) rfl))) Via.refl e0 S_REQUEST_COMPLETE (g := (mkF m 1 #[.val (.int x)] [(.int x)])) rfl (hb hby d_isT_1)
  refine own_via ?_ st1
  show Go _ _ _ _ _ _ _ _ (mkF m 4 #[.val (.int x)] [(.ref a_REQUEST_COMPLETE), (.int x)])
  obtain ⟨T2, X2, e2, st2⟩ := getF X1 hx hZ hown (host := "") (Or.inl (hw _ (List.mem_of_getElem? (i := 6) rfl))) Via.refl e1 F_REQUEST_COMPLETE (g := (mkF m 4 #[.val (.int x)] [(.ref a_REQUEST_COMPLETE), (.int x)])) rfl rfl (hb hby d_isT_4)
  refine own_via ?_ st2
  show Go _ _ _ _ _ _ _ _ (mkF m 7 #[.val (.int x)] [(.int (205 : Int32)), (.int x)])
  by_cases hc3 : x = (205 : Int32)
  · skip
    refine own_via ?_ fun _ kt => XS.icmpYes X2.here hx rfl (pc0 := 7) (pc' := 20) rfl (hb hby d_isT_7) rfl (teq hc3).1 (by decide) (by decide) kt
    show Go _ _ _ _ _ _ _ _ (mkF m 20 #[.val (.int x)] [])
    refine own_via ?_ fun _ kt => XS.iconst X2.here hx rfl (hb hby d_isT_20) kt
    show Go _ _ _ _ _ _ _ _ (mkF m 21 #[.val (.int x)] [(.int (1 : Int32))])
    refine own_via ?_ fun _ kt => XS.goto X2.here hx rfl (pc0 := 21) (pc' := 25) rfl (hb hby d_isT_21) (by decide) (by decide) kt
    show Go _ _ _ _ _ _ _ _ (mkF m 25 #[.val (.int x)] [(.int (1 : Int32))])
    exact own_retZ (z' := (1 : Int32)) X2 hx hret hlk (hb hby d_isT_25) rfl (by decide) (by decide) (by rw [e2]; exact ⟨by rw [bi_t (Or.inl hc3)], N0, rfl⟩)
  · skip
    refine own_via ?_ fun _ kt => XS.icmpNo X2.here hx rfl (hb hby d_isT_7) rfl (feq hc3).1 kt
    show Go _ _ _ _ _ _ _ _ (mkF m 10 #[.val (.int x)] [])
    refine own_via ?_ fun _ kt => XS.iloadN X2.here hx rfl (hb hby d_isT_10) rfl kt
    show Go _ _ _ _ _ _ _ _ (mkF m 11 #[.val (.int x)] [(.int x)])
    obtain ⟨T4, X4, e4, st4⟩ := getS2 X2 hx hZ hown (host := "") (Or.inl (hw _ (List.mem_of_getElem? (i := 8) rfl))) Via.refl e2 S_EXPECTATION_FAILED (g := (mkF m 11 #[.val (.int x)] [(.int x)])) rfl (hb hby d_isT_11)
    refine own_via ?_ st4
    show Go _ _ _ _ _ _ _ _ (mkF m 14 #[.val (.int x)] [(.ref a_EXPECTATION_FAILED), (.int x)])
    obtain ⟨T5, X5, e5, st5⟩ := getF X4 hx hZ hown (host := "") (Or.inl (hw _ (List.mem_of_getElem? (i := 6) rfl))) Via.refl e4 F_EXPECTATION_FAILED (g := (mkF m 14 #[.val (.int x)] [(.ref a_EXPECTATION_FAILED), (.int x)])) rfl rfl (hb hby d_isT_14)
    refine own_via ?_ st5
    show Go _ _ _ _ _ _ _ _ (mkF m 17 #[.val (.int x)] [(.int (417 : Int32)), (.int x)])
    by_cases hc6 : x = (417 : Int32)
    · skip
      refine own_via ?_ fun _ kt => XS.icmpNo X5.here hx rfl (hb hby d_isT_17) rfl (teq hc6).2 kt
      show Go _ _ _ _ _ _ _ _ (mkF m 20 #[.val (.int x)] [])
      refine own_via ?_ fun _ kt => XS.iconst X5.here hx rfl (hb hby d_isT_20) kt
      show Go _ _ _ _ _ _ _ _ (mkF m 21 #[.val (.int x)] [(.int (1 : Int32))])
      refine own_via ?_ fun _ kt => XS.goto X5.here hx rfl (pc0 := 21) (pc' := 25) rfl (hb hby d_isT_21) (by decide) (by decide) kt
      show Go _ _ _ _ _ _ _ _ (mkF m 25 #[.val (.int x)] [(.int (1 : Int32))])
      exact own_retZ (z' := (1 : Int32)) X5 hx hret hlk (hb hby d_isT_25) rfl (by decide) (by decide) (by rw [e5]; exact ⟨by rw [bi_t (Or.inr hc6)], N0, rfl⟩)
    · skip
      refine own_via ?_ fun _ kt => XS.icmpYes X5.here hx rfl (pc0 := 17) (pc' := 24) rfl (hb hby d_isT_17) rfl (feq hc6).2 (by decide) (by decide) kt
      show Go _ _ _ _ _ _ _ _ (mkF m 24 #[.val (.int x)] [])
      refine own_via ?_ fun _ kt => XS.iconst X5.here hx rfl (hb hby d_isT_24) kt
      show Go _ _ _ _ _ _ _ _ (mkF m 25 #[.val (.int x)] [(.int (0 : Int32))])
      exact own_retZ (z' := (0 : Int32)) X5 hx hret hlk (hb hby d_isT_25) rfl (by decide) (by decide) (by rw [e5]; exact ⟨by rw [bi_f (fun q => q.elim hc3 hc6)], N0, rfl⟩)
theorem d_pick_0 : decode method_2_code 0 = .ok (.iload_n 0, 1) := by decide +kernel
theorem d_pick_1 : decode method_2_code 1 = .ok (.ifCond .ne 7, 3) := by decide +kernel
theorem d_pick_4 : decode method_2_code 4 = .ok (.getstatic 7, 3) := by decide +kernel
theorem d_pick_7 : decode method_2_code 7 = .ok (.areturn, 1) := by decide +kernel
theorem d_pick_8 : decode method_2_code 8 = .ok (.iload_n 0, 1) := by decide +kernel
theorem d_pick_9 : decode method_2_code 9 = .ok (.iconst 1, 1) := by decide +kernel
theorem d_pick_10 : decode method_2_code 10 = .ok (.if_icmp .ne 7, 3) := by decide +kernel
theorem d_pick_13 : decode method_2_code 13 = .ok (.getstatic 13, 3) := by decide +kernel
theorem d_pick_16 : decode method_2_code 16 = .ok (.areturn, 1) := by decide +kernel
theorem d_pick_17 : decode method_2_code 17 = .ok (.iload_n 0, 1) := by decide +kernel
theorem d_pick_18 : decode method_2_code 18 = .ok (.iconst 2, 1) := by decide +kernel
theorem d_pick_19 : decode method_2_code 19 = .ok (.if_icmp .ne 7, 3) := by decide +kernel
theorem d_pick_22 : decode method_2_code 22 = .ok (.getstatic 16, 3) := by decide +kernel
theorem d_pick_25 : decode method_2_code 25 = .ok (.areturn, 1) := by decide +kernel
theorem d_pick_26 : decode method_2_code 26 = .ok (.iload_n 0, 1) := by decide +kernel
theorem d_pick_27 : decode method_2_code 27 = .ok (.iconst 3, 1) := by decide +kernel
theorem d_pick_28 : decode method_2_code 28 = .ok (.if_icmp .ne 7, 3) := by decide +kernel
theorem d_pick_31 : decode method_2_code 31 = .ok (.getstatic 19, 3) := by decide +kernel
theorem d_pick_34 : decode method_2_code 34 = .ok (.areturn, 1) := by decide +kernel
theorem d_pick_35 : decode method_2_code 35 = .ok (.iload_n 0, 1) := by decide +kernel
theorem d_pick_36 : decode method_2_code 36 = .ok (.iconst 4, 1) := by decide +kernel
theorem d_pick_37 : decode method_2_code 37 = .ok (.if_icmp .ne 7, 3) := by decide +kernel
theorem d_pick_40 : decode method_2_code 40 = .ok (.getstatic 22, 3) := by decide +kernel
theorem d_pick_43 : decode method_2_code 43 = .ok (.areturn, 1) := by decide +kernel
theorem d_pick_44 : decode method_2_code 44 = .ok (.iload_n 0, 1) := by decide +kernel
theorem d_pick_45 : decode method_2_code 45 = .ok (.iconst 5, 1) := by decide +kernel
theorem d_pick_46 : decode method_2_code 46 = .ok (.if_icmp .ne 7, 3) := by decide +kernel
theorem d_pick_49 : decode method_2_code 49 = .ok (.getstatic 25, 3) := by decide +kernel
theorem d_pick_52 : decode method_2_code 52 = .ok (.areturn, 1) := by decide +kernel
theorem d_pick_53 : decode method_2_code 53 = .ok (.iload_n 0, 1) := by decide +kernel
theorem d_pick_54 : decode method_2_code 54 = .ok (.bipush 6, 2) := by decide +kernel
theorem d_pick_56 : decode method_2_code 56 = .ok (.if_icmp .ne 7, 3) := by decide +kernel
theorem d_pick_59 : decode method_2_code 59 = .ok (.getstatic 28, 3) := by decide +kernel
theorem d_pick_62 : decode method_2_code 62 = .ok (.areturn, 1) := by decide +kernel
theorem d_pick_63 : decode method_2_code 63 = .ok (.getstatic 31, 3) := by decide +kernel
theorem d_pick_66 : decode method_2_code 66 = .ok (.areturn, 1) := by decide +kernel
def Q_pick (Z : State) (i : Int32) (h0 : Heap) (n0 : Nat) (v : Option Value) (h : Heap) (L : List Loc) : Prop := Exists fun a => v = some (.ref a) ∧ Exa Z h0 a "com/example/parley/parley/Status" ∧ Fld Z h0 a "com/example/parley/parley/Status" "code" "I" (.int (cd i)) ∧ Fr n0 L ∧ h = h0
set_option maxRecDepth 65536 in
set_option maxHeartbeats 40000000 in
theorem rm_pick (l : Launch) (Z : State) (a0 : Array Value) (hw : ∀ d ∈ tables_1, d.before a0 Z = true) (ws : List Jvm.Cond) (i : Int32) (h0 : Heap) (n0 : Nat) (Z0 : n0 ≤ h0.size) (hA : All Z h0) :
    MetFree l (⟨"com/example/parley/parley/StatusIsTerminalPinLaw", "pick", "(I)Lcom/example/parley/parley/Status;"⟩ : MethodName) (head1 (Jvm.Cond.code (⟨"com/example/parley/parley/StatusIsTerminalPinLaw", "pick", "(I)Lcom/example/parley/parley/Status;"⟩ : MethodName) method_2_code 1 (some (.object "com/example/parley/parley/Status")) :: ws) ({ frames := 0, cells := 0, slots := 0, locals := 0 } : Room)) (fun aa_ U => aa_ = #[(.int i)] ∧ Z.Warmed39 U.vm ∧ U.heap = h0) (fun _ _ _ _ _ => True) (fun _ U o U' => ∃ v L, o = .returned v ∧ (Q_pick Z i h0 n0) v U'.heap L ∧ FrameEnd U o U' L ({ frames := 0, cells := 0, slots := 0, locals := 0 } : Room).cells ({ frames := 0, cells := 0, slots := 0, locals := 0 } : Room).slots) := by
  refine MetFree.of_bodySF (plainFor_of_name pn1) hisR ?_
  intro p e s m args below meth c s₁ Bd hml0 hP hK
  obtain ⟨rfl, hZ, hh⟩ := hP
  have hx := Bd.exec
  have hby := Bd.bytes
  have hlk : meth.locks = false := BodyLoose.notSynchronized Bd
  have hret := Bd.returns
  have hml : c.maxLocals = 1 := hml0
  have hown : s.vm.findClass "com/example/parley/parley/StatusIsTerminalPinLaw" = some m.cls := findClass_of_methodNamed Bd.named
  have hnm := (name_of_methodNamed Bd.named Bd.method).1
  have X0 : Stand p l e ({ frames := 0, cells := 0, slots := 0, locals := 0 } : Room) s m #[(.int i)] below meth c s₁ [] 0 0 := Stand.of_body Bd
  have e0 : s₁.heap = h0 := by rw [← hh, Bd.state]; rfl
  have N0 := Fr.nil n0
  show Go p e below s ({ frames := 0, cells := 0, slots := 0, locals := 0 } : Room).cells ({ frames := 0, cells := 0, slots := 0, locals := 0 } : Room).slots (Q_pick Z i h0 n0) s₁ (entryFrame m #[(.int i)] 1)
  refine own_cast (g' := mkF m 0 #[.val (.int i)] []) (by first | (simp [entryFrame, mkF, argsToLocals, Value.category]; done) | rfl) ?_
  obtain ⟨⟨a_CONTINUE, S_CONTINUE, E_CONTINUE, F_CONTINUE⟩, ⟨a_OK, S_OK, E_OK, F_OK⟩, ⟨a_REQUEST_COMPLETE, S_REQUEST_COMPLETE, E_REQUEST_COMPLETE, F_REQUEST_COMPLETE⟩, ⟨a_BAD_REQUEST, S_BAD_REQUEST, E_BAD_REQUEST, F_BAD_REQUEST⟩, ⟨a_FORBIDDEN, S_FORBIDDEN, E_FORBIDDEN, F_FORBIDDEN⟩, ⟨a_NOT_FOUND, S_NOT_FOUND, E_NOT_FOUND, F_NOT_FOUND⟩, ⟨a_EXPECTATION_FAILED, S_EXPECTATION_FAILED, E_EXPECTATION_FAILED, F_EXPECTATION_FAILED⟩, ⟨a_SERVER_ERROR, S_SERVER_ERROR, E_SERVER_ERROR, F_SERVER_ERROR⟩⟩ := hA
  show Go _ _ _ _ _ _ _ _ (mkF m 0 #[.val (.int i)] [])
  refine own_via ?_ fun _ kt => XS.iloadN X0.here hx rfl (hb hby d_pick_0) rfl kt
  show Go _ _ _ _ _ _ _ _ (mkF m 1 #[.val (.int i)] [(.int i)])
  by_cases hc1 : i = (0 : Int32)
  · skip
    refine own_via ?_ fun _ kt => XS.ifNo X0.here hx rfl (hb hby d_pick_1) rfl ((if0 _ _).trans (teq hc1).2) kt
    show Go _ _ _ _ _ _ _ _ (mkF m 4 #[.val (.int i)] [])
    obtain ⟨T2, X2, e2, st2⟩ := getS2 X0 hx hZ hown (host := "") (Or.inl (hw _ (List.mem_of_getElem? (i := 25) rfl))) Via.refl e0 S_CONTINUE (g := (mkF m 4 #[.val (.int i)] [])) rfl (hb hby d_pick_4)
    refine own_via ?_ st2
    show Go _ _ _ _ _ _ _ _ (mkF m 7 #[.val (.int i)] [(.ref a_CONTINUE)])
    exact own_retR X2 hx hret hlk rfl rfl (hb hby d_pick_7) (by decide) (by decide) (by rw [e2]; exact ⟨a_CONTINUE, rfl, E_CONTINUE, (show cd i = (100 : Int32) from by rw [hc1]; rfl).symm ▸ F_CONTINUE, N0, rfl⟩)
  · skip
    refine own_via ?_ fun _ kt => XS.ifYes X0.here hx rfl (pc0 := 1) (pc' := 8) rfl (hb hby d_pick_1) rfl ((if0 _ _).trans (feq hc1).2) (by decide) (by decide) kt
    show Go _ _ _ _ _ _ _ _ (mkF m 8 #[.val (.int i)] [])
    refine own_via ?_ fun _ kt => XS.iloadN X0.here hx rfl (hb hby d_pick_8) rfl kt
    show Go _ _ _ _ _ _ _ _ (mkF m 9 #[.val (.int i)] [(.int i)])
    refine own_via ?_ fun _ kt => XS.iconst X0.here hx rfl (hb hby d_pick_9) kt
    show Go _ _ _ _ _ _ _ _ (mkF m 10 #[.val (.int i)] [(.int (1 : Int32)), (.int i)])
    by_cases hc3 : i = (1 : Int32)
    · skip
      refine own_via ?_ fun _ kt => XS.icmpNo X0.here hx rfl (hb hby d_pick_10) rfl (teq hc3).2 kt
      show Go _ _ _ _ _ _ _ _ (mkF m 13 #[.val (.int i)] [])
      obtain ⟨T4, X4, e4, st4⟩ := getS2 X0 hx hZ hown (host := "") (Or.inl (hw _ (List.mem_of_getElem? (i := 21) rfl))) Via.refl e0 S_OK (g := (mkF m 13 #[.val (.int i)] [])) rfl (hb hby d_pick_13)
      refine own_via ?_ st4
      show Go _ _ _ _ _ _ _ _ (mkF m 16 #[.val (.int i)] [(.ref a_OK)])
      exact own_retR X4 hx hret hlk rfl rfl (hb hby d_pick_16) (by decide) (by decide) (by rw [e4]; exact ⟨a_OK, rfl, E_OK, (show cd i = (200 : Int32) from by rw [hc3]; rfl).symm ▸ F_OK, N0, rfl⟩)
    · skip
      refine own_via ?_ fun _ kt => XS.icmpYes X0.here hx rfl (pc0 := 10) (pc' := 17) rfl (hb hby d_pick_10) rfl (feq hc3).2 (by decide) (by decide) kt
      show Go _ _ _ _ _ _ _ _ (mkF m 17 #[.val (.int i)] [])
      refine own_via ?_ fun _ kt => XS.iloadN X0.here hx rfl (hb hby d_pick_17) rfl kt
      show Go _ _ _ _ _ _ _ _ (mkF m 18 #[.val (.int i)] [(.int i)])
      refine own_via ?_ fun _ kt => XS.iconst X0.here hx rfl (hb hby d_pick_18) kt
      show Go _ _ _ _ _ _ _ _ (mkF m 19 #[.val (.int i)] [(.int (2 : Int32)), (.int i)])
      by_cases hc5 : i = (2 : Int32)
      · skip
        refine own_via ?_ fun _ kt => XS.icmpNo X0.here hx rfl (hb hby d_pick_19) rfl (teq hc5).2 kt
        show Go _ _ _ _ _ _ _ _ (mkF m 22 #[.val (.int i)] [])
        obtain ⟨T6, X6, e6, st6⟩ := getS2 X0 hx hZ hown (host := "") (Or.inl (hw _ (List.mem_of_getElem? (i := 32) rfl))) Via.refl e0 S_REQUEST_COMPLETE (g := (mkF m 22 #[.val (.int i)] [])) rfl (hb hby d_pick_22)
        refine own_via ?_ st6
        show Go _ _ _ _ _ _ _ _ (mkF m 25 #[.val (.int i)] [(.ref a_REQUEST_COMPLETE)])
        exact own_retR X6 hx hret hlk rfl rfl (hb hby d_pick_25) (by decide) (by decide) (by rw [e6]; exact ⟨a_REQUEST_COMPLETE, rfl, E_REQUEST_COMPLETE, (show cd i = (205 : Int32) from by rw [hc5]; rfl).symm ▸ F_REQUEST_COMPLETE, N0, rfl⟩)
      · skip
        refine own_via ?_ fun _ kt => XS.icmpYes X0.here hx rfl (pc0 := 19) (pc' := 26) rfl (hb hby d_pick_19) rfl (feq hc5).2 (by decide) (by decide) kt
        show Go _ _ _ _ _ _ _ _ (mkF m 26 #[.val (.int i)] [])
        refine own_via ?_ fun _ kt => XS.iloadN X0.here hx rfl (hb hby d_pick_26) rfl kt
        show Go _ _ _ _ _ _ _ _ (mkF m 27 #[.val (.int i)] [(.int i)])
        refine own_via ?_ fun _ kt => XS.iconst X0.here hx rfl (hb hby d_pick_27) kt
        show Go _ _ _ _ _ _ _ _ (mkF m 28 #[.val (.int i)] [(.int (3 : Int32)), (.int i)])
        by_cases hc7 : i = (3 : Int32)
        · skip
          refine own_via ?_ fun _ kt => XS.icmpNo X0.here hx rfl (hb hby d_pick_28) rfl (teq hc7).2 kt
          show Go _ _ _ _ _ _ _ _ (mkF m 31 #[.val (.int i)] [])
          obtain ⟨T8, X8, e8, st8⟩ := getS2 X0 hx hZ hown (host := "") (Or.inl (hw _ (List.mem_of_getElem? (i := 14) rfl))) Via.refl e0 S_BAD_REQUEST (g := (mkF m 31 #[.val (.int i)] [])) rfl (hb hby d_pick_31)
          refine own_via ?_ st8
          show Go _ _ _ _ _ _ _ _ (mkF m 34 #[.val (.int i)] [(.ref a_BAD_REQUEST)])
          exact own_retR X8 hx hret hlk rfl rfl (hb hby d_pick_34) (by decide) (by decide) (by rw [e8]; exact ⟨a_BAD_REQUEST, rfl, E_BAD_REQUEST, (show cd i = (400 : Int32) from by rw [hc7]; rfl).symm ▸ F_BAD_REQUEST, N0, rfl⟩)
        · skip
          refine own_via ?_ fun _ kt => XS.icmpYes X0.here hx rfl (pc0 := 28) (pc' := 35) rfl (hb hby d_pick_28) rfl (feq hc7).2 (by decide) (by decide) kt
          show Go _ _ _ _ _ _ _ _ (mkF m 35 #[.val (.int i)] [])
          refine own_via ?_ fun _ kt => XS.iloadN X0.here hx rfl (hb hby d_pick_35) rfl kt
          show Go _ _ _ _ _ _ _ _ (mkF m 36 #[.val (.int i)] [(.int i)])
          refine own_via ?_ fun _ kt => XS.iconst X0.here hx rfl (hb hby d_pick_36) kt
          show Go _ _ _ _ _ _ _ _ (mkF m 37 #[.val (.int i)] [(.int (4 : Int32)), (.int i)])
          by_cases hc9 : i = (4 : Int32)
          · skip
            refine own_via ?_ fun _ kt => XS.icmpNo X0.here hx rfl (hb hby d_pick_37) rfl (teq hc9).2 kt
            show Go _ _ _ _ _ _ _ _ (mkF m 40 #[.val (.int i)] [])
            obtain ⟨T10, X10, e10, st10⟩ := getS2 X0 hx hZ hown (host := "") (Or.inl (hw _ (List.mem_of_getElem? (i := 23) rfl))) Via.refl e0 S_FORBIDDEN (g := (mkF m 40 #[.val (.int i)] [])) rfl (hb hby d_pick_40)
            refine own_via ?_ st10
            show Go _ _ _ _ _ _ _ _ (mkF m 43 #[.val (.int i)] [(.ref a_FORBIDDEN)])
            exact own_retR X10 hx hret hlk rfl rfl (hb hby d_pick_43) (by decide) (by decide) (by rw [e10]; exact ⟨a_FORBIDDEN, rfl, E_FORBIDDEN, (show cd i = (403 : Int32) from by rw [hc9]; rfl).symm ▸ F_FORBIDDEN, N0, rfl⟩)
          · skip
            refine own_via ?_ fun _ kt => XS.icmpYes X0.here hx rfl (pc0 := 37) (pc' := 44) rfl (hb hby d_pick_37) rfl (feq hc9).2 (by decide) (by decide) kt
            show Go _ _ _ _ _ _ _ _ (mkF m 44 #[.val (.int i)] [])
            refine own_via ?_ fun _ kt => XS.iloadN X0.here hx rfl (hb hby d_pick_44) rfl kt
            show Go _ _ _ _ _ _ _ _ (mkF m 45 #[.val (.int i)] [(.int i)])
            refine own_via ?_ fun _ kt => XS.iconst X0.here hx rfl (hb hby d_pick_45) kt
            show Go _ _ _ _ _ _ _ _ (mkF m 46 #[.val (.int i)] [(.int (5 : Int32)), (.int i)])
            by_cases hc11 : i = (5 : Int32)
            · skip
              refine own_via ?_ fun _ kt => XS.icmpNo X0.here hx rfl (hb hby d_pick_46) rfl (teq hc11).2 kt
              show Go _ _ _ _ _ _ _ _ (mkF m 49 #[.val (.int i)] [])
              obtain ⟨T12, X12, e12, st12⟩ := getS2 X0 hx hZ hown (host := "") (Or.inl (hw _ (List.mem_of_getElem? (i := 27) rfl))) Via.refl e0 S_NOT_FOUND (g := (mkF m 49 #[.val (.int i)] [])) rfl (hb hby d_pick_49)
              refine own_via ?_ st12
              show Go _ _ _ _ _ _ _ _ (mkF m 52 #[.val (.int i)] [(.ref a_NOT_FOUND)])
              exact own_retR X12 hx hret hlk rfl rfl (hb hby d_pick_52) (by decide) (by decide) (by rw [e12]; exact ⟨a_NOT_FOUND, rfl, E_NOT_FOUND, (show cd i = (404 : Int32) from by rw [hc11]; rfl).symm ▸ F_NOT_FOUND, N0, rfl⟩)
            · skip
              refine own_via ?_ fun _ kt => XS.icmpYes X0.here hx rfl (pc0 := 46) (pc' := 53) rfl (hb hby d_pick_46) rfl (feq hc11).2 (by decide) (by decide) kt
              show Go _ _ _ _ _ _ _ _ (mkF m 53 #[.val (.int i)] [])
              refine own_via ?_ fun _ kt => XS.iloadN X0.here hx rfl (hb hby d_pick_53) rfl kt
              show Go _ _ _ _ _ _ _ _ (mkF m 54 #[.val (.int i)] [(.int i)])
              refine own_via ?_ fun _ kt => XS.bipush X0.here hx rfl (hb hby d_pick_54) kt
              show Go _ _ _ _ _ _ _ _ (mkF m 56 #[.val (.int i)] [(.int (6 : Int32)), (.int i)])
              by_cases hc13 : i = (6 : Int32)
              · skip
                refine own_via ?_ fun _ kt => XS.icmpNo X0.here hx rfl (hb hby d_pick_56) rfl (teq hc13).2 kt
                show Go _ _ _ _ _ _ _ _ (mkF m 59 #[.val (.int i)] [])
                obtain ⟨T14, X14, e14, st14⟩ := getS2 X0 hx hZ hown (host := "") (Or.inl (hw _ (List.mem_of_getElem? (i := 31) rfl))) Via.refl e0 S_EXPECTATION_FAILED (g := (mkF m 59 #[.val (.int i)] [])) rfl (hb hby d_pick_59)
                refine own_via ?_ st14
                show Go _ _ _ _ _ _ _ _ (mkF m 62 #[.val (.int i)] [(.ref a_EXPECTATION_FAILED)])
                exact own_retR X14 hx hret hlk rfl rfl (hb hby d_pick_62) (by decide) (by decide) (by rw [e14]; exact ⟨a_EXPECTATION_FAILED, rfl, E_EXPECTATION_FAILED, (show cd i = (417 : Int32) from by rw [hc13]; rfl).symm ▸ F_EXPECTATION_FAILED, N0, rfl⟩)
              · skip
                refine own_via ?_ fun _ kt => XS.icmpYes X0.here hx rfl (pc0 := 56) (pc' := 63) rfl (hb hby d_pick_56) rfl (feq hc13).2 (by decide) (by decide) kt
                show Go _ _ _ _ _ _ _ _ (mkF m 63 #[.val (.int i)] [])
                obtain ⟨T15, X15, e15, st15⟩ := getS2 X0 hx hZ hown (host := "") (Or.inl (hw _ (List.mem_of_getElem? (i := 29) rfl))) Via.refl e0 S_SERVER_ERROR (g := (mkF m 63 #[.val (.int i)] [])) rfl (hb hby d_pick_63)
                refine own_via ?_ st15
                show Go _ _ _ _ _ _ _ _ (mkF m 66 #[.val (.int i)] [(.ref a_SERVER_ERROR)])
                exact own_retR X15 hx hret hlk rfl rfl (hb hby d_pick_66) (by decide) (by decide) (by rw [e15]; exact ⟨a_SERVER_ERROR, rfl, E_SERVER_ERROR, (show cd i = (500 : Int32) from by unfold cd; simp [hc1, hc3, hc5, hc7, hc9, hc11, hc13]).symm ▸ F_SERVER_ERROR, N0, rfl⟩)
theorem d_code_0 : decode prog_17_method_4_code 0 = .ok (.aload_n 0, 1) := by decide +kernel
theorem d_code_1 : decode prog_17_method_4_code 1 = .ok (.getfield 47, 3) := by decide +kernel
theorem d_code_4 : decode prog_17_method_4_code 4 = .ok (.ireturn, 1) := by decide +kernel
def Q_code (Z : State) (a : Addr) (z : Int32) (h0 : Heap) (n0 : Nat) (v : Option Value) (h : Heap) (L : List Loc) : Prop := v = some (.int z) ∧ Fr n0 L ∧ h = h0
set_option maxRecDepth 65536 in
set_option maxHeartbeats 40000000 in
theorem rm_code (l : Launch) (Z : State) (a0 : Array Value) (hw : ∀ d ∈ tables_1, d.before a0 Z = true) (ws : List Jvm.Cond) (a : Addr) (z : Int32) (h0 : Heap) (n0 : Nat) (Z0 : n0 ≤ h0.size) (F : Fld Z h0 a "com/example/parley/parley/Status" "code" "I" (.int z)) :
    MetFree l (⟨"com/example/parley/parley/Status", "code", "()I"⟩ : MethodName) (head1 (Jvm.Cond.code (⟨"com/example/parley/parley/Status", "code", "()I"⟩ : MethodName) prog_17_method_4_code 1 (some .int) :: ws) ({ frames := 0, cells := 0, slots := 0, locals := 0 } : Room)) (fun aa_ U => aa_ = #[(.ref a)] ∧ Z.Warmed39 U.vm ∧ U.heap = h0) (fun _ _ _ _ _ => True) (fun _ U o U' => ∃ v L, o = .returned v ∧ (Q_code Z a z h0 n0) v U'.heap L ∧ FrameEnd U o U' L ({ frames := 0, cells := 0, slots := 0, locals := 0 } : Room).cells ({ frames := 0, cells := 0, slots := 0, locals := 0 } : Room).slots) := by
  refine MetFree.of_bodySF (plainFor_of_name pn0) hisR ?_
  intro p e s m args below meth c s₁ Bd hml0 hP hK
  obtain ⟨rfl, hZ, hh⟩ := hP
  have hx := Bd.exec
  have hby := Bd.bytes
  have hlk : meth.locks = false := BodyLoose.notSynchronized Bd
  have hret := Bd.returns
  have hml : c.maxLocals = 1 := hml0
  have hown : s.vm.findClass "com/example/parley/parley/Status" = some m.cls := findClass_of_methodNamed Bd.named
  have hnm := (name_of_methodNamed Bd.named Bd.method).1
  have X0 : Stand p l e ({ frames := 0, cells := 0, slots := 0, locals := 0 } : Room) s m #[(.ref a)] below meth c s₁ [] 0 0 := Stand.of_body Bd
  have e0 : s₁.heap = h0 := by rw [← hh, Bd.state]; rfl
  have N0 := Fr.nil n0
  show Go p e below s ({ frames := 0, cells := 0, slots := 0, locals := 0 } : Room).cells ({ frames := 0, cells := 0, slots := 0, locals := 0 } : Room).slots (Q_code Z a z h0 n0) s₁ (entryFrame m #[(.ref a)] 1)
  refine own_cast (g' := mkF m 0 #[.val (.ref a)] []) (by first | (simp [entryFrame, mkF, argsToLocals, Value.category]; done) | rfl) ?_
  show Go _ _ _ _ _ _ _ _ (mkF m 0 #[.val (.ref a)] [])
  refine own_via ?_ fun _ kt => XS.aloadN X0.here hx rfl (hb hby d_code_0) rfl rfl kt
  show Go _ _ _ _ _ _ _ _ (mkF m 1 #[.val (.ref a)] [(.ref a)])
  obtain ⟨T1, X1, e1, st1⟩ := getF X0 hx hZ hown (host := "") (Or.inl (hw _ (List.mem_of_getElem? (i := 6) rfl))) Via.refl e0 F (g := (mkF m 1 #[.val (.ref a)] [(.ref a)])) rfl rfl (hb hby d_code_1)
  refine own_via ?_ st1
  show Go _ _ _ _ _ _ _ _ (mkF m 4 #[.val (.ref a)] [(.int z)])
  exact own_retI X1 hx hret hlk (hb hby d_code_4) (by decide) (by decide) (by rw [e1]; exact ⟨rfl, N0, rfl⟩)
def Q_law (Z : State) (xx k : Int32) (h0 : Heap) (n0 : Nat) (v : Option Value) (h : Heap) (L : List Loc) : Prop := v = some (.int 1) ∧ Fr n0 L
set_option maxRecDepth 65536 in
set_option maxHeartbeats 40000000 in
theorem rm_law (l : Launch) (Z : State) (a0 : Array Value) (hw : ∀ d ∈ tables_1, d.before a0 Z = true) (ws : List Jvm.Cond) (xx k : Int32) (h0 : Heap) (n0 : Nat) (Z0 : n0 ≤ h0.size) (hA : All Z h0) :
    MetFree l x (head1 (Jvm.Cond.code x code maxLocals ret :: ws) room_1) (fun aa_ U => aa_ = #[(.int xx), (.int k)] ∧ Z.Warmed39 U.vm ∧ U.heap = h0) (fun _ _ _ _ _ => True) (fun _ U o U' => ∃ v L, o = .returned v ∧ (Q_law Z xx k h0 n0) v U'.heap L ∧ FrameEnd U o U' L room_1.cells room_1.slots) := by
  refine MetFree.of_bodySF (plainFor_of_name pn1) hisR ?_
  intro p e s m args below meth c s₁ Bd hml0 hP hK
  obtain ⟨rfl, hZ, hh⟩ := hP
  have hx := Bd.exec
  have hby := Bd.bytes
  have hlk : meth.locks = false := BodyLoose.notSynchronized Bd
  have hret := Bd.returns
  have hml : c.maxLocals = 9 := hml0
  have hown : s.vm.findClass "com/example/parley/parley/StatusIsTerminalPinLaw" = some m.cls := findClass_of_methodNamed Bd.named
  have hnm := (name_of_methodNamed Bd.named Bd.method).1
  have X0 : Stand p l e room_1 s m #[(.int xx), (.int k)] below meth c s₁ [] 0 0 := Stand.of_body Bd
  have e0 : s₁.heap = h0 := by rw [← hh, Bd.state]; rfl
  have N0 := Fr.nil n0
  show Go p e below s room_1.cells room_1.slots (Q_law Z xx k h0 n0) s₁ (entryFrame m #[(.int xx), (.int k)] maxLocals)
  refine own_cast (g' := mkF m 0 #[.val (.int xx), .val (.int k), .unset, .unset, .unset, .unset, .unset, .unset, .unset] []) (by first | (simp [entryFrame, mkF, argsToLocals, Value.category, maxLocals]; done) | rfl) ?_
  show Go _ _ _ _ _ _ _ _ (mkF m 0 #[.val (.int xx), .val (.int k), .unset, .unset, .unset, .unset, .unset, .unset, .unset] [])
  refine own_via ?_ fun _ kt => XS.iloadN X0.here hx rfl (hb hby at_0) rfl kt
  show Go _ _ _ _ _ _ _ _ (mkF m 1 #[.val (.int xx), .val (.int k), .unset, .unset, .unset, .unset, .unset, .unset, .unset] [(.int xx)])
  obtain ⟨_, _, ⟨T1, L1, k1, n1⟩, -, X1, ⟨Lc1, hQ1, l1, y1, z1⟩, st1⟩ := Jvm.LawKit.callS X0 hx (y := (⟨"com/example/parley/parley/Status", "isTerminal", "(I)Z"⟩ : MethodName)) hown (mvT hZ (hw _ (List.mem_of_getElem? (i := 0) rfl))) (mvT hZ (hw _ (List.mem_of_getElem? (i := 1) rfl))) (mvT hZ (hw _ (List.mem_of_getElem? (i := 2) rfl))) (mvT hZ (hw _ (List.mem_of_getElem? (i := 3) rfl))) (by decide) (backOf (W := 0) (rm_isT l Z a0 hw [] xx h0 n0 Z0 hA) hZ (hw _ (List.mem_of_getElem? (i := 3) rfl)) (hw _ (List.mem_of_getElem? (i := 2) rfl)) (by decide) (by decide)) (g := (mkF m 1 #[.val (.int xx), .val (.int k), .unset, .unset, .unset, .unset, .unset, .unset, .unset] [(.int xx)])) rfl (by rw [hml]; rfl) (argsL := [(.int xx)]) (rest := []) (lenOf pd0 rfl) rfl (by show 2 * 0 + _ ≤ _; exact Nat.le_of_eq rfl) (hb hby at_1) (fun _ _ => ⟨rfl, e0, (by decide : 0 + 0 ≤ _), (by decide : 0 + 0 ≤ _)⟩)
  dsimp only [Pt.U, Pt.locs, Pt.cells, Pt.slots] at X1 l1 y1 z1 st1 hQ1
  subst l1 y1 z1
  obtain ⟨rfl, Nq1, e1⟩ := hQ1
  have N1 := Fr.app N0 Nq1
  refine own_via ?_ st1
  have J2 : Go p e below s room_1.cells room_1.slots (Q_law Z xx k h0 n0) T1 (mkF m 31 #[.val (.int xx), .val (.int k), .unset, .unset, .unset, .unset, .unset, .unset, .unset] [(.int (1 : Int32))]) := by
    show Go _ _ _ _ _ _ _ _ (mkF m 31 #[.val (.int xx), .val (.int k), .unset, .unset, .unset, .unset, .unset, .unset, .unset] [(.int (1 : Int32))])
    refine own_via ?_ fun _ kt => XS.istoreN X1.here hx rfl (hb hby at_31) rfl (l' := #[.val (.int xx), .val (.int k), .val (.int (1 : Int32)), .unset, .unset, .unset, .unset, .unset, .unset]) rfl kt
    show Go _ _ _ _ _ _ _ _ (mkF m 32 #[.val (.int xx), .val (.int k), .val (.int (1 : Int32)), .unset, .unset, .unset, .unset, .unset, .unset] [])
    refine own_via ?_ fun _ kt => XS.iloadN X1.here hx rfl (hb hby at_32) rfl kt
    show Go _ _ _ _ _ _ _ _ (mkF m 33 #[.val (.int xx), .val (.int k), .val (.int (1 : Int32)), .unset, .unset, .unset, .unset, .unset, .unset] [(.int k)])
    refine own_via ?_ fun _ kt => XS.bipush X1.here hx rfl (hb hby at_33) kt
    show Go _ _ _ _ _ _ _ _ (mkF m 35 #[.val (.int xx), .val (.int k), .val (.int (1 : Int32)), .unset, .unset, .unset, .unset, .unset, .unset] [(.int (7 : Int32)), (.int k)])
    refine own_via ?_ fun _ kt => XS.iand X1.here hx rfl (hb hby at_35) rfl kt
    show Go _ _ _ _ _ _ _ _ (mkF m 36 #[.val (.int xx), .val (.int k), .val (.int (1 : Int32)), .unset, .unset, .unset, .unset, .unset, .unset] [(.int (k &&& (7 : Int32)))])
    refine own_via ?_ fun _ kt => XS.istoreN X1.here hx rfl (hb hby at_36) rfl (l' := #[.val (.int xx), .val (.int k), .val (.int (1 : Int32)), .val (.int (k &&& (7 : Int32))), .unset, .unset, .unset, .unset, .unset]) rfl kt
    show Go _ _ _ _ _ _ _ _ (mkF m 37 #[.val (.int xx), .val (.int k), .val (.int (1 : Int32)), .val (.int (k &&& (7 : Int32))), .unset, .unset, .unset, .unset, .unset] [])
    generalize hn_i : (k &&& (7 : Int32)) = i
    show Go _ _ _ _ _ _ _ _ (mkF m 37 #[.val (.int xx), .val (.int k), .val (.int (1 : Int32)), .val (.int i), .unset, .unset, .unset, .unset, .unset] [])
    refine own_via ?_ fun _ kt => XS.iloadN X1.here hx rfl (hb hby at_37) rfl kt
    show Go _ _ _ _ _ _ _ _ (mkF m 38 #[.val (.int xx), .val (.int k), .val (.int (1 : Int32)), .val (.int i), .unset, .unset, .unset, .unset, .unset] [(.int i)])
    obtain ⟨_, _, ⟨T3, L3, k3, n3⟩, -, X3, ⟨Lc3, hQ3, l3, y3, z3⟩, st3⟩ := Jvm.LawKit.callS X1 hx (y := (⟨"com/example/parley/parley/StatusIsTerminalPinLaw", "pick", "(I)Lcom/example/parley/parley/Status;"⟩ : MethodName)) hown (mvT hZ (hw _ (List.mem_of_getElem? (i := 10) rfl))) (mvT hZ (hw _ (List.mem_of_getElem? (i := 11) rfl))) (mvT hZ (hw _ (List.mem_of_getElem? (i := 12) rfl))) (mvT hZ (hw _ (List.mem_of_getElem? (i := 13) rfl))) (by decide) (backOf (W := 0) (rm_pick l Z a0 hw [] i h0 n0 Z0 hA) hZ (hw _ (List.mem_of_getElem? (i := 13) rfl)) (hw _ (List.mem_of_getElem? (i := 12) rfl)) (by decide) (by decide)) (g := (mkF m 38 #[.val (.int xx), .val (.int k), .val (.int (1 : Int32)), .val (.int i), .unset, .unset, .unset, .unset, .unset] [(.int i)])) rfl (by rw [hml]; rfl) (argsL := [(.int i)]) (rest := []) (lenOf pd1 rfl) rfl (by show 2 * 0 + _ ≤ _; exact Nat.le_of_eq rfl) (hb hby at_38) (fun _ _ => ⟨rfl, e1, (by decide : 0 + 0 ≤ _), (by decide : 0 + 0 ≤ _)⟩)
    dsimp only [Pt.U, Pt.locs, Pt.cells, Pt.slots] at X3 l3 y3 z3 st3 hQ3
    subst l3 y3 z3
    obtain ⟨ap, rfl, E3, F3, Nq3, e3⟩ := hQ3
    have N3 := Fr.app N1 Nq3
    refine own_via ?_ st3
    show Go _ _ _ _ _ _ _ _ (mkF m 41 #[.val (.int xx), .val (.int k), .val (.int (1 : Int32)), .val (.int i), .unset, .unset, .unset, .unset, .unset] [(.ref ap)])
    refine own_via ?_ fun _ kt => XS.astore X3.here hx rfl (hb hby at_41) rfl rfl (l' := #[.val (.int xx), .val (.int k), .val (.int (1 : Int32)), .val (.int i), .val (.ref ap), .unset, .unset, .unset, .unset]) rfl kt
    show Go _ _ _ _ _ _ _ _ (mkF m 43 #[.val (.int xx), .val (.int k), .val (.int (1 : Int32)), .val (.int i), .val (.ref ap), .unset, .unset, .unset, .unset] [])
    refine own_via ?_ fun _ kt => XS.aload X3.here hx rfl (hb hby at_43) rfl rfl kt
    show Go _ _ _ _ _ _ _ _ (mkF m 45 #[.val (.int xx), .val (.int k), .val (.int (1 : Int32)), .val (.int i), .val (.ref ap), .unset, .unset, .unset, .unset] [(.ref ap)])
    obtain ⟨cq4, kq4, q4a, q4b, q4c⟩ := isOf hZ e3 E3
    obtain ⟨_, _, ⟨T4, L4, k4, n4⟩, -, X4, ⟨Lc4, hQ4, l4, y4, z4⟩, st4⟩ := X3.virtualBack hx (y := (⟨"com/example/parley/parley/Status", "code", "()I"⟩ : MethodName)) (z := (⟨"com/example/parley/parley/Status", "code", "()I"⟩ : MethodName)) hown (mvT hZ (hw _ (List.mem_of_getElem? (i := 16) rfl))) (mvT hZ (hw _ (List.mem_of_getElem? (i := 17) rfl))) (notFace_of_selects (args := #[]) (mvT hZ (hw _ (List.mem_of_getElem? (i := 19) rfl)))) (mvT hZ (hw _ (List.mem_of_getElem? (i := 19) rfl))) (mvT hZ (hw _ (List.mem_of_getElem? (i := 18) rfl))) (by decide) (backOf (W := 0) (rm_code l Z a0 hw [] ap (cd i) h0 n0 Z0 F3) hZ (hw _ (List.mem_of_getElem? (i := 20) rfl)) (hw _ (List.mem_of_getElem? (i := 2) rfl)) (by decide) (by decide)) q4a q4c (g := (mkF m 45 #[.val (.int xx), .val (.int k), .val (.int (1 : Int32)), .val (.int i), .val (.ref ap), .unset, .unset, .unset, .unset] [(.ref ap)])) rfl (by rw [hml]; rfl) (Steps.refl _) (argsL := []) (rest := []) (lenOf pd2 rfl) rfl (by show 2 * 0 + _ ≤ _; exact Nat.le_of_eq rfl) (hb hby at_45) (fun _ _ => ⟨rfl, e3, (by decide : 0 + 0 ≤ _), (by decide : 0 + 0 ≤ _)⟩)
    dsimp only [Pt.U, Pt.locs, Pt.cells, Pt.slots] at X4 l4 y4 z4 st4 hQ4
    subst l4 y4 z4
    obtain ⟨rfl, Nq4, e4⟩ := hQ4
    have N4 := Fr.app N3 Nq4
    refine own_join ?_ st4
    show Go _ _ _ _ _ _ _ _ (mkF m 48 #[.val (.int xx), .val (.int k), .val (.int (1 : Int32)), .val (.int i), .val (.ref ap), .unset, .unset, .unset, .unset] [(.int (cd i))])
    refine own_via ?_ fun _ kt => XS.istore X4.here hx rfl (hb hby at_48) rfl (l' := #[.val (.int xx), .val (.int k), .val (.int (1 : Int32)), .val (.int i), .val (.ref ap), .val (.int (cd i)), .unset, .unset, .unset]) rfl kt
    show Go _ _ _ _ _ _ _ _ (mkF m 50 #[.val (.int xx), .val (.int k), .val (.int (1 : Int32)), .val (.int i), .val (.ref ap), .val (.int (cd i)), .unset, .unset, .unset] [])
    refine own_via ?_ fun _ kt => XS.iloadN X4.here hx rfl (hb hby at_50) rfl kt
    show Go _ _ _ _ _ _ _ _ (mkF m 51 #[.val (.int xx), .val (.int k), .val (.int (1 : Int32)), .val (.int i), .val (.ref ap), .val (.int (cd i)), .unset, .unset, .unset] [(.int i)])
    refine own_via ?_ fun _ kt => XS.iconst X4.here hx rfl (hb hby at_51) kt
    show Go _ _ _ _ _ _ _ _ (mkF m 52 #[.val (.int xx), .val (.int k), .val (.int (1 : Int32)), .val (.int i), .val (.ref ap), .val (.int (cd i)), .unset, .unset, .unset] [(.int (2 : Int32)), (.int i)])
    by_cases hc5 : i = (2 : Int32)
    · skip
      refine own_via ?_ fun _ kt => XS.icmpYes X4.here hx rfl (pc0 := 52) (pc' := 61) rfl (hb hby at_52) rfl (teq hc5).1 (by decide) (by decide) kt
      show Go _ _ _ _ _ _ _ _ (mkF m 61 #[.val (.int xx), .val (.int k), .val (.int (1 : Int32)), .val (.int i), .val (.ref ap), .val (.int (cd i)), .unset, .unset, .unset] [])
      refine own_via ?_ fun _ kt => XS.iconst X4.here hx rfl (hb hby at_61) kt
      show Go _ _ _ _ _ _ _ _ (mkF m 62 #[.val (.int xx), .val (.int k), .val (.int (1 : Int32)), .val (.int i), .val (.ref ap), .val (.int (cd i)), .unset, .unset, .unset] [(.int (1 : Int32))])
      refine own_via ?_ fun _ kt => XS.goto X4.here hx rfl (pc0 := 62) (pc' := 66) rfl (hb hby at_62) (by decide) (by decide) kt
      show Go _ _ _ _ _ _ _ _ (mkF m 66 #[.val (.int xx), .val (.int k), .val (.int (1 : Int32)), .val (.int i), .val (.ref ap), .val (.int (cd i)), .unset, .unset, .unset] [(.int (1 : Int32))])
      refine own_via ?_ fun _ kt => XS.istore X4.here hx rfl (hb hby at_66) rfl (l' := #[.val (.int xx), .val (.int k), .val (.int (1 : Int32)), .val (.int i), .val (.ref ap), .val (.int (cd i)), .val (.int (1 : Int32)), .unset, .unset]) rfl kt
      show Go _ _ _ _ _ _ _ _ (mkF m 68 #[.val (.int xx), .val (.int k), .val (.int (1 : Int32)), .val (.int i), .val (.ref ap), .val (.int (cd i)), .val (.int (1 : Int32)), .unset, .unset] [])
      refine own_via ?_ fun _ kt => XS.iload X4.here hx rfl (hb hby at_68) rfl kt
      show Go _ _ _ _ _ _ _ _ (mkF m 70 #[.val (.int xx), .val (.int k), .val (.int (1 : Int32)), .val (.int i), .val (.ref ap), .val (.int (cd i)), .val (.int (1 : Int32)), .unset, .unset] [(.int (cd i))])
      obtain ⟨_, _, ⟨T6, L6, k6, n6⟩, -, X6, ⟨Lc6, hQ6, l6, y6, z6⟩, st6⟩ := Jvm.LawKit.callS X4 hx (y := (⟨"com/example/parley/parley/Status", "isTerminal", "(I)Z"⟩ : MethodName)) hown (mvT hZ (hw _ (List.mem_of_getElem? (i := 0) rfl))) (mvT hZ (hw _ (List.mem_of_getElem? (i := 1) rfl))) (mvT hZ (hw _ (List.mem_of_getElem? (i := 2) rfl))) (mvT hZ (hw _ (List.mem_of_getElem? (i := 3) rfl))) (by decide) (backOf (W := 0) (rm_isT l Z a0 hw [] (cd i) h0 n0 Z0 hA) hZ (hw _ (List.mem_of_getElem? (i := 3) rfl)) (hw _ (List.mem_of_getElem? (i := 2) rfl)) (by decide) (by decide)) (g := (mkF m 70 #[.val (.int xx), .val (.int k), .val (.int (1 : Int32)), .val (.int i), .val (.ref ap), .val (.int (cd i)), .val (.int (1 : Int32)), .unset, .unset] [(.int (cd i))])) rfl (by rw [hml]; rfl) (argsL := [(.int (cd i))]) (rest := []) (lenOf pd0 rfl) rfl (by show 2 * 0 + _ ≤ _; exact Nat.le_of_eq rfl) (hb hby at_70) (fun _ _ => ⟨rfl, e4, (by decide : 0 + 0 ≤ _), (by decide : 0 + 0 ≤ _)⟩)
      dsimp only [Pt.U, Pt.locs, Pt.cells, Pt.slots] at X6 l6 y6 z6 st6 hQ6
      subst l6 y6 z6
      obtain ⟨rfl, Nq6, e6⟩ := hQ6
      have N6 := Fr.app N4 Nq6
      refine own_via ?_ st6
      show Go _ _ _ _ _ _ _ _ (mkF m 73 #[.val (.int xx), .val (.int k), .val (.int (1 : Int32)), .val (.int i), .val (.ref ap), .val (.int (cd i)), .val (.int (1 : Int32)), .unset, .unset] [(.int (bi ((cd i) = (205 : Int32) ∨ (cd i) = (417 : Int32))))])
      refine own_via ?_ fun _ kt => XS.iload X6.here hx rfl (hb hby at_73) rfl kt
      show Go _ _ _ _ _ _ _ _ (mkF m 75 #[.val (.int xx), .val (.int k), .val (.int (1 : Int32)), .val (.int i), .val (.ref ap), .val (.int (cd i)), .val (.int (1 : Int32)), .unset, .unset] [(.int (1 : Int32)), (.int (bi ((cd i) = (205 : Int32) ∨ (cd i) = (417 : Int32))))])
      refine own_via ?_ fun _ kt => XS.icmpNo X6.here hx rfl (hb hby at_75) rfl (teq (bi_1.mpr (cd_t (Or.inl hc5)))).2 kt
      show Go _ _ _ _ _ _ _ _ (mkF m 78 #[.val (.int xx), .val (.int k), .val (.int (1 : Int32)), .val (.int i), .val (.ref ap), .val (.int (cd i)), .val (.int (1 : Int32)), .unset, .unset] [])
      refine own_via ?_ fun _ kt => XS.iconst X6.here hx rfl (hb hby at_78) kt
      show Go _ _ _ _ _ _ _ _ (mkF m 79 #[.val (.int xx), .val (.int k), .val (.int (1 : Int32)), .val (.int i), .val (.ref ap), .val (.int (cd i)), .val (.int (1 : Int32)), .unset, .unset] [(.int (1 : Int32))])
      refine own_via ?_ fun _ kt => XS.goto X6.here hx rfl (pc0 := 79) (pc' := 83) rfl (hb hby at_79) (by decide) (by decide) kt
      show Go _ _ _ _ _ _ _ _ (mkF m 83 #[.val (.int xx), .val (.int k), .val (.int (1 : Int32)), .val (.int i), .val (.ref ap), .val (.int (cd i)), .val (.int (1 : Int32)), .unset, .unset] [(.int (1 : Int32))])
      refine own_via ?_ fun _ kt => XS.istore X6.here hx rfl (hb hby at_83) rfl (l' := #[.val (.int xx), .val (.int k), .val (.int (1 : Int32)), .val (.int i), .val (.ref ap), .val (.int (cd i)), .val (.int (1 : Int32)), .val (.int (1 : Int32)), .unset]) rfl kt
      show Go _ _ _ _ _ _ _ _ (mkF m 85 #[.val (.int xx), .val (.int k), .val (.int (1 : Int32)), .val (.int i), .val (.ref ap), .val (.int (cd i)), .val (.int (1 : Int32)), .val (.int (1 : Int32)), .unset] [])
      refine own_via ?_ fun _ kt => XS.iload X6.here hx rfl (hb hby at_85) rfl kt
      show Go _ _ _ _ _ _ _ _ (mkF m 87 #[.val (.int xx), .val (.int k), .val (.int (1 : Int32)), .val (.int i), .val (.ref ap), .val (.int (cd i)), .val (.int (1 : Int32)), .val (.int (1 : Int32)), .unset] [(.int (cd i))])
      refine own_via ?_ fun _ kt => XS.iconst X6.here hx rfl (hb hby at_87) kt
      show Go _ _ _ _ _ _ _ _ (mkF m 88 #[.val (.int xx), .val (.int k), .val (.int (1 : Int32)), .val (.int i), .val (.ref ap), .val (.int (cd i)), .val (.int (1 : Int32)), .val (.int (1 : Int32)), .unset] [(.int (1 : Int32)), (.int (cd i))])
      refine own_via ?_ fun _ kt => XS.iadd X6.here hx rfl (hb hby at_88) rfl kt
      show Go _ _ _ _ _ _ _ _ (mkF m 89 #[.val (.int xx), .val (.int k), .val (.int (1 : Int32)), .val (.int i), .val (.ref ap), .val (.int (cd i)), .val (.int (1 : Int32)), .val (.int (1 : Int32)), .unset] [(.int ((cd i) + (1 : Int32)))])
      obtain ⟨_, _, ⟨T7, L7, k7, n7⟩, -, X7, ⟨Lc7, hQ7, l7, y7, z7⟩, st7⟩ := Jvm.LawKit.callS X6 hx (y := (⟨"com/example/parley/parley/Status", "isTerminal", "(I)Z"⟩ : MethodName)) hown (mvT hZ (hw _ (List.mem_of_getElem? (i := 0) rfl))) (mvT hZ (hw _ (List.mem_of_getElem? (i := 1) rfl))) (mvT hZ (hw _ (List.mem_of_getElem? (i := 2) rfl))) (mvT hZ (hw _ (List.mem_of_getElem? (i := 3) rfl))) (by decide) (backOf (W := 0) (rm_isT l Z a0 hw [] ((cd i) + (1 : Int32)) h0 n0 Z0 hA) hZ (hw _ (List.mem_of_getElem? (i := 3) rfl)) (hw _ (List.mem_of_getElem? (i := 2) rfl)) (by decide) (by decide)) (g := (mkF m 89 #[.val (.int xx), .val (.int k), .val (.int (1 : Int32)), .val (.int i), .val (.ref ap), .val (.int (cd i)), .val (.int (1 : Int32)), .val (.int (1 : Int32)), .unset] [(.int ((cd i) + (1 : Int32)))])) rfl (by rw [hml]; rfl) (argsL := [(.int ((cd i) + (1 : Int32)))]) (rest := []) (lenOf pd0 rfl) rfl (by show 2 * 0 + _ ≤ _; exact Nat.le_of_eq rfl) (hb hby at_89) (fun _ _ => ⟨rfl, e6, (by decide : 0 + 0 ≤ _), (by decide : 0 + 0 ≤ _)⟩)
      dsimp only [Pt.U, Pt.locs, Pt.cells, Pt.slots] at X7 l7 y7 z7 st7 hQ7
      subst l7 y7 z7
      obtain ⟨rfl, Nq7, e7⟩ := hQ7
      have N7 := Fr.app N6 Nq7
      refine own_via ?_ st7
      show Go _ _ _ _ _ _ _ _ (mkF m 92 #[.val (.int xx), .val (.int k), .val (.int (1 : Int32)), .val (.int i), .val (.ref ap), .val (.int (cd i)), .val (.int (1 : Int32)), .val (.int (1 : Int32)), .unset] [(.int (bi (((cd i) + (1 : Int32)) = (205 : Int32) ∨ ((cd i) + (1 : Int32)) = (417 : Int32))))])
      refine own_via ?_ fun _ kt => XS.ifNo X7.here hx rfl (hb hby at_92) rfl ((if0 _ _).trans (teq (bi_0.mpr (cd_up i))).2) kt
      show Go _ _ _ _ _ _ _ _ (mkF m 95 #[.val (.int xx), .val (.int k), .val (.int (1 : Int32)), .val (.int i), .val (.ref ap), .val (.int (cd i)), .val (.int (1 : Int32)), .val (.int (1 : Int32)), .unset] [])
      refine own_via ?_ fun _ kt => XS.iload X7.here hx rfl (hb hby at_95) rfl kt
      show Go _ _ _ _ _ _ _ _ (mkF m 97 #[.val (.int xx), .val (.int k), .val (.int (1 : Int32)), .val (.int i), .val (.ref ap), .val (.int (cd i)), .val (.int (1 : Int32)), .val (.int (1 : Int32)), .unset] [(.int (cd i))])
      refine own_via ?_ fun _ kt => XS.iconst X7.here hx rfl (hb hby at_97) kt
      show Go _ _ _ _ _ _ _ _ (mkF m 98 #[.val (.int xx), .val (.int k), .val (.int (1 : Int32)), .val (.int i), .val (.ref ap), .val (.int (cd i)), .val (.int (1 : Int32)), .val (.int (1 : Int32)), .unset] [(.int (1 : Int32)), (.int (cd i))])
      refine own_via ?_ fun _ kt => XS.isub X7.here hx rfl (hb hby at_98) rfl kt
      show Go _ _ _ _ _ _ _ _ (mkF m 99 #[.val (.int xx), .val (.int k), .val (.int (1 : Int32)), .val (.int i), .val (.ref ap), .val (.int (cd i)), .val (.int (1 : Int32)), .val (.int (1 : Int32)), .unset] [(.int ((cd i) - (1 : Int32)))])
      obtain ⟨_, _, ⟨T8, L8, k8, n8⟩, -, X8, ⟨Lc8, hQ8, l8, y8, z8⟩, st8⟩ := Jvm.LawKit.callS X7 hx (y := (⟨"com/example/parley/parley/Status", "isTerminal", "(I)Z"⟩ : MethodName)) hown (mvT hZ (hw _ (List.mem_of_getElem? (i := 0) rfl))) (mvT hZ (hw _ (List.mem_of_getElem? (i := 1) rfl))) (mvT hZ (hw _ (List.mem_of_getElem? (i := 2) rfl))) (mvT hZ (hw _ (List.mem_of_getElem? (i := 3) rfl))) (by decide) (backOf (W := 0) (rm_isT l Z a0 hw [] ((cd i) - (1 : Int32)) h0 n0 Z0 hA) hZ (hw _ (List.mem_of_getElem? (i := 3) rfl)) (hw _ (List.mem_of_getElem? (i := 2) rfl)) (by decide) (by decide)) (g := (mkF m 99 #[.val (.int xx), .val (.int k), .val (.int (1 : Int32)), .val (.int i), .val (.ref ap), .val (.int (cd i)), .val (.int (1 : Int32)), .val (.int (1 : Int32)), .unset] [(.int ((cd i) - (1 : Int32)))])) rfl (by rw [hml]; rfl) (argsL := [(.int ((cd i) - (1 : Int32)))]) (rest := []) (lenOf pd0 rfl) rfl (by show 2 * 0 + _ ≤ _; exact Nat.le_of_eq rfl) (hb hby at_99) (fun _ _ => ⟨rfl, e7, (by decide : 0 + 0 ≤ _), (by decide : 0 + 0 ≤ _)⟩)
      dsimp only [Pt.U, Pt.locs, Pt.cells, Pt.slots] at X8 l8 y8 z8 st8 hQ8
      subst l8 y8 z8
      obtain ⟨rfl, Nq8, e8⟩ := hQ8
      have N8 := Fr.app N7 Nq8
      refine own_via ?_ st8
      show Go _ _ _ _ _ _ _ _ (mkF m 102 #[.val (.int xx), .val (.int k), .val (.int (1 : Int32)), .val (.int i), .val (.ref ap), .val (.int (cd i)), .val (.int (1 : Int32)), .val (.int (1 : Int32)), .unset] [(.int (bi (((cd i) - (1 : Int32)) = (205 : Int32) ∨ ((cd i) - (1 : Int32)) = (417 : Int32))))])
      refine own_via ?_ fun _ kt => XS.ifNo X8.here hx rfl (hb hby at_102) rfl ((if0 _ _).trans (teq (bi_0.mpr (cd_dn i))).2) kt
      show Go _ _ _ _ _ _ _ _ (mkF m 105 #[.val (.int xx), .val (.int k), .val (.int (1 : Int32)), .val (.int i), .val (.ref ap), .val (.int (cd i)), .val (.int (1 : Int32)), .val (.int (1 : Int32)), .unset] [])
      refine own_via ?_ fun _ kt => XS.iconst X8.here hx rfl (hb hby at_105) kt
      show Go _ _ _ _ _ _ _ _ (mkF m 106 #[.val (.int xx), .val (.int k), .val (.int (1 : Int32)), .val (.int i), .val (.ref ap), .val (.int (cd i)), .val (.int (1 : Int32)), .val (.int (1 : Int32)), .unset] [(.int (1 : Int32))])
      refine own_via ?_ fun _ kt => XS.goto X8.here hx rfl (pc0 := 106) (pc' := 110) rfl (hb hby at_106) (by decide) (by decide) kt
      show Go _ _ _ _ _ _ _ _ (mkF m 110 #[.val (.int xx), .val (.int k), .val (.int (1 : Int32)), .val (.int i), .val (.ref ap), .val (.int (cd i)), .val (.int (1 : Int32)), .val (.int (1 : Int32)), .unset] [(.int (1 : Int32))])
      refine own_via ?_ fun _ kt => XS.istore X8.here hx rfl (hb hby at_110) rfl (l' := #[.val (.int xx), .val (.int k), .val (.int (1 : Int32)), .val (.int i), .val (.ref ap), .val (.int (cd i)), .val (.int (1 : Int32)), .val (.int (1 : Int32)), .val (.int (1 : Int32))]) rfl kt
      show Go _ _ _ _ _ _ _ _ (mkF m 112 #[.val (.int xx), .val (.int k), .val (.int (1 : Int32)), .val (.int i), .val (.ref ap), .val (.int (cd i)), .val (.int (1 : Int32)), .val (.int (1 : Int32)), .val (.int (1 : Int32))] [])
      refine own_via ?_ fun _ kt => XS.iloadN X8.here hx rfl (hb hby at_112) rfl kt
      show Go _ _ _ _ _ _ _ _ (mkF m 113 #[.val (.int xx), .val (.int k), .val (.int (1 : Int32)), .val (.int i), .val (.ref ap), .val (.int (cd i)), .val (.int (1 : Int32)), .val (.int (1 : Int32)), .val (.int (1 : Int32))] [(.int (1 : Int32))])
      refine own_via ?_ fun _ kt => XS.ifNo X8.here hx rfl (hb hby at_113) rfl ((if0 _ _).trans (feq (by decide : ¬ ((1 : Int32) = (0 : Int32)))).1) kt
      show Go _ _ _ _ _ _ _ _ (mkF m 116 #[.val (.int xx), .val (.int k), .val (.int (1 : Int32)), .val (.int i), .val (.ref ap), .val (.int (cd i)), .val (.int (1 : Int32)), .val (.int (1 : Int32)), .val (.int (1 : Int32))] [])
      refine own_via ?_ fun _ kt => XS.iload X8.here hx rfl (hb hby at_116) rfl kt
      show Go _ _ _ _ _ _ _ _ (mkF m 118 #[.val (.int xx), .val (.int k), .val (.int (1 : Int32)), .val (.int i), .val (.ref ap), .val (.int (cd i)), .val (.int (1 : Int32)), .val (.int (1 : Int32)), .val (.int (1 : Int32))] [(.int (1 : Int32))])
      refine own_via ?_ fun _ kt => XS.ifNo X8.here hx rfl (hb hby at_118) rfl ((if0 _ _).trans (feq (by decide : ¬ ((1 : Int32) = (0 : Int32)))).1) kt
      show Go _ _ _ _ _ _ _ _ (mkF m 121 #[.val (.int xx), .val (.int k), .val (.int (1 : Int32)), .val (.int i), .val (.ref ap), .val (.int (cd i)), .val (.int (1 : Int32)), .val (.int (1 : Int32)), .val (.int (1 : Int32))] [])
      refine own_via ?_ fun _ kt => XS.iload X8.here hx rfl (hb hby at_121) rfl kt
      show Go _ _ _ _ _ _ _ _ (mkF m 123 #[.val (.int xx), .val (.int k), .val (.int (1 : Int32)), .val (.int i), .val (.ref ap), .val (.int (cd i)), .val (.int (1 : Int32)), .val (.int (1 : Int32)), .val (.int (1 : Int32))] [(.int (1 : Int32))])
      refine own_via ?_ fun _ kt => XS.ifNo X8.here hx rfl (hb hby at_123) rfl ((if0 _ _).trans (feq (by decide : ¬ ((1 : Int32) = (0 : Int32)))).1) kt
      show Go _ _ _ _ _ _ _ _ (mkF m 126 #[.val (.int xx), .val (.int k), .val (.int (1 : Int32)), .val (.int i), .val (.ref ap), .val (.int (cd i)), .val (.int (1 : Int32)), .val (.int (1 : Int32)), .val (.int (1 : Int32))] [])
      refine own_via ?_ fun _ kt => XS.iconst X8.here hx rfl (hb hby at_126) kt
      show Go _ _ _ _ _ _ _ _ (mkF m 127 #[.val (.int xx), .val (.int k), .val (.int (1 : Int32)), .val (.int i), .val (.ref ap), .val (.int (cd i)), .val (.int (1 : Int32)), .val (.int (1 : Int32)), .val (.int (1 : Int32))] [(.int (1 : Int32))])
      refine own_via ?_ fun _ kt => XS.goto X8.here hx rfl (pc0 := 127) (pc' := 131) rfl (hb hby at_127) (by decide) (by decide) kt
      show Go _ _ _ _ _ _ _ _ (mkF m 131 #[.val (.int xx), .val (.int k), .val (.int (1 : Int32)), .val (.int i), .val (.ref ap), .val (.int (cd i)), .val (.int (1 : Int32)), .val (.int (1 : Int32)), .val (.int (1 : Int32))] [(.int (1 : Int32))])
      exact own_retZ (z' := (1 : Int32)) X8 hx hret hlk (hb hby at_131) rfl (by decide) (by decide) (by rw [e8]; exact ⟨rfl, N8⟩)
    · skip
      refine own_via ?_ fun _ kt => XS.icmpNo X4.here hx rfl (hb hby at_52) rfl (feq hc5).1 kt
      show Go _ _ _ _ _ _ _ _ (mkF m 55 #[.val (.int xx), .val (.int k), .val (.int (1 : Int32)), .val (.int i), .val (.ref ap), .val (.int (cd i)), .unset, .unset, .unset] [])
      refine own_via ?_ fun _ kt => XS.iloadN X4.here hx rfl (hb hby at_55) rfl kt
      show Go _ _ _ _ _ _ _ _ (mkF m 56 #[.val (.int xx), .val (.int k), .val (.int (1 : Int32)), .val (.int i), .val (.ref ap), .val (.int (cd i)), .unset, .unset, .unset] [(.int i)])
      refine own_via ?_ fun _ kt => XS.bipush X4.here hx rfl (hb hby at_56) kt
      show Go _ _ _ _ _ _ _ _ (mkF m 58 #[.val (.int xx), .val (.int k), .val (.int (1 : Int32)), .val (.int i), .val (.ref ap), .val (.int (cd i)), .unset, .unset, .unset] [(.int (6 : Int32)), (.int i)])
      by_cases hc9 : i = (6 : Int32)
      · skip
        refine own_via ?_ fun _ kt => XS.icmpNo X4.here hx rfl (hb hby at_58) rfl (teq hc9).2 kt
        show Go _ _ _ _ _ _ _ _ (mkF m 61 #[.val (.int xx), .val (.int k), .val (.int (1 : Int32)), .val (.int i), .val (.ref ap), .val (.int (cd i)), .unset, .unset, .unset] [])
        refine own_via ?_ fun _ kt => XS.iconst X4.here hx rfl (hb hby at_61) kt
        show Go _ _ _ _ _ _ _ _ (mkF m 62 #[.val (.int xx), .val (.int k), .val (.int (1 : Int32)), .val (.int i), .val (.ref ap), .val (.int (cd i)), .unset, .unset, .unset] [(.int (1 : Int32))])
        refine own_via ?_ fun _ kt => XS.goto X4.here hx rfl (pc0 := 62) (pc' := 66) rfl (hb hby at_62) (by decide) (by decide) kt
        show Go _ _ _ _ _ _ _ _ (mkF m 66 #[.val (.int xx), .val (.int k), .val (.int (1 : Int32)), .val (.int i), .val (.ref ap), .val (.int (cd i)), .unset, .unset, .unset] [(.int (1 : Int32))])
        refine own_via ?_ fun _ kt => XS.istore X4.here hx rfl (hb hby at_66) rfl (l' := #[.val (.int xx), .val (.int k), .val (.int (1 : Int32)), .val (.int i), .val (.ref ap), .val (.int (cd i)), .val (.int (1 : Int32)), .unset, .unset]) rfl kt
        show Go _ _ _ _ _ _ _ _ (mkF m 68 #[.val (.int xx), .val (.int k), .val (.int (1 : Int32)), .val (.int i), .val (.ref ap), .val (.int (cd i)), .val (.int (1 : Int32)), .unset, .unset] [])
        refine own_via ?_ fun _ kt => XS.iload X4.here hx rfl (hb hby at_68) rfl kt
        show Go _ _ _ _ _ _ _ _ (mkF m 70 #[.val (.int xx), .val (.int k), .val (.int (1 : Int32)), .val (.int i), .val (.ref ap), .val (.int (cd i)), .val (.int (1 : Int32)), .unset, .unset] [(.int (cd i))])
        obtain ⟨_, _, ⟨T10, L10, k10, n10⟩, -, X10, ⟨Lc10, hQ10, l10, y10, z10⟩, st10⟩ := Jvm.LawKit.callS X4 hx (y := (⟨"com/example/parley/parley/Status", "isTerminal", "(I)Z"⟩ : MethodName)) hown (mvT hZ (hw _ (List.mem_of_getElem? (i := 0) rfl))) (mvT hZ (hw _ (List.mem_of_getElem? (i := 1) rfl))) (mvT hZ (hw _ (List.mem_of_getElem? (i := 2) rfl))) (mvT hZ (hw _ (List.mem_of_getElem? (i := 3) rfl))) (by decide) (backOf (W := 0) (rm_isT l Z a0 hw [] (cd i) h0 n0 Z0 hA) hZ (hw _ (List.mem_of_getElem? (i := 3) rfl)) (hw _ (List.mem_of_getElem? (i := 2) rfl)) (by decide) (by decide)) (g := (mkF m 70 #[.val (.int xx), .val (.int k), .val (.int (1 : Int32)), .val (.int i), .val (.ref ap), .val (.int (cd i)), .val (.int (1 : Int32)), .unset, .unset] [(.int (cd i))])) rfl (by rw [hml]; rfl) (argsL := [(.int (cd i))]) (rest := []) (lenOf pd0 rfl) rfl (by show 2 * 0 + _ ≤ _; exact Nat.le_of_eq rfl) (hb hby at_70) (fun _ _ => ⟨rfl, e4, (by decide : 0 + 0 ≤ _), (by decide : 0 + 0 ≤ _)⟩)
        dsimp only [Pt.U, Pt.locs, Pt.cells, Pt.slots] at X10 l10 y10 z10 st10 hQ10
        subst l10 y10 z10
        obtain ⟨rfl, Nq10, e10⟩ := hQ10
        have N10 := Fr.app N4 Nq10
        refine own_via ?_ st10
        show Go _ _ _ _ _ _ _ _ (mkF m 73 #[.val (.int xx), .val (.int k), .val (.int (1 : Int32)), .val (.int i), .val (.ref ap), .val (.int (cd i)), .val (.int (1 : Int32)), .unset, .unset] [(.int (bi ((cd i) = (205 : Int32) ∨ (cd i) = (417 : Int32))))])
        refine own_via ?_ fun _ kt => XS.iload X10.here hx rfl (hb hby at_73) rfl kt
        show Go _ _ _ _ _ _ _ _ (mkF m 75 #[.val (.int xx), .val (.int k), .val (.int (1 : Int32)), .val (.int i), .val (.ref ap), .val (.int (cd i)), .val (.int (1 : Int32)), .unset, .unset] [(.int (1 : Int32)), (.int (bi ((cd i) = (205 : Int32) ∨ (cd i) = (417 : Int32))))])
        refine own_via ?_ fun _ kt => XS.icmpNo X10.here hx rfl (hb hby at_75) rfl (teq (bi_1.mpr (cd_t (Or.inr hc9)))).2 kt
        show Go _ _ _ _ _ _ _ _ (mkF m 78 #[.val (.int xx), .val (.int k), .val (.int (1 : Int32)), .val (.int i), .val (.ref ap), .val (.int (cd i)), .val (.int (1 : Int32)), .unset, .unset] [])
        refine own_via ?_ fun _ kt => XS.iconst X10.here hx rfl (hb hby at_78) kt
        show Go _ _ _ _ _ _ _ _ (mkF m 79 #[.val (.int xx), .val (.int k), .val (.int (1 : Int32)), .val (.int i), .val (.ref ap), .val (.int (cd i)), .val (.int (1 : Int32)), .unset, .unset] [(.int (1 : Int32))])
        refine own_via ?_ fun _ kt => XS.goto X10.here hx rfl (pc0 := 79) (pc' := 83) rfl (hb hby at_79) (by decide) (by decide) kt
        show Go _ _ _ _ _ _ _ _ (mkF m 83 #[.val (.int xx), .val (.int k), .val (.int (1 : Int32)), .val (.int i), .val (.ref ap), .val (.int (cd i)), .val (.int (1 : Int32)), .unset, .unset] [(.int (1 : Int32))])
        refine own_via ?_ fun _ kt => XS.istore X10.here hx rfl (hb hby at_83) rfl (l' := #[.val (.int xx), .val (.int k), .val (.int (1 : Int32)), .val (.int i), .val (.ref ap), .val (.int (cd i)), .val (.int (1 : Int32)), .val (.int (1 : Int32)), .unset]) rfl kt
        show Go _ _ _ _ _ _ _ _ (mkF m 85 #[.val (.int xx), .val (.int k), .val (.int (1 : Int32)), .val (.int i), .val (.ref ap), .val (.int (cd i)), .val (.int (1 : Int32)), .val (.int (1 : Int32)), .unset] [])
        refine own_via ?_ fun _ kt => XS.iload X10.here hx rfl (hb hby at_85) rfl kt
        show Go _ _ _ _ _ _ _ _ (mkF m 87 #[.val (.int xx), .val (.int k), .val (.int (1 : Int32)), .val (.int i), .val (.ref ap), .val (.int (cd i)), .val (.int (1 : Int32)), .val (.int (1 : Int32)), .unset] [(.int (cd i))])
        refine own_via ?_ fun _ kt => XS.iconst X10.here hx rfl (hb hby at_87) kt
        show Go _ _ _ _ _ _ _ _ (mkF m 88 #[.val (.int xx), .val (.int k), .val (.int (1 : Int32)), .val (.int i), .val (.ref ap), .val (.int (cd i)), .val (.int (1 : Int32)), .val (.int (1 : Int32)), .unset] [(.int (1 : Int32)), (.int (cd i))])
        refine own_via ?_ fun _ kt => XS.iadd X10.here hx rfl (hb hby at_88) rfl kt
        show Go _ _ _ _ _ _ _ _ (mkF m 89 #[.val (.int xx), .val (.int k), .val (.int (1 : Int32)), .val (.int i), .val (.ref ap), .val (.int (cd i)), .val (.int (1 : Int32)), .val (.int (1 : Int32)), .unset] [(.int ((cd i) + (1 : Int32)))])
        obtain ⟨_, _, ⟨T11, L11, k11, n11⟩, -, X11, ⟨Lc11, hQ11, l11, y11, z11⟩, st11⟩ := Jvm.LawKit.callS X10 hx (y := (⟨"com/example/parley/parley/Status", "isTerminal", "(I)Z"⟩ : MethodName)) hown (mvT hZ (hw _ (List.mem_of_getElem? (i := 0) rfl))) (mvT hZ (hw _ (List.mem_of_getElem? (i := 1) rfl))) (mvT hZ (hw _ (List.mem_of_getElem? (i := 2) rfl))) (mvT hZ (hw _ (List.mem_of_getElem? (i := 3) rfl))) (by decide) (backOf (W := 0) (rm_isT l Z a0 hw [] ((cd i) + (1 : Int32)) h0 n0 Z0 hA) hZ (hw _ (List.mem_of_getElem? (i := 3) rfl)) (hw _ (List.mem_of_getElem? (i := 2) rfl)) (by decide) (by decide)) (g := (mkF m 89 #[.val (.int xx), .val (.int k), .val (.int (1 : Int32)), .val (.int i), .val (.ref ap), .val (.int (cd i)), .val (.int (1 : Int32)), .val (.int (1 : Int32)), .unset] [(.int ((cd i) + (1 : Int32)))])) rfl (by rw [hml]; rfl) (argsL := [(.int ((cd i) + (1 : Int32)))]) (rest := []) (lenOf pd0 rfl) rfl (by show 2 * 0 + _ ≤ _; exact Nat.le_of_eq rfl) (hb hby at_89) (fun _ _ => ⟨rfl, e10, (by decide : 0 + 0 ≤ _), (by decide : 0 + 0 ≤ _)⟩)
        dsimp only [Pt.U, Pt.locs, Pt.cells, Pt.slots] at X11 l11 y11 z11 st11 hQ11
        subst l11 y11 z11
        obtain ⟨rfl, Nq11, e11⟩ := hQ11
        have N11 := Fr.app N10 Nq11
        refine own_via ?_ st11
        show Go _ _ _ _ _ _ _ _ (mkF m 92 #[.val (.int xx), .val (.int k), .val (.int (1 : Int32)), .val (.int i), .val (.ref ap), .val (.int (cd i)), .val (.int (1 : Int32)), .val (.int (1 : Int32)), .unset] [(.int (bi (((cd i) + (1 : Int32)) = (205 : Int32) ∨ ((cd i) + (1 : Int32)) = (417 : Int32))))])
        refine own_via ?_ fun _ kt => XS.ifNo X11.here hx rfl (hb hby at_92) rfl ((if0 _ _).trans (teq (bi_0.mpr (cd_up i))).2) kt
        show Go _ _ _ _ _ _ _ _ (mkF m 95 #[.val (.int xx), .val (.int k), .val (.int (1 : Int32)), .val (.int i), .val (.ref ap), .val (.int (cd i)), .val (.int (1 : Int32)), .val (.int (1 : Int32)), .unset] [])
        refine own_via ?_ fun _ kt => XS.iload X11.here hx rfl (hb hby at_95) rfl kt
        show Go _ _ _ _ _ _ _ _ (mkF m 97 #[.val (.int xx), .val (.int k), .val (.int (1 : Int32)), .val (.int i), .val (.ref ap), .val (.int (cd i)), .val (.int (1 : Int32)), .val (.int (1 : Int32)), .unset] [(.int (cd i))])
        refine own_via ?_ fun _ kt => XS.iconst X11.here hx rfl (hb hby at_97) kt
        show Go _ _ _ _ _ _ _ _ (mkF m 98 #[.val (.int xx), .val (.int k), .val (.int (1 : Int32)), .val (.int i), .val (.ref ap), .val (.int (cd i)), .val (.int (1 : Int32)), .val (.int (1 : Int32)), .unset] [(.int (1 : Int32)), (.int (cd i))])
        refine own_via ?_ fun _ kt => XS.isub X11.here hx rfl (hb hby at_98) rfl kt
        show Go _ _ _ _ _ _ _ _ (mkF m 99 #[.val (.int xx), .val (.int k), .val (.int (1 : Int32)), .val (.int i), .val (.ref ap), .val (.int (cd i)), .val (.int (1 : Int32)), .val (.int (1 : Int32)), .unset] [(.int ((cd i) - (1 : Int32)))])
        obtain ⟨_, _, ⟨T12, L12, k12, n12⟩, -, X12, ⟨Lc12, hQ12, l12, y12, z12⟩, st12⟩ := Jvm.LawKit.callS X11 hx (y := (⟨"com/example/parley/parley/Status", "isTerminal", "(I)Z"⟩ : MethodName)) hown (mvT hZ (hw _ (List.mem_of_getElem? (i := 0) rfl))) (mvT hZ (hw _ (List.mem_of_getElem? (i := 1) rfl))) (mvT hZ (hw _ (List.mem_of_getElem? (i := 2) rfl))) (mvT hZ (hw _ (List.mem_of_getElem? (i := 3) rfl))) (by decide) (backOf (W := 0) (rm_isT l Z a0 hw [] ((cd i) - (1 : Int32)) h0 n0 Z0 hA) hZ (hw _ (List.mem_of_getElem? (i := 3) rfl)) (hw _ (List.mem_of_getElem? (i := 2) rfl)) (by decide) (by decide)) (g := (mkF m 99 #[.val (.int xx), .val (.int k), .val (.int (1 : Int32)), .val (.int i), .val (.ref ap), .val (.int (cd i)), .val (.int (1 : Int32)), .val (.int (1 : Int32)), .unset] [(.int ((cd i) - (1 : Int32)))])) rfl (by rw [hml]; rfl) (argsL := [(.int ((cd i) - (1 : Int32)))]) (rest := []) (lenOf pd0 rfl) rfl (by show 2 * 0 + _ ≤ _; exact Nat.le_of_eq rfl) (hb hby at_99) (fun _ _ => ⟨rfl, e11, (by decide : 0 + 0 ≤ _), (by decide : 0 + 0 ≤ _)⟩)
        dsimp only [Pt.U, Pt.locs, Pt.cells, Pt.slots] at X12 l12 y12 z12 st12 hQ12
        subst l12 y12 z12
        obtain ⟨rfl, Nq12, e12⟩ := hQ12
        have N12 := Fr.app N11 Nq12
        refine own_via ?_ st12
        show Go _ _ _ _ _ _ _ _ (mkF m 102 #[.val (.int xx), .val (.int k), .val (.int (1 : Int32)), .val (.int i), .val (.ref ap), .val (.int (cd i)), .val (.int (1 : Int32)), .val (.int (1 : Int32)), .unset] [(.int (bi (((cd i) - (1 : Int32)) = (205 : Int32) ∨ ((cd i) - (1 : Int32)) = (417 : Int32))))])
        refine own_via ?_ fun _ kt => XS.ifNo X12.here hx rfl (hb hby at_102) rfl ((if0 _ _).trans (teq (bi_0.mpr (cd_dn i))).2) kt
        show Go _ _ _ _ _ _ _ _ (mkF m 105 #[.val (.int xx), .val (.int k), .val (.int (1 : Int32)), .val (.int i), .val (.ref ap), .val (.int (cd i)), .val (.int (1 : Int32)), .val (.int (1 : Int32)), .unset] [])
        refine own_via ?_ fun _ kt => XS.iconst X12.here hx rfl (hb hby at_105) kt
        show Go _ _ _ _ _ _ _ _ (mkF m 106 #[.val (.int xx), .val (.int k), .val (.int (1 : Int32)), .val (.int i), .val (.ref ap), .val (.int (cd i)), .val (.int (1 : Int32)), .val (.int (1 : Int32)), .unset] [(.int (1 : Int32))])
        refine own_via ?_ fun _ kt => XS.goto X12.here hx rfl (pc0 := 106) (pc' := 110) rfl (hb hby at_106) (by decide) (by decide) kt
        show Go _ _ _ _ _ _ _ _ (mkF m 110 #[.val (.int xx), .val (.int k), .val (.int (1 : Int32)), .val (.int i), .val (.ref ap), .val (.int (cd i)), .val (.int (1 : Int32)), .val (.int (1 : Int32)), .unset] [(.int (1 : Int32))])
        refine own_via ?_ fun _ kt => XS.istore X12.here hx rfl (hb hby at_110) rfl (l' := #[.val (.int xx), .val (.int k), .val (.int (1 : Int32)), .val (.int i), .val (.ref ap), .val (.int (cd i)), .val (.int (1 : Int32)), .val (.int (1 : Int32)), .val (.int (1 : Int32))]) rfl kt
        show Go _ _ _ _ _ _ _ _ (mkF m 112 #[.val (.int xx), .val (.int k), .val (.int (1 : Int32)), .val (.int i), .val (.ref ap), .val (.int (cd i)), .val (.int (1 : Int32)), .val (.int (1 : Int32)), .val (.int (1 : Int32))] [])
        refine own_via ?_ fun _ kt => XS.iloadN X12.here hx rfl (hb hby at_112) rfl kt
        show Go _ _ _ _ _ _ _ _ (mkF m 113 #[.val (.int xx), .val (.int k), .val (.int (1 : Int32)), .val (.int i), .val (.ref ap), .val (.int (cd i)), .val (.int (1 : Int32)), .val (.int (1 : Int32)), .val (.int (1 : Int32))] [(.int (1 : Int32))])
        refine own_via ?_ fun _ kt => XS.ifNo X12.here hx rfl (hb hby at_113) rfl ((if0 _ _).trans (feq (by decide : ¬ ((1 : Int32) = (0 : Int32)))).1) kt
        show Go _ _ _ _ _ _ _ _ (mkF m 116 #[.val (.int xx), .val (.int k), .val (.int (1 : Int32)), .val (.int i), .val (.ref ap), .val (.int (cd i)), .val (.int (1 : Int32)), .val (.int (1 : Int32)), .val (.int (1 : Int32))] [])
        refine own_via ?_ fun _ kt => XS.iload X12.here hx rfl (hb hby at_116) rfl kt
        show Go _ _ _ _ _ _ _ _ (mkF m 118 #[.val (.int xx), .val (.int k), .val (.int (1 : Int32)), .val (.int i), .val (.ref ap), .val (.int (cd i)), .val (.int (1 : Int32)), .val (.int (1 : Int32)), .val (.int (1 : Int32))] [(.int (1 : Int32))])
        refine own_via ?_ fun _ kt => XS.ifNo X12.here hx rfl (hb hby at_118) rfl ((if0 _ _).trans (feq (by decide : ¬ ((1 : Int32) = (0 : Int32)))).1) kt
        show Go _ _ _ _ _ _ _ _ (mkF m 121 #[.val (.int xx), .val (.int k), .val (.int (1 : Int32)), .val (.int i), .val (.ref ap), .val (.int (cd i)), .val (.int (1 : Int32)), .val (.int (1 : Int32)), .val (.int (1 : Int32))] [])
        refine own_via ?_ fun _ kt => XS.iload X12.here hx rfl (hb hby at_121) rfl kt
        show Go _ _ _ _ _ _ _ _ (mkF m 123 #[.val (.int xx), .val (.int k), .val (.int (1 : Int32)), .val (.int i), .val (.ref ap), .val (.int (cd i)), .val (.int (1 : Int32)), .val (.int (1 : Int32)), .val (.int (1 : Int32))] [(.int (1 : Int32))])
        refine own_via ?_ fun _ kt => XS.ifNo X12.here hx rfl (hb hby at_123) rfl ((if0 _ _).trans (feq (by decide : ¬ ((1 : Int32) = (0 : Int32)))).1) kt
        show Go _ _ _ _ _ _ _ _ (mkF m 126 #[.val (.int xx), .val (.int k), .val (.int (1 : Int32)), .val (.int i), .val (.ref ap), .val (.int (cd i)), .val (.int (1 : Int32)), .val (.int (1 : Int32)), .val (.int (1 : Int32))] [])
        refine own_via ?_ fun _ kt => XS.iconst X12.here hx rfl (hb hby at_126) kt
        show Go _ _ _ _ _ _ _ _ (mkF m 127 #[.val (.int xx), .val (.int k), .val (.int (1 : Int32)), .val (.int i), .val (.ref ap), .val (.int (cd i)), .val (.int (1 : Int32)), .val (.int (1 : Int32)), .val (.int (1 : Int32))] [(.int (1 : Int32))])
        refine own_via ?_ fun _ kt => XS.goto X12.here hx rfl (pc0 := 127) (pc' := 131) rfl (hb hby at_127) (by decide) (by decide) kt
        show Go _ _ _ _ _ _ _ _ (mkF m 131 #[.val (.int xx), .val (.int k), .val (.int (1 : Int32)), .val (.int i), .val (.ref ap), .val (.int (cd i)), .val (.int (1 : Int32)), .val (.int (1 : Int32)), .val (.int (1 : Int32))] [(.int (1 : Int32))])
        exact own_retZ (z' := (1 : Int32)) X12 hx hret hlk (hb hby at_131) rfl (by decide) (by decide) (by rw [e12]; exact ⟨rfl, N12⟩)
      · skip
        refine own_via ?_ fun _ kt => XS.icmpYes X4.here hx rfl (pc0 := 58) (pc' := 65) rfl (hb hby at_58) rfl (feq hc9).2 (by decide) (by decide) kt
        show Go _ _ _ _ _ _ _ _ (mkF m 65 #[.val (.int xx), .val (.int k), .val (.int (1 : Int32)), .val (.int i), .val (.ref ap), .val (.int (cd i)), .unset, .unset, .unset] [])
        refine own_via ?_ fun _ kt => XS.iconst X4.here hx rfl (hb hby at_65) kt
        show Go _ _ _ _ _ _ _ _ (mkF m 66 #[.val (.int xx), .val (.int k), .val (.int (1 : Int32)), .val (.int i), .val (.ref ap), .val (.int (cd i)), .unset, .unset, .unset] [(.int (0 : Int32))])
        refine own_via ?_ fun _ kt => XS.istore X4.here hx rfl (hb hby at_66) rfl (l' := #[.val (.int xx), .val (.int k), .val (.int (1 : Int32)), .val (.int i), .val (.ref ap), .val (.int (cd i)), .val (.int (0 : Int32)), .unset, .unset]) rfl kt
        show Go _ _ _ _ _ _ _ _ (mkF m 68 #[.val (.int xx), .val (.int k), .val (.int (1 : Int32)), .val (.int i), .val (.ref ap), .val (.int (cd i)), .val (.int (0 : Int32)), .unset, .unset] [])
        refine own_via ?_ fun _ kt => XS.iload X4.here hx rfl (hb hby at_68) rfl kt
        show Go _ _ _ _ _ _ _ _ (mkF m 70 #[.val (.int xx), .val (.int k), .val (.int (1 : Int32)), .val (.int i), .val (.ref ap), .val (.int (cd i)), .val (.int (0 : Int32)), .unset, .unset] [(.int (cd i))])
        obtain ⟨_, _, ⟨T13, L13, k13, n13⟩, -, X13, ⟨Lc13, hQ13, l13, y13, z13⟩, st13⟩ := Jvm.LawKit.callS X4 hx (y := (⟨"com/example/parley/parley/Status", "isTerminal", "(I)Z"⟩ : MethodName)) hown (mvT hZ (hw _ (List.mem_of_getElem? (i := 0) rfl))) (mvT hZ (hw _ (List.mem_of_getElem? (i := 1) rfl))) (mvT hZ (hw _ (List.mem_of_getElem? (i := 2) rfl))) (mvT hZ (hw _ (List.mem_of_getElem? (i := 3) rfl))) (by decide) (backOf (W := 0) (rm_isT l Z a0 hw [] (cd i) h0 n0 Z0 hA) hZ (hw _ (List.mem_of_getElem? (i := 3) rfl)) (hw _ (List.mem_of_getElem? (i := 2) rfl)) (by decide) (by decide)) (g := (mkF m 70 #[.val (.int xx), .val (.int k), .val (.int (1 : Int32)), .val (.int i), .val (.ref ap), .val (.int (cd i)), .val (.int (0 : Int32)), .unset, .unset] [(.int (cd i))])) rfl (by rw [hml]; rfl) (argsL := [(.int (cd i))]) (rest := []) (lenOf pd0 rfl) rfl (by show 2 * 0 + _ ≤ _; exact Nat.le_of_eq rfl) (hb hby at_70) (fun _ _ => ⟨rfl, e4, (by decide : 0 + 0 ≤ _), (by decide : 0 + 0 ≤ _)⟩)
        dsimp only [Pt.U, Pt.locs, Pt.cells, Pt.slots] at X13 l13 y13 z13 st13 hQ13
        subst l13 y13 z13
        obtain ⟨rfl, Nq13, e13⟩ := hQ13
        have N13 := Fr.app N4 Nq13
        refine own_via ?_ st13
        show Go _ _ _ _ _ _ _ _ (mkF m 73 #[.val (.int xx), .val (.int k), .val (.int (1 : Int32)), .val (.int i), .val (.ref ap), .val (.int (cd i)), .val (.int (0 : Int32)), .unset, .unset] [(.int (bi ((cd i) = (205 : Int32) ∨ (cd i) = (417 : Int32))))])
        refine own_via ?_ fun _ kt => XS.iload X13.here hx rfl (hb hby at_73) rfl kt
        show Go _ _ _ _ _ _ _ _ (mkF m 75 #[.val (.int xx), .val (.int k), .val (.int (1 : Int32)), .val (.int i), .val (.ref ap), .val (.int (cd i)), .val (.int (0 : Int32)), .unset, .unset] [(.int (0 : Int32)), (.int (bi ((cd i) = (205 : Int32) ∨ (cd i) = (417 : Int32))))])
        refine own_via ?_ fun _ kt => XS.icmpNo X13.here hx rfl (hb hby at_75) rfl (teq (bi_0.mpr (cd_f hc5 hc9))).2 kt
        show Go _ _ _ _ _ _ _ _ (mkF m 78 #[.val (.int xx), .val (.int k), .val (.int (1 : Int32)), .val (.int i), .val (.ref ap), .val (.int (cd i)), .val (.int (0 : Int32)), .unset, .unset] [])
        refine own_via ?_ fun _ kt => XS.iconst X13.here hx rfl (hb hby at_78) kt
        show Go _ _ _ _ _ _ _ _ (mkF m 79 #[.val (.int xx), .val (.int k), .val (.int (1 : Int32)), .val (.int i), .val (.ref ap), .val (.int (cd i)), .val (.int (0 : Int32)), .unset, .unset] [(.int (1 : Int32))])
        refine own_via ?_ fun _ kt => XS.goto X13.here hx rfl (pc0 := 79) (pc' := 83) rfl (hb hby at_79) (by decide) (by decide) kt
        show Go _ _ _ _ _ _ _ _ (mkF m 83 #[.val (.int xx), .val (.int k), .val (.int (1 : Int32)), .val (.int i), .val (.ref ap), .val (.int (cd i)), .val (.int (0 : Int32)), .unset, .unset] [(.int (1 : Int32))])
        refine own_via ?_ fun _ kt => XS.istore X13.here hx rfl (hb hby at_83) rfl (l' := #[.val (.int xx), .val (.int k), .val (.int (1 : Int32)), .val (.int i), .val (.ref ap), .val (.int (cd i)), .val (.int (0 : Int32)), .val (.int (1 : Int32)), .unset]) rfl kt
        show Go _ _ _ _ _ _ _ _ (mkF m 85 #[.val (.int xx), .val (.int k), .val (.int (1 : Int32)), .val (.int i), .val (.ref ap), .val (.int (cd i)), .val (.int (0 : Int32)), .val (.int (1 : Int32)), .unset] [])
        refine own_via ?_ fun _ kt => XS.iload X13.here hx rfl (hb hby at_85) rfl kt
        show Go _ _ _ _ _ _ _ _ (mkF m 87 #[.val (.int xx), .val (.int k), .val (.int (1 : Int32)), .val (.int i), .val (.ref ap), .val (.int (cd i)), .val (.int (0 : Int32)), .val (.int (1 : Int32)), .unset] [(.int (cd i))])
        refine own_via ?_ fun _ kt => XS.iconst X13.here hx rfl (hb hby at_87) kt
        show Go _ _ _ _ _ _ _ _ (mkF m 88 #[.val (.int xx), .val (.int k), .val (.int (1 : Int32)), .val (.int i), .val (.ref ap), .val (.int (cd i)), .val (.int (0 : Int32)), .val (.int (1 : Int32)), .unset] [(.int (1 : Int32)), (.int (cd i))])
        refine own_via ?_ fun _ kt => XS.iadd X13.here hx rfl (hb hby at_88) rfl kt
        show Go _ _ _ _ _ _ _ _ (mkF m 89 #[.val (.int xx), .val (.int k), .val (.int (1 : Int32)), .val (.int i), .val (.ref ap), .val (.int (cd i)), .val (.int (0 : Int32)), .val (.int (1 : Int32)), .unset] [(.int ((cd i) + (1 : Int32)))])
        obtain ⟨_, _, ⟨T14, L14, k14, n14⟩, -, X14, ⟨Lc14, hQ14, l14, y14, z14⟩, st14⟩ := Jvm.LawKit.callS X13 hx (y := (⟨"com/example/parley/parley/Status", "isTerminal", "(I)Z"⟩ : MethodName)) hown (mvT hZ (hw _ (List.mem_of_getElem? (i := 0) rfl))) (mvT hZ (hw _ (List.mem_of_getElem? (i := 1) rfl))) (mvT hZ (hw _ (List.mem_of_getElem? (i := 2) rfl))) (mvT hZ (hw _ (List.mem_of_getElem? (i := 3) rfl))) (by decide) (backOf (W := 0) (rm_isT l Z a0 hw [] ((cd i) + (1 : Int32)) h0 n0 Z0 hA) hZ (hw _ (List.mem_of_getElem? (i := 3) rfl)) (hw _ (List.mem_of_getElem? (i := 2) rfl)) (by decide) (by decide)) (g := (mkF m 89 #[.val (.int xx), .val (.int k), .val (.int (1 : Int32)), .val (.int i), .val (.ref ap), .val (.int (cd i)), .val (.int (0 : Int32)), .val (.int (1 : Int32)), .unset] [(.int ((cd i) + (1 : Int32)))])) rfl (by rw [hml]; rfl) (argsL := [(.int ((cd i) + (1 : Int32)))]) (rest := []) (lenOf pd0 rfl) rfl (by show 2 * 0 + _ ≤ _; exact Nat.le_of_eq rfl) (hb hby at_89) (fun _ _ => ⟨rfl, e13, (by decide : 0 + 0 ≤ _), (by decide : 0 + 0 ≤ _)⟩)
        dsimp only [Pt.U, Pt.locs, Pt.cells, Pt.slots] at X14 l14 y14 z14 st14 hQ14
        subst l14 y14 z14
        obtain ⟨rfl, Nq14, e14⟩ := hQ14
        have N14 := Fr.app N13 Nq14
        refine own_via ?_ st14
        show Go _ _ _ _ _ _ _ _ (mkF m 92 #[.val (.int xx), .val (.int k), .val (.int (1 : Int32)), .val (.int i), .val (.ref ap), .val (.int (cd i)), .val (.int (0 : Int32)), .val (.int (1 : Int32)), .unset] [(.int (bi (((cd i) + (1 : Int32)) = (205 : Int32) ∨ ((cd i) + (1 : Int32)) = (417 : Int32))))])
        refine own_via ?_ fun _ kt => XS.ifNo X14.here hx rfl (hb hby at_92) rfl ((if0 _ _).trans (teq (bi_0.mpr (cd_up i))).2) kt
        show Go _ _ _ _ _ _ _ _ (mkF m 95 #[.val (.int xx), .val (.int k), .val (.int (1 : Int32)), .val (.int i), .val (.ref ap), .val (.int (cd i)), .val (.int (0 : Int32)), .val (.int (1 : Int32)), .unset] [])
        refine own_via ?_ fun _ kt => XS.iload X14.here hx rfl (hb hby at_95) rfl kt
        show Go _ _ _ _ _ _ _ _ (mkF m 97 #[.val (.int xx), .val (.int k), .val (.int (1 : Int32)), .val (.int i), .val (.ref ap), .val (.int (cd i)), .val (.int (0 : Int32)), .val (.int (1 : Int32)), .unset] [(.int (cd i))])
        refine own_via ?_ fun _ kt => XS.iconst X14.here hx rfl (hb hby at_97) kt
        show Go _ _ _ _ _ _ _ _ (mkF m 98 #[.val (.int xx), .val (.int k), .val (.int (1 : Int32)), .val (.int i), .val (.ref ap), .val (.int (cd i)), .val (.int (0 : Int32)), .val (.int (1 : Int32)), .unset] [(.int (1 : Int32)), (.int (cd i))])
        refine own_via ?_ fun _ kt => XS.isub X14.here hx rfl (hb hby at_98) rfl kt
        show Go _ _ _ _ _ _ _ _ (mkF m 99 #[.val (.int xx), .val (.int k), .val (.int (1 : Int32)), .val (.int i), .val (.ref ap), .val (.int (cd i)), .val (.int (0 : Int32)), .val (.int (1 : Int32)), .unset] [(.int ((cd i) - (1 : Int32)))])
        obtain ⟨_, _, ⟨T15, L15, k15, n15⟩, -, X15, ⟨Lc15, hQ15, l15, y15, z15⟩, st15⟩ := Jvm.LawKit.callS X14 hx (y := (⟨"com/example/parley/parley/Status", "isTerminal", "(I)Z"⟩ : MethodName)) hown (mvT hZ (hw _ (List.mem_of_getElem? (i := 0) rfl))) (mvT hZ (hw _ (List.mem_of_getElem? (i := 1) rfl))) (mvT hZ (hw _ (List.mem_of_getElem? (i := 2) rfl))) (mvT hZ (hw _ (List.mem_of_getElem? (i := 3) rfl))) (by decide) (backOf (W := 0) (rm_isT l Z a0 hw [] ((cd i) - (1 : Int32)) h0 n0 Z0 hA) hZ (hw _ (List.mem_of_getElem? (i := 3) rfl)) (hw _ (List.mem_of_getElem? (i := 2) rfl)) (by decide) (by decide)) (g := (mkF m 99 #[.val (.int xx), .val (.int k), .val (.int (1 : Int32)), .val (.int i), .val (.ref ap), .val (.int (cd i)), .val (.int (0 : Int32)), .val (.int (1 : Int32)), .unset] [(.int ((cd i) - (1 : Int32)))])) rfl (by rw [hml]; rfl) (argsL := [(.int ((cd i) - (1 : Int32)))]) (rest := []) (lenOf pd0 rfl) rfl (by show 2 * 0 + _ ≤ _; exact Nat.le_of_eq rfl) (hb hby at_99) (fun _ _ => ⟨rfl, e14, (by decide : 0 + 0 ≤ _), (by decide : 0 + 0 ≤ _)⟩)
        dsimp only [Pt.U, Pt.locs, Pt.cells, Pt.slots] at X15 l15 y15 z15 st15 hQ15
        subst l15 y15 z15
        obtain ⟨rfl, Nq15, e15⟩ := hQ15
        have N15 := Fr.app N14 Nq15
        refine own_via ?_ st15
        show Go _ _ _ _ _ _ _ _ (mkF m 102 #[.val (.int xx), .val (.int k), .val (.int (1 : Int32)), .val (.int i), .val (.ref ap), .val (.int (cd i)), .val (.int (0 : Int32)), .val (.int (1 : Int32)), .unset] [(.int (bi (((cd i) - (1 : Int32)) = (205 : Int32) ∨ ((cd i) - (1 : Int32)) = (417 : Int32))))])
        refine own_via ?_ fun _ kt => XS.ifNo X15.here hx rfl (hb hby at_102) rfl ((if0 _ _).trans (teq (bi_0.mpr (cd_dn i))).2) kt
        show Go _ _ _ _ _ _ _ _ (mkF m 105 #[.val (.int xx), .val (.int k), .val (.int (1 : Int32)), .val (.int i), .val (.ref ap), .val (.int (cd i)), .val (.int (0 : Int32)), .val (.int (1 : Int32)), .unset] [])
        refine own_via ?_ fun _ kt => XS.iconst X15.here hx rfl (hb hby at_105) kt
        show Go _ _ _ _ _ _ _ _ (mkF m 106 #[.val (.int xx), .val (.int k), .val (.int (1 : Int32)), .val (.int i), .val (.ref ap), .val (.int (cd i)), .val (.int (0 : Int32)), .val (.int (1 : Int32)), .unset] [(.int (1 : Int32))])
        refine own_via ?_ fun _ kt => XS.goto X15.here hx rfl (pc0 := 106) (pc' := 110) rfl (hb hby at_106) (by decide) (by decide) kt
        show Go _ _ _ _ _ _ _ _ (mkF m 110 #[.val (.int xx), .val (.int k), .val (.int (1 : Int32)), .val (.int i), .val (.ref ap), .val (.int (cd i)), .val (.int (0 : Int32)), .val (.int (1 : Int32)), .unset] [(.int (1 : Int32))])
        refine own_via ?_ fun _ kt => XS.istore X15.here hx rfl (hb hby at_110) rfl (l' := #[.val (.int xx), .val (.int k), .val (.int (1 : Int32)), .val (.int i), .val (.ref ap), .val (.int (cd i)), .val (.int (0 : Int32)), .val (.int (1 : Int32)), .val (.int (1 : Int32))]) rfl kt
        show Go _ _ _ _ _ _ _ _ (mkF m 112 #[.val (.int xx), .val (.int k), .val (.int (1 : Int32)), .val (.int i), .val (.ref ap), .val (.int (cd i)), .val (.int (0 : Int32)), .val (.int (1 : Int32)), .val (.int (1 : Int32))] [])
        refine own_via ?_ fun _ kt => XS.iloadN X15.here hx rfl (hb hby at_112) rfl kt
        show Go _ _ _ _ _ _ _ _ (mkF m 113 #[.val (.int xx), .val (.int k), .val (.int (1 : Int32)), .val (.int i), .val (.ref ap), .val (.int (cd i)), .val (.int (0 : Int32)), .val (.int (1 : Int32)), .val (.int (1 : Int32))] [(.int (1 : Int32))])
        refine own_via ?_ fun _ kt => XS.ifNo X15.here hx rfl (hb hby at_113) rfl ((if0 _ _).trans (feq (by decide : ¬ ((1 : Int32) = (0 : Int32)))).1) kt
        show Go _ _ _ _ _ _ _ _ (mkF m 116 #[.val (.int xx), .val (.int k), .val (.int (1 : Int32)), .val (.int i), .val (.ref ap), .val (.int (cd i)), .val (.int (0 : Int32)), .val (.int (1 : Int32)), .val (.int (1 : Int32))] [])
        refine own_via ?_ fun _ kt => XS.iload X15.here hx rfl (hb hby at_116) rfl kt
        show Go _ _ _ _ _ _ _ _ (mkF m 118 #[.val (.int xx), .val (.int k), .val (.int (1 : Int32)), .val (.int i), .val (.ref ap), .val (.int (cd i)), .val (.int (0 : Int32)), .val (.int (1 : Int32)), .val (.int (1 : Int32))] [(.int (1 : Int32))])
        refine own_via ?_ fun _ kt => XS.ifNo X15.here hx rfl (hb hby at_118) rfl ((if0 _ _).trans (feq (by decide : ¬ ((1 : Int32) = (0 : Int32)))).1) kt
        show Go _ _ _ _ _ _ _ _ (mkF m 121 #[.val (.int xx), .val (.int k), .val (.int (1 : Int32)), .val (.int i), .val (.ref ap), .val (.int (cd i)), .val (.int (0 : Int32)), .val (.int (1 : Int32)), .val (.int (1 : Int32))] [])
        refine own_via ?_ fun _ kt => XS.iload X15.here hx rfl (hb hby at_121) rfl kt
        show Go _ _ _ _ _ _ _ _ (mkF m 123 #[.val (.int xx), .val (.int k), .val (.int (1 : Int32)), .val (.int i), .val (.ref ap), .val (.int (cd i)), .val (.int (0 : Int32)), .val (.int (1 : Int32)), .val (.int (1 : Int32))] [(.int (1 : Int32))])
        refine own_via ?_ fun _ kt => XS.ifNo X15.here hx rfl (hb hby at_123) rfl ((if0 _ _).trans (feq (by decide : ¬ ((1 : Int32) = (0 : Int32)))).1) kt
        show Go _ _ _ _ _ _ _ _ (mkF m 126 #[.val (.int xx), .val (.int k), .val (.int (1 : Int32)), .val (.int i), .val (.ref ap), .val (.int (cd i)), .val (.int (0 : Int32)), .val (.int (1 : Int32)), .val (.int (1 : Int32))] [])
        refine own_via ?_ fun _ kt => XS.iconst X15.here hx rfl (hb hby at_126) kt
        show Go _ _ _ _ _ _ _ _ (mkF m 127 #[.val (.int xx), .val (.int k), .val (.int (1 : Int32)), .val (.int i), .val (.ref ap), .val (.int (cd i)), .val (.int (0 : Int32)), .val (.int (1 : Int32)), .val (.int (1 : Int32))] [(.int (1 : Int32))])
        refine own_via ?_ fun _ kt => XS.goto X15.here hx rfl (pc0 := 127) (pc' := 131) rfl (hb hby at_127) (by decide) (by decide) kt
        show Go _ _ _ _ _ _ _ _ (mkF m 131 #[.val (.int xx), .val (.int k), .val (.int (1 : Int32)), .val (.int i), .val (.ref ap), .val (.int (cd i)), .val (.int (0 : Int32)), .val (.int (1 : Int32)), .val (.int (1 : Int32))] [(.int (1 : Int32))])
        exact own_retZ (z' := (1 : Int32)) X15 hx hret hlk (hb hby at_131) rfl (by decide) (by decide) (by rw [e15]; exact ⟨rfl, N15⟩)
  show Go _ _ _ _ _ _ _ _ (mkF m 4 #[.val (.int xx), .val (.int k), .unset, .unset, .unset, .unset, .unset, .unset, .unset] [(.int (bi (xx = (205 : Int32) ∨ xx = (417 : Int32))))])
  refine own_via ?_ fun _ kt => XS.iloadN X1.here hx rfl (hb hby at_4) rfl kt
  show Go _ _ _ _ _ _ _ _ (mkF m 5 #[.val (.int xx), .val (.int k), .unset, .unset, .unset, .unset, .unset, .unset, .unset] [(.int xx), (.int (bi (xx = (205 : Int32) ∨ xx = (417 : Int32))))])
  refine own_via ?_ fun _ kt => XS.sipush X1.here hx rfl (hb hby at_5) kt
  show Go _ _ _ _ _ _ _ _ (mkF m 8 #[.val (.int xx), .val (.int k), .unset, .unset, .unset, .unset, .unset, .unset, .unset] [(.int (205 : Int32)), (.int xx), (.int (bi (xx = (205 : Int32) ∨ xx = (417 : Int32))))])
  by_cases hc16 : xx = (205 : Int32)
  · skip
    refine own_via ?_ fun _ kt => XS.icmpYes X1.here hx rfl (pc0 := 8) (pc' := 18) rfl (hb hby at_8) rfl (teq hc16).1 (by decide) (by decide) kt
    show Go _ _ _ _ _ _ _ _ (mkF m 18 #[.val (.int xx), .val (.int k), .unset, .unset, .unset, .unset, .unset, .unset, .unset] [(.int (bi (xx = (205 : Int32) ∨ xx = (417 : Int32))))])
    refine own_via ?_ fun _ kt => XS.iconst X1.here hx rfl (hb hby at_18) kt
    show Go _ _ _ _ _ _ _ _ (mkF m 19 #[.val (.int xx), .val (.int k), .unset, .unset, .unset, .unset, .unset, .unset, .unset] [(.int (1 : Int32)), (.int (bi (xx = (205 : Int32) ∨ xx = (417 : Int32))))])
    refine own_via ?_ fun _ kt => XS.goto X1.here hx rfl (pc0 := 19) (pc' := 23) rfl (hb hby at_19) (by decide) (by decide) kt
    show Go _ _ _ _ _ _ _ _ (mkF m 23 #[.val (.int xx), .val (.int k), .unset, .unset, .unset, .unset, .unset, .unset, .unset] [(.int (1 : Int32)), (.int (bi (xx = (205 : Int32) ∨ xx = (417 : Int32))))])
    refine own_via ?_ fun _ kt => XS.icmpNo X1.here hx rfl (hb hby at_23) rfl (teq (bi_1.mpr (Or.inl hc16))).2 kt
    show Go _ _ _ _ _ _ _ _ (mkF m 26 #[.val (.int xx), .val (.int k), .unset, .unset, .unset, .unset, .unset, .unset, .unset] [])
    refine own_via ?_ fun _ kt => XS.iconst X1.here hx rfl (hb hby at_26) kt
    show Go _ _ _ _ _ _ _ _ (mkF m 27 #[.val (.int xx), .val (.int k), .unset, .unset, .unset, .unset, .unset, .unset, .unset] [(.int (1 : Int32))])
    refine own_via ?_ fun _ kt => XS.goto X1.here hx rfl (pc0 := 27) (pc' := 31) rfl (hb hby at_27) (by decide) (by decide) kt
    show Go _ _ _ _ _ _ _ _ (mkF m 31 #[.val (.int xx), .val (.int k), .unset, .unset, .unset, .unset, .unset, .unset, .unset] [(.int (1 : Int32))])
    exact J2
  · skip
    refine own_via ?_ fun _ kt => XS.icmpNo X1.here hx rfl (hb hby at_8) rfl (feq hc16).1 kt
    show Go _ _ _ _ _ _ _ _ (mkF m 11 #[.val (.int xx), .val (.int k), .unset, .unset, .unset, .unset, .unset, .unset, .unset] [(.int (bi (xx = (205 : Int32) ∨ xx = (417 : Int32))))])
    refine own_via ?_ fun _ kt => XS.iloadN X1.here hx rfl (hb hby at_11) rfl kt
    show Go _ _ _ _ _ _ _ _ (mkF m 12 #[.val (.int xx), .val (.int k), .unset, .unset, .unset, .unset, .unset, .unset, .unset] [(.int xx), (.int (bi (xx = (205 : Int32) ∨ xx = (417 : Int32))))])
    refine own_via ?_ fun _ kt => XS.sipush X1.here hx rfl (hb hby at_12) kt
    show Go _ _ _ _ _ _ _ _ (mkF m 15 #[.val (.int xx), .val (.int k), .unset, .unset, .unset, .unset, .unset, .unset, .unset] [(.int (417 : Int32)), (.int xx), (.int (bi (xx = (205 : Int32) ∨ xx = (417 : Int32))))])
    by_cases hc17 : xx = (417 : Int32)
    · skip
      refine own_via ?_ fun _ kt => XS.icmpNo X1.here hx rfl (hb hby at_15) rfl (teq hc17).2 kt
      show Go _ _ _ _ _ _ _ _ (mkF m 18 #[.val (.int xx), .val (.int k), .unset, .unset, .unset, .unset, .unset, .unset, .unset] [(.int (bi (xx = (205 : Int32) ∨ xx = (417 : Int32))))])
      refine own_via ?_ fun _ kt => XS.iconst X1.here hx rfl (hb hby at_18) kt
      show Go _ _ _ _ _ _ _ _ (mkF m 19 #[.val (.int xx), .val (.int k), .unset, .unset, .unset, .unset, .unset, .unset, .unset] [(.int (1 : Int32)), (.int (bi (xx = (205 : Int32) ∨ xx = (417 : Int32))))])
      refine own_via ?_ fun _ kt => XS.goto X1.here hx rfl (pc0 := 19) (pc' := 23) rfl (hb hby at_19) (by decide) (by decide) kt
      show Go _ _ _ _ _ _ _ _ (mkF m 23 #[.val (.int xx), .val (.int k), .unset, .unset, .unset, .unset, .unset, .unset, .unset] [(.int (1 : Int32)), (.int (bi (xx = (205 : Int32) ∨ xx = (417 : Int32))))])
      refine own_via ?_ fun _ kt => XS.icmpNo X1.here hx rfl (hb hby at_23) rfl (teq (bi_1.mpr (Or.inr hc17))).2 kt
      show Go _ _ _ _ _ _ _ _ (mkF m 26 #[.val (.int xx), .val (.int k), .unset, .unset, .unset, .unset, .unset, .unset, .unset] [])
      refine own_via ?_ fun _ kt => XS.iconst X1.here hx rfl (hb hby at_26) kt
      show Go _ _ _ _ _ _ _ _ (mkF m 27 #[.val (.int xx), .val (.int k), .unset, .unset, .unset, .unset, .unset, .unset, .unset] [(.int (1 : Int32))])
      refine own_via ?_ fun _ kt => XS.goto X1.here hx rfl (pc0 := 27) (pc' := 31) rfl (hb hby at_27) (by decide) (by decide) kt
      show Go _ _ _ _ _ _ _ _ (mkF m 31 #[.val (.int xx), .val (.int k), .unset, .unset, .unset, .unset, .unset, .unset, .unset] [(.int (1 : Int32))])
      exact J2
    · skip
      refine own_via ?_ fun _ kt => XS.icmpYes X1.here hx rfl (pc0 := 15) (pc' := 22) rfl (hb hby at_15) rfl (feq hc17).2 (by decide) (by decide) kt
      show Go _ _ _ _ _ _ _ _ (mkF m 22 #[.val (.int xx), .val (.int k), .unset, .unset, .unset, .unset, .unset, .unset, .unset] [(.int (bi (xx = (205 : Int32) ∨ xx = (417 : Int32))))])
      refine own_via ?_ fun _ kt => XS.iconst X1.here hx rfl (hb hby at_22) kt
      show Go _ _ _ _ _ _ _ _ (mkF m 23 #[.val (.int xx), .val (.int k), .unset, .unset, .unset, .unset, .unset, .unset, .unset] [(.int (0 : Int32)), (.int (bi (xx = (205 : Int32) ∨ xx = (417 : Int32))))])
      refine own_via ?_ fun _ kt => XS.icmpNo X1.here hx rfl (hb hby at_23) rfl (teq (bi_0.mpr (fun q => q.elim hc16 hc17))).2 kt
      show Go _ _ _ _ _ _ _ _ (mkF m 26 #[.val (.int xx), .val (.int k), .unset, .unset, .unset, .unset, .unset, .unset, .unset] [])
      refine own_via ?_ fun _ kt => XS.iconst X1.here hx rfl (hb hby at_26) kt
      show Go _ _ _ _ _ _ _ _ (mkF m 27 #[.val (.int xx), .val (.int k), .unset, .unset, .unset, .unset, .unset, .unset, .unset] [(.int (1 : Int32))])
      refine own_via ?_ fun _ kt => XS.goto X1.here hx rfl (pc0 := 27) (pc' := 31) rfl (hb hby at_27) (by decide) (by decide) kt
      show Go _ _ _ _ _ _ _ _ (mkF m 31 #[.val (.int xx), .val (.int k), .unset, .unset, .unset, .unset, .unset, .unset, .unset] [(.int (1 : Int32))])
      exact J2
set_option maxRecDepth 65536 in
set_option maxHeartbeats 40000000 in
theorem comes_1 {Post : Tables → Env → Array Value → State → Outcome → State → Prop} (hpost : ∀ tb e args s v u, (limb_1_1.after args s (.returned v) u = true ∧ limb_1_2.after args s (.returned v) u = true ∧ True) → FrameEnd s (.returned v) u (Jvm.fieldLocs frame_1_writes args s ++ Jvm.arrayLocs frame_1_arrays args s ++ Jvm.staticLocs frame_1_statics s) 0 0 → Post tb e args s (.returned v) u) :
    ArmFor flags0 classFile x code maxLocals ret World_1 tables_1 room_1 Calls_1 rest_1 Pre_1 Post := by
  intro l hfl _ _ p e ha hc hk s m args below hf hA hF happ hP
  obtain ⟨hcalls, hrest, hpre⟩ := hP
  obtain ⟨-, -, -, hnamed, -, -, -, hat⟩ := (Spec.applies_iff hf).mp happ
  obtain ⟨hg, hn⟩ := and_e (Cond.before_iff.mp (show (Jvm.Cond.and given_1 narrow_1).before args s = true from hpre))
  obtain ⟨ga1, gb1⟩ := and_e hg
  obtain ⟨ga2, gb2⟩ := and_e gb1
  obtain ⟨ga3, gb3⟩ := and_e hn
  obtain ⟨ga4, gb4⟩ := and_e gb3
  obtain ⟨ga5, gb5⟩ := and_e gb4
  obtain ⟨ga6, gb6⟩ := and_e gb5
  obtain ⟨ga7, gb7⟩ := and_e gb6
  obtain ⟨ga8, gb8⟩ := and_e gb7
  obtain ⟨ga9, gb9⟩ := and_e gb8
  obtain ⟨ga10, gb10⟩ := and_e gb9
  obtain ⟨ga11, gb11⟩ := and_e gb10
  obtain ⟨ga12, gb12⟩ := and_e gb11
  obtain ⟨ga13, gb13⟩ := and_e gb12
  obtain ⟨ga14, gb14⟩ := and_e gb13
  obtain ⟨ga15, gb15⟩ := and_e gb14
  obtain ⟨ga16, gb16⟩ := and_e gb15
  obtain ⟨ga17, gb17⟩ := and_e gb16
  obtain ⟨w0, w1, rfl⟩ : ∃ w0 w1 : Value, args = #[w0, w1] := by
    have hs : args.size = 2 := by simpa [Cond.value, given_1] using ga1
    obtain ⟨L⟩ := args
    match L, hs with
    | [w0, w1], _ => exact ⟨w0, w1, rfl⟩
  have hw := fun d (hd : d ∈ tables_1) => atoms_spec (ws := Jvm.Cond.code x code maxLocals ret :: tables_1) hat d (List.mem_cons_of_mem _ hd)
  have hfit : Fit s := fun {y c} hc i hi => by
    obtain ⟨ha, rfl⟩ := Array.getElem?_eq_some_iff.mp hc
    have q := List.all_eq_true.mp ((Array.all_eq_true_iff_forall_mem.mp hF) _ (Array.getElem_mem ha)) i (List.mem_range.mpr hi)
    simpa [Array.getElem?_eq_getElem hi] using q
  obtain ⟨i0, ei0⟩ := is_v ga2
  obtain rfl : w0 = (.int i0) := Option.some.inj ei0
  obtain ⟨i1, ei1⟩ := is_v gb2
  obtain rfl : w1 = (.int i1) := Option.some.inj ei1
  obtain ⟨ga51, gb51⟩ := and_e hn
  obtain ⟨ga52, gb52⟩ := and_e gb51
  obtain ⟨ga53, gb53⟩ := and_e gb52
  obtain ⟨ga54, gb54⟩ := and_e gb53
  obtain ⟨ga55, gb55⟩ := and_e gb54
  obtain ⟨ga56, gb56⟩ := and_e gb55
  obtain ⟨ga57, gb57⟩ := and_e gb56
  obtain ⟨ga58, gb58⟩ := and_e gb57
  obtain ⟨ga59, gb59⟩ := and_e gb58
  obtain ⟨ga60, gb60⟩ := and_e gb59
  obtain ⟨ga61, gb61⟩ := and_e gb60
  obtain ⟨ga62, gb62⟩ := and_e gb61
  obtain ⟨ga63, gb63⟩ := and_e gb62
  obtain ⟨ga64, gb64⟩ := and_e gb63
  obtain ⟨ga65, gb65⟩ := and_e gb64
  obtain ⟨a_REQUEST_COMPLETE, ev_REQUEST_COMPLETE⟩ := exa_v ga3
  have S_REQUEST_COMPLETE : Sta s s.heap "com/example/parley/parley/Status" "REQUEST_COMPLETE" "Lcom/example/parley/parley/Status;" (.ref a_REQUEST_COMPLETE) := Sta.start ev_REQUEST_COMPLETE (Or.inr ⟨(hw _ (List.mem_of_getElem? (i := 2) rfl)), (hw _ (List.mem_of_getElem? (i := 5) rfl))⟩)
  have E_REQUEST_COMPLETE : Exa s s.heap a_REQUEST_COMPLETE "com/example/parley/parley/Status" := Exa.start ev_REQUEST_COMPLETE ga3
  obtain ⟨a_EXPECTATION_FAILED, ev_EXPECTATION_FAILED⟩ := exa_v ga5
  have S_EXPECTATION_FAILED : Sta s s.heap "com/example/parley/parley/Status" "EXPECTATION_FAILED" "Lcom/example/parley/parley/Status;" (.ref a_EXPECTATION_FAILED) := Sta.start ev_EXPECTATION_FAILED (Or.inr ⟨(hw _ (List.mem_of_getElem? (i := 2) rfl)), (hw _ (List.mem_of_getElem? (i := 9) rfl))⟩)
  have E_EXPECTATION_FAILED : Exa s s.heap a_EXPECTATION_FAILED "com/example/parley/parley/Status" := Exa.start ev_EXPECTATION_FAILED ga5
  obtain ⟨a_BAD_REQUEST, ev_BAD_REQUEST⟩ := exa_v ga7
  have S_BAD_REQUEST : Sta s s.heap "com/example/parley/parley/Status" "BAD_REQUEST" "Lcom/example/parley/parley/Status;" (.ref a_BAD_REQUEST) := Sta.start ev_BAD_REQUEST (Or.inr ⟨(hw _ (List.mem_of_getElem? (i := 2) rfl)), (hw _ (List.mem_of_getElem? (i := 15) rfl))⟩)
  have E_BAD_REQUEST : Exa s s.heap a_BAD_REQUEST "com/example/parley/parley/Status" := Exa.start ev_BAD_REQUEST ga7
  obtain ⟨a_OK, ev_OK⟩ := exa_v ga9
  have S_OK : Sta s s.heap "com/example/parley/parley/Status" "OK" "Lcom/example/parley/parley/Status;" (.ref a_OK) := Sta.start ev_OK (Or.inr ⟨(hw _ (List.mem_of_getElem? (i := 2) rfl)), (hw _ (List.mem_of_getElem? (i := 22) rfl))⟩)
  have E_OK : Exa s s.heap a_OK "com/example/parley/parley/Status" := Exa.start ev_OK ga9
  obtain ⟨a_FORBIDDEN, ev_FORBIDDEN⟩ := exa_v ga11
  have S_FORBIDDEN : Sta s s.heap "com/example/parley/parley/Status" "FORBIDDEN" "Lcom/example/parley/parley/Status;" (.ref a_FORBIDDEN) := Sta.start ev_FORBIDDEN (Or.inr ⟨(hw _ (List.mem_of_getElem? (i := 2) rfl)), (hw _ (List.mem_of_getElem? (i := 24) rfl))⟩)
  have E_FORBIDDEN : Exa s s.heap a_FORBIDDEN "com/example/parley/parley/Status" := Exa.start ev_FORBIDDEN ga11
  obtain ⟨a_CONTINUE, ev_CONTINUE⟩ := exa_v ga13
  have S_CONTINUE : Sta s s.heap "com/example/parley/parley/Status" "CONTINUE" "Lcom/example/parley/parley/Status;" (.ref a_CONTINUE) := Sta.start ev_CONTINUE (Or.inr ⟨(hw _ (List.mem_of_getElem? (i := 2) rfl)), (hw _ (List.mem_of_getElem? (i := 26) rfl))⟩)
  have E_CONTINUE : Exa s s.heap a_CONTINUE "com/example/parley/parley/Status" := Exa.start ev_CONTINUE ga13
  obtain ⟨a_NOT_FOUND, ev_NOT_FOUND⟩ := exa_v ga15
  have S_NOT_FOUND : Sta s s.heap "com/example/parley/parley/Status" "NOT_FOUND" "Lcom/example/parley/parley/Status;" (.ref a_NOT_FOUND) := Sta.start ev_NOT_FOUND (Or.inr ⟨(hw _ (List.mem_of_getElem? (i := 2) rfl)), (hw _ (List.mem_of_getElem? (i := 28) rfl))⟩)
  have E_NOT_FOUND : Exa s s.heap a_NOT_FOUND "com/example/parley/parley/Status" := Exa.start ev_NOT_FOUND ga15
  obtain ⟨a_SERVER_ERROR, ev_SERVER_ERROR⟩ := exa_v ga17
  have S_SERVER_ERROR : Sta s s.heap "com/example/parley/parley/Status" "SERVER_ERROR" "Lcom/example/parley/parley/Status;" (.ref a_SERVER_ERROR) := Sta.start ev_SERVER_ERROR (Or.inr ⟨(hw _ (List.mem_of_getElem? (i := 2) rfl)), (hw _ (List.mem_of_getElem? (i := 30) rfl))⟩)
  have E_SERVER_ERROR : Exa s s.heap a_SERVER_ERROR "com/example/parley/parley/Status" := Exa.start ev_SERVER_ERROR ga17
  obtain ⟨a_REQUEST_COMPLETE, ev_REQUEST_COMPLETE⟩ := exa_v ga51
  have S_REQUEST_COMPLETE : Sta s s.heap "com/example/parley/parley/Status" "REQUEST_COMPLETE" "Lcom/example/parley/parley/Status;" (.ref a_REQUEST_COMPLETE) := Sta.start ev_REQUEST_COMPLETE (Or.inr ⟨(hw _ (List.mem_of_getElem? (i := 2) rfl)), (hw _ (List.mem_of_getElem? (i := 5) rfl))⟩)
  have E_REQUEST_COMPLETE : Exa s s.heap a_REQUEST_COMPLETE "com/example/parley/parley/Status" := Exa.start ev_REQUEST_COMPLETE ga51
  obtain ⟨a_EXPECTATION_FAILED, ev_EXPECTATION_FAILED⟩ := exa_v ga53
  have S_EXPECTATION_FAILED : Sta s s.heap "com/example/parley/parley/Status" "EXPECTATION_FAILED" "Lcom/example/parley/parley/Status;" (.ref a_EXPECTATION_FAILED) := Sta.start ev_EXPECTATION_FAILED (Or.inr ⟨(hw _ (List.mem_of_getElem? (i := 2) rfl)), (hw _ (List.mem_of_getElem? (i := 9) rfl))⟩)
  have E_EXPECTATION_FAILED : Exa s s.heap a_EXPECTATION_FAILED "com/example/parley/parley/Status" := Exa.start ev_EXPECTATION_FAILED ga53
  obtain ⟨a_BAD_REQUEST, ev_BAD_REQUEST⟩ := exa_v ga55
  have S_BAD_REQUEST : Sta s s.heap "com/example/parley/parley/Status" "BAD_REQUEST" "Lcom/example/parley/parley/Status;" (.ref a_BAD_REQUEST) := Sta.start ev_BAD_REQUEST (Or.inr ⟨(hw _ (List.mem_of_getElem? (i := 2) rfl)), (hw _ (List.mem_of_getElem? (i := 15) rfl))⟩)
  have E_BAD_REQUEST : Exa s s.heap a_BAD_REQUEST "com/example/parley/parley/Status" := Exa.start ev_BAD_REQUEST ga55
  obtain ⟨a_OK, ev_OK⟩ := exa_v ga57
  have S_OK : Sta s s.heap "com/example/parley/parley/Status" "OK" "Lcom/example/parley/parley/Status;" (.ref a_OK) := Sta.start ev_OK (Or.inr ⟨(hw _ (List.mem_of_getElem? (i := 2) rfl)), (hw _ (List.mem_of_getElem? (i := 22) rfl))⟩)
  have E_OK : Exa s s.heap a_OK "com/example/parley/parley/Status" := Exa.start ev_OK ga57
  obtain ⟨a_FORBIDDEN, ev_FORBIDDEN⟩ := exa_v ga59
  have S_FORBIDDEN : Sta s s.heap "com/example/parley/parley/Status" "FORBIDDEN" "Lcom/example/parley/parley/Status;" (.ref a_FORBIDDEN) := Sta.start ev_FORBIDDEN (Or.inr ⟨(hw _ (List.mem_of_getElem? (i := 2) rfl)), (hw _ (List.mem_of_getElem? (i := 24) rfl))⟩)
  have E_FORBIDDEN : Exa s s.heap a_FORBIDDEN "com/example/parley/parley/Status" := Exa.start ev_FORBIDDEN ga59
  obtain ⟨a_CONTINUE, ev_CONTINUE⟩ := exa_v ga61
  have S_CONTINUE : Sta s s.heap "com/example/parley/parley/Status" "CONTINUE" "Lcom/example/parley/parley/Status;" (.ref a_CONTINUE) := Sta.start ev_CONTINUE (Or.inr ⟨(hw _ (List.mem_of_getElem? (i := 2) rfl)), (hw _ (List.mem_of_getElem? (i := 26) rfl))⟩)
  have E_CONTINUE : Exa s s.heap a_CONTINUE "com/example/parley/parley/Status" := Exa.start ev_CONTINUE ga61
  obtain ⟨a_NOT_FOUND, ev_NOT_FOUND⟩ := exa_v ga63
  have S_NOT_FOUND : Sta s s.heap "com/example/parley/parley/Status" "NOT_FOUND" "Lcom/example/parley/parley/Status;" (.ref a_NOT_FOUND) := Sta.start ev_NOT_FOUND (Or.inr ⟨(hw _ (List.mem_of_getElem? (i := 2) rfl)), (hw _ (List.mem_of_getElem? (i := 28) rfl))⟩)
  have E_NOT_FOUND : Exa s s.heap a_NOT_FOUND "com/example/parley/parley/Status" := Exa.start ev_NOT_FOUND ga63
  obtain ⟨a_SERVER_ERROR, ev_SERVER_ERROR⟩ := exa_v ga65
  have S_SERVER_ERROR : Sta s s.heap "com/example/parley/parley/Status" "SERVER_ERROR" "Lcom/example/parley/parley/Status;" (.ref a_SERVER_ERROR) := Sta.start ev_SERVER_ERROR (Or.inr ⟨(hw _ (List.mem_of_getElem? (i := 2) rfl)), (hw _ (List.mem_of_getElem? (i := 30) rfl))⟩)
  have E_SERVER_ERROR : Exa s s.heap a_SERVER_ERROR "com/example/parley/parley/Status" := Exa.start ev_SERVER_ERROR ga65
  have F_REQUEST_COMPLETE : Fld s s.heap a_REQUEST_COMPLETE "com/example/parley/parley/Status" "code" "I" (.int (205 : Int32)) := own_fldI ev_REQUEST_COMPLETE ga4
  have F_EXPECTATION_FAILED : Fld s s.heap a_EXPECTATION_FAILED "com/example/parley/parley/Status" "code" "I" (.int (417 : Int32)) := own_fldI ev_EXPECTATION_FAILED ga6
  have F_BAD_REQUEST : Fld s s.heap a_BAD_REQUEST "com/example/parley/parley/Status" "code" "I" (.int (400 : Int32)) := own_fldI ev_BAD_REQUEST ga8
  have F_OK : Fld s s.heap a_OK "com/example/parley/parley/Status" "code" "I" (.int (200 : Int32)) := own_fldI ev_OK ga10
  have F_FORBIDDEN : Fld s s.heap a_FORBIDDEN "com/example/parley/parley/Status" "code" "I" (.int (403 : Int32)) := own_fldI ev_FORBIDDEN ga12
  have F_CONTINUE : Fld s s.heap a_CONTINUE "com/example/parley/parley/Status" "code" "I" (.int (100 : Int32)) := own_fldI ev_CONTINUE ga14
  have F_NOT_FOUND : Fld s s.heap a_NOT_FOUND "com/example/parley/parley/Status" "code" "I" (.int (404 : Int32)) := own_fldI ev_NOT_FOUND ga16
  have F_SERVER_ERROR : Fld s s.heap a_SERVER_ERROR "com/example/parley/parley/Status" "code" "I" (.int (500 : Int32)) := own_fldI ev_SERVER_ERROR gb17
  have F_REQUEST_COMPLETE : Fld s s.heap a_REQUEST_COMPLETE "com/example/parley/parley/Status" "code" "I" (.int (205 : Int32)) := own_fldI ev_REQUEST_COMPLETE ga52
  have F_EXPECTATION_FAILED : Fld s s.heap a_EXPECTATION_FAILED "com/example/parley/parley/Status" "code" "I" (.int (417 : Int32)) := own_fldI ev_EXPECTATION_FAILED ga54
  have F_BAD_REQUEST : Fld s s.heap a_BAD_REQUEST "com/example/parley/parley/Status" "code" "I" (.int (400 : Int32)) := own_fldI ev_BAD_REQUEST ga56
  have F_OK : Fld s s.heap a_OK "com/example/parley/parley/Status" "code" "I" (.int (200 : Int32)) := own_fldI ev_OK ga58
  have F_FORBIDDEN : Fld s s.heap a_FORBIDDEN "com/example/parley/parley/Status" "code" "I" (.int (403 : Int32)) := own_fldI ev_FORBIDDEN ga60
  have F_CONTINUE : Fld s s.heap a_CONTINUE "com/example/parley/parley/Status" "code" "I" (.int (100 : Int32)) := own_fldI ev_CONTINUE ga62
  have F_NOT_FOUND : Fld s s.heap a_NOT_FOUND "com/example/parley/parley/Status" "code" "I" (.int (404 : Int32)) := own_fldI ev_NOT_FOUND ga64
  have F_SERVER_ERROR : Fld s s.heap a_SERVER_ERROR "com/example/parley/parley/Status" "code" "I" (.int (500 : Int32)) := own_fldI ev_SERVER_ERROR gb65
  have hA : All s s.heap := ⟨⟨a_CONTINUE, S_CONTINUE, E_CONTINUE, F_CONTINUE⟩, ⟨a_OK, S_OK, E_OK, F_OK⟩, ⟨a_REQUEST_COMPLETE, S_REQUEST_COMPLETE, E_REQUEST_COMPLETE, F_REQUEST_COMPLETE⟩, ⟨a_BAD_REQUEST, S_BAD_REQUEST, E_BAD_REQUEST, F_BAD_REQUEST⟩, ⟨a_FORBIDDEN, S_FORBIDDEN, E_FORBIDDEN, F_FORBIDDEN⟩, ⟨a_NOT_FOUND, S_NOT_FOUND, E_NOT_FOUND, F_NOT_FOUND⟩, ⟨a_EXPECTATION_FAILED, S_EXPECTATION_FAILED, E_EXPECTATION_FAILED, F_EXPECTATION_FAILED⟩, ⟨a_SERVER_ERROR, S_SERVER_ERROR, E_SERVER_ERROR, F_SERVER_ERROR⟩⟩
  obtain ⟨n, o, h1, h2, h3, _, L, rfl, ⟨rfl, N⟩, hq⟩ := rm_law l s _ hw tables_1 i0 i1 s.heap s.heap.size (Nat.le_refl _) hA p e ha hc hk s m _ below hf ((Spec.applies_iff_loose hf).mp happ).1 ⟨rfl, State.Warmed39.refl s, rfl⟩ trivial
  refine ⟨n, _, h1, h2, h3, hpost _ _ _ _ _ _ ⟨Cond.after_iff.mpr rfl, Cond.after_iff.mpr (eq_i res_at (Term.int_eval (1)) rfl), trivial⟩ ⟨hq.1, hq.2.1, (hq.2.2.sift fun y hy => Or.inr (N y hy)).mono (by decide) (by decide)⟩⟩
theorem main_1_1 : Claimed_1_1 := comes_1 fun _ _ _ _ _ _ h hF => ⟨h.1, hF⟩
theorem main_1_2 : Claimed_1_2 := comes_1 fun _ _ _ _ _ _ h hF => ⟨h.2.1, hF⟩
end Jvm.Pilot.@@N@@
namespace Jvm.Pilot.@@N@@
open Jvm Jvm.ClassFile Sem Op Lib Jvm.Free Jvm.Stand Jvm.Pilot.@@N@@.Jvm.D
/-! MADE BY PROGRAM (witnessworld.py) out of the Statement's table words and the real class files: 12 classes; the members and pool entries that the words name. The judged class is class 1, her method 2. -/
namespace start1
open Jvm.ClassFile
def u (s : String) : CpInfo := .utf8 (stringToUtf16 s)
/-- a pool by its gaps: so many unusable entries, then the entry; so many at the end -/
def gap : Nat → List CpInfo → List CpInfo
  | 0, r => r
  | n + 1, r => .unusable :: gap n r
def poolList (es : List (Nat × CpInfo)) (last : Nat) : List CpInfo := es.foldr (fun e r => gap e.1 (e.2 :: r)) (gap last [])
def pool (es : List (Nat × CpInfo)) (last : Nat) : Array CpInfo := ⟨poolList es last⟩
def fileOf (pool : Array CpInfo) (this : Nat) (attrs : Array Attribute := #[]) (ms : Array MethodInfo := #[]) (fl : Nat := 33) (sup : Nat := 0) (ifs : Array Nat := #[]) (fds : Array FieldInfo := #[]) : ClassFile where
  minorVersion := 0
  majorVersion := 65
  constantPool := pool
  accessFlags := fl
  thisClass := this
  superClass := sup
  interfaces := ifs
  fields := fds
  methods := ms
  attributes := attrs
def plain (name : String) (sup : Option ClassId) : Class where
  name := name
  kind := .ordinary
  loader := none
  accessFlags := 33
  super := sup
  interfaces := #[]
  cf := none
  fields := #[]
  methods := #[]
  instanceTypes := #[]
  staticTypes := #[]
  resolved := #[]
  callSites := []
  init := .initialized
  statics := none
  mirror := none

def pool0 : Array CpInfo := pool [(5, u "<init>"), (0, u "()V"), (1, .class_ 10), (1, u "java/lang/Object")] 113

def k0m0 : Method := { name := "<init>", desc := "()V", sig := { parameters := [], returnType := none }, accessFlags := 1, code := none }
/-- java/lang/Object -/
def k0 : Class := { plain "java/lang/Object" none with
  accessFlags := 33
  interfaces := #[]
  cf := some (fileOf pool0 8 #[] #[{ accessFlags := 1, nameIndex := 5, descriptorIndex := 6, attributes := #[] }] 33 0 #[] #[])
  fields := #[]
  methods := #[k0m0]
  instanceTypes := #[]
  staticTypes := #[]
  resolved := Array.replicate 124 none
  statics := none }

def pool1 : Array CpInfo := pool [(2, .class_ 4), (1, u "java/lang/Object"), (0, u "<init>"), (0, u "()V"), (0, .fieldref 8 9), (0, .class_ 10), (0, .nameAndType 11 12), (0, u "com/example/parley/parley/Status"), (0, u "CONTINUE"), (0, u "Lcom/example/parley/parley/Status;"), (0, .fieldref 8 14), (0, .nameAndType 15 12), (0, u "OK"), (0, .fieldref 8 17), (0, .nameAndType 18 12), (0, u "REQUEST_COMPLETE"), (0, .fieldref 8 20), (0, .nameAndType 21 12), (0, u "BAD_REQUEST"), (0, .fieldref 8 23), (0, .nameAndType 24 12), (0, u "FORBIDDEN"), (0, .fieldref 8 26), (0, .nameAndType 27 12), (0, u "NOT_FOUND"), (0, .fieldref 8 29), (0, .nameAndType 30 12), (0, u "EXPECTATION_FAILED"), (0, .fieldref 8 32), (0, .nameAndType 33 12), (0, u "SERVER_ERROR"), (0, .methodref 8 35), (0, .nameAndType 36 37), (0, u "isTerminal"), (0, u "(I)Z"), (0, .methodref 39 40), (0, .class_ 41), (0, .nameAndType 42 43), (0, u "com/example/parley/parley/StatusIsTerminalPinLaw"), (0, u "pick"), (0, u "(I)Lcom/example/parley/parley/Status;"), (0, .methodref 8 45), (0, .nameAndType 46 47), (0, u "code"), (0, u "()I"), (3, u "law"), (0, u "(II)Z")] 2

def k1m0 : Method := { name := "<init>", desc := "()V", sig := { parameters := [], returnType := none }, accessFlags := 2, code := none }
def k1c1 : Code := { maxStack := 2, maxLocals := 1, code := method_2_code, exceptionTable := #[], attributes := #[] }
def k1m1 : Method := { name := "pick", desc := "(I)Lcom/example/parley/parley/Status;", sig := { parameters := [.int], returnType := some (.object "com/example/parley/parley/Status") }, accessFlags := 10, code := some k1c1 }
def k1c2 : Code := { maxStack := 3, maxLocals := 9, code := code, exceptionTable := #[], attributes := #[] }
def k1m2 : Method := { name := "law", desc := "(II)Z", sig := { parameters := [.int, .int], returnType := some .boolean }, accessFlags := 9, code := some k1c2 }
/-- com/example/parley/parley/StatusIsTerminalPinLaw -/
def k1 : Class := { plain "com/example/parley/parley/StatusIsTerminalPinLaw" (some 0) with
  accessFlags := 49
  interfaces := #[]
  cf := some (fileOf pool1 39 #[] #[{ accessFlags := 2, nameIndex := 5, descriptorIndex := 6, attributes := #[] }, { accessFlags := 10, nameIndex := 42, descriptorIndex := 43, attributes := #[] }, { accessFlags := 9, nameIndex := 51, descriptorIndex := 52, attributes := #[] }] 49 2 #[] #[])
  fields := #[]
  methods := #[k1m0, k1m1, k1m2]
  instanceTypes := #[]
  staticTypes := #[]
  resolved := Array.replicate 55 none
  statics := none }

def pool2 : Array CpInfo := pool [(1, .class_ 2), (0, u "java/lang/constant/Constable"), (0, .class_ 4), (0, u "java/lang/Object")] 6

/-- java/lang/constant/Constable -/
def k2 : Class := { plain "java/lang/constant/Constable" (some 0) with
  accessFlags := 1537
  interfaces := #[]
  cf := some (fileOf pool2 1 #[] #[] 1537 3 #[] #[])
  fields := #[]
  methods := #[]
  instanceTypes := #[]
  staticTypes := #[]
  resolved := Array.replicate 11 none
  statics := none }

def pool3 : Array CpInfo := pool [(1, .class_ 2), (0, u "java/lang/Comparable"), (0, .class_ 4), (0, u "java/lang/Object")] 7

/-- java/lang/Comparable -/
def k3 : Class := { plain "java/lang/Comparable" (some 0) with
  accessFlags := 1537
  interfaces := #[]
  cf := some (fileOf pool3 1 #[] #[] 1537 3 #[] #[])
  fields := #[]
  methods := #[]
  instanceTypes := #[]
  staticTypes := #[]
  resolved := Array.replicate 12 none
  statics := none }

def pool4 : Array CpInfo := pool [(1, .class_ 2), (0, u "java/io/Serializable"), (0, .class_ 4), (0, u "java/lang/Object")] 2

/-- java/io/Serializable -/
def k4 : Class := { plain "java/io/Serializable" (some 0) with
  accessFlags := 1537
  interfaces := #[]
  cf := some (fileOf pool4 1 #[] #[] 1537 3 #[] #[])
  fields := #[]
  methods := #[]
  instanceTypes := #[]
  staticTypes := #[]
  resolved := Array.replicate 7 none
  statics := none }

def pool5 : Array CpInfo := pool [(2, .class_ 4), (1, u "java/lang/Enum"), (0, u "name"), (0, u "Ljava/lang/String;"), (2, u "ordinal"), (0, u "I"), (1, .class_ 14), (1, u "java/lang/Object"), (4, u "hash"), (86, .class_ 108), (1, u "java/lang/Enum$EnumDesc"), (2, .class_ 112), (0, u "java/lang/constant/Constable"), (0, .class_ 114), (0, u "java/lang/Comparable"), (0, .class_ 116), (0, u "java/io/Serializable")] 87

/-- java/lang/Enum -/
def k5 : Class := { plain "java/lang/Enum" (some 0) with
  accessFlags := 1057
  interfaces := #[2, 3, 4]
  cf := some (fileOf pool5 2 #[.nestMembers #[106]] #[] 1057 12 #[111, 113, 115] #[{ accessFlags := 18, nameIndex := 5, descriptorIndex := 6, attributes := #[] }, { accessFlags := 18, nameIndex := 9, descriptorIndex := 10, attributes := #[] }, { accessFlags := 2, nameIndex := 19, descriptorIndex := 10, attributes := #[] }])
  fields := #[{ name := "name", type := (.object "java/lang/String"), accessFlags := 18, slot := 0, constantValue := 0 }, { name := "ordinal", type := .int, accessFlags := 18, slot := 1, constantValue := 0 }, { name := "hash", type := .int, accessFlags := 2, slot := 2, constantValue := 0 }]
  methods := #[]
  instanceTypes := #[(.object "java/lang/String"), .int, .int]
  staticTypes := #[]
  resolved := Array.replicate 204 none
  statics := none }

def pool6 : Array CpInfo := pool [(1, .class_ 2), (0, u "com/example/parley/parley/Status"), (2, u "CONTINUE"), (0, u "Lcom/example/parley/parley/Status;"), (2, u "OK"), (0, .fieldref 1 11), (0, .nameAndType 12 6), (0, u "REQUEST_COMPLETE"), (2, u "BAD_REQUEST"), (2, u "FORBIDDEN"), (2, u "NOT_FOUND"), (0, .fieldref 1 23), (0, .nameAndType 24 6), (0, u "EXPECTATION_FAILED"), (2, u "SERVER_ERROR"), (2, u "$VALUES"), (0, u "[Lcom/example/parley/parley/Status;"), (6, .class_ 40), (1, u "java/lang/Enum"), (6, .fieldref 1 48), (0, .nameAndType 49 50), (0, u "code"), (0, u "I"), (2, u "text"), (0, u "Ljava/lang/String;"), (29, u "FIRST_ERROR_CODE"), (9, u "()I"), (1, u "isTerminal"), (0, u "(I)Z")] 6

def k6c0 : Code := { maxStack := 1, maxLocals := 1, code := prog_17_method_4_code, exceptionTable := #[], attributes := #[] }
def k6m0 : Method := { name := "code", desc := "()I", sig := { parameters := [], returnType := some .int }, accessFlags := 0, code := some k6c0 }
def k6c1 : Code := { maxStack := 2, maxLocals := 1, code := prog_17_method_6_code, exceptionTable := #[], attributes := #[] }
def k6m1 : Method := { name := "isTerminal", desc := "(I)Z", sig := { parameters := [.int], returnType := some .boolean }, accessFlags := 8, code := some k6c1 }
/-- com/example/parley/parley/Status -/
def k6 : Class := { plain "com/example/parley/parley/Status" (some 5) with
  accessFlags := 16432
  interfaces := #[]
  cf := some (fileOf pool6 1 #[] #[{ accessFlags := 0, nameIndex := 49, descriptorIndex := 94, attributes := #[] }, { accessFlags := 8, nameIndex := 96, descriptorIndex := 97, attributes := #[] }] 16432 38 #[] #[{ accessFlags := 16409, nameIndex := 5, descriptorIndex := 6, attributes := #[] }, { accessFlags := 16409, nameIndex := 9, descriptorIndex := 6, attributes := #[] }, { accessFlags := 16409, nameIndex := 12, descriptorIndex := 6, attributes := #[] }, { accessFlags := 16409, nameIndex := 15, descriptorIndex := 6, attributes := #[] }, { accessFlags := 16409, nameIndex := 18, descriptorIndex := 6, attributes := #[] }, { accessFlags := 16409, nameIndex := 21, descriptorIndex := 6, attributes := #[] }, { accessFlags := 16409, nameIndex := 24, descriptorIndex := 6, attributes := #[] }, { accessFlags := 16409, nameIndex := 27, descriptorIndex := 6, attributes := #[] }, { accessFlags := 24, nameIndex := 84, descriptorIndex := 50, attributes := #[] }, { accessFlags := 18, nameIndex := 49, descriptorIndex := 50, attributes := #[] }, { accessFlags := 18, nameIndex := 53, descriptorIndex := 54, attributes := #[] }, { accessFlags := 4122, nameIndex := 30, descriptorIndex := 31, attributes := #[] }])
  fields := #[{ name := "CONTINUE", type := (.object "com/example/parley/parley/Status"), accessFlags := 16409, slot := 0, constantValue := 0 }, { name := "OK", type := (.object "com/example/parley/parley/Status"), accessFlags := 16409, slot := 1, constantValue := 0 }, { name := "REQUEST_COMPLETE", type := (.object "com/example/parley/parley/Status"), accessFlags := 16409, slot := 2, constantValue := 0 }, { name := "BAD_REQUEST", type := (.object "com/example/parley/parley/Status"), accessFlags := 16409, slot := 3, constantValue := 0 }, { name := "FORBIDDEN", type := (.object "com/example/parley/parley/Status"), accessFlags := 16409, slot := 4, constantValue := 0 }, { name := "NOT_FOUND", type := (.object "com/example/parley/parley/Status"), accessFlags := 16409, slot := 5, constantValue := 0 }, { name := "EXPECTATION_FAILED", type := (.object "com/example/parley/parley/Status"), accessFlags := 16409, slot := 6, constantValue := 0 }, { name := "SERVER_ERROR", type := (.object "com/example/parley/parley/Status"), accessFlags := 16409, slot := 7, constantValue := 0 }, { name := "FIRST_ERROR_CODE", type := .int, accessFlags := 24, slot := 8, constantValue := 0 }, { name := "code", type := .int, accessFlags := 18, slot := 3, constantValue := 0 }, { name := "text", type := (.object "java/lang/String"), accessFlags := 18, slot := 4, constantValue := 0 }, { name := "$VALUES", type := (.array (.object "com/example/parley/parley/Status")), accessFlags := 4122, slot := 9, constantValue := 0 }]
  methods := #[k6m0, k6m1]
  instanceTypes := #[(.object "java/lang/String"), .int, .int, .int, (.object "java/lang/String")]
  staticTypes := #[(.object "com/example/parley/parley/Status"), (.object "com/example/parley/parley/Status"), (.object "com/example/parley/parley/Status"), (.object "com/example/parley/parley/Status"), (.object "com/example/parley/parley/Status"), (.object "com/example/parley/parley/Status"), (.object "com/example/parley/parley/Status"), (.object "com/example/parley/parley/Status"), .int, (.array (.object "com/example/parley/parley/Status"))]
  resolved := Array.replicate 104 none
  statics := some 0 }

def pool7 : Array CpInfo := pool [(1, u "java/lang/Cloneable"), (0, .class_ 1), (0, u "java/lang/Object"), (0, .class_ 3)] 3

/-- java/lang/Cloneable -/
def k7 : Class := { plain "java/lang/Cloneable" (some 0) with
  accessFlags := 1537
  interfaces := #[]
  cf := some (fileOf pool7 2 #[] #[] 1537 4 #[] #[])
  fields := #[]
  methods := #[]
  instanceTypes := #[]
  staticTypes := #[]
  resolved := Array.replicate 8 none
  statics := none }

/-- the primitive byte -/
def k8 : Class := { plain "byte" none with kind := .primitive 'B', accessFlags := 0x411 }
/-- [B -/
def k9 : Class := { plain "[B" (some 0) with kind := .array 8 .byte, interfaces := #[7, 4], accessFlags := 1041 }

/-- the primitive int -/
def k10 : Class := { plain "int" none with kind := .primitive 'I', accessFlags := 0x411 }
/-- [I -/
def k11 : Class := { plain "[I" (some 0) with kind := .array 10 .int, interfaces := #[7, 4], accessFlags := 1041 }

def heap : Heap := #[{ cls := 6, slots := #[.ref 1, .ref 2, .ref 3, .ref 4, .ref 5, .ref 6, .ref 7, .ref 8, .int 0, .null], vm := .statics 6 },
  { cls := 6, slots := #[.null, .int 0, .int 0, .int 100, .null], vm := .none },
  { cls := 6, slots := #[.null, .int 1, .int 0, .int 200, .null], vm := .none },
  { cls := 6, slots := #[.null, .int 2, .int 0, .int 205, .null], vm := .none },
  { cls := 6, slots := #[.null, .int 3, .int 0, .int 400, .null], vm := .none },
  { cls := 6, slots := #[.null, .int 4, .int 0, .int 403, .null], vm := .none },
  { cls := 6, slots := #[.null, .int 5, .int 0, .int 404, .null], vm := .none },
  { cls := 6, slots := #[.null, .int 6, .int 0, .int 417, .null], vm := .none },
  { cls := 6, slots := #[.null, .int 7, .int 0, .int 500, .null], vm := .none }]
def classes : Array Class := #[k0, k1, k2, k3, k4, k5, k6, k7, k8, k9, k10, k11]
def interned : List (Array UInt16 × Addr) := []
def slotsUsed : Nat := 50
def theMethod : MethodId := ⟨1, 2⟩
def args0 : Array Value := #[.int 205, .int 5]
def aboutOver (below : List Frame) : State where
  vm := { classes := classes, interned := interned.toArray }
  heap := heap
  slotsUsed := slotsUsed
  threads := #[{ frames := .invoking theMethod args0 :: below }]
def below0 : List Frame := [.native { method := ⟨0, 0⟩, args := #[] }]
def about1 : State := aboutOver below0
def p0 : Program := .bare "" "" ""
def e0 : Env := launch0.env 0 0 0
theorem w_frames : about1.frames = Frame.invoking theMethod args0 :: below0 := rfl
set_option maxRecDepth 65536 in
theorem w_args : argsFit about1.vm theMethod args0 = true := by decide +kernel
set_option maxRecDepth 65536 in
theorem w_heap : heapFits about1 = true := by decide +kernel
set_option maxRecDepth 65536 in
theorem w_runnable : about1.curStatus? = some .runnable := by decide +kernel
set_option maxRecDepth 65536 in
theorem w_alone : about1.alone = true := by decide +kernel
set_option maxRecDepth 65536 in
theorem w_named : about1.methodNamed? x = some theMethod := by decide +kernel
set_option maxRecDepth 65536 in
theorem w_hears : about1.hears theMethod below0 = true := by decide +kernel
set_option maxRecDepth 65536 in
theorem w_ripe : about1.ripe theMethod args0 below0 = true := by decide +kernel
theorem w_running : about1.status = .running := rfl
set_option maxRecDepth 65536 in
theorem w_room : about1.hasRoom e0.platform room_1 = true :=
  launch0.hasRoom_least _ room_1 (by decide +kernel) (by decide +kernel) (by decide +kernel) (by decide +kernel) (by decide +kernel) (by decide +kernel)
theorem allAtoms_all (ts : List Jvm.Cond) (a : Array Jvm.Value) (st : Jvm.State) : (allAtoms ts).before a st = ts.all (fun c => c.before a st) := by
  induction ts with
  | nil => rfl
  | cons c t ih =>
    show (Jvm.Cond.and c (allAtoms t)).before a st = _
    rw [Jvm.Cond.before_and, ih, List.all_cons]
def words1 : List Jvm.Cond := Jvm.Cond.code x code maxLocals ret :: tables_1
/-- a 'code' word, met by the world's own term for the bytes: nothing is compared byte by byte -/
theorem code_word {y : MethodName} {bytes : ByteArray} {mx : Nat} {rt : Option FieldType} {a : Array Value} {s : State} {m : MethodId} {meth : Method} {c : Code} (h1 : s.methodNamed? y = some m) (h2 : s.vm.method? m = some meth) (h3 : meth.code = some c) (h4 : c.code = bytes)
    (h5 : (c.maxLocals == mx && c.exceptionTable.isEmpty && decide (c.maxStack ≤ mostOperands) && decide (meth.sig.returnType = rt) && !meth.locks && decide (parseMethodDescriptor y.desc = some meth.sig)) = true) : (Jvm.Cond.code y bytes mx rt).before a s = true := by
  simp only [Bool.and_eq_true, beq_iff_eq, Bool.not_eq_true', decide_eq_true_eq] at h5
  obtain ⟨⟨⟨⟨⟨g1, g2⟩, g3⟩, g4⟩, g5⟩, g6⟩ := h5
  simp [Cond.before, Cond.holds, Cond.value, h1, h2, h3, h4, g1, g2, g3, g4, g5, g6]
def isCode : Jvm.Cond → Bool
  | .code _ _ _ _ => true
  | _ => false
theorem all_split {L : List Jvm.Cond} {P : Jvm.Cond → Bool} (h1 : L.all (fun c => isCode c || P c) = true) (h2 : ∀ c ∈ L.filter isCode, P c = true) : L.all P = true := by
  refine List.all_eq_true.mpr fun c hc => ?_
  have h := List.all_eq_true.mp h1 c hc
  rcases Bool.eq_false_or_eq_true (isCode c) with hi | hi
  · exact h2 c (List.mem_filter.mpr ⟨hc, hi⟩)
  · simpa [hi] using h
set_option maxRecDepth 65536 in
theorem w_c0 : (Jvm.Cond.code x code maxLocals ret).before args0 about1 = true := code_word (m := ⟨1, 2⟩) (meth := k1m2) (c := k1c2) (by decide +kernel) rfl rfl rfl (by decide +kernel)
set_option maxRecDepth 65536 in
theorem w_c1 : (Jvm.Cond.code ({ cls := "com/example/parley/parley/Status", name := "isTerminal", desc := "(I)Z" } : Jvm.MethodName) prog_17_method_6_code (1 : Nat) (Option.some Jvm.ClassFile.FieldType.boolean)).before args0 about1 = true := code_word (m := ⟨6, 1⟩) (meth := k6m1) (c := k6c1) (by decide +kernel) rfl rfl rfl (by decide +kernel)
set_option maxRecDepth 65536 in
theorem w_c2 : (Jvm.Cond.code ({ cls := "com/example/parley/parley/StatusIsTerminalPinLaw", name := "pick", desc := "(I)Lcom/example/parley/parley/Status;" } : Jvm.MethodName) method_2_code (1 : Nat) (Option.some (Jvm.ClassFile.FieldType.object "com/example/parley/parley/Status"))).before args0 about1 = true := code_word (m := ⟨1, 1⟩) (meth := k1m1) (c := k1c1) (by decide +kernel) rfl rfl rfl (by decide +kernel)
set_option maxRecDepth 65536 in
theorem w_c3 : (Jvm.Cond.code ({ cls := "com/example/parley/parley/Status", name := "code", desc := "()I" } : Jvm.MethodName) prog_17_method_4_code (1 : Nat) (Option.some Jvm.ClassFile.FieldType.int)).before args0 about1 = true := code_word (m := ⟨6, 0⟩) (meth := k6m0) (c := k6c0) (by decide +kernel) rfl rfl rfl (by decide +kernel)
def codes1 : List Jvm.Cond := [Jvm.Cond.code x code maxLocals ret, Jvm.Cond.code ({ cls := "com/example/parley/parley/Status", name := "isTerminal", desc := "(I)Z" } : Jvm.MethodName) prog_17_method_6_code (1 : Nat) (Option.some Jvm.ClassFile.FieldType.boolean), Jvm.Cond.code ({ cls := "com/example/parley/parley/StatusIsTerminalPinLaw", name := "pick", desc := "(I)Lcom/example/parley/parley/Status;" } : Jvm.MethodName) method_2_code (1 : Nat) (Option.some (Jvm.ClassFile.FieldType.object "com/example/parley/parley/Status")), Jvm.Cond.code ({ cls := "com/example/parley/parley/Status", name := "code", desc := "()I" } : Jvm.MethodName) prog_17_method_4_code (1 : Nat) (Option.some Jvm.ClassFile.FieldType.int)]
set_option maxRecDepth 65536 in
theorem codes_eq : words1.filter isCode = codes1 := rfl
theorem w_codes : ∀ c ∈ words1.filter isCode, c.before args0 about1 = true := by
  rw [codes_eq]
  intro c hc
  simp only [codes1, List.mem_cons, List.not_mem_nil, or_false] at hc
  rcases hc with rfl | rfl | rfl | rfl
  · exact w_c0
  · exact w_c1
  · exact w_c2
  · exact w_c3
set_option maxRecDepth 65536 in
theorem w_t1 : (words1.take 24).all (fun c => isCode c || c.before args0 about1) = true := by decide +kernel
set_option maxRecDepth 65536 in
theorem w_t2 : (words1.drop 24).all (fun c => isCode c || c.before args0 about1) = true := by decide +kernel
theorem w_tables : (allAtoms (Jvm.Cond.code x code maxLocals ret :: tables_1)).before args0 about1 = true := by
  rw [allAtoms_all]
  show words1.all (fun c => c.before args0 about1) = true
  refine all_split ?_ w_codes
  rw [← List.take_append_drop 24 words1, List.all_append, w_t1, w_t2]
  rfl
set_option maxRecDepth 65536 in
theorem w_case : (Jvm.Cond.and given_1 narrow_1).before args0 about1 = true := by decide +kernel
theorem w_applies : (headSpec (Jvm.Cond.code x code maxLocals ret :: tables_1) room_1).applies x e0.platform about1 = true :=
  (Spec.applies_iff w_frames).mpr ⟨w_running, w_runnable, w_alone, w_named, w_hears, w_ripe, w_room, w_tables⟩
theorem atStart : AtStart classFile x code maxLocals ret World_1 tables_1 room_1 Calls_1 rest_1 Pre_1 launch0 p0 e0 about1 theMethod args0 below0 :=
  ⟨lists_1, trivial, launch0.admits_env _ _ _, launch0.least_env, fairChoices_fair.cas, fairChoices_fair.clock, w_frames, w_args, w_heap, w_applies, trivial, trivial, w_case⟩
end start1
theorem witness_1 : WitnessClaimed_1 := ⟨start1.p0, start1.e0, start1.about1, start1.theMethod, start1.args0, start1.below0, start1.atStart⟩
end Jvm.Pilot.@@N@@
