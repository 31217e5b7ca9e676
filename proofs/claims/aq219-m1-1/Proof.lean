import JvmDerived
import JvmDerived.Pilot.@@N@@Statement
import JvmDerived.Pilot.@@N@@Code
set_option linter.unusedVariables false
set_option linter.unusedSimpArgs false
namespace Jvm.Pilot.@@N@@
open Jvm Jvm.ClassFile Sem Op Lib Jvm.Free Jvm.Stand Jvm.LawKit Jvm.RoadKit Bundle Jvm.Pilot.@@N@@.Jvm.D
section OwnLayer
variable {p : Program} {l : Launch} {e : Env} {R : Room} {s : State} {m : MethodId} {args : Array Value} {below : List Frame} {meth : Method} {c : Code} {T T' : State} {locs : List Loc} {cells slots : Nat} {K N : Nat} {Q : Option Value → Heap → List Loc → Prop}
/-- from the frame g over the state T the body comes to its end, and Q holds there -/
def Go (p : Program) (e : Env) (below : List Frame) (s : State) (K N : Nat) (Q : Option Value → Heap → List Loc → Prop) (T : State) (g : JFrame) : Prop :=
  ∃ s₂ o, Steps p.tables e below (T.setTop g) s₂ ∧ s₂.status = .running ∧ Ended s₂ below o ∧ ∃ v L, o = .returned v ∧ Q v s₂.heap L ∧ FrameEnd s o s₂ L K N
theorem own_via {g g' : JFrame} (k : Go p e below s K N Q T' g') (h : ∀ t, Steps p.tables e below (T'.setTop g') t → Steps p.tables e below (T.setTop g) t) : Go p e below s K N Q T g := by
  obtain ⟨a, b, h1, r⟩ := k; exact ⟨a, b, h _ h1, r⟩
theorem own_join {g g' : JFrame} (k : Go p e below s K N Q T' g') (h : Steps p.tables e below (T.setTop g) (T'.setTop g')) : Go p e below s K N Q T g := own_via k fun _ q => h.trans q
theorem own_cast {g g' : JFrame} (q : g = g') (k : Go p e below s K N Q T g') : Go p e below s K N Q T g := q ▸ k
theorem own_ret (X : Stand p l e R s m args below meth c T locs cells slots) (hx : p.tables.exec = Jvm.exec) {pc : Nat} {Ls : Array Slot} {w : Value} {t : FieldType} {i : Instr} {rest : List Value} (hret : meth.sig.returnType = some t) (hlocks : meth.locks = false) (hn : narrow t w = w)
    (hi : (i = .ireturn ∧ (t = .int ∨ t = .boolean ∨ t = .byte ∨ t = .char ∨ t = .short) ∧ ∃ z, w = .int z) ∨ (i = .lreturn ∧ t = .long ∧ ∃ z, w = .long z) ∨ (i = .dreturn ∧ t = .double ∧ ∃ z, w = .double z) ∨ (i = .freturn ∧ t = .float ∧ ∃ z, w = .float z) ∨ (i = .areturn ∧ t.isReference = true ∧ w.isRef = true))
    (hd : decode c.code pc = .ok (i, 1)) (hq : Q (some w) T.heap locs) (hk : cells ≤ K) (hs : slots ≤ N) : Go p e below s K N Q T (mkF m pc Ls (w :: rest)) := by
  obtain ⟨fs, hr, hrun, hended, hW, hsame⟩ := X.leave (v := some w) (fun h => by rw [hret] at h; cases h) (hlocks := hlocks)
  exact ⟨_, _, retOut X hx hret hn hi hd hr, hrun, hended, _, _, rfl, hq, ⟨_, rfl⟩, hW, hsame.mono hk hs⟩
theorem own_retI (X : Stand p l e R s m args below meth c T locs cells slots) (hx : p.tables.exec = Jvm.exec) {pc : Nat} {Ls : Array Slot} {z : Int32} {rest : List Value} (hret : meth.sig.returnType = some .int) (hlocks : meth.locks = false)
    (hd : decode c.code pc = .ok (.ireturn, 1)) (hk : cells ≤ K) (hs : slots ≤ N) (hq : Q (some (.int z)) T.heap locs) : Go p e below s K N Q T (mkF m pc Ls (.int z :: rest)) :=
  own_ret X hx hret hlocks rfl (Or.inl ⟨rfl, Or.inl rfl, _, rfl⟩) hd hq hk hs
theorem own_retJ (X : Stand p l e R s m args below meth c T locs cells slots) (hx : p.tables.exec = Jvm.exec) {pc : Nat} {Ls : Array Slot} {z : Int64} {rest : List Value} (hret : meth.sig.returnType = some .long) (hlocks : meth.locks = false)
    (hd : decode c.code pc = .ok (.lreturn, 1)) (hk : cells ≤ K) (hs : slots ≤ N) (hq : Q (some (.long z)) T.heap locs) : Go p e below s K N Q T (mkF m pc Ls (.long z :: rest)) :=
  own_ret X hx hret hlocks rfl (Or.inr (Or.inl ⟨rfl, rfl, _, rfl⟩)) hd hq hk hs
theorem own_retR (X : Stand p l e R s m args below meth c T locs cells slots) (hx : p.tables.exec = Jvm.exec) {pc : Nat} {Ls : Array Slot} {w : Value} {t : FieldType} {rest : List Value} (hret : meth.sig.returnType = some t) (hlocks : meth.locks = false) (ht : t.isReference = true) (hw : w.isRef = true)
    (hd : decode c.code pc = .ok (.areturn, 1)) (hk : cells ≤ K) (hs : slots ≤ N) (hq : Q (some w) T.heap locs) : Go p e below s K N Q T (mkF m pc Ls (w :: rest)) :=
  own_ret X hx hret hlocks (by rcases ref_cases hw with rfl | ⟨a, rfl⟩ <;> cases t <;> rfl) (Or.inr (Or.inr (Or.inr (Or.inr ⟨rfl, ht, hw⟩)))) hd hq hk hs
theorem own_retZ (X : Stand p l e R s m args below meth c T locs cells slots) (hx : p.tables.exec = Jvm.exec) {pc : Nat} {Ls : Array Slot} {z z' : Int32} {rest : List Value} (hret : meth.sig.returnType = some .boolean) (hlocks : meth.locks = false)
    (hd : decode c.code pc = .ok (.ireturn, 1)) (hz : nar .boolean z = z') (hk : cells ≤ K) (hs : slots ≤ N) (hq : Q (some (.int z')) T.heap locs) : Go p e below s K N Q T (mkF m pc Ls (.int z :: rest)) := by
  subst hz
  obtain ⟨fs, hr, hrun, hended, hW, hsame⟩ := X.leave (v := some (.int (nar .boolean z))) (fun h => by rw [hret] at h; cases h) (hlocks := hlocks)
  exact ⟨_, _, retN X hx (t := .boolean) hret (Or.inl rfl) hd hr, hrun, hended, _, _, rfl, hq, ⟨_, rfl⟩, hW, hsame.mono hk hs⟩
theorem own_retV (X : Stand p l e R s m args below meth c T locs cells slots) (hx : p.tables.exec = Jvm.exec) {pc : Nat} {Ls : Array Slot} (hret : meth.sig.returnType = none) (hlocks : meth.locks = false)
    (hd : decode c.code pc = .ok (.return_, 1)) (hk : cells ≤ K) (hs : slots ≤ N) (hq : Q none T.heap locs) : Go p e below s K N Q T (mkF m pc Ls []) := by
  obtain ⟨fs, hr, hrun, hended, hW, hsame⟩ := X.leave (v := none) (fun _ => rfl) (hlocks := hlocks)
  exact ⟨_, _, X.returnOut hx hret hd hr, hrun, hended, _, _, rfl, hq, ⟨_, rfl⟩, hW, hsame.mono hk hs⟩
/-- the int of a truth value -/
def bi (P : Prop) [Decidable P] : Int32 := if P then 1 else 0
theorem bi_t {P : Prop} [Decidable P] (h : P) : bi P = 1 := if_pos h
theorem bi_f {P : Prop} [Decidable P] (h : ¬ P) : bi P = 0 := if_neg h
theorem bi_0 {P : Prop} [Decidable P] : bi P = 0 ↔ ¬ P := by unfold bi; split <;> simp_all
theorem bi_1 {P : Prop} [Decidable P] : bi P = 1 ↔ P := by unfold bi; split <;> simp_all
theorem bi_nar {P : Prop} [Decidable P] : nar .boolean (bi P) = bi P := by unfold bi; split <;> rfl
theorem bi_iff {P P' : Prop} [Decidable P] [Decidable P'] (h : P ↔ P') : bi P = bi P' := by unfold bi; simp only [h]
theorem bi_eq {P P' : Prop} [Decidable P] [Decidable P'] : bi P = bi P' ↔ (P ↔ P') := by unfold bi; split <;> split <;> simp_all
end OwnLayer
section OwnWords
variable {args : Array Value} {s : State} {t : Term} {C n d : String} {x : Addr}
theorem own_fldV {v : Value} (ht : t.eval args s none [] s = some (.ref x)) (h : (Term.field t C n d).eval args s none [] s = some v) : Fld s s.heap x C n d v :=
  Fld.start ((fld_at (C := C) (n := n) (dd := d) ht).symm.trans h)
theorem own_fldI {z : Int32} (ht : t.eval args s none [] s = some (.ref x)) (h : (Cond.eq (.field t C n d) (.int z)).value args s none s [] = some true) : Fld s s.heap x C n d (.int z) := own_fldV ht (eqv_i rfl h)
theorem own_fldJ {z : Int64} (ht : t.eval args s none [] s = some (.ref x)) (h : (Cond.eq (.field t C n d) (.long z)).value args s none s [] = some true) : Fld s s.heap x C n d (.long z) := own_fldV ht (eqv_l rfl h)
end OwnWords
theorem own_narB (P : Prop) [Decidable P] : narrow .boolean (.int (bi P)) = .int (bi P) := by unfold bi; split <;> rfl
theorem own_fitB (P : Prop) [Decidable P] : fits .boolean (.int (bi P)) = true := by unfold bi; split <;> rfl
theorem own_narR {w : Value} {t : FieldType} (hw : w.isRef = true) : narrow t w = w := by rcases ref_cases hw with rfl | ⟨a, rfl⟩ <;> cases t <;> rfl
theorem own_eqR {args : Array Value} {s : State} {a b : Term} {r : Addr} (hb : b.eval args s none [] s = some (.ref r)) (h : (Cond.eq a b).value args s none s [] = some true) : a.eval args s none [] s = some (.ref r) := by
  cases ha : a.eval args s none [] s with
  | none => simp [Cond.value, ha] at h
  | some x => cases x <;> simp [Cond.value, ha, hb] at h ⊢; exact h
theorem pn0 : plainName "com/example/deft_orm/deftorm/engine/NameTakesPinLaw" = true := by first | (simp [plainName, overriddenIn]; done) | decide +kernel
theorem pd0 : parseMethodDescriptor "(I)I" = some ⟨[.int], some .int⟩ := by decide +kernel
theorem pn1 : plainName "com/example/deft_orm/deftorm/engine/QueryTree$Function$Name" = true := by first | (simp [plainName, overriddenIn]; done) | decide +kernel
theorem pd1 : parseMethodDescriptor "(I)Lcom/example/deft_orm/deftorm/engine/QueryTree$Function$Name;" = some ⟨[.int], some (.object "com/example/deft_orm/deftorm/engine/QueryTree$Function$Name")⟩ := by decide +kernel
theorem pd2 : parseMethodDescriptor "(I)Z" = some ⟨[.int], some .boolean⟩ := by decide +kernel
def fe (i : Int32) : Int32 := if ¬ i < (21 : Int32) then 0 else if i = (8 : Int32) then 3 else if (i = (0 : Int32) ∨ i = (1 : Int32) ∨ i = (5 : Int32) ∨ i = (6 : Int32) ∨ i = (7 : Int32) ∨ i = (11 : Int32) ∨ i = (14 : Int32) ∨ i = (16 : Int32) ∨ i = (19 : Int32) ∨ i = (20 : Int32)) then 2 else 1
def mo (i : Int32) : Int32 := if (i = (0 : Int32) ∨ i = (19 : Int32)) then 2147483647 else if (i = (1 : Int32) ∨ i = (5 : Int32) ∨ i = (8 : Int32)) then 3 else fe i
theorem i_range (k : Int32) : 0 ≤ ((k &&& (2147483647 : Int32)) % (27 : Int32)).toInt ∧ ((k &&& (2147483647 : Int32)) % (27 : Int32)).toInt < 27 := by
  have h1 := c_mask k 2147483647 31 (by decide) (by decide)
  have h2 := (c_irem (k &&& (2147483647 : Int32)) 27 27 (by decide)).1
  have h3 : 0 ≤ (k &&& (2147483647 : Int32)).toInt := by omega
  have h4 := h2 h3
  omega
theorem i_up {i z : Int32} {k : Int} (hz : z.toInt = k) (h : k ≤ i.toInt) (e : ¬ i = z) : k + 1 ≤ i.toInt := by
  have : i.toInt ≠ k := fun q => e (Int32.toInt_inj.mp (q.trans hz.symm))
  omega
theorem i_last {i : Int32} (h : 0 ≤ i.toInt ∧ i.toInt < 27) (h0 : ¬ i = (0 : Int32)) (h1 : ¬ i = (1 : Int32)) (h2 : ¬ i = (2 : Int32)) (h3 : ¬ i = (3 : Int32)) (h4 : ¬ i = (4 : Int32)) (h5 : ¬ i = (5 : Int32)) (h6 : ¬ i = (6 : Int32)) (h7 : ¬ i = (7 : Int32)) (h8 : ¬ i = (8 : Int32)) (h9 : ¬ i = (9 : Int32)) (h10 : ¬ i = (10 : Int32)) (h11 : ¬ i = (11 : Int32)) (h12 : ¬ i = (12 : Int32)) (h13 : ¬ i = (13 : Int32)) (h14 : ¬ i = (14 : Int32)) (h15 : ¬ i = (15 : Int32)) (h16 : ¬ i = (16 : Int32)) (h17 : ¬ i = (17 : Int32)) (h18 : ¬ i = (18 : Int32)) (h19 : ¬ i = (19 : Int32)) (h20 : ¬ i = (20 : Int32)) (h21 : ¬ i = (21 : Int32)) (h22 : ¬ i = (22 : Int32)) (h23 : ¬ i = (23 : Int32)) (h24 : ¬ i = (24 : Int32)) (h25 : ¬ i = (25 : Int32)) : i = (26 : Int32) := by
  apply Int32.toInt_inj.mp
  have e26 : (26 : Int32).toInt = 26 := by decide
  have g0 := h.1
  have g1 : (1 : Int) ≤ i.toInt := i_up (k := 0) (z := (0 : Int32)) (by decide) g0 h0
  have g2 : (2 : Int) ≤ i.toInt := i_up (k := 1) (z := (1 : Int32)) (by decide) g1 h1
  have g3 : (3 : Int) ≤ i.toInt := i_up (k := 2) (z := (2 : Int32)) (by decide) g2 h2
  have g4 : (4 : Int) ≤ i.toInt := i_up (k := 3) (z := (3 : Int32)) (by decide) g3 h3
  have g5 : (5 : Int) ≤ i.toInt := i_up (k := 4) (z := (4 : Int32)) (by decide) g4 h4
  have g6 : (6 : Int) ≤ i.toInt := i_up (k := 5) (z := (5 : Int32)) (by decide) g5 h5
  have g7 : (7 : Int) ≤ i.toInt := i_up (k := 6) (z := (6 : Int32)) (by decide) g6 h6
  have g8 : (8 : Int) ≤ i.toInt := i_up (k := 7) (z := (7 : Int32)) (by decide) g7 h7
  have g9 : (9 : Int) ≤ i.toInt := i_up (k := 8) (z := (8 : Int32)) (by decide) g8 h8
  have g10 : (10 : Int) ≤ i.toInt := i_up (k := 9) (z := (9 : Int32)) (by decide) g9 h9
  have g11 : (11 : Int) ≤ i.toInt := i_up (k := 10) (z := (10 : Int32)) (by decide) g10 h10
  have g12 : (12 : Int) ≤ i.toInt := i_up (k := 11) (z := (11 : Int32)) (by decide) g11 h11
  have g13 : (13 : Int) ≤ i.toInt := i_up (k := 12) (z := (12 : Int32)) (by decide) g12 h12
  have g14 : (14 : Int) ≤ i.toInt := i_up (k := 13) (z := (13 : Int32)) (by decide) g13 h13
  have g15 : (15 : Int) ≤ i.toInt := i_up (k := 14) (z := (14 : Int32)) (by decide) g14 h14
  have g16 : (16 : Int) ≤ i.toInt := i_up (k := 15) (z := (15 : Int32)) (by decide) g15 h15
  have g17 : (17 : Int) ≤ i.toInt := i_up (k := 16) (z := (16 : Int32)) (by decide) g16 h16
  have g18 : (18 : Int) ≤ i.toInt := i_up (k := 17) (z := (17 : Int32)) (by decide) g17 h17
  have g19 : (19 : Int) ≤ i.toInt := i_up (k := 18) (z := (18 : Int32)) (by decide) g18 h18
  have g20 : (20 : Int) ≤ i.toInt := i_up (k := 19) (z := (19 : Int32)) (by decide) g19 h19
  have g21 : (21 : Int) ≤ i.toInt := i_up (k := 20) (z := (20 : Int32)) (by decide) g20 h20
  have g22 : (22 : Int) ≤ i.toInt := i_up (k := 21) (z := (21 : Int32)) (by decide) g21 h21
  have g23 : (23 : Int) ≤ i.toInt := i_up (k := 22) (z := (22 : Int32)) (by decide) g22 h22
  have g24 : (24 : Int) ≤ i.toInt := i_up (k := 23) (z := (23 : Int32)) (by decide) g23 h23
  have g25 : (25 : Int) ≤ i.toInt := i_up (k := 24) (z := (24 : Int32)) (by decide) g24 h24
  have g26 : (26 : Int) ≤ i.toInt := i_up (k := 25) (z := (25 : Int32)) (by decide) g25 h25
  have := h.2
  omega
theorem i64lt (a b : Int32) : a.toInt64 < b.toInt64 ↔ a < b := by rw [Int64.lt_iff_toInt_lt, Int32.lt_iff_toInt_lt, c_i2l, c_i2l]
def Kn (Z : State) (h : Heap) (f : String) (z w : Int32) : Prop := ∃ a, Sta Z h "com/example/deft_orm/deftorm/engine/QueryTree$Function$Name" f "Lcom/example/deft_orm/deftorm/engine/QueryTree$Function$Name;" (.ref a) ∧ Exa Z h a "com/example/deft_orm/deftorm/engine/QueryTree$Function$Name" ∧ Fld Z h a "com/example/deft_orm/deftorm/engine/QueryTree$Function$Name" "fewest" "I" (.int z) ∧ Fld Z h a "com/example/deft_orm/deftorm/engine/QueryTree$Function$Name" "most" "I" (.int w)
def All (Z : State) (h : Heap) : Prop := Kn Z h "CONCAT" (2 : Int32) (2147483647 : Int32) ∧ Kn Z h "SUBSTRING" (2 : Int32) (3 : Int32) ∧ Kn Z h "LOWER" (1 : Int32) (1 : Int32) ∧ Kn Z h "UPPER" (1 : Int32) (1 : Int32) ∧ Kn Z h "LENGTH" (1 : Int32) (1 : Int32) ∧ Kn Z h "LOCATE" (2 : Int32) (3 : Int32) ∧ Kn Z h "LEFT" (2 : Int32) (2 : Int32) ∧ Kn Z h "RIGHT" (2 : Int32) (2 : Int32) ∧ Kn Z h "REPLACE" (3 : Int32) (3 : Int32) ∧ Kn Z h "ABS" (1 : Int32) (1 : Int32) ∧ Kn Z h "SQRT" (1 : Int32) (1 : Int32) ∧ Kn Z h "MOD" (2 : Int32) (2 : Int32) ∧ Kn Z h "CEILING" (1 : Int32) (1 : Int32) ∧ Kn Z h "FLOOR" (1 : Int32) (1 : Int32) ∧ Kn Z h "ROUND" (2 : Int32) (2 : Int32) ∧ Kn Z h "SIGN" (1 : Int32) (1 : Int32) ∧ Kn Z h "POWER" (2 : Int32) (2 : Int32) ∧ Kn Z h "EXP" (1 : Int32) (1 : Int32) ∧ Kn Z h "LN" (1 : Int32) (1 : Int32) ∧ Kn Z h "COALESCE" (2 : Int32) (2147483647 : Int32) ∧ Kn Z h "NULLIF" (2 : Int32) (2 : Int32) ∧ Kn Z h "CURRENT_DATE" (0 : Int32) (0 : Int32) ∧ Kn Z h "CURRENT_TIME" (0 : Int32) (0 : Int32) ∧ Kn Z h "CURRENT_TIMESTAMP" (0 : Int32) (0 : Int32) ∧ Kn Z h "LOCAL_DATE" (0 : Int32) (0 : Int32) ∧ Kn Z h "LOCAL_TIME" (0 : Int32) (0 : Int32) ∧ Kn Z h "LOCAL_DATETIME" (0 : Int32) (0 : Int32)
theorem d_const_0 : decode method_2_code 0 = .ok (.iload_n 0, 1) := by decide +kernel
theorem d_const_1 : decode method_2_code 1 = .ok (.ifCond .ne 7, 3) := by decide +kernel
theorem d_const_4 : decode method_2_code 4 = .ok (.getstatic 7, 3) := by decide +kernel
theorem d_const_7 : decode method_2_code 7 = .ok (.areturn, 1) := by decide +kernel
theorem d_const_8 : decode method_2_code 8 = .ok (.iload_n 0, 1) := by decide +kernel
theorem d_const_9 : decode method_2_code 9 = .ok (.iconst 1, 1) := by decide +kernel
theorem d_const_10 : decode method_2_code 10 = .ok (.if_icmp .ne 7, 3) := by decide +kernel
theorem d_const_13 : decode method_2_code 13 = .ok (.getstatic 13, 3) := by decide +kernel
theorem d_const_16 : decode method_2_code 16 = .ok (.areturn, 1) := by decide +kernel
theorem d_const_17 : decode method_2_code 17 = .ok (.iload_n 0, 1) := by decide +kernel
theorem d_const_18 : decode method_2_code 18 = .ok (.iconst 2, 1) := by decide +kernel
theorem d_const_19 : decode method_2_code 19 = .ok (.if_icmp .ne 7, 3) := by decide +kernel
theorem d_const_22 : decode method_2_code 22 = .ok (.getstatic 16, 3) := by decide +kernel
theorem d_const_25 : decode method_2_code 25 = .ok (.areturn, 1) := by decide +kernel
theorem d_const_26 : decode method_2_code 26 = .ok (.iload_n 0, 1) := by decide +kernel
theorem d_const_27 : decode method_2_code 27 = .ok (.iconst 3, 1) := by decide +kernel
theorem d_const_28 : decode method_2_code 28 = .ok (.if_icmp .ne 7, 3) := by decide +kernel
theorem d_const_31 : decode method_2_code 31 = .ok (.getstatic 19, 3) := by decide +kernel
theorem d_const_34 : decode method_2_code 34 = .ok (.areturn, 1) := by decide +kernel
theorem d_const_35 : decode method_2_code 35 = .ok (.iload_n 0, 1) := by decide +kernel
theorem d_const_36 : decode method_2_code 36 = .ok (.iconst 4, 1) := by decide +kernel
theorem d_const_37 : decode method_2_code 37 = .ok (.if_icmp .ne 7, 3) := by decide +kernel
theorem d_const_40 : decode method_2_code 40 = .ok (.getstatic 22, 3) := by decide +kernel
theorem d_const_43 : decode method_2_code 43 = .ok (.areturn, 1) := by decide +kernel
theorem d_const_44 : decode method_2_code 44 = .ok (.iload_n 0, 1) := by decide +kernel
theorem d_const_45 : decode method_2_code 45 = .ok (.iconst 5, 1) := by decide +kernel
theorem d_const_46 : decode method_2_code 46 = .ok (.if_icmp .ne 7, 3) := by decide +kernel
theorem d_const_49 : decode method_2_code 49 = .ok (.getstatic 25, 3) := by decide +kernel
theorem d_const_52 : decode method_2_code 52 = .ok (.areturn, 1) := by decide +kernel
theorem d_const_53 : decode method_2_code 53 = .ok (.iload_n 0, 1) := by decide +kernel
theorem d_const_54 : decode method_2_code 54 = .ok (.bipush 6, 2) := by decide +kernel
theorem d_const_56 : decode method_2_code 56 = .ok (.if_icmp .ne 7, 3) := by decide +kernel
theorem d_const_59 : decode method_2_code 59 = .ok (.getstatic 28, 3) := by decide +kernel
theorem d_const_62 : decode method_2_code 62 = .ok (.areturn, 1) := by decide +kernel
theorem d_const_63 : decode method_2_code 63 = .ok (.iload_n 0, 1) := by decide +kernel
theorem d_const_64 : decode method_2_code 64 = .ok (.bipush 7, 2) := by decide +kernel
theorem d_const_66 : decode method_2_code 66 = .ok (.if_icmp .ne 7, 3) := by decide +kernel
theorem d_const_69 : decode method_2_code 69 = .ok (.getstatic 31, 3) := by decide +kernel
theorem d_const_72 : decode method_2_code 72 = .ok (.areturn, 1) := by decide +kernel
theorem d_const_73 : decode method_2_code 73 = .ok (.iload_n 0, 1) := by decide +kernel
theorem d_const_74 : decode method_2_code 74 = .ok (.bipush 8, 2) := by decide +kernel
theorem d_const_76 : decode method_2_code 76 = .ok (.if_icmp .ne 7, 3) := by decide +kernel
theorem d_const_79 : decode method_2_code 79 = .ok (.getstatic 34, 3) := by decide +kernel
theorem d_const_82 : decode method_2_code 82 = .ok (.areturn, 1) := by decide +kernel
theorem d_const_83 : decode method_2_code 83 = .ok (.iload_n 0, 1) := by decide +kernel
theorem d_const_84 : decode method_2_code 84 = .ok (.bipush 9, 2) := by decide +kernel
theorem d_const_86 : decode method_2_code 86 = .ok (.if_icmp .ne 7, 3) := by decide +kernel
theorem d_const_89 : decode method_2_code 89 = .ok (.getstatic 37, 3) := by decide +kernel
theorem d_const_92 : decode method_2_code 92 = .ok (.areturn, 1) := by decide +kernel
theorem d_const_93 : decode method_2_code 93 = .ok (.iload_n 0, 1) := by decide +kernel
theorem d_const_94 : decode method_2_code 94 = .ok (.bipush 10, 2) := by decide +kernel
theorem d_const_96 : decode method_2_code 96 = .ok (.if_icmp .ne 7, 3) := by decide +kernel
theorem d_const_99 : decode method_2_code 99 = .ok (.getstatic 40, 3) := by decide +kernel
theorem d_const_102 : decode method_2_code 102 = .ok (.areturn, 1) := by decide +kernel
theorem d_const_103 : decode method_2_code 103 = .ok (.iload_n 0, 1) := by decide +kernel
theorem d_const_104 : decode method_2_code 104 = .ok (.bipush 11, 2) := by decide +kernel
theorem d_const_106 : decode method_2_code 106 = .ok (.if_icmp .ne 7, 3) := by decide +kernel
theorem d_const_109 : decode method_2_code 109 = .ok (.getstatic 43, 3) := by decide +kernel
theorem d_const_112 : decode method_2_code 112 = .ok (.areturn, 1) := by decide +kernel
theorem d_const_113 : decode method_2_code 113 = .ok (.iload_n 0, 1) := by decide +kernel
theorem d_const_114 : decode method_2_code 114 = .ok (.bipush 12, 2) := by decide +kernel
theorem d_const_116 : decode method_2_code 116 = .ok (.if_icmp .ne 7, 3) := by decide +kernel
theorem d_const_119 : decode method_2_code 119 = .ok (.getstatic 46, 3) := by decide +kernel
theorem d_const_122 : decode method_2_code 122 = .ok (.areturn, 1) := by decide +kernel
theorem d_const_123 : decode method_2_code 123 = .ok (.iload_n 0, 1) := by decide +kernel
theorem d_const_124 : decode method_2_code 124 = .ok (.bipush 13, 2) := by decide +kernel
theorem d_const_126 : decode method_2_code 126 = .ok (.if_icmp .ne 7, 3) := by decide +kernel
theorem d_const_129 : decode method_2_code 129 = .ok (.getstatic 49, 3) := by decide +kernel
theorem d_const_132 : decode method_2_code 132 = .ok (.areturn, 1) := by decide +kernel
theorem d_const_133 : decode method_2_code 133 = .ok (.iload_n 0, 1) := by decide +kernel
theorem d_const_134 : decode method_2_code 134 = .ok (.bipush 14, 2) := by decide +kernel
theorem d_const_136 : decode method_2_code 136 = .ok (.if_icmp .ne 7, 3) := by decide +kernel
theorem d_const_139 : decode method_2_code 139 = .ok (.getstatic 52, 3) := by decide +kernel
theorem d_const_142 : decode method_2_code 142 = .ok (.areturn, 1) := by decide +kernel
theorem d_const_143 : decode method_2_code 143 = .ok (.iload_n 0, 1) := by decide +kernel
theorem d_const_144 : decode method_2_code 144 = .ok (.bipush 15, 2) := by decide +kernel
theorem d_const_146 : decode method_2_code 146 = .ok (.if_icmp .ne 7, 3) := by decide +kernel
theorem d_const_149 : decode method_2_code 149 = .ok (.getstatic 55, 3) := by decide +kernel
theorem d_const_152 : decode method_2_code 152 = .ok (.areturn, 1) := by decide +kernel
theorem d_const_153 : decode method_2_code 153 = .ok (.iload_n 0, 1) := by decide +kernel
theorem d_const_154 : decode method_2_code 154 = .ok (.bipush 16, 2) := by decide +kernel
theorem d_const_156 : decode method_2_code 156 = .ok (.if_icmp .ne 7, 3) := by decide +kernel
theorem d_const_159 : decode method_2_code 159 = .ok (.getstatic 58, 3) := by decide +kernel
theorem d_const_162 : decode method_2_code 162 = .ok (.areturn, 1) := by decide +kernel
theorem d_const_163 : decode method_2_code 163 = .ok (.iload_n 0, 1) := by decide +kernel
theorem d_const_164 : decode method_2_code 164 = .ok (.bipush 17, 2) := by decide +kernel
theorem d_const_166 : decode method_2_code 166 = .ok (.if_icmp .ne 7, 3) := by decide +kernel
theorem d_const_169 : decode method_2_code 169 = .ok (.getstatic 61, 3) := by decide +kernel
theorem d_const_172 : decode method_2_code 172 = .ok (.areturn, 1) := by decide +kernel
theorem d_const_173 : decode method_2_code 173 = .ok (.iload_n 0, 1) := by decide +kernel
theorem d_const_174 : decode method_2_code 174 = .ok (.bipush 18, 2) := by decide +kernel
theorem d_const_176 : decode method_2_code 176 = .ok (.if_icmp .ne 7, 3) := by decide +kernel
theorem d_const_179 : decode method_2_code 179 = .ok (.getstatic 64, 3) := by decide +kernel
theorem d_const_182 : decode method_2_code 182 = .ok (.areturn, 1) := by decide +kernel
theorem d_const_183 : decode method_2_code 183 = .ok (.iload_n 0, 1) := by decide +kernel
theorem d_const_184 : decode method_2_code 184 = .ok (.bipush 19, 2) := by decide +kernel
theorem d_const_186 : decode method_2_code 186 = .ok (.if_icmp .ne 7, 3) := by decide +kernel
theorem d_const_189 : decode method_2_code 189 = .ok (.getstatic 67, 3) := by decide +kernel
theorem d_const_192 : decode method_2_code 192 = .ok (.areturn, 1) := by decide +kernel
theorem d_const_193 : decode method_2_code 193 = .ok (.iload_n 0, 1) := by decide +kernel
theorem d_const_194 : decode method_2_code 194 = .ok (.bipush 20, 2) := by decide +kernel
theorem d_const_196 : decode method_2_code 196 = .ok (.if_icmp .ne 7, 3) := by decide +kernel
theorem d_const_199 : decode method_2_code 199 = .ok (.getstatic 70, 3) := by decide +kernel
theorem d_const_202 : decode method_2_code 202 = .ok (.areturn, 1) := by decide +kernel
theorem d_const_203 : decode method_2_code 203 = .ok (.iload_n 0, 1) := by decide +kernel
theorem d_const_204 : decode method_2_code 204 = .ok (.bipush 21, 2) := by decide +kernel
theorem d_const_206 : decode method_2_code 206 = .ok (.if_icmp .ne 7, 3) := by decide +kernel
theorem d_const_209 : decode method_2_code 209 = .ok (.getstatic 73, 3) := by decide +kernel
theorem d_const_212 : decode method_2_code 212 = .ok (.areturn, 1) := by decide +kernel
theorem d_const_213 : decode method_2_code 213 = .ok (.iload_n 0, 1) := by decide +kernel
theorem d_const_214 : decode method_2_code 214 = .ok (.bipush 22, 2) := by decide +kernel
theorem d_const_216 : decode method_2_code 216 = .ok (.if_icmp .ne 7, 3) := by decide +kernel
theorem d_const_219 : decode method_2_code 219 = .ok (.getstatic 76, 3) := by decide +kernel
theorem d_const_222 : decode method_2_code 222 = .ok (.areturn, 1) := by decide +kernel
theorem d_const_223 : decode method_2_code 223 = .ok (.iload_n 0, 1) := by decide +kernel
theorem d_const_224 : decode method_2_code 224 = .ok (.bipush 23, 2) := by decide +kernel
theorem d_const_226 : decode method_2_code 226 = .ok (.if_icmp .ne 7, 3) := by decide +kernel
theorem d_const_229 : decode method_2_code 229 = .ok (.getstatic 79, 3) := by decide +kernel
theorem d_const_232 : decode method_2_code 232 = .ok (.areturn, 1) := by decide +kernel
theorem d_const_233 : decode method_2_code 233 = .ok (.iload_n 0, 1) := by decide +kernel
theorem d_const_234 : decode method_2_code 234 = .ok (.bipush 24, 2) := by decide +kernel
theorem d_const_236 : decode method_2_code 236 = .ok (.if_icmp .ne 7, 3) := by decide +kernel
theorem d_const_239 : decode method_2_code 239 = .ok (.getstatic 82, 3) := by decide +kernel
theorem d_const_242 : decode method_2_code 242 = .ok (.areturn, 1) := by decide +kernel
theorem d_const_243 : decode method_2_code 243 = .ok (.iload_n 0, 1) := by decide +kernel
theorem d_const_244 : decode method_2_code 244 = .ok (.bipush 25, 2) := by decide +kernel
theorem d_const_246 : decode method_2_code 246 = .ok (.if_icmp .ne 7, 3) := by decide +kernel
theorem d_const_249 : decode method_2_code 249 = .ok (.getstatic 85, 3) := by decide +kernel
theorem d_const_252 : decode method_2_code 252 = .ok (.areturn, 1) := by decide +kernel
theorem d_const_253 : decode method_2_code 253 = .ok (.getstatic 88, 3) := by decide +kernel
theorem d_const_256 : decode method_2_code 256 = .ok (.areturn, 1) := by decide +kernel
def Q_const (Z : State) (i : Int32) (h0 : Heap) (n0 : Nat) (v : Option Value) (h : Heap) (L : List Loc) : Prop := ∃ a, v = some (.ref a) ∧ Exa Z h0 a "com/example/deft_orm/deftorm/engine/QueryTree$Function$Name" ∧ Fld Z h0 a "com/example/deft_orm/deftorm/engine/QueryTree$Function$Name" "fewest" "I" (.int (fe i)) ∧ Fld Z h0 a "com/example/deft_orm/deftorm/engine/QueryTree$Function$Name" "most" "I" (.int (mo i)) ∧ Fr n0 L ∧ h = h0
set_option maxRecDepth 65536 in
set_option maxHeartbeats 40000000 in
theorem rm_const (l : Launch) (Z : State) (a0 : Array Value) (hw : ∀ d ∈ tables_1, d.before a0 Z = true) (ws : List Jvm.Cond) (i : Int32) (h0 : Heap) (n0 : Nat) (Z0 : n0 ≤ h0.size) (hA : All Z h0) (hi : 0 ≤ i.toInt ∧ i.toInt < 27) :
    MetFree l (⟨"com/example/deft_orm/deftorm/engine/NameTakesPinLaw", "constant", "(I)Lcom/example/deft_orm/deftorm/engine/QueryTree$Function$Name;"⟩ : MethodName) (head1 (Jvm.Cond.code (⟨"com/example/deft_orm/deftorm/engine/NameTakesPinLaw", "constant", "(I)Lcom/example/deft_orm/deftorm/engine/QueryTree$Function$Name;"⟩ : MethodName) method_2_code 1 (some (.object "com/example/deft_orm/deftorm/engine/QueryTree$Function$Name")) :: ws) ({ frames := 0, cells := 0, slots := 0, locals := 0 } : Room)) (fun aa_ U => aa_ = #[(.int i)] ∧ Z.Warmed39 U.vm ∧ U.heap = h0) (fun _ _ _ _ _ => True) (fun _ UU_ oo_ UV_ => ∃ vv_ LL_, oo_ = .returned vv_ ∧ (Q_const Z i h0 n0) vv_ UV_.heap LL_ ∧ FrameEnd UU_ oo_ UV_ LL_ ({ frames := 0, cells := 0, slots := 0, locals := 0 } : Room).cells ({ frames := 0, cells := 0, slots := 0, locals := 0 } : Room).slots) := by
  refine MetFree.of_bodySF (plainFor_of_name pn0) hisR ?_
  intro p e s m args below meth c s₁ Bd hml0 hP hK
  obtain ⟨rfl, hZ, hh⟩ := hP
  have hx := Bd.exec
  have hby := Bd.bytes
  have hlk : meth.locks = false := BodyLoose.notSynchronized Bd
  have hret := Bd.returns
  have hml : c.maxLocals = 1 := hml0
  have hown : s.vm.findClass "com/example/deft_orm/deftorm/engine/NameTakesPinLaw" = some m.cls := findClass_of_methodNamed Bd.named
  have hnm := (name_of_methodNamed Bd.named Bd.method).1
  have X0 : Stand p l e ({ frames := 0, cells := 0, slots := 0, locals := 0 } : Room) s m #[(.int i)] below meth c s₁ [] 0 0 := Stand.of_body Bd
  have e0 : s₁.heap = h0 := by rw [← hh, Bd.state]; rfl
  have N0 := Fr.nil n0
  show Go p e below s ({ frames := 0, cells := 0, slots := 0, locals := 0 } : Room).cells ({ frames := 0, cells := 0, slots := 0, locals := 0 } : Room).slots (Q_const Z i h0 n0) s₁ (entryFrame m #[(.int i)] 1)
  refine own_cast (g' := mkF m 0 #[.val (.int i)] []) (by first | (simp [entryFrame, mkF, argsToLocals, Value.category]; done) | rfl) ?_
  obtain ⟨⟨a_CONCAT, S_CONCAT, E_CONCAT, F_CONCAT, G_CONCAT⟩, ⟨a_SUBSTRING, S_SUBSTRING, E_SUBSTRING, F_SUBSTRING, G_SUBSTRING⟩, ⟨a_LOWER, S_LOWER, E_LOWER, F_LOWER, G_LOWER⟩, ⟨a_UPPER, S_UPPER, E_UPPER, F_UPPER, G_UPPER⟩, ⟨a_LENGTH, S_LENGTH, E_LENGTH, F_LENGTH, G_LENGTH⟩, ⟨a_LOCATE, S_LOCATE, E_LOCATE, F_LOCATE, G_LOCATE⟩, ⟨a_LEFT, S_LEFT, E_LEFT, F_LEFT, G_LEFT⟩, ⟨a_RIGHT, S_RIGHT, E_RIGHT, F_RIGHT, G_RIGHT⟩, ⟨a_REPLACE, S_REPLACE, E_REPLACE, F_REPLACE, G_REPLACE⟩, ⟨a_ABS, S_ABS, E_ABS, F_ABS, G_ABS⟩, ⟨a_SQRT, S_SQRT, E_SQRT, F_SQRT, G_SQRT⟩, ⟨a_MOD, S_MOD, E_MOD, F_MOD, G_MOD⟩, ⟨a_CEILING, S_CEILING, E_CEILING, F_CEILING, G_CEILING⟩, ⟨a_FLOOR, S_FLOOR, E_FLOOR, F_FLOOR, G_FLOOR⟩, ⟨a_ROUND, S_ROUND, E_ROUND, F_ROUND, G_ROUND⟩, ⟨a_SIGN, S_SIGN, E_SIGN, F_SIGN, G_SIGN⟩, ⟨a_POWER, S_POWER, E_POWER, F_POWER, G_POWER⟩, ⟨a_EXP, S_EXP, E_EXP, F_EXP, G_EXP⟩, ⟨a_LN, S_LN, E_LN, F_LN, G_LN⟩, ⟨a_COALESCE, S_COALESCE, E_COALESCE, F_COALESCE, G_COALESCE⟩, ⟨a_NULLIF, S_NULLIF, E_NULLIF, F_NULLIF, G_NULLIF⟩, ⟨a_CURRENT_DATE, S_CURRENT_DATE, E_CURRENT_DATE, F_CURRENT_DATE, G_CURRENT_DATE⟩, ⟨a_CURRENT_TIME, S_CURRENT_TIME, E_CURRENT_TIME, F_CURRENT_TIME, G_CURRENT_TIME⟩, ⟨a_CURRENT_TIMESTAMP, S_CURRENT_TIMESTAMP, E_CURRENT_TIMESTAMP, F_CURRENT_TIMESTAMP, G_CURRENT_TIMESTAMP⟩, ⟨a_LOCAL_DATE, S_LOCAL_DATE, E_LOCAL_DATE, F_LOCAL_DATE, G_LOCAL_DATE⟩, ⟨a_LOCAL_TIME, S_LOCAL_TIME, E_LOCAL_TIME, F_LOCAL_TIME, G_LOCAL_TIME⟩, ⟨a_LOCAL_DATETIME, S_LOCAL_DATETIME, E_LOCAL_DATETIME, F_LOCAL_DATETIME, G_LOCAL_DATETIME⟩⟩ := hA
  show Go _ _ _ _ _ _ _ _ (mkF m 0 #[.val (.int i)] [])
  refine own_via ?_ fun _ kt => XS.iloadN X0.here hx rfl (hb hby d_const_0) rfl kt
  show Go _ _ _ _ _ _ _ _ (mkF m 1 #[.val (.int i)] [(.int i)])
  by_cases hc1 : i = (0 : Int32)
  · skip
    refine own_via ?_ fun _ kt => XS.ifNo X0.here hx rfl (hb hby d_const_1) rfl ((if0 _ _).trans (teq hc1).2) kt
    show Go _ _ _ _ _ _ _ _ (mkF m 4 #[.val (.int i)] [])
    obtain ⟨T2, X2, e2, st2⟩ := getS2 X0 hx hZ hown (host := "") (Or.inl (hw _ (List.mem_of_getElem? (i := 5) rfl))) Via.refl e0 S_CONCAT (g := (mkF m 4 #[.val (.int i)] [])) rfl (hb hby d_const_4)
    refine own_via ?_ st2
    show Go _ _ _ _ _ _ _ _ (mkF m 7 #[.val (.int i)] [(.ref a_CONCAT)])
    have hq := hc1
    exact own_retR X2 hx hret hlk rfl rfl (hb hby d_const_7) (by decide) (by decide) (by rw [e2]; exact ⟨a_CONCAT, rfl, E_CONCAT, (show fe i = (2 : Int32) from by rw [hq]; rfl).symm ▸ F_CONCAT, (show mo i = (2147483647 : Int32) from by rw [hq]; rfl).symm ▸ G_CONCAT, N0, rfl⟩)
  · skip
    refine own_via ?_ fun _ kt => XS.ifYes X0.here hx rfl (pc0 := 1) (pc' := 8) rfl (hb hby d_const_1) rfl ((if0 _ _).trans (feq hc1).2) (by decide) (by decide) kt
    show Go _ _ _ _ _ _ _ _ (mkF m 8 #[.val (.int i)] [])
    refine own_via ?_ fun _ kt => XS.iloadN X0.here hx rfl (hb hby d_const_8) rfl kt
    show Go _ _ _ _ _ _ _ _ (mkF m 9 #[.val (.int i)] [(.int i)])
    refine own_via ?_ fun _ kt => XS.iconst X0.here hx rfl (hb hby d_const_9) kt
    show Go _ _ _ _ _ _ _ _ (mkF m 10 #[.val (.int i)] [(.int (1 : Int32)), (.int i)])
    by_cases hc3 : i = (1 : Int32)
    · skip
      refine own_via ?_ fun _ kt => XS.icmpNo X0.here hx rfl (hb hby d_const_10) rfl (teq hc3).2 kt
      show Go _ _ _ _ _ _ _ _ (mkF m 13 #[.val (.int i)] [])
      obtain ⟨T4, X4, e4, st4⟩ := getS2 X0 hx hZ hown (host := "") (Or.inl (hw _ (List.mem_of_getElem? (i := 23) rfl))) Via.refl e0 S_SUBSTRING (g := (mkF m 13 #[.val (.int i)] [])) rfl (hb hby d_const_13)
      refine own_via ?_ st4
      show Go _ _ _ _ _ _ _ _ (mkF m 16 #[.val (.int i)] [(.ref a_SUBSTRING)])
      have hq := hc3
      exact own_retR X4 hx hret hlk rfl rfl (hb hby d_const_16) (by decide) (by decide) (by rw [e4]; exact ⟨a_SUBSTRING, rfl, E_SUBSTRING, (show fe i = (2 : Int32) from by rw [hq]; rfl).symm ▸ F_SUBSTRING, (show mo i = (3 : Int32) from by rw [hq]; rfl).symm ▸ G_SUBSTRING, N0, rfl⟩)
    · skip
      refine own_via ?_ fun _ kt => XS.icmpYes X0.here hx rfl (pc0 := 10) (pc' := 17) rfl (hb hby d_const_10) rfl (feq hc3).2 (by decide) (by decide) kt
      show Go _ _ _ _ _ _ _ _ (mkF m 17 #[.val (.int i)] [])
      refine own_via ?_ fun _ kt => XS.iloadN X0.here hx rfl (hb hby d_const_17) rfl kt
      show Go _ _ _ _ _ _ _ _ (mkF m 18 #[.val (.int i)] [(.int i)])
      refine own_via ?_ fun _ kt => XS.iconst X0.here hx rfl (hb hby d_const_18) kt
      show Go _ _ _ _ _ _ _ _ (mkF m 19 #[.val (.int i)] [(.int (2 : Int32)), (.int i)])
      by_cases hc5 : i = (2 : Int32)
      · skip
        refine own_via ?_ fun _ kt => XS.icmpNo X0.here hx rfl (hb hby d_const_19) rfl (teq hc5).2 kt
        show Go _ _ _ _ _ _ _ _ (mkF m 22 #[.val (.int i)] [])
        obtain ⟨T6, X6, e6, st6⟩ := getS2 X0 hx hZ hown (host := "") (Or.inl (hw _ (List.mem_of_getElem? (i := 25) rfl))) Via.refl e0 S_LOWER (g := (mkF m 22 #[.val (.int i)] [])) rfl (hb hby d_const_22)
        refine own_via ?_ st6
        show Go _ _ _ _ _ _ _ _ (mkF m 25 #[.val (.int i)] [(.ref a_LOWER)])
        have hq := hc5
        exact own_retR X6 hx hret hlk rfl rfl (hb hby d_const_25) (by decide) (by decide) (by rw [e6]; exact ⟨a_LOWER, rfl, E_LOWER, (show fe i = (1 : Int32) from by rw [hq]; rfl).symm ▸ F_LOWER, (show mo i = (1 : Int32) from by rw [hq]; rfl).symm ▸ G_LOWER, N0, rfl⟩)
      · skip
        refine own_via ?_ fun _ kt => XS.icmpYes X0.here hx rfl (pc0 := 19) (pc' := 26) rfl (hb hby d_const_19) rfl (feq hc5).2 (by decide) (by decide) kt
        show Go _ _ _ _ _ _ _ _ (mkF m 26 #[.val (.int i)] [])
        refine own_via ?_ fun _ kt => XS.iloadN X0.here hx rfl (hb hby d_const_26) rfl kt
        show Go _ _ _ _ _ _ _ _ (mkF m 27 #[.val (.int i)] [(.int i)])
        refine own_via ?_ fun _ kt => XS.iconst X0.here hx rfl (hb hby d_const_27) kt
        show Go _ _ _ _ _ _ _ _ (mkF m 28 #[.val (.int i)] [(.int (3 : Int32)), (.int i)])
        by_cases hc7 : i = (3 : Int32)
        · skip
          refine own_via ?_ fun _ kt => XS.icmpNo X0.here hx rfl (hb hby d_const_28) rfl (teq hc7).2 kt
          show Go _ _ _ _ _ _ _ _ (mkF m 31 #[.val (.int i)] [])
          obtain ⟨T8, X8, e8, st8⟩ := getS2 X0 hx hZ hown (host := "") (Or.inl (hw _ (List.mem_of_getElem? (i := 33) rfl))) Via.refl e0 S_UPPER (g := (mkF m 31 #[.val (.int i)] [])) rfl (hb hby d_const_31)
          refine own_via ?_ st8
          show Go _ _ _ _ _ _ _ _ (mkF m 34 #[.val (.int i)] [(.ref a_UPPER)])
          have hq := hc7
          exact own_retR X8 hx hret hlk rfl rfl (hb hby d_const_34) (by decide) (by decide) (by rw [e8]; exact ⟨a_UPPER, rfl, E_UPPER, (show fe i = (1 : Int32) from by rw [hq]; rfl).symm ▸ F_UPPER, (show mo i = (1 : Int32) from by rw [hq]; rfl).symm ▸ G_UPPER, N0, rfl⟩)
        · skip
          refine own_via ?_ fun _ kt => XS.icmpYes X0.here hx rfl (pc0 := 28) (pc' := 35) rfl (hb hby d_const_28) rfl (feq hc7).2 (by decide) (by decide) kt
          show Go _ _ _ _ _ _ _ _ (mkF m 35 #[.val (.int i)] [])
          refine own_via ?_ fun _ kt => XS.iloadN X0.here hx rfl (hb hby d_const_35) rfl kt
          show Go _ _ _ _ _ _ _ _ (mkF m 36 #[.val (.int i)] [(.int i)])
          refine own_via ?_ fun _ kt => XS.iconst X0.here hx rfl (hb hby d_const_36) kt
          show Go _ _ _ _ _ _ _ _ (mkF m 37 #[.val (.int i)] [(.int (4 : Int32)), (.int i)])
          by_cases hc9 : i = (4 : Int32)
          · skip
            refine own_via ?_ fun _ kt => XS.icmpNo X0.here hx rfl (hb hby d_const_37) rfl (teq hc9).2 kt
            show Go _ _ _ _ _ _ _ _ (mkF m 40 #[.val (.int i)] [])
            obtain ⟨T10, X10, e10, st10⟩ := getS2 X0 hx hZ hown (host := "") (Or.inl (hw _ (List.mem_of_getElem? (i := 63) rfl))) Via.refl e0 S_LENGTH (g := (mkF m 40 #[.val (.int i)] [])) rfl (hb hby d_const_40)
            refine own_via ?_ st10
            show Go _ _ _ _ _ _ _ _ (mkF m 43 #[.val (.int i)] [(.ref a_LENGTH)])
            have hq := hc9
            exact own_retR X10 hx hret hlk rfl rfl (hb hby d_const_43) (by decide) (by decide) (by rw [e10]; exact ⟨a_LENGTH, rfl, E_LENGTH, (show fe i = (1 : Int32) from by rw [hq]; rfl).symm ▸ F_LENGTH, (show mo i = (1 : Int32) from by rw [hq]; rfl).symm ▸ G_LENGTH, N0, rfl⟩)
          · skip
            refine own_via ?_ fun _ kt => XS.icmpYes X0.here hx rfl (pc0 := 37) (pc' := 44) rfl (hb hby d_const_37) rfl (feq hc9).2 (by decide) (by decide) kt
            show Go _ _ _ _ _ _ _ _ (mkF m 44 #[.val (.int i)] [])
            refine own_via ?_ fun _ kt => XS.iloadN X0.here hx rfl (hb hby d_const_44) rfl kt
            show Go _ _ _ _ _ _ _ _ (mkF m 45 #[.val (.int i)] [(.int i)])
            refine own_via ?_ fun _ kt => XS.iconst X0.here hx rfl (hb hby d_const_45) kt
            show Go _ _ _ _ _ _ _ _ (mkF m 46 #[.val (.int i)] [(.int (5 : Int32)), (.int i)])
            by_cases hc11 : i = (5 : Int32)
            · skip
              refine own_via ?_ fun _ kt => XS.icmpNo X0.here hx rfl (hb hby d_const_46) rfl (teq hc11).2 kt
              show Go _ _ _ _ _ _ _ _ (mkF m 49 #[.val (.int i)] [])
              obtain ⟨T12, X12, e12, st12⟩ := getS2 X0 hx hZ hown (host := "") (Or.inl (hw _ (List.mem_of_getElem? (i := 53) rfl))) Via.refl e0 S_LOCATE (g := (mkF m 49 #[.val (.int i)] [])) rfl (hb hby d_const_49)
              refine own_via ?_ st12
              show Go _ _ _ _ _ _ _ _ (mkF m 52 #[.val (.int i)] [(.ref a_LOCATE)])
              have hq := hc11
              exact own_retR X12 hx hret hlk rfl rfl (hb hby d_const_52) (by decide) (by decide) (by rw [e12]; exact ⟨a_LOCATE, rfl, E_LOCATE, (show fe i = (2 : Int32) from by rw [hq]; rfl).symm ▸ F_LOCATE, (show mo i = (3 : Int32) from by rw [hq]; rfl).symm ▸ G_LOCATE, N0, rfl⟩)
            · skip
              refine own_via ?_ fun _ kt => XS.icmpYes X0.here hx rfl (pc0 := 46) (pc' := 53) rfl (hb hby d_const_46) rfl (feq hc11).2 (by decide) (by decide) kt
              show Go _ _ _ _ _ _ _ _ (mkF m 53 #[.val (.int i)] [])
              refine own_via ?_ fun _ kt => XS.iloadN X0.here hx rfl (hb hby d_const_53) rfl kt
              show Go _ _ _ _ _ _ _ _ (mkF m 54 #[.val (.int i)] [(.int i)])
              refine own_via ?_ fun _ kt => XS.bipush X0.here hx rfl (hb hby d_const_54) kt
              show Go _ _ _ _ _ _ _ _ (mkF m 56 #[.val (.int i)] [(.int (6 : Int32)), (.int i)])
              by_cases hc13 : i = (6 : Int32)
              · skip
                refine own_via ?_ fun _ kt => XS.icmpNo X0.here hx rfl (hb hby d_const_56) rfl (teq hc13).2 kt
                show Go _ _ _ _ _ _ _ _ (mkF m 59 #[.val (.int i)] [])
                obtain ⟨T14, X14, e14, st14⟩ := getS2 X0 hx hZ hown (host := "") (Or.inl (hw _ (List.mem_of_getElem? (i := 51) rfl))) Via.refl e0 S_LEFT (g := (mkF m 59 #[.val (.int i)] [])) rfl (hb hby d_const_59)
                refine own_via ?_ st14
                show Go _ _ _ _ _ _ _ _ (mkF m 62 #[.val (.int i)] [(.ref a_LEFT)])
                have hq := hc13
                exact own_retR X14 hx hret hlk rfl rfl (hb hby d_const_62) (by decide) (by decide) (by rw [e14]; exact ⟨a_LEFT, rfl, E_LEFT, (show fe i = (2 : Int32) from by rw [hq]; rfl).symm ▸ F_LEFT, (show mo i = (2 : Int32) from by rw [hq]; rfl).symm ▸ G_LEFT, N0, rfl⟩)
              · skip
                refine own_via ?_ fun _ kt => XS.icmpYes X0.here hx rfl (pc0 := 56) (pc' := 63) rfl (hb hby d_const_56) rfl (feq hc13).2 (by decide) (by decide) kt
                show Go _ _ _ _ _ _ _ _ (mkF m 63 #[.val (.int i)] [])
                refine own_via ?_ fun _ kt => XS.iloadN X0.here hx rfl (hb hby d_const_63) rfl kt
                show Go _ _ _ _ _ _ _ _ (mkF m 64 #[.val (.int i)] [(.int i)])
                refine own_via ?_ fun _ kt => XS.bipush X0.here hx rfl (hb hby d_const_64) kt
                show Go _ _ _ _ _ _ _ _ (mkF m 66 #[.val (.int i)] [(.int (7 : Int32)), (.int i)])
                by_cases hc15 : i = (7 : Int32)
                · skip
                  refine own_via ?_ fun _ kt => XS.icmpNo X0.here hx rfl (hb hby d_const_66) rfl (teq hc15).2 kt
                  show Go _ _ _ _ _ _ _ _ (mkF m 69 #[.val (.int i)] [])
                  obtain ⟨T16, X16, e16, st16⟩ := getS2 X0 hx hZ hown (host := "") (Or.inl (hw _ (List.mem_of_getElem? (i := 31) rfl))) Via.refl e0 S_RIGHT (g := (mkF m 69 #[.val (.int i)] [])) rfl (hb hby d_const_69)
                  refine own_via ?_ st16
                  show Go _ _ _ _ _ _ _ _ (mkF m 72 #[.val (.int i)] [(.ref a_RIGHT)])
                  have hq := hc15
                  exact own_retR X16 hx hret hlk rfl rfl (hb hby d_const_72) (by decide) (by decide) (by rw [e16]; exact ⟨a_RIGHT, rfl, E_RIGHT, (show fe i = (2 : Int32) from by rw [hq]; rfl).symm ▸ F_RIGHT, (show mo i = (2 : Int32) from by rw [hq]; rfl).symm ▸ G_RIGHT, N0, rfl⟩)
                · skip
                  refine own_via ?_ fun _ kt => XS.icmpYes X0.here hx rfl (pc0 := 66) (pc' := 73) rfl (hb hby d_const_66) rfl (feq hc15).2 (by decide) (by decide) kt
                  show Go _ _ _ _ _ _ _ _ (mkF m 73 #[.val (.int i)] [])
                  refine own_via ?_ fun _ kt => XS.iloadN X0.here hx rfl (hb hby d_const_73) rfl kt
                  show Go _ _ _ _ _ _ _ _ (mkF m 74 #[.val (.int i)] [(.int i)])
                  refine own_via ?_ fun _ kt => XS.bipush X0.here hx rfl (hb hby d_const_74) kt
                  show Go _ _ _ _ _ _ _ _ (mkF m 76 #[.val (.int i)] [(.int (8 : Int32)), (.int i)])
                  by_cases hc17 : i = (8 : Int32)
                  · skip
                    refine own_via ?_ fun _ kt => XS.icmpNo X0.here hx rfl (hb hby d_const_76) rfl (teq hc17).2 kt
                    show Go _ _ _ _ _ _ _ _ (mkF m 79 #[.val (.int i)] [])
                    obtain ⟨T18, X18, e18, st18⟩ := getS2 X0 hx hZ hown (host := "") (Or.inl (hw _ (List.mem_of_getElem? (i := 27) rfl))) Via.refl e0 S_REPLACE (g := (mkF m 79 #[.val (.int i)] [])) rfl (hb hby d_const_79)
                    refine own_via ?_ st18
                    show Go _ _ _ _ _ _ _ _ (mkF m 82 #[.val (.int i)] [(.ref a_REPLACE)])
                    have hq := hc17
                    exact own_retR X18 hx hret hlk rfl rfl (hb hby d_const_82) (by decide) (by decide) (by rw [e18]; exact ⟨a_REPLACE, rfl, E_REPLACE, (show fe i = (3 : Int32) from by rw [hq]; rfl).symm ▸ F_REPLACE, (show mo i = (3 : Int32) from by rw [hq]; rfl).symm ▸ G_REPLACE, N0, rfl⟩)
                  · skip
                    refine own_via ?_ fun _ kt => XS.icmpYes X0.here hx rfl (pc0 := 76) (pc' := 83) rfl (hb hby d_const_76) rfl (feq hc17).2 (by decide) (by decide) kt
                    show Go _ _ _ _ _ _ _ _ (mkF m 83 #[.val (.int i)] [])
                    refine own_via ?_ fun _ kt => XS.iloadN X0.here hx rfl (hb hby d_const_83) rfl kt
                    show Go _ _ _ _ _ _ _ _ (mkF m 84 #[.val (.int i)] [(.int i)])
                    refine own_via ?_ fun _ kt => XS.bipush X0.here hx rfl (hb hby d_const_84) kt
                    show Go _ _ _ _ _ _ _ _ (mkF m 86 #[.val (.int i)] [(.int (9 : Int32)), (.int i)])
                    by_cases hc19 : i = (9 : Int32)
                    · skip
                      refine own_via ?_ fun _ kt => XS.icmpNo X0.here hx rfl (hb hby d_const_86) rfl (teq hc19).2 kt
                      show Go _ _ _ _ _ _ _ _ (mkF m 89 #[.val (.int i)] [])
                      obtain ⟨T20, X20, e20, st20⟩ := getS2 X0 hx hZ hown (host := "") (Or.inl (hw _ (List.mem_of_getElem? (i := 61) rfl))) Via.refl e0 S_ABS (g := (mkF m 89 #[.val (.int i)] [])) rfl (hb hby d_const_89)
                      refine own_via ?_ st20
                      show Go _ _ _ _ _ _ _ _ (mkF m 92 #[.val (.int i)] [(.ref a_ABS)])
                      have hq := hc19
                      exact own_retR X20 hx hret hlk rfl rfl (hb hby d_const_92) (by decide) (by decide) (by rw [e20]; exact ⟨a_ABS, rfl, E_ABS, (show fe i = (1 : Int32) from by rw [hq]; rfl).symm ▸ F_ABS, (show mo i = (1 : Int32) from by rw [hq]; rfl).symm ▸ G_ABS, N0, rfl⟩)
                    · skip
                      refine own_via ?_ fun _ kt => XS.icmpYes X0.here hx rfl (pc0 := 86) (pc' := 93) rfl (hb hby d_const_86) rfl (feq hc19).2 (by decide) (by decide) kt
                      show Go _ _ _ _ _ _ _ _ (mkF m 93 #[.val (.int i)] [])
                      refine own_via ?_ fun _ kt => XS.iloadN X0.here hx rfl (hb hby d_const_93) rfl kt
                      show Go _ _ _ _ _ _ _ _ (mkF m 94 #[.val (.int i)] [(.int i)])
                      refine own_via ?_ fun _ kt => XS.bipush X0.here hx rfl (hb hby d_const_94) kt
                      show Go _ _ _ _ _ _ _ _ (mkF m 96 #[.val (.int i)] [(.int (10 : Int32)), (.int i)])
                      by_cases hc21 : i = (10 : Int32)
                      · skip
                        refine own_via ?_ fun _ kt => XS.icmpNo X0.here hx rfl (hb hby d_const_96) rfl (teq hc21).2 kt
                        show Go _ _ _ _ _ _ _ _ (mkF m 99 #[.val (.int i)] [])
                        obtain ⟨T22, X22, e22, st22⟩ := getS2 X0 hx hZ hown (host := "") (Or.inl (hw _ (List.mem_of_getElem? (i := 35) rfl))) Via.refl e0 S_SQRT (g := (mkF m 99 #[.val (.int i)] [])) rfl (hb hby d_const_99)
                        refine own_via ?_ st22
                        show Go _ _ _ _ _ _ _ _ (mkF m 102 #[.val (.int i)] [(.ref a_SQRT)])
                        have hq := hc21
                        exact own_retR X22 hx hret hlk rfl rfl (hb hby d_const_102) (by decide) (by decide) (by rw [e22]; exact ⟨a_SQRT, rfl, E_SQRT, (show fe i = (1 : Int32) from by rw [hq]; rfl).symm ▸ F_SQRT, (show mo i = (1 : Int32) from by rw [hq]; rfl).symm ▸ G_SQRT, N0, rfl⟩)
                      · skip
                        refine own_via ?_ fun _ kt => XS.icmpYes X0.here hx rfl (pc0 := 96) (pc' := 103) rfl (hb hby d_const_96) rfl (feq hc21).2 (by decide) (by decide) kt
                        show Go _ _ _ _ _ _ _ _ (mkF m 103 #[.val (.int i)] [])
                        refine own_via ?_ fun _ kt => XS.iloadN X0.here hx rfl (hb hby d_const_103) rfl kt
                        show Go _ _ _ _ _ _ _ _ (mkF m 104 #[.val (.int i)] [(.int i)])
                        refine own_via ?_ fun _ kt => XS.bipush X0.here hx rfl (hb hby d_const_104) kt
                        show Go _ _ _ _ _ _ _ _ (mkF m 106 #[.val (.int i)] [(.int (11 : Int32)), (.int i)])
                        by_cases hc23 : i = (11 : Int32)
                        · skip
                          refine own_via ?_ fun _ kt => XS.icmpNo X0.here hx rfl (hb hby d_const_106) rfl (teq hc23).2 kt
                          show Go _ _ _ _ _ _ _ _ (mkF m 109 #[.val (.int i)] [])
                          obtain ⟨T24, X24, e24, st24⟩ := getS2 X0 hx hZ hown (host := "") (Or.inl (hw _ (List.mem_of_getElem? (i := 43) rfl))) Via.refl e0 S_MOD (g := (mkF m 109 #[.val (.int i)] [])) rfl (hb hby d_const_109)
                          refine own_via ?_ st24
                          show Go _ _ _ _ _ _ _ _ (mkF m 112 #[.val (.int i)] [(.ref a_MOD)])
                          have hq := hc23
                          exact own_retR X24 hx hret hlk rfl rfl (hb hby d_const_112) (by decide) (by decide) (by rw [e24]; exact ⟨a_MOD, rfl, E_MOD, (show fe i = (2 : Int32) from by rw [hq]; rfl).symm ▸ F_MOD, (show mo i = (2 : Int32) from by rw [hq]; rfl).symm ▸ G_MOD, N0, rfl⟩)
                        · skip
                          refine own_via ?_ fun _ kt => XS.icmpYes X0.here hx rfl (pc0 := 106) (pc' := 113) rfl (hb hby d_const_106) rfl (feq hc23).2 (by decide) (by decide) kt
                          show Go _ _ _ _ _ _ _ _ (mkF m 113 #[.val (.int i)] [])
                          refine own_via ?_ fun _ kt => XS.iloadN X0.here hx rfl (hb hby d_const_113) rfl kt
                          show Go _ _ _ _ _ _ _ _ (mkF m 114 #[.val (.int i)] [(.int i)])
                          refine own_via ?_ fun _ kt => XS.bipush X0.here hx rfl (hb hby d_const_114) kt
                          show Go _ _ _ _ _ _ _ _ (mkF m 116 #[.val (.int i)] [(.int (12 : Int32)), (.int i)])
                          by_cases hc25 : i = (12 : Int32)
                          · skip
                            refine own_via ?_ fun _ kt => XS.icmpNo X0.here hx rfl (hb hby d_const_116) rfl (teq hc25).2 kt
                            show Go _ _ _ _ _ _ _ _ (mkF m 119 #[.val (.int i)] [])
                            obtain ⟨T26, X26, e26, st26⟩ := getS2 X0 hx hZ hown (host := "") (Or.inl (hw _ (List.mem_of_getElem? (i := 65) rfl))) Via.refl e0 S_CEILING (g := (mkF m 119 #[.val (.int i)] [])) rfl (hb hby d_const_119)
                            refine own_via ?_ st26
                            show Go _ _ _ _ _ _ _ _ (mkF m 122 #[.val (.int i)] [(.ref a_CEILING)])
                            have hq := hc25
                            exact own_retR X26 hx hret hlk rfl rfl (hb hby d_const_122) (by decide) (by decide) (by rw [e26]; exact ⟨a_CEILING, rfl, E_CEILING, (show fe i = (1 : Int32) from by rw [hq]; rfl).symm ▸ F_CEILING, (show mo i = (1 : Int32) from by rw [hq]; rfl).symm ▸ G_CEILING, N0, rfl⟩)
                          · skip
                            refine own_via ?_ fun _ kt => XS.icmpYes X0.here hx rfl (pc0 := 116) (pc' := 123) rfl (hb hby d_const_116) rfl (feq hc25).2 (by decide) (by decide) kt
                            show Go _ _ _ _ _ _ _ _ (mkF m 123 #[.val (.int i)] [])
                            refine own_via ?_ fun _ kt => XS.iloadN X0.here hx rfl (hb hby d_const_123) rfl kt
                            show Go _ _ _ _ _ _ _ _ (mkF m 124 #[.val (.int i)] [(.int i)])
                            refine own_via ?_ fun _ kt => XS.bipush X0.here hx rfl (hb hby d_const_124) kt
                            show Go _ _ _ _ _ _ _ _ (mkF m 126 #[.val (.int i)] [(.int (13 : Int32)), (.int i)])
                            by_cases hc27 : i = (13 : Int32)
                            · skip
                              refine own_via ?_ fun _ kt => XS.icmpNo X0.here hx rfl (hb hby d_const_126) rfl (teq hc27).2 kt
                              show Go _ _ _ _ _ _ _ _ (mkF m 129 #[.val (.int i)] [])
                              obtain ⟨T28, X28, e28, st28⟩ := getS2 X0 hx hZ hown (host := "") (Or.inl (hw _ (List.mem_of_getElem? (i := 47) rfl))) Via.refl e0 S_FLOOR (g := (mkF m 129 #[.val (.int i)] [])) rfl (hb hby d_const_129)
                              refine own_via ?_ st28
                              show Go _ _ _ _ _ _ _ _ (mkF m 132 #[.val (.int i)] [(.ref a_FLOOR)])
                              have hq := hc27
                              exact own_retR X28 hx hret hlk rfl rfl (hb hby d_const_132) (by decide) (by decide) (by rw [e28]; exact ⟨a_FLOOR, rfl, E_FLOOR, (show fe i = (1 : Int32) from by rw [hq]; rfl).symm ▸ F_FLOOR, (show mo i = (1 : Int32) from by rw [hq]; rfl).symm ▸ G_FLOOR, N0, rfl⟩)
                            · skip
                              refine own_via ?_ fun _ kt => XS.icmpYes X0.here hx rfl (pc0 := 126) (pc' := 133) rfl (hb hby d_const_126) rfl (feq hc27).2 (by decide) (by decide) kt
                              show Go _ _ _ _ _ _ _ _ (mkF m 133 #[.val (.int i)] [])
                              refine own_via ?_ fun _ kt => XS.iloadN X0.here hx rfl (hb hby d_const_133) rfl kt
                              show Go _ _ _ _ _ _ _ _ (mkF m 134 #[.val (.int i)] [(.int i)])
                              refine own_via ?_ fun _ kt => XS.bipush X0.here hx rfl (hb hby d_const_134) kt
                              show Go _ _ _ _ _ _ _ _ (mkF m 136 #[.val (.int i)] [(.int (14 : Int32)), (.int i)])
                              by_cases hc29 : i = (14 : Int32)
                              · skip
                                refine own_via ?_ fun _ kt => XS.icmpNo X0.here hx rfl (hb hby d_const_136) rfl (teq hc29).2 kt
                                show Go _ _ _ _ _ _ _ _ (mkF m 139 #[.val (.int i)] [])
                                obtain ⟨T30, X30, e30, st30⟩ := getS2 X0 hx hZ hown (host := "") (Or.inl (hw _ (List.mem_of_getElem? (i := 55) rfl))) Via.refl e0 S_ROUND (g := (mkF m 139 #[.val (.int i)] [])) rfl (hb hby d_const_139)
                                refine own_via ?_ st30
                                show Go _ _ _ _ _ _ _ _ (mkF m 142 #[.val (.int i)] [(.ref a_ROUND)])
                                have hq := hc29
                                exact own_retR X30 hx hret hlk rfl rfl (hb hby d_const_142) (by decide) (by decide) (by rw [e30]; exact ⟨a_ROUND, rfl, E_ROUND, (show fe i = (2 : Int32) from by rw [hq]; rfl).symm ▸ F_ROUND, (show mo i = (2 : Int32) from by rw [hq]; rfl).symm ▸ G_ROUND, N0, rfl⟩)
                              · skip
                                refine own_via ?_ fun _ kt => XS.icmpYes X0.here hx rfl (pc0 := 136) (pc' := 143) rfl (hb hby d_const_136) rfl (feq hc29).2 (by decide) (by decide) kt
                                show Go _ _ _ _ _ _ _ _ (mkF m 143 #[.val (.int i)] [])
                                refine own_via ?_ fun _ kt => XS.iloadN X0.here hx rfl (hb hby d_const_143) rfl kt
                                show Go _ _ _ _ _ _ _ _ (mkF m 144 #[.val (.int i)] [(.int i)])
                                refine own_via ?_ fun _ kt => XS.bipush X0.here hx rfl (hb hby d_const_144) kt
                                show Go _ _ _ _ _ _ _ _ (mkF m 146 #[.val (.int i)] [(.int (15 : Int32)), (.int i)])
                                by_cases hc31 : i = (15 : Int32)
                                · skip
                                  refine own_via ?_ fun _ kt => XS.icmpNo X0.here hx rfl (hb hby d_const_146) rfl (teq hc31).2 kt
                                  show Go _ _ _ _ _ _ _ _ (mkF m 149 #[.val (.int i)] [])
                                  obtain ⟨T32, X32, e32, st32⟩ := getS2 X0 hx hZ hown (host := "") (Or.inl (hw _ (List.mem_of_getElem? (i := 73) rfl))) Via.refl e0 S_SIGN (g := (mkF m 149 #[.val (.int i)] [])) rfl (hb hby d_const_149)
                                  refine own_via ?_ st32
                                  show Go _ _ _ _ _ _ _ _ (mkF m 152 #[.val (.int i)] [(.ref a_SIGN)])
                                  have hq := hc31
                                  exact own_retR X32 hx hret hlk rfl rfl (hb hby d_const_152) (by decide) (by decide) (by rw [e32]; exact ⟨a_SIGN, rfl, E_SIGN, (show fe i = (1 : Int32) from by rw [hq]; rfl).symm ▸ F_SIGN, (show mo i = (1 : Int32) from by rw [hq]; rfl).symm ▸ G_SIGN, N0, rfl⟩)
                                · skip
                                  refine own_via ?_ fun _ kt => XS.icmpYes X0.here hx rfl (pc0 := 146) (pc' := 153) rfl (hb hby d_const_146) rfl (feq hc31).2 (by decide) (by decide) kt
                                  show Go _ _ _ _ _ _ _ _ (mkF m 153 #[.val (.int i)] [])
                                  refine own_via ?_ fun _ kt => XS.iloadN X0.here hx rfl (hb hby d_const_153) rfl kt
                                  show Go _ _ _ _ _ _ _ _ (mkF m 154 #[.val (.int i)] [(.int i)])
                                  refine own_via ?_ fun _ kt => XS.bipush X0.here hx rfl (hb hby d_const_154) kt
                                  show Go _ _ _ _ _ _ _ _ (mkF m 156 #[.val (.int i)] [(.int (16 : Int32)), (.int i)])
                                  by_cases hc33 : i = (16 : Int32)
                                  · skip
                                    refine own_via ?_ fun _ kt => XS.icmpNo X0.here hx rfl (hb hby d_const_156) rfl (teq hc33).2 kt
                                    show Go _ _ _ _ _ _ _ _ (mkF m 159 #[.val (.int i)] [])
                                    obtain ⟨T34, X34, e34, st34⟩ := getS2 X0 hx hZ hown (host := "") (Or.inl (hw _ (List.mem_of_getElem? (i := 37) rfl))) Via.refl e0 S_POWER (g := (mkF m 159 #[.val (.int i)] [])) rfl (hb hby d_const_159)
                                    refine own_via ?_ st34
                                    show Go _ _ _ _ _ _ _ _ (mkF m 162 #[.val (.int i)] [(.ref a_POWER)])
                                    have hq := hc33
                                    exact own_retR X34 hx hret hlk rfl rfl (hb hby d_const_162) (by decide) (by decide) (by rw [e34]; exact ⟨a_POWER, rfl, E_POWER, (show fe i = (2 : Int32) from by rw [hq]; rfl).symm ▸ F_POWER, (show mo i = (2 : Int32) from by rw [hq]; rfl).symm ▸ G_POWER, N0, rfl⟩)
                                  · skip
                                    refine own_via ?_ fun _ kt => XS.icmpYes X0.here hx rfl (pc0 := 156) (pc' := 163) rfl (hb hby d_const_156) rfl (feq hc33).2 (by decide) (by decide) kt
                                    show Go _ _ _ _ _ _ _ _ (mkF m 163 #[.val (.int i)] [])
                                    refine own_via ?_ fun _ kt => XS.iloadN X0.here hx rfl (hb hby d_const_163) rfl kt
                                    show Go _ _ _ _ _ _ _ _ (mkF m 164 #[.val (.int i)] [(.int i)])
                                    refine own_via ?_ fun _ kt => XS.bipush X0.here hx rfl (hb hby d_const_164) kt
                                    show Go _ _ _ _ _ _ _ _ (mkF m 166 #[.val (.int i)] [(.int (17 : Int32)), (.int i)])
                                    by_cases hc35 : i = (17 : Int32)
                                    · skip
                                      refine own_via ?_ fun _ kt => XS.icmpNo X0.here hx rfl (hb hby d_const_166) rfl (teq hc35).2 kt
                                      show Go _ _ _ _ _ _ _ _ (mkF m 169 #[.val (.int i)] [])
                                      obtain ⟨T36, X36, e36, st36⟩ := getS2 X0 hx hZ hown (host := "") (Or.inl (hw _ (List.mem_of_getElem? (i := 39) rfl))) Via.refl e0 S_EXP (g := (mkF m 169 #[.val (.int i)] [])) rfl (hb hby d_const_169)
                                      refine own_via ?_ st36
                                      show Go _ _ _ _ _ _ _ _ (mkF m 172 #[.val (.int i)] [(.ref a_EXP)])
                                      have hq := hc35
                                      exact own_retR X36 hx hret hlk rfl rfl (hb hby d_const_172) (by decide) (by decide) (by rw [e36]; exact ⟨a_EXP, rfl, E_EXP, (show fe i = (1 : Int32) from by rw [hq]; rfl).symm ▸ F_EXP, (show mo i = (1 : Int32) from by rw [hq]; rfl).symm ▸ G_EXP, N0, rfl⟩)
                                    · skip
                                      refine own_via ?_ fun _ kt => XS.icmpYes X0.here hx rfl (pc0 := 166) (pc' := 173) rfl (hb hby d_const_166) rfl (feq hc35).2 (by decide) (by decide) kt
                                      show Go _ _ _ _ _ _ _ _ (mkF m 173 #[.val (.int i)] [])
                                      refine own_via ?_ fun _ kt => XS.iloadN X0.here hx rfl (hb hby d_const_173) rfl kt
                                      show Go _ _ _ _ _ _ _ _ (mkF m 174 #[.val (.int i)] [(.int i)])
                                      refine own_via ?_ fun _ kt => XS.bipush X0.here hx rfl (hb hby d_const_174) kt
                                      show Go _ _ _ _ _ _ _ _ (mkF m 176 #[.val (.int i)] [(.int (18 : Int32)), (.int i)])
                                      by_cases hc37 : i = (18 : Int32)
                                      · skip
                                        refine own_via ?_ fun _ kt => XS.icmpNo X0.here hx rfl (hb hby d_const_176) rfl (teq hc37).2 kt
                                        show Go _ _ _ _ _ _ _ _ (mkF m 179 #[.val (.int i)] [])
                                        obtain ⟨T38, X38, e38, st38⟩ := getS2 X0 hx hZ hown (host := "") (Or.inl (hw _ (List.mem_of_getElem? (i := 49) rfl))) Via.refl e0 S_LN (g := (mkF m 179 #[.val (.int i)] [])) rfl (hb hby d_const_179)
                                        refine own_via ?_ st38
                                        show Go _ _ _ _ _ _ _ _ (mkF m 182 #[.val (.int i)] [(.ref a_LN)])
                                        have hq := hc37
                                        exact own_retR X38 hx hret hlk rfl rfl (hb hby d_const_182) (by decide) (by decide) (by rw [e38]; exact ⟨a_LN, rfl, E_LN, (show fe i = (1 : Int32) from by rw [hq]; rfl).symm ▸ F_LN, (show mo i = (1 : Int32) from by rw [hq]; rfl).symm ▸ G_LN, N0, rfl⟩)
                                      · skip
                                        refine own_via ?_ fun _ kt => XS.icmpYes X0.here hx rfl (pc0 := 176) (pc' := 183) rfl (hb hby d_const_176) rfl (feq hc37).2 (by decide) (by decide) kt
                                        show Go _ _ _ _ _ _ _ _ (mkF m 183 #[.val (.int i)] [])
                                        refine own_via ?_ fun _ kt => XS.iloadN X0.here hx rfl (hb hby d_const_183) rfl kt
                                        show Go _ _ _ _ _ _ _ _ (mkF m 184 #[.val (.int i)] [(.int i)])
                                        refine own_via ?_ fun _ kt => XS.bipush X0.here hx rfl (hb hby d_const_184) kt
                                        show Go _ _ _ _ _ _ _ _ (mkF m 186 #[.val (.int i)] [(.int (19 : Int32)), (.int i)])
                                        by_cases hc39 : i = (19 : Int32)
                                        · skip
                                          refine own_via ?_ fun _ kt => XS.icmpNo X0.here hx rfl (hb hby d_const_186) rfl (teq hc39).2 kt
                                          show Go _ _ _ _ _ _ _ _ (mkF m 189 #[.val (.int i)] [])
                                          obtain ⟨T40, X40, e40, st40⟩ := getS2 X0 hx hZ hown (host := "") (Or.inl (hw _ (List.mem_of_getElem? (i := 41) rfl))) Via.refl e0 S_COALESCE (g := (mkF m 189 #[.val (.int i)] [])) rfl (hb hby d_const_189)
                                          refine own_via ?_ st40
                                          show Go _ _ _ _ _ _ _ _ (mkF m 192 #[.val (.int i)] [(.ref a_COALESCE)])
                                          have hq := hc39
                                          exact own_retR X40 hx hret hlk rfl rfl (hb hby d_const_192) (by decide) (by decide) (by rw [e40]; exact ⟨a_COALESCE, rfl, E_COALESCE, (show fe i = (2 : Int32) from by rw [hq]; rfl).symm ▸ F_COALESCE, (show mo i = (2147483647 : Int32) from by rw [hq]; rfl).symm ▸ G_COALESCE, N0, rfl⟩)
                                        · skip
                                          refine own_via ?_ fun _ kt => XS.icmpYes X0.here hx rfl (pc0 := 186) (pc' := 193) rfl (hb hby d_const_186) rfl (feq hc39).2 (by decide) (by decide) kt
                                          show Go _ _ _ _ _ _ _ _ (mkF m 193 #[.val (.int i)] [])
                                          refine own_via ?_ fun _ kt => XS.iloadN X0.here hx rfl (hb hby d_const_193) rfl kt
                                          show Go _ _ _ _ _ _ _ _ (mkF m 194 #[.val (.int i)] [(.int i)])
                                          refine own_via ?_ fun _ kt => XS.bipush X0.here hx rfl (hb hby d_const_194) kt
                                          show Go _ _ _ _ _ _ _ _ (mkF m 196 #[.val (.int i)] [(.int (20 : Int32)), (.int i)])
                                          by_cases hc41 : i = (20 : Int32)
                                          · skip
                                            refine own_via ?_ fun _ kt => XS.icmpNo X0.here hx rfl (hb hby d_const_196) rfl (teq hc41).2 kt
                                            show Go _ _ _ _ _ _ _ _ (mkF m 199 #[.val (.int i)] [])
                                            obtain ⟨T42, X42, e42, st42⟩ := getS2 X0 hx hZ hown (host := "") (Or.inl (hw _ (List.mem_of_getElem? (i := 57) rfl))) Via.refl e0 S_NULLIF (g := (mkF m 199 #[.val (.int i)] [])) rfl (hb hby d_const_199)
                                            refine own_via ?_ st42
                                            show Go _ _ _ _ _ _ _ _ (mkF m 202 #[.val (.int i)] [(.ref a_NULLIF)])
                                            have hq := hc41
                                            exact own_retR X42 hx hret hlk rfl rfl (hb hby d_const_202) (by decide) (by decide) (by rw [e42]; exact ⟨a_NULLIF, rfl, E_NULLIF, (show fe i = (2 : Int32) from by rw [hq]; rfl).symm ▸ F_NULLIF, (show mo i = (2 : Int32) from by rw [hq]; rfl).symm ▸ G_NULLIF, N0, rfl⟩)
                                          · skip
                                            refine own_via ?_ fun _ kt => XS.icmpYes X0.here hx rfl (pc0 := 196) (pc' := 203) rfl (hb hby d_const_196) rfl (feq hc41).2 (by decide) (by decide) kt
                                            show Go _ _ _ _ _ _ _ _ (mkF m 203 #[.val (.int i)] [])
                                            refine own_via ?_ fun _ kt => XS.iloadN X0.here hx rfl (hb hby d_const_203) rfl kt
                                            show Go _ _ _ _ _ _ _ _ (mkF m 204 #[.val (.int i)] [(.int i)])
                                            refine own_via ?_ fun _ kt => XS.bipush X0.here hx rfl (hb hby d_const_204) kt
                                            show Go _ _ _ _ _ _ _ _ (mkF m 206 #[.val (.int i)] [(.int (21 : Int32)), (.int i)])
                                            by_cases hc43 : i = (21 : Int32)
                                            · skip
                                              refine own_via ?_ fun _ kt => XS.icmpNo X0.here hx rfl (hb hby d_const_206) rfl (teq hc43).2 kt
                                              show Go _ _ _ _ _ _ _ _ (mkF m 209 #[.val (.int i)] [])
                                              obtain ⟨T44, X44, e44, st44⟩ := getS2 X0 hx hZ hown (host := "") (Or.inl (hw _ (List.mem_of_getElem? (i := 67) rfl))) Via.refl e0 S_CURRENT_DATE (g := (mkF m 209 #[.val (.int i)] [])) rfl (hb hby d_const_209)
                                              refine own_via ?_ st44
                                              show Go _ _ _ _ _ _ _ _ (mkF m 212 #[.val (.int i)] [(.ref a_CURRENT_DATE)])
                                              have hq := hc43
                                              exact own_retR X44 hx hret hlk rfl rfl (hb hby d_const_212) (by decide) (by decide) (by rw [e44]; exact ⟨a_CURRENT_DATE, rfl, E_CURRENT_DATE, (show fe i = (0 : Int32) from by rw [hq]; rfl).symm ▸ F_CURRENT_DATE, (show mo i = (0 : Int32) from by rw [hq]; rfl).symm ▸ G_CURRENT_DATE, N0, rfl⟩)
                                            · skip
                                              refine own_via ?_ fun _ kt => XS.icmpYes X0.here hx rfl (pc0 := 206) (pc' := 213) rfl (hb hby d_const_206) rfl (feq hc43).2 (by decide) (by decide) kt
                                              show Go _ _ _ _ _ _ _ _ (mkF m 213 #[.val (.int i)] [])
                                              refine own_via ?_ fun _ kt => XS.iloadN X0.here hx rfl (hb hby d_const_213) rfl kt
                                              show Go _ _ _ _ _ _ _ _ (mkF m 214 #[.val (.int i)] [(.int i)])
                                              refine own_via ?_ fun _ kt => XS.bipush X0.here hx rfl (hb hby d_const_214) kt
                                              show Go _ _ _ _ _ _ _ _ (mkF m 216 #[.val (.int i)] [(.int (22 : Int32)), (.int i)])
                                              by_cases hc45 : i = (22 : Int32)
                                              · skip
                                                refine own_via ?_ fun _ kt => XS.icmpNo X0.here hx rfl (hb hby d_const_216) rfl (teq hc45).2 kt
                                                show Go _ _ _ _ _ _ _ _ (mkF m 219 #[.val (.int i)] [])
                                                obtain ⟨T46, X46, e46, st46⟩ := getS2 X0 hx hZ hown (host := "") (Or.inl (hw _ (List.mem_of_getElem? (i := 71) rfl))) Via.refl e0 S_CURRENT_TIME (g := (mkF m 219 #[.val (.int i)] [])) rfl (hb hby d_const_219)
                                                refine own_via ?_ st46
                                                show Go _ _ _ _ _ _ _ _ (mkF m 222 #[.val (.int i)] [(.ref a_CURRENT_TIME)])
                                                have hq := hc45
                                                exact own_retR X46 hx hret hlk rfl rfl (hb hby d_const_222) (by decide) (by decide) (by rw [e46]; exact ⟨a_CURRENT_TIME, rfl, E_CURRENT_TIME, (show fe i = (0 : Int32) from by rw [hq]; rfl).symm ▸ F_CURRENT_TIME, (show mo i = (0 : Int32) from by rw [hq]; rfl).symm ▸ G_CURRENT_TIME, N0, rfl⟩)
                                              · skip
                                                refine own_via ?_ fun _ kt => XS.icmpYes X0.here hx rfl (pc0 := 216) (pc' := 223) rfl (hb hby d_const_216) rfl (feq hc45).2 (by decide) (by decide) kt
                                                show Go _ _ _ _ _ _ _ _ (mkF m 223 #[.val (.int i)] [])
                                                refine own_via ?_ fun _ kt => XS.iloadN X0.here hx rfl (hb hby d_const_223) rfl kt
                                                show Go _ _ _ _ _ _ _ _ (mkF m 224 #[.val (.int i)] [(.int i)])
                                                refine own_via ?_ fun _ kt => XS.bipush X0.here hx rfl (hb hby d_const_224) kt
                                                show Go _ _ _ _ _ _ _ _ (mkF m 226 #[.val (.int i)] [(.int (23 : Int32)), (.int i)])
                                                by_cases hc47 : i = (23 : Int32)
                                                · skip
                                                  refine own_via ?_ fun _ kt => XS.icmpNo X0.here hx rfl (hb hby d_const_226) rfl (teq hc47).2 kt
                                                  show Go _ _ _ _ _ _ _ _ (mkF m 229 #[.val (.int i)] [])
                                                  obtain ⟨T48, X48, e48, st48⟩ := getS2 X0 hx hZ hown (host := "") (Or.inl (hw _ (List.mem_of_getElem? (i := 69) rfl))) Via.refl e0 S_CURRENT_TIMESTAMP (g := (mkF m 229 #[.val (.int i)] [])) rfl (hb hby d_const_229)
                                                  refine own_via ?_ st48
                                                  show Go _ _ _ _ _ _ _ _ (mkF m 232 #[.val (.int i)] [(.ref a_CURRENT_TIMESTAMP)])
                                                  have hq := hc47
                                                  exact own_retR X48 hx hret hlk rfl rfl (hb hby d_const_232) (by decide) (by decide) (by rw [e48]; exact ⟨a_CURRENT_TIMESTAMP, rfl, E_CURRENT_TIMESTAMP, (show fe i = (0 : Int32) from by rw [hq]; rfl).symm ▸ F_CURRENT_TIMESTAMP, (show mo i = (0 : Int32) from by rw [hq]; rfl).symm ▸ G_CURRENT_TIMESTAMP, N0, rfl⟩)
                                                · skip
                                                  refine own_via ?_ fun _ kt => XS.icmpYes X0.here hx rfl (pc0 := 226) (pc' := 233) rfl (hb hby d_const_226) rfl (feq hc47).2 (by decide) (by decide) kt
                                                  show Go _ _ _ _ _ _ _ _ (mkF m 233 #[.val (.int i)] [])
                                                  refine own_via ?_ fun _ kt => XS.iloadN X0.here hx rfl (hb hby d_const_233) rfl kt
                                                  show Go _ _ _ _ _ _ _ _ (mkF m 234 #[.val (.int i)] [(.int i)])
                                                  refine own_via ?_ fun _ kt => XS.bipush X0.here hx rfl (hb hby d_const_234) kt
                                                  show Go _ _ _ _ _ _ _ _ (mkF m 236 #[.val (.int i)] [(.int (24 : Int32)), (.int i)])
                                                  by_cases hc49 : i = (24 : Int32)
                                                  · skip
                                                    refine own_via ?_ fun _ kt => XS.icmpNo X0.here hx rfl (hb hby d_const_236) rfl (teq hc49).2 kt
                                                    show Go _ _ _ _ _ _ _ _ (mkF m 239 #[.val (.int i)] [])
                                                    obtain ⟨T50, X50, e50, st50⟩ := getS2 X0 hx hZ hown (host := "") (Or.inl (hw _ (List.mem_of_getElem? (i := 29) rfl))) Via.refl e0 S_LOCAL_DATE (g := (mkF m 239 #[.val (.int i)] [])) rfl (hb hby d_const_239)
                                                    refine own_via ?_ st50
                                                    show Go _ _ _ _ _ _ _ _ (mkF m 242 #[.val (.int i)] [(.ref a_LOCAL_DATE)])
                                                    have hq := hc49
                                                    exact own_retR X50 hx hret hlk rfl rfl (hb hby d_const_242) (by decide) (by decide) (by rw [e50]; exact ⟨a_LOCAL_DATE, rfl, E_LOCAL_DATE, (show fe i = (0 : Int32) from by rw [hq]; rfl).symm ▸ F_LOCAL_DATE, (show mo i = (0 : Int32) from by rw [hq]; rfl).symm ▸ G_LOCAL_DATE, N0, rfl⟩)
                                                  · skip
                                                    refine own_via ?_ fun _ kt => XS.icmpYes X0.here hx rfl (pc0 := 236) (pc' := 243) rfl (hb hby d_const_236) rfl (feq hc49).2 (by decide) (by decide) kt
                                                    show Go _ _ _ _ _ _ _ _ (mkF m 243 #[.val (.int i)] [])
                                                    refine own_via ?_ fun _ kt => XS.iloadN X0.here hx rfl (hb hby d_const_243) rfl kt
                                                    show Go _ _ _ _ _ _ _ _ (mkF m 244 #[.val (.int i)] [(.int i)])
                                                    refine own_via ?_ fun _ kt => XS.bipush X0.here hx rfl (hb hby d_const_244) kt
                                                    show Go _ _ _ _ _ _ _ _ (mkF m 246 #[.val (.int i)] [(.int (25 : Int32)), (.int i)])
                                                    by_cases hc51 : i = (25 : Int32)
                                                    · skip
                                                      refine own_via ?_ fun _ kt => XS.icmpNo X0.here hx rfl (hb hby d_const_246) rfl (teq hc51).2 kt
                                                      show Go _ _ _ _ _ _ _ _ (mkF m 249 #[.val (.int i)] [])
                                                      obtain ⟨T52, X52, e52, st52⟩ := getS2 X0 hx hZ hown (host := "") (Or.inl (hw _ (List.mem_of_getElem? (i := 45) rfl))) Via.refl e0 S_LOCAL_TIME (g := (mkF m 249 #[.val (.int i)] [])) rfl (hb hby d_const_249)
                                                      refine own_via ?_ st52
                                                      show Go _ _ _ _ _ _ _ _ (mkF m 252 #[.val (.int i)] [(.ref a_LOCAL_TIME)])
                                                      have hq := hc51
                                                      exact own_retR X52 hx hret hlk rfl rfl (hb hby d_const_252) (by decide) (by decide) (by rw [e52]; exact ⟨a_LOCAL_TIME, rfl, E_LOCAL_TIME, (show fe i = (0 : Int32) from by rw [hq]; rfl).symm ▸ F_LOCAL_TIME, (show mo i = (0 : Int32) from by rw [hq]; rfl).symm ▸ G_LOCAL_TIME, N0, rfl⟩)
                                                    · skip
                                                      refine own_via ?_ fun _ kt => XS.icmpYes X0.here hx rfl (pc0 := 246) (pc' := 253) rfl (hb hby d_const_246) rfl (feq hc51).2 (by decide) (by decide) kt
                                                      show Go _ _ _ _ _ _ _ _ (mkF m 253 #[.val (.int i)] [])
                                                      obtain ⟨T53, X53, e53, st53⟩ := getS2 X0 hx hZ hown (host := "") (Or.inl (hw _ (List.mem_of_getElem? (i := 59) rfl))) Via.refl e0 S_LOCAL_DATETIME (g := (mkF m 253 #[.val (.int i)] [])) rfl (hb hby d_const_253)
                                                      refine own_via ?_ st53
                                                      show Go _ _ _ _ _ _ _ _ (mkF m 256 #[.val (.int i)] [(.ref a_LOCAL_DATETIME)])
                                                      have hq := (i_last hi hc1 hc3 hc5 hc7 hc9 hc11 hc13 hc15 hc17 hc19 hc21 hc23 hc25 hc27 hc29 hc31 hc33 hc35 hc37 hc39 hc41 hc43 hc45 hc47 hc49 hc51)
                                                      exact own_retR X53 hx hret hlk rfl rfl (hb hby d_const_256) (by decide) (by decide) (by rw [e53]; exact ⟨a_LOCAL_DATETIME, rfl, E_LOCAL_DATETIME, (show fe i = (0 : Int32) from by rw [hq]; rfl).symm ▸ F_LOCAL_DATETIME, (show mo i = (0 : Int32) from by rw [hq]; rfl).symm ▸ G_LOCAL_DATETIME, N0, rfl⟩)
theorem d_few_0 : decode method_3_code 0 = .ok (.iload_n 0, 1) := by decide +kernel
theorem d_few_1 : decode method_3_code 1 = .ok (.bipush 21, 2) := by decide +kernel
theorem d_few_3 : decode method_3_code 3 = .ok (.if_icmp .lt 5, 3) := by decide +kernel
theorem d_few_6 : decode method_3_code 6 = .ok (.iconst 0, 1) := by decide +kernel
theorem d_few_7 : decode method_3_code 7 = .ok (.ireturn, 1) := by decide +kernel
theorem d_few_8 : decode method_3_code 8 = .ok (.iload_n 0, 1) := by decide +kernel
theorem d_few_9 : decode method_3_code 9 = .ok (.bipush 8, 2) := by decide +kernel
theorem d_few_11 : decode method_3_code 11 = .ok (.if_icmp .ne 5, 3) := by decide +kernel
theorem d_few_14 : decode method_3_code 14 = .ok (.iconst 3, 1) := by decide +kernel
theorem d_few_15 : decode method_3_code 15 = .ok (.ireturn, 1) := by decide +kernel
theorem d_few_16 : decode method_3_code 16 = .ok (.iload_n 0, 1) := by decide +kernel
theorem d_few_17 : decode method_3_code 17 = .ok (.ifCond .eq 55, 3) := by decide +kernel
theorem d_few_20 : decode method_3_code 20 = .ok (.iload_n 0, 1) := by decide +kernel
theorem d_few_21 : decode method_3_code 21 = .ok (.iconst 1, 1) := by decide +kernel
theorem d_few_22 : decode method_3_code 22 = .ok (.if_icmp .eq 50, 3) := by decide +kernel
theorem d_few_25 : decode method_3_code 25 = .ok (.iload_n 0, 1) := by decide +kernel
theorem d_few_26 : decode method_3_code 26 = .ok (.iconst 5, 1) := by decide +kernel
theorem d_few_27 : decode method_3_code 27 = .ok (.if_icmp .eq 45, 3) := by decide +kernel
theorem d_few_30 : decode method_3_code 30 = .ok (.iload_n 0, 1) := by decide +kernel
theorem d_few_31 : decode method_3_code 31 = .ok (.bipush 6, 2) := by decide +kernel
theorem d_few_33 : decode method_3_code 33 = .ok (.if_icmp .eq 39, 3) := by decide +kernel
theorem d_few_36 : decode method_3_code 36 = .ok (.iload_n 0, 1) := by decide +kernel
theorem d_few_37 : decode method_3_code 37 = .ok (.bipush 7, 2) := by decide +kernel
theorem d_few_39 : decode method_3_code 39 = .ok (.if_icmp .eq 33, 3) := by decide +kernel
theorem d_few_42 : decode method_3_code 42 = .ok (.iload_n 0, 1) := by decide +kernel
theorem d_few_43 : decode method_3_code 43 = .ok (.bipush 11, 2) := by decide +kernel
theorem d_few_45 : decode method_3_code 45 = .ok (.if_icmp .eq 27, 3) := by decide +kernel
theorem d_few_48 : decode method_3_code 48 = .ok (.iload_n 0, 1) := by decide +kernel
theorem d_few_49 : decode method_3_code 49 = .ok (.bipush 14, 2) := by decide +kernel
theorem d_few_51 : decode method_3_code 51 = .ok (.if_icmp .eq 21, 3) := by decide +kernel
theorem d_few_54 : decode method_3_code 54 = .ok (.iload_n 0, 1) := by decide +kernel
theorem d_few_55 : decode method_3_code 55 = .ok (.bipush 16, 2) := by decide +kernel
theorem d_few_57 : decode method_3_code 57 = .ok (.if_icmp .eq 15, 3) := by decide +kernel
theorem d_few_60 : decode method_3_code 60 = .ok (.iload_n 0, 1) := by decide +kernel
theorem d_few_61 : decode method_3_code 61 = .ok (.bipush 19, 2) := by decide +kernel
theorem d_few_63 : decode method_3_code 63 = .ok (.if_icmp .eq 9, 3) := by decide +kernel
theorem d_few_66 : decode method_3_code 66 = .ok (.iload_n 0, 1) := by decide +kernel
theorem d_few_67 : decode method_3_code 67 = .ok (.bipush 20, 2) := by decide +kernel
theorem d_few_69 : decode method_3_code 69 = .ok (.if_icmp .ne 5, 3) := by decide +kernel
theorem d_few_72 : decode method_3_code 72 = .ok (.iconst 2, 1) := by decide +kernel
theorem d_few_73 : decode method_3_code 73 = .ok (.ireturn, 1) := by decide +kernel
theorem d_few_74 : decode method_3_code 74 = .ok (.iconst 1, 1) := by decide +kernel
theorem d_few_75 : decode method_3_code 75 = .ok (.ireturn, 1) := by decide +kernel
def Q_few (Z : State) (i : Int32) (h0 : Heap) (n0 : Nat) (v : Option Value) (h : Heap) (L : List Loc) : Prop := v = some (.int (fe i)) ∧ Fr n0 L ∧ h = h0
set_option maxRecDepth 65536 in
set_option maxHeartbeats 40000000 in
theorem rm_few (l : Launch) (Z : State) (a0 : Array Value) (hw : ∀ d ∈ tables_1, d.before a0 Z = true) (ws : List Jvm.Cond) (i : Int32) (h0 : Heap) (n0 : Nat) (Z0 : n0 ≤ h0.size) :
    MetFree l (⟨"com/example/deft_orm/deftorm/engine/NameTakesPinLaw", "fewest", "(I)I"⟩ : MethodName) (head1 (Jvm.Cond.code (⟨"com/example/deft_orm/deftorm/engine/NameTakesPinLaw", "fewest", "(I)I"⟩ : MethodName) method_3_code 1 (some .int) :: ws) ({ frames := 0, cells := 0, slots := 0, locals := 0 } : Room)) (fun aa_ U => aa_ = #[(.int i)] ∧ Z.Warmed39 U.vm ∧ U.heap = h0) (fun _ _ _ _ _ => True) (fun _ UU_ oo_ UV_ => ∃ vv_ LL_, oo_ = .returned vv_ ∧ (Q_few Z i h0 n0) vv_ UV_.heap LL_ ∧ FrameEnd UU_ oo_ UV_ LL_ ({ frames := 0, cells := 0, slots := 0, locals := 0 } : Room).cells ({ frames := 0, cells := 0, slots := 0, locals := 0 } : Room).slots) := by
  refine MetFree.of_bodySF (plainFor_of_name pn0) hisR ?_
  intro p e s m args below meth c s₁ Bd hml0 hP hK
  obtain ⟨rfl, hZ, hh⟩ := hP
  have hx := Bd.exec
  have hby := Bd.bytes
  have hlk : meth.locks = false := BodyLoose.notSynchronized Bd
  have hret := Bd.returns
  have hml : c.maxLocals = 1 := hml0
  have hown : s.vm.findClass "com/example/deft_orm/deftorm/engine/NameTakesPinLaw" = some m.cls := findClass_of_methodNamed Bd.named
  have hnm := (name_of_methodNamed Bd.named Bd.method).1
  have X0 : Stand p l e ({ frames := 0, cells := 0, slots := 0, locals := 0 } : Room) s m #[(.int i)] below meth c s₁ [] 0 0 := Stand.of_body Bd
  have e0 : s₁.heap = h0 := by rw [← hh, Bd.state]; rfl
  have N0 := Fr.nil n0
  show Go p e below s ({ frames := 0, cells := 0, slots := 0, locals := 0 } : Room).cells ({ frames := 0, cells := 0, slots := 0, locals := 0 } : Room).slots (Q_few Z i h0 n0) s₁ (entryFrame m #[(.int i)] 1)
  refine own_cast (g' := mkF m 0 #[.val (.int i)] []) (by first | (simp [entryFrame, mkF, argsToLocals, Value.category]; done) | rfl) ?_
  show Go _ _ _ _ _ _ _ _ (mkF m 0 #[.val (.int i)] [])
  refine own_via ?_ fun _ kt => XS.iloadN X0.here hx rfl (hb hby d_few_0) rfl kt
  show Go _ _ _ _ _ _ _ _ (mkF m 1 #[.val (.int i)] [(.int i)])
  refine own_via ?_ fun _ kt => XS.bipush X0.here hx rfl (hb hby d_few_1) kt
  show Go _ _ _ _ _ _ _ _ (mkF m 3 #[.val (.int i)] [(.int (21 : Int32)), (.int i)])
  by_cases hc1 : i < (21 : Int32)
  · skip
    refine own_via ?_ fun _ kt => XS.icmpYes X0.here hx rfl (pc0 := 3) (pc' := 8) rfl (hb hby d_few_3) rfl (tlt hc1).1 (by decide) (by decide) kt
    show Go _ _ _ _ _ _ _ _ (mkF m 8 #[.val (.int i)] [])
    refine own_via ?_ fun _ kt => XS.iloadN X0.here hx rfl (hb hby d_few_8) rfl kt
    show Go _ _ _ _ _ _ _ _ (mkF m 9 #[.val (.int i)] [(.int i)])
    refine own_via ?_ fun _ kt => XS.bipush X0.here hx rfl (hb hby d_few_9) kt
    show Go _ _ _ _ _ _ _ _ (mkF m 11 #[.val (.int i)] [(.int (8 : Int32)), (.int i)])
    by_cases hc2 : i = (8 : Int32)
    · skip
      refine own_via ?_ fun _ kt => XS.icmpNo X0.here hx rfl (hb hby d_few_11) rfl (teq hc2).2 kt
      show Go _ _ _ _ _ _ _ _ (mkF m 14 #[.val (.int i)] [])
      refine own_via ?_ fun _ kt => XS.iconst X0.here hx rfl (hb hby d_few_14) kt
      show Go _ _ _ _ _ _ _ _ (mkF m 15 #[.val (.int i)] [(.int (3 : Int32))])
      exact own_retI X0 hx hret hlk (hb hby d_few_15) (by decide) (by decide) (by rw [e0]; exact ⟨by unfold fe; simp [hc1, hc2], N0, rfl⟩)
    · skip
      refine own_via ?_ fun _ kt => XS.icmpYes X0.here hx rfl (pc0 := 11) (pc' := 16) rfl (hb hby d_few_11) rfl (feq hc2).2 (by decide) (by decide) kt
      show Go _ _ _ _ _ _ _ _ (mkF m 16 #[.val (.int i)] [])
      refine own_via ?_ fun _ kt => XS.iloadN X0.here hx rfl (hb hby d_few_16) rfl kt
      show Go _ _ _ _ _ _ _ _ (mkF m 17 #[.val (.int i)] [(.int i)])
      by_cases hc3 : i = (0 : Int32)
      · skip
        refine own_via ?_ fun _ kt => XS.ifYes X0.here hx rfl (pc0 := 17) (pc' := 72) rfl (hb hby d_few_17) rfl ((if0 _ _).trans (teq hc3).1) (by decide) (by decide) kt
        show Go _ _ _ _ _ _ _ _ (mkF m 72 #[.val (.int i)] [])
        refine own_via ?_ fun _ kt => XS.iconst X0.here hx rfl (hb hby d_few_72) kt
        show Go _ _ _ _ _ _ _ _ (mkF m 73 #[.val (.int i)] [(.int (2 : Int32))])
        exact own_retI X0 hx hret hlk (hb hby d_few_73) (by decide) (by decide) (by rw [e0]; exact ⟨by unfold fe; simp [hc1, hc2, hc3], N0, rfl⟩)
      · skip
        refine own_via ?_ fun _ kt => XS.ifNo X0.here hx rfl (hb hby d_few_17) rfl ((if0 _ _).trans (feq hc3).1) kt
        show Go _ _ _ _ _ _ _ _ (mkF m 20 #[.val (.int i)] [])
        refine own_via ?_ fun _ kt => XS.iloadN X0.here hx rfl (hb hby d_few_20) rfl kt
        show Go _ _ _ _ _ _ _ _ (mkF m 21 #[.val (.int i)] [(.int i)])
        refine own_via ?_ fun _ kt => XS.iconst X0.here hx rfl (hb hby d_few_21) kt
        show Go _ _ _ _ _ _ _ _ (mkF m 22 #[.val (.int i)] [(.int (1 : Int32)), (.int i)])
        by_cases hc4 : i = (1 : Int32)
        · skip
          refine own_via ?_ fun _ kt => XS.icmpYes X0.here hx rfl (pc0 := 22) (pc' := 72) rfl (hb hby d_few_22) rfl (teq hc4).1 (by decide) (by decide) kt
          show Go _ _ _ _ _ _ _ _ (mkF m 72 #[.val (.int i)] [])
          refine own_via ?_ fun _ kt => XS.iconst X0.here hx rfl (hb hby d_few_72) kt
          show Go _ _ _ _ _ _ _ _ (mkF m 73 #[.val (.int i)] [(.int (2 : Int32))])
          exact own_retI X0 hx hret hlk (hb hby d_few_73) (by decide) (by decide) (by rw [e0]; exact ⟨by unfold fe; simp [hc1, hc2, hc3, hc4], N0, rfl⟩)
        · skip
          refine own_via ?_ fun _ kt => XS.icmpNo X0.here hx rfl (hb hby d_few_22) rfl (feq hc4).1 kt
          show Go _ _ _ _ _ _ _ _ (mkF m 25 #[.val (.int i)] [])
          refine own_via ?_ fun _ kt => XS.iloadN X0.here hx rfl (hb hby d_few_25) rfl kt
          show Go _ _ _ _ _ _ _ _ (mkF m 26 #[.val (.int i)] [(.int i)])
          refine own_via ?_ fun _ kt => XS.iconst X0.here hx rfl (hb hby d_few_26) kt
          show Go _ _ _ _ _ _ _ _ (mkF m 27 #[.val (.int i)] [(.int (5 : Int32)), (.int i)])
          by_cases hc5 : i = (5 : Int32)
          · skip
            refine own_via ?_ fun _ kt => XS.icmpYes X0.here hx rfl (pc0 := 27) (pc' := 72) rfl (hb hby d_few_27) rfl (teq hc5).1 (by decide) (by decide) kt
            show Go _ _ _ _ _ _ _ _ (mkF m 72 #[.val (.int i)] [])
            refine own_via ?_ fun _ kt => XS.iconst X0.here hx rfl (hb hby d_few_72) kt
            show Go _ _ _ _ _ _ _ _ (mkF m 73 #[.val (.int i)] [(.int (2 : Int32))])
            exact own_retI X0 hx hret hlk (hb hby d_few_73) (by decide) (by decide) (by rw [e0]; exact ⟨by unfold fe; simp [hc1, hc2, hc3, hc4, hc5], N0, rfl⟩)
          · skip
            refine own_via ?_ fun _ kt => XS.icmpNo X0.here hx rfl (hb hby d_few_27) rfl (feq hc5).1 kt
            show Go _ _ _ _ _ _ _ _ (mkF m 30 #[.val (.int i)] [])
            refine own_via ?_ fun _ kt => XS.iloadN X0.here hx rfl (hb hby d_few_30) rfl kt
            show Go _ _ _ _ _ _ _ _ (mkF m 31 #[.val (.int i)] [(.int i)])
            refine own_via ?_ fun _ kt => XS.bipush X0.here hx rfl (hb hby d_few_31) kt
            show Go _ _ _ _ _ _ _ _ (mkF m 33 #[.val (.int i)] [(.int (6 : Int32)), (.int i)])
            by_cases hc6 : i = (6 : Int32)
            · skip
              refine own_via ?_ fun _ kt => XS.icmpYes X0.here hx rfl (pc0 := 33) (pc' := 72) rfl (hb hby d_few_33) rfl (teq hc6).1 (by decide) (by decide) kt
              show Go _ _ _ _ _ _ _ _ (mkF m 72 #[.val (.int i)] [])
              refine own_via ?_ fun _ kt => XS.iconst X0.here hx rfl (hb hby d_few_72) kt
              show Go _ _ _ _ _ _ _ _ (mkF m 73 #[.val (.int i)] [(.int (2 : Int32))])
              exact own_retI X0 hx hret hlk (hb hby d_few_73) (by decide) (by decide) (by rw [e0]; exact ⟨by unfold fe; simp [hc1, hc2, hc3, hc4, hc5, hc6], N0, rfl⟩)
            · skip
              refine own_via ?_ fun _ kt => XS.icmpNo X0.here hx rfl (hb hby d_few_33) rfl (feq hc6).1 kt
              show Go _ _ _ _ _ _ _ _ (mkF m 36 #[.val (.int i)] [])
              refine own_via ?_ fun _ kt => XS.iloadN X0.here hx rfl (hb hby d_few_36) rfl kt
              show Go _ _ _ _ _ _ _ _ (mkF m 37 #[.val (.int i)] [(.int i)])
              refine own_via ?_ fun _ kt => XS.bipush X0.here hx rfl (hb hby d_few_37) kt
              show Go _ _ _ _ _ _ _ _ (mkF m 39 #[.val (.int i)] [(.int (7 : Int32)), (.int i)])
              by_cases hc7 : i = (7 : Int32)
              · skip
                refine own_via ?_ fun _ kt => XS.icmpYes X0.here hx rfl (pc0 := 39) (pc' := 72) rfl (hb hby d_few_39) rfl (teq hc7).1 (by decide) (by decide) kt
                show Go _ _ _ _ _ _ _ _ (mkF m 72 #[.val (.int i)] [])
                refine own_via ?_ fun _ kt => XS.iconst X0.here hx rfl (hb hby d_few_72) kt
                show Go _ _ _ _ _ _ _ _ (mkF m 73 #[.val (.int i)] [(.int (2 : Int32))])
                exact own_retI X0 hx hret hlk (hb hby d_few_73) (by decide) (by decide) (by rw [e0]; exact ⟨by unfold fe; simp [hc1, hc2, hc3, hc4, hc5, hc6, hc7], N0, rfl⟩)
              · skip
                refine own_via ?_ fun _ kt => XS.icmpNo X0.here hx rfl (hb hby d_few_39) rfl (feq hc7).1 kt
                show Go _ _ _ _ _ _ _ _ (mkF m 42 #[.val (.int i)] [])
                refine own_via ?_ fun _ kt => XS.iloadN X0.here hx rfl (hb hby d_few_42) rfl kt
                show Go _ _ _ _ _ _ _ _ (mkF m 43 #[.val (.int i)] [(.int i)])
                refine own_via ?_ fun _ kt => XS.bipush X0.here hx rfl (hb hby d_few_43) kt
                show Go _ _ _ _ _ _ _ _ (mkF m 45 #[.val (.int i)] [(.int (11 : Int32)), (.int i)])
                by_cases hc8 : i = (11 : Int32)
                · skip
                  refine own_via ?_ fun _ kt => XS.icmpYes X0.here hx rfl (pc0 := 45) (pc' := 72) rfl (hb hby d_few_45) rfl (teq hc8).1 (by decide) (by decide) kt
                  show Go _ _ _ _ _ _ _ _ (mkF m 72 #[.val (.int i)] [])
                  refine own_via ?_ fun _ kt => XS.iconst X0.here hx rfl (hb hby d_few_72) kt
                  show Go _ _ _ _ _ _ _ _ (mkF m 73 #[.val (.int i)] [(.int (2 : Int32))])
                  exact own_retI X0 hx hret hlk (hb hby d_few_73) (by decide) (by decide) (by rw [e0]; exact ⟨by unfold fe; simp [hc1, hc2, hc3, hc4, hc5, hc6, hc7, hc8], N0, rfl⟩)
                · skip
                  refine own_via ?_ fun _ kt => XS.icmpNo X0.here hx rfl (hb hby d_few_45) rfl (feq hc8).1 kt
                  show Go _ _ _ _ _ _ _ _ (mkF m 48 #[.val (.int i)] [])
                  refine own_via ?_ fun _ kt => XS.iloadN X0.here hx rfl (hb hby d_few_48) rfl kt
                  show Go _ _ _ _ _ _ _ _ (mkF m 49 #[.val (.int i)] [(.int i)])
                  refine own_via ?_ fun _ kt => XS.bipush X0.here hx rfl (hb hby d_few_49) kt
                  show Go _ _ _ _ _ _ _ _ (mkF m 51 #[.val (.int i)] [(.int (14 : Int32)), (.int i)])
                  by_cases hc9 : i = (14 : Int32)
                  · skip
                    refine own_via ?_ fun _ kt => XS.icmpYes X0.here hx rfl (pc0 := 51) (pc' := 72) rfl (hb hby d_few_51) rfl (teq hc9).1 (by decide) (by decide) kt
                    show Go _ _ _ _ _ _ _ _ (mkF m 72 #[.val (.int i)] [])
                    refine own_via ?_ fun _ kt => XS.iconst X0.here hx rfl (hb hby d_few_72) kt
                    show Go _ _ _ _ _ _ _ _ (mkF m 73 #[.val (.int i)] [(.int (2 : Int32))])
                    exact own_retI X0 hx hret hlk (hb hby d_few_73) (by decide) (by decide) (by rw [e0]; exact ⟨by unfold fe; simp [hc1, hc2, hc3, hc4, hc5, hc6, hc7, hc8, hc9], N0, rfl⟩)
                  · skip
                    refine own_via ?_ fun _ kt => XS.icmpNo X0.here hx rfl (hb hby d_few_51) rfl (feq hc9).1 kt
                    show Go _ _ _ _ _ _ _ _ (mkF m 54 #[.val (.int i)] [])
                    refine own_via ?_ fun _ kt => XS.iloadN X0.here hx rfl (hb hby d_few_54) rfl kt
                    show Go _ _ _ _ _ _ _ _ (mkF m 55 #[.val (.int i)] [(.int i)])
                    refine own_via ?_ fun _ kt => XS.bipush X0.here hx rfl (hb hby d_few_55) kt
                    show Go _ _ _ _ _ _ _ _ (mkF m 57 #[.val (.int i)] [(.int (16 : Int32)), (.int i)])
                    by_cases hc10 : i = (16 : Int32)
                    · skip
                      refine own_via ?_ fun _ kt => XS.icmpYes X0.here hx rfl (pc0 := 57) (pc' := 72) rfl (hb hby d_few_57) rfl (teq hc10).1 (by decide) (by decide) kt
                      show Go _ _ _ _ _ _ _ _ (mkF m 72 #[.val (.int i)] [])
                      refine own_via ?_ fun _ kt => XS.iconst X0.here hx rfl (hb hby d_few_72) kt
                      show Go _ _ _ _ _ _ _ _ (mkF m 73 #[.val (.int i)] [(.int (2 : Int32))])
                      exact own_retI X0 hx hret hlk (hb hby d_few_73) (by decide) (by decide) (by rw [e0]; exact ⟨by unfold fe; simp [hc1, hc2, hc3, hc4, hc5, hc6, hc7, hc8, hc9, hc10], N0, rfl⟩)
                    · skip
                      refine own_via ?_ fun _ kt => XS.icmpNo X0.here hx rfl (hb hby d_few_57) rfl (feq hc10).1 kt
                      show Go _ _ _ _ _ _ _ _ (mkF m 60 #[.val (.int i)] [])
                      refine own_via ?_ fun _ kt => XS.iloadN X0.here hx rfl (hb hby d_few_60) rfl kt
                      show Go _ _ _ _ _ _ _ _ (mkF m 61 #[.val (.int i)] [(.int i)])
                      refine own_via ?_ fun _ kt => XS.bipush X0.here hx rfl (hb hby d_few_61) kt
                      show Go _ _ _ _ _ _ _ _ (mkF m 63 #[.val (.int i)] [(.int (19 : Int32)), (.int i)])
                      by_cases hc11 : i = (19 : Int32)
                      · skip
                        refine own_via ?_ fun _ kt => XS.icmpYes X0.here hx rfl (pc0 := 63) (pc' := 72) rfl (hb hby d_few_63) rfl (teq hc11).1 (by decide) (by decide) kt
                        show Go _ _ _ _ _ _ _ _ (mkF m 72 #[.val (.int i)] [])
                        refine own_via ?_ fun _ kt => XS.iconst X0.here hx rfl (hb hby d_few_72) kt
                        show Go _ _ _ _ _ _ _ _ (mkF m 73 #[.val (.int i)] [(.int (2 : Int32))])
                        exact own_retI X0 hx hret hlk (hb hby d_few_73) (by decide) (by decide) (by rw [e0]; exact ⟨by unfold fe; simp [hc1, hc2, hc3, hc4, hc5, hc6, hc7, hc8, hc9, hc10, hc11], N0, rfl⟩)
                      · skip
                        refine own_via ?_ fun _ kt => XS.icmpNo X0.here hx rfl (hb hby d_few_63) rfl (feq hc11).1 kt
                        show Go _ _ _ _ _ _ _ _ (mkF m 66 #[.val (.int i)] [])
                        refine own_via ?_ fun _ kt => XS.iloadN X0.here hx rfl (hb hby d_few_66) rfl kt
                        show Go _ _ _ _ _ _ _ _ (mkF m 67 #[.val (.int i)] [(.int i)])
                        refine own_via ?_ fun _ kt => XS.bipush X0.here hx rfl (hb hby d_few_67) kt
                        show Go _ _ _ _ _ _ _ _ (mkF m 69 #[.val (.int i)] [(.int (20 : Int32)), (.int i)])
                        by_cases hc12 : i = (20 : Int32)
                        · skip
                          refine own_via ?_ fun _ kt => XS.icmpNo X0.here hx rfl (hb hby d_few_69) rfl (teq hc12).2 kt
                          show Go _ _ _ _ _ _ _ _ (mkF m 72 #[.val (.int i)] [])
                          refine own_via ?_ fun _ kt => XS.iconst X0.here hx rfl (hb hby d_few_72) kt
                          show Go _ _ _ _ _ _ _ _ (mkF m 73 #[.val (.int i)] [(.int (2 : Int32))])
                          exact own_retI X0 hx hret hlk (hb hby d_few_73) (by decide) (by decide) (by rw [e0]; exact ⟨by unfold fe; simp [hc1, hc2, hc3, hc4, hc5, hc6, hc7, hc8, hc9, hc10, hc11, hc12], N0, rfl⟩)
                        · skip
                          refine own_via ?_ fun _ kt => XS.icmpYes X0.here hx rfl (pc0 := 69) (pc' := 74) rfl (hb hby d_few_69) rfl (feq hc12).2 (by decide) (by decide) kt
                          show Go _ _ _ _ _ _ _ _ (mkF m 74 #[.val (.int i)] [])
                          refine own_via ?_ fun _ kt => XS.iconst X0.here hx rfl (hb hby d_few_74) kt
                          show Go _ _ _ _ _ _ _ _ (mkF m 75 #[.val (.int i)] [(.int (1 : Int32))])
                          exact own_retI X0 hx hret hlk (hb hby d_few_75) (by decide) (by decide) (by rw [e0]; exact ⟨by unfold fe; simp [hc1, hc2, hc3, hc4, hc5, hc6, hc7, hc8, hc9, hc10, hc11, hc12], N0, rfl⟩)
  · skip
    refine own_via ?_ fun _ kt => XS.icmpNo X0.here hx rfl (hb hby d_few_3) rfl (flt hc1).1 kt
    show Go _ _ _ _ _ _ _ _ (mkF m 6 #[.val (.int i)] [])
    refine own_via ?_ fun _ kt => XS.iconst X0.here hx rfl (hb hby d_few_6) kt
    show Go _ _ _ _ _ _ _ _ (mkF m 7 #[.val (.int i)] [(.int (0 : Int32))])
    exact own_retI X0 hx hret hlk (hb hby d_few_7) (by decide) (by decide) (by rw [e0]; exact ⟨by unfold fe; simp [hc1], N0, rfl⟩)
theorem d_most_0 : decode method_4_code 0 = .ok (.iload_n 0, 1) := by decide +kernel
theorem d_most_1 : decode method_4_code 1 = .ok (.ifCond .eq 9, 3) := by decide +kernel
theorem d_most_4 : decode method_4_code 4 = .ok (.iload_n 0, 1) := by decide +kernel
theorem d_most_5 : decode method_4_code 5 = .ok (.bipush 19, 2) := by decide +kernel
theorem d_most_7 : decode method_4_code 7 = .ok (.if_icmp .ne 6, 3) := by decide +kernel
theorem d_most_10 : decode method_4_code 10 = .ok (.ldc 93, 2) := by decide +kernel
theorem d_most_12 : decode method_4_code 12 = .ok (.ireturn, 1) := by decide +kernel
theorem d_most_13 : decode method_4_code 13 = .ok (.iload_n 0, 1) := by decide +kernel
theorem d_most_14 : decode method_4_code 14 = .ok (.iconst 1, 1) := by decide +kernel
theorem d_most_15 : decode method_4_code 15 = .ok (.if_icmp .eq 14, 3) := by decide +kernel
theorem d_most_18 : decode method_4_code 18 = .ok (.iload_n 0, 1) := by decide +kernel
theorem d_most_19 : decode method_4_code 19 = .ok (.iconst 5, 1) := by decide +kernel
theorem d_most_20 : decode method_4_code 20 = .ok (.if_icmp .eq 9, 3) := by decide +kernel
theorem d_most_23 : decode method_4_code 23 = .ok (.iload_n 0, 1) := by decide +kernel
theorem d_most_24 : decode method_4_code 24 = .ok (.bipush 8, 2) := by decide +kernel
theorem d_most_26 : decode method_4_code 26 = .ok (.if_icmp .ne 5, 3) := by decide +kernel
theorem d_most_29 : decode method_4_code 29 = .ok (.iconst 3, 1) := by decide +kernel
theorem d_most_30 : decode method_4_code 30 = .ok (.ireturn, 1) := by decide +kernel
theorem d_most_31 : decode method_4_code 31 = .ok (.iload_n 0, 1) := by decide +kernel
theorem d_most_32 : decode method_4_code 32 = .ok (.invokestatic 94, 3) := by decide +kernel
theorem d_most_35 : decode method_4_code 35 = .ok (.ireturn, 1) := by decide +kernel
def Q_most (Z : State) (i : Int32) (h0 : Heap) (n0 : Nat) (v : Option Value) (h : Heap) (L : List Loc) : Prop := v = some (.int (mo i)) ∧ Fr n0 L ∧ h = h0
set_option maxRecDepth 65536 in
set_option maxHeartbeats 40000000 in
theorem rm_most (l : Launch) (Z : State) (a0 : Array Value) (hw : ∀ d ∈ tables_1, d.before a0 Z = true) (ws : List Jvm.Cond) (i : Int32) (h0 : Heap) (n0 : Nat) (Z0 : n0 ≤ h0.size) :
    MetFree l (⟨"com/example/deft_orm/deftorm/engine/NameTakesPinLaw", "most", "(I)I"⟩ : MethodName) (head1 (Jvm.Cond.code (⟨"com/example/deft_orm/deftorm/engine/NameTakesPinLaw", "most", "(I)I"⟩ : MethodName) method_4_code 1 (some .int) :: ws) ({ frames := 1, cells := 0, slots := 0, locals := 12 } : Room)) (fun aa_ U => aa_ = #[(.int i)] ∧ Z.Warmed39 U.vm ∧ U.heap = h0) (fun _ _ _ _ _ => True) (fun _ UU_ oo_ UV_ => ∃ vv_ LL_, oo_ = .returned vv_ ∧ (Q_most Z i h0 n0) vv_ UV_.heap LL_ ∧ FrameEnd UU_ oo_ UV_ LL_ ({ frames := 1, cells := 0, slots := 0, locals := 12 } : Room).cells ({ frames := 1, cells := 0, slots := 0, locals := 12 } : Room).slots) := by
  refine MetFree.of_bodySF (plainFor_of_name pn0) hisR ?_
  intro p e s m args below meth c s₁ Bd hml0 hP hK
  obtain ⟨rfl, hZ, hh⟩ := hP
  have hx := Bd.exec
  have hby := Bd.bytes
  have hlk : meth.locks = false := BodyLoose.notSynchronized Bd
  have hret := Bd.returns
  have hml : c.maxLocals = 1 := hml0
  have hown : s.vm.findClass "com/example/deft_orm/deftorm/engine/NameTakesPinLaw" = some m.cls := findClass_of_methodNamed Bd.named
  have hnm := (name_of_methodNamed Bd.named Bd.method).1
  have X0 : Stand p l e ({ frames := 1, cells := 0, slots := 0, locals := 12 } : Room) s m #[(.int i)] below meth c s₁ [] 0 0 := Stand.of_body Bd
  have e0 : s₁.heap = h0 := by rw [← hh, Bd.state]; rfl
  have N0 := Fr.nil n0
  show Go p e below s ({ frames := 1, cells := 0, slots := 0, locals := 12 } : Room).cells ({ frames := 1, cells := 0, slots := 0, locals := 12 } : Room).slots (Q_most Z i h0 n0) s₁ (entryFrame m #[(.int i)] 1)
  refine own_cast (g' := mkF m 0 #[.val (.int i)] []) (by first | (simp [entryFrame, mkF, argsToLocals, Value.category]; done) | rfl) ?_
  show Go _ _ _ _ _ _ _ _ (mkF m 0 #[.val (.int i)] [])
  refine own_via ?_ fun _ kt => XS.iloadN X0.here hx rfl (hb hby d_most_0) rfl kt
  show Go _ _ _ _ _ _ _ _ (mkF m 1 #[.val (.int i)] [(.int i)])
  by_cases hc1 : i = (0 : Int32)
  · skip
    refine own_via ?_ fun _ kt => XS.ifYes X0.here hx rfl (pc0 := 1) (pc' := 10) rfl (hb hby d_most_1) rfl ((if0 _ _).trans (teq hc1).1) (by decide) (by decide) kt
    show Go _ _ _ _ _ _ _ _ (mkF m 10 #[.val (.int i)] [])
    refine own_via ?_ fun _ kt => X0.ldcInt hx hown (mvT hZ (hw _ (List.mem_of_getElem? (i := 0) rfl))) (g := (mkF m 10 #[.val (.int i)] [])) rfl (hb hby d_most_10) _ kt
    show Go _ _ _ _ _ _ _ _ (mkF m 12 #[.val (.int i)] [(.int (2147483647 : Int32))])
    exact own_retI X0 hx hret hlk (hb hby d_most_12) (by decide) (by decide) (by rw [e0]; exact ⟨by unfold mo; simp [hc1], N0, rfl⟩)
  · skip
    refine own_via ?_ fun _ kt => XS.ifNo X0.here hx rfl (hb hby d_most_1) rfl ((if0 _ _).trans (feq hc1).1) kt
    show Go _ _ _ _ _ _ _ _ (mkF m 4 #[.val (.int i)] [])
    refine own_via ?_ fun _ kt => XS.iloadN X0.here hx rfl (hb hby d_most_4) rfl kt
    show Go _ _ _ _ _ _ _ _ (mkF m 5 #[.val (.int i)] [(.int i)])
    refine own_via ?_ fun _ kt => XS.bipush X0.here hx rfl (hb hby d_most_5) kt
    show Go _ _ _ _ _ _ _ _ (mkF m 7 #[.val (.int i)] [(.int (19 : Int32)), (.int i)])
    by_cases hc2 : i = (19 : Int32)
    · skip
      refine own_via ?_ fun _ kt => XS.icmpNo X0.here hx rfl (hb hby d_most_7) rfl (teq hc2).2 kt
      show Go _ _ _ _ _ _ _ _ (mkF m 10 #[.val (.int i)] [])
      refine own_via ?_ fun _ kt => X0.ldcInt hx hown (mvT hZ (hw _ (List.mem_of_getElem? (i := 0) rfl))) (g := (mkF m 10 #[.val (.int i)] [])) rfl (hb hby d_most_10) _ kt
      show Go _ _ _ _ _ _ _ _ (mkF m 12 #[.val (.int i)] [(.int (2147483647 : Int32))])
      exact own_retI X0 hx hret hlk (hb hby d_most_12) (by decide) (by decide) (by rw [e0]; exact ⟨by unfold mo; simp [hc1, hc2], N0, rfl⟩)
    · skip
      refine own_via ?_ fun _ kt => XS.icmpYes X0.here hx rfl (pc0 := 7) (pc' := 13) rfl (hb hby d_most_7) rfl (feq hc2).2 (by decide) (by decide) kt
      show Go _ _ _ _ _ _ _ _ (mkF m 13 #[.val (.int i)] [])
      refine own_via ?_ fun _ kt => XS.iloadN X0.here hx rfl (hb hby d_most_13) rfl kt
      show Go _ _ _ _ _ _ _ _ (mkF m 14 #[.val (.int i)] [(.int i)])
      refine own_via ?_ fun _ kt => XS.iconst X0.here hx rfl (hb hby d_most_14) kt
      show Go _ _ _ _ _ _ _ _ (mkF m 15 #[.val (.int i)] [(.int (1 : Int32)), (.int i)])
      by_cases hc3 : i = (1 : Int32)
      · skip
        refine own_via ?_ fun _ kt => XS.icmpYes X0.here hx rfl (pc0 := 15) (pc' := 29) rfl (hb hby d_most_15) rfl (teq hc3).1 (by decide) (by decide) kt
        show Go _ _ _ _ _ _ _ _ (mkF m 29 #[.val (.int i)] [])
        refine own_via ?_ fun _ kt => XS.iconst X0.here hx rfl (hb hby d_most_29) kt
        show Go _ _ _ _ _ _ _ _ (mkF m 30 #[.val (.int i)] [(.int (3 : Int32))])
        exact own_retI X0 hx hret hlk (hb hby d_most_30) (by decide) (by decide) (by rw [e0]; exact ⟨by unfold mo; simp [hc1, hc2, hc3], N0, rfl⟩)
      · skip
        refine own_via ?_ fun _ kt => XS.icmpNo X0.here hx rfl (hb hby d_most_15) rfl (feq hc3).1 kt
        show Go _ _ _ _ _ _ _ _ (mkF m 18 #[.val (.int i)] [])
        refine own_via ?_ fun _ kt => XS.iloadN X0.here hx rfl (hb hby d_most_18) rfl kt
        show Go _ _ _ _ _ _ _ _ (mkF m 19 #[.val (.int i)] [(.int i)])
        refine own_via ?_ fun _ kt => XS.iconst X0.here hx rfl (hb hby d_most_19) kt
        show Go _ _ _ _ _ _ _ _ (mkF m 20 #[.val (.int i)] [(.int (5 : Int32)), (.int i)])
        by_cases hc4 : i = (5 : Int32)
        · skip
          refine own_via ?_ fun _ kt => XS.icmpYes X0.here hx rfl (pc0 := 20) (pc' := 29) rfl (hb hby d_most_20) rfl (teq hc4).1 (by decide) (by decide) kt
          show Go _ _ _ _ _ _ _ _ (mkF m 29 #[.val (.int i)] [])
          refine own_via ?_ fun _ kt => XS.iconst X0.here hx rfl (hb hby d_most_29) kt
          show Go _ _ _ _ _ _ _ _ (mkF m 30 #[.val (.int i)] [(.int (3 : Int32))])
          exact own_retI X0 hx hret hlk (hb hby d_most_30) (by decide) (by decide) (by rw [e0]; exact ⟨by unfold mo; simp [hc1, hc2, hc3, hc4], N0, rfl⟩)
        · skip
          refine own_via ?_ fun _ kt => XS.icmpNo X0.here hx rfl (hb hby d_most_20) rfl (feq hc4).1 kt
          show Go _ _ _ _ _ _ _ _ (mkF m 23 #[.val (.int i)] [])
          refine own_via ?_ fun _ kt => XS.iloadN X0.here hx rfl (hb hby d_most_23) rfl kt
          show Go _ _ _ _ _ _ _ _ (mkF m 24 #[.val (.int i)] [(.int i)])
          refine own_via ?_ fun _ kt => XS.bipush X0.here hx rfl (hb hby d_most_24) kt
          show Go _ _ _ _ _ _ _ _ (mkF m 26 #[.val (.int i)] [(.int (8 : Int32)), (.int i)])
          by_cases hc5 : i = (8 : Int32)
          · skip
            refine own_via ?_ fun _ kt => XS.icmpNo X0.here hx rfl (hb hby d_most_26) rfl (teq hc5).2 kt
            show Go _ _ _ _ _ _ _ _ (mkF m 29 #[.val (.int i)] [])
            refine own_via ?_ fun _ kt => XS.iconst X0.here hx rfl (hb hby d_most_29) kt
            show Go _ _ _ _ _ _ _ _ (mkF m 30 #[.val (.int i)] [(.int (3 : Int32))])
            exact own_retI X0 hx hret hlk (hb hby d_most_30) (by decide) (by decide) (by rw [e0]; exact ⟨by unfold mo; simp [hc1, hc2, hc3, hc4, hc5], N0, rfl⟩)
          · skip
            refine own_via ?_ fun _ kt => XS.icmpYes X0.here hx rfl (pc0 := 26) (pc' := 31) rfl (hb hby d_most_26) rfl (feq hc5).2 (by decide) (by decide) kt
            show Go _ _ _ _ _ _ _ _ (mkF m 31 #[.val (.int i)] [])
            refine own_via ?_ fun _ kt => XS.iloadN X0.here hx rfl (hb hby d_most_31) rfl kt
            show Go _ _ _ _ _ _ _ _ (mkF m 32 #[.val (.int i)] [(.int i)])
            obtain ⟨_, _, ⟨T6, L6, k6, n6⟩, -, X6, ⟨Lc6, hQ6, l6, y6, z6⟩, st6⟩ := Jvm.LawKit.callS X0 hx (y := (⟨"com/example/deft_orm/deftorm/engine/NameTakesPinLaw", "fewest", "(I)I"⟩ : MethodName)) hown (mvT hZ (hw _ (List.mem_of_getElem? (i := 8) rfl))) (mvT hZ (hw _ (List.mem_of_getElem? (i := 9) rfl))) (mvT hZ (hw _ (List.mem_of_getElem? (i := 3) rfl))) (mvT hZ (hw _ (List.mem_of_getElem? (i := 10) rfl))) (by decide) (backOf (W := 0) (rm_few l Z a0 hw [] i h0 n0 Z0) hZ (hw _ (List.mem_of_getElem? (i := 10) rfl)) (hw _ (List.mem_of_getElem? (i := 3) rfl)) (by decide) (by decide)) (g := (mkF m 32 #[.val (.int i)] [(.int i)])) rfl (by rw [hml]; rfl) (argsL := [(.int i)]) (rest := []) (lenOf pd0 rfl) rfl (by show 2 * 0 + _ ≤ _; exact Nat.le_of_eq rfl) (hb hby d_most_32) (fun _ _ => ⟨rfl, e0, (by decide : 0 + 0 ≤ _), (by decide : 0 + 0 ≤ _)⟩)
            dsimp only [Pt.U, Pt.locs, Pt.cells, Pt.slots] at X6 l6 y6 z6 st6 hQ6
            subst l6 y6 z6
            obtain ⟨rfl, Nq6, e6⟩ := hQ6
            have N6 := Fr.app N0 Nq6
            refine own_via ?_ st6
            show Go _ _ _ _ _ _ _ _ (mkF m 35 #[.val (.int i)] [(.int (fe i))])
            exact own_retI X6 hx hret hlk (hb hby d_most_35) (by decide) (by decide) (by rw [e6]; exact ⟨by unfold mo; simp [hc1, hc2, hc3, hc4, hc5], N6, rfl⟩)
theorem d_takes_0 : decode prog_48_method_6_code 0 = .ok (.iload_n 1, 1) := by decide +kernel
theorem d_takes_1 : decode prog_48_method_6_code 1 = .ok (.aload_n 0, 1) := by decide +kernel
theorem d_takes_2 : decode prog_48_method_6_code 2 = .ok (.getfield 108, 3) := by decide +kernel
theorem d_takes_5 : decode prog_48_method_6_code 5 = .ok (.if_icmp .lt 15, 3) := by decide +kernel
theorem d_takes_8 : decode prog_48_method_6_code 8 = .ok (.iload_n 1, 1) := by decide +kernel
theorem d_takes_9 : decode prog_48_method_6_code 9 = .ok (.aload_n 0, 1) := by decide +kernel
theorem d_takes_10 : decode prog_48_method_6_code 10 = .ok (.getfield 112, 3) := by decide +kernel
theorem d_takes_13 : decode prog_48_method_6_code 13 = .ok (.if_icmp .gt 7, 3) := by decide +kernel
theorem d_takes_16 : decode prog_48_method_6_code 16 = .ok (.iconst 1, 1) := by decide +kernel
theorem d_takes_17 : decode prog_48_method_6_code 17 = .ok (.goto 4, 3) := by decide +kernel
theorem d_takes_20 : decode prog_48_method_6_code 20 = .ok (.iconst 0, 1) := by decide +kernel
theorem d_takes_21 : decode prog_48_method_6_code 21 = .ok (.ireturn, 1) := by decide +kernel
def Q_takes (Z : State) (a : Addr) (q z w : Int32) (h0 : Heap) (n0 : Nat) (v : Option Value) (h : Heap) (L : List Loc) : Prop := v = some (.int (bi (¬ q < z ∧ ¬ w < q))) ∧ Fr n0 L ∧ h = h0
set_option maxRecDepth 65536 in
set_option maxHeartbeats 40000000 in
theorem rm_takes (l : Launch) (Z : State) (a0 : Array Value) (hw : ∀ d ∈ tables_1, d.before a0 Z = true) (ws : List Jvm.Cond) (a : Addr) (q z w : Int32) (h0 : Heap) (n0 : Nat) (Z0 : n0 ≤ h0.size) (F : Fld Z h0 a "com/example/deft_orm/deftorm/engine/QueryTree$Function$Name" "fewest" "I" (.int z)) (G : Fld Z h0 a "com/example/deft_orm/deftorm/engine/QueryTree$Function$Name" "most" "I" (.int w)) :
    MetFree l (⟨"com/example/deft_orm/deftorm/engine/QueryTree$Function$Name", "takes", "(I)Z"⟩ : MethodName) (head1 (Jvm.Cond.code (⟨"com/example/deft_orm/deftorm/engine/QueryTree$Function$Name", "takes", "(I)Z"⟩ : MethodName) prog_48_method_6_code 2 (some .boolean) :: ws) ({ frames := 0, cells := 0, slots := 0, locals := 0 } : Room)) (fun aa_ U => aa_ = #[(.ref a), (.int q)] ∧ Z.Warmed39 U.vm ∧ U.heap = h0) (fun _ _ _ _ _ => True) (fun _ UU_ oo_ UV_ => ∃ vv_ LL_, oo_ = .returned vv_ ∧ (Q_takes Z a q z w h0 n0) vv_ UV_.heap LL_ ∧ FrameEnd UU_ oo_ UV_ LL_ ({ frames := 0, cells := 0, slots := 0, locals := 0 } : Room).cells ({ frames := 0, cells := 0, slots := 0, locals := 0 } : Room).slots) := by
  refine MetFree.of_bodySF (plainFor_of_name pn1) hisR ?_
  intro p e s m args below meth c s₁ Bd hml0 hP hK
  obtain ⟨rfl, hZ, hh⟩ := hP
  have hx := Bd.exec
  have hby := Bd.bytes
  have hlk : meth.locks = false := BodyLoose.notSynchronized Bd
  have hret := Bd.returns
  have hml : c.maxLocals = 2 := hml0
  have hown : s.vm.findClass "com/example/deft_orm/deftorm/engine/QueryTree$Function$Name" = some m.cls := findClass_of_methodNamed Bd.named
  have hnm := (name_of_methodNamed Bd.named Bd.method).1
  have X0 : Stand p l e ({ frames := 0, cells := 0, slots := 0, locals := 0 } : Room) s m #[(.ref a), (.int q)] below meth c s₁ [] 0 0 := Stand.of_body Bd
  have e0 : s₁.heap = h0 := by rw [← hh, Bd.state]; rfl
  have N0 := Fr.nil n0
  show Go p e below s ({ frames := 0, cells := 0, slots := 0, locals := 0 } : Room).cells ({ frames := 0, cells := 0, slots := 0, locals := 0 } : Room).slots (Q_takes Z a q z w h0 n0) s₁ (entryFrame m #[(.ref a), (.int q)] 2)
  refine own_cast (g' := mkF m 0 #[.val (.ref a), .val (.int q)] []) (by first | (simp [entryFrame, mkF, argsToLocals, Value.category]; done) | rfl) ?_
  show Go _ _ _ _ _ _ _ _ (mkF m 0 #[.val (.ref a), .val (.int q)] [])
  refine own_via ?_ fun _ kt => XS.iloadN X0.here hx rfl (hb hby d_takes_0) rfl kt
  show Go _ _ _ _ _ _ _ _ (mkF m 1 #[.val (.ref a), .val (.int q)] [(.int q)])
  refine own_via ?_ fun _ kt => XS.aloadN X0.here hx rfl (hb hby d_takes_1) rfl rfl kt
  show Go _ _ _ _ _ _ _ _ (mkF m 2 #[.val (.ref a), .val (.int q)] [(.ref a), (.int q)])
  obtain ⟨T1, X1, e1, st1⟩ := getF X0 hx hZ hown (host := "") (Or.inl (hw _ (List.mem_of_getElem? (i := 19) rfl))) Via.refl e0 F (g := (mkF m 2 #[.val (.ref a), .val (.int q)] [(.ref a), (.int q)])) rfl rfl (hb hby d_takes_2)
  refine own_via ?_ st1
  show Go _ _ _ _ _ _ _ _ (mkF m 5 #[.val (.ref a), .val (.int q)] [(.int z), (.int q)])
  by_cases hc2 : q < z
  · skip
    refine own_via ?_ fun _ kt => XS.icmpYes X1.here hx rfl (pc0 := 5) (pc' := 20) rfl (hb hby d_takes_5) rfl (tlt hc2).1 (by decide) (by decide) kt
    show Go _ _ _ _ _ _ _ _ (mkF m 20 #[.val (.ref a), .val (.int q)] [])
    refine own_via ?_ fun _ kt => XS.iconst X1.here hx rfl (hb hby d_takes_20) kt
    show Go _ _ _ _ _ _ _ _ (mkF m 21 #[.val (.ref a), .val (.int q)] [(.int (0 : Int32))])
    exact own_retZ (z' := (0 : Int32)) X1 hx hret hlk (hb hby d_takes_21) rfl (by decide) (by decide) (by rw [e1]; exact ⟨by rw [bi_f fun u => u.1 hc2], N0, rfl⟩)
  · skip
    refine own_via ?_ fun _ kt => XS.icmpNo X1.here hx rfl (hb hby d_takes_5) rfl (flt hc2).1 kt
    show Go _ _ _ _ _ _ _ _ (mkF m 8 #[.val (.ref a), .val (.int q)] [])
    refine own_via ?_ fun _ kt => XS.iloadN X1.here hx rfl (hb hby d_takes_8) rfl kt
    show Go _ _ _ _ _ _ _ _ (mkF m 9 #[.val (.ref a), .val (.int q)] [(.int q)])
    refine own_via ?_ fun _ kt => XS.aloadN X1.here hx rfl (hb hby d_takes_9) rfl rfl kt
    show Go _ _ _ _ _ _ _ _ (mkF m 10 #[.val (.ref a), .val (.int q)] [(.ref a), (.int q)])
    obtain ⟨T3, X3, e3, st3⟩ := getF X1 hx hZ hown (host := "") (Or.inl (hw _ (List.mem_of_getElem? (i := 21) rfl))) Via.refl e1 G (g := (mkF m 10 #[.val (.ref a), .val (.int q)] [(.ref a), (.int q)])) rfl rfl (hb hby d_takes_10)
    refine own_via ?_ st3
    show Go _ _ _ _ _ _ _ _ (mkF m 13 #[.val (.ref a), .val (.int q)] [(.int w), (.int q)])
    by_cases hc4 : w < q
    · skip
      refine own_via ?_ fun _ kt => XS.icmpYes X3.here hx rfl (pc0 := 13) (pc' := 20) rfl (hb hby d_takes_13) rfl (tlt hc4).2.2.1 (by decide) (by decide) kt
      show Go _ _ _ _ _ _ _ _ (mkF m 20 #[.val (.ref a), .val (.int q)] [])
      refine own_via ?_ fun _ kt => XS.iconst X3.here hx rfl (hb hby d_takes_20) kt
      show Go _ _ _ _ _ _ _ _ (mkF m 21 #[.val (.ref a), .val (.int q)] [(.int (0 : Int32))])
      exact own_retZ (z' := (0 : Int32)) X3 hx hret hlk (hb hby d_takes_21) rfl (by decide) (by decide) (by rw [e3]; exact ⟨by rw [bi_f fun u => u.2 hc4], N0, rfl⟩)
    · skip
      refine own_via ?_ fun _ kt => XS.icmpNo X3.here hx rfl (hb hby d_takes_13) rfl (flt hc4).2.2.1 kt
      show Go _ _ _ _ _ _ _ _ (mkF m 16 #[.val (.ref a), .val (.int q)] [])
      refine own_via ?_ fun _ kt => XS.iconst X3.here hx rfl (hb hby d_takes_16) kt
      show Go _ _ _ _ _ _ _ _ (mkF m 17 #[.val (.ref a), .val (.int q)] [(.int (1 : Int32))])
      refine own_via ?_ fun _ kt => XS.goto X3.here hx rfl (pc0 := 17) (pc' := 21) rfl (hb hby d_takes_17) (by decide) (by decide) kt
      show Go _ _ _ _ _ _ _ _ (mkF m 21 #[.val (.ref a), .val (.int q)] [(.int (1 : Int32))])
      exact own_retZ (z' := (1 : Int32)) X3 hx hret hlk (hb hby d_takes_21) rfl (by decide) (by decide) (by rw [e3]; exact ⟨by rw [bi_t ⟨hc2, hc4⟩], N0, rfl⟩)
def Q_law (Z : State) (k mode a : Int32) (h0 : Heap) (n0 : Nat) (v : Option Value) (h : Heap) (L : List Loc) : Prop := v = some (.int 1) ∧ Fr n0 L
set_option maxRecDepth 65536 in
set_option maxHeartbeats 40000000 in
theorem rm_law (l : Launch) (Z : State) (a0 : Array Value) (hw : ∀ d ∈ tables_1, d.before a0 Z = true) (ws : List Jvm.Cond) (k mode a : Int32) (h0 : Heap) (n0 : Nat) (Z0 : n0 ≤ h0.size) (hA : All Z h0) :
    MetFree l x (head1 (Jvm.Cond.code x code maxLocals ret :: ws) room_1) (fun aa_ U => aa_ = #[(.int k), (.int mode), (.int a)] ∧ Z.Warmed39 U.vm ∧ U.heap = h0) (fun _ _ _ _ _ => True) (fun _ UU_ oo_ UV_ => ∃ vv_ LL_, oo_ = .returned vv_ ∧ (Q_law Z k mode a h0 n0) vv_ UV_.heap LL_ ∧ FrameEnd UU_ oo_ UV_ LL_ room_1.cells room_1.slots) := by
  refine MetFree.of_bodySF (plainFor_of_name pn0) hisR ?_
  intro p e s m args below meth c s₁ Bd hml0 hP hK
  obtain ⟨rfl, hZ, hh⟩ := hP
  have hx := Bd.exec
  have hby := Bd.bytes
  have hlk : meth.locks = false := BodyLoose.notSynchronized Bd
  have hret := Bd.returns
  have hml : c.maxLocals = 11 := hml0
  have hown : s.vm.findClass "com/example/deft_orm/deftorm/engine/NameTakesPinLaw" = some m.cls := findClass_of_methodNamed Bd.named
  have hnm := (name_of_methodNamed Bd.named Bd.method).1
  have X0 : Stand p l e room_1 s m #[(.int k), (.int mode), (.int a)] below meth c s₁ [] 0 0 := Stand.of_body Bd
  have e0 : s₁.heap = h0 := by rw [← hh, Bd.state]; rfl
  have N0 := Fr.nil n0
  show Go p e below s room_1.cells room_1.slots (Q_law Z k mode a h0 n0) s₁ (entryFrame m #[(.int k), (.int mode), (.int a)] maxLocals)
  refine own_cast (g' := mkF m 0 #[.val (.int k), .val (.int mode), .val (.int a), .unset, .unset, .unset, .unset, .unset, .unset, .unset, .unset] []) (by first | (simp [entryFrame, mkF, argsToLocals, Value.category, maxLocals]; done) | rfl) ?_
  show Go _ _ _ _ _ _ _ _ (mkF m 0 #[.val (.int k), .val (.int mode), .val (.int a), .unset, .unset, .unset, .unset, .unset, .unset, .unset, .unset] [])
  refine own_via ?_ fun _ kt => XS.iloadN X0.here hx rfl (hb hby at_0) rfl kt
  show Go _ _ _ _ _ _ _ _ (mkF m 1 #[.val (.int k), .val (.int mode), .val (.int a), .unset, .unset, .unset, .unset, .unset, .unset, .unset, .unset] [(.int k)])
  refine own_via ?_ fun _ kt => X0.ldcInt hx hown (mvT hZ (hw _ (List.mem_of_getElem? (i := 0) rfl))) (g := (mkF m 1 #[.val (.int k), .val (.int mode), .val (.int a), .unset, .unset, .unset, .unset, .unset, .unset, .unset, .unset] [(.int k)])) rfl (hb hby at_1) _ kt
  show Go _ _ _ _ _ _ _ _ (mkF m 3 #[.val (.int k), .val (.int mode), .val (.int a), .unset, .unset, .unset, .unset, .unset, .unset, .unset, .unset] [(.int (2147483647 : Int32)), (.int k)])
  refine own_via ?_ fun _ kt => XS.iand X0.here hx rfl (hb hby at_3) rfl kt
  show Go _ _ _ _ _ _ _ _ (mkF m 4 #[.val (.int k), .val (.int mode), .val (.int a), .unset, .unset, .unset, .unset, .unset, .unset, .unset, .unset] [(.int (k &&& (2147483647 : Int32)))])
  refine own_via ?_ fun _ kt => XS.bipush X0.here hx rfl (hb hby at_4) kt
  show Go _ _ _ _ _ _ _ _ (mkF m 6 #[.val (.int k), .val (.int mode), .val (.int a), .unset, .unset, .unset, .unset, .unset, .unset, .unset, .unset] [(.int (27 : Int32)), (.int (k &&& (2147483647 : Int32)))])
  refine own_via ?_ fun _ kt => iremM X0 hx rfl (hb hby at_6) rfl (by decide) kt
  show Go _ _ _ _ _ _ _ _ (mkF m 7 #[.val (.int k), .val (.int mode), .val (.int a), .unset, .unset, .unset, .unset, .unset, .unset, .unset, .unset] [(.int ((k &&& (2147483647 : Int32)) % (27 : Int32)))])
  refine own_via ?_ fun _ kt => XS.istoreN X0.here hx rfl (hb hby at_7) rfl (l' := #[.val (.int k), .val (.int mode), .val (.int a), .val (.int ((k &&& (2147483647 : Int32)) % (27 : Int32))), .unset, .unset, .unset, .unset, .unset, .unset, .unset]) rfl kt
  have hi := i_range k
  show Go _ _ _ _ _ _ _ _ (mkF m 8 #[.val (.int k), .val (.int mode), .val (.int a), .val (.int ((k &&& (2147483647 : Int32)) % (27 : Int32))), .unset, .unset, .unset, .unset, .unset, .unset, .unset] [])
  generalize hn_i : ((k &&& (2147483647 : Int32)) % (27 : Int32)) = i
  rw [hn_i] at hi
  show Go _ _ _ _ _ _ _ _ (mkF m 8 #[.val (.int k), .val (.int mode), .val (.int a), .val (.int i), .unset, .unset, .unset, .unset, .unset, .unset, .unset] [])
  refine own_via ?_ fun _ kt => XS.iloadN X0.here hx rfl (hb hby at_8) rfl kt
  show Go _ _ _ _ _ _ _ _ (mkF m 9 #[.val (.int k), .val (.int mode), .val (.int a), .val (.int i), .unset, .unset, .unset, .unset, .unset, .unset, .unset] [(.int i)])
  obtain ⟨_, _, ⟨T1, L1, k1, n1⟩, -, X1, ⟨Lc1, hQ1, l1, y1, z1⟩, st1⟩ := Jvm.LawKit.callS X0 hx (y := (⟨"com/example/deft_orm/deftorm/engine/NameTakesPinLaw", "constant", "(I)Lcom/example/deft_orm/deftorm/engine/QueryTree$Function$Name;"⟩ : MethodName)) hown (mvT hZ (hw _ (List.mem_of_getElem? (i := 1) rfl))) (mvT hZ (hw _ (List.mem_of_getElem? (i := 2) rfl))) (mvT hZ (hw _ (List.mem_of_getElem? (i := 3) rfl))) (mvT hZ (hw _ (List.mem_of_getElem? (i := 4) rfl))) (by decide) (backOf (W := 0) (rm_const l Z a0 hw [] i h0 n0 Z0 hA hi) hZ (hw _ (List.mem_of_getElem? (i := 4) rfl)) (hw _ (List.mem_of_getElem? (i := 3) rfl)) (by decide) (by decide)) (g := (mkF m 9 #[.val (.int k), .val (.int mode), .val (.int a), .val (.int i), .unset, .unset, .unset, .unset, .unset, .unset, .unset] [(.int i)])) rfl (by rw [hml]; rfl) (argsL := [(.int i)]) (rest := []) (lenOf pd1 rfl) rfl (by show 2 * 0 + _ ≤ _; exact Nat.le_of_eq rfl) (hb hby at_9) (fun _ _ => ⟨rfl, e0, (by decide : 0 + 0 ≤ _), (by decide : 0 + 0 ≤ _)⟩)
  dsimp only [Pt.U, Pt.locs, Pt.cells, Pt.slots] at X1 l1 y1 z1 st1 hQ1
  subst l1 y1 z1
  obtain ⟨ac, rfl, E1, F1, G1, Nq1, e1⟩ := hQ1
  have N1 := Fr.app N0 Nq1
  refine own_via ?_ st1
  show Go _ _ _ _ _ _ _ _ (mkF m 12 #[.val (.int k), .val (.int mode), .val (.int a), .val (.int i), .unset, .unset, .unset, .unset, .unset, .unset, .unset] [(.ref ac)])
  refine own_via ?_ fun _ kt => XS.astore X1.here hx rfl (hb hby at_12) rfl rfl (l' := #[.val (.int k), .val (.int mode), .val (.int a), .val (.int i), .val (.ref ac), .unset, .unset, .unset, .unset, .unset, .unset]) rfl kt
  show Go _ _ _ _ _ _ _ _ (mkF m 14 #[.val (.int k), .val (.int mode), .val (.int a), .val (.int i), .val (.ref ac), .unset, .unset, .unset, .unset, .unset, .unset] [])
  refine own_via ?_ fun _ kt => XS.iloadN X1.here hx rfl (hb hby at_14) rfl kt
  show Go _ _ _ _ _ _ _ _ (mkF m 15 #[.val (.int k), .val (.int mode), .val (.int a), .val (.int i), .val (.ref ac), .unset, .unset, .unset, .unset, .unset, .unset] [(.int i)])
  obtain ⟨_, _, ⟨T2, L2, k2, n2⟩, -, X2, ⟨Lc2, hQ2, l2, y2, z2⟩, st2⟩ := Jvm.LawKit.callS X1 hx (y := (⟨"com/example/deft_orm/deftorm/engine/NameTakesPinLaw", "fewest", "(I)I"⟩ : MethodName)) hown (mvT hZ (hw _ (List.mem_of_getElem? (i := 8) rfl))) (mvT hZ (hw _ (List.mem_of_getElem? (i := 9) rfl))) (mvT hZ (hw _ (List.mem_of_getElem? (i := 3) rfl))) (mvT hZ (hw _ (List.mem_of_getElem? (i := 10) rfl))) (by decide) (backOf (W := 0) (rm_few l Z a0 hw [] i h0 n0 Z0) hZ (hw _ (List.mem_of_getElem? (i := 10) rfl)) (hw _ (List.mem_of_getElem? (i := 3) rfl)) (by decide) (by decide)) (g := (mkF m 15 #[.val (.int k), .val (.int mode), .val (.int a), .val (.int i), .val (.ref ac), .unset, .unset, .unset, .unset, .unset, .unset] [(.int i)])) rfl (by rw [hml]; rfl) (argsL := [(.int i)]) (rest := []) (lenOf pd0 rfl) rfl (by show 2 * 0 + _ ≤ _; exact Nat.le_of_eq rfl) (hb hby at_15) (fun _ _ => ⟨rfl, e1, (by decide : 0 + 0 ≤ _), (by decide : 0 + 0 ≤ _)⟩)
  dsimp only [Pt.U, Pt.locs, Pt.cells, Pt.slots] at X2 l2 y2 z2 st2 hQ2
  subst l2 y2 z2
  obtain ⟨rfl, Nq2, e2⟩ := hQ2
  have N2 := Fr.app N1 Nq2
  refine own_via ?_ st2
  show Go _ _ _ _ _ _ _ _ (mkF m 18 #[.val (.int k), .val (.int mode), .val (.int a), .val (.int i), .val (.ref ac), .unset, .unset, .unset, .unset, .unset, .unset] [(.int (fe i))])
  refine own_via ?_ fun _ kt => XS.istore X2.here hx rfl (hb hby at_18) rfl (l' := #[.val (.int k), .val (.int mode), .val (.int a), .val (.int i), .val (.ref ac), .val (.int (fe i)), .unset, .unset, .unset, .unset, .unset]) rfl kt
  show Go _ _ _ _ _ _ _ _ (mkF m 20 #[.val (.int k), .val (.int mode), .val (.int a), .val (.int i), .val (.ref ac), .val (.int (fe i)), .unset, .unset, .unset, .unset, .unset] [])
  refine own_via ?_ fun _ kt => XS.iloadN X2.here hx rfl (hb hby at_20) rfl kt
  show Go _ _ _ _ _ _ _ _ (mkF m 21 #[.val (.int k), .val (.int mode), .val (.int a), .val (.int i), .val (.ref ac), .val (.int (fe i)), .unset, .unset, .unset, .unset, .unset] [(.int i)])
  obtain ⟨_, _, ⟨T3, L3, k3, n3⟩, -, X3, ⟨Lc3, hQ3, l3, y3, z3⟩, st3⟩ := Jvm.LawKit.callS X2 hx (y := (⟨"com/example/deft_orm/deftorm/engine/NameTakesPinLaw", "most", "(I)I"⟩ : MethodName)) hown (mvT hZ (hw _ (List.mem_of_getElem? (i := 11) rfl))) (mvT hZ (hw _ (List.mem_of_getElem? (i := 12) rfl))) (mvT hZ (hw _ (List.mem_of_getElem? (i := 3) rfl))) (mvT hZ (hw _ (List.mem_of_getElem? (i := 13) rfl))) (by decide) (backOf (W := 0) (rm_most l Z a0 hw [] i h0 n0 Z0) hZ (hw _ (List.mem_of_getElem? (i := 13) rfl)) (hw _ (List.mem_of_getElem? (i := 3) rfl)) (by decide) (by decide)) (g := (mkF m 21 #[.val (.int k), .val (.int mode), .val (.int a), .val (.int i), .val (.ref ac), .val (.int (fe i)), .unset, .unset, .unset, .unset, .unset] [(.int i)])) rfl (by rw [hml]; rfl) (argsL := [(.int i)]) (rest := []) (lenOf pd0 rfl) rfl (by show 2 * 0 + _ ≤ _; exact Nat.le_of_eq rfl) (hb hby at_21) (fun _ _ => ⟨rfl, e2, (by decide : 0 + 0 ≤ _), (by decide : 0 + 0 ≤ _)⟩)
  dsimp only [Pt.U, Pt.locs, Pt.cells, Pt.slots] at X3 l3 y3 z3 st3 hQ3
  subst l3 y3 z3
  obtain ⟨rfl, Nq3, e3⟩ := hQ3
  have N3 := Fr.app N2 Nq3
  refine own_via ?_ st3
  show Go _ _ _ _ _ _ _ _ (mkF m 24 #[.val (.int k), .val (.int mode), .val (.int a), .val (.int i), .val (.ref ac), .val (.int (fe i)), .unset, .unset, .unset, .unset, .unset] [(.int (mo i))])
  refine own_via ?_ fun _ kt => XS.istore X3.here hx rfl (hb hby at_24) rfl (l' := #[.val (.int k), .val (.int mode), .val (.int a), .val (.int i), .val (.ref ac), .val (.int (fe i)), .val (.int (mo i)), .unset, .unset, .unset, .unset]) rfl kt
  show Go _ _ _ _ _ _ _ _ (mkF m 26 #[.val (.int k), .val (.int mode), .val (.int a), .val (.int i), .val (.ref ac), .val (.int (fe i)), .val (.int (mo i)), .unset, .unset, .unset, .unset] [])
  refine own_via ?_ fun _ kt => XS.iloadN X3.here hx rfl (hb hby at_26) rfl kt
  show Go _ _ _ _ _ _ _ _ (mkF m 27 #[.val (.int k), .val (.int mode), .val (.int a), .val (.int i), .val (.ref ac), .val (.int (fe i)), .val (.int (mo i)), .unset, .unset, .unset, .unset] [(.int a)])
  refine own_via ?_ fun _ kt => X3.ldcInt hx hown (mvT hZ (hw _ (List.mem_of_getElem? (i := 0) rfl))) (g := (mkF m 27 #[.val (.int k), .val (.int mode), .val (.int a), .val (.int i), .val (.ref ac), .val (.int (fe i)), .val (.int (mo i)), .unset, .unset, .unset, .unset] [(.int a)])) rfl (hb hby at_27) _ kt
  show Go _ _ _ _ _ _ _ _ (mkF m 29 #[.val (.int k), .val (.int mode), .val (.int a), .val (.int i), .val (.ref ac), .val (.int (fe i)), .val (.int (mo i)), .unset, .unset, .unset, .unset] [(.int (2147483647 : Int32)), (.int a)])
  refine own_via ?_ fun _ kt => XS.iand X3.here hx rfl (hb hby at_29) rfl kt
  show Go _ _ _ _ _ _ _ _ (mkF m 30 #[.val (.int k), .val (.int mode), .val (.int a), .val (.int i), .val (.ref ac), .val (.int (fe i)), .val (.int (mo i)), .unset, .unset, .unset, .unset] [(.int (a &&& (2147483647 : Int32)))])
  refine own_via ?_ fun _ kt => XS.iconst X3.here hx rfl (hb hby at_30) kt
  show Go _ _ _ _ _ _ _ _ (mkF m 31 #[.val (.int k), .val (.int mode), .val (.int a), .val (.int i), .val (.ref ac), .val (.int (fe i)), .val (.int (mo i)), .unset, .unset, .unset, .unset] [(.int (3 : Int32)), (.int (a &&& (2147483647 : Int32)))])
  refine own_via ?_ fun _ kt => iremM X3 hx rfl (hb hby at_31) rfl (by decide) kt
  show Go _ _ _ _ _ _ _ _ (mkF m 32 #[.val (.int k), .val (.int mode), .val (.int a), .val (.int i), .val (.ref ac), .val (.int (fe i)), .val (.int (mo i)), .unset, .unset, .unset, .unset] [(.int ((a &&& (2147483647 : Int32)) % (3 : Int32)))])
  refine own_via ?_ fun _ kt => XS.iconst X3.here hx rfl (hb hby at_32) kt
  show Go _ _ _ _ _ _ _ _ (mkF m 33 #[.val (.int k), .val (.int mode), .val (.int a), .val (.int i), .val (.ref ac), .val (.int (fe i)), .val (.int (mo i)), .unset, .unset, .unset, .unset] [(.int (1 : Int32)), (.int ((a &&& (2147483647 : Int32)) % (3 : Int32)))])
  refine own_via ?_ fun _ kt => XS.isub X3.here hx rfl (hb hby at_33) rfl kt
  show Go _ _ _ _ _ _ _ _ (mkF m 34 #[.val (.int k), .val (.int mode), .val (.int a), .val (.int i), .val (.ref ac), .val (.int (fe i)), .val (.int (mo i)), .unset, .unset, .unset, .unset] [(.int (((a &&& (2147483647 : Int32)) % (3 : Int32)) - (1 : Int32)))])
  refine own_via ?_ fun _ kt => XS.istore X3.here hx rfl (hb hby at_34) rfl (l' := #[.val (.int k), .val (.int mode), .val (.int a), .val (.int i), .val (.ref ac), .val (.int (fe i)), .val (.int (mo i)), .val (.int (((a &&& (2147483647 : Int32)) % (3 : Int32)) - (1 : Int32))), .unset, .unset, .unset]) rfl kt
  show Go _ _ _ _ _ _ _ _ (mkF m 36 #[.val (.int k), .val (.int mode), .val (.int a), .val (.int i), .val (.ref ac), .val (.int (fe i)), .val (.int (mo i)), .val (.int (((a &&& (2147483647 : Int32)) % (3 : Int32)) - (1 : Int32))), .unset, .unset, .unset] [])
  refine own_via ?_ fun _ kt => XS.iloadN X3.here hx rfl (hb hby at_36) rfl kt
  show Go _ _ _ _ _ _ _ _ (mkF m 37 #[.val (.int k), .val (.int mode), .val (.int a), .val (.int i), .val (.ref ac), .val (.int (fe i)), .val (.int (mo i)), .val (.int (((a &&& (2147483647 : Int32)) % (3 : Int32)) - (1 : Int32))), .unset, .unset, .unset] [(.int mode)])
  refine own_via ?_ fun _ kt => XS.iconst X3.here hx rfl (hb hby at_37) kt
  show Go _ _ _ _ _ _ _ _ (mkF m 38 #[.val (.int k), .val (.int mode), .val (.int a), .val (.int i), .val (.ref ac), .val (.int (fe i)), .val (.int (mo i)), .val (.int (((a &&& (2147483647 : Int32)) % (3 : Int32)) - (1 : Int32))), .unset, .unset, .unset] [(.int (3 : Int32)), (.int mode)])
  refine own_via ?_ fun _ kt => XS.iand X3.here hx rfl (hb hby at_38) rfl kt
  show Go _ _ _ _ _ _ _ _ (mkF m 39 #[.val (.int k), .val (.int mode), .val (.int a), .val (.int i), .val (.ref ac), .val (.int (fe i)), .val (.int (mo i)), .val (.int (((a &&& (2147483647 : Int32)) % (3 : Int32)) - (1 : Int32))), .unset, .unset, .unset] [(.int (mode &&& (3 : Int32)))])
  refine own_via ?_ fun _ kt => XS.istore X3.here hx rfl (hb hby at_39) rfl (l' := #[.val (.int k), .val (.int mode), .val (.int a), .val (.int i), .val (.ref ac), .val (.int (fe i)), .val (.int (mo i)), .val (.int (((a &&& (2147483647 : Int32)) % (3 : Int32)) - (1 : Int32))), .val (.int (mode &&& (3 : Int32))), .unset, .unset]) rfl kt
  have J4 : ∀ (arg : Int32), Go p e below s room_1.cells room_1.slots (Q_law Z k mode a h0 n0) T3 (mkF m 90 #[.val (.int k), .val (.int mode), .val (.int a), .val (.int i), .val (.ref ac), .val (.int (fe i)), .val (.int (mo i)), .val (.int (((a &&& (2147483647 : Int32)) % (3 : Int32)) - (1 : Int32))), .val (.int (mode &&& (3 : Int32))), .val (.int arg), .unset] []) := by
    intro arg
    show Go _ _ _ _ _ _ _ _ (mkF m 90 #[.val (.int k), .val (.int mode), .val (.int a), .val (.int i), .val (.ref ac), .val (.int (fe i)), .val (.int (mo i)), .val (.int (((a &&& (2147483647 : Int32)) % (3 : Int32)) - (1 : Int32))), .val (.int (mode &&& (3 : Int32))), .val (.int arg), .unset] [])
    refine own_via ?_ fun _ kt => XS.iload X3.here hx rfl (hb hby at_90) rfl kt
    show Go _ _ _ _ _ _ _ _ (mkF m 92 #[.val (.int k), .val (.int mode), .val (.int a), .val (.int i), .val (.ref ac), .val (.int (fe i)), .val (.int (mo i)), .val (.int (((a &&& (2147483647 : Int32)) % (3 : Int32)) - (1 : Int32))), .val (.int (mode &&& (3 : Int32))), .val (.int arg), .unset] [(.int arg)])
    refine own_via ?_ fun _ kt => XS.i2l X3.here hx rfl (hb hby at_92) rfl kt
    show Go _ _ _ _ _ _ _ _ (mkF m 93 #[.val (.int k), .val (.int mode), .val (.int a), .val (.int i), .val (.ref ac), .val (.int (fe i)), .val (.int (mo i)), .val (.int (((a &&& (2147483647 : Int32)) % (3 : Int32)) - (1 : Int32))), .val (.int (mode &&& (3 : Int32))), .val (.int arg), .unset] [(.long (arg.toInt64))])
    refine own_via ?_ fun _ kt => XS.iload X3.here hx rfl (hb hby at_93) rfl kt
    show Go _ _ _ _ _ _ _ _ (mkF m 95 #[.val (.int k), .val (.int mode), .val (.int a), .val (.int i), .val (.ref ac), .val (.int (fe i)), .val (.int (mo i)), .val (.int (((a &&& (2147483647 : Int32)) % (3 : Int32)) - (1 : Int32))), .val (.int (mode &&& (3 : Int32))), .val (.int arg), .unset] [(.int (fe i)), (.long (arg.toInt64))])
    refine own_via ?_ fun _ kt => XS.i2l X3.here hx rfl (hb hby at_95) rfl kt
    show Go _ _ _ _ _ _ _ _ (mkF m 96 #[.val (.int k), .val (.int mode), .val (.int a), .val (.int i), .val (.ref ac), .val (.int (fe i)), .val (.int (mo i)), .val (.int (((a &&& (2147483647 : Int32)) % (3 : Int32)) - (1 : Int32))), .val (.int (mode &&& (3 : Int32))), .val (.int arg), .unset] [(.long ((fe i).toInt64)), (.long (arg.toInt64))])
    refine own_via ?_ fun _ kt => XS.lcmp X3.here hx rfl (hb hby at_96) rfl kt
    show Go _ _ _ _ _ _ _ _ (mkF m 97 #[.val (.int k), .val (.int mode), .val (.int a), .val (.int i), .val (.ref ac), .val (.int (fe i)), .val (.int (mo i)), .val (.int (((a &&& (2147483647 : Int32)) % (3 : Int32)) - (1 : Int32))), .val (.int (mode &&& (3 : Int32))), .val (.int arg), .unset] [(.int (lcmpW (arg.toInt64) ((fe i).toInt64)))])
    by_cases hc5 : (arg.toInt64) < ((fe i).toInt64)
    · skip
      refine own_via ?_ fun _ kt => XS.ifYes X3.here hx rfl (pc0 := 97) (pc' := 114) rfl (hb hby at_97) rfl ((if0 _ _).trans (tlt ((lw_lt _ _).mpr hc5)).1) (by decide) (by decide) kt
      show Go _ _ _ _ _ _ _ _ (mkF m 114 #[.val (.int k), .val (.int mode), .val (.int a), .val (.int i), .val (.ref ac), .val (.int (fe i)), .val (.int (mo i)), .val (.int (((a &&& (2147483647 : Int32)) % (3 : Int32)) - (1 : Int32))), .val (.int (mode &&& (3 : Int32))), .val (.int arg), .unset] [])
      refine own_via ?_ fun _ kt => XS.iconst X3.here hx rfl (hb hby at_114) kt
      show Go _ _ _ _ _ _ _ _ (mkF m 115 #[.val (.int k), .val (.int mode), .val (.int a), .val (.int i), .val (.ref ac), .val (.int (fe i)), .val (.int (mo i)), .val (.int (((a &&& (2147483647 : Int32)) % (3 : Int32)) - (1 : Int32))), .val (.int (mode &&& (3 : Int32))), .val (.int arg), .unset] [(.int (0 : Int32))])
      refine own_via ?_ fun _ kt => XS.istore X3.here hx rfl (hb hby at_115) rfl (l' := #[.val (.int k), .val (.int mode), .val (.int a), .val (.int i), .val (.ref ac), .val (.int (fe i)), .val (.int (mo i)), .val (.int (((a &&& (2147483647 : Int32)) % (3 : Int32)) - (1 : Int32))), .val (.int (mode &&& (3 : Int32))), .val (.int arg), .val (.int (0 : Int32))]) rfl kt
      show Go _ _ _ _ _ _ _ _ (mkF m 117 #[.val (.int k), .val (.int mode), .val (.int a), .val (.int i), .val (.ref ac), .val (.int (fe i)), .val (.int (mo i)), .val (.int (((a &&& (2147483647 : Int32)) % (3 : Int32)) - (1 : Int32))), .val (.int (mode &&& (3 : Int32))), .val (.int arg), .val (.int (0 : Int32))] [])
      refine own_via ?_ fun _ kt => XS.aload X3.here hx rfl (hb hby at_117) rfl rfl kt
      show Go _ _ _ _ _ _ _ _ (mkF m 119 #[.val (.int k), .val (.int mode), .val (.int a), .val (.int i), .val (.ref ac), .val (.int (fe i)), .val (.int (mo i)), .val (.int (((a &&& (2147483647 : Int32)) % (3 : Int32)) - (1 : Int32))), .val (.int (mode &&& (3 : Int32))), .val (.int arg), .val (.int (0 : Int32))] [(.ref ac)])
      refine own_via ?_ fun _ kt => XS.iload X3.here hx rfl (hb hby at_119) rfl kt
      show Go _ _ _ _ _ _ _ _ (mkF m 121 #[.val (.int k), .val (.int mode), .val (.int a), .val (.int i), .val (.ref ac), .val (.int (fe i)), .val (.int (mo i)), .val (.int (((a &&& (2147483647 : Int32)) % (3 : Int32)) - (1 : Int32))), .val (.int (mode &&& (3 : Int32))), .val (.int arg), .val (.int (0 : Int32))] [(.int arg), (.ref ac)])
      obtain ⟨cq6, kq6, q6a, q6b, q6c⟩ := isOf hZ e3 E1
      obtain ⟨_, _, ⟨T6, L6, k6, n6⟩, -, X6, ⟨Lc6, hQ6, l6, y6, z6⟩, st6⟩ := X3.virtualBack hx (y := (⟨"com/example/deft_orm/deftorm/engine/QueryTree$Function$Name", "takes", "(I)Z"⟩ : MethodName)) (z := (⟨"com/example/deft_orm/deftorm/engine/QueryTree$Function$Name", "takes", "(I)Z"⟩ : MethodName)) hown (mvT hZ (hw _ (List.mem_of_getElem? (i := 14) rfl))) (mvT hZ (hw _ (List.mem_of_getElem? (i := 15) rfl))) (notFace_of_selects (args := #[]) (mvT hZ (hw _ (List.mem_of_getElem? (i := 17) rfl)))) (mvT hZ (hw _ (List.mem_of_getElem? (i := 17) rfl))) (mvT hZ (hw _ (List.mem_of_getElem? (i := 16) rfl))) (by decide) (backOf (W := 0) (rm_takes l Z a0 hw [] ac arg (fe i) (mo i) h0 n0 Z0 F1 G1) hZ (hw _ (List.mem_of_getElem? (i := 18) rfl)) (hw _ (List.mem_of_getElem? (i := 6) rfl)) (by decide) (by decide)) q6a q6c (g := (mkF m 121 #[.val (.int k), .val (.int mode), .val (.int a), .val (.int i), .val (.ref ac), .val (.int (fe i)), .val (.int (mo i)), .val (.int (((a &&& (2147483647 : Int32)) % (3 : Int32)) - (1 : Int32))), .val (.int (mode &&& (3 : Int32))), .val (.int arg), .val (.int (0 : Int32))] [(.int arg), (.ref ac)])) rfl (by rw [hml]; rfl) (Steps.refl _) (argsL := [(.int arg)]) (rest := []) (lenOf pd2 rfl) rfl (by show 2 * 0 + _ ≤ _; exact Nat.le_of_eq rfl) (hb hby at_121) (fun _ _ => ⟨rfl, e3, (by decide : 0 + 0 ≤ _), (by decide : 0 + 0 ≤ _)⟩)
      dsimp only [Pt.U, Pt.locs, Pt.cells, Pt.slots] at X6 l6 y6 z6 st6 hQ6
      subst l6 y6 z6
      obtain ⟨rfl, Nq6, e6⟩ := hQ6
      have N6 := Fr.app N3 Nq6
      refine own_join ?_ st6
      show Go _ _ _ _ _ _ _ _ (mkF m 124 #[.val (.int k), .val (.int mode), .val (.int a), .val (.int i), .val (.ref ac), .val (.int (fe i)), .val (.int (mo i)), .val (.int (((a &&& (2147483647 : Int32)) % (3 : Int32)) - (1 : Int32))), .val (.int (mode &&& (3 : Int32))), .val (.int arg), .val (.int (0 : Int32))] [(.int (bi (¬ arg < (fe i) ∧ ¬ (mo i) < arg)))])
      refine own_via ?_ fun _ kt => XS.iload X6.here hx rfl (hb hby at_124) rfl kt
      show Go _ _ _ _ _ _ _ _ (mkF m 126 #[.val (.int k), .val (.int mode), .val (.int a), .val (.int i), .val (.ref ac), .val (.int (fe i)), .val (.int (mo i)), .val (.int (((a &&& (2147483647 : Int32)) % (3 : Int32)) - (1 : Int32))), .val (.int (mode &&& (3 : Int32))), .val (.int arg), .val (.int (0 : Int32))] [(.int (0 : Int32)), (.int (bi (¬ arg < (fe i) ∧ ¬ (mo i) < arg)))])
      refine own_via ?_ fun _ kt => XS.icmpNo X6.here hx rfl (hb hby at_126) rfl (teq (bi_0.mpr (fun u => u.1 ((i64lt _ _).mp hc5)))).2 kt
      show Go _ _ _ _ _ _ _ _ (mkF m 129 #[.val (.int k), .val (.int mode), .val (.int a), .val (.int i), .val (.ref ac), .val (.int (fe i)), .val (.int (mo i)), .val (.int (((a &&& (2147483647 : Int32)) % (3 : Int32)) - (1 : Int32))), .val (.int (mode &&& (3 : Int32))), .val (.int arg), .val (.int (0 : Int32))] [])
      refine own_via ?_ fun _ kt => XS.iconst X6.here hx rfl (hb hby at_129) kt
      show Go _ _ _ _ _ _ _ _ (mkF m 130 #[.val (.int k), .val (.int mode), .val (.int a), .val (.int i), .val (.ref ac), .val (.int (fe i)), .val (.int (mo i)), .val (.int (((a &&& (2147483647 : Int32)) % (3 : Int32)) - (1 : Int32))), .val (.int (mode &&& (3 : Int32))), .val (.int arg), .val (.int (0 : Int32))] [(.int (1 : Int32))])
      refine own_via ?_ fun _ kt => XS.goto X6.here hx rfl (pc0 := 130) (pc' := 134) rfl (hb hby at_130) (by decide) (by decide) kt
      show Go _ _ _ _ _ _ _ _ (mkF m 134 #[.val (.int k), .val (.int mode), .val (.int a), .val (.int i), .val (.ref ac), .val (.int (fe i)), .val (.int (mo i)), .val (.int (((a &&& (2147483647 : Int32)) % (3 : Int32)) - (1 : Int32))), .val (.int (mode &&& (3 : Int32))), .val (.int arg), .val (.int (0 : Int32))] [(.int (1 : Int32))])
      exact own_retZ (z' := (1 : Int32)) X6 hx hret hlk (hb hby at_134) rfl (by decide) (by decide) (by rw [e6]; exact ⟨rfl, N6⟩)
    · skip
      refine own_via ?_ fun _ kt => XS.ifNo X3.here hx rfl (hb hby at_97) rfl ((if0 _ _).trans (flt (fun q => hc5 ((lw_lt _ _).mp q))).1) kt
      show Go _ _ _ _ _ _ _ _ (mkF m 100 #[.val (.int k), .val (.int mode), .val (.int a), .val (.int i), .val (.ref ac), .val (.int (fe i)), .val (.int (mo i)), .val (.int (((a &&& (2147483647 : Int32)) % (3 : Int32)) - (1 : Int32))), .val (.int (mode &&& (3 : Int32))), .val (.int arg), .unset] [])
      refine own_via ?_ fun _ kt => XS.iload X3.here hx rfl (hb hby at_100) rfl kt
      show Go _ _ _ _ _ _ _ _ (mkF m 102 #[.val (.int k), .val (.int mode), .val (.int a), .val (.int i), .val (.ref ac), .val (.int (fe i)), .val (.int (mo i)), .val (.int (((a &&& (2147483647 : Int32)) % (3 : Int32)) - (1 : Int32))), .val (.int (mode &&& (3 : Int32))), .val (.int arg), .unset] [(.int arg)])
      refine own_via ?_ fun _ kt => XS.i2l X3.here hx rfl (hb hby at_102) rfl kt
      show Go _ _ _ _ _ _ _ _ (mkF m 103 #[.val (.int k), .val (.int mode), .val (.int a), .val (.int i), .val (.ref ac), .val (.int (fe i)), .val (.int (mo i)), .val (.int (((a &&& (2147483647 : Int32)) % (3 : Int32)) - (1 : Int32))), .val (.int (mode &&& (3 : Int32))), .val (.int arg), .unset] [(.long (arg.toInt64))])
      refine own_via ?_ fun _ kt => XS.iload X3.here hx rfl (hb hby at_103) rfl kt
      show Go _ _ _ _ _ _ _ _ (mkF m 105 #[.val (.int k), .val (.int mode), .val (.int a), .val (.int i), .val (.ref ac), .val (.int (fe i)), .val (.int (mo i)), .val (.int (((a &&& (2147483647 : Int32)) % (3 : Int32)) - (1 : Int32))), .val (.int (mode &&& (3 : Int32))), .val (.int arg), .unset] [(.int (mo i)), (.long (arg.toInt64))])
      refine own_via ?_ fun _ kt => XS.i2l X3.here hx rfl (hb hby at_105) rfl kt
      show Go _ _ _ _ _ _ _ _ (mkF m 106 #[.val (.int k), .val (.int mode), .val (.int a), .val (.int i), .val (.ref ac), .val (.int (fe i)), .val (.int (mo i)), .val (.int (((a &&& (2147483647 : Int32)) % (3 : Int32)) - (1 : Int32))), .val (.int (mode &&& (3 : Int32))), .val (.int arg), .unset] [(.long ((mo i).toInt64)), (.long (arg.toInt64))])
      refine own_via ?_ fun _ kt => XS.lcmp X3.here hx rfl (hb hby at_106) rfl kt
      show Go _ _ _ _ _ _ _ _ (mkF m 107 #[.val (.int k), .val (.int mode), .val (.int a), .val (.int i), .val (.ref ac), .val (.int (fe i)), .val (.int (mo i)), .val (.int (((a &&& (2147483647 : Int32)) % (3 : Int32)) - (1 : Int32))), .val (.int (mode &&& (3 : Int32))), .val (.int arg), .unset] [(.int (lcmpW (arg.toInt64) ((mo i).toInt64)))])
      by_cases hc7 : ((mo i).toInt64) < (arg.toInt64)
      · skip
        refine own_via ?_ fun _ kt => XS.ifYes X3.here hx rfl (pc0 := 107) (pc' := 114) rfl (hb hby at_107) rfl ((if0 _ _).trans (tlt ((lw_gt _ _).mpr hc7)).2.2.1) (by decide) (by decide) kt
        show Go _ _ _ _ _ _ _ _ (mkF m 114 #[.val (.int k), .val (.int mode), .val (.int a), .val (.int i), .val (.ref ac), .val (.int (fe i)), .val (.int (mo i)), .val (.int (((a &&& (2147483647 : Int32)) % (3 : Int32)) - (1 : Int32))), .val (.int (mode &&& (3 : Int32))), .val (.int arg), .unset] [])
        refine own_via ?_ fun _ kt => XS.iconst X3.here hx rfl (hb hby at_114) kt
        show Go _ _ _ _ _ _ _ _ (mkF m 115 #[.val (.int k), .val (.int mode), .val (.int a), .val (.int i), .val (.ref ac), .val (.int (fe i)), .val (.int (mo i)), .val (.int (((a &&& (2147483647 : Int32)) % (3 : Int32)) - (1 : Int32))), .val (.int (mode &&& (3 : Int32))), .val (.int arg), .unset] [(.int (0 : Int32))])
        refine own_via ?_ fun _ kt => XS.istore X3.here hx rfl (hb hby at_115) rfl (l' := #[.val (.int k), .val (.int mode), .val (.int a), .val (.int i), .val (.ref ac), .val (.int (fe i)), .val (.int (mo i)), .val (.int (((a &&& (2147483647 : Int32)) % (3 : Int32)) - (1 : Int32))), .val (.int (mode &&& (3 : Int32))), .val (.int arg), .val (.int (0 : Int32))]) rfl kt
        show Go _ _ _ _ _ _ _ _ (mkF m 117 #[.val (.int k), .val (.int mode), .val (.int a), .val (.int i), .val (.ref ac), .val (.int (fe i)), .val (.int (mo i)), .val (.int (((a &&& (2147483647 : Int32)) % (3 : Int32)) - (1 : Int32))), .val (.int (mode &&& (3 : Int32))), .val (.int arg), .val (.int (0 : Int32))] [])
        refine own_via ?_ fun _ kt => XS.aload X3.here hx rfl (hb hby at_117) rfl rfl kt
        show Go _ _ _ _ _ _ _ _ (mkF m 119 #[.val (.int k), .val (.int mode), .val (.int a), .val (.int i), .val (.ref ac), .val (.int (fe i)), .val (.int (mo i)), .val (.int (((a &&& (2147483647 : Int32)) % (3 : Int32)) - (1 : Int32))), .val (.int (mode &&& (3 : Int32))), .val (.int arg), .val (.int (0 : Int32))] [(.ref ac)])
        refine own_via ?_ fun _ kt => XS.iload X3.here hx rfl (hb hby at_119) rfl kt
        show Go _ _ _ _ _ _ _ _ (mkF m 121 #[.val (.int k), .val (.int mode), .val (.int a), .val (.int i), .val (.ref ac), .val (.int (fe i)), .val (.int (mo i)), .val (.int (((a &&& (2147483647 : Int32)) % (3 : Int32)) - (1 : Int32))), .val (.int (mode &&& (3 : Int32))), .val (.int arg), .val (.int (0 : Int32))] [(.int arg), (.ref ac)])
        obtain ⟨cq8, kq8, q8a, q8b, q8c⟩ := isOf hZ e3 E1
        obtain ⟨_, _, ⟨T8, L8, k8, n8⟩, -, X8, ⟨Lc8, hQ8, l8, y8, z8⟩, st8⟩ := X3.virtualBack hx (y := (⟨"com/example/deft_orm/deftorm/engine/QueryTree$Function$Name", "takes", "(I)Z"⟩ : MethodName)) (z := (⟨"com/example/deft_orm/deftorm/engine/QueryTree$Function$Name", "takes", "(I)Z"⟩ : MethodName)) hown (mvT hZ (hw _ (List.mem_of_getElem? (i := 14) rfl))) (mvT hZ (hw _ (List.mem_of_getElem? (i := 15) rfl))) (notFace_of_selects (args := #[]) (mvT hZ (hw _ (List.mem_of_getElem? (i := 17) rfl)))) (mvT hZ (hw _ (List.mem_of_getElem? (i := 17) rfl))) (mvT hZ (hw _ (List.mem_of_getElem? (i := 16) rfl))) (by decide) (backOf (W := 0) (rm_takes l Z a0 hw [] ac arg (fe i) (mo i) h0 n0 Z0 F1 G1) hZ (hw _ (List.mem_of_getElem? (i := 18) rfl)) (hw _ (List.mem_of_getElem? (i := 6) rfl)) (by decide) (by decide)) q8a q8c (g := (mkF m 121 #[.val (.int k), .val (.int mode), .val (.int a), .val (.int i), .val (.ref ac), .val (.int (fe i)), .val (.int (mo i)), .val (.int (((a &&& (2147483647 : Int32)) % (3 : Int32)) - (1 : Int32))), .val (.int (mode &&& (3 : Int32))), .val (.int arg), .val (.int (0 : Int32))] [(.int arg), (.ref ac)])) rfl (by rw [hml]; rfl) (Steps.refl _) (argsL := [(.int arg)]) (rest := []) (lenOf pd2 rfl) rfl (by show 2 * 0 + _ ≤ _; exact Nat.le_of_eq rfl) (hb hby at_121) (fun _ _ => ⟨rfl, e3, (by decide : 0 + 0 ≤ _), (by decide : 0 + 0 ≤ _)⟩)
        dsimp only [Pt.U, Pt.locs, Pt.cells, Pt.slots] at X8 l8 y8 z8 st8 hQ8
        subst l8 y8 z8
        obtain ⟨rfl, Nq8, e8⟩ := hQ8
        have N8 := Fr.app N3 Nq8
        refine own_join ?_ st8
        show Go _ _ _ _ _ _ _ _ (mkF m 124 #[.val (.int k), .val (.int mode), .val (.int a), .val (.int i), .val (.ref ac), .val (.int (fe i)), .val (.int (mo i)), .val (.int (((a &&& (2147483647 : Int32)) % (3 : Int32)) - (1 : Int32))), .val (.int (mode &&& (3 : Int32))), .val (.int arg), .val (.int (0 : Int32))] [(.int (bi (¬ arg < (fe i) ∧ ¬ (mo i) < arg)))])
        refine own_via ?_ fun _ kt => XS.iload X8.here hx rfl (hb hby at_124) rfl kt
        show Go _ _ _ _ _ _ _ _ (mkF m 126 #[.val (.int k), .val (.int mode), .val (.int a), .val (.int i), .val (.ref ac), .val (.int (fe i)), .val (.int (mo i)), .val (.int (((a &&& (2147483647 : Int32)) % (3 : Int32)) - (1 : Int32))), .val (.int (mode &&& (3 : Int32))), .val (.int arg), .val (.int (0 : Int32))] [(.int (0 : Int32)), (.int (bi (¬ arg < (fe i) ∧ ¬ (mo i) < arg)))])
        refine own_via ?_ fun _ kt => XS.icmpNo X8.here hx rfl (hb hby at_126) rfl (teq (bi_0.mpr (fun u => u.2 ((i64lt _ _).mp hc7)))).2 kt
        show Go _ _ _ _ _ _ _ _ (mkF m 129 #[.val (.int k), .val (.int mode), .val (.int a), .val (.int i), .val (.ref ac), .val (.int (fe i)), .val (.int (mo i)), .val (.int (((a &&& (2147483647 : Int32)) % (3 : Int32)) - (1 : Int32))), .val (.int (mode &&& (3 : Int32))), .val (.int arg), .val (.int (0 : Int32))] [])
        refine own_via ?_ fun _ kt => XS.iconst X8.here hx rfl (hb hby at_129) kt
        show Go _ _ _ _ _ _ _ _ (mkF m 130 #[.val (.int k), .val (.int mode), .val (.int a), .val (.int i), .val (.ref ac), .val (.int (fe i)), .val (.int (mo i)), .val (.int (((a &&& (2147483647 : Int32)) % (3 : Int32)) - (1 : Int32))), .val (.int (mode &&& (3 : Int32))), .val (.int arg), .val (.int (0 : Int32))] [(.int (1 : Int32))])
        refine own_via ?_ fun _ kt => XS.goto X8.here hx rfl (pc0 := 130) (pc' := 134) rfl (hb hby at_130) (by decide) (by decide) kt
        show Go _ _ _ _ _ _ _ _ (mkF m 134 #[.val (.int k), .val (.int mode), .val (.int a), .val (.int i), .val (.ref ac), .val (.int (fe i)), .val (.int (mo i)), .val (.int (((a &&& (2147483647 : Int32)) % (3 : Int32)) - (1 : Int32))), .val (.int (mode &&& (3 : Int32))), .val (.int arg), .val (.int (0 : Int32))] [(.int (1 : Int32))])
        exact own_retZ (z' := (1 : Int32)) X8 hx hret hlk (hb hby at_134) rfl (by decide) (by decide) (by rw [e8]; exact ⟨rfl, N8⟩)
      · skip
        refine own_via ?_ fun _ kt => XS.ifNo X3.here hx rfl (hb hby at_107) rfl ((if0 _ _).trans (flt (fun q => hc7 ((lw_gt _ _).mp q))).2.2.1) kt
        show Go _ _ _ _ _ _ _ _ (mkF m 110 #[.val (.int k), .val (.int mode), .val (.int a), .val (.int i), .val (.ref ac), .val (.int (fe i)), .val (.int (mo i)), .val (.int (((a &&& (2147483647 : Int32)) % (3 : Int32)) - (1 : Int32))), .val (.int (mode &&& (3 : Int32))), .val (.int arg), .unset] [])
        refine own_via ?_ fun _ kt => XS.iconst X3.here hx rfl (hb hby at_110) kt
        show Go _ _ _ _ _ _ _ _ (mkF m 111 #[.val (.int k), .val (.int mode), .val (.int a), .val (.int i), .val (.ref ac), .val (.int (fe i)), .val (.int (mo i)), .val (.int (((a &&& (2147483647 : Int32)) % (3 : Int32)) - (1 : Int32))), .val (.int (mode &&& (3 : Int32))), .val (.int arg), .unset] [(.int (1 : Int32))])
        refine own_via ?_ fun _ kt => XS.goto X3.here hx rfl (pc0 := 111) (pc' := 115) rfl (hb hby at_111) (by decide) (by decide) kt
        show Go _ _ _ _ _ _ _ _ (mkF m 115 #[.val (.int k), .val (.int mode), .val (.int a), .val (.int i), .val (.ref ac), .val (.int (fe i)), .val (.int (mo i)), .val (.int (((a &&& (2147483647 : Int32)) % (3 : Int32)) - (1 : Int32))), .val (.int (mode &&& (3 : Int32))), .val (.int arg), .unset] [(.int (1 : Int32))])
        refine own_via ?_ fun _ kt => XS.istore X3.here hx rfl (hb hby at_115) rfl (l' := #[.val (.int k), .val (.int mode), .val (.int a), .val (.int i), .val (.ref ac), .val (.int (fe i)), .val (.int (mo i)), .val (.int (((a &&& (2147483647 : Int32)) % (3 : Int32)) - (1 : Int32))), .val (.int (mode &&& (3 : Int32))), .val (.int arg), .val (.int (1 : Int32))]) rfl kt
        show Go _ _ _ _ _ _ _ _ (mkF m 117 #[.val (.int k), .val (.int mode), .val (.int a), .val (.int i), .val (.ref ac), .val (.int (fe i)), .val (.int (mo i)), .val (.int (((a &&& (2147483647 : Int32)) % (3 : Int32)) - (1 : Int32))), .val (.int (mode &&& (3 : Int32))), .val (.int arg), .val (.int (1 : Int32))] [])
        refine own_via ?_ fun _ kt => XS.aload X3.here hx rfl (hb hby at_117) rfl rfl kt
        show Go _ _ _ _ _ _ _ _ (mkF m 119 #[.val (.int k), .val (.int mode), .val (.int a), .val (.int i), .val (.ref ac), .val (.int (fe i)), .val (.int (mo i)), .val (.int (((a &&& (2147483647 : Int32)) % (3 : Int32)) - (1 : Int32))), .val (.int (mode &&& (3 : Int32))), .val (.int arg), .val (.int (1 : Int32))] [(.ref ac)])
        refine own_via ?_ fun _ kt => XS.iload X3.here hx rfl (hb hby at_119) rfl kt
        show Go _ _ _ _ _ _ _ _ (mkF m 121 #[.val (.int k), .val (.int mode), .val (.int a), .val (.int i), .val (.ref ac), .val (.int (fe i)), .val (.int (mo i)), .val (.int (((a &&& (2147483647 : Int32)) % (3 : Int32)) - (1 : Int32))), .val (.int (mode &&& (3 : Int32))), .val (.int arg), .val (.int (1 : Int32))] [(.int arg), (.ref ac)])
        obtain ⟨cq9, kq9, q9a, q9b, q9c⟩ := isOf hZ e3 E1
        obtain ⟨_, _, ⟨T9, L9, k9, n9⟩, -, X9, ⟨Lc9, hQ9, l9, y9, z9⟩, st9⟩ := X3.virtualBack hx (y := (⟨"com/example/deft_orm/deftorm/engine/QueryTree$Function$Name", "takes", "(I)Z"⟩ : MethodName)) (z := (⟨"com/example/deft_orm/deftorm/engine/QueryTree$Function$Name", "takes", "(I)Z"⟩ : MethodName)) hown (mvT hZ (hw _ (List.mem_of_getElem? (i := 14) rfl))) (mvT hZ (hw _ (List.mem_of_getElem? (i := 15) rfl))) (notFace_of_selects (args := #[]) (mvT hZ (hw _ (List.mem_of_getElem? (i := 17) rfl)))) (mvT hZ (hw _ (List.mem_of_getElem? (i := 17) rfl))) (mvT hZ (hw _ (List.mem_of_getElem? (i := 16) rfl))) (by decide) (backOf (W := 0) (rm_takes l Z a0 hw [] ac arg (fe i) (mo i) h0 n0 Z0 F1 G1) hZ (hw _ (List.mem_of_getElem? (i := 18) rfl)) (hw _ (List.mem_of_getElem? (i := 6) rfl)) (by decide) (by decide)) q9a q9c (g := (mkF m 121 #[.val (.int k), .val (.int mode), .val (.int a), .val (.int i), .val (.ref ac), .val (.int (fe i)), .val (.int (mo i)), .val (.int (((a &&& (2147483647 : Int32)) % (3 : Int32)) - (1 : Int32))), .val (.int (mode &&& (3 : Int32))), .val (.int arg), .val (.int (1 : Int32))] [(.int arg), (.ref ac)])) rfl (by rw [hml]; rfl) (Steps.refl _) (argsL := [(.int arg)]) (rest := []) (lenOf pd2 rfl) rfl (by show 2 * 0 + _ ≤ _; exact Nat.le_of_eq rfl) (hb hby at_121) (fun _ _ => ⟨rfl, e3, (by decide : 0 + 0 ≤ _), (by decide : 0 + 0 ≤ _)⟩)
        dsimp only [Pt.U, Pt.locs, Pt.cells, Pt.slots] at X9 l9 y9 z9 st9 hQ9
        subst l9 y9 z9
        obtain ⟨rfl, Nq9, e9⟩ := hQ9
        have N9 := Fr.app N3 Nq9
        refine own_join ?_ st9
        show Go _ _ _ _ _ _ _ _ (mkF m 124 #[.val (.int k), .val (.int mode), .val (.int a), .val (.int i), .val (.ref ac), .val (.int (fe i)), .val (.int (mo i)), .val (.int (((a &&& (2147483647 : Int32)) % (3 : Int32)) - (1 : Int32))), .val (.int (mode &&& (3 : Int32))), .val (.int arg), .val (.int (1 : Int32))] [(.int (bi (¬ arg < (fe i) ∧ ¬ (mo i) < arg)))])
        refine own_via ?_ fun _ kt => XS.iload X9.here hx rfl (hb hby at_124) rfl kt
        show Go _ _ _ _ _ _ _ _ (mkF m 126 #[.val (.int k), .val (.int mode), .val (.int a), .val (.int i), .val (.ref ac), .val (.int (fe i)), .val (.int (mo i)), .val (.int (((a &&& (2147483647 : Int32)) % (3 : Int32)) - (1 : Int32))), .val (.int (mode &&& (3 : Int32))), .val (.int arg), .val (.int (1 : Int32))] [(.int (1 : Int32)), (.int (bi (¬ arg < (fe i) ∧ ¬ (mo i) < arg)))])
        refine own_via ?_ fun _ kt => XS.icmpNo X9.here hx rfl (hb hby at_126) rfl (teq (bi_1.mpr ⟨fun u => hc5 ((i64lt _ _).mpr u), fun u => hc7 ((i64lt _ _).mpr u)⟩)).2 kt
        show Go _ _ _ _ _ _ _ _ (mkF m 129 #[.val (.int k), .val (.int mode), .val (.int a), .val (.int i), .val (.ref ac), .val (.int (fe i)), .val (.int (mo i)), .val (.int (((a &&& (2147483647 : Int32)) % (3 : Int32)) - (1 : Int32))), .val (.int (mode &&& (3 : Int32))), .val (.int arg), .val (.int (1 : Int32))] [])
        refine own_via ?_ fun _ kt => XS.iconst X9.here hx rfl (hb hby at_129) kt
        show Go _ _ _ _ _ _ _ _ (mkF m 130 #[.val (.int k), .val (.int mode), .val (.int a), .val (.int i), .val (.ref ac), .val (.int (fe i)), .val (.int (mo i)), .val (.int (((a &&& (2147483647 : Int32)) % (3 : Int32)) - (1 : Int32))), .val (.int (mode &&& (3 : Int32))), .val (.int arg), .val (.int (1 : Int32))] [(.int (1 : Int32))])
        refine own_via ?_ fun _ kt => XS.goto X9.here hx rfl (pc0 := 130) (pc' := 134) rfl (hb hby at_130) (by decide) (by decide) kt
        show Go _ _ _ _ _ _ _ _ (mkF m 134 #[.val (.int k), .val (.int mode), .val (.int a), .val (.int i), .val (.ref ac), .val (.int (fe i)), .val (.int (mo i)), .val (.int (((a &&& (2147483647 : Int32)) % (3 : Int32)) - (1 : Int32))), .val (.int (mode &&& (3 : Int32))), .val (.int arg), .val (.int (1 : Int32))] [(.int (1 : Int32))])
        exact own_retZ (z' := (1 : Int32)) X9 hx hret hlk (hb hby at_134) rfl (by decide) (by decide) (by rw [e9]; exact ⟨rfl, N9⟩)
  show Go _ _ _ _ _ _ _ _ (mkF m 41 #[.val (.int k), .val (.int mode), .val (.int a), .val (.int i), .val (.ref ac), .val (.int (fe i)), .val (.int (mo i)), .val (.int (((a &&& (2147483647 : Int32)) % (3 : Int32)) - (1 : Int32))), .val (.int (mode &&& (3 : Int32))), .unset, .unset] [])
  refine own_via ?_ fun _ kt => XS.iload X3.here hx rfl (hb hby at_41) rfl kt
  show Go _ _ _ _ _ _ _ _ (mkF m 43 #[.val (.int k), .val (.int mode), .val (.int a), .val (.int i), .val (.ref ac), .val (.int (fe i)), .val (.int (mo i)), .val (.int (((a &&& (2147483647 : Int32)) % (3 : Int32)) - (1 : Int32))), .val (.int (mode &&& (3 : Int32))), .unset, .unset] [(.int (mode &&& (3 : Int32)))])
  by_cases hc10 : (mode &&& (3 : Int32)) = (0 : Int32)
  · skip
    refine own_via ?_ fun _ kt => XS.ifNo X3.here hx rfl (hb hby at_43) rfl ((if0 _ _).trans (teq hc10).2) kt
    show Go _ _ _ _ _ _ _ _ (mkF m 46 #[.val (.int k), .val (.int mode), .val (.int a), .val (.int i), .val (.ref ac), .val (.int (fe i)), .val (.int (mo i)), .val (.int (((a &&& (2147483647 : Int32)) % (3 : Int32)) - (1 : Int32))), .val (.int (mode &&& (3 : Int32))), .unset, .unset] [])
    refine own_via ?_ fun _ kt => XS.iloadN X3.here hx rfl (hb hby at_46) rfl kt
    show Go _ _ _ _ _ _ _ _ (mkF m 47 #[.val (.int k), .val (.int mode), .val (.int a), .val (.int i), .val (.ref ac), .val (.int (fe i)), .val (.int (mo i)), .val (.int (((a &&& (2147483647 : Int32)) % (3 : Int32)) - (1 : Int32))), .val (.int (mode &&& (3 : Int32))), .unset, .unset] [(.int a)])
    refine own_via ?_ fun _ kt => XS.istore X3.here hx rfl (hb hby at_47) rfl (l' := #[.val (.int k), .val (.int mode), .val (.int a), .val (.int i), .val (.ref ac), .val (.int (fe i)), .val (.int (mo i)), .val (.int (((a &&& (2147483647 : Int32)) % (3 : Int32)) - (1 : Int32))), .val (.int (mode &&& (3 : Int32))), .val (.int a), .unset]) rfl kt
    show Go _ _ _ _ _ _ _ _ (mkF m 49 #[.val (.int k), .val (.int mode), .val (.int a), .val (.int i), .val (.ref ac), .val (.int (fe i)), .val (.int (mo i)), .val (.int (((a &&& (2147483647 : Int32)) % (3 : Int32)) - (1 : Int32))), .val (.int (mode &&& (3 : Int32))), .val (.int a), .unset] [])
    refine own_via ?_ fun _ kt => XS.goto X3.here hx rfl (pc0 := 49) (pc' := 90) rfl (hb hby at_49) (by decide) (by decide) kt
    show Go _ _ _ _ _ _ _ _ (mkF m 90 #[.val (.int k), .val (.int mode), .val (.int a), .val (.int i), .val (.ref ac), .val (.int (fe i)), .val (.int (mo i)), .val (.int (((a &&& (2147483647 : Int32)) % (3 : Int32)) - (1 : Int32))), .val (.int (mode &&& (3 : Int32))), .val (.int a), .unset] [])
    exact J4 a
  · skip
    refine own_via ?_ fun _ kt => XS.ifYes X3.here hx rfl (pc0 := 43) (pc' := 52) rfl (hb hby at_43) rfl ((if0 _ _).trans (feq hc10).2) (by decide) (by decide) kt
    show Go _ _ _ _ _ _ _ _ (mkF m 52 #[.val (.int k), .val (.int mode), .val (.int a), .val (.int i), .val (.ref ac), .val (.int (fe i)), .val (.int (mo i)), .val (.int (((a &&& (2147483647 : Int32)) % (3 : Int32)) - (1 : Int32))), .val (.int (mode &&& (3 : Int32))), .unset, .unset] [])
    refine own_via ?_ fun _ kt => XS.iload X3.here hx rfl (hb hby at_52) rfl kt
    show Go _ _ _ _ _ _ _ _ (mkF m 54 #[.val (.int k), .val (.int mode), .val (.int a), .val (.int i), .val (.ref ac), .val (.int (fe i)), .val (.int (mo i)), .val (.int (((a &&& (2147483647 : Int32)) % (3 : Int32)) - (1 : Int32))), .val (.int (mode &&& (3 : Int32))), .unset, .unset] [(.int (mode &&& (3 : Int32)))])
    refine own_via ?_ fun _ kt => XS.iconst X3.here hx rfl (hb hby at_54) kt
    show Go _ _ _ _ _ _ _ _ (mkF m 55 #[.val (.int k), .val (.int mode), .val (.int a), .val (.int i), .val (.ref ac), .val (.int (fe i)), .val (.int (mo i)), .val (.int (((a &&& (2147483647 : Int32)) % (3 : Int32)) - (1 : Int32))), .val (.int (mode &&& (3 : Int32))), .unset, .unset] [(.int (1 : Int32)), (.int (mode &&& (3 : Int32)))])
    by_cases hc11 : (mode &&& (3 : Int32)) = (1 : Int32)
    · skip
      refine own_via ?_ fun _ kt => XS.icmpNo X3.here hx rfl (hb hby at_55) rfl (teq hc11).2 kt
      show Go _ _ _ _ _ _ _ _ (mkF m 58 #[.val (.int k), .val (.int mode), .val (.int a), .val (.int i), .val (.ref ac), .val (.int (fe i)), .val (.int (mo i)), .val (.int (((a &&& (2147483647 : Int32)) % (3 : Int32)) - (1 : Int32))), .val (.int (mode &&& (3 : Int32))), .unset, .unset] [])
      refine own_via ?_ fun _ kt => XS.iload X3.here hx rfl (hb hby at_58) rfl kt
      show Go _ _ _ _ _ _ _ _ (mkF m 60 #[.val (.int k), .val (.int mode), .val (.int a), .val (.int i), .val (.ref ac), .val (.int (fe i)), .val (.int (mo i)), .val (.int (((a &&& (2147483647 : Int32)) % (3 : Int32)) - (1 : Int32))), .val (.int (mode &&& (3 : Int32))), .unset, .unset] [(.int (fe i))])
      refine own_via ?_ fun _ kt => XS.iload X3.here hx rfl (hb hby at_60) rfl kt
      show Go _ _ _ _ _ _ _ _ (mkF m 62 #[.val (.int k), .val (.int mode), .val (.int a), .val (.int i), .val (.ref ac), .val (.int (fe i)), .val (.int (mo i)), .val (.int (((a &&& (2147483647 : Int32)) % (3 : Int32)) - (1 : Int32))), .val (.int (mode &&& (3 : Int32))), .unset, .unset] [(.int (((a &&& (2147483647 : Int32)) % (3 : Int32)) - (1 : Int32))), (.int (fe i))])
      refine own_via ?_ fun _ kt => XS.iadd X3.here hx rfl (hb hby at_62) rfl kt
      show Go _ _ _ _ _ _ _ _ (mkF m 63 #[.val (.int k), .val (.int mode), .val (.int a), .val (.int i), .val (.ref ac), .val (.int (fe i)), .val (.int (mo i)), .val (.int (((a &&& (2147483647 : Int32)) % (3 : Int32)) - (1 : Int32))), .val (.int (mode &&& (3 : Int32))), .unset, .unset] [(.int ((fe i) + (((a &&& (2147483647 : Int32)) % (3 : Int32)) - (1 : Int32))))])
      refine own_via ?_ fun _ kt => XS.istore X3.here hx rfl (hb hby at_63) rfl (l' := #[.val (.int k), .val (.int mode), .val (.int a), .val (.int i), .val (.ref ac), .val (.int (fe i)), .val (.int (mo i)), .val (.int (((a &&& (2147483647 : Int32)) % (3 : Int32)) - (1 : Int32))), .val (.int (mode &&& (3 : Int32))), .val (.int ((fe i) + (((a &&& (2147483647 : Int32)) % (3 : Int32)) - (1 : Int32)))), .unset]) rfl kt
      show Go _ _ _ _ _ _ _ _ (mkF m 65 #[.val (.int k), .val (.int mode), .val (.int a), .val (.int i), .val (.ref ac), .val (.int (fe i)), .val (.int (mo i)), .val (.int (((a &&& (2147483647 : Int32)) % (3 : Int32)) - (1 : Int32))), .val (.int (mode &&& (3 : Int32))), .val (.int ((fe i) + (((a &&& (2147483647 : Int32)) % (3 : Int32)) - (1 : Int32)))), .unset] [])
      refine own_via ?_ fun _ kt => XS.goto X3.here hx rfl (pc0 := 65) (pc' := 90) rfl (hb hby at_65) (by decide) (by decide) kt
      show Go _ _ _ _ _ _ _ _ (mkF m 90 #[.val (.int k), .val (.int mode), .val (.int a), .val (.int i), .val (.ref ac), .val (.int (fe i)), .val (.int (mo i)), .val (.int (((a &&& (2147483647 : Int32)) % (3 : Int32)) - (1 : Int32))), .val (.int (mode &&& (3 : Int32))), .val (.int ((fe i) + (((a &&& (2147483647 : Int32)) % (3 : Int32)) - (1 : Int32)))), .unset] [])
      exact J4 ((fe i) + (((a &&& (2147483647 : Int32)) % (3 : Int32)) - (1 : Int32)))
    · skip
      refine own_via ?_ fun _ kt => XS.icmpYes X3.here hx rfl (pc0 := 55) (pc' := 68) rfl (hb hby at_55) rfl (feq hc11).2 (by decide) (by decide) kt
      show Go _ _ _ _ _ _ _ _ (mkF m 68 #[.val (.int k), .val (.int mode), .val (.int a), .val (.int i), .val (.ref ac), .val (.int (fe i)), .val (.int (mo i)), .val (.int (((a &&& (2147483647 : Int32)) % (3 : Int32)) - (1 : Int32))), .val (.int (mode &&& (3 : Int32))), .unset, .unset] [])
      refine own_via ?_ fun _ kt => XS.iload X3.here hx rfl (hb hby at_68) rfl kt
      show Go _ _ _ _ _ _ _ _ (mkF m 70 #[.val (.int k), .val (.int mode), .val (.int a), .val (.int i), .val (.ref ac), .val (.int (fe i)), .val (.int (mo i)), .val (.int (((a &&& (2147483647 : Int32)) % (3 : Int32)) - (1 : Int32))), .val (.int (mode &&& (3 : Int32))), .unset, .unset] [(.int (mode &&& (3 : Int32)))])
      refine own_via ?_ fun _ kt => XS.iconst X3.here hx rfl (hb hby at_70) kt
      show Go _ _ _ _ _ _ _ _ (mkF m 71 #[.val (.int k), .val (.int mode), .val (.int a), .val (.int i), .val (.ref ac), .val (.int (fe i)), .val (.int (mo i)), .val (.int (((a &&& (2147483647 : Int32)) % (3 : Int32)) - (1 : Int32))), .val (.int (mode &&& (3 : Int32))), .unset, .unset] [(.int (2 : Int32)), (.int (mode &&& (3 : Int32)))])
      by_cases hc12 : (mode &&& (3 : Int32)) = (2 : Int32)
      · skip
        refine own_via ?_ fun _ kt => XS.icmpNo X3.here hx rfl (hb hby at_71) rfl (teq hc12).2 kt
        show Go _ _ _ _ _ _ _ _ (mkF m 74 #[.val (.int k), .val (.int mode), .val (.int a), .val (.int i), .val (.ref ac), .val (.int (fe i)), .val (.int (mo i)), .val (.int (((a &&& (2147483647 : Int32)) % (3 : Int32)) - (1 : Int32))), .val (.int (mode &&& (3 : Int32))), .unset, .unset] [])
        refine own_via ?_ fun _ kt => XS.iload X3.here hx rfl (hb hby at_74) rfl kt
        show Go _ _ _ _ _ _ _ _ (mkF m 76 #[.val (.int k), .val (.int mode), .val (.int a), .val (.int i), .val (.ref ac), .val (.int (fe i)), .val (.int (mo i)), .val (.int (((a &&& (2147483647 : Int32)) % (3 : Int32)) - (1 : Int32))), .val (.int (mode &&& (3 : Int32))), .unset, .unset] [(.int (mo i))])
        refine own_via ?_ fun _ kt => XS.iload X3.here hx rfl (hb hby at_76) rfl kt
        show Go _ _ _ _ _ _ _ _ (mkF m 78 #[.val (.int k), .val (.int mode), .val (.int a), .val (.int i), .val (.ref ac), .val (.int (fe i)), .val (.int (mo i)), .val (.int (((a &&& (2147483647 : Int32)) % (3 : Int32)) - (1 : Int32))), .val (.int (mode &&& (3 : Int32))), .unset, .unset] [(.int (((a &&& (2147483647 : Int32)) % (3 : Int32)) - (1 : Int32))), (.int (mo i))])
        refine own_via ?_ fun _ kt => XS.iadd X3.here hx rfl (hb hby at_78) rfl kt
        show Go _ _ _ _ _ _ _ _ (mkF m 79 #[.val (.int k), .val (.int mode), .val (.int a), .val (.int i), .val (.ref ac), .val (.int (fe i)), .val (.int (mo i)), .val (.int (((a &&& (2147483647 : Int32)) % (3 : Int32)) - (1 : Int32))), .val (.int (mode &&& (3 : Int32))), .unset, .unset] [(.int ((mo i) + (((a &&& (2147483647 : Int32)) % (3 : Int32)) - (1 : Int32))))])
        refine own_via ?_ fun _ kt => XS.istore X3.here hx rfl (hb hby at_79) rfl (l' := #[.val (.int k), .val (.int mode), .val (.int a), .val (.int i), .val (.ref ac), .val (.int (fe i)), .val (.int (mo i)), .val (.int (((a &&& (2147483647 : Int32)) % (3 : Int32)) - (1 : Int32))), .val (.int (mode &&& (3 : Int32))), .val (.int ((mo i) + (((a &&& (2147483647 : Int32)) % (3 : Int32)) - (1 : Int32)))), .unset]) rfl kt
        show Go _ _ _ _ _ _ _ _ (mkF m 81 #[.val (.int k), .val (.int mode), .val (.int a), .val (.int i), .val (.ref ac), .val (.int (fe i)), .val (.int (mo i)), .val (.int (((a &&& (2147483647 : Int32)) % (3 : Int32)) - (1 : Int32))), .val (.int (mode &&& (3 : Int32))), .val (.int ((mo i) + (((a &&& (2147483647 : Int32)) % (3 : Int32)) - (1 : Int32)))), .unset] [])
        refine own_via ?_ fun _ kt => XS.goto X3.here hx rfl (pc0 := 81) (pc' := 90) rfl (hb hby at_81) (by decide) (by decide) kt
        show Go _ _ _ _ _ _ _ _ (mkF m 90 #[.val (.int k), .val (.int mode), .val (.int a), .val (.int i), .val (.ref ac), .val (.int (fe i)), .val (.int (mo i)), .val (.int (((a &&& (2147483647 : Int32)) % (3 : Int32)) - (1 : Int32))), .val (.int (mode &&& (3 : Int32))), .val (.int ((mo i) + (((a &&& (2147483647 : Int32)) % (3 : Int32)) - (1 : Int32)))), .unset] [])
        exact J4 ((mo i) + (((a &&& (2147483647 : Int32)) % (3 : Int32)) - (1 : Int32)))
      · skip
        refine own_via ?_ fun _ kt => XS.icmpYes X3.here hx rfl (pc0 := 71) (pc' := 84) rfl (hb hby at_71) rfl (feq hc12).2 (by decide) (by decide) kt
        show Go _ _ _ _ _ _ _ _ (mkF m 84 #[.val (.int k), .val (.int mode), .val (.int a), .val (.int i), .val (.ref ac), .val (.int (fe i)), .val (.int (mo i)), .val (.int (((a &&& (2147483647 : Int32)) % (3 : Int32)) - (1 : Int32))), .val (.int (mode &&& (3 : Int32))), .unset, .unset] [])
        refine own_via ?_ fun _ kt => XS.iloadN X3.here hx rfl (hb hby at_84) rfl kt
        show Go _ _ _ _ _ _ _ _ (mkF m 85 #[.val (.int k), .val (.int mode), .val (.int a), .val (.int i), .val (.ref ac), .val (.int (fe i)), .val (.int (mo i)), .val (.int (((a &&& (2147483647 : Int32)) % (3 : Int32)) - (1 : Int32))), .val (.int (mode &&& (3 : Int32))), .unset, .unset] [(.int a)])
        refine own_via ?_ fun _ kt => XS.bipush X3.here hx rfl (hb hby at_85) kt
        show Go _ _ _ _ _ _ _ _ (mkF m 87 #[.val (.int k), .val (.int mode), .val (.int a), .val (.int i), .val (.ref ac), .val (.int (fe i)), .val (.int (mo i)), .val (.int (((a &&& (2147483647 : Int32)) % (3 : Int32)) - (1 : Int32))), .val (.int (mode &&& (3 : Int32))), .unset, .unset] [(.int (7 : Int32)), (.int a)])
        refine own_via ?_ fun _ kt => XS.iand X3.here hx rfl (hb hby at_87) rfl kt
        show Go _ _ _ _ _ _ _ _ (mkF m 88 #[.val (.int k), .val (.int mode), .val (.int a), .val (.int i), .val (.ref ac), .val (.int (fe i)), .val (.int (mo i)), .val (.int (((a &&& (2147483647 : Int32)) % (3 : Int32)) - (1 : Int32))), .val (.int (mode &&& (3 : Int32))), .unset, .unset] [(.int (a &&& (7 : Int32)))])
        refine own_via ?_ fun _ kt => XS.istore X3.here hx rfl (hb hby at_88) rfl (l' := #[.val (.int k), .val (.int mode), .val (.int a), .val (.int i), .val (.ref ac), .val (.int (fe i)), .val (.int (mo i)), .val (.int (((a &&& (2147483647 : Int32)) % (3 : Int32)) - (1 : Int32))), .val (.int (mode &&& (3 : Int32))), .val (.int (a &&& (7 : Int32))), .unset]) rfl kt
        show Go _ _ _ _ _ _ _ _ (mkF m 90 #[.val (.int k), .val (.int mode), .val (.int a), .val (.int i), .val (.ref ac), .val (.int (fe i)), .val (.int (mo i)), .val (.int (((a &&& (2147483647 : Int32)) % (3 : Int32)) - (1 : Int32))), .val (.int (mode &&& (3 : Int32))), .val (.int (a &&& (7 : Int32))), .unset] [])
        exact J4 (a &&& (7 : Int32))
set_option maxRecDepth 65536 in
set_option maxHeartbeats 40000000 in
theorem comes_1 {Post : Tables → Env → Array Value → State → Outcome → State → Prop} (hpost : ∀ tb e args s v u, (limb_1_1.after args s (.returned v) u = true ∧ limb_1_2.after args s (.returned v) u = true ∧ True) → FrameEnd s (.returned v) u (Jvm.fieldLocs frame_1_writes args s ++ Jvm.arrayLocs frame_1_arrays args s ++ Jvm.staticLocs frame_1_statics s) 0 0 → Post tb e args s (.returned v) u) :
    ArmFor flags0 classFile x code maxLocals ret World_1 tables_1 room_1 Calls_1 rest_1 Pre_1 Post := by
  intro l hfl _ _ p e ha hc hk s m args below hf hA hF happ hP
  obtain ⟨hcalls, hrest, hpre⟩ := hP
  obtain ⟨-, -, -, hnamed, -, -, -, hat⟩ := (Spec.applies_iff hf).mp happ
  obtain ⟨hg, hn⟩ := and_e (Cond.before_iff.mp (show (Jvm.Cond.and given_1 narrow_1).before args s = true from hpre))
  obtain ⟨ga1, gb1⟩ := and_e hg
  obtain ⟨ga2, gb2⟩ := and_e gb1
  obtain ⟨ga3, gb3⟩ := and_e gb2
  obtain ⟨w0, w1, w2, rfl⟩ : ∃ w0 w1 w2 : Value, args = #[w0, w1, w2] := by
    have hs : args.size = 3 := by simpa [Cond.value, given_1] using ga1
    obtain ⟨L⟩ := args
    match L, hs with
    | [w0, w1, w2], _ => exact ⟨w0, w1, w2, rfl⟩
  have hw := fun d (hd : d ∈ tables_1) => atoms_spec (ws := Jvm.Cond.code x code maxLocals ret :: tables_1) hat d (List.mem_cons_of_mem _ hd)
  have hfit : Fit s := fun {y c} hc i hi => by
    obtain ⟨ha, rfl⟩ := Array.getElem?_eq_some_iff.mp hc
    have q := List.all_eq_true.mp ((Array.all_eq_true_iff_forall_mem.mp hF) _ (Array.getElem_mem ha)) i (List.mem_range.mpr hi)
    simpa [Array.getElem?_eq_getElem hi] using q
  obtain ⟨i0, ei0⟩ := is_v ga2
  obtain rfl : w0 = (.int i0) := Option.some.inj ei0
  obtain ⟨i1, ei1⟩ := is_v ga3
  obtain rfl : w1 = (.int i1) := Option.some.inj ei1
  obtain ⟨i2, ei2⟩ := is_v gb3
  obtain rfl : w2 = (.int i2) := Option.some.inj ei2
  obtain ⟨ga51, gb51⟩ := and_e hn
  obtain ⟨ga52, gb52⟩ := and_e gb51
  obtain ⟨ga53, gb53⟩ := and_e gb52
  obtain ⟨ga54, gb54⟩ := and_e gb53
  obtain ⟨ga55, gb55⟩ := and_e gb54
  obtain ⟨ga56, gb56⟩ := and_e gb55
  obtain ⟨ga57, gb57⟩ := and_e gb56
  obtain ⟨ga58, gb58⟩ := and_e gb57
  obtain ⟨ga59, gb59⟩ := and_e gb58
  obtain ⟨ga60, gb60⟩ := and_e gb59
  obtain ⟨ga61, gb61⟩ := and_e gb60
  obtain ⟨ga62, gb62⟩ := and_e gb61
  obtain ⟨ga63, gb63⟩ := and_e gb62
  obtain ⟨ga64, gb64⟩ := and_e gb63
  obtain ⟨ga65, gb65⟩ := and_e gb64
  obtain ⟨ga66, gb66⟩ := and_e gb65
  obtain ⟨ga67, gb67⟩ := and_e gb66
  obtain ⟨ga68, gb68⟩ := and_e gb67
  obtain ⟨ga69, gb69⟩ := and_e gb68
  obtain ⟨ga70, gb70⟩ := and_e gb69
  obtain ⟨ga71, gb71⟩ := and_e gb70
  obtain ⟨ga72, gb72⟩ := and_e gb71
  obtain ⟨ga73, gb73⟩ := and_e gb72
  obtain ⟨ga74, gb74⟩ := and_e gb73
  obtain ⟨ga75, gb75⟩ := and_e gb74
  obtain ⟨ga76, gb76⟩ := and_e gb75
  obtain ⟨ga77, gb77⟩ := and_e gb76
  obtain ⟨ga78, gb78⟩ := and_e gb77
  obtain ⟨ga79, gb79⟩ := and_e gb78
  obtain ⟨ga80, gb80⟩ := and_e gb79
  obtain ⟨ga81, gb81⟩ := and_e gb80
  obtain ⟨ga82, gb82⟩ := and_e gb81
  obtain ⟨ga83, gb83⟩ := and_e gb82
  obtain ⟨ga84, gb84⟩ := and_e gb83
  obtain ⟨ga85, gb85⟩ := and_e gb84
  obtain ⟨ga86, gb86⟩ := and_e gb85
  obtain ⟨ga87, gb87⟩ := and_e gb86
  obtain ⟨ga88, gb88⟩ := and_e gb87
  obtain ⟨ga89, gb89⟩ := and_e gb88
  obtain ⟨ga90, gb90⟩ := and_e gb89
  obtain ⟨ga91, gb91⟩ := and_e gb90
  obtain ⟨ga92, gb92⟩ := and_e gb91
  obtain ⟨ga93, gb93⟩ := and_e gb92
  obtain ⟨ga94, gb94⟩ := and_e gb93
  obtain ⟨ga95, gb95⟩ := and_e gb94
  obtain ⟨ga96, gb96⟩ := and_e gb95
  obtain ⟨ga97, gb97⟩ := and_e gb96
  obtain ⟨ga98, gb98⟩ := and_e gb97
  obtain ⟨ga99, gb99⟩ := and_e gb98
  obtain ⟨ga100, gb100⟩ := and_e gb99
  obtain ⟨ga101, gb101⟩ := and_e gb100
  obtain ⟨ga102, gb102⟩ := and_e gb101
  obtain ⟨ga103, gb103⟩ := and_e gb102
  obtain ⟨ga104, gb104⟩ := and_e gb103
  obtain ⟨ga105, gb105⟩ := and_e gb104
  obtain ⟨ga106, gb106⟩ := and_e gb105
  obtain ⟨ga107, gb107⟩ := and_e gb106
  obtain ⟨ga108, gb108⟩ := and_e gb107
  obtain ⟨ga109, gb109⟩ := and_e gb108
  obtain ⟨ga110, gb110⟩ := and_e gb109
  obtain ⟨ga111, gb111⟩ := and_e gb110
  obtain ⟨ga112, gb112⟩ := and_e gb111
  obtain ⟨ga113, gb113⟩ := and_e gb112
  obtain ⟨ga114, gb114⟩ := and_e gb113
  obtain ⟨ga115, gb115⟩ := and_e gb114
  obtain ⟨ga116, gb116⟩ := and_e gb115
  obtain ⟨ga117, gb117⟩ := and_e gb116
  obtain ⟨ga118, gb118⟩ := and_e gb117
  obtain ⟨ga119, gb119⟩ := and_e gb118
  obtain ⟨ga120, gb120⟩ := and_e gb119
  obtain ⟨ga121, gb121⟩ := and_e gb120
  obtain ⟨ga122, gb122⟩ := and_e gb121
  obtain ⟨ga123, gb123⟩ := and_e gb122
  obtain ⟨ga124, gb124⟩ := and_e gb123
  obtain ⟨ga125, gb125⟩ := and_e gb124
  obtain ⟨ga126, gb126⟩ := and_e gb125
  obtain ⟨ga127, gb127⟩ := and_e gb126
  obtain ⟨ga128, gb128⟩ := and_e gb127
  obtain ⟨ga129, gb129⟩ := and_e gb128
  obtain ⟨ga130, gb130⟩ := and_e gb129
  obtain ⟨a_CONCAT, ev_CONCAT⟩ := exa_v ga51
  have S_CONCAT : Sta s s.heap "com/example/deft_orm/deftorm/engine/QueryTree$Function$Name" "CONCAT" "Lcom/example/deft_orm/deftorm/engine/QueryTree$Function$Name;" (.ref a_CONCAT) := Sta.start ev_CONCAT (Or.inr ⟨(hw _ (List.mem_of_getElem? (i := 6) rfl)), (hw _ (List.mem_of_getElem? (i := 7) rfl))⟩)
  have E_CONCAT : Exa s s.heap a_CONCAT "com/example/deft_orm/deftorm/engine/QueryTree$Function$Name" := Exa.start ev_CONCAT ga51
  obtain ⟨a_SUBSTRING, ev_SUBSTRING⟩ := exa_v ga54
  have S_SUBSTRING : Sta s s.heap "com/example/deft_orm/deftorm/engine/QueryTree$Function$Name" "SUBSTRING" "Lcom/example/deft_orm/deftorm/engine/QueryTree$Function$Name;" (.ref a_SUBSTRING) := Sta.start ev_SUBSTRING (Or.inr ⟨(hw _ (List.mem_of_getElem? (i := 6) rfl)), (hw _ (List.mem_of_getElem? (i := 24) rfl))⟩)
  have E_SUBSTRING : Exa s s.heap a_SUBSTRING "com/example/deft_orm/deftorm/engine/QueryTree$Function$Name" := Exa.start ev_SUBSTRING ga54
  obtain ⟨a_LOWER, ev_LOWER⟩ := exa_v ga57
  have S_LOWER : Sta s s.heap "com/example/deft_orm/deftorm/engine/QueryTree$Function$Name" "LOWER" "Lcom/example/deft_orm/deftorm/engine/QueryTree$Function$Name;" (.ref a_LOWER) := Sta.start ev_LOWER (Or.inr ⟨(hw _ (List.mem_of_getElem? (i := 6) rfl)), (hw _ (List.mem_of_getElem? (i := 26) rfl))⟩)
  have E_LOWER : Exa s s.heap a_LOWER "com/example/deft_orm/deftorm/engine/QueryTree$Function$Name" := Exa.start ev_LOWER ga57
  obtain ⟨a_REPLACE, ev_REPLACE⟩ := exa_v ga60
  have S_REPLACE : Sta s s.heap "com/example/deft_orm/deftorm/engine/QueryTree$Function$Name" "REPLACE" "Lcom/example/deft_orm/deftorm/engine/QueryTree$Function$Name;" (.ref a_REPLACE) := Sta.start ev_REPLACE (Or.inr ⟨(hw _ (List.mem_of_getElem? (i := 6) rfl)), (hw _ (List.mem_of_getElem? (i := 28) rfl))⟩)
  have E_REPLACE : Exa s s.heap a_REPLACE "com/example/deft_orm/deftorm/engine/QueryTree$Function$Name" := Exa.start ev_REPLACE ga60
  obtain ⟨a_LOCAL_DATE, ev_LOCAL_DATE⟩ := exa_v ga63
  have S_LOCAL_DATE : Sta s s.heap "com/example/deft_orm/deftorm/engine/QueryTree$Function$Name" "LOCAL_DATE" "Lcom/example/deft_orm/deftorm/engine/QueryTree$Function$Name;" (.ref a_LOCAL_DATE) := Sta.start ev_LOCAL_DATE (Or.inr ⟨(hw _ (List.mem_of_getElem? (i := 6) rfl)), (hw _ (List.mem_of_getElem? (i := 30) rfl))⟩)
  have E_LOCAL_DATE : Exa s s.heap a_LOCAL_DATE "com/example/deft_orm/deftorm/engine/QueryTree$Function$Name" := Exa.start ev_LOCAL_DATE ga63
  obtain ⟨a_RIGHT, ev_RIGHT⟩ := exa_v ga66
  have S_RIGHT : Sta s s.heap "com/example/deft_orm/deftorm/engine/QueryTree$Function$Name" "RIGHT" "Lcom/example/deft_orm/deftorm/engine/QueryTree$Function$Name;" (.ref a_RIGHT) := Sta.start ev_RIGHT (Or.inr ⟨(hw _ (List.mem_of_getElem? (i := 6) rfl)), (hw _ (List.mem_of_getElem? (i := 32) rfl))⟩)
  have E_RIGHT : Exa s s.heap a_RIGHT "com/example/deft_orm/deftorm/engine/QueryTree$Function$Name" := Exa.start ev_RIGHT ga66
  obtain ⟨a_UPPER, ev_UPPER⟩ := exa_v ga68
  have S_UPPER : Sta s s.heap "com/example/deft_orm/deftorm/engine/QueryTree$Function$Name" "UPPER" "Lcom/example/deft_orm/deftorm/engine/QueryTree$Function$Name;" (.ref a_UPPER) := Sta.start ev_UPPER (Or.inr ⟨(hw _ (List.mem_of_getElem? (i := 6) rfl)), (hw _ (List.mem_of_getElem? (i := 34) rfl))⟩)
  have E_UPPER : Exa s s.heap a_UPPER "com/example/deft_orm/deftorm/engine/QueryTree$Function$Name" := Exa.start ev_UPPER ga68
  obtain ⟨a_SQRT, ev_SQRT⟩ := exa_v ga71
  have S_SQRT : Sta s s.heap "com/example/deft_orm/deftorm/engine/QueryTree$Function$Name" "SQRT" "Lcom/example/deft_orm/deftorm/engine/QueryTree$Function$Name;" (.ref a_SQRT) := Sta.start ev_SQRT (Or.inr ⟨(hw _ (List.mem_of_getElem? (i := 6) rfl)), (hw _ (List.mem_of_getElem? (i := 36) rfl))⟩)
  have E_SQRT : Exa s s.heap a_SQRT "com/example/deft_orm/deftorm/engine/QueryTree$Function$Name" := Exa.start ev_SQRT ga71
  obtain ⟨a_POWER, ev_POWER⟩ := exa_v ga73
  have S_POWER : Sta s s.heap "com/example/deft_orm/deftorm/engine/QueryTree$Function$Name" "POWER" "Lcom/example/deft_orm/deftorm/engine/QueryTree$Function$Name;" (.ref a_POWER) := Sta.start ev_POWER (Or.inr ⟨(hw _ (List.mem_of_getElem? (i := 6) rfl)), (hw _ (List.mem_of_getElem? (i := 38) rfl))⟩)
  have E_POWER : Exa s s.heap a_POWER "com/example/deft_orm/deftorm/engine/QueryTree$Function$Name" := Exa.start ev_POWER ga73
  obtain ⟨a_EXP, ev_EXP⟩ := exa_v ga76
  have S_EXP : Sta s s.heap "com/example/deft_orm/deftorm/engine/QueryTree$Function$Name" "EXP" "Lcom/example/deft_orm/deftorm/engine/QueryTree$Function$Name;" (.ref a_EXP) := Sta.start ev_EXP (Or.inr ⟨(hw _ (List.mem_of_getElem? (i := 6) rfl)), (hw _ (List.mem_of_getElem? (i := 40) rfl))⟩)
  have E_EXP : Exa s s.heap a_EXP "com/example/deft_orm/deftorm/engine/QueryTree$Function$Name" := Exa.start ev_EXP ga76
  obtain ⟨a_COALESCE, ev_COALESCE⟩ := exa_v ga79
  have S_COALESCE : Sta s s.heap "com/example/deft_orm/deftorm/engine/QueryTree$Function$Name" "COALESCE" "Lcom/example/deft_orm/deftorm/engine/QueryTree$Function$Name;" (.ref a_COALESCE) := Sta.start ev_COALESCE (Or.inr ⟨(hw _ (List.mem_of_getElem? (i := 6) rfl)), (hw _ (List.mem_of_getElem? (i := 42) rfl))⟩)
  have E_COALESCE : Exa s s.heap a_COALESCE "com/example/deft_orm/deftorm/engine/QueryTree$Function$Name" := Exa.start ev_COALESCE ga79
  obtain ⟨a_MOD, ev_MOD⟩ := exa_v ga81
  have S_MOD : Sta s s.heap "com/example/deft_orm/deftorm/engine/QueryTree$Function$Name" "MOD" "Lcom/example/deft_orm/deftorm/engine/QueryTree$Function$Name;" (.ref a_MOD) := Sta.start ev_MOD (Or.inr ⟨(hw _ (List.mem_of_getElem? (i := 6) rfl)), (hw _ (List.mem_of_getElem? (i := 44) rfl))⟩)
  have E_MOD : Exa s s.heap a_MOD "com/example/deft_orm/deftorm/engine/QueryTree$Function$Name" := Exa.start ev_MOD ga81
  obtain ⟨a_LOCAL_TIME, ev_LOCAL_TIME⟩ := exa_v ga85
  have S_LOCAL_TIME : Sta s s.heap "com/example/deft_orm/deftorm/engine/QueryTree$Function$Name" "LOCAL_TIME" "Lcom/example/deft_orm/deftorm/engine/QueryTree$Function$Name;" (.ref a_LOCAL_TIME) := Sta.start ev_LOCAL_TIME (Or.inr ⟨(hw _ (List.mem_of_getElem? (i := 6) rfl)), (hw _ (List.mem_of_getElem? (i := 46) rfl))⟩)
  have E_LOCAL_TIME : Exa s s.heap a_LOCAL_TIME "com/example/deft_orm/deftorm/engine/QueryTree$Function$Name" := Exa.start ev_LOCAL_TIME ga85
  obtain ⟨a_FLOOR, ev_FLOOR⟩ := exa_v ga88
  have S_FLOOR : Sta s s.heap "com/example/deft_orm/deftorm/engine/QueryTree$Function$Name" "FLOOR" "Lcom/example/deft_orm/deftorm/engine/QueryTree$Function$Name;" (.ref a_FLOOR) := Sta.start ev_FLOOR (Or.inr ⟨(hw _ (List.mem_of_getElem? (i := 6) rfl)), (hw _ (List.mem_of_getElem? (i := 48) rfl))⟩)
  have E_FLOOR : Exa s s.heap a_FLOOR "com/example/deft_orm/deftorm/engine/QueryTree$Function$Name" := Exa.start ev_FLOOR ga88
  obtain ⟨a_LN, ev_LN⟩ := exa_v ga91
  have S_LN : Sta s s.heap "com/example/deft_orm/deftorm/engine/QueryTree$Function$Name" "LN" "Lcom/example/deft_orm/deftorm/engine/QueryTree$Function$Name;" (.ref a_LN) := Sta.start ev_LN (Or.inr ⟨(hw _ (List.mem_of_getElem? (i := 6) rfl)), (hw _ (List.mem_of_getElem? (i := 50) rfl))⟩)
  have E_LN : Exa s s.heap a_LN "com/example/deft_orm/deftorm/engine/QueryTree$Function$Name" := Exa.start ev_LN ga91
  obtain ⟨a_LEFT, ev_LEFT⟩ := exa_v ga94
  have S_LEFT : Sta s s.heap "com/example/deft_orm/deftorm/engine/QueryTree$Function$Name" "LEFT" "Lcom/example/deft_orm/deftorm/engine/QueryTree$Function$Name;" (.ref a_LEFT) := Sta.start ev_LEFT (Or.inr ⟨(hw _ (List.mem_of_getElem? (i := 6) rfl)), (hw _ (List.mem_of_getElem? (i := 52) rfl))⟩)
  have E_LEFT : Exa s s.heap a_LEFT "com/example/deft_orm/deftorm/engine/QueryTree$Function$Name" := Exa.start ev_LEFT ga94
  obtain ⟨a_LOCATE, ev_LOCATE⟩ := exa_v ga97
  have S_LOCATE : Sta s s.heap "com/example/deft_orm/deftorm/engine/QueryTree$Function$Name" "LOCATE" "Lcom/example/deft_orm/deftorm/engine/QueryTree$Function$Name;" (.ref a_LOCATE) := Sta.start ev_LOCATE (Or.inr ⟨(hw _ (List.mem_of_getElem? (i := 6) rfl)), (hw _ (List.mem_of_getElem? (i := 54) rfl))⟩)
  have E_LOCATE : Exa s s.heap a_LOCATE "com/example/deft_orm/deftorm/engine/QueryTree$Function$Name" := Exa.start ev_LOCATE ga97
  obtain ⟨a_ROUND, ev_ROUND⟩ := exa_v ga100
  have S_ROUND : Sta s s.heap "com/example/deft_orm/deftorm/engine/QueryTree$Function$Name" "ROUND" "Lcom/example/deft_orm/deftorm/engine/QueryTree$Function$Name;" (.ref a_ROUND) := Sta.start ev_ROUND (Or.inr ⟨(hw _ (List.mem_of_getElem? (i := 6) rfl)), (hw _ (List.mem_of_getElem? (i := 56) rfl))⟩)
  have E_ROUND : Exa s s.heap a_ROUND "com/example/deft_orm/deftorm/engine/QueryTree$Function$Name" := Exa.start ev_ROUND ga100
  obtain ⟨a_NULLIF, ev_NULLIF⟩ := exa_v ga103
  have S_NULLIF : Sta s s.heap "com/example/deft_orm/deftorm/engine/QueryTree$Function$Name" "NULLIF" "Lcom/example/deft_orm/deftorm/engine/QueryTree$Function$Name;" (.ref a_NULLIF) := Sta.start ev_NULLIF (Or.inr ⟨(hw _ (List.mem_of_getElem? (i := 6) rfl)), (hw _ (List.mem_of_getElem? (i := 58) rfl))⟩)
  have E_NULLIF : Exa s s.heap a_NULLIF "com/example/deft_orm/deftorm/engine/QueryTree$Function$Name" := Exa.start ev_NULLIF ga103
  obtain ⟨a_LOCAL_DATETIME, ev_LOCAL_DATETIME⟩ := exa_v ga105
  have S_LOCAL_DATETIME : Sta s s.heap "com/example/deft_orm/deftorm/engine/QueryTree$Function$Name" "LOCAL_DATETIME" "Lcom/example/deft_orm/deftorm/engine/QueryTree$Function$Name;" (.ref a_LOCAL_DATETIME) := Sta.start ev_LOCAL_DATETIME (Or.inr ⟨(hw _ (List.mem_of_getElem? (i := 6) rfl)), (hw _ (List.mem_of_getElem? (i := 60) rfl))⟩)
  have E_LOCAL_DATETIME : Exa s s.heap a_LOCAL_DATETIME "com/example/deft_orm/deftorm/engine/QueryTree$Function$Name" := Exa.start ev_LOCAL_DATETIME ga105
  obtain ⟨a_ABS, ev_ABS⟩ := exa_v ga108
  have S_ABS : Sta s s.heap "com/example/deft_orm/deftorm/engine/QueryTree$Function$Name" "ABS" "Lcom/example/deft_orm/deftorm/engine/QueryTree$Function$Name;" (.ref a_ABS) := Sta.start ev_ABS (Or.inr ⟨(hw _ (List.mem_of_getElem? (i := 6) rfl)), (hw _ (List.mem_of_getElem? (i := 62) rfl))⟩)
  have E_ABS : Exa s s.heap a_ABS "com/example/deft_orm/deftorm/engine/QueryTree$Function$Name" := Exa.start ev_ABS ga108
  obtain ⟨a_LENGTH, ev_LENGTH⟩ := exa_v ga111
  have S_LENGTH : Sta s s.heap "com/example/deft_orm/deftorm/engine/QueryTree$Function$Name" "LENGTH" "Lcom/example/deft_orm/deftorm/engine/QueryTree$Function$Name;" (.ref a_LENGTH) := Sta.start ev_LENGTH (Or.inr ⟨(hw _ (List.mem_of_getElem? (i := 6) rfl)), (hw _ (List.mem_of_getElem? (i := 64) rfl))⟩)
  have E_LENGTH : Exa s s.heap a_LENGTH "com/example/deft_orm/deftorm/engine/QueryTree$Function$Name" := Exa.start ev_LENGTH ga111
  obtain ⟨a_CEILING, ev_CEILING⟩ := exa_v ga114
  have S_CEILING : Sta s s.heap "com/example/deft_orm/deftorm/engine/QueryTree$Function$Name" "CEILING" "Lcom/example/deft_orm/deftorm/engine/QueryTree$Function$Name;" (.ref a_CEILING) := Sta.start ev_CEILING (Or.inr ⟨(hw _ (List.mem_of_getElem? (i := 6) rfl)), (hw _ (List.mem_of_getElem? (i := 66) rfl))⟩)
  have E_CEILING : Exa s s.heap a_CEILING "com/example/deft_orm/deftorm/engine/QueryTree$Function$Name" := Exa.start ev_CEILING ga114
  obtain ⟨a_CURRENT_DATE, ev_CURRENT_DATE⟩ := exa_v ga117
  have S_CURRENT_DATE : Sta s s.heap "com/example/deft_orm/deftorm/engine/QueryTree$Function$Name" "CURRENT_DATE" "Lcom/example/deft_orm/deftorm/engine/QueryTree$Function$Name;" (.ref a_CURRENT_DATE) := Sta.start ev_CURRENT_DATE (Or.inr ⟨(hw _ (List.mem_of_getElem? (i := 6) rfl)), (hw _ (List.mem_of_getElem? (i := 68) rfl))⟩)
  have E_CURRENT_DATE : Exa s s.heap a_CURRENT_DATE "com/example/deft_orm/deftorm/engine/QueryTree$Function$Name" := Exa.start ev_CURRENT_DATE ga117
  obtain ⟨a_CURRENT_TIMESTAMP, ev_CURRENT_TIMESTAMP⟩ := exa_v ga121
  have S_CURRENT_TIMESTAMP : Sta s s.heap "com/example/deft_orm/deftorm/engine/QueryTree$Function$Name" "CURRENT_TIMESTAMP" "Lcom/example/deft_orm/deftorm/engine/QueryTree$Function$Name;" (.ref a_CURRENT_TIMESTAMP) := Sta.start ev_CURRENT_TIMESTAMP (Or.inr ⟨(hw _ (List.mem_of_getElem? (i := 6) rfl)), (hw _ (List.mem_of_getElem? (i := 70) rfl))⟩)
  have E_CURRENT_TIMESTAMP : Exa s s.heap a_CURRENT_TIMESTAMP "com/example/deft_orm/deftorm/engine/QueryTree$Function$Name" := Exa.start ev_CURRENT_TIMESTAMP ga121
  obtain ⟨a_CURRENT_TIME, ev_CURRENT_TIME⟩ := exa_v ga124
  have S_CURRENT_TIME : Sta s s.heap "com/example/deft_orm/deftorm/engine/QueryTree$Function$Name" "CURRENT_TIME" "Lcom/example/deft_orm/deftorm/engine/QueryTree$Function$Name;" (.ref a_CURRENT_TIME) := Sta.start ev_CURRENT_TIME (Or.inr ⟨(hw _ (List.mem_of_getElem? (i := 6) rfl)), (hw _ (List.mem_of_getElem? (i := 72) rfl))⟩)
  have E_CURRENT_TIME : Exa s s.heap a_CURRENT_TIME "com/example/deft_orm/deftorm/engine/QueryTree$Function$Name" := Exa.start ev_CURRENT_TIME ga124
  obtain ⟨a_SIGN, ev_SIGN⟩ := exa_v ga127
  have S_SIGN : Sta s s.heap "com/example/deft_orm/deftorm/engine/QueryTree$Function$Name" "SIGN" "Lcom/example/deft_orm/deftorm/engine/QueryTree$Function$Name;" (.ref a_SIGN) := Sta.start ev_SIGN (Or.inr ⟨(hw _ (List.mem_of_getElem? (i := 6) rfl)), (hw _ (List.mem_of_getElem? (i := 74) rfl))⟩)
  have E_SIGN : Exa s s.heap a_SIGN "com/example/deft_orm/deftorm/engine/QueryTree$Function$Name" := Exa.start ev_SIGN ga127
  have F_CONCAT : Fld s s.heap a_CONCAT "com/example/deft_orm/deftorm/engine/QueryTree$Function$Name" "fewest" "I" (.int (2 : Int32)) := own_fldI ev_CONCAT ga52
  have G_CONCAT : Fld s s.heap a_CONCAT "com/example/deft_orm/deftorm/engine/QueryTree$Function$Name" "most" "I" (.int (2147483647 : Int32)) := own_fldI ev_CONCAT ga53
  have F_SUBSTRING : Fld s s.heap a_SUBSTRING "com/example/deft_orm/deftorm/engine/QueryTree$Function$Name" "fewest" "I" (.int (2 : Int32)) := own_fldI ev_SUBSTRING ga55
  have G_SUBSTRING : Fld s s.heap a_SUBSTRING "com/example/deft_orm/deftorm/engine/QueryTree$Function$Name" "most" "I" (.int (3 : Int32)) := own_fldI ev_SUBSTRING ga56
  have F_LOWER : Fld s s.heap a_LOWER "com/example/deft_orm/deftorm/engine/QueryTree$Function$Name" "fewest" "I" (.int (1 : Int32)) := own_fldI ev_LOWER ga58
  have G_LOWER : Fld s s.heap a_LOWER "com/example/deft_orm/deftorm/engine/QueryTree$Function$Name" "most" "I" (.int (1 : Int32)) := own_fldI ev_LOWER ga59
  have F_REPLACE : Fld s s.heap a_REPLACE "com/example/deft_orm/deftorm/engine/QueryTree$Function$Name" "fewest" "I" (.int (3 : Int32)) := own_fldI ev_REPLACE ga61
  have G_REPLACE : Fld s s.heap a_REPLACE "com/example/deft_orm/deftorm/engine/QueryTree$Function$Name" "most" "I" (.int (3 : Int32)) := own_fldI ev_REPLACE ga62
  have F_LOCAL_DATE : Fld s s.heap a_LOCAL_DATE "com/example/deft_orm/deftorm/engine/QueryTree$Function$Name" "fewest" "I" (.int (0 : Int32)) := own_fldI ev_LOCAL_DATE ga64
  have G_LOCAL_DATE : Fld s s.heap a_LOCAL_DATE "com/example/deft_orm/deftorm/engine/QueryTree$Function$Name" "most" "I" (.int (0 : Int32)) := own_fldI ev_LOCAL_DATE ga65
  have F_RIGHT : Fld s s.heap a_RIGHT "com/example/deft_orm/deftorm/engine/QueryTree$Function$Name" "fewest" "I" (.int (2 : Int32)) := own_fldI ev_RIGHT ga67
  have F_UPPER : Fld s s.heap a_UPPER "com/example/deft_orm/deftorm/engine/QueryTree$Function$Name" "fewest" "I" (.int (1 : Int32)) := own_fldI ev_UPPER ga69
  have G_UPPER : Fld s s.heap a_UPPER "com/example/deft_orm/deftorm/engine/QueryTree$Function$Name" "most" "I" (.int (1 : Int32)) := own_fldI ev_UPPER ga70
  have F_SQRT : Fld s s.heap a_SQRT "com/example/deft_orm/deftorm/engine/QueryTree$Function$Name" "fewest" "I" (.int (1 : Int32)) := own_fldI ev_SQRT ga72
  have F_POWER : Fld s s.heap a_POWER "com/example/deft_orm/deftorm/engine/QueryTree$Function$Name" "fewest" "I" (.int (2 : Int32)) := own_fldI ev_POWER ga74
  have G_POWER : Fld s s.heap a_POWER "com/example/deft_orm/deftorm/engine/QueryTree$Function$Name" "most" "I" (.int (2 : Int32)) := own_fldI ev_POWER ga75
  have F_EXP : Fld s s.heap a_EXP "com/example/deft_orm/deftorm/engine/QueryTree$Function$Name" "fewest" "I" (.int (1 : Int32)) := own_fldI ev_EXP ga77
  have G_EXP : Fld s s.heap a_EXP "com/example/deft_orm/deftorm/engine/QueryTree$Function$Name" "most" "I" (.int (1 : Int32)) := own_fldI ev_EXP ga78
  have F_COALESCE : Fld s s.heap a_COALESCE "com/example/deft_orm/deftorm/engine/QueryTree$Function$Name" "fewest" "I" (.int (2 : Int32)) := own_fldI ev_COALESCE ga80
  have F_MOD : Fld s s.heap a_MOD "com/example/deft_orm/deftorm/engine/QueryTree$Function$Name" "fewest" "I" (.int (2 : Int32)) := own_fldI ev_MOD ga82
  have G_MOD : Fld s s.heap a_MOD "com/example/deft_orm/deftorm/engine/QueryTree$Function$Name" "most" "I" (.int (2 : Int32)) := own_fldI ev_MOD ga83
  have G_SQRT : Fld s s.heap a_SQRT "com/example/deft_orm/deftorm/engine/QueryTree$Function$Name" "most" "I" (.int (1 : Int32)) := own_fldI ev_SQRT ga84
  have F_LOCAL_TIME : Fld s s.heap a_LOCAL_TIME "com/example/deft_orm/deftorm/engine/QueryTree$Function$Name" "fewest" "I" (.int (0 : Int32)) := own_fldI ev_LOCAL_TIME ga86
  have G_LOCAL_TIME : Fld s s.heap a_LOCAL_TIME "com/example/deft_orm/deftorm/engine/QueryTree$Function$Name" "most" "I" (.int (0 : Int32)) := own_fldI ev_LOCAL_TIME ga87
  have F_FLOOR : Fld s s.heap a_FLOOR "com/example/deft_orm/deftorm/engine/QueryTree$Function$Name" "fewest" "I" (.int (1 : Int32)) := own_fldI ev_FLOOR ga89
  have G_FLOOR : Fld s s.heap a_FLOOR "com/example/deft_orm/deftorm/engine/QueryTree$Function$Name" "most" "I" (.int (1 : Int32)) := own_fldI ev_FLOOR ga90
  have F_LN : Fld s s.heap a_LN "com/example/deft_orm/deftorm/engine/QueryTree$Function$Name" "fewest" "I" (.int (1 : Int32)) := own_fldI ev_LN ga92
  have G_LN : Fld s s.heap a_LN "com/example/deft_orm/deftorm/engine/QueryTree$Function$Name" "most" "I" (.int (1 : Int32)) := own_fldI ev_LN ga93
  have F_LEFT : Fld s s.heap a_LEFT "com/example/deft_orm/deftorm/engine/QueryTree$Function$Name" "fewest" "I" (.int (2 : Int32)) := own_fldI ev_LEFT ga95
  have G_LEFT : Fld s s.heap a_LEFT "com/example/deft_orm/deftorm/engine/QueryTree$Function$Name" "most" "I" (.int (2 : Int32)) := own_fldI ev_LEFT ga96
  have F_LOCATE : Fld s s.heap a_LOCATE "com/example/deft_orm/deftorm/engine/QueryTree$Function$Name" "fewest" "I" (.int (2 : Int32)) := own_fldI ev_LOCATE ga98
  have G_LOCATE : Fld s s.heap a_LOCATE "com/example/deft_orm/deftorm/engine/QueryTree$Function$Name" "most" "I" (.int (3 : Int32)) := own_fldI ev_LOCATE ga99
  have F_ROUND : Fld s s.heap a_ROUND "com/example/deft_orm/deftorm/engine/QueryTree$Function$Name" "fewest" "I" (.int (2 : Int32)) := own_fldI ev_ROUND ga101
  have G_ROUND : Fld s s.heap a_ROUND "com/example/deft_orm/deftorm/engine/QueryTree$Function$Name" "most" "I" (.int (2 : Int32)) := own_fldI ev_ROUND ga102
  have F_NULLIF : Fld s s.heap a_NULLIF "com/example/deft_orm/deftorm/engine/QueryTree$Function$Name" "fewest" "I" (.int (2 : Int32)) := own_fldI ev_NULLIF ga104
  have F_LOCAL_DATETIME : Fld s s.heap a_LOCAL_DATETIME "com/example/deft_orm/deftorm/engine/QueryTree$Function$Name" "fewest" "I" (.int (0 : Int32)) := own_fldI ev_LOCAL_DATETIME ga106
  have G_LOCAL_DATETIME : Fld s s.heap a_LOCAL_DATETIME "com/example/deft_orm/deftorm/engine/QueryTree$Function$Name" "most" "I" (.int (0 : Int32)) := own_fldI ev_LOCAL_DATETIME ga107
  have F_ABS : Fld s s.heap a_ABS "com/example/deft_orm/deftorm/engine/QueryTree$Function$Name" "fewest" "I" (.int (1 : Int32)) := own_fldI ev_ABS ga109
  have G_ABS : Fld s s.heap a_ABS "com/example/deft_orm/deftorm/engine/QueryTree$Function$Name" "most" "I" (.int (1 : Int32)) := own_fldI ev_ABS ga110
  have F_LENGTH : Fld s s.heap a_LENGTH "com/example/deft_orm/deftorm/engine/QueryTree$Function$Name" "fewest" "I" (.int (1 : Int32)) := own_fldI ev_LENGTH ga112
  have G_LENGTH : Fld s s.heap a_LENGTH "com/example/deft_orm/deftorm/engine/QueryTree$Function$Name" "most" "I" (.int (1 : Int32)) := own_fldI ev_LENGTH ga113
  have F_CEILING : Fld s s.heap a_CEILING "com/example/deft_orm/deftorm/engine/QueryTree$Function$Name" "fewest" "I" (.int (1 : Int32)) := own_fldI ev_CEILING ga115
  have G_CEILING : Fld s s.heap a_CEILING "com/example/deft_orm/deftorm/engine/QueryTree$Function$Name" "most" "I" (.int (1 : Int32)) := own_fldI ev_CEILING ga116
  have F_CURRENT_DATE : Fld s s.heap a_CURRENT_DATE "com/example/deft_orm/deftorm/engine/QueryTree$Function$Name" "fewest" "I" (.int (0 : Int32)) := own_fldI ev_CURRENT_DATE ga118
  have G_CURRENT_DATE : Fld s s.heap a_CURRENT_DATE "com/example/deft_orm/deftorm/engine/QueryTree$Function$Name" "most" "I" (.int (0 : Int32)) := own_fldI ev_CURRENT_DATE ga119
  have G_RIGHT : Fld s s.heap a_RIGHT "com/example/deft_orm/deftorm/engine/QueryTree$Function$Name" "most" "I" (.int (2 : Int32)) := own_fldI ev_RIGHT ga120
  have F_CURRENT_TIMESTAMP : Fld s s.heap a_CURRENT_TIMESTAMP "com/example/deft_orm/deftorm/engine/QueryTree$Function$Name" "fewest" "I" (.int (0 : Int32)) := own_fldI ev_CURRENT_TIMESTAMP ga122
  have G_NULLIF : Fld s s.heap a_NULLIF "com/example/deft_orm/deftorm/engine/QueryTree$Function$Name" "most" "I" (.int (2 : Int32)) := own_fldI ev_NULLIF ga123
  have F_CURRENT_TIME : Fld s s.heap a_CURRENT_TIME "com/example/deft_orm/deftorm/engine/QueryTree$Function$Name" "fewest" "I" (.int (0 : Int32)) := own_fldI ev_CURRENT_TIME ga125
  have G_CURRENT_TIME : Fld s s.heap a_CURRENT_TIME "com/example/deft_orm/deftorm/engine/QueryTree$Function$Name" "most" "I" (.int (0 : Int32)) := own_fldI ev_CURRENT_TIME ga126
  have F_SIGN : Fld s s.heap a_SIGN "com/example/deft_orm/deftorm/engine/QueryTree$Function$Name" "fewest" "I" (.int (1 : Int32)) := own_fldI ev_SIGN ga128
  have G_SIGN : Fld s s.heap a_SIGN "com/example/deft_orm/deftorm/engine/QueryTree$Function$Name" "most" "I" (.int (1 : Int32)) := own_fldI ev_SIGN ga129
  have G_COALESCE : Fld s s.heap a_COALESCE "com/example/deft_orm/deftorm/engine/QueryTree$Function$Name" "most" "I" (.int (2147483647 : Int32)) := own_fldI ev_COALESCE ga130
  have G_CURRENT_TIMESTAMP : Fld s s.heap a_CURRENT_TIMESTAMP "com/example/deft_orm/deftorm/engine/QueryTree$Function$Name" "most" "I" (.int (0 : Int32)) := own_fldI ev_CURRENT_TIMESTAMP gb130
  have hA : All s s.heap := ⟨⟨a_CONCAT, S_CONCAT, E_CONCAT, F_CONCAT, G_CONCAT⟩, ⟨a_SUBSTRING, S_SUBSTRING, E_SUBSTRING, F_SUBSTRING, G_SUBSTRING⟩, ⟨a_LOWER, S_LOWER, E_LOWER, F_LOWER, G_LOWER⟩, ⟨a_UPPER, S_UPPER, E_UPPER, F_UPPER, G_UPPER⟩, ⟨a_LENGTH, S_LENGTH, E_LENGTH, F_LENGTH, G_LENGTH⟩, ⟨a_LOCATE, S_LOCATE, E_LOCATE, F_LOCATE, G_LOCATE⟩, ⟨a_LEFT, S_LEFT, E_LEFT, F_LEFT, G_LEFT⟩, ⟨a_RIGHT, S_RIGHT, E_RIGHT, F_RIGHT, G_RIGHT⟩, ⟨a_REPLACE, S_REPLACE, E_REPLACE, F_REPLACE, G_REPLACE⟩, ⟨a_ABS, S_ABS, E_ABS, F_ABS, G_ABS⟩, ⟨a_SQRT, S_SQRT, E_SQRT, F_SQRT, G_SQRT⟩, ⟨a_MOD, S_MOD, E_MOD, F_MOD, G_MOD⟩, ⟨a_CEILING, S_CEILING, E_CEILING, F_CEILING, G_CEILING⟩, ⟨a_FLOOR, S_FLOOR, E_FLOOR, F_FLOOR, G_FLOOR⟩, ⟨a_ROUND, S_ROUND, E_ROUND, F_ROUND, G_ROUND⟩, ⟨a_SIGN, S_SIGN, E_SIGN, F_SIGN, G_SIGN⟩, ⟨a_POWER, S_POWER, E_POWER, F_POWER, G_POWER⟩, ⟨a_EXP, S_EXP, E_EXP, F_EXP, G_EXP⟩, ⟨a_LN, S_LN, E_LN, F_LN, G_LN⟩, ⟨a_COALESCE, S_COALESCE, E_COALESCE, F_COALESCE, G_COALESCE⟩, ⟨a_NULLIF, S_NULLIF, E_NULLIF, F_NULLIF, G_NULLIF⟩, ⟨a_CURRENT_DATE, S_CURRENT_DATE, E_CURRENT_DATE, F_CURRENT_DATE, G_CURRENT_DATE⟩, ⟨a_CURRENT_TIME, S_CURRENT_TIME, E_CURRENT_TIME, F_CURRENT_TIME, G_CURRENT_TIME⟩, ⟨a_CURRENT_TIMESTAMP, S_CURRENT_TIMESTAMP, E_CURRENT_TIMESTAMP, F_CURRENT_TIMESTAMP, G_CURRENT_TIMESTAMP⟩, ⟨a_LOCAL_DATE, S_LOCAL_DATE, E_LOCAL_DATE, F_LOCAL_DATE, G_LOCAL_DATE⟩, ⟨a_LOCAL_TIME, S_LOCAL_TIME, E_LOCAL_TIME, F_LOCAL_TIME, G_LOCAL_TIME⟩, ⟨a_LOCAL_DATETIME, S_LOCAL_DATETIME, E_LOCAL_DATETIME, F_LOCAL_DATETIME, G_LOCAL_DATETIME⟩⟩
  obtain ⟨n, o, h1, h2, h3, _, L, rfl, ⟨rfl, N⟩, hq⟩ := rm_law l s _ hw tables_1 i0 i1 i2 s.heap s.heap.size (Nat.le_refl _) hA p e ha hc hk s m _ below hf ((Spec.applies_iff_loose hf).mp happ).1 ⟨rfl, State.Warmed39.refl s, rfl⟩ trivial
  refine ⟨n, _, h1, h2, h3, hpost _ _ _ _ _ _ ⟨Cond.after_iff.mpr rfl, Cond.after_iff.mpr (eq_i res_at (Term.int_eval (1)) rfl), trivial⟩ ⟨hq.1, hq.2.1, (hq.2.2.sift fun y hy => Or.inr (N y hy)).mono (by decide) (by decide)⟩⟩
theorem main_1_1 : Claimed_1_1 := comes_1 fun _ _ _ _ _ _ h hF => ⟨h.1, hF⟩
theorem main_1_2 : Claimed_1_2 := comes_1 fun _ _ _ _ _ _ h hF => ⟨h.2.1, hF⟩
end Jvm.Pilot.@@N@@
namespace Jvm.Pilot.@@N@@
open Jvm Jvm.ClassFile Sem Op Lib Jvm.Free Jvm.Stand Jvm.Pilot.@@N@@.Jvm.D
/-! MADE BY PROGRAM (witnessworld.py) out of the Statement's table words and the real class files: 12 classes; the members and pool entries that the words name. The judged class is class 1, her method 4. -/
namespace start1
open Jvm.ClassFile
def u (s : String) : CpInfo := .utf8 (stringToUtf16 s)
/-- a pool by its gaps: so many unusable entries, then the entry; so many at the end -/
def gap : Nat → List CpInfo → List CpInfo
  | 0, r => r
  | n + 1, r => .unusable :: gap n r
def poolList (es : List (Nat × CpInfo)) (last : Nat) : List CpInfo := es.foldr (fun e r => gap e.1 (e.2 :: r)) (gap last [])
def pool (es : List (Nat × CpInfo)) (last : Nat) : Array CpInfo := ⟨poolList es last⟩
def fileOf (pool : Array CpInfo) (this : Nat) (attrs : Array Attribute := #[]) (ms : Array MethodInfo := #[]) (fl : Nat := 33) (sup : Nat := 0) (ifs : Array Nat := #[]) (fds : Array FieldInfo := #[]) : ClassFile where
  minorVersion := 0
  majorVersion := 65
  constantPool := pool
  accessFlags := fl
  thisClass := this
  superClass := sup
  interfaces := ifs
  fields := fds
  methods := ms
  attributes := attrs
def plain (name : String) (sup : Option ClassId) : Class where
  name := name
  kind := .ordinary
  loader := none
  accessFlags := 33
  super := sup
  interfaces := #[]
  cf := none
  fields := #[]
  methods := #[]
  instanceTypes := #[]
  staticTypes := #[]
  resolved := #[]
  callSites := []
  init := .initialized
  statics := none
  mirror := none

def pool0 : Array CpInfo := pool [(5, u "<init>"), (0, u "()V"), (1, .class_ 10), (1, u "java/lang/Object")] 113

def k0m0 : Method := { name := "<init>", desc := "()V", sig := { parameters := [], returnType := none }, accessFlags := 1, code := none }
/-- java/lang/Object -/
def k0 : Class := { plain "java/lang/Object" none with
  accessFlags := 33
  interfaces := #[]
  cf := some (fileOf pool0 8 #[] #[{ accessFlags := 1, nameIndex := 5, descriptorIndex := 6, attributes := #[] }] 33 0 #[] #[])
  fields := #[]
  methods := #[k0m0]
  instanceTypes := #[]
  staticTypes := #[]
  resolved := Array.replicate 124 none
  statics := none }

def pool1 : Array CpInfo := pool [(2, .class_ 4), (1, u "java/lang/Object"), (0, u "<init>"), (0, u "()V"), (0, .fieldref 8 9), (0, .class_ 10), (0, .nameAndType 11 12), (0, u "com/example/deft_orm/deftorm/engine/QueryTree$Function$Name"), (0, u "CONCAT"), (0, u "Lcom/example/deft_orm/deftorm/engine/QueryTree$Function$Name;"), (0, .fieldref 8 14), (0, .nameAndType 15 12), (0, u "SUBSTRING"), (0, .fieldref 8 17), (0, .nameAndType 18 12), (0, u "LOWER"), (0, .fieldref 8 20), (0, .nameAndType 21 12), (0, u "UPPER"), (0, .fieldref 8 23), (0, .nameAndType 24 12), (0, u "LENGTH"), (0, .fieldref 8 26), (0, .nameAndType 27 12), (0, u "LOCATE"), (0, .fieldref 8 29), (0, .nameAndType 30 12), (0, u "LEFT"), (0, .fieldref 8 32), (0, .nameAndType 33 12), (0, u "RIGHT"), (0, .fieldref 8 35), (0, .nameAndType 36 12), (0, u "REPLACE"), (0, .fieldref 8 38), (0, .nameAndType 39 12), (0, u "ABS"), (0, .fieldref 8 41), (0, .nameAndType 42 12), (0, u "SQRT"), (0, .fieldref 8 44), (0, .nameAndType 45 12), (0, u "MOD"), (0, .fieldref 8 47), (0, .nameAndType 48 12), (0, u "CEILING"), (0, .fieldref 8 50), (0, .nameAndType 51 12), (0, u "FLOOR"), (0, .fieldref 8 53), (0, .nameAndType 54 12), (0, u "ROUND"), (0, .fieldref 8 56), (0, .nameAndType 57 12), (0, u "SIGN"), (0, .fieldref 8 59), (0, .nameAndType 60 12), (0, u "POWER"), (0, .fieldref 8 62), (0, .nameAndType 63 12), (0, u "EXP"), (0, .fieldref 8 65), (0, .nameAndType 66 12), (0, u "LN"), (0, .fieldref 8 68), (0, .nameAndType 69 12), (0, u "COALESCE"), (0, .fieldref 8 71), (0, .nameAndType 72 12), (0, u "NULLIF"), (0, .fieldref 8 74), (0, .nameAndType 75 12), (0, u "CURRENT_DATE"), (0, .fieldref 8 77), (0, .nameAndType 78 12), (0, u "CURRENT_TIME"), (0, .fieldref 8 80), (0, .nameAndType 81 12), (0, u "CURRENT_TIMESTAMP"), (0, .fieldref 8 83), (0, .nameAndType 84 12), (0, u "LOCAL_DATE"), (0, .fieldref 8 86), (0, .nameAndType 87 12), (0, u "LOCAL_TIME"), (0, .fieldref 8 89), (0, .nameAndType 90 12), (0, u "LOCAL_DATETIME"), (2, .integer 2147483647), (0, .methodref 95 96), (0, .class_ 97), (0, .nameAndType 98 99), (0, u "com/example/deft_orm/deftorm/engine/NameTakesPinLaw"), (0, u "fewest"), (0, u "(I)I"), (0, .methodref 95 101), (0, .nameAndType 102 103), (0, u "constant"), (0, u "(I)Lcom/example/deft_orm/deftorm/engine/QueryTree$Function$Name;"), (0, .methodref 95 105), (0, .nameAndType 106 99), (0, u "most"), (0, .methodref 8 108), (0, .nameAndType 109 110), (0, u "takes"), (0, u "(I)Z"), (3, u "law"), (0, u "(III)Z")] 9

def k1m0 : Method := { name := "<init>", desc := "()V", sig := { parameters := [], returnType := none }, accessFlags := 2, code := none }
def k1c1 : Code := { maxStack := 2, maxLocals := 1, code := method_2_code, exceptionTable := #[], attributes := #[] }
def k1m1 : Method := { name := "constant", desc := "(I)Lcom/example/deft_orm/deftorm/engine/QueryTree$Function$Name;", sig := { parameters := [.int], returnType := some (.object "com/example/deft_orm/deftorm/engine/QueryTree$Function$Name") }, accessFlags := 10, code := some k1c1 }
def k1c2 : Code := { maxStack := 2, maxLocals := 1, code := method_3_code, exceptionTable := #[], attributes := #[] }
def k1m2 : Method := { name := "fewest", desc := "(I)I", sig := { parameters := [.int], returnType := some .int }, accessFlags := 10, code := some k1c2 }
def k1c3 : Code := { maxStack := 2, maxLocals := 1, code := method_4_code, exceptionTable := #[], attributes := #[] }
def k1m3 : Method := { name := "most", desc := "(I)I", sig := { parameters := [.int], returnType := some .int }, accessFlags := 10, code := some k1c3 }
def k1c4 : Code := { maxStack := 4, maxLocals := 11, code := code, exceptionTable := #[], attributes := #[] }
def k1m4 : Method := { name := "law", desc := "(III)Z", sig := { parameters := [.int, .int, .int], returnType := some .boolean }, accessFlags := 9, code := some k1c4 }
/-- com/example/deft_orm/deftorm/engine/NameTakesPinLaw -/
def k1 : Class := { plain "com/example/deft_orm/deftorm/engine/NameTakesPinLaw" (some 0) with
  accessFlags := 49
  interfaces := #[]
  cf := some (fileOf pool1 95 #[] #[{ accessFlags := 2, nameIndex := 5, descriptorIndex := 6, attributes := #[] }, { accessFlags := 10, nameIndex := 102, descriptorIndex := 103, attributes := #[] }, { accessFlags := 10, nameIndex := 98, descriptorIndex := 99, attributes := #[] }, { accessFlags := 10, nameIndex := 106, descriptorIndex := 99, attributes := #[] }, { accessFlags := 9, nameIndex := 114, descriptorIndex := 115, attributes := #[] }] 49 2 #[] #[])
  fields := #[]
  methods := #[k1m0, k1m1, k1m2, k1m3, k1m4]
  instanceTypes := #[]
  staticTypes := #[]
  resolved := Array.replicate 125 none
  statics := none }

def pool2 : Array CpInfo := pool [(1, .class_ 2), (0, u "java/lang/constant/Constable"), (0, .class_ 4), (0, u "java/lang/Object")] 6

/-- java/lang/constant/Constable -/
def k2 : Class := { plain "java/lang/constant/Constable" (some 0) with
  accessFlags := 1537
  interfaces := #[]
  cf := some (fileOf pool2 1 #[] #[] 1537 3 #[] #[])
  fields := #[]
  methods := #[]
  instanceTypes := #[]
  staticTypes := #[]
  resolved := Array.replicate 11 none
  statics := none }

def pool3 : Array CpInfo := pool [(1, .class_ 2), (0, u "java/lang/Comparable"), (0, .class_ 4), (0, u "java/lang/Object")] 7

/-- java/lang/Comparable -/
def k3 : Class := { plain "java/lang/Comparable" (some 0) with
  accessFlags := 1537
  interfaces := #[]
  cf := some (fileOf pool3 1 #[] #[] 1537 3 #[] #[])
  fields := #[]
  methods := #[]
  instanceTypes := #[]
  staticTypes := #[]
  resolved := Array.replicate 12 none
  statics := none }

def pool4 : Array CpInfo := pool [(1, .class_ 2), (0, u "java/io/Serializable"), (0, .class_ 4), (0, u "java/lang/Object")] 2

/-- java/io/Serializable -/
def k4 : Class := { plain "java/io/Serializable" (some 0) with
  accessFlags := 1537
  interfaces := #[]
  cf := some (fileOf pool4 1 #[] #[] 1537 3 #[] #[])
  fields := #[]
  methods := #[]
  instanceTypes := #[]
  staticTypes := #[]
  resolved := Array.replicate 7 none
  statics := none }

def pool5 : Array CpInfo := pool [(2, .class_ 4), (1, u "java/lang/Enum"), (0, u "name"), (0, u "Ljava/lang/String;"), (2, u "ordinal"), (0, u "I"), (1, .class_ 14), (1, u "java/lang/Object"), (4, u "hash"), (86, .class_ 108), (1, u "java/lang/Enum$EnumDesc"), (2, .class_ 112), (0, u "java/lang/constant/Constable"), (0, .class_ 114), (0, u "java/lang/Comparable"), (0, .class_ 116), (0, u "java/io/Serializable")] 87

/-- java/lang/Enum -/
def k5 : Class := { plain "java/lang/Enum" (some 0) with
  accessFlags := 1057
  interfaces := #[2, 3, 4]
  cf := some (fileOf pool5 2 #[.nestMembers #[106]] #[] 1057 12 #[111, 113, 115] #[{ accessFlags := 18, nameIndex := 5, descriptorIndex := 6, attributes := #[] }, { accessFlags := 18, nameIndex := 9, descriptorIndex := 10, attributes := #[] }, { accessFlags := 2, nameIndex := 19, descriptorIndex := 10, attributes := #[] }])
  fields := #[{ name := "name", type := (.object "java/lang/String"), accessFlags := 18, slot := 0, constantValue := 0 }, { name := "ordinal", type := .int, accessFlags := 18, slot := 1, constantValue := 0 }, { name := "hash", type := .int, accessFlags := 2, slot := 2, constantValue := 0 }]
  methods := #[]
  instanceTypes := #[(.object "java/lang/String"), .int, .int]
  staticTypes := #[]
  resolved := Array.replicate 204 none
  statics := none }

def pool6 : Array CpInfo := pool [(1, .class_ 2), (0, u "com/example/deft_orm/deftorm/engine/QueryTree$Function$Name"), (2, u "CONCAT"), (0, u "Lcom/example/deft_orm/deftorm/engine/QueryTree$Function$Name;"), (2, u "SUBSTRING"), (2, u "LOWER"), (2, u "UPPER"), (2, u "LENGTH"), (2, u "LOCATE"), (2, u "LEFT"), (2, u "RIGHT"), (2, u "REPLACE"), (2, u "ABS"), (2, u "SQRT"), (2, u "MOD"), (2, u "CEILING"), (2, u "FLOOR"), (2, u "ROUND"), (2, u "SIGN"), (2, u "POWER"), (2, u "EXP"), (2, u "LN"), (2, u "COALESCE"), (2, u "NULLIF"), (2, u "CURRENT_DATE"), (2, u "CURRENT_TIME"), (2, u "CURRENT_TIMESTAMP"), (2, u "LOCAL_DATE"), (2, u "LOCAL_TIME"), (2, u "LOCAL_DATETIME"), (2, u "$VALUES"), (0, u "[Lcom/example/deft_orm/deftorm/engine/QueryTree$Function$Name;"), (6, .class_ 97), (1, u "java/lang/Enum"), (8, u "written"), (0, u "Ljava/lang/String;"), (0, .fieldref 1 109), (0, .nameAndType 110 111), (0, u "fewest"), (0, u "I"), (0, .fieldref 1 113), (0, .nameAndType 114 111), (0, u "most"), (110, u "takes"), (0, u "(I)Z"), (6, .class_ 234), (0, u "com/example/deft_orm/deftorm/engine/QueryTree")] 5

def k6c0 : Code := { maxStack := 2, maxLocals := 2, code := prog_48_method_6_code, exceptionTable := #[], attributes := #[] }
def k6m0 : Method := { name := "takes", desc := "(I)Z", sig := { parameters := [.int], returnType := some .boolean }, accessFlags := 0, code := some k6c0 }
/-- com/example/deft_orm/deftorm/engine/QueryTree$Function$Name -/
def k6 : Class := { plain "com/example/deft_orm/deftorm/engine/QueryTree$Function$Name" (some 5) with
  accessFlags := 16432
  interfaces := #[]
  cf := some (fileOf pool6 1 #[.nestHost 233] #[{ accessFlags := 0, nameIndex := 225, descriptorIndex := 226, attributes := #[] }] 16432 95 #[] #[{ accessFlags := 16409, nameIndex := 5, descriptorIndex := 6, attributes := #[] }, { accessFlags := 16409, nameIndex := 9, descriptorIndex := 6, attributes := #[] }, { accessFlags := 16409, nameIndex := 12, descriptorIndex := 6, attributes := #[] }, { accessFlags := 16409, nameIndex := 15, descriptorIndex := 6, attributes := #[] }, { accessFlags := 16409, nameIndex := 18, descriptorIndex := 6, attributes := #[] }, { accessFlags := 16409, nameIndex := 21, descriptorIndex := 6, attributes := #[] }, { accessFlags := 16409, nameIndex := 24, descriptorIndex := 6, attributes := #[] }, { accessFlags := 16409, nameIndex := 27, descriptorIndex := 6, attributes := #[] }, { accessFlags := 16409, nameIndex := 30, descriptorIndex := 6, attributes := #[] }, { accessFlags := 16409, nameIndex := 33, descriptorIndex := 6, attributes := #[] }, { accessFlags := 16409, nameIndex := 36, descriptorIndex := 6, attributes := #[] }, { accessFlags := 16409, nameIndex := 39, descriptorIndex := 6, attributes := #[] }, { accessFlags := 16409, nameIndex := 42, descriptorIndex := 6, attributes := #[] }, { accessFlags := 16409, nameIndex := 45, descriptorIndex := 6, attributes := #[] }, { accessFlags := 16409, nameIndex := 48, descriptorIndex := 6, attributes := #[] }, { accessFlags := 16409, nameIndex := 51, descriptorIndex := 6, attributes := #[] }, { accessFlags := 16409, nameIndex := 54, descriptorIndex := 6, attributes := #[] }, { accessFlags := 16409, nameIndex := 57, descriptorIndex := 6, attributes := #[] }, { accessFlags := 16409, nameIndex := 60, descriptorIndex := 6, attributes := #[] }, { accessFlags := 16409, nameIndex := 63, descriptorIndex := 6, attributes := #[] }, { accessFlags := 16409, nameIndex := 66, descriptorIndex := 6, attributes := #[] }, { accessFlags := 16409, nameIndex := 69, descriptorIndex := 6, attributes := #[] }, { accessFlags := 16409, nameIndex := 72, descriptorIndex := 6, attributes := #[] }, { accessFlags := 16409, nameIndex := 75, descriptorIndex := 6, attributes := #[] }, { accessFlags := 16409, nameIndex := 78, descriptorIndex := 6, attributes := #[] }, { accessFlags := 16409, nameIndex := 81, descriptorIndex := 6, attributes := #[] }, { accessFlags := 16409, nameIndex := 84, descriptorIndex := 6, attributes := #[] }, { accessFlags := 18, nameIndex := 106, descriptorIndex := 107, attributes := #[] }, { accessFlags := 18, nameIndex := 110, descriptorIndex := 111, attributes := #[] }, { accessFlags := 18, nameIndex := 114, descriptorIndex := 111, attributes := #[] }, { accessFlags := 4122, nameIndex := 87, descriptorIndex := 88, attributes := #[] }])
  fields := #[{ name := "CONCAT", type := (.object "com/example/deft_orm/deftorm/engine/QueryTree$Function$Name"), accessFlags := 16409, slot := 0, constantValue := 0 }, { name := "SUBSTRING", type := (.object "com/example/deft_orm/deftorm/engine/QueryTree$Function$Name"), accessFlags := 16409, slot := 1, constantValue := 0 }, { name := "LOWER", type := (.object "com/example/deft_orm/deftorm/engine/QueryTree$Function$Name"), accessFlags := 16409, slot := 2, constantValue := 0 }, { name := "UPPER", type := (.object "com/example/deft_orm/deftorm/engine/QueryTree$Function$Name"), accessFlags := 16409, slot := 3, constantValue := 0 }, { name := "LENGTH", type := (.object "com/example/deft_orm/deftorm/engine/QueryTree$Function$Name"), accessFlags := 16409, slot := 4, constantValue := 0 }, { name := "LOCATE", type := (.object "com/example/deft_orm/deftorm/engine/QueryTree$Function$Name"), accessFlags := 16409, slot := 5, constantValue := 0 }, { name := "LEFT", type := (.object "com/example/deft_orm/deftorm/engine/QueryTree$Function$Name"), accessFlags := 16409, slot := 6, constantValue := 0 }, { name := "RIGHT", type := (.object "com/example/deft_orm/deftorm/engine/QueryTree$Function$Name"), accessFlags := 16409, slot := 7, constantValue := 0 }, { name := "REPLACE", type := (.object "com/example/deft_orm/deftorm/engine/QueryTree$Function$Name"), accessFlags := 16409, slot := 8, constantValue := 0 }, { name := "ABS", type := (.object "com/example/deft_orm/deftorm/engine/QueryTree$Function$Name"), accessFlags := 16409, slot := 9, constantValue := 0 }, { name := "SQRT", type := (.object "com/example/deft_orm/deftorm/engine/QueryTree$Function$Name"), accessFlags := 16409, slot := 10, constantValue := 0 }, { name := "MOD", type := (.object "com/example/deft_orm/deftorm/engine/QueryTree$Function$Name"), accessFlags := 16409, slot := 11, constantValue := 0 }, { name := "CEILING", type := (.object "com/example/deft_orm/deftorm/engine/QueryTree$Function$Name"), accessFlags := 16409, slot := 12, constantValue := 0 }, { name := "FLOOR", type := (.object "com/example/deft_orm/deftorm/engine/QueryTree$Function$Name"), accessFlags := 16409, slot := 13, constantValue := 0 }, { name := "ROUND", type := (.object "com/example/deft_orm/deftorm/engine/QueryTree$Function$Name"), accessFlags := 16409, slot := 14, constantValue := 0 }, { name := "SIGN", type := (.object "com/example/deft_orm/deftorm/engine/QueryTree$Function$Name"), accessFlags := 16409, slot := 15, constantValue := 0 }, { name := "POWER", type := (.object "com/example/deft_orm/deftorm/engine/QueryTree$Function$Name"), accessFlags := 16409, slot := 16, constantValue := 0 }, { name := "EXP", type := (.object "com/example/deft_orm/deftorm/engine/QueryTree$Function$Name"), accessFlags := 16409, slot := 17, constantValue := 0 }, { name := "LN", type := (.object "com/example/deft_orm/deftorm/engine/QueryTree$Function$Name"), accessFlags := 16409, slot := 18, constantValue := 0 }, { name := "COALESCE", type := (.object "com/example/deft_orm/deftorm/engine/QueryTree$Function$Name"), accessFlags := 16409, slot := 19, constantValue := 0 }, { name := "NULLIF", type := (.object "com/example/deft_orm/deftorm/engine/QueryTree$Function$Name"), accessFlags := 16409, slot := 20, constantValue := 0 }, { name := "CURRENT_DATE", type := (.object "com/example/deft_orm/deftorm/engine/QueryTree$Function$Name"), accessFlags := 16409, slot := 21, constantValue := 0 }, { name := "CURRENT_TIME", type := (.object "com/example/deft_orm/deftorm/engine/QueryTree$Function$Name"), accessFlags := 16409, slot := 22, constantValue := 0 }, { name := "CURRENT_TIMESTAMP", type := (.object "com/example/deft_orm/deftorm/engine/QueryTree$Function$Name"), accessFlags := 16409, slot := 23, constantValue := 0 }, { name := "LOCAL_DATE", type := (.object "com/example/deft_orm/deftorm/engine/QueryTree$Function$Name"), accessFlags := 16409, slot := 24, constantValue := 0 }, { name := "LOCAL_TIME", type := (.object "com/example/deft_orm/deftorm/engine/QueryTree$Function$Name"), accessFlags := 16409, slot := 25, constantValue := 0 }, { name := "LOCAL_DATETIME", type := (.object "com/example/deft_orm/deftorm/engine/QueryTree$Function$Name"), accessFlags := 16409, slot := 26, constantValue := 0 }, { name := "written", type := (.object "java/lang/String"), accessFlags := 18, slot := 3, constantValue := 0 }, { name := "fewest", type := .int, accessFlags := 18, slot := 4, constantValue := 0 }, { name := "most", type := .int, accessFlags := 18, slot := 5, constantValue := 0 }, { name := "$VALUES", type := (.array (.object "com/example/deft_orm/deftorm/engine/QueryTree$Function$Name")), accessFlags := 4122, slot := 27, constantValue := 0 }]
  methods := #[k6m0]
  instanceTypes := #[(.object "java/lang/String"), .int, .int, (.object "java/lang/String"), .int, .int]
  staticTypes := #[(.object "com/example/deft_orm/deftorm/engine/QueryTree$Function$Name"), (.object "com/example/deft_orm/deftorm/engine/QueryTree$Function$Name"), (.object "com/example/deft_orm/deftorm/engine/QueryTree$Function$Name"), (.object "com/example/deft_orm/deftorm/engine/QueryTree$Function$Name"), (.object "com/example/deft_orm/deftorm/engine/QueryTree$Function$Name"), (.object "com/example/deft_orm/deftorm/engine/QueryTree$Function$Name"), (.object "com/example/deft_orm/deftorm/engine/QueryTree$Function$Name"), (.object "com/example/deft_orm/deftorm/engine/QueryTree$Function$Name"), (.object "com/example/deft_orm/deftorm/engine/QueryTree$Function$Name"), (.object "com/example/deft_orm/deftorm/engine/QueryTree$Function$Name"), (.object "com/example/deft_orm/deftorm/engine/QueryTree$Function$Name"), (.object "com/example/deft_orm/deftorm/engine/QueryTree$Function$Name"), (.object "com/example/deft_orm/deftorm/engine/QueryTree$Function$Name"), (.object "com/example/deft_orm/deftorm/engine/QueryTree$Function$Name"), (.object "com/example/deft_orm/deftorm/engine/QueryTree$Function$Name"), (.object "com/example/deft_orm/deftorm/engine/QueryTree$Function$Name"), (.object "com/example/deft_orm/deftorm/engine/QueryTree$Function$Name"), (.object "com/example/deft_orm/deftorm/engine/QueryTree$Function$Name"), (.object "com/example/deft_orm/deftorm/engine/QueryTree$Function$Name"), (.object "com/example/deft_orm/deftorm/engine/QueryTree$Function$Name"), (.object "com/example/deft_orm/deftorm/engine/QueryTree$Function$Name"), (.object "com/example/deft_orm/deftorm/engine/QueryTree$Function$Name"), (.object "com/example/deft_orm/deftorm/engine/QueryTree$Function$Name"), (.object "com/example/deft_orm/deftorm/engine/QueryTree$Function$Name"), (.object "com/example/deft_orm/deftorm/engine/QueryTree$Function$Name"), (.object "com/example/deft_orm/deftorm/engine/QueryTree$Function$Name"), (.object "com/example/deft_orm/deftorm/engine/QueryTree$Function$Name"), (.array (.object "com/example/deft_orm/deftorm/engine/QueryTree$Function$Name"))]
  resolved := Array.replicate 240 none
  statics := some 0 }

def pool7 : Array CpInfo := pool [(1, u "java/lang/Cloneable"), (0, .class_ 1), (0, u "java/lang/Object"), (0, .class_ 3)] 3

/-- java/lang/Cloneable -/
def k7 : Class := { plain "java/lang/Cloneable" (some 0) with
  accessFlags := 1537
  interfaces := #[]
  cf := some (fileOf pool7 2 #[] #[] 1537 4 #[] #[])
  fields := #[]
  methods := #[]
  instanceTypes := #[]
  staticTypes := #[]
  resolved := Array.replicate 8 none
  statics := none }

/-- the primitive byte -/
def k8 : Class := { plain "byte" none with kind := .primitive 'B', accessFlags := 0x411 }
/-- [B -/
def k9 : Class := { plain "[B" (some 0) with kind := .array 8 .byte, interfaces := #[7, 4], accessFlags := 1041 }

/-- the primitive int -/
def k10 : Class := { plain "int" none with kind := .primitive 'I', accessFlags := 0x411 }
/-- [I -/
def k11 : Class := { plain "[I" (some 0) with kind := .array 10 .int, interfaces := #[7, 4], accessFlags := 1041 }

def heap : Heap := #[{ cls := 6, slots := #[.ref 1, .ref 2, .ref 3, .ref 4, .ref 5, .ref 6, .ref 7, .ref 8, .ref 9, .ref 10, .ref 11, .ref 12, .ref 13, .ref 14, .ref 15, .ref 16, .ref 17, .ref 18, .ref 19, .ref 20, .ref 21, .ref 22, .ref 23, .ref 24, .ref 25, .ref 26, .ref 27, .null], vm := .statics 6 },
  { cls := 6, slots := #[.null, .int 0, .int 0, .null, .int 2, .int 2147483647], vm := .none },
  { cls := 6, slots := #[.null, .int 1, .int 0, .null, .int 2, .int 3], vm := .none },
  { cls := 6, slots := #[.null, .int 2, .int 0, .null, .int 1, .int 1], vm := .none },
  { cls := 6, slots := #[.null, .int 3, .int 0, .null, .int 1, .int 1], vm := .none },
  { cls := 6, slots := #[.null, .int 4, .int 0, .null, .int 1, .int 1], vm := .none },
  { cls := 6, slots := #[.null, .int 5, .int 0, .null, .int 2, .int 3], vm := .none },
  { cls := 6, slots := #[.null, .int 6, .int 0, .null, .int 2, .int 2], vm := .none },
  { cls := 6, slots := #[.null, .int 7, .int 0, .null, .int 2, .int 2], vm := .none },
  { cls := 6, slots := #[.null, .int 8, .int 0, .null, .int 3, .int 3], vm := .none },
  { cls := 6, slots := #[.null, .int 9, .int 0, .null, .int 1, .int 1], vm := .none },
  { cls := 6, slots := #[.null, .int 10, .int 0, .null, .int 1, .int 1], vm := .none },
  { cls := 6, slots := #[.null, .int 11, .int 0, .null, .int 2, .int 2], vm := .none },
  { cls := 6, slots := #[.null, .int 12, .int 0, .null, .int 1, .int 1], vm := .none },
  { cls := 6, slots := #[.null, .int 13, .int 0, .null, .int 1, .int 1], vm := .none },
  { cls := 6, slots := #[.null, .int 14, .int 0, .null, .int 2, .int 2], vm := .none },
  { cls := 6, slots := #[.null, .int 15, .int 0, .null, .int 1, .int 1], vm := .none },
  { cls := 6, slots := #[.null, .int 16, .int 0, .null, .int 2, .int 2], vm := .none },
  { cls := 6, slots := #[.null, .int 17, .int 0, .null, .int 1, .int 1], vm := .none },
  { cls := 6, slots := #[.null, .int 18, .int 0, .null, .int 1, .int 1], vm := .none },
  { cls := 6, slots := #[.null, .int 19, .int 0, .null, .int 2, .int 2147483647], vm := .none },
  { cls := 6, slots := #[.null, .int 20, .int 0, .null, .int 2, .int 2], vm := .none },
  { cls := 6, slots := #[.null, .int 21, .int 0, .null, .int 0, .int 0], vm := .none },
  { cls := 6, slots := #[.null, .int 22, .int 0, .null, .int 0, .int 0], vm := .none },
  { cls := 6, slots := #[.null, .int 23, .int 0, .null, .int 0, .int 0], vm := .none },
  { cls := 6, slots := #[.null, .int 24, .int 0, .null, .int 0, .int 0], vm := .none },
  { cls := 6, slots := #[.null, .int 25, .int 0, .null, .int 0, .int 0], vm := .none },
  { cls := 6, slots := #[.null, .int 26, .int 0, .null, .int 0, .int 0], vm := .none }]
def classes : Array Class := #[k0, k1, k2, k3, k4, k5, k6, k7, k8, k9, k10, k11]
def interned : List (Array UInt16 × Addr) := []
def slotsUsed : Nat := 190
def theMethod : MethodId := ⟨1, 4⟩
def args0 : Array Value := #[.int 5, .int 1, .int 7]
def aboutOver (below : List Frame) : State where
  vm := { classes := classes, interned := interned.toArray }
  heap := heap
  slotsUsed := slotsUsed
  threads := #[{ frames := .invoking theMethod args0 :: below }]
def below0 : List Frame := [.native { method := ⟨0, 0⟩, args := #[] }]
def about1 : State := aboutOver below0
def p0 : Program := .bare "" "" ""
def e0 : Env := launch0.env 0 0 0
theorem w_frames : about1.frames = Frame.invoking theMethod args0 :: below0 := rfl
set_option maxRecDepth 65536 in
theorem w_args : argsFit about1.vm theMethod args0 = true := by decide +kernel
set_option maxRecDepth 65536 in
theorem w_heap : heapFits about1 = true := by decide +kernel
set_option maxRecDepth 65536 in
theorem w_runnable : about1.curStatus? = some .runnable := by decide +kernel
set_option maxRecDepth 65536 in
theorem w_alone : about1.alone = true := by decide +kernel
set_option maxRecDepth 65536 in
theorem w_named : about1.methodNamed? x = some theMethod := by decide +kernel
set_option maxRecDepth 65536 in
theorem w_hears : about1.hears theMethod below0 = true := by decide +kernel
set_option maxRecDepth 65536 in
theorem w_ripe : about1.ripe theMethod args0 below0 = true := by decide +kernel
theorem w_running : about1.status = .running := rfl
set_option maxRecDepth 65536 in
theorem w_room : about1.hasRoom e0.platform room_1 = true :=
  launch0.hasRoom_least _ room_1 (by decide +kernel) (by decide +kernel) (by decide +kernel) (by decide +kernel) (by decide +kernel) (by decide +kernel)
theorem allAtoms_all (ts : List Jvm.Cond) (a : Array Jvm.Value) (st : Jvm.State) : (allAtoms ts).before a st = ts.all (fun c => c.before a st) := by
  induction ts with
  | nil => rfl
  | cons c t ih =>
    show (Jvm.Cond.and c (allAtoms t)).before a st = _
    rw [Jvm.Cond.before_and, ih, List.all_cons]
def words1 : List Jvm.Cond := Jvm.Cond.code x code maxLocals ret :: tables_1
/-- a 'code' word, met by the world's own term for the bytes: nothing is compared byte by byte -/
theorem code_word {y : MethodName} {bytes : ByteArray} {mx : Nat} {rt : Option FieldType} {a : Array Value} {s : State} {m : MethodId} {meth : Method} {c : Code} (h1 : s.methodNamed? y = some m) (h2 : s.vm.method? m = some meth) (h3 : meth.code = some c) (h4 : c.code = bytes)
    (h5 : (c.maxLocals == mx && c.exceptionTable.isEmpty && decide (c.maxStack ≤ mostOperands) && decide (meth.sig.returnType = rt) && !meth.locks && decide (parseMethodDescriptor y.desc = some meth.sig)) = true) : (Jvm.Cond.code y bytes mx rt).before a s = true := by
  simp only [Bool.and_eq_true, beq_iff_eq, Bool.not_eq_true', decide_eq_true_eq] at h5
  obtain ⟨⟨⟨⟨⟨g1, g2⟩, g3⟩, g4⟩, g5⟩, g6⟩ := h5
  simp [Cond.before, Cond.holds, Cond.value, h1, h2, h3, h4, g1, g2, g3, g4, g5, g6]
def isCode : Jvm.Cond → Bool
  | .code _ _ _ _ => true
  | _ => false
theorem all_split {L : List Jvm.Cond} {P : Jvm.Cond → Bool} (h1 : L.all (fun c => isCode c || P c) = true) (h2 : ∀ c ∈ L.filter isCode, P c = true) : L.all P = true := by
  refine List.all_eq_true.mpr fun c hc => ?_
  have h := List.all_eq_true.mp h1 c hc
  rcases Bool.eq_false_or_eq_true (isCode c) with hi | hi
  · exact h2 c (List.mem_filter.mpr ⟨hc, hi⟩)
  · simpa [hi] using h
set_option maxRecDepth 65536 in
theorem w_c0 : (Jvm.Cond.code x code maxLocals ret).before args0 about1 = true := code_word (m := ⟨1, 4⟩) (meth := k1m4) (c := k1c4) (by decide +kernel) rfl rfl rfl (by decide +kernel)
set_option maxRecDepth 65536 in
theorem w_c1 : (Jvm.Cond.code ({ cls := "com/example/deft_orm/deftorm/engine/NameTakesPinLaw", name := "constant", desc := "(I)Lcom/example/deft_orm/deftorm/engine/QueryTree$Function$Name;" } : Jvm.MethodName) method_2_code (1 : Nat) (Option.some (Jvm.ClassFile.FieldType.object "com/example/deft_orm/deftorm/engine/QueryTree$Function$Name"))).before args0 about1 = true := code_word (m := ⟨1, 1⟩) (meth := k1m1) (c := k1c1) (by decide +kernel) rfl rfl rfl (by decide +kernel)
set_option maxRecDepth 65536 in
theorem w_c2 : (Jvm.Cond.code ({ cls := "com/example/deft_orm/deftorm/engine/NameTakesPinLaw", name := "fewest", desc := "(I)I" } : Jvm.MethodName) method_3_code (1 : Nat) (Option.some Jvm.ClassFile.FieldType.int)).before args0 about1 = true := code_word (m := ⟨1, 2⟩) (meth := k1m2) (c := k1c2) (by decide +kernel) rfl rfl rfl (by decide +kernel)
set_option maxRecDepth 65536 in
theorem w_c3 : (Jvm.Cond.code ({ cls := "com/example/deft_orm/deftorm/engine/NameTakesPinLaw", name := "most", desc := "(I)I" } : Jvm.MethodName) method_4_code (1 : Nat) (Option.some Jvm.ClassFile.FieldType.int)).before args0 about1 = true := code_word (m := ⟨1, 3⟩) (meth := k1m3) (c := k1c3) (by decide +kernel) rfl rfl rfl (by decide +kernel)
set_option maxRecDepth 65536 in
theorem w_c4 : (Jvm.Cond.code ({ cls := "com/example/deft_orm/deftorm/engine/QueryTree$Function$Name", name := "takes", desc := "(I)Z" } : Jvm.MethodName) prog_48_method_6_code (2 : Nat) (Option.some Jvm.ClassFile.FieldType.boolean)).before args0 about1 = true := code_word (m := ⟨6, 0⟩) (meth := k6m0) (c := k6c0) (by decide +kernel) rfl rfl rfl (by decide +kernel)
def codes1 : List Jvm.Cond := [Jvm.Cond.code x code maxLocals ret, Jvm.Cond.code ({ cls := "com/example/deft_orm/deftorm/engine/NameTakesPinLaw", name := "constant", desc := "(I)Lcom/example/deft_orm/deftorm/engine/QueryTree$Function$Name;" } : Jvm.MethodName) method_2_code (1 : Nat) (Option.some (Jvm.ClassFile.FieldType.object "com/example/deft_orm/deftorm/engine/QueryTree$Function$Name")), Jvm.Cond.code ({ cls := "com/example/deft_orm/deftorm/engine/NameTakesPinLaw", name := "fewest", desc := "(I)I" } : Jvm.MethodName) method_3_code (1 : Nat) (Option.some Jvm.ClassFile.FieldType.int), Jvm.Cond.code ({ cls := "com/example/deft_orm/deftorm/engine/NameTakesPinLaw", name := "most", desc := "(I)I" } : Jvm.MethodName) method_4_code (1 : Nat) (Option.some Jvm.ClassFile.FieldType.int), Jvm.Cond.code ({ cls := "com/example/deft_orm/deftorm/engine/QueryTree$Function$Name", name := "takes", desc := "(I)Z" } : Jvm.MethodName) prog_48_method_6_code (2 : Nat) (Option.some Jvm.ClassFile.FieldType.boolean)]
set_option maxRecDepth 65536 in
theorem codes_eq : words1.filter isCode = codes1 := rfl
theorem w_codes : ∀ c ∈ words1.filter isCode, c.before args0 about1 = true := by
  rw [codes_eq]
  intro c hc
  simp only [codes1, List.mem_cons, List.not_mem_nil, or_false] at hc
  rcases hc with rfl | rfl | rfl | rfl | rfl
  · exact w_c0
  · exact w_c1
  · exact w_c2
  · exact w_c3
  · exact w_c4
set_option maxRecDepth 65536 in
theorem w_t1 : (words1.take 24).all (fun c => isCode c || c.before args0 about1) = true := by decide +kernel
set_option maxRecDepth 65536 in
theorem w_t2 : ((words1.drop 24).take 24).all (fun c => isCode c || c.before args0 about1) = true := by decide +kernel
set_option maxRecDepth 65536 in
theorem w_t3 : (((words1.drop 24).drop 24).take 24).all (fun c => isCode c || c.before args0 about1) = true := by decide +kernel
set_option maxRecDepth 65536 in
theorem w_t4 : (((words1.drop 24).drop 24).drop 24).all (fun c => isCode c || c.before args0 about1) = true := by decide +kernel
theorem w_tables : (allAtoms (Jvm.Cond.code x code maxLocals ret :: tables_1)).before args0 about1 = true := by
  rw [allAtoms_all]
  show words1.all (fun c => c.before args0 about1) = true
  refine all_split ?_ w_codes
  rw [← List.take_append_drop 24 words1, List.all_append, w_t1, ← List.take_append_drop 24 (words1.drop 24), List.all_append, w_t2, ← List.take_append_drop 24 ((words1.drop 24).drop 24), List.all_append, w_t3, w_t4]
  rfl
set_option maxRecDepth 65536 in
theorem w_case : (Jvm.Cond.and given_1 narrow_1).before args0 about1 = true := by decide +kernel
theorem w_applies : (headSpec (Jvm.Cond.code x code maxLocals ret :: tables_1) room_1).applies x e0.platform about1 = true :=
  (Spec.applies_iff w_frames).mpr ⟨w_running, w_runnable, w_alone, w_named, w_hears, w_ripe, w_room, w_tables⟩
theorem atStart : AtStart classFile x code maxLocals ret World_1 tables_1 room_1 Calls_1 rest_1 Pre_1 launch0 p0 e0 about1 theMethod args0 below0 :=
  ⟨lists_1, trivial, launch0.admits_env _ _ _, launch0.least_env, fairChoices_fair.cas, fairChoices_fair.clock, w_frames, w_args, w_heap, w_applies, trivial, trivial, w_case⟩
end start1
theorem witness_1 : WitnessClaimed_1 := ⟨start1.p0, start1.e0, start1.about1, start1.theMethod, start1.args0, start1.below0, start1.atStart⟩
end Jvm.Pilot.@@N@@
