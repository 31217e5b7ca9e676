import JvmDerived
import JvmDerived.Pilot.@@N@@Statement
import JvmDerived.Pilot.@@N@@Code
set_option linter.unusedVariables false
set_option linter.unusedSimpArgs false
namespace Jvm.Pilot.@@N@@
open Jvm Jvm.ClassFile Sem Op Lib Jvm.Free Jvm.Stand Jvm.LawKit Jvm.RoadKit Bundle Jvm.Pilot.@@N@@.Jvm.D
section OwnLayer
variable {p : Program} {l : Launch} {e : Env} {R : Room} {s : State} {m : MethodId} {args : Array Value} {below : List Frame} {meth : Method} {c : Code} {T T' : State} {locs : List Loc} {cells slots : Nat} {K N : Nat} {Q : Option Value → Heap → List Loc → Prop}
/-- from the frame g over the state T the body comes to its end, and Q holds there -/
def Go (p : Program) (e : Env) (below : List Frame) (s : State) (K N : Nat) (Q : Option Value → Heap → List Loc → Prop) (T : State) (g : JFrame) : Prop :=
  ∃ s₂ o, Steps p.tables e below (T.setTop g) s₂ ∧ s₂.status = .running ∧ Ended s₂ below o ∧ ∃ v L, o = .returned v ∧ Q v s₂.heap L ∧ FrameEnd s o s₂ L K N
theorem own_via {g g' : JFrame} (k : Go p e below s K N Q T' g') (h : ∀ t, Steps p.tables e below (T'.setTop g') t → Steps p.tables e below (T.setTop g) t) : Go p e below s K N Q T g := by
  obtain ⟨a, b, h1, r⟩ := k; exact ⟨a, b, h _ h1, r⟩
theorem own_join {g g' : JFrame} (k : Go p e below s K N Q T' g') (h : Steps p.tables e below (T.setTop g) (T'.setTop g')) : Go p e below s K N Q T g := own_via k fun _ q => h.trans q
theorem own_cast {g g' : JFrame} (q : g = g') (k : Go p e below s K N Q T g') : Go p e below s K N Q T g := q ▸ k
theorem own_ret (X : Stand p l e R s m args below meth c T locs cells slots) (hx : p.tables.exec = Jvm.exec) {pc : Nat} {Ls : Array Slot} {w : Value} {t : FieldType} {i : Instr} {rest : List Value} (hret : meth.sig.returnType = some t) (hlocks : meth.locks = false) (hn : narrow t w = w)
    (hi : (i = .ireturn ∧ (t = .int ∨ t = .boolean ∨ t = .byte ∨ t = .char ∨ t = .short) ∧ ∃ z, w = .int z) ∨ (i = .lreturn ∧ t = .long ∧ ∃ z, w = .long z) ∨ (i = .dreturn ∧ t = .double ∧ ∃ z, w = .double z) ∨ (i = .freturn ∧ t = .float ∧ ∃ z, w = .float z) ∨ (i = .areturn ∧ t.isReference = true ∧ w.isRef = true))
    (hd : decode c.code pc = .ok (i, 1)) (hq : Q (some w) T.heap locs) (hk : cells ≤ K) (hs : slots ≤ N) : Go p e below s K N Q T (mkF m pc Ls (w :: rest)) := by
  obtain ⟨fs, hr, hrun, hended, hW, hsame⟩ := X.leave (v := some w) (fun h => by rw [hret] at h; cases h) (hlocks := hlocks)
  exact ⟨_, _, retOut X hx hret hn hi hd hr, hrun, hended, _, _, rfl, hq, ⟨_, rfl⟩, hW, hsame.mono hk hs⟩
theorem own_retI (X : Stand p l e R s m args below meth c T locs cells slots) (hx : p.tables.exec = Jvm.exec) {pc : Nat} {Ls : Array Slot} {z : Int32} {rest : List Value} (hret : meth.sig.returnType = some .int) (hlocks : meth.locks = false)
    (hd : decode c.code pc = .ok (.ireturn, 1)) (hk : cells ≤ K) (hs : slots ≤ N) (hq : Q (some (.int z)) T.heap locs) : Go p e below s K N Q T (mkF m pc Ls (.int z :: rest)) :=
  own_ret X hx hret hlocks rfl (Or.inl ⟨rfl, Or.inl rfl, _, rfl⟩) hd hq hk hs
theorem own_retJ (X : Stand p l e R s m args below meth c T locs cells slots) (hx : p.tables.exec = Jvm.exec) {pc : Nat} {Ls : Array Slot} {z : Int64} {rest : List Value} (hret : meth.sig.returnType = some .long) (hlocks : meth.locks = false)
    (hd : decode c.code pc = .ok (.lreturn, 1)) (hk : cells ≤ K) (hs : slots ≤ N) (hq : Q (some (.long z)) T.heap locs) : Go p e below s K N Q T (mkF m pc Ls (.long z :: rest)) :=
  own_ret X hx hret hlocks rfl (Or.inr (Or.inl ⟨rfl, rfl, _, rfl⟩)) hd hq hk hs
theorem own_retR (X : Stand p l e R s m args below meth c T locs cells slots) (hx : p.tables.exec = Jvm.exec) {pc : Nat} {Ls : Array Slot} {w : Value} {t : FieldType} {rest : List Value} (hret : meth.sig.returnType = some t) (hlocks : meth.locks = false) (ht : t.isReference = true) (hw : w.isRef = true)
    (hd : decode c.code pc = .ok (.areturn, 1)) (hk : cells ≤ K) (hs : slots ≤ N) (hq : Q (some w) T.heap locs) : Go p e below s K N Q T (mkF m pc Ls (w :: rest)) :=
  own_ret X hx hret hlocks (by rcases ref_cases hw with rfl | ⟨a, rfl⟩ <;> cases t <;> rfl) (Or.inr (Or.inr (Or.inr (Or.inr ⟨rfl, ht, hw⟩)))) hd hq hk hs
theorem own_retZ (X : Stand p l e R s m args below meth c T locs cells slots) (hx : p.tables.exec = Jvm.exec) {pc : Nat} {Ls : Array Slot} {z z' : Int32} {rest : List Value} (hret : meth.sig.returnType = some .boolean) (hlocks : meth.locks = false)
    (hd : decode c.code pc = .ok (.ireturn, 1)) (hz : nar .boolean z = z') (hk : cells ≤ K) (hs : slots ≤ N) (hq : Q (some (.int z')) T.heap locs) : Go p e below s K N Q T (mkF m pc Ls (.int z :: rest)) := by
  subst hz
  obtain ⟨fs, hr, hrun, hended, hW, hsame⟩ := X.leave (v := some (.int (nar .boolean z))) (fun h => by rw [hret] at h; cases h) (hlocks := hlocks)
  exact ⟨_, _, retN X hx (t := .boolean) hret (Or.inl rfl) hd hr, hrun, hended, _, _, rfl, hq, ⟨_, rfl⟩, hW, hsame.mono hk hs⟩
theorem own_retV (X : Stand p l e R s m args below meth c T locs cells slots) (hx : p.tables.exec = Jvm.exec) {pc : Nat} {Ls : Array Slot} (hret : meth.sig.returnType = none) (hlocks : meth.locks = false)
    (hd : decode c.code pc = .ok (.return_, 1)) (hk : cells ≤ K) (hs : slots ≤ N) (hq : Q none T.heap locs) : Go p e below s K N Q T (mkF m pc Ls []) := by
  obtain ⟨fs, hr, hrun, hended, hW, hsame⟩ := X.leave (v := none) (fun _ => rfl) (hlocks := hlocks)
  exact ⟨_, _, X.returnOut hx hret hd hr, hrun, hended, _, _, rfl, hq, ⟨_, rfl⟩, hW, hsame.mono hk hs⟩
/-- the int of a truth value -/
def bi (P : Prop) [Decidable P] : Int32 := if P then 1 else 0
theorem bi_t {P : Prop} [Decidable P] (h : P) : bi P = 1 := if_pos h
theorem bi_f {P : Prop} [Decidable P] (h : ¬ P) : bi P = 0 := if_neg h
theorem bi_0 {P : Prop} [Decidable P] : bi P = 0 ↔ ¬ P := by unfold bi; split <;> simp_all
theorem bi_1 {P : Prop} [Decidable P] : bi P = 1 ↔ P := by unfold bi; split <;> simp_all
theorem bi_nar {P : Prop} [Decidable P] : nar .boolean (bi P) = bi P := by unfold bi; split <;> rfl
theorem bi_iff {P P' : Prop} [Decidable P] [Decidable P'] (h : P ↔ P') : bi P = bi P' := by unfold bi; simp only [h]
theorem bi_eq {P P' : Prop} [Decidable P] [Decidable P'] : bi P = bi P' ↔ (P ↔ P') := by unfold bi; split <;> split <;> simp_all
end OwnLayer
section OwnWords
variable {args : Array Value} {s : State} {t : Term} {C n d : String} {x : Addr}
theorem own_fldV {v : Value} (ht : t.eval args s none [] s = some (.ref x)) (h : (Term.field t C n d).eval args s none [] s = some v) : Fld s s.heap x C n d v :=
  Fld.start ((fld_at (C := C) (n := n) (dd := d) ht).symm.trans h)
theorem own_fldI {z : Int32} (ht : t.eval args s none [] s = some (.ref x)) (h : (Cond.eq (.field t C n d) (.int z)).value args s none s [] = some true) : Fld s s.heap x C n d (.int z) := own_fldV ht (eqv_i rfl h)
theorem own_fldJ {z : Int64} (ht : t.eval args s none [] s = some (.ref x)) (h : (Cond.eq (.field t C n d) (.long z)).value args s none s [] = some true) : Fld s s.heap x C n d (.long z) := own_fldV ht (eqv_l rfl h)
end OwnWords
theorem own_narB (P : Prop) [Decidable P] : narrow .boolean (.int (bi P)) = .int (bi P) := by unfold bi; split <;> rfl
theorem own_fitB (P : Prop) [Decidable P] : fits .boolean (.int (bi P)) = true := by unfold bi; split <;> rfl
theorem own_narR {w : Value} {t : FieldType} (hw : w.isRef = true) : narrow t w = w := by rcases ref_cases hw with rfl | ⟨a, rfl⟩ <;> cases t <;> rfl
theorem own_eqR {args : Array Value} {s : State} {a b : Term} {r : Addr} (hb : b.eval args s none [] s = some (.ref r)) (h : (Cond.eq a b).value args s none s [] = some true) : a.eval args s none [] s = some (.ref r) := by
  cases ha : a.eval args s none [] s with
  | none => simp [Cond.value, ha] at h
  | some x => cases x <;> simp [Cond.value, ha, hb] at h ⊢; exact h
theorem pn0 : plainName "com/example/polytrace/polytrace/model/Trace$Bits" = true := by first | (simp [plainName, overriddenIn]; done) | decide +kernel
theorem pn1 : plainName "java/lang/Number" = true := by first | (simp [plainName, overriddenIn]; done) | decide +kernel
theorem pn2 : plainName "java/lang/Integer" = true := by first | (simp [plainName, overriddenIn]; done) | decide +kernel
theorem pd0 : parseMethodDescriptor "()V" = some ⟨[], none⟩ := by decide +kernel
theorem pd1 : parseMethodDescriptor "(I)V" = some ⟨[.int], none⟩ := by decide +kernel
theorem pn3 : plainName "com/example/polytrace/polytrace/model/BitsEqualsPinLaw" = true := by first | (simp [plainName, overriddenIn]; done) | decide +kernel
theorem pd2 : parseMethodDescriptor "(IIIIZ)V" = some ⟨[.int, .int, .int, .int, .boolean], none⟩ := by decide +kernel
theorem pd3 : parseMethodDescriptor "(I)Ljava/lang/Integer;" = some ⟨[.int], some (.object "java/lang/Integer")⟩ := by decide +kernel
theorem pd4 : parseMethodDescriptor "(Ljava/lang/Object;)Z" = some ⟨[(.object "java/lang/Object")], some .boolean⟩ := by decide +kernel
theorem own_nar01 {r : Int32} (h : r = (0 : Int32) ∨ r = (1 : Int32)) : narrow .boolean (.int r) = .int r := by rcases h with rfl | rfl <;> rfl
theorem own_fit01 {r : Int32} (h : r = (0 : Int32) ∨ r = (1 : Int32)) : fits .boolean (.int r) = true := by rcases h with rfl | rfl <;> rfl
theorem b01 {P : Prop} [Decidable P] {f : Int32} (h : f = (if P then (0 : Int32) else (1 : Int32))) : f = (0 : Int32) ∨ f = (1 : Int32) := by split at h <;> simp [h]
/-- what is an Integer is no Bits: up its three superclasses there is none -/
theorem own_no {Z : State} {a0 : Array Value} {C S O K : String} {n k : Nat} (w1 : (Cond.superclass C S).before a0 Z = true) (w2 : (Cond.superclass S O).before a0 Z = true) (w3 : (Cond.noSuperclass O).before a0 Z = true) (wc : (Cond.instantiable C n).before a0 Z = true) (wk : (Cond.instantiable K k).before a0 Z = true)
    (h1 : C ≠ K) (h2 : S ≠ K) (h3 : O ≠ K) : ∃ c t, Z.vm.findClass C = some c ∧ Z.vm.findClass K = some t ∧ Z.vm.assignable c t = false := by
  obtain ⟨c, kc, c1, c2, c3, -⟩ := Cond.instantiable_spec wc
  obtain ⟨t, kt, t1, t2, t3, t4, -⟩ := Cond.instantiable_spec wk
  obtain ⟨q, k1, kq, p1, p2, p3, p4, -⟩ := Cond.superclass_spec c1 w1
  obtain ⟨r, k2, kr, r1, r2, r3, r4, -⟩ := Cond.superclass_spec p1 w2
  obtain ⟨o, ko, o1, o2, o3, -⟩ := Cond.noSuperclass_spec w3
  cases r1.symm.trans o1
  have n1 := ids_ne c1 t1 h1
  have n2 := ids_ne p1 t1 h2
  have n3 := ids_ne r1 t1 h3
  have ti : kt.isInterface = false := by
    cases hq : kt.isInterface
    · rfl
    · rw [hq] at t4; simp at t4
  have z : ∀ f, Z.vm.isSubclassAux f r t = false := fun f => by cases f <;> simp [Vm.isSubclassAux, n3, o2, o3]
  have y : ∀ f, Z.vm.isSubclassAux f q t = false := fun f => by cases f <;> simp [Vm.isSubclassAux, n2, r2, r4, z]
  have x : ∀ f, Z.vm.isSubclassAux f c t = false := fun f => by cases f <;> simp [Vm.isSubclassAux, n1, p2, p4, y]
  refine ⟨c, t, c1, t1, ?_⟩
  show Z.vm.assignableAux (255 + 1) c t = false
  simp [Vm.assignableAux, n1, c2, t2, c3, t3, ti, Vm.isSubclass, x]
def be (n1 w1 h1 l1 r1 n2 w2 h2 l2 r2 : Int32) : Int32 := bi (n2 = n1 ∧ w2 = w1 ∧ h2 = h1 ∧ l2 = l1 ∧ r2 = r1)
theorem be_f {n1 w1 h1 l1 r1 n2 w2 h2 l2 r2 : Int32} (h : ¬ (n2 = n1 ∧ w2 = w1 ∧ h2 = h1 ∧ l2 = l1 ∧ r2 = r1)) : be n1 w1 h1 l1 r1 n2 w2 h2 l2 r2 = 0 := bi_f h
theorem be_t {n1 w1 h1 l1 r1 n2 w2 h2 l2 r2 : Int32} (h : n2 = n1 ∧ w2 = w1 ∧ h2 = h1 ∧ l2 = l1 ∧ r2 = r1) : be n1 w1 h1 l1 r1 n2 w2 h2 l2 r2 = 1 := bi_t h
theorem ex_1 {n1 w1 h1 l1 r1 n2 w2 h2 l2 r2 ex : Int32} (h : ex = (if n1 = n2 then (if w1 = w2 then (if h1 = h2 then (if l1 = l2 then (if r1 = r2 then (1 : Int32) else (0 : Int32)) else (0 : Int32)) else (0 : Int32)) else (0 : Int32)) else (0 : Int32))) : be n1 w1 h1 l1 r1 n2 w2 h2 l2 r2 = ex := by
  subst h; unfold be bi; simp only [eq_comm (a := n2), eq_comm (a := w2), eq_comm (a := h2), eq_comm (a := l2), eq_comm (a := r2)]
  by_cases c1 : n1 = n2 <;> by_cases c2 : w1 = w2 <;> by_cases c3 : h1 = h2 <;> by_cases c4 : l1 = l2 <;> by_cases c5 : r1 = r2 <;> simp [c1, c2, c3, c4, c5]
theorem ex_2 {n1 w1 h1 l1 r1 n2 w2 h2 l2 r2 ex : Int32} (h : ex = (if n1 = n2 then (if w1 = w2 then (if h1 = h2 then (if l1 = l2 then (if r1 = r2 then (1 : Int32) else (0 : Int32)) else (0 : Int32)) else (0 : Int32)) else (0 : Int32)) else (0 : Int32))) : be n2 w2 h2 l2 r2 n1 w1 h1 l1 r1 = ex := by
  subst h; unfold be bi
  by_cases c1 : n1 = n2 <;> by_cases c2 : w1 = w2 <;> by_cases c3 : h1 = h2 <;> by_cases c4 : l1 = l2 <;> by_cases c5 : r1 = r2 <;> simp [c1, c2, c3, c4, c5]
/-- the three bounds that the constructor asks -/
theorem own_bounds (l h w : Int32) : ¬ (l &&& (536870911 : Int32)) < (0 : Int32) ∧ ¬ ((l &&& (536870911 : Int32)) + (h &&& (536870911 : Int32))) < (l &&& (536870911 : Int32)) ∧
    ((l &&& (536870911 : Int32)) + (h &&& (536870911 : Int32))) < ((((l &&& (536870911 : Int32)) + (h &&& (536870911 : Int32))) + (1 : Int32)) + (w &&& (1073741823 : Int32))) := by
  have a := c_mask l 536870911 29 (by decide) (by decide)
  have b := c_mask h 536870911 29 (by decide) (by decide)
  have c := c_mask w 1073741823 30 (by decide) (by decide)
  have z0 : (0 : Int32).toInt = 0 := by decide
  have z1 : (1 : Int32).toInt = 1 := by decide
  simp only [Int32.lt_iff_toInt_lt]
  generalize (l &&& (536870911 : Int32)) = x at *
  generalize (h &&& (536870911 : Int32)) = y at *
  generalize (w &&& (1073741823 : Int32)) = z at *
  have s1 := c_iadd x y
  have s2 := c_iadd (x + y) 1
  have s3 := c_iadd (x + y + 1) z
  have r1 := rng32 (x + y)
  have r2 := rng32 (x + y + 1)
  have r3 := rng32 (x + y + 1 + z)
  omega
theorem d_bits_0 : decode prog_297_method_1_code 0 = .ok (.aload_n 0, 1) := by decide +kernel
theorem d_bits_1 : decode prog_297_method_1_code 1 = .ok (.invokespecial 1, 3) := by decide +kernel
theorem d_bits_4 : decode prog_297_method_1_code 4 = .ok (.iload 4, 2) := by decide +kernel
theorem d_bits_6 : decode prog_297_method_1_code 6 = .ok (.ifCond .lt 14, 3) := by decide +kernel
theorem d_bits_9 : decode prog_297_method_1_code 9 = .ok (.iload_n 3, 1) := by decide +kernel
theorem d_bits_10 : decode prog_297_method_1_code 10 = .ok (.iload 4, 2) := by decide +kernel
theorem d_bits_12 : decode prog_297_method_1_code 12 = .ok (.if_icmp .lt 8, 3) := by decide +kernel
theorem d_bits_15 : decode prog_297_method_1_code 15 = .ok (.iload_n 3, 1) := by decide +kernel
theorem d_bits_16 : decode prog_297_method_1_code 16 = .ok (.iload_n 2, 1) := by decide +kernel
theorem d_bits_17 : decode prog_297_method_1_code 17 = .ok (.if_icmp .lt 20, 3) := by decide +kernel
theorem d_bits_37 : decode prog_297_method_1_code 37 = .ok (.aload_n 0, 1) := by decide +kernel
theorem d_bits_38 : decode prog_297_method_1_code 38 = .ok (.iload_n 1, 1) := by decide +kernel
theorem d_bits_39 : decode prog_297_method_1_code 39 = .ok (.putfield 16, 3) := by decide +kernel
theorem d_bits_42 : decode prog_297_method_1_code 42 = .ok (.aload_n 0, 1) := by decide +kernel
theorem d_bits_43 : decode prog_297_method_1_code 43 = .ok (.iload_n 2, 1) := by decide +kernel
theorem d_bits_44 : decode prog_297_method_1_code 44 = .ok (.putfield 22, 3) := by decide +kernel
theorem d_bits_47 : decode prog_297_method_1_code 47 = .ok (.aload_n 0, 1) := by decide +kernel
theorem d_bits_48 : decode prog_297_method_1_code 48 = .ok (.iload_n 3, 1) := by decide +kernel
theorem d_bits_49 : decode prog_297_method_1_code 49 = .ok (.putfield 25, 3) := by decide +kernel
theorem d_bits_52 : decode prog_297_method_1_code 52 = .ok (.aload_n 0, 1) := by decide +kernel
theorem d_bits_53 : decode prog_297_method_1_code 53 = .ok (.iload 4, 2) := by decide +kernel
theorem d_bits_55 : decode prog_297_method_1_code 55 = .ok (.putfield 28, 3) := by decide +kernel
theorem d_bits_58 : decode prog_297_method_1_code 58 = .ok (.aload_n 0, 1) := by decide +kernel
theorem d_bits_59 : decode prog_297_method_1_code 59 = .ok (.iload 5, 2) := by decide +kernel
theorem d_bits_61 : decode prog_297_method_1_code 61 = .ok (.putfield 31, 3) := by decide +kernel
theorem d_bits_64 : decode prog_297_method_1_code 64 = .ok (.return_, 1) := by decide +kernel
def Q_bits (Z : State) (a : Addr) (n w h_ lo r : Int32) (h0 : Heap) (n0 : Nat) (v : Option Value) (h : Heap) (L : List Loc) : Prop := v = none ∧ Fr n0 L ∧ Keep h0 h [a] ∧ Exa Z h a "com/example/polytrace/polytrace/model/Trace$Bits" ∧ Fld Z h a "com/example/polytrace/polytrace/model/Trace$Bits" "net" "I" (.int n) ∧ Fld Z h a "com/example/polytrace/polytrace/model/Trace$Bits" "width" "I" (.int w) ∧ Fld Z h a "com/example/polytrace/polytrace/model/Trace$Bits" "high" "I" (.int h_) ∧ Fld Z h a "com/example/polytrace/polytrace/model/Trace$Bits" "low" "I" (.int lo) ∧ Fld Z h a "com/example/polytrace/polytrace/model/Trace$Bits" "real" "Z" (.int r)
set_option maxRecDepth 65536 in
set_option maxHeartbeats 40000000 in
theorem rm_bits (l : Launch) (Z : State) (a0 : Array Value) (hw : ∀ d ∈ tables_1, d.before a0 Z = true) (ws : List Jvm.Cond) (a : Addr) (n w h_ lo r : Int32) (h0 : Heap) (n0 : Nat) (Z0 : n0 ≤ h0.size) (g_a : n0 ≤ a) (hr : r = (0 : Int32) ∨ r = (1 : Int32)) (hb1 : ¬ lo < (0 : Int32)) (hb2 : ¬ h_ < lo) (hb3 : h_ < w) (E : Exa Z h0 a "com/example/polytrace/polytrace/model/Trace$Bits") (Fnet : Fld Z h0 a "com/example/polytrace/polytrace/model/Trace$Bits" "net" "I" (.int (0 : Int32))) (Fwidth : Fld Z h0 a "com/example/polytrace/polytrace/model/Trace$Bits" "width" "I" (.int (0 : Int32))) (Fhigh : Fld Z h0 a "com/example/polytrace/polytrace/model/Trace$Bits" "high" "I" (.int (0 : Int32))) (Flow : Fld Z h0 a "com/example/polytrace/polytrace/model/Trace$Bits" "low" "I" (.int (0 : Int32))) (Freal : Fld Z h0 a "com/example/polytrace/polytrace/model/Trace$Bits" "real" "Z" (.int (0 : Int32))) :
    MetFree l (⟨"com/example/polytrace/polytrace/model/Trace$Bits", "<init>", "(IIIIZ)V"⟩ : MethodName) (head1 (Jvm.Cond.code (⟨"com/example/polytrace/polytrace/model/Trace$Bits", "<init>", "(IIIIZ)V"⟩ : MethodName) prog_297_method_1_code 6 none :: ws) ({ frames := 1, cells := 0, slots := 0, locals := 12 } : Room)) (fun aa_ U => aa_ = #[(.ref a), (.int n), (.int w), (.int h_), (.int lo), (.int r)] ∧ Z.Warmed39 U.vm ∧ U.heap = h0) (fun _ _ _ _ _ => True) (fun _ UU_ oo_ UV_ => ∃ vv_ LL_, oo_ = .returned vv_ ∧ (Q_bits Z a n w h_ lo r h0 n0) vv_ UV_.heap LL_ ∧ FrameEnd UU_ oo_ UV_ LL_ ({ frames := 1, cells := 0, slots := 0, locals := 12 } : Room).cells ({ frames := 1, cells := 0, slots := 0, locals := 12 } : Room).slots) := by
  refine MetFree.of_bodySF (plainFor_of_name pn0) hisR ?_
  intro p e s m args below meth c s₁ Bd hml0 hP hK
  obtain ⟨rfl, hZ, hh⟩ := hP
  have hx := Bd.exec
  have hby := Bd.bytes
  have hlk : meth.locks = false := BodyLoose.notSynchronized Bd
  have hret := Bd.returns
  have hml : c.maxLocals = 6 := hml0
  have hown : s.vm.findClass "com/example/polytrace/polytrace/model/Trace$Bits" = some m.cls := findClass_of_methodNamed Bd.named
  have hnm := (name_of_methodNamed Bd.named Bd.method).1
  have X0 : Stand p l e ({ frames := 1, cells := 0, slots := 0, locals := 12 } : Room) s m #[(.ref a), (.int n), (.int w), (.int h_), (.int lo), (.int r)] below meth c s₁ [] 0 0 := Stand.of_body Bd
  have e0 : s₁.heap = h0 := by rw [← hh, Bd.state]; rfl
  have N0 := Fr.nil n0
  show Go p e below s ({ frames := 1, cells := 0, slots := 0, locals := 12 } : Room).cells ({ frames := 1, cells := 0, slots := 0, locals := 12 } : Room).slots (Q_bits Z a n w h_ lo r h0 n0) s₁ (entryFrame m #[(.ref a), (.int n), (.int w), (.int h_), (.int lo), (.int r)] 6)
  refine own_cast (g' := mkF m 0 #[.val (.ref a), .val (.int n), .val (.int w), .val (.int h_), .val (.int lo), .val (.int r)] []) (by first | (simp [entryFrame, mkF, argsToLocals, Value.category]; done) | rfl) ?_
  have K0 := Keep.refl h0 ([a] : List Addr)
  show Go _ _ _ _ _ _ _ _ (mkF m 0 #[.val (.ref a), .val (.int n), .val (.int w), .val (.int h_), .val (.int lo), .val (.int r)] [])
  refine own_via ?_ fun _ kt => XS.aloadN X0.here hx rfl (hb hby d_bits_0) rfl rfl kt
  show Go _ _ _ _ _ _ _ _ (mkF m 1 #[.val (.ref a), .val (.int n), .val (.int w), .val (.int h_), .val (.int lo), .val (.int r)] [(.ref a)])
  obtain ⟨T1, X1, e1, st1⟩ := initO X0 hx hZ hown (hw _ (List.mem_of_getElem? (i := 8) rfl)) (hw _ (List.mem_of_getElem? (i := 9) rfl)) (hw _ (List.mem_of_getElem? (i := 10) rfl)) e0 (g := (mkF m 1 #[.val (.ref a), .val (.int n), .val (.int w), .val (.int h_), .val (.int lo), .val (.int r)] [(.ref a)])) rfl (by rw [hml]; rfl) rfl (hb hby d_bits_1) (by decide) (W := 0) (by show 2 * 0 + _ ≤ _; exact Nat.le_of_eq rfl) (by decide)
  refine own_via ?_ st1
  show Go _ _ _ _ _ _ _ _ (mkF m 4 #[.val (.ref a), .val (.int n), .val (.int w), .val (.int h_), .val (.int lo), .val (.int r)] [])
  refine own_via ?_ fun _ kt => XS.iload X1.here hx rfl (hb hby d_bits_4) rfl kt
  show Go _ _ _ _ _ _ _ _ (mkF m 6 #[.val (.ref a), .val (.int n), .val (.int w), .val (.int h_), .val (.int lo), .val (.int r)] [(.int lo)])
  refine own_via ?_ fun _ kt => XS.ifNo X1.here hx rfl (hb hby d_bits_6) rfl ((if0 _ _).trans (flt hb1).1) kt
  show Go _ _ _ _ _ _ _ _ (mkF m 9 #[.val (.ref a), .val (.int n), .val (.int w), .val (.int h_), .val (.int lo), .val (.int r)] [])
  refine own_via ?_ fun _ kt => XS.iloadN X1.here hx rfl (hb hby d_bits_9) rfl kt
  show Go _ _ _ _ _ _ _ _ (mkF m 10 #[.val (.ref a), .val (.int n), .val (.int w), .val (.int h_), .val (.int lo), .val (.int r)] [(.int h_)])
  refine own_via ?_ fun _ kt => XS.iload X1.here hx rfl (hb hby d_bits_10) rfl kt
  show Go _ _ _ _ _ _ _ _ (mkF m 12 #[.val (.ref a), .val (.int n), .val (.int w), .val (.int h_), .val (.int lo), .val (.int r)] [(.int lo), (.int h_)])
  refine own_via ?_ fun _ kt => XS.icmpNo X1.here hx rfl (hb hby d_bits_12) rfl (flt hb2).1 kt
  show Go _ _ _ _ _ _ _ _ (mkF m 15 #[.val (.ref a), .val (.int n), .val (.int w), .val (.int h_), .val (.int lo), .val (.int r)] [])
  refine own_via ?_ fun _ kt => XS.iloadN X1.here hx rfl (hb hby d_bits_15) rfl kt
  show Go _ _ _ _ _ _ _ _ (mkF m 16 #[.val (.ref a), .val (.int n), .val (.int w), .val (.int h_), .val (.int lo), .val (.int r)] [(.int h_)])
  refine own_via ?_ fun _ kt => XS.iloadN X1.here hx rfl (hb hby d_bits_16) rfl kt
  show Go _ _ _ _ _ _ _ _ (mkF m 17 #[.val (.ref a), .val (.int n), .val (.int w), .val (.int h_), .val (.int lo), .val (.int r)] [(.int w), (.int h_)])
  refine own_via ?_ fun _ kt => XS.icmpYes X1.here hx rfl (pc0 := 17) (pc' := 37) rfl (hb hby d_bits_17) rfl (tlt hb3).1 (by decide) (by decide) kt
  show Go _ _ _ _ _ _ _ _ (mkF m 37 #[.val (.ref a), .val (.int n), .val (.int w), .val (.int h_), .val (.int lo), .val (.int r)] [])
  refine own_via ?_ fun _ kt => XS.aloadN X1.here hx rfl (hb hby d_bits_37) rfl rfl kt
  show Go _ _ _ _ _ _ _ _ (mkF m 38 #[.val (.ref a), .val (.int n), .val (.int w), .val (.int h_), .val (.int lo), .val (.int r)] [(.ref a)])
  refine own_via ?_ fun _ kt => XS.iloadN X1.here hx rfl (hb hby d_bits_38) rfl kt
  show Go _ _ _ _ _ _ _ _ (mkF m 39 #[.val (.ref a), .val (.int n), .val (.int w), .val (.int h_), .val (.int lo), .val (.int r)] [(.int n), (.ref a)])
  obtain ⟨T2, h2, X2, e2, W2, st2⟩ := putF X1 hx hZ hown (host := "") (Or.inl (hw _ (List.mem_of_getElem? (i := 11) rfl))) Via.refl e1 Fnet E (Or.inr ⟨(hw _ (List.mem_of_getElem? (i := 12) rfl)), rfl, hnm⟩) (hw _ (List.mem_of_getElem? (i := 3) rfl)) (ty := .int) (by decide) rfl rfl (g := (mkF m 39 #[.val (.ref a), .val (.int n), .val (.int w), .val (.int h_), .val (.int lo), .val (.int r)] [(.int n), (.ref a)])) rfl rfl (hb hby d_bits_39)
  have N2 := Fr.snoc X2 N0 g_a
  replace E := E.wr W2
  replace Fnet := Fnet.same W2
  replace Fwidth := Fwidth.other W2 (Or.inr (slot_ne (Or.inr (hw _ (List.mem_of_getElem? (i := 14) rfl))) (Or.inr (hw _ (List.mem_of_getElem? (i := 12) rfl))) (by decide) (t := .int) (t' := .int) (by decide) (by decide)))
  replace Fhigh := Fhigh.other W2 (Or.inr (slot_ne (Or.inr (hw _ (List.mem_of_getElem? (i := 16) rfl))) (Or.inr (hw _ (List.mem_of_getElem? (i := 12) rfl))) (by decide) (t := .int) (t' := .int) (by decide) (by decide)))
  replace Flow := Flow.other W2 (Or.inr (slot_ne (Or.inr (hw _ (List.mem_of_getElem? (i := 18) rfl))) (Or.inr (hw _ (List.mem_of_getElem? (i := 12) rfl))) (by decide) (t := .int) (t' := .int) (by decide) (by decide)))
  replace Freal := Freal.other W2 (Or.inr (slot_ne (Or.inr (hw _ (List.mem_of_getElem? (i := 20) rfl))) (Or.inr (hw _ (List.mem_of_getElem? (i := 12) rfl))) (by decide) (t := .boolean) (t' := .int) (by decide) (by decide)))
  replace Z0 := Nat.le_trans Z0 (Keep.of_wr W2).1
  replace K0 := K0.wr W2 (Or.inl (List.mem_of_getElem? (i := 0) rfl))
  refine own_via ?_ st2
  show Go _ _ _ _ _ _ _ _ (mkF m 42 #[.val (.ref a), .val (.int n), .val (.int w), .val (.int h_), .val (.int lo), .val (.int r)] [])
  refine own_via ?_ fun _ kt => XS.aloadN X2.here hx rfl (hb hby d_bits_42) rfl rfl kt
  show Go _ _ _ _ _ _ _ _ (mkF m 43 #[.val (.ref a), .val (.int n), .val (.int w), .val (.int h_), .val (.int lo), .val (.int r)] [(.ref a)])
  refine own_via ?_ fun _ kt => XS.iloadN X2.here hx rfl (hb hby d_bits_43) rfl kt
  show Go _ _ _ _ _ _ _ _ (mkF m 44 #[.val (.ref a), .val (.int n), .val (.int w), .val (.int h_), .val (.int lo), .val (.int r)] [(.int w), (.ref a)])
  obtain ⟨T3, h3, X3, e3, W3, st3⟩ := putF X2 hx hZ hown (host := "") (Or.inl (hw _ (List.mem_of_getElem? (i := 13) rfl))) Via.refl e2 Fwidth E (Or.inr ⟨(hw _ (List.mem_of_getElem? (i := 14) rfl)), rfl, hnm⟩) (hw _ (List.mem_of_getElem? (i := 3) rfl)) (ty := .int) (by decide) rfl rfl (g := (mkF m 44 #[.val (.ref a), .val (.int n), .val (.int w), .val (.int h_), .val (.int lo), .val (.int r)] [(.int w), (.ref a)])) rfl rfl (hb hby d_bits_44)
  have N3 := Fr.snoc X3 N2 g_a
  replace E := E.wr W3
  replace Fnet := Fnet.other W3 (Or.inr (slot_ne (Or.inr (hw _ (List.mem_of_getElem? (i := 12) rfl))) (Or.inr (hw _ (List.mem_of_getElem? (i := 14) rfl))) (by decide) (t := .int) (t' := .int) (by decide) (by decide)))
  replace Fwidth := Fwidth.same W3
  replace Fhigh := Fhigh.other W3 (Or.inr (slot_ne (Or.inr (hw _ (List.mem_of_getElem? (i := 16) rfl))) (Or.inr (hw _ (List.mem_of_getElem? (i := 14) rfl))) (by decide) (t := .int) (t' := .int) (by decide) (by decide)))
  replace Flow := Flow.other W3 (Or.inr (slot_ne (Or.inr (hw _ (List.mem_of_getElem? (i := 18) rfl))) (Or.inr (hw _ (List.mem_of_getElem? (i := 14) rfl))) (by decide) (t := .int) (t' := .int) (by decide) (by decide)))
  replace Freal := Freal.other W3 (Or.inr (slot_ne (Or.inr (hw _ (List.mem_of_getElem? (i := 20) rfl))) (Or.inr (hw _ (List.mem_of_getElem? (i := 14) rfl))) (by decide) (t := .boolean) (t' := .int) (by decide) (by decide)))
  replace Z0 := Nat.le_trans Z0 (Keep.of_wr W3).1
  replace K0 := K0.wr W3 (Or.inl (List.mem_of_getElem? (i := 0) rfl))
  refine own_via ?_ st3
  show Go _ _ _ _ _ _ _ _ (mkF m 47 #[.val (.ref a), .val (.int n), .val (.int w), .val (.int h_), .val (.int lo), .val (.int r)] [])
  refine own_via ?_ fun _ kt => XS.aloadN X3.here hx rfl (hb hby d_bits_47) rfl rfl kt
  show Go _ _ _ _ _ _ _ _ (mkF m 48 #[.val (.ref a), .val (.int n), .val (.int w), .val (.int h_), .val (.int lo), .val (.int r)] [(.ref a)])
  refine own_via ?_ fun _ kt => XS.iloadN X3.here hx rfl (hb hby d_bits_48) rfl kt
  show Go _ _ _ _ _ _ _ _ (mkF m 49 #[.val (.ref a), .val (.int n), .val (.int w), .val (.int h_), .val (.int lo), .val (.int r)] [(.int h_), (.ref a)])
  obtain ⟨T4, h4, X4, e4, W4, st4⟩ := putF X3 hx hZ hown (host := "") (Or.inl (hw _ (List.mem_of_getElem? (i := 15) rfl))) Via.refl e3 Fhigh E (Or.inr ⟨(hw _ (List.mem_of_getElem? (i := 16) rfl)), rfl, hnm⟩) (hw _ (List.mem_of_getElem? (i := 3) rfl)) (ty := .int) (by decide) rfl rfl (g := (mkF m 49 #[.val (.ref a), .val (.int n), .val (.int w), .val (.int h_), .val (.int lo), .val (.int r)] [(.int h_), (.ref a)])) rfl rfl (hb hby d_bits_49)
  have N4 := Fr.snoc X4 N3 g_a
  replace E := E.wr W4
  replace Fnet := Fnet.other W4 (Or.inr (slot_ne (Or.inr (hw _ (List.mem_of_getElem? (i := 12) rfl))) (Or.inr (hw _ (List.mem_of_getElem? (i := 16) rfl))) (by decide) (t := .int) (t' := .int) (by decide) (by decide)))
  replace Fwidth := Fwidth.other W4 (Or.inr (slot_ne (Or.inr (hw _ (List.mem_of_getElem? (i := 14) rfl))) (Or.inr (hw _ (List.mem_of_getElem? (i := 16) rfl))) (by decide) (t := .int) (t' := .int) (by decide) (by decide)))
  replace Fhigh := Fhigh.same W4
  replace Flow := Flow.other W4 (Or.inr (slot_ne (Or.inr (hw _ (List.mem_of_getElem? (i := 18) rfl))) (Or.inr (hw _ (List.mem_of_getElem? (i := 16) rfl))) (by decide) (t := .int) (t' := .int) (by decide) (by decide)))
  replace Freal := Freal.other W4 (Or.inr (slot_ne (Or.inr (hw _ (List.mem_of_getElem? (i := 20) rfl))) (Or.inr (hw _ (List.mem_of_getElem? (i := 16) rfl))) (by decide) (t := .boolean) (t' := .int) (by decide) (by decide)))
  replace Z0 := Nat.le_trans Z0 (Keep.of_wr W4).1
  replace K0 := K0.wr W4 (Or.inl (List.mem_of_getElem? (i := 0) rfl))
  refine own_via ?_ st4
  show Go _ _ _ _ _ _ _ _ (mkF m 52 #[.val (.ref a), .val (.int n), .val (.int w), .val (.int h_), .val (.int lo), .val (.int r)] [])
  refine own_via ?_ fun _ kt => XS.aloadN X4.here hx rfl (hb hby d_bits_52) rfl rfl kt
  show Go _ _ _ _ _ _ _ _ (mkF m 53 #[.val (.ref a), .val (.int n), .val (.int w), .val (.int h_), .val (.int lo), .val (.int r)] [(.ref a)])
  refine own_via ?_ fun _ kt => XS.iload X4.here hx rfl (hb hby d_bits_53) rfl kt
  show Go _ _ _ _ _ _ _ _ (mkF m 55 #[.val (.ref a), .val (.int n), .val (.int w), .val (.int h_), .val (.int lo), .val (.int r)] [(.int lo), (.ref a)])
  obtain ⟨T5, h5, X5, e5, W5, st5⟩ := putF X4 hx hZ hown (host := "") (Or.inl (hw _ (List.mem_of_getElem? (i := 17) rfl))) Via.refl e4 Flow E (Or.inr ⟨(hw _ (List.mem_of_getElem? (i := 18) rfl)), rfl, hnm⟩) (hw _ (List.mem_of_getElem? (i := 3) rfl)) (ty := .int) (by decide) rfl rfl (g := (mkF m 55 #[.val (.ref a), .val (.int n), .val (.int w), .val (.int h_), .val (.int lo), .val (.int r)] [(.int lo), (.ref a)])) rfl rfl (hb hby d_bits_55)
  have N5 := Fr.snoc X5 N4 g_a
  replace E := E.wr W5
  replace Fnet := Fnet.other W5 (Or.inr (slot_ne (Or.inr (hw _ (List.mem_of_getElem? (i := 12) rfl))) (Or.inr (hw _ (List.mem_of_getElem? (i := 18) rfl))) (by decide) (t := .int) (t' := .int) (by decide) (by decide)))
  replace Fwidth := Fwidth.other W5 (Or.inr (slot_ne (Or.inr (hw _ (List.mem_of_getElem? (i := 14) rfl))) (Or.inr (hw _ (List.mem_of_getElem? (i := 18) rfl))) (by decide) (t := .int) (t' := .int) (by decide) (by decide)))
  replace Fhigh := Fhigh.other W5 (Or.inr (slot_ne (Or.inr (hw _ (List.mem_of_getElem? (i := 16) rfl))) (Or.inr (hw _ (List.mem_of_getElem? (i := 18) rfl))) (by decide) (t := .int) (t' := .int) (by decide) (by decide)))
  replace Flow := Flow.same W5
  replace Freal := Freal.other W5 (Or.inr (slot_ne (Or.inr (hw _ (List.mem_of_getElem? (i := 20) rfl))) (Or.inr (hw _ (List.mem_of_getElem? (i := 18) rfl))) (by decide) (t := .boolean) (t' := .int) (by decide) (by decide)))
  replace Z0 := Nat.le_trans Z0 (Keep.of_wr W5).1
  replace K0 := K0.wr W5 (Or.inl (List.mem_of_getElem? (i := 0) rfl))
  refine own_via ?_ st5
  show Go _ _ _ _ _ _ _ _ (mkF m 58 #[.val (.ref a), .val (.int n), .val (.int w), .val (.int h_), .val (.int lo), .val (.int r)] [])
  refine own_via ?_ fun _ kt => XS.aloadN X5.here hx rfl (hb hby d_bits_58) rfl rfl kt
  show Go _ _ _ _ _ _ _ _ (mkF m 59 #[.val (.ref a), .val (.int n), .val (.int w), .val (.int h_), .val (.int lo), .val (.int r)] [(.ref a)])
  refine own_via ?_ fun _ kt => XS.iload X5.here hx rfl (hb hby d_bits_59) rfl kt
  show Go _ _ _ _ _ _ _ _ (mkF m 61 #[.val (.ref a), .val (.int n), .val (.int w), .val (.int h_), .val (.int lo), .val (.int r)] [(.int r), (.ref a)])
  obtain ⟨T6, h6, X6, e6, W6, st6⟩ := putFN X5 hx hZ hown (hw _ (List.mem_of_getElem? (i := 19) rfl)) Via.refl e5 Freal E (Or.inr ⟨(hw _ (List.mem_of_getElem? (i := 20) rfl)), rfl, hnm⟩) (hw _ (List.mem_of_getElem? (i := 3) rfl)) (ty := .boolean) (v' := (.int r)) (by decide) (own_nar01 hr) (own_fit01 hr) (g := (mkF m 61 #[.val (.ref a), .val (.int n), .val (.int w), .val (.int h_), .val (.int lo), .val (.int r)] [(.int r), (.ref a)])) rfl rfl (hb hby d_bits_61)
  have N6 := Fr.snoc X6 N5 g_a
  replace E := E.wr W6
  replace Fnet := Fnet.other W6 (Or.inr (slot_ne (Or.inr (hw _ (List.mem_of_getElem? (i := 12) rfl))) (Or.inr (hw _ (List.mem_of_getElem? (i := 20) rfl))) (by decide) (t := .int) (t' := .boolean) (by decide) (by decide)))
  replace Fwidth := Fwidth.other W6 (Or.inr (slot_ne (Or.inr (hw _ (List.mem_of_getElem? (i := 14) rfl))) (Or.inr (hw _ (List.mem_of_getElem? (i := 20) rfl))) (by decide) (t := .int) (t' := .boolean) (by decide) (by decide)))
  replace Fhigh := Fhigh.other W6 (Or.inr (slot_ne (Or.inr (hw _ (List.mem_of_getElem? (i := 16) rfl))) (Or.inr (hw _ (List.mem_of_getElem? (i := 20) rfl))) (by decide) (t := .int) (t' := .boolean) (by decide) (by decide)))
  replace Flow := Flow.other W6 (Or.inr (slot_ne (Or.inr (hw _ (List.mem_of_getElem? (i := 18) rfl))) (Or.inr (hw _ (List.mem_of_getElem? (i := 20) rfl))) (by decide) (t := .int) (t' := .boolean) (by decide) (by decide)))
  replace Freal := Freal.same W6
  replace Z0 := Nat.le_trans Z0 (Keep.of_wr W6).1
  replace K0 := K0.wr W6 (Or.inl (List.mem_of_getElem? (i := 0) rfl))
  refine own_via ?_ st6
  show Go _ _ _ _ _ _ _ _ (mkF m 64 #[.val (.ref a), .val (.int n), .val (.int w), .val (.int h_), .val (.int lo), .val (.int r)] [])
  exact own_retV X6 hx hret hlk (hb hby d_bits_64) (by decide) (by decide) (by rw [e6]; exact ⟨rfl, N6, K0, E, Fnet, Fwidth, Fhigh, Flow, Freal⟩)
theorem d_eqB_0 : decode prog_297_method_7_code 0 = .ok (.aload_n 1, 1) := by decide +kernel
theorem d_eqB_1 : decode prog_297_method_7_code 1 = .ok (.instanceof 17, 3) := by decide +kernel
theorem d_eqB_4 : decode prog_297_method_7_code 4 = .ok (.ifCond .eq 67, 3) := by decide +kernel
theorem d_eqB_7 : decode prog_297_method_7_code 7 = .ok (.aload_n 1, 1) := by decide +kernel
theorem d_eqB_8 : decode prog_297_method_7_code 8 = .ok (.checkcast 17, 3) := by decide +kernel
theorem d_eqB_11 : decode prog_297_method_7_code 11 = .ok (.astore_n 2, 1) := by decide +kernel
theorem d_eqB_12 : decode prog_297_method_7_code 12 = .ok (.aload_n 2, 1) := by decide +kernel
theorem d_eqB_13 : decode prog_297_method_7_code 13 = .ok (.getfield 16, 3) := by decide +kernel
theorem d_eqB_16 : decode prog_297_method_7_code 16 = .ok (.aload_n 0, 1) := by decide +kernel
theorem d_eqB_17 : decode prog_297_method_7_code 17 = .ok (.getfield 16, 3) := by decide +kernel
theorem d_eqB_20 : decode prog_297_method_7_code 20 = .ok (.if_icmp .ne 51, 3) := by decide +kernel
theorem d_eqB_23 : decode prog_297_method_7_code 23 = .ok (.aload_n 2, 1) := by decide +kernel
theorem d_eqB_24 : decode prog_297_method_7_code 24 = .ok (.getfield 22, 3) := by decide +kernel
theorem d_eqB_27 : decode prog_297_method_7_code 27 = .ok (.aload_n 0, 1) := by decide +kernel
theorem d_eqB_28 : decode prog_297_method_7_code 28 = .ok (.getfield 22, 3) := by decide +kernel
theorem d_eqB_31 : decode prog_297_method_7_code 31 = .ok (.if_icmp .ne 40, 3) := by decide +kernel
theorem d_eqB_34 : decode prog_297_method_7_code 34 = .ok (.aload_n 2, 1) := by decide +kernel
theorem d_eqB_35 : decode prog_297_method_7_code 35 = .ok (.getfield 25, 3) := by decide +kernel
theorem d_eqB_38 : decode prog_297_method_7_code 38 = .ok (.aload_n 0, 1) := by decide +kernel
theorem d_eqB_39 : decode prog_297_method_7_code 39 = .ok (.getfield 25, 3) := by decide +kernel
theorem d_eqB_42 : decode prog_297_method_7_code 42 = .ok (.if_icmp .ne 29, 3) := by decide +kernel
theorem d_eqB_45 : decode prog_297_method_7_code 45 = .ok (.aload_n 2, 1) := by decide +kernel
theorem d_eqB_46 : decode prog_297_method_7_code 46 = .ok (.getfield 28, 3) := by decide +kernel
theorem d_eqB_49 : decode prog_297_method_7_code 49 = .ok (.aload_n 0, 1) := by decide +kernel
theorem d_eqB_50 : decode prog_297_method_7_code 50 = .ok (.getfield 28, 3) := by decide +kernel
theorem d_eqB_53 : decode prog_297_method_7_code 53 = .ok (.if_icmp .ne 18, 3) := by decide +kernel
theorem d_eqB_56 : decode prog_297_method_7_code 56 = .ok (.aload_n 2, 1) := by decide +kernel
theorem d_eqB_57 : decode prog_297_method_7_code 57 = .ok (.getfield 31, 3) := by decide +kernel
theorem d_eqB_60 : decode prog_297_method_7_code 60 = .ok (.aload_n 0, 1) := by decide +kernel
theorem d_eqB_61 : decode prog_297_method_7_code 61 = .ok (.getfield 31, 3) := by decide +kernel
theorem d_eqB_64 : decode prog_297_method_7_code 64 = .ok (.if_icmp .ne 7, 3) := by decide +kernel
theorem d_eqB_67 : decode prog_297_method_7_code 67 = .ok (.iconst 1, 1) := by decide +kernel
theorem d_eqB_68 : decode prog_297_method_7_code 68 = .ok (.goto 4, 3) := by decide +kernel
theorem d_eqB_71 : decode prog_297_method_7_code 71 = .ok (.iconst 0, 1) := by decide +kernel
theorem d_eqB_72 : decode prog_297_method_7_code 72 = .ok (.ireturn, 1) := by decide +kernel
def Q_eqB (Z : State) (a o : Addr) (n1 w1 h1 l1 r1 n2 w2 h2 l2 r2 : Int32) (h0 : Heap) (n0 : Nat) (v : Option Value) (h : Heap) (L : List Loc) : Prop := v = some (.int (be n1 w1 h1 l1 r1 n2 w2 h2 l2 r2)) ∧ Fr n0 L ∧ h = h0
set_option maxRecDepth 65536 in
set_option maxHeartbeats 40000000 in
theorem rm_eqB (l : Launch) (Z : State) (a0 : Array Value) (hw : ∀ d ∈ tables_1, d.before a0 Z = true) (ws : List Jvm.Cond) (a o : Addr) (n1 w1 h1 l1 r1 n2 w2 h2 l2 r2 : Int32) (h0 : Heap) (n0 : Nat) (Z0 : n0 ≤ h0.size) (xE : Exa Z h0 a "com/example/polytrace/polytrace/model/Trace$Bits") (xFnet : Fld Z h0 a "com/example/polytrace/polytrace/model/Trace$Bits" "net" "I" (.int n1)) (xFwidth : Fld Z h0 a "com/example/polytrace/polytrace/model/Trace$Bits" "width" "I" (.int w1)) (xFhigh : Fld Z h0 a "com/example/polytrace/polytrace/model/Trace$Bits" "high" "I" (.int h1)) (xFlow : Fld Z h0 a "com/example/polytrace/polytrace/model/Trace$Bits" "low" "I" (.int l1)) (xFreal : Fld Z h0 a "com/example/polytrace/polytrace/model/Trace$Bits" "real" "Z" (.int r1)) (yE : Exa Z h0 o "com/example/polytrace/polytrace/model/Trace$Bits") (yFnet : Fld Z h0 o "com/example/polytrace/polytrace/model/Trace$Bits" "net" "I" (.int n2)) (yFwidth : Fld Z h0 o "com/example/polytrace/polytrace/model/Trace$Bits" "width" "I" (.int w2)) (yFhigh : Fld Z h0 o "com/example/polytrace/polytrace/model/Trace$Bits" "high" "I" (.int h2)) (yFlow : Fld Z h0 o "com/example/polytrace/polytrace/model/Trace$Bits" "low" "I" (.int l2)) (yFreal : Fld Z h0 o "com/example/polytrace/polytrace/model/Trace$Bits" "real" "Z" (.int r2)) :
    MetFree l (⟨"com/example/polytrace/polytrace/model/Trace$Bits", "equals", "(Ljava/lang/Object;)Z"⟩ : MethodName) (head1 (Jvm.Cond.code (⟨"com/example/polytrace/polytrace/model/Trace$Bits", "equals", "(Ljava/lang/Object;)Z"⟩ : MethodName) prog_297_method_7_code 3 (some .boolean) :: ws) ({ frames := 0, cells := 0, slots := 0, locals := 0 } : Room)) (fun aa_ U => aa_ = #[(.ref a), (.ref o)] ∧ Z.Warmed39 U.vm ∧ U.heap = h0) (fun _ _ _ _ _ => True) (fun _ UU_ oo_ UV_ => ∃ vv_ LL_, oo_ = .returned vv_ ∧ (Q_eqB Z a o n1 w1 h1 l1 r1 n2 w2 h2 l2 r2 h0 n0) vv_ UV_.heap LL_ ∧ FrameEnd UU_ oo_ UV_ LL_ ({ frames := 0, cells := 0, slots := 0, locals := 0 } : Room).cells ({ frames := 0, cells := 0, slots := 0, locals := 0 } : Room).slots) := by
  refine MetFree.of_bodySF (plainFor_of_name pn0) hisR ?_
  intro p e s m args below meth c s₁ Bd hml0 hP hK
  obtain ⟨rfl, hZ, hh⟩ := hP
  have hx := Bd.exec
  have hby := Bd.bytes
  have hlk : meth.locks = false := BodyLoose.notSynchronized Bd
  have hret := Bd.returns
  have hml : c.maxLocals = 3 := hml0
  have hown : s.vm.findClass "com/example/polytrace/polytrace/model/Trace$Bits" = some m.cls := findClass_of_methodNamed Bd.named
  have hnm := (name_of_methodNamed Bd.named Bd.method).1
  have X0 : Stand p l e ({ frames := 0, cells := 0, slots := 0, locals := 0 } : Room) s m #[(.ref a), (.ref o)] below meth c s₁ [] 0 0 := Stand.of_body Bd
  have e0 : s₁.heap = h0 := by rw [← hh, Bd.state]; rfl
  have N0 := Fr.nil n0
  show Go p e below s ({ frames := 0, cells := 0, slots := 0, locals := 0 } : Room).cells ({ frames := 0, cells := 0, slots := 0, locals := 0 } : Room).slots (Q_eqB Z a o n1 w1 h1 l1 r1 n2 w2 h2 l2 r2 h0 n0) s₁ (entryFrame m #[(.ref a), (.ref o)] 3)
  refine own_cast (g' := mkF m 0 #[.val (.ref a), .val (.ref o), .unset] []) (by first | (simp [entryFrame, mkF, argsToLocals, Value.category]; done) | rfl) ?_
  show Go _ _ _ _ _ _ _ _ (mkF m 0 #[.val (.ref a), .val (.ref o), .unset] [])
  refine own_via ?_ fun _ kt => XS.aloadN X0.here hx rfl (hb hby d_eqB_0) rfl rfl kt
  show Go _ _ _ _ _ _ _ _ (mkF m 1 #[.val (.ref a), .val (.ref o), .unset] [(.ref o)])
  obtain ⟨T1, X1, e1, st1⟩ := instY X0 hx hZ hown (hw _ (List.mem_of_getElem? (i := 33) rfl)) e0 (Ins.self yE) (g := (mkF m 1 #[.val (.ref a), .val (.ref o), .unset] [(.ref o)])) rfl rfl (hb hby d_eqB_1)
  refine own_via ?_ st1
  show Go _ _ _ _ _ _ _ _ (mkF m 4 #[.val (.ref a), .val (.ref o), .unset] [(.int (1 : Int32))])
  refine own_via ?_ fun _ kt => XS.ifNo X1.here hx rfl (hb hby d_eqB_4) rfl ((if0 _ _).trans (feq (by decide : ¬ ((1 : Int32) = (0 : Int32)))).1) kt
  show Go _ _ _ _ _ _ _ _ (mkF m 7 #[.val (.ref a), .val (.ref o), .unset] [])
  refine own_via ?_ fun _ kt => XS.aloadN X1.here hx rfl (hb hby d_eqB_7) rfl rfl kt
  show Go _ _ _ _ _ _ _ _ (mkF m 8 #[.val (.ref a), .val (.ref o), .unset] [(.ref o)])
  obtain ⟨T2, X2, e2, st2⟩ := castY X1 hx hZ hown (hw _ (List.mem_of_getElem? (i := 33) rfl)) e1 (Ins.self yE) (g := (mkF m 8 #[.val (.ref a), .val (.ref o), .unset] [(.ref o)])) rfl rfl (hb hby d_eqB_8)
  refine own_via ?_ st2
  show Go _ _ _ _ _ _ _ _ (mkF m 11 #[.val (.ref a), .val (.ref o), .unset] [(.ref o)])
  refine own_via ?_ fun _ kt => XS.astoreN X2.here hx rfl (hb hby d_eqB_11) rfl rfl (l' := #[.val (.ref a), .val (.ref o), .val (.ref o)]) rfl kt
  show Go _ _ _ _ _ _ _ _ (mkF m 12 #[.val (.ref a), .val (.ref o), .val (.ref o)] [])
  refine own_via ?_ fun _ kt => XS.aloadN X2.here hx rfl (hb hby d_eqB_12) rfl rfl kt
  show Go _ _ _ _ _ _ _ _ (mkF m 13 #[.val (.ref a), .val (.ref o), .val (.ref o)] [(.ref o)])
  obtain ⟨T3, X3, e3, st3⟩ := getF X2 hx hZ hown (host := "") (Or.inl (hw _ (List.mem_of_getElem? (i := 11) rfl))) Via.refl e2 yFnet (g := (mkF m 13 #[.val (.ref a), .val (.ref o), .val (.ref o)] [(.ref o)])) rfl rfl (hb hby d_eqB_13)
  refine own_via ?_ st3
  show Go _ _ _ _ _ _ _ _ (mkF m 16 #[.val (.ref a), .val (.ref o), .val (.ref o)] [(.int n2)])
  refine own_via ?_ fun _ kt => XS.aloadN X3.here hx rfl (hb hby d_eqB_16) rfl rfl kt
  show Go _ _ _ _ _ _ _ _ (mkF m 17 #[.val (.ref a), .val (.ref o), .val (.ref o)] [(.ref a), (.int n2)])
  obtain ⟨T4, X4, e4, st4⟩ := getF X3 hx hZ hown (host := "") (Or.inl (hw _ (List.mem_of_getElem? (i := 11) rfl))) Via.refl e3 xFnet (g := (mkF m 17 #[.val (.ref a), .val (.ref o), .val (.ref o)] [(.ref a), (.int n2)])) rfl rfl (hb hby d_eqB_17)
  refine own_via ?_ st4
  show Go _ _ _ _ _ _ _ _ (mkF m 20 #[.val (.ref a), .val (.ref o), .val (.ref o)] [(.int n1), (.int n2)])
  by_cases hc5 : n2 = n1
  · skip
    refine own_via ?_ fun _ kt => XS.icmpNo X4.here hx rfl (hb hby d_eqB_20) rfl (teq hc5).2 kt
    show Go _ _ _ _ _ _ _ _ (mkF m 23 #[.val (.ref a), .val (.ref o), .val (.ref o)] [])
    refine own_via ?_ fun _ kt => XS.aloadN X4.here hx rfl (hb hby d_eqB_23) rfl rfl kt
    show Go _ _ _ _ _ _ _ _ (mkF m 24 #[.val (.ref a), .val (.ref o), .val (.ref o)] [(.ref o)])
    obtain ⟨T6, X6, e6, st6⟩ := getF X4 hx hZ hown (host := "") (Or.inl (hw _ (List.mem_of_getElem? (i := 13) rfl))) Via.refl e4 yFwidth (g := (mkF m 24 #[.val (.ref a), .val (.ref o), .val (.ref o)] [(.ref o)])) rfl rfl (hb hby d_eqB_24)
    refine own_via ?_ st6
    show Go _ _ _ _ _ _ _ _ (mkF m 27 #[.val (.ref a), .val (.ref o), .val (.ref o)] [(.int w2)])
    refine own_via ?_ fun _ kt => XS.aloadN X6.here hx rfl (hb hby d_eqB_27) rfl rfl kt
    show Go _ _ _ _ _ _ _ _ (mkF m 28 #[.val (.ref a), .val (.ref o), .val (.ref o)] [(.ref a), (.int w2)])
    obtain ⟨T7, X7, e7, st7⟩ := getF X6 hx hZ hown (host := "") (Or.inl (hw _ (List.mem_of_getElem? (i := 13) rfl))) Via.refl e6 xFwidth (g := (mkF m 28 #[.val (.ref a), .val (.ref o), .val (.ref o)] [(.ref a), (.int w2)])) rfl rfl (hb hby d_eqB_28)
    refine own_via ?_ st7
    show Go _ _ _ _ _ _ _ _ (mkF m 31 #[.val (.ref a), .val (.ref o), .val (.ref o)] [(.int w1), (.int w2)])
    by_cases hc8 : w2 = w1
    · skip
      refine own_via ?_ fun _ kt => XS.icmpNo X7.here hx rfl (hb hby d_eqB_31) rfl (teq hc8).2 kt
      show Go _ _ _ _ _ _ _ _ (mkF m 34 #[.val (.ref a), .val (.ref o), .val (.ref o)] [])
      refine own_via ?_ fun _ kt => XS.aloadN X7.here hx rfl (hb hby d_eqB_34) rfl rfl kt
      show Go _ _ _ _ _ _ _ _ (mkF m 35 #[.val (.ref a), .val (.ref o), .val (.ref o)] [(.ref o)])
      obtain ⟨T9, X9, e9, st9⟩ := getF X7 hx hZ hown (host := "") (Or.inl (hw _ (List.mem_of_getElem? (i := 15) rfl))) Via.refl e7 yFhigh (g := (mkF m 35 #[.val (.ref a), .val (.ref o), .val (.ref o)] [(.ref o)])) rfl rfl (hb hby d_eqB_35)
      refine own_via ?_ st9
      show Go _ _ _ _ _ _ _ _ (mkF m 38 #[.val (.ref a), .val (.ref o), .val (.ref o)] [(.int h2)])
      refine own_via ?_ fun _ kt => XS.aloadN X9.here hx rfl (hb hby d_eqB_38) rfl rfl kt
      show Go _ _ _ _ _ _ _ _ (mkF m 39 #[.val (.ref a), .val (.ref o), .val (.ref o)] [(.ref a), (.int h2)])
      obtain ⟨T10, X10, e10, st10⟩ := getF X9 hx hZ hown (host := "") (Or.inl (hw _ (List.mem_of_getElem? (i := 15) rfl))) Via.refl e9 xFhigh (g := (mkF m 39 #[.val (.ref a), .val (.ref o), .val (.ref o)] [(.ref a), (.int h2)])) rfl rfl (hb hby d_eqB_39)
      refine own_via ?_ st10
      show Go _ _ _ _ _ _ _ _ (mkF m 42 #[.val (.ref a), .val (.ref o), .val (.ref o)] [(.int h1), (.int h2)])
      by_cases hc11 : h2 = h1
      · skip
        refine own_via ?_ fun _ kt => XS.icmpNo X10.here hx rfl (hb hby d_eqB_42) rfl (teq hc11).2 kt
        show Go _ _ _ _ _ _ _ _ (mkF m 45 #[.val (.ref a), .val (.ref o), .val (.ref o)] [])
        refine own_via ?_ fun _ kt => XS.aloadN X10.here hx rfl (hb hby d_eqB_45) rfl rfl kt
        show Go _ _ _ _ _ _ _ _ (mkF m 46 #[.val (.ref a), .val (.ref o), .val (.ref o)] [(.ref o)])
        obtain ⟨T12, X12, e12, st12⟩ := getF X10 hx hZ hown (host := "") (Or.inl (hw _ (List.mem_of_getElem? (i := 17) rfl))) Via.refl e10 yFlow (g := (mkF m 46 #[.val (.ref a), .val (.ref o), .val (.ref o)] [(.ref o)])) rfl rfl (hb hby d_eqB_46)
        refine own_via ?_ st12
        show Go _ _ _ _ _ _ _ _ (mkF m 49 #[.val (.ref a), .val (.ref o), .val (.ref o)] [(.int l2)])
        refine own_via ?_ fun _ kt => XS.aloadN X12.here hx rfl (hb hby d_eqB_49) rfl rfl kt
        show Go _ _ _ _ _ _ _ _ (mkF m 50 #[.val (.ref a), .val (.ref o), .val (.ref o)] [(.ref a), (.int l2)])
        obtain ⟨T13, X13, e13, st13⟩ := getF X12 hx hZ hown (host := "") (Or.inl (hw _ (List.mem_of_getElem? (i := 17) rfl))) Via.refl e12 xFlow (g := (mkF m 50 #[.val (.ref a), .val (.ref o), .val (.ref o)] [(.ref a), (.int l2)])) rfl rfl (hb hby d_eqB_50)
        refine own_via ?_ st13
        show Go _ _ _ _ _ _ _ _ (mkF m 53 #[.val (.ref a), .val (.ref o), .val (.ref o)] [(.int l1), (.int l2)])
        by_cases hc14 : l2 = l1
        · skip
          refine own_via ?_ fun _ kt => XS.icmpNo X13.here hx rfl (hb hby d_eqB_53) rfl (teq hc14).2 kt
          show Go _ _ _ _ _ _ _ _ (mkF m 56 #[.val (.ref a), .val (.ref o), .val (.ref o)] [])
          refine own_via ?_ fun _ kt => XS.aloadN X13.here hx rfl (hb hby d_eqB_56) rfl rfl kt
          show Go _ _ _ _ _ _ _ _ (mkF m 57 #[.val (.ref a), .val (.ref o), .val (.ref o)] [(.ref o)])
          obtain ⟨T15, X15, e15, st15⟩ := getF X13 hx hZ hown (host := "") (Or.inl (hw _ (List.mem_of_getElem? (i := 19) rfl))) Via.refl e13 yFreal (g := (mkF m 57 #[.val (.ref a), .val (.ref o), .val (.ref o)] [(.ref o)])) rfl rfl (hb hby d_eqB_57)
          refine own_via ?_ st15
          show Go _ _ _ _ _ _ _ _ (mkF m 60 #[.val (.ref a), .val (.ref o), .val (.ref o)] [(.int r2)])
          refine own_via ?_ fun _ kt => XS.aloadN X15.here hx rfl (hb hby d_eqB_60) rfl rfl kt
          show Go _ _ _ _ _ _ _ _ (mkF m 61 #[.val (.ref a), .val (.ref o), .val (.ref o)] [(.ref a), (.int r2)])
          obtain ⟨T16, X16, e16, st16⟩ := getF X15 hx hZ hown (host := "") (Or.inl (hw _ (List.mem_of_getElem? (i := 19) rfl))) Via.refl e15 xFreal (g := (mkF m 61 #[.val (.ref a), .val (.ref o), .val (.ref o)] [(.ref a), (.int r2)])) rfl rfl (hb hby d_eqB_61)
          refine own_via ?_ st16
          show Go _ _ _ _ _ _ _ _ (mkF m 64 #[.val (.ref a), .val (.ref o), .val (.ref o)] [(.int r1), (.int r2)])
          by_cases hc17 : r2 = r1
          · skip
            refine own_via ?_ fun _ kt => XS.icmpNo X16.here hx rfl (hb hby d_eqB_64) rfl (teq hc17).2 kt
            show Go _ _ _ _ _ _ _ _ (mkF m 67 #[.val (.ref a), .val (.ref o), .val (.ref o)] [])
            refine own_via ?_ fun _ kt => XS.iconst X16.here hx rfl (hb hby d_eqB_67) kt
            show Go _ _ _ _ _ _ _ _ (mkF m 68 #[.val (.ref a), .val (.ref o), .val (.ref o)] [(.int (1 : Int32))])
            refine own_via ?_ fun _ kt => XS.goto X16.here hx rfl (pc0 := 68) (pc' := 72) rfl (hb hby d_eqB_68) (by decide) (by decide) kt
            show Go _ _ _ _ _ _ _ _ (mkF m 72 #[.val (.ref a), .val (.ref o), .val (.ref o)] [(.int (1 : Int32))])
            exact own_retZ (z' := (1 : Int32)) X16 hx hret hlk (hb hby d_eqB_72) rfl (by decide) (by decide) (by rw [e16]; exact ⟨by rw [be_t ⟨hc5, hc8, hc11, hc14, hc17⟩], N0, rfl⟩)
          · skip
            refine own_via ?_ fun _ kt => XS.icmpYes X16.here hx rfl (pc0 := 64) (pc' := 71) rfl (hb hby d_eqB_64) rfl (feq hc17).2 (by decide) (by decide) kt
            show Go _ _ _ _ _ _ _ _ (mkF m 71 #[.val (.ref a), .val (.ref o), .val (.ref o)] [])
            refine own_via ?_ fun _ kt => XS.iconst X16.here hx rfl (hb hby d_eqB_71) kt
            show Go _ _ _ _ _ _ _ _ (mkF m 72 #[.val (.ref a), .val (.ref o), .val (.ref o)] [(.int (0 : Int32))])
            exact own_retZ (z' := (0 : Int32)) X16 hx hret hlk (hb hby d_eqB_72) rfl (by decide) (by decide) (by rw [e16]; exact ⟨by rw [be_f fun u => hc17 u.2.2.2.2], N0, rfl⟩)
        · skip
          refine own_via ?_ fun _ kt => XS.icmpYes X13.here hx rfl (pc0 := 53) (pc' := 71) rfl (hb hby d_eqB_53) rfl (feq hc14).2 (by decide) (by decide) kt
          show Go _ _ _ _ _ _ _ _ (mkF m 71 #[.val (.ref a), .val (.ref o), .val (.ref o)] [])
          refine own_via ?_ fun _ kt => XS.iconst X13.here hx rfl (hb hby d_eqB_71) kt
          show Go _ _ _ _ _ _ _ _ (mkF m 72 #[.val (.ref a), .val (.ref o), .val (.ref o)] [(.int (0 : Int32))])
          exact own_retZ (z' := (0 : Int32)) X13 hx hret hlk (hb hby d_eqB_72) rfl (by decide) (by decide) (by rw [e13]; exact ⟨by rw [be_f fun u => hc14 u.2.2.2.1], N0, rfl⟩)
      · skip
        refine own_via ?_ fun _ kt => XS.icmpYes X10.here hx rfl (pc0 := 42) (pc' := 71) rfl (hb hby d_eqB_42) rfl (feq hc11).2 (by decide) (by decide) kt
        show Go _ _ _ _ _ _ _ _ (mkF m 71 #[.val (.ref a), .val (.ref o), .val (.ref o)] [])
        refine own_via ?_ fun _ kt => XS.iconst X10.here hx rfl (hb hby d_eqB_71) kt
        show Go _ _ _ _ _ _ _ _ (mkF m 72 #[.val (.ref a), .val (.ref o), .val (.ref o)] [(.int (0 : Int32))])
        exact own_retZ (z' := (0 : Int32)) X10 hx hret hlk (hb hby d_eqB_72) rfl (by decide) (by decide) (by rw [e10]; exact ⟨by rw [be_f fun u => hc11 u.2.2.1], N0, rfl⟩)
    · skip
      refine own_via ?_ fun _ kt => XS.icmpYes X7.here hx rfl (pc0 := 31) (pc' := 71) rfl (hb hby d_eqB_31) rfl (feq hc8).2 (by decide) (by decide) kt
      show Go _ _ _ _ _ _ _ _ (mkF m 71 #[.val (.ref a), .val (.ref o), .val (.ref o)] [])
      refine own_via ?_ fun _ kt => XS.iconst X7.here hx rfl (hb hby d_eqB_71) kt
      show Go _ _ _ _ _ _ _ _ (mkF m 72 #[.val (.ref a), .val (.ref o), .val (.ref o)] [(.int (0 : Int32))])
      exact own_retZ (z' := (0 : Int32)) X7 hx hret hlk (hb hby d_eqB_72) rfl (by decide) (by decide) (by rw [e7]; exact ⟨by rw [be_f fun u => hc8 u.2.1], N0, rfl⟩)
  · skip
    refine own_via ?_ fun _ kt => XS.icmpYes X4.here hx rfl (pc0 := 20) (pc' := 71) rfl (hb hby d_eqB_20) rfl (feq hc5).2 (by decide) (by decide) kt
    show Go _ _ _ _ _ _ _ _ (mkF m 71 #[.val (.ref a), .val (.ref o), .val (.ref o)] [])
    refine own_via ?_ fun _ kt => XS.iconst X4.here hx rfl (hb hby d_eqB_71) kt
    show Go _ _ _ _ _ _ _ _ (mkF m 72 #[.val (.ref a), .val (.ref o), .val (.ref o)] [(.int (0 : Int32))])
    exact own_retZ (z' := (0 : Int32)) X4 hx hret hlk (hb hby d_eqB_72) rfl (by decide) (by decide) (by rw [e4]; exact ⟨by rw [be_f fun u => hc5 u.1], N0, rfl⟩)
theorem d_eqN_0 : decode prog_297_method_7_code 0 = .ok (.aload_n 1, 1) := by decide +kernel
theorem d_eqN_1 : decode prog_297_method_7_code 1 = .ok (.instanceof 17, 3) := by decide +kernel
theorem d_eqN_4 : decode prog_297_method_7_code 4 = .ok (.ifCond .eq 67, 3) := by decide +kernel
theorem d_eqN_71 : decode prog_297_method_7_code 71 = .ok (.iconst 0, 1) := by decide +kernel
theorem d_eqN_72 : decode prog_297_method_7_code 72 = .ok (.ireturn, 1) := by decide +kernel
def Q_eqN (Z : State) (a : Addr) (h0 : Heap) (n0 : Nat) (v : Option Value) (h : Heap) (L : List Loc) : Prop := v = some (.int (0 : Int32)) ∧ Fr n0 L ∧ h = h0
set_option maxRecDepth 65536 in
set_option maxHeartbeats 40000000 in
theorem rm_eqN (l : Launch) (Z : State) (a0 : Array Value) (hw : ∀ d ∈ tables_1, d.before a0 Z = true) (ws : List Jvm.Cond) (a : Addr) (h0 : Heap) (n0 : Nat) (Z0 : n0 ≤ h0.size) :
    MetFree l (⟨"com/example/polytrace/polytrace/model/Trace$Bits", "equals", "(Ljava/lang/Object;)Z"⟩ : MethodName) (head1 (Jvm.Cond.code (⟨"com/example/polytrace/polytrace/model/Trace$Bits", "equals", "(Ljava/lang/Object;)Z"⟩ : MethodName) prog_297_method_7_code 3 (some .boolean) :: ws) ({ frames := 0, cells := 0, slots := 0, locals := 0 } : Room)) (fun aa_ U => aa_ = #[(.ref a), .null] ∧ Z.Warmed39 U.vm ∧ U.heap = h0) (fun _ _ _ _ _ => True) (fun _ UU_ oo_ UV_ => ∃ vv_ LL_, oo_ = .returned vv_ ∧ (Q_eqN Z a h0 n0) vv_ UV_.heap LL_ ∧ FrameEnd UU_ oo_ UV_ LL_ ({ frames := 0, cells := 0, slots := 0, locals := 0 } : Room).cells ({ frames := 0, cells := 0, slots := 0, locals := 0 } : Room).slots) := by
  refine MetFree.of_bodySF (plainFor_of_name pn0) hisR ?_
  intro p e s m args below meth c s₁ Bd hml0 hP hK
  obtain ⟨rfl, hZ, hh⟩ := hP
  have hx := Bd.exec
  have hby := Bd.bytes
  have hlk : meth.locks = false := BodyLoose.notSynchronized Bd
  have hret := Bd.returns
  have hml : c.maxLocals = 3 := hml0
  have hown : s.vm.findClass "com/example/polytrace/polytrace/model/Trace$Bits" = some m.cls := findClass_of_methodNamed Bd.named
  have hnm := (name_of_methodNamed Bd.named Bd.method).1
  have X0 : Stand p l e ({ frames := 0, cells := 0, slots := 0, locals := 0 } : Room) s m #[(.ref a), .null] below meth c s₁ [] 0 0 := Stand.of_body Bd
  have e0 : s₁.heap = h0 := by rw [← hh, Bd.state]; rfl
  have N0 := Fr.nil n0
  show Go p e below s ({ frames := 0, cells := 0, slots := 0, locals := 0 } : Room).cells ({ frames := 0, cells := 0, slots := 0, locals := 0 } : Room).slots (Q_eqN Z a h0 n0) s₁ (entryFrame m #[(.ref a), .null] 3)
  refine own_cast (g' := mkF m 0 #[.val (.ref a), .val .null, .unset] []) (by first | (simp [entryFrame, mkF, argsToLocals, Value.category]; done) | rfl) ?_
  show Go _ _ _ _ _ _ _ _ (mkF m 0 #[.val (.ref a), .val .null, .unset] [])
  refine own_via ?_ fun _ kt => XS.aloadN X0.here hx rfl (hb hby d_eqN_0) rfl rfl kt
  show Go _ _ _ _ _ _ _ _ (mkF m 1 #[.val (.ref a), .val .null, .unset] [.null])
  refine own_via ?_ fun _ kt => X0.instanceofNull hx (g := (mkF m 1 #[.val (.ref a), .val .null, .unset] [.null])) rfl rfl (hb hby d_eqN_1) _ kt
  show Go _ _ _ _ _ _ _ _ (mkF m 4 #[.val (.ref a), .val .null, .unset] [(.int (0 : Int32))])
  refine own_via ?_ fun _ kt => XS.ifYes X0.here hx rfl (pc0 := 4) (pc' := 71) rfl (hb hby d_eqN_4) rfl ((if0 _ _).trans (teq rfl).1) (by decide) (by decide) kt
  show Go _ _ _ _ _ _ _ _ (mkF m 71 #[.val (.ref a), .val .null, .unset] [])
  refine own_via ?_ fun _ kt => XS.iconst X0.here hx rfl (hb hby d_eqN_71) kt
  show Go _ _ _ _ _ _ _ _ (mkF m 72 #[.val (.ref a), .val .null, .unset] [(.int (0 : Int32))])
  exact own_retZ (z' := (0 : Int32)) X0 hx hret hlk (hb hby d_eqN_72) rfl (by decide) (by decide) (by rw [e0]; exact ⟨rfl, N0, rfl⟩)
theorem d_eqI_0 : decode prog_297_method_7_code 0 = .ok (.aload_n 1, 1) := by decide +kernel
theorem d_eqI_1 : decode prog_297_method_7_code 1 = .ok (.instanceof 17, 3) := by decide +kernel
theorem d_eqI_4 : decode prog_297_method_7_code 4 = .ok (.ifCond .eq 67, 3) := by decide +kernel
theorem d_eqI_71 : decode prog_297_method_7_code 71 = .ok (.iconst 0, 1) := by decide +kernel
theorem d_eqI_72 : decode prog_297_method_7_code 72 = .ok (.ireturn, 1) := by decide +kernel
def Q_eqI (Z : State) (a o : Addr) (h0 : Heap) (n0 : Nat) (v : Option Value) (h : Heap) (L : List Loc) : Prop := v = some (.int (0 : Int32)) ∧ Fr n0 L ∧ h = h0
set_option maxRecDepth 65536 in
set_option maxHeartbeats 40000000 in
theorem rm_eqI (l : Launch) (Z : State) (a0 : Array Value) (hw : ∀ d ∈ tables_1, d.before a0 Z = true) (ws : List Jvm.Cond) (a o : Addr) (h0 : Heap) (n0 : Nat) (Z0 : n0 ≤ h0.size) (E : Exa Z h0 o "java/lang/Integer") :
    MetFree l (⟨"com/example/polytrace/polytrace/model/Trace$Bits", "equals", "(Ljava/lang/Object;)Z"⟩ : MethodName) (head1 (Jvm.Cond.code (⟨"com/example/polytrace/polytrace/model/Trace$Bits", "equals", "(Ljava/lang/Object;)Z"⟩ : MethodName) prog_297_method_7_code 3 (some .boolean) :: ws) ({ frames := 0, cells := 0, slots := 0, locals := 0 } : Room)) (fun aa_ U => aa_ = #[(.ref a), (.ref o)] ∧ Z.Warmed39 U.vm ∧ U.heap = h0) (fun _ _ _ _ _ => True) (fun _ UU_ oo_ UV_ => ∃ vv_ LL_, oo_ = .returned vv_ ∧ (Q_eqI Z a o h0 n0) vv_ UV_.heap LL_ ∧ FrameEnd UU_ oo_ UV_ LL_ ({ frames := 0, cells := 0, slots := 0, locals := 0 } : Room).cells ({ frames := 0, cells := 0, slots := 0, locals := 0 } : Room).slots) := by
  refine MetFree.of_bodySF (plainFor_of_name pn0) hisR ?_
  intro p e s m args below meth c s₁ Bd hml0 hP hK
  obtain ⟨rfl, hZ, hh⟩ := hP
  have hx := Bd.exec
  have hby := Bd.bytes
  have hlk : meth.locks = false := BodyLoose.notSynchronized Bd
  have hret := Bd.returns
  have hml : c.maxLocals = 3 := hml0
  have hown : s.vm.findClass "com/example/polytrace/polytrace/model/Trace$Bits" = some m.cls := findClass_of_methodNamed Bd.named
  have hnm := (name_of_methodNamed Bd.named Bd.method).1
  have X0 : Stand p l e ({ frames := 0, cells := 0, slots := 0, locals := 0 } : Room) s m #[(.ref a), (.ref o)] below meth c s₁ [] 0 0 := Stand.of_body Bd
  have e0 : s₁.heap = h0 := by rw [← hh, Bd.state]; rfl
  have N0 := Fr.nil n0
  show Go p e below s ({ frames := 0, cells := 0, slots := 0, locals := 0 } : Room).cells ({ frames := 0, cells := 0, slots := 0, locals := 0 } : Room).slots (Q_eqI Z a o h0 n0) s₁ (entryFrame m #[(.ref a), (.ref o)] 3)
  refine own_cast (g' := mkF m 0 #[.val (.ref a), .val (.ref o), .unset] []) (by first | (simp [entryFrame, mkF, argsToLocals, Value.category]; done) | rfl) ?_
  show Go _ _ _ _ _ _ _ _ (mkF m 0 #[.val (.ref a), .val (.ref o), .unset] [])
  refine own_via ?_ fun _ kt => XS.aloadN X0.here hx rfl (hb hby d_eqI_0) rfl rfl kt
  show Go _ _ _ _ _ _ _ _ (mkF m 1 #[.val (.ref a), .val (.ref o), .unset] [(.ref o)])
  obtain ⟨T1, X1, e1, st1⟩ := instNo X0 hx hZ hown (hw _ (List.mem_of_getElem? (i := 33) rfl)) e0 E (own_no (hw _ (List.mem_of_getElem? (i := 35) rfl)) (hw _ (List.mem_of_getElem? (i := 36) rfl)) (hw _ (List.mem_of_getElem? (i := 37) rfl)) (hw _ (List.mem_of_getElem? (i := 39) rfl)) (hw _ (List.mem_of_getElem? (i := 3) rfl)) (by decide) (by decide) (by decide)) (g := (mkF m 1 #[.val (.ref a), .val (.ref o), .unset] [(.ref o)])) rfl rfl (hb hby d_eqI_1)
  refine own_via ?_ st1
  show Go _ _ _ _ _ _ _ _ (mkF m 4 #[.val (.ref a), .val (.ref o), .unset] [(.int (0 : Int32))])
  refine own_via ?_ fun _ kt => XS.ifYes X1.here hx rfl (pc0 := 4) (pc' := 71) rfl (hb hby d_eqI_4) rfl ((if0 _ _).trans (teq rfl).1) (by decide) (by decide) kt
  show Go _ _ _ _ _ _ _ _ (mkF m 71 #[.val (.ref a), .val (.ref o), .unset] [])
  refine own_via ?_ fun _ kt => XS.iconst X1.here hx rfl (hb hby d_eqI_71) kt
  show Go _ _ _ _ _ _ _ _ (mkF m 72 #[.val (.ref a), .val (.ref o), .unset] [(.int (0 : Int32))])
  exact own_retZ (z' := (0 : Int32)) X1 hx hret hlk (hb hby d_eqI_72) rfl (by decide) (by decide) (by rw [e1]; exact ⟨rfl, N0, rfl⟩)
theorem d_num_0 : decode jdk_18_method_1_code 0 = .ok (.aload_n 0, 1) := by decide +kernel
theorem d_num_1 : decode jdk_18_method_1_code 1 = .ok (.invokespecial 1, 3) := by decide +kernel
theorem d_num_4 : decode jdk_18_method_1_code 4 = .ok (.return_, 1) := by decide +kernel
def Q_num (Z : State) (a : Addr) (h0 : Heap) (n0 : Nat) (v : Option Value) (h : Heap) (L : List Loc) : Prop := v = none ∧ Fr n0 L ∧ h = h0
set_option maxRecDepth 65536 in
set_option maxHeartbeats 40000000 in
theorem rm_num (l : Launch) (Z : State) (a0 : Array Value) (hw : ∀ d ∈ tables_1, d.before a0 Z = true) (ws : List Jvm.Cond) (a : Addr) (h0 : Heap) (n0 : Nat) (Z0 : n0 ≤ h0.size) :
    MetFree l (⟨"java/lang/Number", "<init>", "()V"⟩ : MethodName) (head1 (Jvm.Cond.code (⟨"java/lang/Number", "<init>", "()V"⟩ : MethodName) jdk_18_method_1_code 1 none :: ws) ({ frames := 1, cells := 0, slots := 0, locals := 12 } : Room)) (fun aa_ U => aa_ = #[(.ref a)] ∧ Z.Warmed39 U.vm ∧ U.heap = h0) (fun _ _ _ _ _ => True) (fun _ UU_ oo_ UV_ => ∃ vv_ LL_, oo_ = .returned vv_ ∧ (Q_num Z a h0 n0) vv_ UV_.heap LL_ ∧ FrameEnd UU_ oo_ UV_ LL_ ({ frames := 1, cells := 0, slots := 0, locals := 12 } : Room).cells ({ frames := 1, cells := 0, slots := 0, locals := 12 } : Room).slots) := by
  refine MetFree.of_bodySF (plainFor_of_name pn1) hisR ?_
  intro p e s m args below meth c s₁ Bd hml0 hP hK
  obtain ⟨rfl, hZ, hh⟩ := hP
  have hx := Bd.exec
  have hby := Bd.bytes
  have hlk : meth.locks = false := BodyLoose.notSynchronized Bd
  have hret := Bd.returns
  have hml : c.maxLocals = 1 := hml0
  have hown : s.vm.findClass "java/lang/Number" = some m.cls := findClass_of_methodNamed Bd.named
  have hnm := (name_of_methodNamed Bd.named Bd.method).1
  have X0 : Stand p l e ({ frames := 1, cells := 0, slots := 0, locals := 12 } : Room) s m #[(.ref a)] below meth c s₁ [] 0 0 := Stand.of_body Bd
  have e0 : s₁.heap = h0 := by rw [← hh, Bd.state]; rfl
  have N0 := Fr.nil n0
  show Go p e below s ({ frames := 1, cells := 0, slots := 0, locals := 12 } : Room).cells ({ frames := 1, cells := 0, slots := 0, locals := 12 } : Room).slots (Q_num Z a h0 n0) s₁ (entryFrame m #[(.ref a)] 1)
  refine own_cast (g' := mkF m 0 #[.val (.ref a)] []) (by first | (simp [entryFrame, mkF, argsToLocals, Value.category]; done) | rfl) ?_
  show Go _ _ _ _ _ _ _ _ (mkF m 0 #[.val (.ref a)] [])
  refine own_via ?_ fun _ kt => XS.aloadN X0.here hx rfl (hb hby d_num_0) rfl rfl kt
  show Go _ _ _ _ _ _ _ _ (mkF m 1 #[.val (.ref a)] [(.ref a)])
  obtain ⟨T1, X1, e1, st1⟩ := initO X0 hx hZ hown (hw _ (List.mem_of_getElem? (i := 50) rfl)) (hw _ (List.mem_of_getElem? (i := 9) rfl)) (hw _ (List.mem_of_getElem? (i := 10) rfl)) e0 (g := (mkF m 1 #[.val (.ref a)] [(.ref a)])) rfl (by rw [hml]; rfl) rfl (hb hby d_num_1) (by decide) (W := 0) (by show 2 * 0 + _ ≤ _; exact Nat.le_of_eq rfl) (by decide)
  refine own_via ?_ st1
  show Go _ _ _ _ _ _ _ _ (mkF m 4 #[.val (.ref a)] [])
  exact own_retV X1 hx hret hlk (hb hby d_num_4) (by decide) (by decide) (by rw [e1]; exact ⟨rfl, N0, rfl⟩)
theorem d_ini_0 : decode jdk_33_method_23_code 0 = .ok (.aload_n 0, 1) := by decide +kernel
theorem d_ini_1 : decode jdk_33_method_23_code 1 = .ok (.invokespecial 202, 3) := by decide +kernel
theorem d_ini_4 : decode jdk_33_method_23_code 4 = .ok (.aload_n 0, 1) := by decide +kernel
theorem d_ini_5 : decode jdk_33_method_23_code 5 = .ok (.iload_n 1, 1) := by decide +kernel
theorem d_ini_6 : decode jdk_33_method_23_code 6 = .ok (.putfield 205, 3) := by decide +kernel
theorem d_ini_9 : decode jdk_33_method_23_code 9 = .ok (.return_, 1) := by decide +kernel
def Q_ini (Z : State) (a : Addr) (i : Int32) (h0 : Heap) (n0 : Nat) (v : Option Value) (h : Heap) (L : List Loc) : Prop := v = none ∧ Fr n0 L ∧ Keep h0 h [a] ∧ Exa Z h a "java/lang/Integer" ∧ Fld Z h a "java/lang/Integer" "value" "I" (.int i)
set_option maxRecDepth 65536 in
set_option maxHeartbeats 40000000 in
theorem rm_ini (l : Launch) (Z : State) (a0 : Array Value) (hw : ∀ d ∈ tables_1, d.before a0 Z = true) (ws : List Jvm.Cond) (a : Addr) (i : Int32) (h0 : Heap) (n0 : Nat) (Z0 : n0 ≤ h0.size) (g_a : n0 ≤ a) (E : Exa Z h0 a "java/lang/Integer") (F : Fld Z h0 a "java/lang/Integer" "value" "I" (.int (0 : Int32))) :
    MetFree l (⟨"java/lang/Integer", "<init>", "(I)V"⟩ : MethodName) (head1 (Jvm.Cond.code (⟨"java/lang/Integer", "<init>", "(I)V"⟩ : MethodName) jdk_33_method_23_code 2 none :: ws) ({ frames := 2, cells := 0, slots := 0, locals := 24 } : Room)) (fun aa_ U => aa_ = #[(.ref a), (.int i)] ∧ Z.Warmed39 U.vm ∧ U.heap = h0) (fun _ _ _ _ _ => True) (fun _ UU_ oo_ UV_ => ∃ vv_ LL_, oo_ = .returned vv_ ∧ (Q_ini Z a i h0 n0) vv_ UV_.heap LL_ ∧ FrameEnd UU_ oo_ UV_ LL_ ({ frames := 2, cells := 0, slots := 0, locals := 24 } : Room).cells ({ frames := 2, cells := 0, slots := 0, locals := 24 } : Room).slots) := by
  refine MetFree.of_bodySF (plainFor_of_name pn2) hisR ?_
  intro p e s m args below meth c s₁ Bd hml0 hP hK
  obtain ⟨rfl, hZ, hh⟩ := hP
  have hx := Bd.exec
  have hby := Bd.bytes
  have hlk : meth.locks = false := BodyLoose.notSynchronized Bd
  have hret := Bd.returns
  have hml : c.maxLocals = 2 := hml0
  have hown : s.vm.findClass "java/lang/Integer" = some m.cls := findClass_of_methodNamed Bd.named
  have hnm := (name_of_methodNamed Bd.named Bd.method).1
  have X0 : Stand p l e ({ frames := 2, cells := 0, slots := 0, locals := 24 } : Room) s m #[(.ref a), (.int i)] below meth c s₁ [] 0 0 := Stand.of_body Bd
  have e0 : s₁.heap = h0 := by rw [← hh, Bd.state]; rfl
  have N0 := Fr.nil n0
  show Go p e below s ({ frames := 2, cells := 0, slots := 0, locals := 24 } : Room).cells ({ frames := 2, cells := 0, slots := 0, locals := 24 } : Room).slots (Q_ini Z a i h0 n0) s₁ (entryFrame m #[(.ref a), (.int i)] 2)
  refine own_cast (g' := mkF m 0 #[.val (.ref a), .val (.int i)] []) (by first | (simp [entryFrame, mkF, argsToLocals, Value.category]; done) | rfl) ?_
  have K0 := Keep.refl h0 ([a] : List Addr)
  show Go _ _ _ _ _ _ _ _ (mkF m 0 #[.val (.ref a), .val (.int i)] [])
  refine own_via ?_ fun _ kt => XS.aloadN X0.here hx rfl (hb hby d_ini_0) rfl rfl kt
  show Go _ _ _ _ _ _ _ _ (mkF m 1 #[.val (.ref a), .val (.int i)] [(.ref a)])
  obtain ⟨_, _, ⟨T1, L1, k1, n1⟩, -, X1, ⟨Lc1, hQ1, l1, y1, z1⟩, st1⟩ := X0.specialBack hx (y := (⟨"java/lang/Number", "<init>", "()V"⟩ : MethodName)) rfl hown (mvT hZ (hw _ (List.mem_of_getElem? (i := 44) rfl))) (mvT hZ (hw _ (List.mem_of_getElem? (i := 45) rfl))) (mvT hZ (hw _ (List.mem_of_getElem? (i := 49) rfl))) (by decide) (backOf (W := 0) (rm_num l Z a0 hw [] a h0 n0 Z0) hZ (hw _ (List.mem_of_getElem? (i := 49) rfl)) (hw _ (List.mem_of_getElem? (i := 48) rfl)) (by decide) (by decide)) (g := (mkF m 1 #[.val (.ref a), .val (.int i)] [(.ref a)])) rfl (by rw [hml]; rfl) (Steps.refl _) (a := a) (argsL := []) (rest := []) (lenOf pd0 rfl) rfl (by show 2 * 0 + _ ≤ _; exact Nat.le_of_eq rfl) (hb hby d_ini_1) (fun _ _ => ⟨rfl, e0, (by decide : 0 + 0 ≤ _), (by decide : 0 + 0 ≤ _)⟩)
  dsimp only [Pt.U, Pt.locs, Pt.cells, Pt.slots] at X1 l1 y1 z1 st1 hQ1
  subst l1 y1 z1
  obtain ⟨rfl, Nq1, e1⟩ := hQ1
  have N1 := Fr.app N0 Nq1
  refine own_join ?_ st1
  show Go _ _ _ _ _ _ _ _ (mkF m 4 #[.val (.ref a), .val (.int i)] [])
  refine own_via ?_ fun _ kt => XS.aloadN X1.here hx rfl (hb hby d_ini_4) rfl rfl kt
  show Go _ _ _ _ _ _ _ _ (mkF m 5 #[.val (.ref a), .val (.int i)] [(.ref a)])
  refine own_via ?_ fun _ kt => XS.iloadN X1.here hx rfl (hb hby d_ini_5) rfl kt
  show Go _ _ _ _ _ _ _ _ (mkF m 6 #[.val (.ref a), .val (.int i)] [(.int i), (.ref a)])
  obtain ⟨T2, h2, X2, e2, W2, st2⟩ := putF X1 hx hZ hown (host := "") (Or.inl (hw _ (List.mem_of_getElem? (i := 51) rfl))) Via.refl e1 F E (Or.inr ⟨(hw _ (List.mem_of_getElem? (i := 52) rfl)), rfl, hnm⟩) (hw _ (List.mem_of_getElem? (i := 39) rfl)) (ty := .int) (by decide) rfl rfl (g := (mkF m 6 #[.val (.ref a), .val (.int i)] [(.int i), (.ref a)])) rfl rfl (hb hby d_ini_6)
  have N2 := Fr.snoc X2 N1 g_a
  replace E := E.wr W2
  replace F := F.same W2
  replace Z0 := Nat.le_trans Z0 (Keep.of_wr W2).1
  replace K0 := K0.wr W2 (Or.inl (List.mem_of_getElem? (i := 0) rfl))
  refine own_via ?_ st2
  show Go _ _ _ _ _ _ _ _ (mkF m 9 #[.val (.ref a), .val (.int i)] [])
  exact own_retV X2 hx hret hlk (hb hby d_ini_9) (by decide) (by decide) (by rw [e2]; exact ⟨rfl, N2, K0, E, F⟩)
theorem own_idx {i : Int32} (h1 : ¬ i < (-128 : Int32)) (h2 : ¬ (127 : Int32) < i) : ¬ (i + (128 : Int32)) < 0 ∧ (i + (128 : Int32)) < (256 : Int32) := by
  have a := c_iadd i 128
  have r := rng32 (i + 128)
  have r' := rng32 i
  have e1 : (-128 : Int32).toInt = -128 := by decide
  have e2 : (127 : Int32).toInt = 127 := by decide
  have e3 : (128 : Int32).toInt = 128 := by decide
  have e4 : (256 : Int32).toInt = 256 := by decide
  have e0 : (0 : Int32).toInt = 0 := by decide
  simp only [Int32.lt_iff_toInt_lt] at *
  omega
theorem d_valueOf_0 : decode jdk_33_method_22_code 0 = .ok (.iload_n 0, 1) := by decide +kernel
theorem d_valueOf_1 : decode jdk_33_method_22_code 1 = .ok (.bipush (-128), 2) := by decide +kernel
theorem d_valueOf_3 : decode jdk_33_method_22_code 3 = .ok (.if_icmp .lt 20, 3) := by decide +kernel
theorem d_valueOf_6 : decode jdk_33_method_22_code 6 = .ok (.iload_n 0, 1) := by decide +kernel
theorem d_valueOf_7 : decode jdk_33_method_22_code 7 = .ok (.getstatic 191, 3) := by decide +kernel
theorem d_valueOf_10 : decode jdk_33_method_22_code 10 = .ok (.if_icmp .gt 13, 3) := by decide +kernel
theorem d_valueOf_13 : decode jdk_33_method_22_code 13 = .ok (.getstatic 195, 3) := by decide +kernel
theorem d_valueOf_16 : decode jdk_33_method_22_code 16 = .ok (.iload_n 0, 1) := by decide +kernel
theorem d_valueOf_17 : decode jdk_33_method_22_code 17 = .ok (.sipush 128, 3) := by decide +kernel
theorem d_valueOf_20 : decode jdk_33_method_22_code 20 = .ok (.iadd, 1) := by decide +kernel
theorem d_valueOf_21 : decode jdk_33_method_22_code 21 = .ok (.aaload, 1) := by decide +kernel
theorem d_valueOf_22 : decode jdk_33_method_22_code 22 = .ok (.areturn, 1) := by decide +kernel
theorem d_valueOf_23 : decode jdk_33_method_22_code 23 = .ok (.new 1, 3) := by decide +kernel
theorem d_valueOf_26 : decode jdk_33_method_22_code 26 = .ok (.dup, 1) := by decide +kernel
theorem d_valueOf_27 : decode jdk_33_method_22_code 27 = .ok (.iload_n 0, 1) := by decide +kernel
theorem d_valueOf_28 : decode jdk_33_method_22_code 28 = .ok (.invokespecial 199, 3) := by decide +kernel
theorem d_valueOf_31 : decode jdk_33_method_22_code 31 = .ok (.areturn, 1) := by decide +kernel
def Q_valueOf (Z : State) (i : Int32) (ca : Addr) (cl : Cell) (h0 : Heap) (n0 : Nat) (v : Option Value) (h : Heap) (L : List Loc) : Prop := ∃ a, v = some (.ref a) ∧ Exa Z h a "java/lang/Integer" ∧ Fr n0 L ∧ Keep h0 h []
set_option maxRecDepth 65536 in
set_option maxHeartbeats 40000000 in
theorem rm_valueOf (l : Launch) (Z : State) (a0 : Array Value) (hw : ∀ d ∈ tables_1, d.before a0 Z = true) (ws : List Jvm.Cond) (i : Int32) (ca : Addr) (cl : Cell) (h0 : Heap) (n0 : Nat) (Z0 : n0 ≤ h0.size) (O : Old Z n0 h0) (Sh : Sta Z Z.heap "java/lang/Integer$IntegerCache" "high" "I" (.int (127 : Int32))) (Sc : Sta Z Z.heap "java/lang/Integer$IntegerCache" "cache" "[Ljava/lang/Integer;" (.ref ca)) (BX : Bxs Z ca cl "java/lang/Integer" "I" (256 : Int32) (fun j => .int (j - (128 : Int32)))) :
    MetFree l (⟨"java/lang/Integer", "valueOf", "(I)Ljava/lang/Integer;"⟩ : MethodName) (head1 (Jvm.Cond.code (⟨"java/lang/Integer", "valueOf", "(I)Ljava/lang/Integer;"⟩ : MethodName) jdk_33_method_22_code 1 (some (.object "java/lang/Integer")) :: ws) ({ frames := 3, cells := 1, slots := 1, locals := 40 } : Room)) (fun aa_ U => aa_ = #[(.int i)] ∧ Z.Warmed39 U.vm ∧ U.heap = h0) (fun _ _ _ _ _ => True) (fun _ UU_ oo_ UV_ => ∃ vv_ LL_, oo_ = .returned vv_ ∧ (Q_valueOf Z i ca cl h0 n0) vv_ UV_.heap LL_ ∧ FrameEnd UU_ oo_ UV_ LL_ ({ frames := 3, cells := 1, slots := 1, locals := 40 } : Room).cells ({ frames := 3, cells := 1, slots := 1, locals := 40 } : Room).slots) := by
  refine MetFree.of_bodySF (plainFor_of_name pn2) hisR ?_
  intro p e s m args below meth c s₁ Bd hml0 hP hK
  obtain ⟨rfl, hZ, hh⟩ := hP
  have hx := Bd.exec
  have hby := Bd.bytes
  have hlk : meth.locks = false := BodyLoose.notSynchronized Bd
  have hret := Bd.returns
  have hml : c.maxLocals = 1 := hml0
  have hown : s.vm.findClass "java/lang/Integer" = some m.cls := findClass_of_methodNamed Bd.named
  have hnm := (name_of_methodNamed Bd.named Bd.method).1
  have X0 : Stand p l e ({ frames := 3, cells := 1, slots := 1, locals := 40 } : Room) s m #[(.int i)] below meth c s₁ [] 0 0 := Stand.of_body Bd
  have e0 : s₁.heap = h0 := by rw [← hh, Bd.state]; rfl
  have N0 := Fr.nil n0
  show Go p e below s ({ frames := 3, cells := 1, slots := 1, locals := 40 } : Room).cells ({ frames := 3, cells := 1, slots := 1, locals := 40 } : Room).slots (Q_valueOf Z i ca cl h0 n0) s₁ (entryFrame m #[(.int i)] 1)
  refine own_cast (g' := mkF m 0 #[.val (.int i)] []) (by first | (simp [entryFrame, mkF, argsToLocals, Value.category]; done) | rfl) ?_
  have K0 := Keep.refl h0 ([] : List Addr)
  show Go _ _ _ _ _ _ _ _ (mkF m 0 #[.val (.int i)] [])
  refine own_via ?_ fun _ kt => XS.iloadN X0.here hx rfl (hb hby d_valueOf_0) rfl kt
  show Go _ _ _ _ _ _ _ _ (mkF m 1 #[.val (.int i)] [(.int i)])
  refine own_via ?_ fun _ kt => XS.bipush X0.here hx rfl (hb hby d_valueOf_1) kt
  show Go _ _ _ _ _ _ _ _ (mkF m 3 #[.val (.int i)] [(.int (-128 : Int32)), (.int i)])
  by_cases hc1 : i < (-128 : Int32)
  · skip
    refine own_via ?_ fun _ kt => XS.icmpYes X0.here hx rfl (pc0 := 3) (pc' := 23) rfl (hb hby d_valueOf_3) rfl (tlt hc1).1 (by decide) (by decide) kt
    show Go _ _ _ _ _ _ _ _ (mkF m 23 #[.val (.int i)] [])
    obtain ⟨T2, h2, X2, e2, E2, A2, D2, -, st2⟩ := newO X0 hx hZ hown (hw _ (List.mem_of_getElem? (i := 38) rfl)) (hw _ (List.mem_of_getElem? (i := 39) rfl)) (hw _ (List.mem_of_getElem? (i := 23) rfl)) e0 (g := (mkF m 23 #[.val (.int i)] [])) rfl (hb hby d_valueOf_23) (by decide) (by decide)
    obtain ⟨b2, g2⟩ : ∃ z, z = h0.size := ⟨_, rfl⟩
    rw [← g2] at A2 D2 st2
    have g_b2 : n0 ≤ b2 := by rw [g2]; exact Z0
    have sz_b2 : h0.size ≤ b2 := by rw [g2]; exact K0.1
    replace Z0 := Nat.le_trans Z0 E2.1
    replace K0 := K0.ext E2
    replace O := O.ext E2
    have F_value_b2 : Fld Z h2 b2 "java/lang/Integer" "value" "I" (.int (0 : Int32)) := D2 (Or.inr (hw _ (List.mem_of_getElem? (i := 52) rfl))) (ty := .int) (by decide)
    refine own_via ?_ st2
    show Go _ _ _ _ _ _ _ _ (mkF m 26 #[.val (.int i)] [(.ref b2)])
    refine own_via ?_ fun _ kt => XS.dup X2.here hx rfl (hb hby d_valueOf_26) rfl rfl kt
    show Go _ _ _ _ _ _ _ _ (mkF m 27 #[.val (.int i)] [(.ref b2), (.ref b2)])
    refine own_via ?_ fun _ kt => XS.iloadN X2.here hx rfl (hb hby d_valueOf_27) rfl kt
    show Go _ _ _ _ _ _ _ _ (mkF m 28 #[.val (.int i)] [(.int i), (.ref b2), (.ref b2)])
    obtain ⟨_, _, ⟨T3, L3, k3, n3⟩, -, X3, ⟨Lc3, hQ3, l3, y3, z3⟩, st3⟩ := X2.specialBack hx (y := (⟨"java/lang/Integer", "<init>", "(I)V"⟩ : MethodName)) rfl hown (mvT hZ (hw _ (List.mem_of_getElem? (i := 40) rfl))) (mvT hZ (hw _ (List.mem_of_getElem? (i := 41) rfl))) (mvT hZ (hw _ (List.mem_of_getElem? (i := 43) rfl))) (by decide) (backOf (W := 1) (rm_ini l Z a0 hw [] b2 i h2 n0 Z0 g_b2 A2 F_value_b2) hZ (hw _ (List.mem_of_getElem? (i := 43) rfl)) (hw _ (List.mem_of_getElem? (i := 23) rfl)) (by decide) (by decide)) (g := (mkF m 28 #[.val (.int i)] [(.int i), (.ref b2), (.ref b2)])) rfl (by rw [hml]; rfl) (Steps.refl _) (a := b2) (argsL := [(.int i)]) (rest := [(.ref b2)]) (lenOf pd1 rfl) rfl (by show 2 * 0 + _ ≤ _; exact Nat.le_of_eq rfl) (hb hby d_valueOf_28) (fun _ _ => ⟨rfl, e2, (by decide : 1 + 0 ≤ _), (by decide : 1 + 0 ≤ _)⟩)
    dsimp only [Pt.U, Pt.locs, Pt.cells, Pt.slots] at X3 l3 y3 z3 st3 hQ3
    subst l3 y3 z3
    obtain ⟨h3, e3⟩ : ∃ z, T3.heap = z := ⟨_, rfl⟩
    rw [e3] at hQ3
    obtain ⟨rfl, Nq3, Kq3, Ei3, Fi3⟩ := hQ3
    have N3 := Fr.app N0 Nq3
    replace Z0 := Nat.le_trans Z0 Kq3.1
    replace K0 := K0.trans Kq3 (allS (Or.inr sz_b2) all0)
    replace O := O.keep Kq3 (allS g_b2 all0)
    refine own_join ?_ st3
    show Go _ _ _ _ _ _ _ _ (mkF m 31 #[.val (.int i)] [(.ref b2)])
    exact own_retR X3 hx hret hlk rfl rfl (hb hby d_valueOf_31) (by decide) (by decide) (by rw [e3]; exact ⟨b2, rfl, Ei3, N3, K0⟩)
  · skip
    refine own_via ?_ fun _ kt => XS.icmpNo X0.here hx rfl (hb hby d_valueOf_3) rfl (flt hc1).1 kt
    show Go _ _ _ _ _ _ _ _ (mkF m 6 #[.val (.int i)] [])
    refine own_via ?_ fun _ kt => XS.iloadN X0.here hx rfl (hb hby d_valueOf_6) rfl kt
    show Go _ _ _ _ _ _ _ _ (mkF m 7 #[.val (.int i)] [(.int i)])
    obtain ⟨T4, X4, e4, st4⟩ := getS2 X0 hx hZ hown (host := "") (Or.inl (hw _ (List.mem_of_getElem? (i := 25) rfl))) Via.refl e0 (Sh.ext O.2) (g := (mkF m 7 #[.val (.int i)] [(.int i)])) rfl (hb hby d_valueOf_7)
    refine own_via ?_ st4
    show Go _ _ _ _ _ _ _ _ (mkF m 10 #[.val (.int i)] [(.int (127 : Int32)), (.int i)])
    by_cases hc5 : (127 : Int32) < i
    · skip
      refine own_via ?_ fun _ kt => XS.icmpYes X4.here hx rfl (pc0 := 10) (pc' := 23) rfl (hb hby d_valueOf_10) rfl (tlt hc5).2.2.1 (by decide) (by decide) kt
      show Go _ _ _ _ _ _ _ _ (mkF m 23 #[.val (.int i)] [])
      obtain ⟨T6, h6, X6, e6, E6, A6, D6, -, st6⟩ := newO X4 hx hZ hown (hw _ (List.mem_of_getElem? (i := 38) rfl)) (hw _ (List.mem_of_getElem? (i := 39) rfl)) (hw _ (List.mem_of_getElem? (i := 23) rfl)) e4 (g := (mkF m 23 #[.val (.int i)] [])) rfl (hb hby d_valueOf_23) (by decide) (by decide)
      obtain ⟨b6, g6⟩ : ∃ z, z = h0.size := ⟨_, rfl⟩
      rw [← g6] at A6 D6 st6
      have g_b6 : n0 ≤ b6 := by rw [g6]; exact Z0
      have sz_b6 : h0.size ≤ b6 := by rw [g6]; exact K0.1
      replace Z0 := Nat.le_trans Z0 E6.1
      replace K0 := K0.ext E6
      replace O := O.ext E6
      have F_value_b6 : Fld Z h6 b6 "java/lang/Integer" "value" "I" (.int (0 : Int32)) := D6 (Or.inr (hw _ (List.mem_of_getElem? (i := 52) rfl))) (ty := .int) (by decide)
      refine own_via ?_ st6
      show Go _ _ _ _ _ _ _ _ (mkF m 26 #[.val (.int i)] [(.ref b6)])
      refine own_via ?_ fun _ kt => XS.dup X6.here hx rfl (hb hby d_valueOf_26) rfl rfl kt
      show Go _ _ _ _ _ _ _ _ (mkF m 27 #[.val (.int i)] [(.ref b6), (.ref b6)])
      refine own_via ?_ fun _ kt => XS.iloadN X6.here hx rfl (hb hby d_valueOf_27) rfl kt
      show Go _ _ _ _ _ _ _ _ (mkF m 28 #[.val (.int i)] [(.int i), (.ref b6), (.ref b6)])
      obtain ⟨_, _, ⟨T7, L7, k7, n7⟩, -, X7, ⟨Lc7, hQ7, l7, y7, z7⟩, st7⟩ := X6.specialBack hx (y := (⟨"java/lang/Integer", "<init>", "(I)V"⟩ : MethodName)) rfl hown (mvT hZ (hw _ (List.mem_of_getElem? (i := 40) rfl))) (mvT hZ (hw _ (List.mem_of_getElem? (i := 41) rfl))) (mvT hZ (hw _ (List.mem_of_getElem? (i := 43) rfl))) (by decide) (backOf (W := 1) (rm_ini l Z a0 hw [] b6 i h6 n0 Z0 g_b6 A6 F_value_b6) hZ (hw _ (List.mem_of_getElem? (i := 43) rfl)) (hw _ (List.mem_of_getElem? (i := 23) rfl)) (by decide) (by decide)) (g := (mkF m 28 #[.val (.int i)] [(.int i), (.ref b6), (.ref b6)])) rfl (by rw [hml]; rfl) (Steps.refl _) (a := b6) (argsL := [(.int i)]) (rest := [(.ref b6)]) (lenOf pd1 rfl) rfl (by show 2 * 0 + _ ≤ _; exact Nat.le_of_eq rfl) (hb hby d_valueOf_28) (fun _ _ => ⟨rfl, e6, (by decide : 1 + 0 ≤ _), (by decide : 1 + 0 ≤ _)⟩)
      dsimp only [Pt.U, Pt.locs, Pt.cells, Pt.slots] at X7 l7 y7 z7 st7 hQ7
      subst l7 y7 z7
      obtain ⟨h7, e7⟩ : ∃ z, T7.heap = z := ⟨_, rfl⟩
      rw [e7] at hQ7
      obtain ⟨rfl, Nq7, Kq7, Ei7, Fi7⟩ := hQ7
      have N7 := Fr.app N0 Nq7
      replace Z0 := Nat.le_trans Z0 Kq7.1
      replace K0 := K0.trans Kq7 (allS (Or.inr sz_b6) all0)
      replace O := O.keep Kq7 (allS g_b6 all0)
      refine own_join ?_ st7
      show Go _ _ _ _ _ _ _ _ (mkF m 31 #[.val (.int i)] [(.ref b6)])
      exact own_retR X7 hx hret hlk rfl rfl (hb hby d_valueOf_31) (by decide) (by decide) (by rw [e7]; exact ⟨b6, rfl, Ei7, N7, K0⟩)
    · skip
      refine own_via ?_ fun _ kt => XS.icmpNo X4.here hx rfl (hb hby d_valueOf_10) rfl (flt hc5).2.2.1 kt
      show Go _ _ _ _ _ _ _ _ (mkF m 13 #[.val (.int i)] [])
      obtain ⟨T8, X8, e8, st8⟩ := getS2 X4 hx hZ hown (host := "") (Or.inl (hw _ (List.mem_of_getElem? (i := 27) rfl))) Via.refl e4 (Sc.ext O.2) (g := (mkF m 13 #[.val (.int i)] [])) rfl (hb hby d_valueOf_13)
      refine own_via ?_ st8
      show Go _ _ _ _ _ _ _ _ (mkF m 16 #[.val (.int i)] [(.ref ca)])
      refine own_via ?_ fun _ kt => XS.iloadN X8.here hx rfl (hb hby d_valueOf_16) rfl kt
      show Go _ _ _ _ _ _ _ _ (mkF m 17 #[.val (.int i)] [(.int i), (.ref ca)])
      refine own_via ?_ fun _ kt => XS.sipush X8.here hx rfl (hb hby d_valueOf_17) kt
      show Go _ _ _ _ _ _ _ _ (mkF m 20 #[.val (.int i)] [(.int (128 : Int32)), (.int i), (.ref ca)])
      refine own_via ?_ fun _ kt => XS.iadd X8.here hx rfl (hb hby d_valueOf_20) rfl kt
      show Go _ _ _ _ _ _ _ _ (mkF m 21 #[.val (.int i)] [(.int (i + (128 : Int32))), (.ref ca)])
      have hj := own_idx hc1 hc5
      have hin : ¬ ((i + (128 : Int32)) < 0 ∨ cl.slots.size ≤ ((i + (128 : Int32))).toNatClampNeg) := inb_of BX.2.1 hj
      obtain ⟨r, hat, Er, -⟩ := BX.2.2.2 _ hin
      have Ac := BX.1.ext O.2
      refine own_via ?_ fun _ kt => X8.aaload hx (j := (i + (128 : Int32))) (v := .ref r) (by rw [e8]; exact Ac.1) (State.isArrayOf_alike hZ.alike Ac.2.1) rfl Ac.2.2 hin hat (g := (mkF m 21 #[.val (.int i)] [(.int (i + (128 : Int32))), (.ref ca)])) rfl rfl (hb hby d_valueOf_21) _ kt
      show Go _ _ _ _ _ _ _ _ (mkF m 22 #[.val (.int i)] [(.ref r)])
      exact own_retR X8 hx hret hlk rfl rfl (hb hby d_valueOf_22) (by decide) (by decide) (by rw [e8]; exact ⟨r, rfl, (Er.ext O.2), N0, K0⟩)
def Q_law (Z : State) (n d lw h_ w f : Int32) (ca : Addr) (cl : Cell) (h0 : Heap) (n0 : Nat) (v : Option Value) (h : Heap) (L : List Loc) : Prop := v = some (.int 1) ∧ Fr n0 L
set_option maxRecDepth 65536 in
set_option maxHeartbeats 40000000 in
theorem rm_law (l : Launch) (Z : State) (a0 : Array Value) (hw : ∀ d ∈ tables_1, d.before a0 Z = true) (ws : List Jvm.Cond) (n d lw h_ w f : Int32) (ca : Addr) (cl : Cell) (h0 : Heap) (n0 : Nat) (Z0 : n0 ≤ h0.size) (O : Old Z n0 h0) (Sh : Sta Z Z.heap "java/lang/Integer$IntegerCache" "high" "I" (.int (127 : Int32))) (Sc : Sta Z Z.heap "java/lang/Integer$IntegerCache" "cache" "[Ljava/lang/Integer;" (.ref ca)) (BX : Bxs Z ca cl "java/lang/Integer" "I" (256 : Int32) (fun j => .int (j - (128 : Int32)))) :
    MetFree l x (head1 (Jvm.Cond.code x code maxLocals ret :: ws) room_1) (fun aa_ U => aa_ = #[(.int n), (.int d), (.int lw), (.int h_), (.int w), (.int f)] ∧ Z.Warmed39 U.vm ∧ U.heap = h0) (fun _ _ _ _ _ => True) (fun _ UU_ oo_ UV_ => ∃ vv_ LL_, oo_ = .returned vv_ ∧ (Q_law Z n d lw h_ w f ca cl h0 n0) vv_ UV_.heap LL_ ∧ FrameEnd UU_ oo_ UV_ LL_ room_1.cells room_1.slots) := by
  refine MetFree.of_bodySF (plainFor_of_name pn3) hisR ?_
  intro p e s m args below meth c s₁ Bd hml0 hP hK
  obtain ⟨rfl, hZ, hh⟩ := hP
  have hx := Bd.exec
  have hby := Bd.bytes
  have hlk : meth.locks = false := BodyLoose.notSynchronized Bd
  have hret := Bd.returns
  have hml : c.maxLocals = 20 := hml0
  have hown : s.vm.findClass "com/example/polytrace/polytrace/model/BitsEqualsPinLaw" = some m.cls := findClass_of_methodNamed Bd.named
  have hnm := (name_of_methodNamed Bd.named Bd.method).1
  have X0 : Stand p l e room_1 s m #[(.int n), (.int d), (.int lw), (.int h_), (.int w), (.int f)] below meth c s₁ [] 0 0 := Stand.of_body Bd
  have e0 : s₁.heap = h0 := by rw [← hh, Bd.state]; rfl
  have N0 := Fr.nil n0
  show Go p e below s room_1.cells room_1.slots (Q_law Z n d lw h_ w f ca cl h0 n0) s₁ (entryFrame m #[(.int n), (.int d), (.int lw), (.int h_), (.int w), (.int f)] maxLocals)
  refine own_cast (g' := mkF m 0 #[.val (.int n), .val (.int d), .val (.int lw), .val (.int h_), .val (.int w), .val (.int f), .unset, .unset, .unset, .unset, .unset, .unset, .unset, .unset, .unset, .unset, .unset, .unset, .unset, .unset] []) (by first | (simp [entryFrame, mkF, argsToLocals, Value.category, maxLocals]; done) | rfl) ?_
  show Go _ _ _ _ _ _ _ _ (mkF m 0 #[.val (.int n), .val (.int d), .val (.int lw), .val (.int h_), .val (.int w), .val (.int f), .unset, .unset, .unset, .unset, .unset, .unset, .unset, .unset, .unset, .unset, .unset, .unset, .unset, .unset] [])
  refine own_via ?_ fun _ kt => XS.iloadN X0.here hx rfl (hb hby at_0) rfl kt
  show Go _ _ _ _ _ _ _ _ (mkF m 1 #[.val (.int n), .val (.int d), .val (.int lw), .val (.int h_), .val (.int w), .val (.int f), .unset, .unset, .unset, .unset, .unset, .unset, .unset, .unset, .unset, .unset, .unset, .unset, .unset, .unset] [(.int n)])
  refine own_via ?_ fun _ kt => XS.istore X0.here hx rfl (hb hby at_1) rfl (l' := #[.val (.int n), .val (.int d), .val (.int lw), .val (.int h_), .val (.int w), .val (.int f), .val (.int n), .unset, .unset, .unset, .unset, .unset, .unset, .unset, .unset, .unset, .unset, .unset, .unset, .unset]) rfl kt
  show Go _ _ _ _ _ _ _ _ (mkF m 3 #[.val (.int n), .val (.int d), .val (.int lw), .val (.int h_), .val (.int w), .val (.int f), .val (.int n), .unset, .unset, .unset, .unset, .unset, .unset, .unset, .unset, .unset, .unset, .unset, .unset, .unset] [])
  refine own_via ?_ fun _ kt => XS.iloadN X0.here hx rfl (hb hby at_3) rfl kt
  show Go _ _ _ _ _ _ _ _ (mkF m 4 #[.val (.int n), .val (.int d), .val (.int lw), .val (.int h_), .val (.int w), .val (.int f), .val (.int n), .unset, .unset, .unset, .unset, .unset, .unset, .unset, .unset, .unset, .unset, .unset, .unset, .unset] [(.int lw)])
  refine own_via ?_ fun _ kt => X0.ldcInt hx hown (mvT hZ (hw _ (List.mem_of_getElem? (i := 0) rfl))) (g := (mkF m 4 #[.val (.int n), .val (.int d), .val (.int lw), .val (.int h_), .val (.int w), .val (.int f), .val (.int n), .unset, .unset, .unset, .unset, .unset, .unset, .unset, .unset, .unset, .unset, .unset, .unset, .unset] [(.int lw)])) rfl (hb hby at_4) _ kt
  show Go _ _ _ _ _ _ _ _ (mkF m 6 #[.val (.int n), .val (.int d), .val (.int lw), .val (.int h_), .val (.int w), .val (.int f), .val (.int n), .unset, .unset, .unset, .unset, .unset, .unset, .unset, .unset, .unset, .unset, .unset, .unset, .unset] [(.int (536870911 : Int32)), (.int lw)])
  refine own_via ?_ fun _ kt => XS.iand X0.here hx rfl (hb hby at_6) rfl kt
  show Go _ _ _ _ _ _ _ _ (mkF m 7 #[.val (.int n), .val (.int d), .val (.int lw), .val (.int h_), .val (.int w), .val (.int f), .val (.int n), .unset, .unset, .unset, .unset, .unset, .unset, .unset, .unset, .unset, .unset, .unset, .unset, .unset] [(.int (lw &&& (536870911 : Int32)))])
  refine own_via ?_ fun _ kt => XS.istore X0.here hx rfl (hb hby at_7) rfl (l' := #[.val (.int n), .val (.int d), .val (.int lw), .val (.int h_), .val (.int w), .val (.int f), .val (.int n), .val (.int (lw &&& (536870911 : Int32))), .unset, .unset, .unset, .unset, .unset, .unset, .unset, .unset, .unset, .unset, .unset, .unset]) rfl kt
  show Go _ _ _ _ _ _ _ _ (mkF m 9 #[.val (.int n), .val (.int d), .val (.int lw), .val (.int h_), .val (.int w), .val (.int f), .val (.int n), .val (.int (lw &&& (536870911 : Int32))), .unset, .unset, .unset, .unset, .unset, .unset, .unset, .unset, .unset, .unset, .unset, .unset] [])
  refine own_via ?_ fun _ kt => XS.iload X0.here hx rfl (hb hby at_9) rfl kt
  show Go _ _ _ _ _ _ _ _ (mkF m 11 #[.val (.int n), .val (.int d), .val (.int lw), .val (.int h_), .val (.int w), .val (.int f), .val (.int n), .val (.int (lw &&& (536870911 : Int32))), .unset, .unset, .unset, .unset, .unset, .unset, .unset, .unset, .unset, .unset, .unset, .unset] [(.int (lw &&& (536870911 : Int32)))])
  refine own_via ?_ fun _ kt => XS.iloadN X0.here hx rfl (hb hby at_11) rfl kt
  show Go _ _ _ _ _ _ _ _ (mkF m 12 #[.val (.int n), .val (.int d), .val (.int lw), .val (.int h_), .val (.int w), .val (.int f), .val (.int n), .val (.int (lw &&& (536870911 : Int32))), .unset, .unset, .unset, .unset, .unset, .unset, .unset, .unset, .unset, .unset, .unset, .unset] [(.int h_), (.int (lw &&& (536870911 : Int32)))])
  refine own_via ?_ fun _ kt => X0.ldcInt hx hown (mvT hZ (hw _ (List.mem_of_getElem? (i := 0) rfl))) (g := (mkF m 12 #[.val (.int n), .val (.int d), .val (.int lw), .val (.int h_), .val (.int w), .val (.int f), .val (.int n), .val (.int (lw &&& (536870911 : Int32))), .unset, .unset, .unset, .unset, .unset, .unset, .unset, .unset, .unset, .unset, .unset, .unset] [(.int h_), (.int (lw &&& (536870911 : Int32)))])) rfl (hb hby at_12) _ kt
  show Go _ _ _ _ _ _ _ _ (mkF m 14 #[.val (.int n), .val (.int d), .val (.int lw), .val (.int h_), .val (.int w), .val (.int f), .val (.int n), .val (.int (lw &&& (536870911 : Int32))), .unset, .unset, .unset, .unset, .unset, .unset, .unset, .unset, .unset, .unset, .unset, .unset] [(.int (536870911 : Int32)), (.int h_), (.int (lw &&& (536870911 : Int32)))])
  refine own_via ?_ fun _ kt => XS.iand X0.here hx rfl (hb hby at_14) rfl kt
  show Go _ _ _ _ _ _ _ _ (mkF m 15 #[.val (.int n), .val (.int d), .val (.int lw), .val (.int h_), .val (.int w), .val (.int f), .val (.int n), .val (.int (lw &&& (536870911 : Int32))), .unset, .unset, .unset, .unset, .unset, .unset, .unset, .unset, .unset, .unset, .unset, .unset] [(.int (h_ &&& (536870911 : Int32))), (.int (lw &&& (536870911 : Int32)))])
  refine own_via ?_ fun _ kt => XS.iadd X0.here hx rfl (hb hby at_15) rfl kt
  show Go _ _ _ _ _ _ _ _ (mkF m 16 #[.val (.int n), .val (.int d), .val (.int lw), .val (.int h_), .val (.int w), .val (.int f), .val (.int n), .val (.int (lw &&& (536870911 : Int32))), .unset, .unset, .unset, .unset, .unset, .unset, .unset, .unset, .unset, .unset, .unset, .unset] [(.int ((lw &&& (536870911 : Int32)) + (h_ &&& (536870911 : Int32))))])
  refine own_via ?_ fun _ kt => XS.istore X0.here hx rfl (hb hby at_16) rfl (l' := #[.val (.int n), .val (.int d), .val (.int lw), .val (.int h_), .val (.int w), .val (.int f), .val (.int n), .val (.int (lw &&& (536870911 : Int32))), .val (.int ((lw &&& (536870911 : Int32)) + (h_ &&& (536870911 : Int32)))), .unset, .unset, .unset, .unset, .unset, .unset, .unset, .unset, .unset, .unset, .unset]) rfl kt
  show Go _ _ _ _ _ _ _ _ (mkF m 18 #[.val (.int n), .val (.int d), .val (.int lw), .val (.int h_), .val (.int w), .val (.int f), .val (.int n), .val (.int (lw &&& (536870911 : Int32))), .val (.int ((lw &&& (536870911 : Int32)) + (h_ &&& (536870911 : Int32)))), .unset, .unset, .unset, .unset, .unset, .unset, .unset, .unset, .unset, .unset, .unset] [])
  refine own_via ?_ fun _ kt => XS.iload X0.here hx rfl (hb hby at_18) rfl kt
  show Go _ _ _ _ _ _ _ _ (mkF m 20 #[.val (.int n), .val (.int d), .val (.int lw), .val (.int h_), .val (.int w), .val (.int f), .val (.int n), .val (.int (lw &&& (536870911 : Int32))), .val (.int ((lw &&& (536870911 : Int32)) + (h_ &&& (536870911 : Int32)))), .unset, .unset, .unset, .unset, .unset, .unset, .unset, .unset, .unset, .unset, .unset] [(.int ((lw &&& (536870911 : Int32)) + (h_ &&& (536870911 : Int32))))])
  refine own_via ?_ fun _ kt => XS.iconst X0.here hx rfl (hb hby at_20) kt
  show Go _ _ _ _ _ _ _ _ (mkF m 21 #[.val (.int n), .val (.int d), .val (.int lw), .val (.int h_), .val (.int w), .val (.int f), .val (.int n), .val (.int (lw &&& (536870911 : Int32))), .val (.int ((lw &&& (536870911 : Int32)) + (h_ &&& (536870911 : Int32)))), .unset, .unset, .unset, .unset, .unset, .unset, .unset, .unset, .unset, .unset, .unset] [(.int (1 : Int32)), (.int ((lw &&& (536870911 : Int32)) + (h_ &&& (536870911 : Int32))))])
  refine own_via ?_ fun _ kt => XS.iadd X0.here hx rfl (hb hby at_21) rfl kt
  show Go _ _ _ _ _ _ _ _ (mkF m 22 #[.val (.int n), .val (.int d), .val (.int lw), .val (.int h_), .val (.int w), .val (.int f), .val (.int n), .val (.int (lw &&& (536870911 : Int32))), .val (.int ((lw &&& (536870911 : Int32)) + (h_ &&& (536870911 : Int32)))), .unset, .unset, .unset, .unset, .unset, .unset, .unset, .unset, .unset, .unset, .unset] [(.int (((lw &&& (536870911 : Int32)) + (h_ &&& (536870911 : Int32))) + (1 : Int32)))])
  refine own_via ?_ fun _ kt => XS.iload X0.here hx rfl (hb hby at_22) rfl kt
  show Go _ _ _ _ _ _ _ _ (mkF m 24 #[.val (.int n), .val (.int d), .val (.int lw), .val (.int h_), .val (.int w), .val (.int f), .val (.int n), .val (.int (lw &&& (536870911 : Int32))), .val (.int ((lw &&& (536870911 : Int32)) + (h_ &&& (536870911 : Int32)))), .unset, .unset, .unset, .unset, .unset, .unset, .unset, .unset, .unset, .unset, .unset] [(.int w), (.int (((lw &&& (536870911 : Int32)) + (h_ &&& (536870911 : Int32))) + (1 : Int32)))])
  refine own_via ?_ fun _ kt => X0.ldcInt hx hown (mvT hZ (hw _ (List.mem_of_getElem? (i := 1) rfl))) (g := (mkF m 24 #[.val (.int n), .val (.int d), .val (.int lw), .val (.int h_), .val (.int w), .val (.int f), .val (.int n), .val (.int (lw &&& (536870911 : Int32))), .val (.int ((lw &&& (536870911 : Int32)) + (h_ &&& (536870911 : Int32)))), .unset, .unset, .unset, .unset, .unset, .unset, .unset, .unset, .unset, .unset, .unset] [(.int w), (.int (((lw &&& (536870911 : Int32)) + (h_ &&& (536870911 : Int32))) + (1 : Int32)))])) rfl (hb hby at_24) _ kt
  show Go _ _ _ _ _ _ _ _ (mkF m 26 #[.val (.int n), .val (.int d), .val (.int lw), .val (.int h_), .val (.int w), .val (.int f), .val (.int n), .val (.int (lw &&& (536870911 : Int32))), .val (.int ((lw &&& (536870911 : Int32)) + (h_ &&& (536870911 : Int32)))), .unset, .unset, .unset, .unset, .unset, .unset, .unset, .unset, .unset, .unset, .unset] [(.int (1073741823 : Int32)), (.int w), (.int (((lw &&& (536870911 : Int32)) + (h_ &&& (536870911 : Int32))) + (1 : Int32)))])
  refine own_via ?_ fun _ kt => XS.iand X0.here hx rfl (hb hby at_26) rfl kt
  show Go _ _ _ _ _ _ _ _ (mkF m 27 #[.val (.int n), .val (.int d), .val (.int lw), .val (.int h_), .val (.int w), .val (.int f), .val (.int n), .val (.int (lw &&& (536870911 : Int32))), .val (.int ((lw &&& (536870911 : Int32)) + (h_ &&& (536870911 : Int32)))), .unset, .unset, .unset, .unset, .unset, .unset, .unset, .unset, .unset, .unset, .unset] [(.int (w &&& (1073741823 : Int32))), (.int (((lw &&& (536870911 : Int32)) + (h_ &&& (536870911 : Int32))) + (1 : Int32)))])
  refine own_via ?_ fun _ kt => XS.iadd X0.here hx rfl (hb hby at_27) rfl kt
  show Go _ _ _ _ _ _ _ _ (mkF m 28 #[.val (.int n), .val (.int d), .val (.int lw), .val (.int h_), .val (.int w), .val (.int f), .val (.int n), .val (.int (lw &&& (536870911 : Int32))), .val (.int ((lw &&& (536870911 : Int32)) + (h_ &&& (536870911 : Int32)))), .unset, .unset, .unset, .unset, .unset, .unset, .unset, .unset, .unset, .unset, .unset] [(.int ((((lw &&& (536870911 : Int32)) + (h_ &&& (536870911 : Int32))) + (1 : Int32)) + (w &&& (1073741823 : Int32))))])
  refine own_via ?_ fun _ kt => XS.istore X0.here hx rfl (hb hby at_28) rfl (l' := #[.val (.int n), .val (.int d), .val (.int lw), .val (.int h_), .val (.int w), .val (.int f), .val (.int n), .val (.int (lw &&& (536870911 : Int32))), .val (.int ((lw &&& (536870911 : Int32)) + (h_ &&& (536870911 : Int32)))), .val (.int ((((lw &&& (536870911 : Int32)) + (h_ &&& (536870911 : Int32))) + (1 : Int32)) + (w &&& (1073741823 : Int32)))), .unset, .unset, .unset, .unset, .unset, .unset, .unset, .unset, .unset, .unset]) rfl kt
  have hb1 := own_bounds lw h_ w
  show Go _ _ _ _ _ _ _ _ (mkF m 30 #[.val (.int n), .val (.int d), .val (.int lw), .val (.int h_), .val (.int w), .val (.int f), .val (.int n), .val (.int (lw &&& (536870911 : Int32))), .val (.int ((lw &&& (536870911 : Int32)) + (h_ &&& (536870911 : Int32)))), .val (.int ((((lw &&& (536870911 : Int32)) + (h_ &&& (536870911 : Int32))) + (1 : Int32)) + (w &&& (1073741823 : Int32)))), .unset, .unset, .unset, .unset, .unset, .unset, .unset, .unset, .unset, .unset] [])
  generalize hn_lo1 : (lw &&& (536870911 : Int32)) = lo1
  rw [hn_lo1] at hb1
  show Go _ _ _ _ _ _ _ _ (mkF m 30 #[.val (.int n), .val (.int d), .val (.int lw), .val (.int h_), .val (.int w), .val (.int f), .val (.int n), .val (.int lo1), .val (.int (lo1 + (h_ &&& (536870911 : Int32)))), .val (.int (((lo1 + (h_ &&& (536870911 : Int32))) + (1 : Int32)) + (w &&& (1073741823 : Int32)))), .unset, .unset, .unset, .unset, .unset, .unset, .unset, .unset, .unset, .unset] [])
  generalize hn_hi1 : (lo1 + (h_ &&& (536870911 : Int32))) = hi1
  rw [hn_hi1] at hb1
  show Go _ _ _ _ _ _ _ _ (mkF m 30 #[.val (.int n), .val (.int d), .val (.int lw), .val (.int h_), .val (.int w), .val (.int f), .val (.int n), .val (.int lo1), .val (.int hi1), .val (.int ((hi1 + (1 : Int32)) + (w &&& (1073741823 : Int32)))), .unset, .unset, .unset, .unset, .unset, .unset, .unset, .unset, .unset, .unset] [])
  generalize hn_wd1 : ((hi1 + (1 : Int32)) + (w &&& (1073741823 : Int32))) = wd1
  rw [hn_wd1] at hb1
  show Go _ _ _ _ _ _ _ _ (mkF m 30 #[.val (.int n), .val (.int d), .val (.int lw), .val (.int h_), .val (.int w), .val (.int f), .val (.int n), .val (.int lo1), .val (.int hi1), .val (.int wd1), .unset, .unset, .unset, .unset, .unset, .unset, .unset, .unset, .unset, .unset] [])
  refine own_via ?_ fun _ kt => XS.iload X0.here hx rfl (hb hby at_30) rfl kt
  show Go _ _ _ _ _ _ _ _ (mkF m 32 #[.val (.int n), .val (.int d), .val (.int lw), .val (.int h_), .val (.int w), .val (.int f), .val (.int n), .val (.int lo1), .val (.int hi1), .val (.int wd1), .unset, .unset, .unset, .unset, .unset, .unset, .unset, .unset, .unset, .unset] [(.int f)])
  refine own_via ?_ fun _ kt => XS.sipush X0.here hx rfl (hb hby at_32) kt
  show Go _ _ _ _ _ _ _ _ (mkF m 35 #[.val (.int n), .val (.int d), .val (.int lw), .val (.int h_), .val (.int w), .val (.int f), .val (.int n), .val (.int lo1), .val (.int hi1), .val (.int wd1), .unset, .unset, .unset, .unset, .unset, .unset, .unset, .unset, .unset, .unset] [(.int (128 : Int32)), (.int f)])
  refine own_via ?_ fun _ kt => XS.iand X0.here hx rfl (hb hby at_35) rfl kt
  have J1 : ∀ (ra : Int32), ra = (if (f &&& (128 : Int32)) = (0 : Int32) then (0 : Int32) else (1 : Int32)) → Go p e below s room_1.cells room_1.slots (Q_law Z n d lw h_ w f ca cl h0 n0) s₁ (mkF m 44 #[.val (.int n), .val (.int d), .val (.int lw), .val (.int h_), .val (.int w), .val (.int f), .val (.int n), .val (.int lo1), .val (.int hi1), .val (.int wd1), .unset, .unset, .unset, .unset, .unset, .unset, .unset, .unset, .unset, .unset] [(.int ra)]) := by
    intro ra hra
    show Go _ _ _ _ _ _ _ _ (mkF m 44 #[.val (.int n), .val (.int d), .val (.int lw), .val (.int h_), .val (.int w), .val (.int f), .val (.int n), .val (.int lo1), .val (.int hi1), .val (.int wd1), .unset, .unset, .unset, .unset, .unset, .unset, .unset, .unset, .unset, .unset] [(.int ra)])
    refine own_via ?_ fun _ kt => XS.istore X0.here hx rfl (hb hby at_44) rfl (l' := #[.val (.int n), .val (.int d), .val (.int lw), .val (.int h_), .val (.int w), .val (.int f), .val (.int n), .val (.int lo1), .val (.int hi1), .val (.int wd1), .val (.int ra), .unset, .unset, .unset, .unset, .unset, .unset, .unset, .unset, .unset]) rfl kt
    show Go _ _ _ _ _ _ _ _ (mkF m 46 #[.val (.int n), .val (.int d), .val (.int lw), .val (.int h_), .val (.int w), .val (.int f), .val (.int n), .val (.int lo1), .val (.int hi1), .val (.int wd1), .val (.int ra), .unset, .unset, .unset, .unset, .unset, .unset, .unset, .unset, .unset] [])
    refine own_via ?_ fun _ kt => XS.iload X0.here hx rfl (hb hby at_46) rfl kt
    show Go _ _ _ _ _ _ _ _ (mkF m 48 #[.val (.int n), .val (.int d), .val (.int lw), .val (.int h_), .val (.int w), .val (.int f), .val (.int n), .val (.int lo1), .val (.int hi1), .val (.int wd1), .val (.int ra), .unset, .unset, .unset, .unset, .unset, .unset, .unset, .unset, .unset] [(.int f)])
    refine own_via ?_ fun _ kt => XS.iconst X0.here hx rfl (hb hby at_48) kt
    show Go _ _ _ _ _ _ _ _ (mkF m 49 #[.val (.int n), .val (.int d), .val (.int lw), .val (.int h_), .val (.int w), .val (.int f), .val (.int n), .val (.int lo1), .val (.int hi1), .val (.int wd1), .val (.int ra), .unset, .unset, .unset, .unset, .unset, .unset, .unset, .unset, .unset] [(.int (1 : Int32)), (.int f)])
    refine own_via ?_ fun _ kt => XS.iand X0.here hx rfl (hb hby at_49) rfl kt
    have J2 : ∀ (net2 : Int32), net2 = (if (f &&& (1 : Int32)) = (0 : Int32) then n else d) → Go p e below s room_1.cells room_1.slots (Q_law Z n d lw h_ w f ca cl h0 n0) s₁ (mkF m 58 #[.val (.int n), .val (.int d), .val (.int lw), .val (.int h_), .val (.int w), .val (.int f), .val (.int n), .val (.int lo1), .val (.int hi1), .val (.int wd1), .val (.int ra), .unset, .unset, .unset, .unset, .unset, .unset, .unset, .unset, .unset] [(.int net2)]) := by
      intro net2 hnet2
      show Go _ _ _ _ _ _ _ _ (mkF m 58 #[.val (.int n), .val (.int d), .val (.int lw), .val (.int h_), .val (.int w), .val (.int f), .val (.int n), .val (.int lo1), .val (.int hi1), .val (.int wd1), .val (.int ra), .unset, .unset, .unset, .unset, .unset, .unset, .unset, .unset, .unset] [(.int net2)])
      refine own_via ?_ fun _ kt => XS.istore X0.here hx rfl (hb hby at_58) rfl (l' := #[.val (.int n), .val (.int d), .val (.int lw), .val (.int h_), .val (.int w), .val (.int f), .val (.int n), .val (.int lo1), .val (.int hi1), .val (.int wd1), .val (.int ra), .val (.int net2), .unset, .unset, .unset, .unset, .unset, .unset, .unset, .unset]) rfl kt
      show Go _ _ _ _ _ _ _ _ (mkF m 60 #[.val (.int n), .val (.int d), .val (.int lw), .val (.int h_), .val (.int w), .val (.int f), .val (.int n), .val (.int lo1), .val (.int hi1), .val (.int wd1), .val (.int ra), .val (.int net2), .unset, .unset, .unset, .unset, .unset, .unset, .unset, .unset] [])
      refine own_via ?_ fun _ kt => XS.iloadN X0.here hx rfl (hb hby at_60) rfl kt
      show Go _ _ _ _ _ _ _ _ (mkF m 61 #[.val (.int n), .val (.int d), .val (.int lw), .val (.int h_), .val (.int w), .val (.int f), .val (.int n), .val (.int lo1), .val (.int hi1), .val (.int wd1), .val (.int ra), .val (.int net2), .unset, .unset, .unset, .unset, .unset, .unset, .unset, .unset] [(.int lw)])
      refine own_via ?_ fun _ kt => XS.iload X0.here hx rfl (hb hby at_61) rfl kt
      show Go _ _ _ _ _ _ _ _ (mkF m 63 #[.val (.int n), .val (.int d), .val (.int lw), .val (.int h_), .val (.int w), .val (.int f), .val (.int n), .val (.int lo1), .val (.int hi1), .val (.int wd1), .val (.int ra), .val (.int net2), .unset, .unset, .unset, .unset, .unset, .unset, .unset, .unset] [(.int f), (.int lw)])
      refine own_via ?_ fun _ kt => XS.iconst X0.here hx rfl (hb hby at_63) kt
      show Go _ _ _ _ _ _ _ _ (mkF m 64 #[.val (.int n), .val (.int d), .val (.int lw), .val (.int h_), .val (.int w), .val (.int f), .val (.int n), .val (.int lo1), .val (.int hi1), .val (.int wd1), .val (.int ra), .val (.int net2), .unset, .unset, .unset, .unset, .unset, .unset, .unset, .unset] [(.int (1 : Int32)), (.int f), (.int lw)])
      refine own_via ?_ fun _ kt => XS.iushr X0.here hx rfl (hb hby at_64) rfl kt
      show Go _ _ _ _ _ _ _ _ (mkF m 65 #[.val (.int n), .val (.int d), .val (.int lw), .val (.int h_), .val (.int w), .val (.int f), .val (.int n), .val (.int lo1), .val (.int hi1), .val (.int wd1), .val (.int ra), .val (.int net2), .unset, .unset, .unset, .unset, .unset, .unset, .unset, .unset] [(.int ((f.toUInt32 >>> ((1 : Int32) &&& 31).toUInt32).toInt32)), (.int lw)])
      refine own_via ?_ fun _ kt => XS.iconst X0.here hx rfl (hb hby at_65) kt
      show Go _ _ _ _ _ _ _ _ (mkF m 66 #[.val (.int n), .val (.int d), .val (.int lw), .val (.int h_), .val (.int w), .val (.int f), .val (.int n), .val (.int lo1), .val (.int hi1), .val (.int wd1), .val (.int ra), .val (.int net2), .unset, .unset, .unset, .unset, .unset, .unset, .unset, .unset] [(.int (3 : Int32)), (.int ((f.toUInt32 >>> ((1 : Int32) &&& 31).toUInt32).toInt32)), (.int lw)])
      refine own_via ?_ fun _ kt => XS.iand X0.here hx rfl (hb hby at_66) rfl kt
      show Go _ _ _ _ _ _ _ _ (mkF m 67 #[.val (.int n), .val (.int d), .val (.int lw), .val (.int h_), .val (.int w), .val (.int f), .val (.int n), .val (.int lo1), .val (.int hi1), .val (.int wd1), .val (.int ra), .val (.int net2), .unset, .unset, .unset, .unset, .unset, .unset, .unset, .unset] [(.int (((f.toUInt32 >>> ((1 : Int32) &&& 31).toUInt32).toInt32) &&& (3 : Int32))), (.int lw)])
      refine own_via ?_ fun _ kt => XS.iconst X0.here hx rfl (hb hby at_67) kt
      show Go _ _ _ _ _ _ _ _ (mkF m 68 #[.val (.int n), .val (.int d), .val (.int lw), .val (.int h_), .val (.int w), .val (.int f), .val (.int n), .val (.int lo1), .val (.int hi1), .val (.int wd1), .val (.int ra), .val (.int net2), .unset, .unset, .unset, .unset, .unset, .unset, .unset, .unset] [(.int (1 : Int32)), (.int (((f.toUInt32 >>> ((1 : Int32) &&& 31).toUInt32).toInt32) &&& (3 : Int32))), (.int lw)])
      refine own_via ?_ fun _ kt => XS.isub X0.here hx rfl (hb hby at_68) rfl kt
      show Go _ _ _ _ _ _ _ _ (mkF m 69 #[.val (.int n), .val (.int d), .val (.int lw), .val (.int h_), .val (.int w), .val (.int f), .val (.int n), .val (.int lo1), .val (.int hi1), .val (.int wd1), .val (.int ra), .val (.int net2), .unset, .unset, .unset, .unset, .unset, .unset, .unset, .unset] [(.int ((((f.toUInt32 >>> ((1 : Int32) &&& 31).toUInt32).toInt32) &&& (3 : Int32)) - (1 : Int32))), (.int lw)])
      refine own_via ?_ fun _ kt => XS.iadd X0.here hx rfl (hb hby at_69) rfl kt
      show Go _ _ _ _ _ _ _ _ (mkF m 70 #[.val (.int n), .val (.int d), .val (.int lw), .val (.int h_), .val (.int w), .val (.int f), .val (.int n), .val (.int lo1), .val (.int hi1), .val (.int wd1), .val (.int ra), .val (.int net2), .unset, .unset, .unset, .unset, .unset, .unset, .unset, .unset] [(.int (lw + ((((f.toUInt32 >>> ((1 : Int32) &&& 31).toUInt32).toInt32) &&& (3 : Int32)) - (1 : Int32))))])
      refine own_via ?_ fun _ kt => X0.ldcInt hx hown (mvT hZ (hw _ (List.mem_of_getElem? (i := 0) rfl))) (g := (mkF m 70 #[.val (.int n), .val (.int d), .val (.int lw), .val (.int h_), .val (.int w), .val (.int f), .val (.int n), .val (.int lo1), .val (.int hi1), .val (.int wd1), .val (.int ra), .val (.int net2), .unset, .unset, .unset, .unset, .unset, .unset, .unset, .unset] [(.int (lw + ((((f.toUInt32 >>> ((1 : Int32) &&& 31).toUInt32).toInt32) &&& (3 : Int32)) - (1 : Int32))))])) rfl (hb hby at_70) _ kt
      show Go _ _ _ _ _ _ _ _ (mkF m 72 #[.val (.int n), .val (.int d), .val (.int lw), .val (.int h_), .val (.int w), .val (.int f), .val (.int n), .val (.int lo1), .val (.int hi1), .val (.int wd1), .val (.int ra), .val (.int net2), .unset, .unset, .unset, .unset, .unset, .unset, .unset, .unset] [(.int (536870911 : Int32)), (.int (lw + ((((f.toUInt32 >>> ((1 : Int32) &&& 31).toUInt32).toInt32) &&& (3 : Int32)) - (1 : Int32))))])
      refine own_via ?_ fun _ kt => XS.iand X0.here hx rfl (hb hby at_72) rfl kt
      show Go _ _ _ _ _ _ _ _ (mkF m 73 #[.val (.int n), .val (.int d), .val (.int lw), .val (.int h_), .val (.int w), .val (.int f), .val (.int n), .val (.int lo1), .val (.int hi1), .val (.int wd1), .val (.int ra), .val (.int net2), .unset, .unset, .unset, .unset, .unset, .unset, .unset, .unset] [(.int ((lw + ((((f.toUInt32 >>> ((1 : Int32) &&& 31).toUInt32).toInt32) &&& (3 : Int32)) - (1 : Int32))) &&& (536870911 : Int32)))])
      refine own_via ?_ fun _ kt => XS.istore X0.here hx rfl (hb hby at_73) rfl (l' := #[.val (.int n), .val (.int d), .val (.int lw), .val (.int h_), .val (.int w), .val (.int f), .val (.int n), .val (.int lo1), .val (.int hi1), .val (.int wd1), .val (.int ra), .val (.int net2), .val (.int ((lw + ((((f.toUInt32 >>> ((1 : Int32) &&& 31).toUInt32).toInt32) &&& (3 : Int32)) - (1 : Int32))) &&& (536870911 : Int32))), .unset, .unset, .unset, .unset, .unset, .unset, .unset]) rfl kt
      show Go _ _ _ _ _ _ _ _ (mkF m 75 #[.val (.int n), .val (.int d), .val (.int lw), .val (.int h_), .val (.int w), .val (.int f), .val (.int n), .val (.int lo1), .val (.int hi1), .val (.int wd1), .val (.int ra), .val (.int net2), .val (.int ((lw + ((((f.toUInt32 >>> ((1 : Int32) &&& 31).toUInt32).toInt32) &&& (3 : Int32)) - (1 : Int32))) &&& (536870911 : Int32))), .unset, .unset, .unset, .unset, .unset, .unset, .unset] [])
      refine own_via ?_ fun _ kt => XS.iload X0.here hx rfl (hb hby at_75) rfl kt
      show Go _ _ _ _ _ _ _ _ (mkF m 77 #[.val (.int n), .val (.int d), .val (.int lw), .val (.int h_), .val (.int w), .val (.int f), .val (.int n), .val (.int lo1), .val (.int hi1), .val (.int wd1), .val (.int ra), .val (.int net2), .val (.int ((lw + ((((f.toUInt32 >>> ((1 : Int32) &&& 31).toUInt32).toInt32) &&& (3 : Int32)) - (1 : Int32))) &&& (536870911 : Int32))), .unset, .unset, .unset, .unset, .unset, .unset, .unset] [(.int ((lw + ((((f.toUInt32 >>> ((1 : Int32) &&& 31).toUInt32).toInt32) &&& (3 : Int32)) - (1 : Int32))) &&& (536870911 : Int32)))])
      refine own_via ?_ fun _ kt => XS.iloadN X0.here hx rfl (hb hby at_77) rfl kt
      show Go _ _ _ _ _ _ _ _ (mkF m 78 #[.val (.int n), .val (.int d), .val (.int lw), .val (.int h_), .val (.int w), .val (.int f), .val (.int n), .val (.int lo1), .val (.int hi1), .val (.int wd1), .val (.int ra), .val (.int net2), .val (.int ((lw + ((((f.toUInt32 >>> ((1 : Int32) &&& 31).toUInt32).toInt32) &&& (3 : Int32)) - (1 : Int32))) &&& (536870911 : Int32))), .unset, .unset, .unset, .unset, .unset, .unset, .unset] [(.int h_), (.int ((lw + ((((f.toUInt32 >>> ((1 : Int32) &&& 31).toUInt32).toInt32) &&& (3 : Int32)) - (1 : Int32))) &&& (536870911 : Int32)))])
      refine own_via ?_ fun _ kt => XS.iload X0.here hx rfl (hb hby at_78) rfl kt
      show Go _ _ _ _ _ _ _ _ (mkF m 80 #[.val (.int n), .val (.int d), .val (.int lw), .val (.int h_), .val (.int w), .val (.int f), .val (.int n), .val (.int lo1), .val (.int hi1), .val (.int wd1), .val (.int ra), .val (.int net2), .val (.int ((lw + ((((f.toUInt32 >>> ((1 : Int32) &&& 31).toUInt32).toInt32) &&& (3 : Int32)) - (1 : Int32))) &&& (536870911 : Int32))), .unset, .unset, .unset, .unset, .unset, .unset, .unset] [(.int f), (.int h_), (.int ((lw + ((((f.toUInt32 >>> ((1 : Int32) &&& 31).toUInt32).toInt32) &&& (3 : Int32)) - (1 : Int32))) &&& (536870911 : Int32)))])
      refine own_via ?_ fun _ kt => XS.iconst X0.here hx rfl (hb hby at_80) kt
      show Go _ _ _ _ _ _ _ _ (mkF m 81 #[.val (.int n), .val (.int d), .val (.int lw), .val (.int h_), .val (.int w), .val (.int f), .val (.int n), .val (.int lo1), .val (.int hi1), .val (.int wd1), .val (.int ra), .val (.int net2), .val (.int ((lw + ((((f.toUInt32 >>> ((1 : Int32) &&& 31).toUInt32).toInt32) &&& (3 : Int32)) - (1 : Int32))) &&& (536870911 : Int32))), .unset, .unset, .unset, .unset, .unset, .unset, .unset] [(.int (3 : Int32)), (.int f), (.int h_), (.int ((lw + ((((f.toUInt32 >>> ((1 : Int32) &&& 31).toUInt32).toInt32) &&& (3 : Int32)) - (1 : Int32))) &&& (536870911 : Int32)))])
      refine own_via ?_ fun _ kt => XS.iushr X0.here hx rfl (hb hby at_81) rfl kt
      show Go _ _ _ _ _ _ _ _ (mkF m 82 #[.val (.int n), .val (.int d), .val (.int lw), .val (.int h_), .val (.int w), .val (.int f), .val (.int n), .val (.int lo1), .val (.int hi1), .val (.int wd1), .val (.int ra), .val (.int net2), .val (.int ((lw + ((((f.toUInt32 >>> ((1 : Int32) &&& 31).toUInt32).toInt32) &&& (3 : Int32)) - (1 : Int32))) &&& (536870911 : Int32))), .unset, .unset, .unset, .unset, .unset, .unset, .unset] [(.int ((f.toUInt32 >>> ((3 : Int32) &&& 31).toUInt32).toInt32)), (.int h_), (.int ((lw + ((((f.toUInt32 >>> ((1 : Int32) &&& 31).toUInt32).toInt32) &&& (3 : Int32)) - (1 : Int32))) &&& (536870911 : Int32)))])
      refine own_via ?_ fun _ kt => XS.iconst X0.here hx rfl (hb hby at_82) kt
      show Go _ _ _ _ _ _ _ _ (mkF m 83 #[.val (.int n), .val (.int d), .val (.int lw), .val (.int h_), .val (.int w), .val (.int f), .val (.int n), .val (.int lo1), .val (.int hi1), .val (.int wd1), .val (.int ra), .val (.int net2), .val (.int ((lw + ((((f.toUInt32 >>> ((1 : Int32) &&& 31).toUInt32).toInt32) &&& (3 : Int32)) - (1 : Int32))) &&& (536870911 : Int32))), .unset, .unset, .unset, .unset, .unset, .unset, .unset] [(.int (3 : Int32)), (.int ((f.toUInt32 >>> ((3 : Int32) &&& 31).toUInt32).toInt32)), (.int h_), (.int ((lw + ((((f.toUInt32 >>> ((1 : Int32) &&& 31).toUInt32).toInt32) &&& (3 : Int32)) - (1 : Int32))) &&& (536870911 : Int32)))])
      refine own_via ?_ fun _ kt => XS.iand X0.here hx rfl (hb hby at_83) rfl kt
      show Go _ _ _ _ _ _ _ _ (mkF m 84 #[.val (.int n), .val (.int d), .val (.int lw), .val (.int h_), .val (.int w), .val (.int f), .val (.int n), .val (.int lo1), .val (.int hi1), .val (.int wd1), .val (.int ra), .val (.int net2), .val (.int ((lw + ((((f.toUInt32 >>> ((1 : Int32) &&& 31).toUInt32).toInt32) &&& (3 : Int32)) - (1 : Int32))) &&& (536870911 : Int32))), .unset, .unset, .unset, .unset, .unset, .unset, .unset] [(.int (((f.toUInt32 >>> ((3 : Int32) &&& 31).toUInt32).toInt32) &&& (3 : Int32))), (.int h_), (.int ((lw + ((((f.toUInt32 >>> ((1 : Int32) &&& 31).toUInt32).toInt32) &&& (3 : Int32)) - (1 : Int32))) &&& (536870911 : Int32)))])
      refine own_via ?_ fun _ kt => XS.iconst X0.here hx rfl (hb hby at_84) kt
      show Go _ _ _ _ _ _ _ _ (mkF m 85 #[.val (.int n), .val (.int d), .val (.int lw), .val (.int h_), .val (.int w), .val (.int f), .val (.int n), .val (.int lo1), .val (.int hi1), .val (.int wd1), .val (.int ra), .val (.int net2), .val (.int ((lw + ((((f.toUInt32 >>> ((1 : Int32) &&& 31).toUInt32).toInt32) &&& (3 : Int32)) - (1 : Int32))) &&& (536870911 : Int32))), .unset, .unset, .unset, .unset, .unset, .unset, .unset] [(.int (1 : Int32)), (.int (((f.toUInt32 >>> ((3 : Int32) &&& 31).toUInt32).toInt32) &&& (3 : Int32))), (.int h_), (.int ((lw + ((((f.toUInt32 >>> ((1 : Int32) &&& 31).toUInt32).toInt32) &&& (3 : Int32)) - (1 : Int32))) &&& (536870911 : Int32)))])
      refine own_via ?_ fun _ kt => XS.isub X0.here hx rfl (hb hby at_85) rfl kt
      show Go _ _ _ _ _ _ _ _ (mkF m 86 #[.val (.int n), .val (.int d), .val (.int lw), .val (.int h_), .val (.int w), .val (.int f), .val (.int n), .val (.int lo1), .val (.int hi1), .val (.int wd1), .val (.int ra), .val (.int net2), .val (.int ((lw + ((((f.toUInt32 >>> ((1 : Int32) &&& 31).toUInt32).toInt32) &&& (3 : Int32)) - (1 : Int32))) &&& (536870911 : Int32))), .unset, .unset, .unset, .unset, .unset, .unset, .unset] [(.int ((((f.toUInt32 >>> ((3 : Int32) &&& 31).toUInt32).toInt32) &&& (3 : Int32)) - (1 : Int32))), (.int h_), (.int ((lw + ((((f.toUInt32 >>> ((1 : Int32) &&& 31).toUInt32).toInt32) &&& (3 : Int32)) - (1 : Int32))) &&& (536870911 : Int32)))])
      refine own_via ?_ fun _ kt => XS.iadd X0.here hx rfl (hb hby at_86) rfl kt
      show Go _ _ _ _ _ _ _ _ (mkF m 87 #[.val (.int n), .val (.int d), .val (.int lw), .val (.int h_), .val (.int w), .val (.int f), .val (.int n), .val (.int lo1), .val (.int hi1), .val (.int wd1), .val (.int ra), .val (.int net2), .val (.int ((lw + ((((f.toUInt32 >>> ((1 : Int32) &&& 31).toUInt32).toInt32) &&& (3 : Int32)) - (1 : Int32))) &&& (536870911 : Int32))), .unset, .unset, .unset, .unset, .unset, .unset, .unset] [(.int (h_ + ((((f.toUInt32 >>> ((3 : Int32) &&& 31).toUInt32).toInt32) &&& (3 : Int32)) - (1 : Int32)))), (.int ((lw + ((((f.toUInt32 >>> ((1 : Int32) &&& 31).toUInt32).toInt32) &&& (3 : Int32)) - (1 : Int32))) &&& (536870911 : Int32)))])
      refine own_via ?_ fun _ kt => X0.ldcInt hx hown (mvT hZ (hw _ (List.mem_of_getElem? (i := 0) rfl))) (g := (mkF m 87 #[.val (.int n), .val (.int d), .val (.int lw), .val (.int h_), .val (.int w), .val (.int f), .val (.int n), .val (.int lo1), .val (.int hi1), .val (.int wd1), .val (.int ra), .val (.int net2), .val (.int ((lw + ((((f.toUInt32 >>> ((1 : Int32) &&& 31).toUInt32).toInt32) &&& (3 : Int32)) - (1 : Int32))) &&& (536870911 : Int32))), .unset, .unset, .unset, .unset, .unset, .unset, .unset] [(.int (h_ + ((((f.toUInt32 >>> ((3 : Int32) &&& 31).toUInt32).toInt32) &&& (3 : Int32)) - (1 : Int32)))), (.int ((lw + ((((f.toUInt32 >>> ((1 : Int32) &&& 31).toUInt32).toInt32) &&& (3 : Int32)) - (1 : Int32))) &&& (536870911 : Int32)))])) rfl (hb hby at_87) _ kt
      show Go _ _ _ _ _ _ _ _ (mkF m 89 #[.val (.int n), .val (.int d), .val (.int lw), .val (.int h_), .val (.int w), .val (.int f), .val (.int n), .val (.int lo1), .val (.int hi1), .val (.int wd1), .val (.int ra), .val (.int net2), .val (.int ((lw + ((((f.toUInt32 >>> ((1 : Int32) &&& 31).toUInt32).toInt32) &&& (3 : Int32)) - (1 : Int32))) &&& (536870911 : Int32))), .unset, .unset, .unset, .unset, .unset, .unset, .unset] [(.int (536870911 : Int32)), (.int (h_ + ((((f.toUInt32 >>> ((3 : Int32) &&& 31).toUInt32).toInt32) &&& (3 : Int32)) - (1 : Int32)))), (.int ((lw + ((((f.toUInt32 >>> ((1 : Int32) &&& 31).toUInt32).toInt32) &&& (3 : Int32)) - (1 : Int32))) &&& (536870911 : Int32)))])
      refine own_via ?_ fun _ kt => XS.iand X0.here hx rfl (hb hby at_89) rfl kt
      show Go _ _ _ _ _ _ _ _ (mkF m 90 #[.val (.int n), .val (.int d), .val (.int lw), .val (.int h_), .val (.int w), .val (.int f), .val (.int n), .val (.int lo1), .val (.int hi1), .val (.int wd1), .val (.int ra), .val (.int net2), .val (.int ((lw + ((((f.toUInt32 >>> ((1 : Int32) &&& 31).toUInt32).toInt32) &&& (3 : Int32)) - (1 : Int32))) &&& (536870911 : Int32))), .unset, .unset, .unset, .unset, .unset, .unset, .unset] [(.int ((h_ + ((((f.toUInt32 >>> ((3 : Int32) &&& 31).toUInt32).toInt32) &&& (3 : Int32)) - (1 : Int32))) &&& (536870911 : Int32))), (.int ((lw + ((((f.toUInt32 >>> ((1 : Int32) &&& 31).toUInt32).toInt32) &&& (3 : Int32)) - (1 : Int32))) &&& (536870911 : Int32)))])
      refine own_via ?_ fun _ kt => XS.iadd X0.here hx rfl (hb hby at_90) rfl kt
      show Go _ _ _ _ _ _ _ _ (mkF m 91 #[.val (.int n), .val (.int d), .val (.int lw), .val (.int h_), .val (.int w), .val (.int f), .val (.int n), .val (.int lo1), .val (.int hi1), .val (.int wd1), .val (.int ra), .val (.int net2), .val (.int ((lw + ((((f.toUInt32 >>> ((1 : Int32) &&& 31).toUInt32).toInt32) &&& (3 : Int32)) - (1 : Int32))) &&& (536870911 : Int32))), .unset, .unset, .unset, .unset, .unset, .unset, .unset] [(.int (((lw + ((((f.toUInt32 >>> ((1 : Int32) &&& 31).toUInt32).toInt32) &&& (3 : Int32)) - (1 : Int32))) &&& (536870911 : Int32)) + ((h_ + ((((f.toUInt32 >>> ((3 : Int32) &&& 31).toUInt32).toInt32) &&& (3 : Int32)) - (1 : Int32))) &&& (536870911 : Int32))))])
      refine own_via ?_ fun _ kt => XS.istore X0.here hx rfl (hb hby at_91) rfl (l' := #[.val (.int n), .val (.int d), .val (.int lw), .val (.int h_), .val (.int w), .val (.int f), .val (.int n), .val (.int lo1), .val (.int hi1), .val (.int wd1), .val (.int ra), .val (.int net2), .val (.int ((lw + ((((f.toUInt32 >>> ((1 : Int32) &&& 31).toUInt32).toInt32) &&& (3 : Int32)) - (1 : Int32))) &&& (536870911 : Int32))), .val (.int (((lw + ((((f.toUInt32 >>> ((1 : Int32) &&& 31).toUInt32).toInt32) &&& (3 : Int32)) - (1 : Int32))) &&& (536870911 : Int32)) + ((h_ + ((((f.toUInt32 >>> ((3 : Int32) &&& 31).toUInt32).toInt32) &&& (3 : Int32)) - (1 : Int32))) &&& (536870911 : Int32)))), .unset, .unset, .unset, .unset, .unset, .unset]) rfl kt
      show Go _ _ _ _ _ _ _ _ (mkF m 93 #[.val (.int n), .val (.int d), .val (.int lw), .val (.int h_), .val (.int w), .val (.int f), .val (.int n), .val (.int lo1), .val (.int hi1), .val (.int wd1), .val (.int ra), .val (.int net2), .val (.int ((lw + ((((f.toUInt32 >>> ((1 : Int32) &&& 31).toUInt32).toInt32) &&& (3 : Int32)) - (1 : Int32))) &&& (536870911 : Int32))), .val (.int (((lw + ((((f.toUInt32 >>> ((1 : Int32) &&& 31).toUInt32).toInt32) &&& (3 : Int32)) - (1 : Int32))) &&& (536870911 : Int32)) + ((h_ + ((((f.toUInt32 >>> ((3 : Int32) &&& 31).toUInt32).toInt32) &&& (3 : Int32)) - (1 : Int32))) &&& (536870911 : Int32)))), .unset, .unset, .unset, .unset, .unset, .unset] [])
      refine own_via ?_ fun _ kt => XS.iload X0.here hx rfl (hb hby at_93) rfl kt
      show Go _ _ _ _ _ _ _ _ (mkF m 95 #[.val (.int n), .val (.int d), .val (.int lw), .val (.int h_), .val (.int w), .val (.int f), .val (.int n), .val (.int lo1), .val (.int hi1), .val (.int wd1), .val (.int ra), .val (.int net2), .val (.int ((lw + ((((f.toUInt32 >>> ((1 : Int32) &&& 31).toUInt32).toInt32) &&& (3 : Int32)) - (1 : Int32))) &&& (536870911 : Int32))), .val (.int (((lw + ((((f.toUInt32 >>> ((1 : Int32) &&& 31).toUInt32).toInt32) &&& (3 : Int32)) - (1 : Int32))) &&& (536870911 : Int32)) + ((h_ + ((((f.toUInt32 >>> ((3 : Int32) &&& 31).toUInt32).toInt32) &&& (3 : Int32)) - (1 : Int32))) &&& (536870911 : Int32)))), .unset, .unset, .unset, .unset, .unset, .unset] [(.int (((lw + ((((f.toUInt32 >>> ((1 : Int32) &&& 31).toUInt32).toInt32) &&& (3 : Int32)) - (1 : Int32))) &&& (536870911 : Int32)) + ((h_ + ((((f.toUInt32 >>> ((3 : Int32) &&& 31).toUInt32).toInt32) &&& (3 : Int32)) - (1 : Int32))) &&& (536870911 : Int32))))])
      refine own_via ?_ fun _ kt => XS.iconst X0.here hx rfl (hb hby at_95) kt
      show Go _ _ _ _ _ _ _ _ (mkF m 96 #[.val (.int n), .val (.int d), .val (.int lw), .val (.int h_), .val (.int w), .val (.int f), .val (.int n), .val (.int lo1), .val (.int hi1), .val (.int wd1), .val (.int ra), .val (.int net2), .val (.int ((lw + ((((f.toUInt32 >>> ((1 : Int32) &&& 31).toUInt32).toInt32) &&& (3 : Int32)) - (1 : Int32))) &&& (536870911 : Int32))), .val (.int (((lw + ((((f.toUInt32 >>> ((1 : Int32) &&& 31).toUInt32).toInt32) &&& (3 : Int32)) - (1 : Int32))) &&& (536870911 : Int32)) + ((h_ + ((((f.toUInt32 >>> ((3 : Int32) &&& 31).toUInt32).toInt32) &&& (3 : Int32)) - (1 : Int32))) &&& (536870911 : Int32)))), .unset, .unset, .unset, .unset, .unset, .unset] [(.int (1 : Int32)), (.int (((lw + ((((f.toUInt32 >>> ((1 : Int32) &&& 31).toUInt32).toInt32) &&& (3 : Int32)) - (1 : Int32))) &&& (536870911 : Int32)) + ((h_ + ((((f.toUInt32 >>> ((3 : Int32) &&& 31).toUInt32).toInt32) &&& (3 : Int32)) - (1 : Int32))) &&& (536870911 : Int32))))])
      refine own_via ?_ fun _ kt => XS.iadd X0.here hx rfl (hb hby at_96) rfl kt
      show Go _ _ _ _ _ _ _ _ (mkF m 97 #[.val (.int n), .val (.int d), .val (.int lw), .val (.int h_), .val (.int w), .val (.int f), .val (.int n), .val (.int lo1), .val (.int hi1), .val (.int wd1), .val (.int ra), .val (.int net2), .val (.int ((lw + ((((f.toUInt32 >>> ((1 : Int32) &&& 31).toUInt32).toInt32) &&& (3 : Int32)) - (1 : Int32))) &&& (536870911 : Int32))), .val (.int (((lw + ((((f.toUInt32 >>> ((1 : Int32) &&& 31).toUInt32).toInt32) &&& (3 : Int32)) - (1 : Int32))) &&& (536870911 : Int32)) + ((h_ + ((((f.toUInt32 >>> ((3 : Int32) &&& 31).toUInt32).toInt32) &&& (3 : Int32)) - (1 : Int32))) &&& (536870911 : Int32)))), .unset, .unset, .unset, .unset, .unset, .unset] [(.int ((((lw + ((((f.toUInt32 >>> ((1 : Int32) &&& 31).toUInt32).toInt32) &&& (3 : Int32)) - (1 : Int32))) &&& (536870911 : Int32)) + ((h_ + ((((f.toUInt32 >>> ((3 : Int32) &&& 31).toUInt32).toInt32) &&& (3 : Int32)) - (1 : Int32))) &&& (536870911 : Int32))) + (1 : Int32)))])
      refine own_via ?_ fun _ kt => XS.iload X0.here hx rfl (hb hby at_97) rfl kt
      show Go _ _ _ _ _ _ _ _ (mkF m 99 #[.val (.int n), .val (.int d), .val (.int lw), .val (.int h_), .val (.int w), .val (.int f), .val (.int n), .val (.int lo1), .val (.int hi1), .val (.int wd1), .val (.int ra), .val (.int net2), .val (.int ((lw + ((((f.toUInt32 >>> ((1 : Int32) &&& 31).toUInt32).toInt32) &&& (3 : Int32)) - (1 : Int32))) &&& (536870911 : Int32))), .val (.int (((lw + ((((f.toUInt32 >>> ((1 : Int32) &&& 31).toUInt32).toInt32) &&& (3 : Int32)) - (1 : Int32))) &&& (536870911 : Int32)) + ((h_ + ((((f.toUInt32 >>> ((3 : Int32) &&& 31).toUInt32).toInt32) &&& (3 : Int32)) - (1 : Int32))) &&& (536870911 : Int32)))), .unset, .unset, .unset, .unset, .unset, .unset] [(.int w), (.int ((((lw + ((((f.toUInt32 >>> ((1 : Int32) &&& 31).toUInt32).toInt32) &&& (3 : Int32)) - (1 : Int32))) &&& (536870911 : Int32)) + ((h_ + ((((f.toUInt32 >>> ((3 : Int32) &&& 31).toUInt32).toInt32) &&& (3 : Int32)) - (1 : Int32))) &&& (536870911 : Int32))) + (1 : Int32)))])
      refine own_via ?_ fun _ kt => XS.iload X0.here hx rfl (hb hby at_99) rfl kt
      show Go _ _ _ _ _ _ _ _ (mkF m 101 #[.val (.int n), .val (.int d), .val (.int lw), .val (.int h_), .val (.int w), .val (.int f), .val (.int n), .val (.int lo1), .val (.int hi1), .val (.int wd1), .val (.int ra), .val (.int net2), .val (.int ((lw + ((((f.toUInt32 >>> ((1 : Int32) &&& 31).toUInt32).toInt32) &&& (3 : Int32)) - (1 : Int32))) &&& (536870911 : Int32))), .val (.int (((lw + ((((f.toUInt32 >>> ((1 : Int32) &&& 31).toUInt32).toInt32) &&& (3 : Int32)) - (1 : Int32))) &&& (536870911 : Int32)) + ((h_ + ((((f.toUInt32 >>> ((3 : Int32) &&& 31).toUInt32).toInt32) &&& (3 : Int32)) - (1 : Int32))) &&& (536870911 : Int32)))), .unset, .unset, .unset, .unset, .unset, .unset] [(.int f), (.int w), (.int ((((lw + ((((f.toUInt32 >>> ((1 : Int32) &&& 31).toUInt32).toInt32) &&& (3 : Int32)) - (1 : Int32))) &&& (536870911 : Int32)) + ((h_ + ((((f.toUInt32 >>> ((3 : Int32) &&& 31).toUInt32).toInt32) &&& (3 : Int32)) - (1 : Int32))) &&& (536870911 : Int32))) + (1 : Int32)))])
      refine own_via ?_ fun _ kt => XS.iconst X0.here hx rfl (hb hby at_101) kt
      show Go _ _ _ _ _ _ _ _ (mkF m 102 #[.val (.int n), .val (.int d), .val (.int lw), .val (.int h_), .val (.int w), .val (.int f), .val (.int n), .val (.int lo1), .val (.int hi1), .val (.int wd1), .val (.int ra), .val (.int net2), .val (.int ((lw + ((((f.toUInt32 >>> ((1 : Int32) &&& 31).toUInt32).toInt32) &&& (3 : Int32)) - (1 : Int32))) &&& (536870911 : Int32))), .val (.int (((lw + ((((f.toUInt32 >>> ((1 : Int32) &&& 31).toUInt32).toInt32) &&& (3 : Int32)) - (1 : Int32))) &&& (536870911 : Int32)) + ((h_ + ((((f.toUInt32 >>> ((3 : Int32) &&& 31).toUInt32).toInt32) &&& (3 : Int32)) - (1 : Int32))) &&& (536870911 : Int32)))), .unset, .unset, .unset, .unset, .unset, .unset] [(.int (5 : Int32)), (.int f), (.int w), (.int ((((lw + ((((f.toUInt32 >>> ((1 : Int32) &&& 31).toUInt32).toInt32) &&& (3 : Int32)) - (1 : Int32))) &&& (536870911 : Int32)) + ((h_ + ((((f.toUInt32 >>> ((3 : Int32) &&& 31).toUInt32).toInt32) &&& (3 : Int32)) - (1 : Int32))) &&& (536870911 : Int32))) + (1 : Int32)))])
      refine own_via ?_ fun _ kt => XS.iushr X0.here hx rfl (hb hby at_102) rfl kt
      show Go _ _ _ _ _ _ _ _ (mkF m 103 #[.val (.int n), .val (.int d), .val (.int lw), .val (.int h_), .val (.int w), .val (.int f), .val (.int n), .val (.int lo1), .val (.int hi1), .val (.int wd1), .val (.int ra), .val (.int net2), .val (.int ((lw + ((((f.toUInt32 >>> ((1 : Int32) &&& 31).toUInt32).toInt32) &&& (3 : Int32)) - (1 : Int32))) &&& (536870911 : Int32))), .val (.int (((lw + ((((f.toUInt32 >>> ((1 : Int32) &&& 31).toUInt32).toInt32) &&& (3 : Int32)) - (1 : Int32))) &&& (536870911 : Int32)) + ((h_ + ((((f.toUInt32 >>> ((3 : Int32) &&& 31).toUInt32).toInt32) &&& (3 : Int32)) - (1 : Int32))) &&& (536870911 : Int32)))), .unset, .unset, .unset, .unset, .unset, .unset] [(.int ((f.toUInt32 >>> ((5 : Int32) &&& 31).toUInt32).toInt32)), (.int w), (.int ((((lw + ((((f.toUInt32 >>> ((1 : Int32) &&& 31).toUInt32).toInt32) &&& (3 : Int32)) - (1 : Int32))) &&& (536870911 : Int32)) + ((h_ + ((((f.toUInt32 >>> ((3 : Int32) &&& 31).toUInt32).toInt32) &&& (3 : Int32)) - (1 : Int32))) &&& (536870911 : Int32))) + (1 : Int32)))])
      refine own_via ?_ fun _ kt => XS.iconst X0.here hx rfl (hb hby at_103) kt
      show Go _ _ _ _ _ _ _ _ (mkF m 104 #[.val (.int n), .val (.int d), .val (.int lw), .val (.int h_), .val (.int w), .val (.int f), .val (.int n), .val (.int lo1), .val (.int hi1), .val (.int wd1), .val (.int ra), .val (.int net2), .val (.int ((lw + ((((f.toUInt32 >>> ((1 : Int32) &&& 31).toUInt32).toInt32) &&& (3 : Int32)) - (1 : Int32))) &&& (536870911 : Int32))), .val (.int (((lw + ((((f.toUInt32 >>> ((1 : Int32) &&& 31).toUInt32).toInt32) &&& (3 : Int32)) - (1 : Int32))) &&& (536870911 : Int32)) + ((h_ + ((((f.toUInt32 >>> ((3 : Int32) &&& 31).toUInt32).toInt32) &&& (3 : Int32)) - (1 : Int32))) &&& (536870911 : Int32)))), .unset, .unset, .unset, .unset, .unset, .unset] [(.int (3 : Int32)), (.int ((f.toUInt32 >>> ((5 : Int32) &&& 31).toUInt32).toInt32)), (.int w), (.int ((((lw + ((((f.toUInt32 >>> ((1 : Int32) &&& 31).toUInt32).toInt32) &&& (3 : Int32)) - (1 : Int32))) &&& (536870911 : Int32)) + ((h_ + ((((f.toUInt32 >>> ((3 : Int32) &&& 31).toUInt32).toInt32) &&& (3 : Int32)) - (1 : Int32))) &&& (536870911 : Int32))) + (1 : Int32)))])
      refine own_via ?_ fun _ kt => XS.iand X0.here hx rfl (hb hby at_104) rfl kt
      show Go _ _ _ _ _ _ _ _ (mkF m 105 #[.val (.int n), .val (.int d), .val (.int lw), .val (.int h_), .val (.int w), .val (.int f), .val (.int n), .val (.int lo1), .val (.int hi1), .val (.int wd1), .val (.int ra), .val (.int net2), .val (.int ((lw + ((((f.toUInt32 >>> ((1 : Int32) &&& 31).toUInt32).toInt32) &&& (3 : Int32)) - (1 : Int32))) &&& (536870911 : Int32))), .val (.int (((lw + ((((f.toUInt32 >>> ((1 : Int32) &&& 31).toUInt32).toInt32) &&& (3 : Int32)) - (1 : Int32))) &&& (536870911 : Int32)) + ((h_ + ((((f.toUInt32 >>> ((3 : Int32) &&& 31).toUInt32).toInt32) &&& (3 : Int32)) - (1 : Int32))) &&& (536870911 : Int32)))), .unset, .unset, .unset, .unset, .unset, .unset] [(.int (((f.toUInt32 >>> ((5 : Int32) &&& 31).toUInt32).toInt32) &&& (3 : Int32))), (.int w), (.int ((((lw + ((((f.toUInt32 >>> ((1 : Int32) &&& 31).toUInt32).toInt32) &&& (3 : Int32)) - (1 : Int32))) &&& (536870911 : Int32)) + ((h_ + ((((f.toUInt32 >>> ((3 : Int32) &&& 31).toUInt32).toInt32) &&& (3 : Int32)) - (1 : Int32))) &&& (536870911 : Int32))) + (1 : Int32)))])
      refine own_via ?_ fun _ kt => XS.iconst X0.here hx rfl (hb hby at_105) kt
      show Go _ _ _ _ _ _ _ _ (mkF m 106 #[.val (.int n), .val (.int d), .val (.int lw), .val (.int h_), .val (.int w), .val (.int f), .val (.int n), .val (.int lo1), .val (.int hi1), .val (.int wd1), .val (.int ra), .val (.int net2), .val (.int ((lw + ((((f.toUInt32 >>> ((1 : Int32) &&& 31).toUInt32).toInt32) &&& (3 : Int32)) - (1 : Int32))) &&& (536870911 : Int32))), .val (.int (((lw + ((((f.toUInt32 >>> ((1 : Int32) &&& 31).toUInt32).toInt32) &&& (3 : Int32)) - (1 : Int32))) &&& (536870911 : Int32)) + ((h_ + ((((f.toUInt32 >>> ((3 : Int32) &&& 31).toUInt32).toInt32) &&& (3 : Int32)) - (1 : Int32))) &&& (536870911 : Int32)))), .unset, .unset, .unset, .unset, .unset, .unset] [(.int (1 : Int32)), (.int (((f.toUInt32 >>> ((5 : Int32) &&& 31).toUInt32).toInt32) &&& (3 : Int32))), (.int w), (.int ((((lw + ((((f.toUInt32 >>> ((1 : Int32) &&& 31).toUInt32).toInt32) &&& (3 : Int32)) - (1 : Int32))) &&& (536870911 : Int32)) + ((h_ + ((((f.toUInt32 >>> ((3 : Int32) &&& 31).toUInt32).toInt32) &&& (3 : Int32)) - (1 : Int32))) &&& (536870911 : Int32))) + (1 : Int32)))])
      refine own_via ?_ fun _ kt => XS.isub X0.here hx rfl (hb hby at_106) rfl kt
      show Go _ _ _ _ _ _ _ _ (mkF m 107 #[.val (.int n), .val (.int d), .val (.int lw), .val (.int h_), .val (.int w), .val (.int f), .val (.int n), .val (.int lo1), .val (.int hi1), .val (.int wd1), .val (.int ra), .val (.int net2), .val (.int ((lw + ((((f.toUInt32 >>> ((1 : Int32) &&& 31).toUInt32).toInt32) &&& (3 : Int32)) - (1 : Int32))) &&& (536870911 : Int32))), .val (.int (((lw + ((((f.toUInt32 >>> ((1 : Int32) &&& 31).toUInt32).toInt32) &&& (3 : Int32)) - (1 : Int32))) &&& (536870911 : Int32)) + ((h_ + ((((f.toUInt32 >>> ((3 : Int32) &&& 31).toUInt32).toInt32) &&& (3 : Int32)) - (1 : Int32))) &&& (536870911 : Int32)))), .unset, .unset, .unset, .unset, .unset, .unset] [(.int ((((f.toUInt32 >>> ((5 : Int32) &&& 31).toUInt32).toInt32) &&& (3 : Int32)) - (1 : Int32))), (.int w), (.int ((((lw + ((((f.toUInt32 >>> ((1 : Int32) &&& 31).toUInt32).toInt32) &&& (3 : Int32)) - (1 : Int32))) &&& (536870911 : Int32)) + ((h_ + ((((f.toUInt32 >>> ((3 : Int32) &&& 31).toUInt32).toInt32) &&& (3 : Int32)) - (1 : Int32))) &&& (536870911 : Int32))) + (1 : Int32)))])
      refine own_via ?_ fun _ kt => XS.iadd X0.here hx rfl (hb hby at_107) rfl kt
      show Go _ _ _ _ _ _ _ _ (mkF m 108 #[.val (.int n), .val (.int d), .val (.int lw), .val (.int h_), .val (.int w), .val (.int f), .val (.int n), .val (.int lo1), .val (.int hi1), .val (.int wd1), .val (.int ra), .val (.int net2), .val (.int ((lw + ((((f.toUInt32 >>> ((1 : Int32) &&& 31).toUInt32).toInt32) &&& (3 : Int32)) - (1 : Int32))) &&& (536870911 : Int32))), .val (.int (((lw + ((((f.toUInt32 >>> ((1 : Int32) &&& 31).toUInt32).toInt32) &&& (3 : Int32)) - (1 : Int32))) &&& (536870911 : Int32)) + ((h_ + ((((f.toUInt32 >>> ((3 : Int32) &&& 31).toUInt32).toInt32) &&& (3 : Int32)) - (1 : Int32))) &&& (536870911 : Int32)))), .unset, .unset, .unset, .unset, .unset, .unset] [(.int (w + ((((f.toUInt32 >>> ((5 : Int32) &&& 31).toUInt32).toInt32) &&& (3 : Int32)) - (1 : Int32)))), (.int ((((lw + ((((f.toUInt32 >>> ((1 : Int32) &&& 31).toUInt32).toInt32) &&& (3 : Int32)) - (1 : Int32))) &&& (536870911 : Int32)) + ((h_ + ((((f.toUInt32 >>> ((3 : Int32) &&& 31).toUInt32).toInt32) &&& (3 : Int32)) - (1 : Int32))) &&& (536870911 : Int32))) + (1 : Int32)))])
      refine own_via ?_ fun _ kt => X0.ldcInt hx hown (mvT hZ (hw _ (List.mem_of_getElem? (i := 1) rfl))) (g := (mkF m 108 #[.val (.int n), .val (.int d), .val (.int lw), .val (.int h_), .val (.int w), .val (.int f), .val (.int n), .val (.int lo1), .val (.int hi1), .val (.int wd1), .val (.int ra), .val (.int net2), .val (.int ((lw + ((((f.toUInt32 >>> ((1 : Int32) &&& 31).toUInt32).toInt32) &&& (3 : Int32)) - (1 : Int32))) &&& (536870911 : Int32))), .val (.int (((lw + ((((f.toUInt32 >>> ((1 : Int32) &&& 31).toUInt32).toInt32) &&& (3 : Int32)) - (1 : Int32))) &&& (536870911 : Int32)) + ((h_ + ((((f.toUInt32 >>> ((3 : Int32) &&& 31).toUInt32).toInt32) &&& (3 : Int32)) - (1 : Int32))) &&& (536870911 : Int32)))), .unset, .unset, .unset, .unset, .unset, .unset] [(.int (w + ((((f.toUInt32 >>> ((5 : Int32) &&& 31).toUInt32).toInt32) &&& (3 : Int32)) - (1 : Int32)))), (.int ((((lw + ((((f.toUInt32 >>> ((1 : Int32) &&& 31).toUInt32).toInt32) &&& (3 : Int32)) - (1 : Int32))) &&& (536870911 : Int32)) + ((h_ + ((((f.toUInt32 >>> ((3 : Int32) &&& 31).toUInt32).toInt32) &&& (3 : Int32)) - (1 : Int32))) &&& (536870911 : Int32))) + (1 : Int32)))])) rfl (hb hby at_108) _ kt
      show Go _ _ _ _ _ _ _ _ (mkF m 110 #[.val (.int n), .val (.int d), .val (.int lw), .val (.int h_), .val (.int w), .val (.int f), .val (.int n), .val (.int lo1), .val (.int hi1), .val (.int wd1), .val (.int ra), .val (.int net2), .val (.int ((lw + ((((f.toUInt32 >>> ((1 : Int32) &&& 31).toUInt32).toInt32) &&& (3 : Int32)) - (1 : Int32))) &&& (536870911 : Int32))), .val (.int (((lw + ((((f.toUInt32 >>> ((1 : Int32) &&& 31).toUInt32).toInt32) &&& (3 : Int32)) - (1 : Int32))) &&& (536870911 : Int32)) + ((h_ + ((((f.toUInt32 >>> ((3 : Int32) &&& 31).toUInt32).toInt32) &&& (3 : Int32)) - (1 : Int32))) &&& (536870911 : Int32)))), .unset, .unset, .unset, .unset, .unset, .unset] [(.int (1073741823 : Int32)), (.int (w + ((((f.toUInt32 >>> ((5 : Int32) &&& 31).toUInt32).toInt32) &&& (3 : Int32)) - (1 : Int32)))), (.int ((((lw + ((((f.toUInt32 >>> ((1 : Int32) &&& 31).toUInt32).toInt32) &&& (3 : Int32)) - (1 : Int32))) &&& (536870911 : Int32)) + ((h_ + ((((f.toUInt32 >>> ((3 : Int32) &&& 31).toUInt32).toInt32) &&& (3 : Int32)) - (1 : Int32))) &&& (536870911 : Int32))) + (1 : Int32)))])
      refine own_via ?_ fun _ kt => XS.iand X0.here hx rfl (hb hby at_110) rfl kt
      show Go _ _ _ _ _ _ _ _ (mkF m 111 #[.val (.int n), .val (.int d), .val (.int lw), .val (.int h_), .val (.int w), .val (.int f), .val (.int n), .val (.int lo1), .val (.int hi1), .val (.int wd1), .val (.int ra), .val (.int net2), .val (.int ((lw + ((((f.toUInt32 >>> ((1 : Int32) &&& 31).toUInt32).toInt32) &&& (3 : Int32)) - (1 : Int32))) &&& (536870911 : Int32))), .val (.int (((lw + ((((f.toUInt32 >>> ((1 : Int32) &&& 31).toUInt32).toInt32) &&& (3 : Int32)) - (1 : Int32))) &&& (536870911 : Int32)) + ((h_ + ((((f.toUInt32 >>> ((3 : Int32) &&& 31).toUInt32).toInt32) &&& (3 : Int32)) - (1 : Int32))) &&& (536870911 : Int32)))), .unset, .unset, .unset, .unset, .unset, .unset] [(.int ((w + ((((f.toUInt32 >>> ((5 : Int32) &&& 31).toUInt32).toInt32) &&& (3 : Int32)) - (1 : Int32))) &&& (1073741823 : Int32))), (.int ((((lw + ((((f.toUInt32 >>> ((1 : Int32) &&& 31).toUInt32).toInt32) &&& (3 : Int32)) - (1 : Int32))) &&& (536870911 : Int32)) + ((h_ + ((((f.toUInt32 >>> ((3 : Int32) &&& 31).toUInt32).toInt32) &&& (3 : Int32)) - (1 : Int32))) &&& (536870911 : Int32))) + (1 : Int32)))])
      refine own_via ?_ fun _ kt => XS.iadd X0.here hx rfl (hb hby at_111) rfl kt
      show Go _ _ _ _ _ _ _ _ (mkF m 112 #[.val (.int n), .val (.int d), .val (.int lw), .val (.int h_), .val (.int w), .val (.int f), .val (.int n), .val (.int lo1), .val (.int hi1), .val (.int wd1), .val (.int ra), .val (.int net2), .val (.int ((lw + ((((f.toUInt32 >>> ((1 : Int32) &&& 31).toUInt32).toInt32) &&& (3 : Int32)) - (1 : Int32))) &&& (536870911 : Int32))), .val (.int (((lw + ((((f.toUInt32 >>> ((1 : Int32) &&& 31).toUInt32).toInt32) &&& (3 : Int32)) - (1 : Int32))) &&& (536870911 : Int32)) + ((h_ + ((((f.toUInt32 >>> ((3 : Int32) &&& 31).toUInt32).toInt32) &&& (3 : Int32)) - (1 : Int32))) &&& (536870911 : Int32)))), .unset, .unset, .unset, .unset, .unset, .unset] [(.int (((((lw + ((((f.toUInt32 >>> ((1 : Int32) &&& 31).toUInt32).toInt32) &&& (3 : Int32)) - (1 : Int32))) &&& (536870911 : Int32)) + ((h_ + ((((f.toUInt32 >>> ((3 : Int32) &&& 31).toUInt32).toInt32) &&& (3 : Int32)) - (1 : Int32))) &&& (536870911 : Int32))) + (1 : Int32)) + ((w + ((((f.toUInt32 >>> ((5 : Int32) &&& 31).toUInt32).toInt32) &&& (3 : Int32)) - (1 : Int32))) &&& (1073741823 : Int32))))])
      refine own_via ?_ fun _ kt => XS.istore X0.here hx rfl (hb hby at_112) rfl (l' := #[.val (.int n), .val (.int d), .val (.int lw), .val (.int h_), .val (.int w), .val (.int f), .val (.int n), .val (.int lo1), .val (.int hi1), .val (.int wd1), .val (.int ra), .val (.int net2), .val (.int ((lw + ((((f.toUInt32 >>> ((1 : Int32) &&& 31).toUInt32).toInt32) &&& (3 : Int32)) - (1 : Int32))) &&& (536870911 : Int32))), .val (.int (((lw + ((((f.toUInt32 >>> ((1 : Int32) &&& 31).toUInt32).toInt32) &&& (3 : Int32)) - (1 : Int32))) &&& (536870911 : Int32)) + ((h_ + ((((f.toUInt32 >>> ((3 : Int32) &&& 31).toUInt32).toInt32) &&& (3 : Int32)) - (1 : Int32))) &&& (536870911 : Int32)))), .val (.int (((((lw + ((((f.toUInt32 >>> ((1 : Int32) &&& 31).toUInt32).toInt32) &&& (3 : Int32)) - (1 : Int32))) &&& (536870911 : Int32)) + ((h_ + ((((f.toUInt32 >>> ((3 : Int32) &&& 31).toUInt32).toInt32) &&& (3 : Int32)) - (1 : Int32))) &&& (536870911 : Int32))) + (1 : Int32)) + ((w + ((((f.toUInt32 >>> ((5 : Int32) &&& 31).toUInt32).toInt32) &&& (3 : Int32)) - (1 : Int32))) &&& (1073741823 : Int32)))), .unset, .unset, .unset, .unset, .unset]) rfl kt
      have hb2 := own_bounds (lw + ((((f.toUInt32 >>> ((1 : Int32) &&& 31).toUInt32).toInt32) &&& (3 : Int32)) - (1 : Int32))) (h_ + ((((f.toUInt32 >>> ((3 : Int32) &&& 31).toUInt32).toInt32) &&& (3 : Int32)) - (1 : Int32))) (w + ((((f.toUInt32 >>> ((5 : Int32) &&& 31).toUInt32).toInt32) &&& (3 : Int32)) - (1 : Int32)))
      show Go _ _ _ _ _ _ _ _ (mkF m 114 #[.val (.int n), .val (.int d), .val (.int lw), .val (.int h_), .val (.int w), .val (.int f), .val (.int n), .val (.int lo1), .val (.int hi1), .val (.int wd1), .val (.int ra), .val (.int net2), .val (.int ((lw + ((((f.toUInt32 >>> ((1 : Int32) &&& 31).toUInt32).toInt32) &&& (3 : Int32)) - (1 : Int32))) &&& (536870911 : Int32))), .val (.int (((lw + ((((f.toUInt32 >>> ((1 : Int32) &&& 31).toUInt32).toInt32) &&& (3 : Int32)) - (1 : Int32))) &&& (536870911 : Int32)) + ((h_ + ((((f.toUInt32 >>> ((3 : Int32) &&& 31).toUInt32).toInt32) &&& (3 : Int32)) - (1 : Int32))) &&& (536870911 : Int32)))), .val (.int (((((lw + ((((f.toUInt32 >>> ((1 : Int32) &&& 31).toUInt32).toInt32) &&& (3 : Int32)) - (1 : Int32))) &&& (536870911 : Int32)) + ((h_ + ((((f.toUInt32 >>> ((3 : Int32) &&& 31).toUInt32).toInt32) &&& (3 : Int32)) - (1 : Int32))) &&& (536870911 : Int32))) + (1 : Int32)) + ((w + ((((f.toUInt32 >>> ((5 : Int32) &&& 31).toUInt32).toInt32) &&& (3 : Int32)) - (1 : Int32))) &&& (1073741823 : Int32)))), .unset, .unset, .unset, .unset, .unset] [])
      generalize hn_lo2 : ((lw + ((((f.toUInt32 >>> ((1 : Int32) &&& 31).toUInt32).toInt32) &&& (3 : Int32)) - (1 : Int32))) &&& (536870911 : Int32)) = lo2
      rw [hn_lo2] at hb2
      show Go _ _ _ _ _ _ _ _ (mkF m 114 #[.val (.int n), .val (.int d), .val (.int lw), .val (.int h_), .val (.int w), .val (.int f), .val (.int n), .val (.int lo1), .val (.int hi1), .val (.int wd1), .val (.int ra), .val (.int net2), .val (.int lo2), .val (.int (lo2 + ((h_ + ((((f.toUInt32 >>> ((3 : Int32) &&& 31).toUInt32).toInt32) &&& (3 : Int32)) - (1 : Int32))) &&& (536870911 : Int32)))), .val (.int (((lo2 + ((h_ + ((((f.toUInt32 >>> ((3 : Int32) &&& 31).toUInt32).toInt32) &&& (3 : Int32)) - (1 : Int32))) &&& (536870911 : Int32))) + (1 : Int32)) + ((w + ((((f.toUInt32 >>> ((5 : Int32) &&& 31).toUInt32).toInt32) &&& (3 : Int32)) - (1 : Int32))) &&& (1073741823 : Int32)))), .unset, .unset, .unset, .unset, .unset] [])
      generalize hn_hi2 : (lo2 + ((h_ + ((((f.toUInt32 >>> ((3 : Int32) &&& 31).toUInt32).toInt32) &&& (3 : Int32)) - (1 : Int32))) &&& (536870911 : Int32))) = hi2
      rw [hn_hi2] at hb2
      show Go _ _ _ _ _ _ _ _ (mkF m 114 #[.val (.int n), .val (.int d), .val (.int lw), .val (.int h_), .val (.int w), .val (.int f), .val (.int n), .val (.int lo1), .val (.int hi1), .val (.int wd1), .val (.int ra), .val (.int net2), .val (.int lo2), .val (.int hi2), .val (.int ((hi2 + (1 : Int32)) + ((w + ((((f.toUInt32 >>> ((5 : Int32) &&& 31).toUInt32).toInt32) &&& (3 : Int32)) - (1 : Int32))) &&& (1073741823 : Int32)))), .unset, .unset, .unset, .unset, .unset] [])
      generalize hn_wd2 : ((hi2 + (1 : Int32)) + ((w + ((((f.toUInt32 >>> ((5 : Int32) &&& 31).toUInt32).toInt32) &&& (3 : Int32)) - (1 : Int32))) &&& (1073741823 : Int32))) = wd2
      rw [hn_wd2] at hb2
      show Go _ _ _ _ _ _ _ _ (mkF m 114 #[.val (.int n), .val (.int d), .val (.int lw), .val (.int h_), .val (.int w), .val (.int f), .val (.int n), .val (.int lo1), .val (.int hi1), .val (.int wd1), .val (.int ra), .val (.int net2), .val (.int lo2), .val (.int hi2), .val (.int wd2), .unset, .unset, .unset, .unset, .unset] [])
      refine own_via ?_ fun _ kt => XS.iload X0.here hx rfl (hb hby at_114) rfl kt
      show Go _ _ _ _ _ _ _ _ (mkF m 116 #[.val (.int n), .val (.int d), .val (.int lw), .val (.int h_), .val (.int w), .val (.int f), .val (.int n), .val (.int lo1), .val (.int hi1), .val (.int wd1), .val (.int ra), .val (.int net2), .val (.int lo2), .val (.int hi2), .val (.int wd2), .unset, .unset, .unset, .unset, .unset] [(.int f)])
      refine own_via ?_ fun _ kt => XS.sipush X0.here hx rfl (hb hby at_116) kt
      show Go _ _ _ _ _ _ _ _ (mkF m 119 #[.val (.int n), .val (.int d), .val (.int lw), .val (.int h_), .val (.int w), .val (.int f), .val (.int n), .val (.int lo1), .val (.int hi1), .val (.int wd1), .val (.int ra), .val (.int net2), .val (.int lo2), .val (.int hi2), .val (.int wd2), .unset, .unset, .unset, .unset, .unset] [(.int (256 : Int32)), (.int f)])
      refine own_via ?_ fun _ kt => XS.iand X0.here hx rfl (hb hby at_119) rfl kt
      have J3 : ∀ (rb : Int32), rb = (if (f &&& (256 : Int32)) = (0 : Int32) then (0 : Int32) else (1 : Int32)) → Go p e below s room_1.cells room_1.slots (Q_law Z n d lw h_ w f ca cl h0 n0) s₁ (mkF m 128 #[.val (.int n), .val (.int d), .val (.int lw), .val (.int h_), .val (.int w), .val (.int f), .val (.int n), .val (.int lo1), .val (.int hi1), .val (.int wd1), .val (.int ra), .val (.int net2), .val (.int lo2), .val (.int hi2), .val (.int wd2), .unset, .unset, .unset, .unset, .unset] [(.int rb)]) := by
        intro rb hrb
        show Go _ _ _ _ _ _ _ _ (mkF m 128 #[.val (.int n), .val (.int d), .val (.int lw), .val (.int h_), .val (.int w), .val (.int f), .val (.int n), .val (.int lo1), .val (.int hi1), .val (.int wd1), .val (.int ra), .val (.int net2), .val (.int lo2), .val (.int hi2), .val (.int wd2), .unset, .unset, .unset, .unset, .unset] [(.int rb)])
        refine own_via ?_ fun _ kt => XS.istore X0.here hx rfl (hb hby at_128) rfl (l' := #[.val (.int n), .val (.int d), .val (.int lw), .val (.int h_), .val (.int w), .val (.int f), .val (.int n), .val (.int lo1), .val (.int hi1), .val (.int wd1), .val (.int ra), .val (.int net2), .val (.int lo2), .val (.int hi2), .val (.int wd2), .val (.int rb), .unset, .unset, .unset, .unset]) rfl kt
        have hr1 := b01 hra
        have hr2 := b01 hrb
        show Go _ _ _ _ _ _ _ _ (mkF m 130 #[.val (.int n), .val (.int d), .val (.int lw), .val (.int h_), .val (.int w), .val (.int f), .val (.int n), .val (.int lo1), .val (.int hi1), .val (.int wd1), .val (.int ra), .val (.int net2), .val (.int lo2), .val (.int hi2), .val (.int wd2), .val (.int rb), .unset, .unset, .unset, .unset] [])
        obtain ⟨T4, h4, X4, e4, E4, A4, D4, -, st4⟩ := newO X0 hx hZ hown (hw _ (List.mem_of_getElem? (i := 2) rfl)) (hw _ (List.mem_of_getElem? (i := 3) rfl)) (hw _ (List.mem_of_getElem? (i := 4) rfl)) e0 (g := (mkF m 130 #[.val (.int n), .val (.int d), .val (.int lw), .val (.int h_), .val (.int w), .val (.int f), .val (.int n), .val (.int lo1), .val (.int hi1), .val (.int wd1), .val (.int ra), .val (.int net2), .val (.int lo2), .val (.int hi2), .val (.int wd2), .val (.int rb), .unset, .unset, .unset, .unset] [])) rfl (hb hby at_130) (by decide) (by decide)
        obtain ⟨b4, g4⟩ : ∃ z, z = h0.size := ⟨_, rfl⟩
        rw [← g4] at A4 D4 st4
        have g_b4 : n0 ≤ b4 := by rw [g4]; exact Z0
        replace Z0 := Nat.le_trans Z0 E4.1
        replace O := O.ext E4
        have F_net_b4 : Fld Z h4 b4 "com/example/polytrace/polytrace/model/Trace$Bits" "net" "I" (.int (0 : Int32)) := D4 (Or.inr (hw _ (List.mem_of_getElem? (i := 12) rfl))) (ty := .int) (by decide)
        have F_width_b4 : Fld Z h4 b4 "com/example/polytrace/polytrace/model/Trace$Bits" "width" "I" (.int (0 : Int32)) := D4 (Or.inr (hw _ (List.mem_of_getElem? (i := 14) rfl))) (ty := .int) (by decide)
        have F_high_b4 : Fld Z h4 b4 "com/example/polytrace/polytrace/model/Trace$Bits" "high" "I" (.int (0 : Int32)) := D4 (Or.inr (hw _ (List.mem_of_getElem? (i := 16) rfl))) (ty := .int) (by decide)
        have F_low_b4 : Fld Z h4 b4 "com/example/polytrace/polytrace/model/Trace$Bits" "low" "I" (.int (0 : Int32)) := D4 (Or.inr (hw _ (List.mem_of_getElem? (i := 18) rfl))) (ty := .int) (by decide)
        have F_real_b4 : Fld Z h4 b4 "com/example/polytrace/polytrace/model/Trace$Bits" "real" "Z" (.int (0 : Int32)) := D4 (Or.inr (hw _ (List.mem_of_getElem? (i := 20) rfl))) (ty := .boolean) (by decide)
        refine own_via ?_ st4
        show Go _ _ _ _ _ _ _ _ (mkF m 133 #[.val (.int n), .val (.int d), .val (.int lw), .val (.int h_), .val (.int w), .val (.int f), .val (.int n), .val (.int lo1), .val (.int hi1), .val (.int wd1), .val (.int ra), .val (.int net2), .val (.int lo2), .val (.int hi2), .val (.int wd2), .val (.int rb), .unset, .unset, .unset, .unset] [(.ref b4)])
        refine own_via ?_ fun _ kt => XS.dup X4.here hx rfl (hb hby at_133) rfl rfl kt
        show Go _ _ _ _ _ _ _ _ (mkF m 134 #[.val (.int n), .val (.int d), .val (.int lw), .val (.int h_), .val (.int w), .val (.int f), .val (.int n), .val (.int lo1), .val (.int hi1), .val (.int wd1), .val (.int ra), .val (.int net2), .val (.int lo2), .val (.int hi2), .val (.int wd2), .val (.int rb), .unset, .unset, .unset, .unset] [(.ref b4), (.ref b4)])
        refine own_via ?_ fun _ kt => XS.iload X4.here hx rfl (hb hby at_134) rfl kt
        show Go _ _ _ _ _ _ _ _ (mkF m 136 #[.val (.int n), .val (.int d), .val (.int lw), .val (.int h_), .val (.int w), .val (.int f), .val (.int n), .val (.int lo1), .val (.int hi1), .val (.int wd1), .val (.int ra), .val (.int net2), .val (.int lo2), .val (.int hi2), .val (.int wd2), .val (.int rb), .unset, .unset, .unset, .unset] [(.int n), (.ref b4), (.ref b4)])
        refine own_via ?_ fun _ kt => XS.iload X4.here hx rfl (hb hby at_136) rfl kt
        show Go _ _ _ _ _ _ _ _ (mkF m 138 #[.val (.int n), .val (.int d), .val (.int lw), .val (.int h_), .val (.int w), .val (.int f), .val (.int n), .val (.int lo1), .val (.int hi1), .val (.int wd1), .val (.int ra), .val (.int net2), .val (.int lo2), .val (.int hi2), .val (.int wd2), .val (.int rb), .unset, .unset, .unset, .unset] [(.int wd1), (.int n), (.ref b4), (.ref b4)])
        refine own_via ?_ fun _ kt => XS.iload X4.here hx rfl (hb hby at_138) rfl kt
        show Go _ _ _ _ _ _ _ _ (mkF m 140 #[.val (.int n), .val (.int d), .val (.int lw), .val (.int h_), .val (.int w), .val (.int f), .val (.int n), .val (.int lo1), .val (.int hi1), .val (.int wd1), .val (.int ra), .val (.int net2), .val (.int lo2), .val (.int hi2), .val (.int wd2), .val (.int rb), .unset, .unset, .unset, .unset] [(.int hi1), (.int wd1), (.int n), (.ref b4), (.ref b4)])
        refine own_via ?_ fun _ kt => XS.iload X4.here hx rfl (hb hby at_140) rfl kt
        show Go _ _ _ _ _ _ _ _ (mkF m 142 #[.val (.int n), .val (.int d), .val (.int lw), .val (.int h_), .val (.int w), .val (.int f), .val (.int n), .val (.int lo1), .val (.int hi1), .val (.int wd1), .val (.int ra), .val (.int net2), .val (.int lo2), .val (.int hi2), .val (.int wd2), .val (.int rb), .unset, .unset, .unset, .unset] [(.int lo1), (.int hi1), (.int wd1), (.int n), (.ref b4), (.ref b4)])
        refine own_via ?_ fun _ kt => XS.iload X4.here hx rfl (hb hby at_142) rfl kt
        show Go _ _ _ _ _ _ _ _ (mkF m 144 #[.val (.int n), .val (.int d), .val (.int lw), .val (.int h_), .val (.int w), .val (.int f), .val (.int n), .val (.int lo1), .val (.int hi1), .val (.int wd1), .val (.int ra), .val (.int net2), .val (.int lo2), .val (.int hi2), .val (.int wd2), .val (.int rb), .unset, .unset, .unset, .unset] [(.int ra), (.int lo1), (.int hi1), (.int wd1), (.int n), (.ref b4), (.ref b4)])
        obtain ⟨_, _, ⟨T5, L5, k5, n5⟩, -, X5, ⟨Lc5, hQ5, l5, y5, z5⟩, st5⟩ := X4.specialBack hx (y := (⟨"com/example/polytrace/polytrace/model/Trace$Bits", "<init>", "(IIIIZ)V"⟩ : MethodName)) rfl hown (mvT hZ (hw _ (List.mem_of_getElem? (i := 5) rfl))) (mvT hZ (hw _ (List.mem_of_getElem? (i := 6) rfl))) (mvT hZ (hw _ (List.mem_of_getElem? (i := 7) rfl))) (by decide) (backOf (W := 1) (rm_bits l Z a0 hw [] b4 n wd1 hi1 lo1 ra h4 n0 Z0 g_b4 hr1 hb1.1 hb1.2.1 hb1.2.2 A4 F_net_b4 F_width_b4 F_high_b4 F_low_b4 F_real_b4) hZ (hw _ (List.mem_of_getElem? (i := 7) rfl)) (hw _ (List.mem_of_getElem? (i := 4) rfl)) (by decide) (by decide)) (g := (mkF m 144 #[.val (.int n), .val (.int d), .val (.int lw), .val (.int h_), .val (.int w), .val (.int f), .val (.int n), .val (.int lo1), .val (.int hi1), .val (.int wd1), .val (.int ra), .val (.int net2), .val (.int lo2), .val (.int hi2), .val (.int wd2), .val (.int rb), .unset, .unset, .unset, .unset] [(.int ra), (.int lo1), (.int hi1), (.int wd1), (.int n), (.ref b4), (.ref b4)])) rfl (by rw [hml]; rfl) (Steps.refl _) (a := b4) (argsL := [(.int n), (.int wd1), (.int hi1), (.int lo1), (.int ra)]) (rest := [(.ref b4)]) (lenOf pd2 rfl) rfl (by show 2 * 0 + _ ≤ _; exact Nat.le_of_eq rfl) (hb hby at_144) (fun _ _ => ⟨rfl, e4, (by decide : 1 + 0 ≤ _), (by decide : 5 + 0 ≤ _)⟩)
        dsimp only [Pt.U, Pt.locs, Pt.cells, Pt.slots] at X5 l5 y5 z5 st5 hQ5
        subst l5 y5 z5
        obtain ⟨h5, e5⟩ : ∃ z, T5.heap = z := ⟨_, rfl⟩
        rw [e5] at hQ5
        obtain ⟨rfl, Nq5, Kq5, p5_E, p5_Fnet, p5_Fwidth, p5_Fhigh, p5_Flow, p5_Freal⟩ := hQ5
        have N5 := Fr.app N0 Nq5
        replace Z0 := Nat.le_trans Z0 Kq5.1
        replace O := O.keep Kq5 (allS g_b4 all0)
        refine own_join ?_ st5
        show Go _ _ _ _ _ _ _ _ (mkF m 147 #[.val (.int n), .val (.int d), .val (.int lw), .val (.int h_), .val (.int w), .val (.int f), .val (.int n), .val (.int lo1), .val (.int hi1), .val (.int wd1), .val (.int ra), .val (.int net2), .val (.int lo2), .val (.int hi2), .val (.int wd2), .val (.int rb), .unset, .unset, .unset, .unset] [(.ref b4)])
        refine own_via ?_ fun _ kt => XS.astore X5.here hx rfl (hb hby at_147) rfl rfl (l' := #[.val (.int n), .val (.int d), .val (.int lw), .val (.int h_), .val (.int w), .val (.int f), .val (.int n), .val (.int lo1), .val (.int hi1), .val (.int wd1), .val (.int ra), .val (.int net2), .val (.int lo2), .val (.int hi2), .val (.int wd2), .val (.int rb), .val (.ref b4), .unset, .unset, .unset]) rfl kt
        show Go _ _ _ _ _ _ _ _ (mkF m 149 #[.val (.int n), .val (.int d), .val (.int lw), .val (.int h_), .val (.int w), .val (.int f), .val (.int n), .val (.int lo1), .val (.int hi1), .val (.int wd1), .val (.int ra), .val (.int net2), .val (.int lo2), .val (.int hi2), .val (.int wd2), .val (.int rb), .val (.ref b4), .unset, .unset, .unset] [])
        obtain ⟨T6, h6, X6, e6, E6, A6, D6, -, st6⟩ := newO X5 hx hZ hown (hw _ (List.mem_of_getElem? (i := 2) rfl)) (hw _ (List.mem_of_getElem? (i := 3) rfl)) (hw _ (List.mem_of_getElem? (i := 4) rfl)) e5 (g := (mkF m 149 #[.val (.int n), .val (.int d), .val (.int lw), .val (.int h_), .val (.int w), .val (.int f), .val (.int n), .val (.int lo1), .val (.int hi1), .val (.int wd1), .val (.int ra), .val (.int net2), .val (.int lo2), .val (.int hi2), .val (.int wd2), .val (.int rb), .val (.ref b4), .unset, .unset, .unset] [])) rfl (hb hby at_149) (by decide) (by decide)
        obtain ⟨b6, g6⟩ : ∃ z, z = h5.size := ⟨_, rfl⟩
        rw [← g6] at A6 D6 st6
        have ne7 : b4 ≠ b6 := by rw [g6]; exact Nat.ne_of_lt p5_E.lt
        have g_b6 : n0 ≤ b6 := by rw [g6]; exact Z0
        replace p5_E := p5_E.ext E6
        replace p5_Fnet := p5_Fnet.ext E6
        replace p5_Fwidth := p5_Fwidth.ext E6
        replace p5_Fhigh := p5_Fhigh.ext E6
        replace p5_Flow := p5_Flow.ext E6
        replace p5_Freal := p5_Freal.ext E6
        replace Z0 := Nat.le_trans Z0 E6.1
        replace O := O.ext E6
        have F_net_b6 : Fld Z h6 b6 "com/example/polytrace/polytrace/model/Trace$Bits" "net" "I" (.int (0 : Int32)) := D6 (Or.inr (hw _ (List.mem_of_getElem? (i := 12) rfl))) (ty := .int) (by decide)
        have F_width_b6 : Fld Z h6 b6 "com/example/polytrace/polytrace/model/Trace$Bits" "width" "I" (.int (0 : Int32)) := D6 (Or.inr (hw _ (List.mem_of_getElem? (i := 14) rfl))) (ty := .int) (by decide)
        have F_high_b6 : Fld Z h6 b6 "com/example/polytrace/polytrace/model/Trace$Bits" "high" "I" (.int (0 : Int32)) := D6 (Or.inr (hw _ (List.mem_of_getElem? (i := 16) rfl))) (ty := .int) (by decide)
        have F_low_b6 : Fld Z h6 b6 "com/example/polytrace/polytrace/model/Trace$Bits" "low" "I" (.int (0 : Int32)) := D6 (Or.inr (hw _ (List.mem_of_getElem? (i := 18) rfl))) (ty := .int) (by decide)
        have F_real_b6 : Fld Z h6 b6 "com/example/polytrace/polytrace/model/Trace$Bits" "real" "Z" (.int (0 : Int32)) := D6 (Or.inr (hw _ (List.mem_of_getElem? (i := 20) rfl))) (ty := .boolean) (by decide)
        refine own_via ?_ st6
        show Go _ _ _ _ _ _ _ _ (mkF m 152 #[.val (.int n), .val (.int d), .val (.int lw), .val (.int h_), .val (.int w), .val (.int f), .val (.int n), .val (.int lo1), .val (.int hi1), .val (.int wd1), .val (.int ra), .val (.int net2), .val (.int lo2), .val (.int hi2), .val (.int wd2), .val (.int rb), .val (.ref b4), .unset, .unset, .unset] [(.ref b6)])
        refine own_via ?_ fun _ kt => XS.dup X6.here hx rfl (hb hby at_152) rfl rfl kt
        show Go _ _ _ _ _ _ _ _ (mkF m 153 #[.val (.int n), .val (.int d), .val (.int lw), .val (.int h_), .val (.int w), .val (.int f), .val (.int n), .val (.int lo1), .val (.int hi1), .val (.int wd1), .val (.int ra), .val (.int net2), .val (.int lo2), .val (.int hi2), .val (.int wd2), .val (.int rb), .val (.ref b4), .unset, .unset, .unset] [(.ref b6), (.ref b6)])
        refine own_via ?_ fun _ kt => XS.iload X6.here hx rfl (hb hby at_153) rfl kt
        show Go _ _ _ _ _ _ _ _ (mkF m 155 #[.val (.int n), .val (.int d), .val (.int lw), .val (.int h_), .val (.int w), .val (.int f), .val (.int n), .val (.int lo1), .val (.int hi1), .val (.int wd1), .val (.int ra), .val (.int net2), .val (.int lo2), .val (.int hi2), .val (.int wd2), .val (.int rb), .val (.ref b4), .unset, .unset, .unset] [(.int net2), (.ref b6), (.ref b6)])
        refine own_via ?_ fun _ kt => XS.iload X6.here hx rfl (hb hby at_155) rfl kt
        show Go _ _ _ _ _ _ _ _ (mkF m 157 #[.val (.int n), .val (.int d), .val (.int lw), .val (.int h_), .val (.int w), .val (.int f), .val (.int n), .val (.int lo1), .val (.int hi1), .val (.int wd1), .val (.int ra), .val (.int net2), .val (.int lo2), .val (.int hi2), .val (.int wd2), .val (.int rb), .val (.ref b4), .unset, .unset, .unset] [(.int wd2), (.int net2), (.ref b6), (.ref b6)])
        refine own_via ?_ fun _ kt => XS.iload X6.here hx rfl (hb hby at_157) rfl kt
        show Go _ _ _ _ _ _ _ _ (mkF m 159 #[.val (.int n), .val (.int d), .val (.int lw), .val (.int h_), .val (.int w), .val (.int f), .val (.int n), .val (.int lo1), .val (.int hi1), .val (.int wd1), .val (.int ra), .val (.int net2), .val (.int lo2), .val (.int hi2), .val (.int wd2), .val (.int rb), .val (.ref b4), .unset, .unset, .unset] [(.int hi2), (.int wd2), (.int net2), (.ref b6), (.ref b6)])
        refine own_via ?_ fun _ kt => XS.iload X6.here hx rfl (hb hby at_159) rfl kt
        show Go _ _ _ _ _ _ _ _ (mkF m 161 #[.val (.int n), .val (.int d), .val (.int lw), .val (.int h_), .val (.int w), .val (.int f), .val (.int n), .val (.int lo1), .val (.int hi1), .val (.int wd1), .val (.int ra), .val (.int net2), .val (.int lo2), .val (.int hi2), .val (.int wd2), .val (.int rb), .val (.ref b4), .unset, .unset, .unset] [(.int lo2), (.int hi2), (.int wd2), (.int net2), (.ref b6), (.ref b6)])
        refine own_via ?_ fun _ kt => XS.iload X6.here hx rfl (hb hby at_161) rfl kt
        show Go _ _ _ _ _ _ _ _ (mkF m 163 #[.val (.int n), .val (.int d), .val (.int lw), .val (.int h_), .val (.int w), .val (.int f), .val (.int n), .val (.int lo1), .val (.int hi1), .val (.int wd1), .val (.int ra), .val (.int net2), .val (.int lo2), .val (.int hi2), .val (.int wd2), .val (.int rb), .val (.ref b4), .unset, .unset, .unset] [(.int rb), (.int lo2), (.int hi2), (.int wd2), (.int net2), (.ref b6), (.ref b6)])
        obtain ⟨_, _, ⟨T8, L8, k8, n8⟩, -, X8, ⟨Lc8, hQ8, l8, y8, z8⟩, st8⟩ := X6.specialBack hx (y := (⟨"com/example/polytrace/polytrace/model/Trace$Bits", "<init>", "(IIIIZ)V"⟩ : MethodName)) rfl hown (mvT hZ (hw _ (List.mem_of_getElem? (i := 5) rfl))) (mvT hZ (hw _ (List.mem_of_getElem? (i := 6) rfl))) (mvT hZ (hw _ (List.mem_of_getElem? (i := 7) rfl))) (by decide) (backOf (W := 1) (rm_bits l Z a0 hw [] b6 net2 wd2 hi2 lo2 rb h6 n0 Z0 g_b6 hr2 hb2.1 hb2.2.1 hb2.2.2 A6 F_net_b6 F_width_b6 F_high_b6 F_low_b6 F_real_b6) hZ (hw _ (List.mem_of_getElem? (i := 7) rfl)) (hw _ (List.mem_of_getElem? (i := 4) rfl)) (by decide) (by decide)) (g := (mkF m 163 #[.val (.int n), .val (.int d), .val (.int lw), .val (.int h_), .val (.int w), .val (.int f), .val (.int n), .val (.int lo1), .val (.int hi1), .val (.int wd1), .val (.int ra), .val (.int net2), .val (.int lo2), .val (.int hi2), .val (.int wd2), .val (.int rb), .val (.ref b4), .unset, .unset, .unset] [(.int rb), (.int lo2), (.int hi2), (.int wd2), (.int net2), (.ref b6), (.ref b6)])) rfl (by rw [hml]; rfl) (Steps.refl _) (a := b6) (argsL := [(.int net2), (.int wd2), (.int hi2), (.int lo2), (.int rb)]) (rest := [(.ref b6)]) (lenOf pd2 rfl) rfl (by show 2 * 0 + _ ≤ _; exact Nat.le_of_eq rfl) (hb hby at_163) (fun _ _ => ⟨rfl, e6, (by decide : 2 + 0 ≤ _), (by decide : 10 + 0 ≤ _)⟩)
        dsimp only [Pt.U, Pt.locs, Pt.cells, Pt.slots] at X8 l8 y8 z8 st8 hQ8
        subst l8 y8 z8
        obtain ⟨h8, e8⟩ : ∃ z, T8.heap = z := ⟨_, rfl⟩
        rw [e8] at hQ8
        obtain ⟨rfl, Nq8, Kq8, p8_E, p8_Fnet, p8_Fwidth, p8_Fhigh, p8_Flow, p8_Freal⟩ := hQ8
        have N8 := Fr.app N5 Nq8
        replace p5_E := p5_E.keep Kq8
        replace p5_Fnet := p5_Fnet.keep Kq8 (ninS ne7 nin0)
        replace p5_Fwidth := p5_Fwidth.keep Kq8 (ninS ne7 nin0)
        replace p5_Fhigh := p5_Fhigh.keep Kq8 (ninS ne7 nin0)
        replace p5_Flow := p5_Flow.keep Kq8 (ninS ne7 nin0)
        replace p5_Freal := p5_Freal.keep Kq8 (ninS ne7 nin0)
        replace Z0 := Nat.le_trans Z0 Kq8.1
        replace O := O.keep Kq8 (allS g_b6 all0)
        refine own_join ?_ st8
        show Go _ _ _ _ _ _ _ _ (mkF m 166 #[.val (.int n), .val (.int d), .val (.int lw), .val (.int h_), .val (.int w), .val (.int f), .val (.int n), .val (.int lo1), .val (.int hi1), .val (.int wd1), .val (.int ra), .val (.int net2), .val (.int lo2), .val (.int hi2), .val (.int wd2), .val (.int rb), .val (.ref b4), .unset, .unset, .unset] [(.ref b6)])
        refine own_via ?_ fun _ kt => XS.astore X8.here hx rfl (hb hby at_166) rfl rfl (l' := #[.val (.int n), .val (.int d), .val (.int lw), .val (.int h_), .val (.int w), .val (.int f), .val (.int n), .val (.int lo1), .val (.int hi1), .val (.int wd1), .val (.int ra), .val (.int net2), .val (.int lo2), .val (.int hi2), .val (.int wd2), .val (.int rb), .val (.ref b4), .val (.ref b6), .unset, .unset]) rfl kt
        show Go _ _ _ _ _ _ _ _ (mkF m 168 #[.val (.int n), .val (.int d), .val (.int lw), .val (.int h_), .val (.int w), .val (.int f), .val (.int n), .val (.int lo1), .val (.int hi1), .val (.int wd1), .val (.int ra), .val (.int net2), .val (.int lo2), .val (.int hi2), .val (.int wd2), .val (.int rb), .val (.ref b4), .val (.ref b6), .unset, .unset] [])
        refine own_via ?_ fun _ kt => XS.iload X8.here hx rfl (hb hby at_168) rfl kt
        show Go _ _ _ _ _ _ _ _ (mkF m 170 #[.val (.int n), .val (.int d), .val (.int lw), .val (.int h_), .val (.int w), .val (.int f), .val (.int n), .val (.int lo1), .val (.int hi1), .val (.int wd1), .val (.int ra), .val (.int net2), .val (.int lo2), .val (.int hi2), .val (.int wd2), .val (.int rb), .val (.ref b4), .val (.ref b6), .unset, .unset] [(.int n)])
        refine own_via ?_ fun _ kt => XS.iload X8.here hx rfl (hb hby at_170) rfl kt
        have J9 : ∀ (ex : Int32), ex = (if n = net2 then (if wd1 = wd2 then (if hi1 = hi2 then (if lo1 = lo2 then (if ra = rb then (1 : Int32) else (0 : Int32)) else (0 : Int32)) else (0 : Int32)) else (0 : Int32)) else (0 : Int32)) → Go p e below s room_1.cells room_1.slots (Q_law Z n d lw h_ w f ca cl h0 n0) T8 (mkF m 208 #[.val (.int n), .val (.int d), .val (.int lw), .val (.int h_), .val (.int w), .val (.int f), .val (.int n), .val (.int lo1), .val (.int hi1), .val (.int wd1), .val (.int ra), .val (.int net2), .val (.int lo2), .val (.int hi2), .val (.int wd2), .val (.int rb), .val (.ref b4), .val (.ref b6), .unset, .unset] [(.int ex)]) := by
          intro ex hex
          show Go _ _ _ _ _ _ _ _ (mkF m 208 #[.val (.int n), .val (.int d), .val (.int lw), .val (.int h_), .val (.int w), .val (.int f), .val (.int n), .val (.int lo1), .val (.int hi1), .val (.int wd1), .val (.int ra), .val (.int net2), .val (.int lo2), .val (.int hi2), .val (.int wd2), .val (.int rb), .val (.ref b4), .val (.ref b6), .unset, .unset] [(.int ex)])
          refine own_via ?_ fun _ kt => XS.istore X8.here hx rfl (hb hby at_208) rfl (l' := #[.val (.int n), .val (.int d), .val (.int lw), .val (.int h_), .val (.int w), .val (.int f), .val (.int n), .val (.int lo1), .val (.int hi1), .val (.int wd1), .val (.int ra), .val (.int net2), .val (.int lo2), .val (.int hi2), .val (.int wd2), .val (.int rb), .val (.ref b4), .val (.ref b6), .val (.int ex), .unset]) rfl kt
          show Go _ _ _ _ _ _ _ _ (mkF m 210 #[.val (.int n), .val (.int d), .val (.int lw), .val (.int h_), .val (.int w), .val (.int f), .val (.int n), .val (.int lo1), .val (.int hi1), .val (.int wd1), .val (.int ra), .val (.int net2), .val (.int lo2), .val (.int hi2), .val (.int wd2), .val (.int rb), .val (.ref b4), .val (.ref b6), .val (.int ex), .unset] [])
          refine own_via ?_ fun _ kt => XS.iload X8.here hx rfl (hb hby at_210) rfl kt
          show Go _ _ _ _ _ _ _ _ (mkF m 212 #[.val (.int n), .val (.int d), .val (.int lw), .val (.int h_), .val (.int w), .val (.int f), .val (.int n), .val (.int lo1), .val (.int hi1), .val (.int wd1), .val (.int ra), .val (.int net2), .val (.int lo2), .val (.int hi2), .val (.int wd2), .val (.int rb), .val (.ref b4), .val (.ref b6), .val (.int ex), .unset] [(.int n)])
          obtain ⟨_, _, ⟨T10, L10, k10, n10⟩, -, X10, ⟨Lc10, hQ10, l10, y10, z10⟩, st10⟩ := Jvm.LawKit.callS X8 hx (y := (⟨"java/lang/Integer", "valueOf", "(I)Ljava/lang/Integer;"⟩ : MethodName)) hown (mvT hZ (hw _ (List.mem_of_getElem? (i := 21) rfl))) (mvT hZ (hw _ (List.mem_of_getElem? (i := 22) rfl))) (mvT hZ (hw _ (List.mem_of_getElem? (i := 23) rfl))) (mvT hZ (hw _ (List.mem_of_getElem? (i := 24) rfl))) (by decide) (backOf (W := 0) (rm_valueOf l Z a0 hw [] n ca cl h8 n0 Z0 O Sh Sc BX) hZ (hw _ (List.mem_of_getElem? (i := 24) rfl)) (hw _ (List.mem_of_getElem? (i := 23) rfl)) (by decide) (by decide)) (g := (mkF m 212 #[.val (.int n), .val (.int d), .val (.int lw), .val (.int h_), .val (.int w), .val (.int f), .val (.int n), .val (.int lo1), .val (.int hi1), .val (.int wd1), .val (.int ra), .val (.int net2), .val (.int lo2), .val (.int hi2), .val (.int wd2), .val (.int rb), .val (.ref b4), .val (.ref b6), .val (.int ex), .unset] [(.int n)])) rfl (by rw [hml]; rfl) (argsL := [(.int n)]) (rest := []) (lenOf pd3 rfl) rfl (by show 2 * 0 + _ ≤ _; exact Nat.le_of_eq rfl) (hb hby at_212) (fun _ _ => ⟨rfl, e8, (by decide : 2 + 1 ≤ _), (by decide : 10 + 1 ≤ _)⟩)
          dsimp only [Pt.U, Pt.locs, Pt.cells, Pt.slots] at X10 l10 y10 z10 st10 hQ10
          subst l10 y10 z10
          obtain ⟨h10, e10⟩ : ∃ z, T10.heap = z := ⟨_, rfl⟩
          rw [e10] at hQ10
          obtain ⟨io, rfl, Eio, Nq10, Kq10⟩ := hQ10
          have N10 := Fr.app N8 Nq10
          replace p5_E := p5_E.keep Kq10
          replace p5_Fnet := p5_Fnet.keep Kq10 nin0
          replace p5_Fwidth := p5_Fwidth.keep Kq10 nin0
          replace p5_Fhigh := p5_Fhigh.keep Kq10 nin0
          replace p5_Flow := p5_Flow.keep Kq10 nin0
          replace p5_Freal := p5_Freal.keep Kq10 nin0
          replace p8_E := p8_E.keep Kq10
          replace p8_Fnet := p8_Fnet.keep Kq10 nin0
          replace p8_Fwidth := p8_Fwidth.keep Kq10 nin0
          replace p8_Fhigh := p8_Fhigh.keep Kq10 nin0
          replace p8_Flow := p8_Flow.keep Kq10 nin0
          replace p8_Freal := p8_Freal.keep Kq10 nin0
          replace Z0 := Nat.le_trans Z0 Kq10.1
          replace O := O.keep Kq10 all0
          refine own_via ?_ st10
          show Go _ _ _ _ _ _ _ _ (mkF m 215 #[.val (.int n), .val (.int d), .val (.int lw), .val (.int h_), .val (.int w), .val (.int f), .val (.int n), .val (.int lo1), .val (.int hi1), .val (.int wd1), .val (.int ra), .val (.int net2), .val (.int lo2), .val (.int hi2), .val (.int wd2), .val (.int rb), .val (.ref b4), .val (.ref b6), .val (.int ex), .unset] [(.ref io)])
          refine own_via ?_ fun _ kt => XS.astore X10.here hx rfl (hb hby at_215) rfl rfl (l' := #[.val (.int n), .val (.int d), .val (.int lw), .val (.int h_), .val (.int w), .val (.int f), .val (.int n), .val (.int lo1), .val (.int hi1), .val (.int wd1), .val (.int ra), .val (.int net2), .val (.int lo2), .val (.int hi2), .val (.int wd2), .val (.int rb), .val (.ref b4), .val (.ref b6), .val (.int ex), .val (.ref io)]) rfl kt
          show Go _ _ _ _ _ _ _ _ (mkF m 217 #[.val (.int n), .val (.int d), .val (.int lw), .val (.int h_), .val (.int w), .val (.int f), .val (.int n), .val (.int lo1), .val (.int hi1), .val (.int wd1), .val (.int ra), .val (.int net2), .val (.int lo2), .val (.int hi2), .val (.int wd2), .val (.int rb), .val (.ref b4), .val (.ref b6), .val (.int ex), .val (.ref io)] [])
          refine own_via ?_ fun _ kt => XS.aload X10.here hx rfl (hb hby at_217) rfl rfl kt
          show Go _ _ _ _ _ _ _ _ (mkF m 219 #[.val (.int n), .val (.int d), .val (.int lw), .val (.int h_), .val (.int w), .val (.int f), .val (.int n), .val (.int lo1), .val (.int hi1), .val (.int wd1), .val (.int ra), .val (.int net2), .val (.int lo2), .val (.int hi2), .val (.int wd2), .val (.int rb), .val (.ref b4), .val (.ref b6), .val (.int ex), .val (.ref io)] [(.ref b4)])
          refine own_via ?_ fun _ kt => XS.aload X10.here hx rfl (hb hby at_219) rfl rfl kt
          show Go _ _ _ _ _ _ _ _ (mkF m 221 #[.val (.int n), .val (.int d), .val (.int lw), .val (.int h_), .val (.int w), .val (.int f), .val (.int n), .val (.int lo1), .val (.int hi1), .val (.int wd1), .val (.int ra), .val (.int net2), .val (.int lo2), .val (.int hi2), .val (.int wd2), .val (.int rb), .val (.ref b4), .val (.ref b6), .val (.int ex), .val (.ref io)] [(.ref b6), (.ref b4)])
          obtain ⟨cq11, kq11, q11a, q11b, q11c⟩ := isOf hZ e10 p5_E
          obtain ⟨_, _, ⟨T11, L11, k11, n11⟩, -, X11, ⟨Lc11, hQ11, l11, y11, z11⟩, st11⟩ := X10.virtualBack hx (y := (⟨"com/example/polytrace/polytrace/model/Trace$Bits", "equals", "(Ljava/lang/Object;)Z"⟩ : MethodName)) (z := (⟨"com/example/polytrace/polytrace/model/Trace$Bits", "equals", "(Ljava/lang/Object;)Z"⟩ : MethodName)) hown (mvT hZ (hw _ (List.mem_of_getElem? (i := 28) rfl))) (mvT hZ (hw _ (List.mem_of_getElem? (i := 29) rfl))) (notFace_of_selects (args := #[]) (mvT hZ (hw _ (List.mem_of_getElem? (i := 31) rfl)))) (mvT hZ (hw _ (List.mem_of_getElem? (i := 31) rfl))) (mvT hZ (hw _ (List.mem_of_getElem? (i := 30) rfl))) (by decide) (backOf (W := 0) (rm_eqB l Z a0 hw [] b4 b6 n wd1 hi1 lo1 ra net2 wd2 hi2 lo2 rb h10 n0 Z0 p5_E p5_Fnet p5_Fwidth p5_Fhigh p5_Flow p5_Freal p8_E p8_Fnet p8_Fwidth p8_Fhigh p8_Flow p8_Freal) hZ (hw _ (List.mem_of_getElem? (i := 32) rfl)) (hw _ (List.mem_of_getElem? (i := 4) rfl)) (by decide) (by decide)) q11a q11c (g := (mkF m 221 #[.val (.int n), .val (.int d), .val (.int lw), .val (.int h_), .val (.int w), .val (.int f), .val (.int n), .val (.int lo1), .val (.int hi1), .val (.int wd1), .val (.int ra), .val (.int net2), .val (.int lo2), .val (.int hi2), .val (.int wd2), .val (.int rb), .val (.ref b4), .val (.ref b6), .val (.int ex), .val (.ref io)] [(.ref b6), (.ref b4)])) rfl (by rw [hml]; rfl) (Steps.refl _) (argsL := [(.ref b6)]) (rest := []) (lenOf pd4 rfl) rfl (by show 2 * 0 + _ ≤ _; exact Nat.le_of_eq rfl) (hb hby at_221) (fun _ _ => ⟨rfl, e10, (by decide : 3 + 0 ≤ _), (by decide : 11 + 0 ≤ _)⟩)
          dsimp only [Pt.U, Pt.locs, Pt.cells, Pt.slots] at X11 l11 y11 z11 st11 hQ11
          subst l11 y11 z11
          obtain ⟨rfl, Nq11, e11⟩ := hQ11
          have N11 := Fr.app N10 Nq11
          refine own_join ?_ st11
          show Go _ _ _ _ _ _ _ _ (mkF m 224 #[.val (.int n), .val (.int d), .val (.int lw), .val (.int h_), .val (.int w), .val (.int f), .val (.int n), .val (.int lo1), .val (.int hi1), .val (.int wd1), .val (.int ra), .val (.int net2), .val (.int lo2), .val (.int hi2), .val (.int wd2), .val (.int rb), .val (.ref b4), .val (.ref b6), .val (.int ex), .val (.ref io)] [(.int (be n wd1 hi1 lo1 ra net2 wd2 hi2 lo2 rb))])
          refine own_via ?_ fun _ kt => XS.iload X11.here hx rfl (hb hby at_224) rfl kt
          show Go _ _ _ _ _ _ _ _ (mkF m 226 #[.val (.int n), .val (.int d), .val (.int lw), .val (.int h_), .val (.int w), .val (.int f), .val (.int n), .val (.int lo1), .val (.int hi1), .val (.int wd1), .val (.int ra), .val (.int net2), .val (.int lo2), .val (.int hi2), .val (.int wd2), .val (.int rb), .val (.ref b4), .val (.ref b6), .val (.int ex), .val (.ref io)] [(.int ex), (.int (be n wd1 hi1 lo1 ra net2 wd2 hi2 lo2 rb))])
          refine own_via ?_ fun _ kt => XS.icmpNo X11.here hx rfl (hb hby at_226) rfl (teq (ex_1 hex)).2 kt
          show Go _ _ _ _ _ _ _ _ (mkF m 229 #[.val (.int n), .val (.int d), .val (.int lw), .val (.int h_), .val (.int w), .val (.int f), .val (.int n), .val (.int lo1), .val (.int hi1), .val (.int wd1), .val (.int ra), .val (.int net2), .val (.int lo2), .val (.int hi2), .val (.int wd2), .val (.int rb), .val (.ref b4), .val (.ref b6), .val (.int ex), .val (.ref io)] [])
          refine own_via ?_ fun _ kt => XS.aload X11.here hx rfl (hb hby at_229) rfl rfl kt
          show Go _ _ _ _ _ _ _ _ (mkF m 231 #[.val (.int n), .val (.int d), .val (.int lw), .val (.int h_), .val (.int w), .val (.int f), .val (.int n), .val (.int lo1), .val (.int hi1), .val (.int wd1), .val (.int ra), .val (.int net2), .val (.int lo2), .val (.int hi2), .val (.int wd2), .val (.int rb), .val (.ref b4), .val (.ref b6), .val (.int ex), .val (.ref io)] [(.ref b6)])
          refine own_via ?_ fun _ kt => XS.aload X11.here hx rfl (hb hby at_231) rfl rfl kt
          show Go _ _ _ _ _ _ _ _ (mkF m 233 #[.val (.int n), .val (.int d), .val (.int lw), .val (.int h_), .val (.int w), .val (.int f), .val (.int n), .val (.int lo1), .val (.int hi1), .val (.int wd1), .val (.int ra), .val (.int net2), .val (.int lo2), .val (.int hi2), .val (.int wd2), .val (.int rb), .val (.ref b4), .val (.ref b6), .val (.int ex), .val (.ref io)] [(.ref b4), (.ref b6)])
          obtain ⟨cq12, kq12, q12a, q12b, q12c⟩ := isOf hZ e11 p8_E
          obtain ⟨_, _, ⟨T12, L12, k12, n12⟩, -, X12, ⟨Lc12, hQ12, l12, y12, z12⟩, st12⟩ := X11.virtualBack hx (y := (⟨"com/example/polytrace/polytrace/model/Trace$Bits", "equals", "(Ljava/lang/Object;)Z"⟩ : MethodName)) (z := (⟨"com/example/polytrace/polytrace/model/Trace$Bits", "equals", "(Ljava/lang/Object;)Z"⟩ : MethodName)) hown (mvT hZ (hw _ (List.mem_of_getElem? (i := 28) rfl))) (mvT hZ (hw _ (List.mem_of_getElem? (i := 29) rfl))) (notFace_of_selects (args := #[]) (mvT hZ (hw _ (List.mem_of_getElem? (i := 31) rfl)))) (mvT hZ (hw _ (List.mem_of_getElem? (i := 31) rfl))) (mvT hZ (hw _ (List.mem_of_getElem? (i := 30) rfl))) (by decide) (backOf (W := 0) (rm_eqB l Z a0 hw [] b6 b4 net2 wd2 hi2 lo2 rb n wd1 hi1 lo1 ra h10 n0 Z0 p8_E p8_Fnet p8_Fwidth p8_Fhigh p8_Flow p8_Freal p5_E p5_Fnet p5_Fwidth p5_Fhigh p5_Flow p5_Freal) hZ (hw _ (List.mem_of_getElem? (i := 32) rfl)) (hw _ (List.mem_of_getElem? (i := 4) rfl)) (by decide) (by decide)) q12a q12c (g := (mkF m 233 #[.val (.int n), .val (.int d), .val (.int lw), .val (.int h_), .val (.int w), .val (.int f), .val (.int n), .val (.int lo1), .val (.int hi1), .val (.int wd1), .val (.int ra), .val (.int net2), .val (.int lo2), .val (.int hi2), .val (.int wd2), .val (.int rb), .val (.ref b4), .val (.ref b6), .val (.int ex), .val (.ref io)] [(.ref b4), (.ref b6)])) rfl (by rw [hml]; rfl) (Steps.refl _) (argsL := [(.ref b4)]) (rest := []) (lenOf pd4 rfl) rfl (by show 2 * 0 + _ ≤ _; exact Nat.le_of_eq rfl) (hb hby at_233) (fun _ _ => ⟨rfl, e11, (by decide : 3 + 0 ≤ _), (by decide : 11 + 0 ≤ _)⟩)
          dsimp only [Pt.U, Pt.locs, Pt.cells, Pt.slots] at X12 l12 y12 z12 st12 hQ12
          subst l12 y12 z12
          obtain ⟨rfl, Nq12, e12⟩ := hQ12
          have N12 := Fr.app N11 Nq12
          refine own_join ?_ st12
          show Go _ _ _ _ _ _ _ _ (mkF m 236 #[.val (.int n), .val (.int d), .val (.int lw), .val (.int h_), .val (.int w), .val (.int f), .val (.int n), .val (.int lo1), .val (.int hi1), .val (.int wd1), .val (.int ra), .val (.int net2), .val (.int lo2), .val (.int hi2), .val (.int wd2), .val (.int rb), .val (.ref b4), .val (.ref b6), .val (.int ex), .val (.ref io)] [(.int (be net2 wd2 hi2 lo2 rb n wd1 hi1 lo1 ra))])
          refine own_via ?_ fun _ kt => XS.iload X12.here hx rfl (hb hby at_236) rfl kt
          show Go _ _ _ _ _ _ _ _ (mkF m 238 #[.val (.int n), .val (.int d), .val (.int lw), .val (.int h_), .val (.int w), .val (.int f), .val (.int n), .val (.int lo1), .val (.int hi1), .val (.int wd1), .val (.int ra), .val (.int net2), .val (.int lo2), .val (.int hi2), .val (.int wd2), .val (.int rb), .val (.ref b4), .val (.ref b6), .val (.int ex), .val (.ref io)] [(.int ex), (.int (be net2 wd2 hi2 lo2 rb n wd1 hi1 lo1 ra))])
          refine own_via ?_ fun _ kt => XS.icmpNo X12.here hx rfl (hb hby at_238) rfl (teq (ex_2 hex)).2 kt
          show Go _ _ _ _ _ _ _ _ (mkF m 241 #[.val (.int n), .val (.int d), .val (.int lw), .val (.int h_), .val (.int w), .val (.int f), .val (.int n), .val (.int lo1), .val (.int hi1), .val (.int wd1), .val (.int ra), .val (.int net2), .val (.int lo2), .val (.int hi2), .val (.int wd2), .val (.int rb), .val (.ref b4), .val (.ref b6), .val (.int ex), .val (.ref io)] [])
          refine own_via ?_ fun _ kt => XS.aload X12.here hx rfl (hb hby at_241) rfl rfl kt
          show Go _ _ _ _ _ _ _ _ (mkF m 243 #[.val (.int n), .val (.int d), .val (.int lw), .val (.int h_), .val (.int w), .val (.int f), .val (.int n), .val (.int lo1), .val (.int hi1), .val (.int wd1), .val (.int ra), .val (.int net2), .val (.int lo2), .val (.int hi2), .val (.int wd2), .val (.int rb), .val (.ref b4), .val (.ref b6), .val (.int ex), .val (.ref io)] [(.ref b4)])
          refine own_via ?_ fun _ kt => XS.aload X12.here hx rfl (hb hby at_243) rfl rfl kt
          show Go _ _ _ _ _ _ _ _ (mkF m 245 #[.val (.int n), .val (.int d), .val (.int lw), .val (.int h_), .val (.int w), .val (.int f), .val (.int n), .val (.int lo1), .val (.int hi1), .val (.int wd1), .val (.int ra), .val (.int net2), .val (.int lo2), .val (.int hi2), .val (.int wd2), .val (.int rb), .val (.ref b4), .val (.ref b6), .val (.int ex), .val (.ref io)] [(.ref b4), (.ref b4)])
          obtain ⟨cq13, kq13, q13a, q13b, q13c⟩ := isOf hZ e12 p5_E
          obtain ⟨_, _, ⟨T13, L13, k13, n13⟩, -, X13, ⟨Lc13, hQ13, l13, y13, z13⟩, st13⟩ := X12.virtualBack hx (y := (⟨"com/example/polytrace/polytrace/model/Trace$Bits", "equals", "(Ljava/lang/Object;)Z"⟩ : MethodName)) (z := (⟨"com/example/polytrace/polytrace/model/Trace$Bits", "equals", "(Ljava/lang/Object;)Z"⟩ : MethodName)) hown (mvT hZ (hw _ (List.mem_of_getElem? (i := 28) rfl))) (mvT hZ (hw _ (List.mem_of_getElem? (i := 29) rfl))) (notFace_of_selects (args := #[]) (mvT hZ (hw _ (List.mem_of_getElem? (i := 31) rfl)))) (mvT hZ (hw _ (List.mem_of_getElem? (i := 31) rfl))) (mvT hZ (hw _ (List.mem_of_getElem? (i := 30) rfl))) (by decide) (backOf (W := 0) (rm_eqB l Z a0 hw [] b4 b4 n wd1 hi1 lo1 ra n wd1 hi1 lo1 ra h10 n0 Z0 p5_E p5_Fnet p5_Fwidth p5_Fhigh p5_Flow p5_Freal p5_E p5_Fnet p5_Fwidth p5_Fhigh p5_Flow p5_Freal) hZ (hw _ (List.mem_of_getElem? (i := 32) rfl)) (hw _ (List.mem_of_getElem? (i := 4) rfl)) (by decide) (by decide)) q13a q13c (g := (mkF m 245 #[.val (.int n), .val (.int d), .val (.int lw), .val (.int h_), .val (.int w), .val (.int f), .val (.int n), .val (.int lo1), .val (.int hi1), .val (.int wd1), .val (.int ra), .val (.int net2), .val (.int lo2), .val (.int hi2), .val (.int wd2), .val (.int rb), .val (.ref b4), .val (.ref b6), .val (.int ex), .val (.ref io)] [(.ref b4), (.ref b4)])) rfl (by rw [hml]; rfl) (Steps.refl _) (argsL := [(.ref b4)]) (rest := []) (lenOf pd4 rfl) rfl (by show 2 * 0 + _ ≤ _; exact Nat.le_of_eq rfl) (hb hby at_245) (fun _ _ => ⟨rfl, e12, (by decide : 3 + 0 ≤ _), (by decide : 11 + 0 ≤ _)⟩)
          dsimp only [Pt.U, Pt.locs, Pt.cells, Pt.slots] at X13 l13 y13 z13 st13 hQ13
          subst l13 y13 z13
          obtain ⟨rfl, Nq13, e13⟩ := hQ13
          have N13 := Fr.app N12 Nq13
          refine own_join ?_ st13
          show Go _ _ _ _ _ _ _ _ (mkF m 248 #[.val (.int n), .val (.int d), .val (.int lw), .val (.int h_), .val (.int w), .val (.int f), .val (.int n), .val (.int lo1), .val (.int hi1), .val (.int wd1), .val (.int ra), .val (.int net2), .val (.int lo2), .val (.int hi2), .val (.int wd2), .val (.int rb), .val (.ref b4), .val (.ref b6), .val (.int ex), .val (.ref io)] [(.int (be n wd1 hi1 lo1 ra n wd1 hi1 lo1 ra))])
          refine own_via ?_ fun _ kt => XS.ifNo X13.here hx rfl (hb hby at_248) rfl ((if0 _ _).trans (feq (by rw [be_t ⟨rfl, rfl, rfl, rfl, rfl⟩]; decide)).1) kt
          show Go _ _ _ _ _ _ _ _ (mkF m 251 #[.val (.int n), .val (.int d), .val (.int lw), .val (.int h_), .val (.int w), .val (.int f), .val (.int n), .val (.int lo1), .val (.int hi1), .val (.int wd1), .val (.int ra), .val (.int net2), .val (.int lo2), .val (.int hi2), .val (.int wd2), .val (.int rb), .val (.ref b4), .val (.ref b6), .val (.int ex), .val (.ref io)] [])
          refine own_via ?_ fun _ kt => XS.aload X13.here hx rfl (hb hby at_251) rfl rfl kt
          show Go _ _ _ _ _ _ _ _ (mkF m 253 #[.val (.int n), .val (.int d), .val (.int lw), .val (.int h_), .val (.int w), .val (.int f), .val (.int n), .val (.int lo1), .val (.int hi1), .val (.int wd1), .val (.int ra), .val (.int net2), .val (.int lo2), .val (.int hi2), .val (.int wd2), .val (.int rb), .val (.ref b4), .val (.ref b6), .val (.int ex), .val (.ref io)] [(.ref b4)])
          refine own_via ?_ fun _ kt => XS.aconstNull X13.here hx rfl (hb hby at_253) kt
          show Go _ _ _ _ _ _ _ _ (mkF m 254 #[.val (.int n), .val (.int d), .val (.int lw), .val (.int h_), .val (.int w), .val (.int f), .val (.int n), .val (.int lo1), .val (.int hi1), .val (.int wd1), .val (.int ra), .val (.int net2), .val (.int lo2), .val (.int hi2), .val (.int wd2), .val (.int rb), .val (.ref b4), .val (.ref b6), .val (.int ex), .val (.ref io)] [.null, (.ref b4)])
          obtain ⟨cq14, kq14, q14a, q14b, q14c⟩ := isOf hZ e13 p5_E
          obtain ⟨_, _, ⟨T14, L14, k14, n14⟩, -, X14, ⟨Lc14, hQ14, l14, y14, z14⟩, st14⟩ := X13.virtualBack hx (y := (⟨"com/example/polytrace/polytrace/model/Trace$Bits", "equals", "(Ljava/lang/Object;)Z"⟩ : MethodName)) (z := (⟨"com/example/polytrace/polytrace/model/Trace$Bits", "equals", "(Ljava/lang/Object;)Z"⟩ : MethodName)) hown (mvT hZ (hw _ (List.mem_of_getElem? (i := 28) rfl))) (mvT hZ (hw _ (List.mem_of_getElem? (i := 29) rfl))) (notFace_of_selects (args := #[]) (mvT hZ (hw _ (List.mem_of_getElem? (i := 31) rfl)))) (mvT hZ (hw _ (List.mem_of_getElem? (i := 31) rfl))) (mvT hZ (hw _ (List.mem_of_getElem? (i := 30) rfl))) (by decide) (backOf (W := 0) (rm_eqN l Z a0 hw [] b4 h10 n0 Z0) hZ (hw _ (List.mem_of_getElem? (i := 32) rfl)) (hw _ (List.mem_of_getElem? (i := 4) rfl)) (by decide) (by decide)) q14a q14c (g := (mkF m 254 #[.val (.int n), .val (.int d), .val (.int lw), .val (.int h_), .val (.int w), .val (.int f), .val (.int n), .val (.int lo1), .val (.int hi1), .val (.int wd1), .val (.int ra), .val (.int net2), .val (.int lo2), .val (.int hi2), .val (.int wd2), .val (.int rb), .val (.ref b4), .val (.ref b6), .val (.int ex), .val (.ref io)] [.null, (.ref b4)])) rfl (by rw [hml]; rfl) (Steps.refl _) (argsL := [.null]) (rest := []) (lenOf pd4 rfl) rfl (by show 2 * 0 + _ ≤ _; exact Nat.le_of_eq rfl) (hb hby at_254) (fun _ _ => ⟨rfl, e13, (by decide : 3 + 0 ≤ _), (by decide : 11 + 0 ≤ _)⟩)
          dsimp only [Pt.U, Pt.locs, Pt.cells, Pt.slots] at X14 l14 y14 z14 st14 hQ14
          subst l14 y14 z14
          obtain ⟨rfl, Nq14, e14⟩ := hQ14
          have N14 := Fr.app N13 Nq14
          refine own_join ?_ st14
          show Go _ _ _ _ _ _ _ _ (mkF m 257 #[.val (.int n), .val (.int d), .val (.int lw), .val (.int h_), .val (.int w), .val (.int f), .val (.int n), .val (.int lo1), .val (.int hi1), .val (.int wd1), .val (.int ra), .val (.int net2), .val (.int lo2), .val (.int hi2), .val (.int wd2), .val (.int rb), .val (.ref b4), .val (.ref b6), .val (.int ex), .val (.ref io)] [(.int (0 : Int32))])
          refine own_via ?_ fun _ kt => XS.ifNo X14.here hx rfl (hb hby at_257) rfl ((if0 _ _).trans (teq rfl).2) kt
          show Go _ _ _ _ _ _ _ _ (mkF m 260 #[.val (.int n), .val (.int d), .val (.int lw), .val (.int h_), .val (.int w), .val (.int f), .val (.int n), .val (.int lo1), .val (.int hi1), .val (.int wd1), .val (.int ra), .val (.int net2), .val (.int lo2), .val (.int hi2), .val (.int wd2), .val (.int rb), .val (.ref b4), .val (.ref b6), .val (.int ex), .val (.ref io)] [])
          refine own_via ?_ fun _ kt => XS.aload X14.here hx rfl (hb hby at_260) rfl rfl kt
          show Go _ _ _ _ _ _ _ _ (mkF m 262 #[.val (.int n), .val (.int d), .val (.int lw), .val (.int h_), .val (.int w), .val (.int f), .val (.int n), .val (.int lo1), .val (.int hi1), .val (.int wd1), .val (.int ra), .val (.int net2), .val (.int lo2), .val (.int hi2), .val (.int wd2), .val (.int rb), .val (.ref b4), .val (.ref b6), .val (.int ex), .val (.ref io)] [(.ref b4)])
          refine own_via ?_ fun _ kt => XS.aload X14.here hx rfl (hb hby at_262) rfl rfl kt
          show Go _ _ _ _ _ _ _ _ (mkF m 264 #[.val (.int n), .val (.int d), .val (.int lw), .val (.int h_), .val (.int w), .val (.int f), .val (.int n), .val (.int lo1), .val (.int hi1), .val (.int wd1), .val (.int ra), .val (.int net2), .val (.int lo2), .val (.int hi2), .val (.int wd2), .val (.int rb), .val (.ref b4), .val (.ref b6), .val (.int ex), .val (.ref io)] [(.ref io), (.ref b4)])
          obtain ⟨cq15, kq15, q15a, q15b, q15c⟩ := isOf hZ e14 p5_E
          obtain ⟨_, _, ⟨T15, L15, k15, n15⟩, -, X15, ⟨Lc15, hQ15, l15, y15, z15⟩, st15⟩ := X14.virtualBack hx (y := (⟨"com/example/polytrace/polytrace/model/Trace$Bits", "equals", "(Ljava/lang/Object;)Z"⟩ : MethodName)) (z := (⟨"com/example/polytrace/polytrace/model/Trace$Bits", "equals", "(Ljava/lang/Object;)Z"⟩ : MethodName)) hown (mvT hZ (hw _ (List.mem_of_getElem? (i := 28) rfl))) (mvT hZ (hw _ (List.mem_of_getElem? (i := 29) rfl))) (notFace_of_selects (args := #[]) (mvT hZ (hw _ (List.mem_of_getElem? (i := 31) rfl)))) (mvT hZ (hw _ (List.mem_of_getElem? (i := 31) rfl))) (mvT hZ (hw _ (List.mem_of_getElem? (i := 30) rfl))) (by decide) (backOf (W := 0) (rm_eqI l Z a0 hw [] b4 io h10 n0 Z0 Eio) hZ (hw _ (List.mem_of_getElem? (i := 32) rfl)) (hw _ (List.mem_of_getElem? (i := 4) rfl)) (by decide) (by decide)) q15a q15c (g := (mkF m 264 #[.val (.int n), .val (.int d), .val (.int lw), .val (.int h_), .val (.int w), .val (.int f), .val (.int n), .val (.int lo1), .val (.int hi1), .val (.int wd1), .val (.int ra), .val (.int net2), .val (.int lo2), .val (.int hi2), .val (.int wd2), .val (.int rb), .val (.ref b4), .val (.ref b6), .val (.int ex), .val (.ref io)] [(.ref io), (.ref b4)])) rfl (by rw [hml]; rfl) (Steps.refl _) (argsL := [(.ref io)]) (rest := []) (lenOf pd4 rfl) rfl (by show 2 * 0 + _ ≤ _; exact Nat.le_of_eq rfl) (hb hby at_264) (fun _ _ => ⟨rfl, e14, (by decide : 3 + 0 ≤ _), (by decide : 11 + 0 ≤ _)⟩)
          dsimp only [Pt.U, Pt.locs, Pt.cells, Pt.slots] at X15 l15 y15 z15 st15 hQ15
          subst l15 y15 z15
          obtain ⟨rfl, Nq15, e15⟩ := hQ15
          have N15 := Fr.app N14 Nq15
          refine own_join ?_ st15
          show Go _ _ _ _ _ _ _ _ (mkF m 267 #[.val (.int n), .val (.int d), .val (.int lw), .val (.int h_), .val (.int w), .val (.int f), .val (.int n), .val (.int lo1), .val (.int hi1), .val (.int wd1), .val (.int ra), .val (.int net2), .val (.int lo2), .val (.int hi2), .val (.int wd2), .val (.int rb), .val (.ref b4), .val (.ref b6), .val (.int ex), .val (.ref io)] [(.int (0 : Int32))])
          refine own_via ?_ fun _ kt => XS.ifNo X15.here hx rfl (hb hby at_267) rfl ((if0 _ _).trans (teq rfl).2) kt
          show Go _ _ _ _ _ _ _ _ (mkF m 270 #[.val (.int n), .val (.int d), .val (.int lw), .val (.int h_), .val (.int w), .val (.int f), .val (.int n), .val (.int lo1), .val (.int hi1), .val (.int wd1), .val (.int ra), .val (.int net2), .val (.int lo2), .val (.int hi2), .val (.int wd2), .val (.int rb), .val (.ref b4), .val (.ref b6), .val (.int ex), .val (.ref io)] [])
          refine own_via ?_ fun _ kt => XS.iconst X15.here hx rfl (hb hby at_270) kt
          show Go _ _ _ _ _ _ _ _ (mkF m 271 #[.val (.int n), .val (.int d), .val (.int lw), .val (.int h_), .val (.int w), .val (.int f), .val (.int n), .val (.int lo1), .val (.int hi1), .val (.int wd1), .val (.int ra), .val (.int net2), .val (.int lo2), .val (.int hi2), .val (.int wd2), .val (.int rb), .val (.ref b4), .val (.ref b6), .val (.int ex), .val (.ref io)] [(.int (1 : Int32))])
          refine own_via ?_ fun _ kt => XS.goto X15.here hx rfl (pc0 := 271) (pc' := 275) rfl (hb hby at_271) (by decide) (by decide) kt
          show Go _ _ _ _ _ _ _ _ (mkF m 275 #[.val (.int n), .val (.int d), .val (.int lw), .val (.int h_), .val (.int w), .val (.int f), .val (.int n), .val (.int lo1), .val (.int hi1), .val (.int wd1), .val (.int ra), .val (.int net2), .val (.int lo2), .val (.int hi2), .val (.int wd2), .val (.int rb), .val (.ref b4), .val (.ref b6), .val (.int ex), .val (.ref io)] [(.int (1 : Int32))])
          exact own_retZ (z' := (1 : Int32)) X15 hx hret hlk (hb hby at_275) rfl (by decide) (by decide) (by rw [e15]; exact ⟨rfl, N15⟩)
        show Go _ _ _ _ _ _ _ _ (mkF m 172 #[.val (.int n), .val (.int d), .val (.int lw), .val (.int h_), .val (.int w), .val (.int f), .val (.int n), .val (.int lo1), .val (.int hi1), .val (.int wd1), .val (.int ra), .val (.int net2), .val (.int lo2), .val (.int hi2), .val (.int wd2), .val (.int rb), .val (.ref b4), .val (.ref b6), .unset, .unset] [(.int net2), (.int n)])
        by_cases hc16 : n = net2
        · skip
          refine own_via ?_ fun _ kt => XS.icmpNo X8.here hx rfl (hb hby at_172) rfl (teq hc16).2 kt
          show Go _ _ _ _ _ _ _ _ (mkF m 175 #[.val (.int n), .val (.int d), .val (.int lw), .val (.int h_), .val (.int w), .val (.int f), .val (.int n), .val (.int lo1), .val (.int hi1), .val (.int wd1), .val (.int ra), .val (.int net2), .val (.int lo2), .val (.int hi2), .val (.int wd2), .val (.int rb), .val (.ref b4), .val (.ref b6), .unset, .unset] [])
          refine own_via ?_ fun _ kt => XS.iload X8.here hx rfl (hb hby at_175) rfl kt
          show Go _ _ _ _ _ _ _ _ (mkF m 177 #[.val (.int n), .val (.int d), .val (.int lw), .val (.int h_), .val (.int w), .val (.int f), .val (.int n), .val (.int lo1), .val (.int hi1), .val (.int wd1), .val (.int ra), .val (.int net2), .val (.int lo2), .val (.int hi2), .val (.int wd2), .val (.int rb), .val (.ref b4), .val (.ref b6), .unset, .unset] [(.int wd1)])
          refine own_via ?_ fun _ kt => XS.iload X8.here hx rfl (hb hby at_177) rfl kt
          show Go _ _ _ _ _ _ _ _ (mkF m 179 #[.val (.int n), .val (.int d), .val (.int lw), .val (.int h_), .val (.int w), .val (.int f), .val (.int n), .val (.int lo1), .val (.int hi1), .val (.int wd1), .val (.int ra), .val (.int net2), .val (.int lo2), .val (.int hi2), .val (.int wd2), .val (.int rb), .val (.ref b4), .val (.ref b6), .unset, .unset] [(.int wd2), (.int wd1)])
          by_cases hc17 : wd1 = wd2
          · skip
            refine own_via ?_ fun _ kt => XS.icmpNo X8.here hx rfl (hb hby at_179) rfl (teq hc17).2 kt
            show Go _ _ _ _ _ _ _ _ (mkF m 182 #[.val (.int n), .val (.int d), .val (.int lw), .val (.int h_), .val (.int w), .val (.int f), .val (.int n), .val (.int lo1), .val (.int hi1), .val (.int wd1), .val (.int ra), .val (.int net2), .val (.int lo2), .val (.int hi2), .val (.int wd2), .val (.int rb), .val (.ref b4), .val (.ref b6), .unset, .unset] [])
            refine own_via ?_ fun _ kt => XS.iload X8.here hx rfl (hb hby at_182) rfl kt
            show Go _ _ _ _ _ _ _ _ (mkF m 184 #[.val (.int n), .val (.int d), .val (.int lw), .val (.int h_), .val (.int w), .val (.int f), .val (.int n), .val (.int lo1), .val (.int hi1), .val (.int wd1), .val (.int ra), .val (.int net2), .val (.int lo2), .val (.int hi2), .val (.int wd2), .val (.int rb), .val (.ref b4), .val (.ref b6), .unset, .unset] [(.int hi1)])
            refine own_via ?_ fun _ kt => XS.iload X8.here hx rfl (hb hby at_184) rfl kt
            show Go _ _ _ _ _ _ _ _ (mkF m 186 #[.val (.int n), .val (.int d), .val (.int lw), .val (.int h_), .val (.int w), .val (.int f), .val (.int n), .val (.int lo1), .val (.int hi1), .val (.int wd1), .val (.int ra), .val (.int net2), .val (.int lo2), .val (.int hi2), .val (.int wd2), .val (.int rb), .val (.ref b4), .val (.ref b6), .unset, .unset] [(.int hi2), (.int hi1)])
            by_cases hc18 : hi1 = hi2
            · skip
              refine own_via ?_ fun _ kt => XS.icmpNo X8.here hx rfl (hb hby at_186) rfl (teq hc18).2 kt
              show Go _ _ _ _ _ _ _ _ (mkF m 189 #[.val (.int n), .val (.int d), .val (.int lw), .val (.int h_), .val (.int w), .val (.int f), .val (.int n), .val (.int lo1), .val (.int hi1), .val (.int wd1), .val (.int ra), .val (.int net2), .val (.int lo2), .val (.int hi2), .val (.int wd2), .val (.int rb), .val (.ref b4), .val (.ref b6), .unset, .unset] [])
              refine own_via ?_ fun _ kt => XS.iload X8.here hx rfl (hb hby at_189) rfl kt
              show Go _ _ _ _ _ _ _ _ (mkF m 191 #[.val (.int n), .val (.int d), .val (.int lw), .val (.int h_), .val (.int w), .val (.int f), .val (.int n), .val (.int lo1), .val (.int hi1), .val (.int wd1), .val (.int ra), .val (.int net2), .val (.int lo2), .val (.int hi2), .val (.int wd2), .val (.int rb), .val (.ref b4), .val (.ref b6), .unset, .unset] [(.int lo1)])
              refine own_via ?_ fun _ kt => XS.iload X8.here hx rfl (hb hby at_191) rfl kt
              show Go _ _ _ _ _ _ _ _ (mkF m 193 #[.val (.int n), .val (.int d), .val (.int lw), .val (.int h_), .val (.int w), .val (.int f), .val (.int n), .val (.int lo1), .val (.int hi1), .val (.int wd1), .val (.int ra), .val (.int net2), .val (.int lo2), .val (.int hi2), .val (.int wd2), .val (.int rb), .val (.ref b4), .val (.ref b6), .unset, .unset] [(.int lo2), (.int lo1)])
              by_cases hc19 : lo1 = lo2
              · skip
                refine own_via ?_ fun _ kt => XS.icmpNo X8.here hx rfl (hb hby at_193) rfl (teq hc19).2 kt
                show Go _ _ _ _ _ _ _ _ (mkF m 196 #[.val (.int n), .val (.int d), .val (.int lw), .val (.int h_), .val (.int w), .val (.int f), .val (.int n), .val (.int lo1), .val (.int hi1), .val (.int wd1), .val (.int ra), .val (.int net2), .val (.int lo2), .val (.int hi2), .val (.int wd2), .val (.int rb), .val (.ref b4), .val (.ref b6), .unset, .unset] [])
                refine own_via ?_ fun _ kt => XS.iload X8.here hx rfl (hb hby at_196) rfl kt
                show Go _ _ _ _ _ _ _ _ (mkF m 198 #[.val (.int n), .val (.int d), .val (.int lw), .val (.int h_), .val (.int w), .val (.int f), .val (.int n), .val (.int lo1), .val (.int hi1), .val (.int wd1), .val (.int ra), .val (.int net2), .val (.int lo2), .val (.int hi2), .val (.int wd2), .val (.int rb), .val (.ref b4), .val (.ref b6), .unset, .unset] [(.int ra)])
                refine own_via ?_ fun _ kt => XS.iload X8.here hx rfl (hb hby at_198) rfl kt
                show Go _ _ _ _ _ _ _ _ (mkF m 200 #[.val (.int n), .val (.int d), .val (.int lw), .val (.int h_), .val (.int w), .val (.int f), .val (.int n), .val (.int lo1), .val (.int hi1), .val (.int wd1), .val (.int ra), .val (.int net2), .val (.int lo2), .val (.int hi2), .val (.int wd2), .val (.int rb), .val (.ref b4), .val (.ref b6), .unset, .unset] [(.int rb), (.int ra)])
                by_cases hc20 : ra = rb
                · skip
                  refine own_via ?_ fun _ kt => XS.icmpNo X8.here hx rfl (hb hby at_200) rfl (teq hc20).2 kt
                  show Go _ _ _ _ _ _ _ _ (mkF m 203 #[.val (.int n), .val (.int d), .val (.int lw), .val (.int h_), .val (.int w), .val (.int f), .val (.int n), .val (.int lo1), .val (.int hi1), .val (.int wd1), .val (.int ra), .val (.int net2), .val (.int lo2), .val (.int hi2), .val (.int wd2), .val (.int rb), .val (.ref b4), .val (.ref b6), .unset, .unset] [])
                  refine own_via ?_ fun _ kt => XS.iconst X8.here hx rfl (hb hby at_203) kt
                  show Go _ _ _ _ _ _ _ _ (mkF m 204 #[.val (.int n), .val (.int d), .val (.int lw), .val (.int h_), .val (.int w), .val (.int f), .val (.int n), .val (.int lo1), .val (.int hi1), .val (.int wd1), .val (.int ra), .val (.int net2), .val (.int lo2), .val (.int hi2), .val (.int wd2), .val (.int rb), .val (.ref b4), .val (.ref b6), .unset, .unset] [(.int (1 : Int32))])
                  refine own_via ?_ fun _ kt => XS.goto X8.here hx rfl (pc0 := 204) (pc' := 208) rfl (hb hby at_204) (by decide) (by decide) kt
                  show Go _ _ _ _ _ _ _ _ (mkF m 208 #[.val (.int n), .val (.int d), .val (.int lw), .val (.int h_), .val (.int w), .val (.int f), .val (.int n), .val (.int lo1), .val (.int hi1), .val (.int wd1), .val (.int ra), .val (.int net2), .val (.int lo2), .val (.int hi2), .val (.int wd2), .val (.int rb), .val (.ref b4), .val (.ref b6), .unset, .unset] [(.int (1 : Int32))])
                  exact J9 _ (by rw [if_pos hc16, if_pos hc17, if_pos hc18, if_pos hc19, if_pos hc20])
                · skip
                  refine own_via ?_ fun _ kt => XS.icmpYes X8.here hx rfl (pc0 := 200) (pc' := 207) rfl (hb hby at_200) rfl (feq hc20).2 (by decide) (by decide) kt
                  show Go _ _ _ _ _ _ _ _ (mkF m 207 #[.val (.int n), .val (.int d), .val (.int lw), .val (.int h_), .val (.int w), .val (.int f), .val (.int n), .val (.int lo1), .val (.int hi1), .val (.int wd1), .val (.int ra), .val (.int net2), .val (.int lo2), .val (.int hi2), .val (.int wd2), .val (.int rb), .val (.ref b4), .val (.ref b6), .unset, .unset] [])
                  refine own_via ?_ fun _ kt => XS.iconst X8.here hx rfl (hb hby at_207) kt
                  show Go _ _ _ _ _ _ _ _ (mkF m 208 #[.val (.int n), .val (.int d), .val (.int lw), .val (.int h_), .val (.int w), .val (.int f), .val (.int n), .val (.int lo1), .val (.int hi1), .val (.int wd1), .val (.int ra), .val (.int net2), .val (.int lo2), .val (.int hi2), .val (.int wd2), .val (.int rb), .val (.ref b4), .val (.ref b6), .unset, .unset] [(.int (0 : Int32))])
                  exact J9 _ (by rw [if_pos hc16, if_pos hc17, if_pos hc18, if_pos hc19, if_neg hc20])
              · skip
                refine own_via ?_ fun _ kt => XS.icmpYes X8.here hx rfl (pc0 := 193) (pc' := 207) rfl (hb hby at_193) rfl (feq hc19).2 (by decide) (by decide) kt
                show Go _ _ _ _ _ _ _ _ (mkF m 207 #[.val (.int n), .val (.int d), .val (.int lw), .val (.int h_), .val (.int w), .val (.int f), .val (.int n), .val (.int lo1), .val (.int hi1), .val (.int wd1), .val (.int ra), .val (.int net2), .val (.int lo2), .val (.int hi2), .val (.int wd2), .val (.int rb), .val (.ref b4), .val (.ref b6), .unset, .unset] [])
                refine own_via ?_ fun _ kt => XS.iconst X8.here hx rfl (hb hby at_207) kt
                show Go _ _ _ _ _ _ _ _ (mkF m 208 #[.val (.int n), .val (.int d), .val (.int lw), .val (.int h_), .val (.int w), .val (.int f), .val (.int n), .val (.int lo1), .val (.int hi1), .val (.int wd1), .val (.int ra), .val (.int net2), .val (.int lo2), .val (.int hi2), .val (.int wd2), .val (.int rb), .val (.ref b4), .val (.ref b6), .unset, .unset] [(.int (0 : Int32))])
                exact J9 _ (by rw [if_pos hc16, if_pos hc17, if_pos hc18, if_neg hc19])
            · skip
              refine own_via ?_ fun _ kt => XS.icmpYes X8.here hx rfl (pc0 := 186) (pc' := 207) rfl (hb hby at_186) rfl (feq hc18).2 (by decide) (by decide) kt
              show Go _ _ _ _ _ _ _ _ (mkF m 207 #[.val (.int n), .val (.int d), .val (.int lw), .val (.int h_), .val (.int w), .val (.int f), .val (.int n), .val (.int lo1), .val (.int hi1), .val (.int wd1), .val (.int ra), .val (.int net2), .val (.int lo2), .val (.int hi2), .val (.int wd2), .val (.int rb), .val (.ref b4), .val (.ref b6), .unset, .unset] [])
              refine own_via ?_ fun _ kt => XS.iconst X8.here hx rfl (hb hby at_207) kt
              show Go _ _ _ _ _ _ _ _ (mkF m 208 #[.val (.int n), .val (.int d), .val (.int lw), .val (.int h_), .val (.int w), .val (.int f), .val (.int n), .val (.int lo1), .val (.int hi1), .val (.int wd1), .val (.int ra), .val (.int net2), .val (.int lo2), .val (.int hi2), .val (.int wd2), .val (.int rb), .val (.ref b4), .val (.ref b6), .unset, .unset] [(.int (0 : Int32))])
              exact J9 _ (by rw [if_pos hc16, if_pos hc17, if_neg hc18])
          · skip
            refine own_via ?_ fun _ kt => XS.icmpYes X8.here hx rfl (pc0 := 179) (pc' := 207) rfl (hb hby at_179) rfl (feq hc17).2 (by decide) (by decide) kt
            show Go _ _ _ _ _ _ _ _ (mkF m 207 #[.val (.int n), .val (.int d), .val (.int lw), .val (.int h_), .val (.int w), .val (.int f), .val (.int n), .val (.int lo1), .val (.int hi1), .val (.int wd1), .val (.int ra), .val (.int net2), .val (.int lo2), .val (.int hi2), .val (.int wd2), .val (.int rb), .val (.ref b4), .val (.ref b6), .unset, .unset] [])
            refine own_via ?_ fun _ kt => XS.iconst X8.here hx rfl (hb hby at_207) kt
            show Go _ _ _ _ _ _ _ _ (mkF m 208 #[.val (.int n), .val (.int d), .val (.int lw), .val (.int h_), .val (.int w), .val (.int f), .val (.int n), .val (.int lo1), .val (.int hi1), .val (.int wd1), .val (.int ra), .val (.int net2), .val (.int lo2), .val (.int hi2), .val (.int wd2), .val (.int rb), .val (.ref b4), .val (.ref b6), .unset, .unset] [(.int (0 : Int32))])
            exact J9 _ (by rw [if_pos hc16, if_neg hc17])
        · skip
          refine own_via ?_ fun _ kt => XS.icmpYes X8.here hx rfl (pc0 := 172) (pc' := 207) rfl (hb hby at_172) rfl (feq hc16).2 (by decide) (by decide) kt
          show Go _ _ _ _ _ _ _ _ (mkF m 207 #[.val (.int n), .val (.int d), .val (.int lw), .val (.int h_), .val (.int w), .val (.int f), .val (.int n), .val (.int lo1), .val (.int hi1), .val (.int wd1), .val (.int ra), .val (.int net2), .val (.int lo2), .val (.int hi2), .val (.int wd2), .val (.int rb), .val (.ref b4), .val (.ref b6), .unset, .unset] [])
          refine own_via ?_ fun _ kt => XS.iconst X8.here hx rfl (hb hby at_207) kt
          show Go _ _ _ _ _ _ _ _ (mkF m 208 #[.val (.int n), .val (.int d), .val (.int lw), .val (.int h_), .val (.int w), .val (.int f), .val (.int n), .val (.int lo1), .val (.int hi1), .val (.int wd1), .val (.int ra), .val (.int net2), .val (.int lo2), .val (.int hi2), .val (.int wd2), .val (.int rb), .val (.ref b4), .val (.ref b6), .unset, .unset] [(.int (0 : Int32))])
          exact J9 _ (by rw [if_neg hc16])
      show Go _ _ _ _ _ _ _ _ (mkF m 120 #[.val (.int n), .val (.int d), .val (.int lw), .val (.int h_), .val (.int w), .val (.int f), .val (.int n), .val (.int lo1), .val (.int hi1), .val (.int wd1), .val (.int ra), .val (.int net2), .val (.int lo2), .val (.int hi2), .val (.int wd2), .unset, .unset, .unset, .unset, .unset] [(.int (f &&& (256 : Int32)))])
      by_cases hc21 : (f &&& (256 : Int32)) = (0 : Int32)
      · skip
        refine own_via ?_ fun _ kt => XS.ifYes X0.here hx rfl (pc0 := 120) (pc' := 127) rfl (hb hby at_120) rfl ((if0 _ _).trans (teq hc21).1) (by decide) (by decide) kt
        show Go _ _ _ _ _ _ _ _ (mkF m 127 #[.val (.int n), .val (.int d), .val (.int lw), .val (.int h_), .val (.int w), .val (.int f), .val (.int n), .val (.int lo1), .val (.int hi1), .val (.int wd1), .val (.int ra), .val (.int net2), .val (.int lo2), .val (.int hi2), .val (.int wd2), .unset, .unset, .unset, .unset, .unset] [])
        refine own_via ?_ fun _ kt => XS.iconst X0.here hx rfl (hb hby at_127) kt
        show Go _ _ _ _ _ _ _ _ (mkF m 128 #[.val (.int n), .val (.int d), .val (.int lw), .val (.int h_), .val (.int w), .val (.int f), .val (.int n), .val (.int lo1), .val (.int hi1), .val (.int wd1), .val (.int ra), .val (.int net2), .val (.int lo2), .val (.int hi2), .val (.int wd2), .unset, .unset, .unset, .unset, .unset] [(.int (0 : Int32))])
        exact J3 _ (by rw [if_pos hc21])
      · skip
        refine own_via ?_ fun _ kt => XS.ifNo X0.here hx rfl (hb hby at_120) rfl ((if0 _ _).trans (feq hc21).1) kt
        show Go _ _ _ _ _ _ _ _ (mkF m 123 #[.val (.int n), .val (.int d), .val (.int lw), .val (.int h_), .val (.int w), .val (.int f), .val (.int n), .val (.int lo1), .val (.int hi1), .val (.int wd1), .val (.int ra), .val (.int net2), .val (.int lo2), .val (.int hi2), .val (.int wd2), .unset, .unset, .unset, .unset, .unset] [])
        refine own_via ?_ fun _ kt => XS.iconst X0.here hx rfl (hb hby at_123) kt
        show Go _ _ _ _ _ _ _ _ (mkF m 124 #[.val (.int n), .val (.int d), .val (.int lw), .val (.int h_), .val (.int w), .val (.int f), .val (.int n), .val (.int lo1), .val (.int hi1), .val (.int wd1), .val (.int ra), .val (.int net2), .val (.int lo2), .val (.int hi2), .val (.int wd2), .unset, .unset, .unset, .unset, .unset] [(.int (1 : Int32))])
        refine own_via ?_ fun _ kt => XS.goto X0.here hx rfl (pc0 := 124) (pc' := 128) rfl (hb hby at_124) (by decide) (by decide) kt
        show Go _ _ _ _ _ _ _ _ (mkF m 128 #[.val (.int n), .val (.int d), .val (.int lw), .val (.int h_), .val (.int w), .val (.int f), .val (.int n), .val (.int lo1), .val (.int hi1), .val (.int wd1), .val (.int ra), .val (.int net2), .val (.int lo2), .val (.int hi2), .val (.int wd2), .unset, .unset, .unset, .unset, .unset] [(.int (1 : Int32))])
        exact J3 _ (by rw [if_neg hc21])
    show Go _ _ _ _ _ _ _ _ (mkF m 50 #[.val (.int n), .val (.int d), .val (.int lw), .val (.int h_), .val (.int w), .val (.int f), .val (.int n), .val (.int lo1), .val (.int hi1), .val (.int wd1), .val (.int ra), .unset, .unset, .unset, .unset, .unset, .unset, .unset, .unset, .unset] [(.int (f &&& (1 : Int32)))])
    by_cases hc22 : (f &&& (1 : Int32)) = (0 : Int32)
    · skip
      refine own_via ?_ fun _ kt => XS.ifYes X0.here hx rfl (pc0 := 50) (pc' := 57) rfl (hb hby at_50) rfl ((if0 _ _).trans (teq hc22).1) (by decide) (by decide) kt
      show Go _ _ _ _ _ _ _ _ (mkF m 57 #[.val (.int n), .val (.int d), .val (.int lw), .val (.int h_), .val (.int w), .val (.int f), .val (.int n), .val (.int lo1), .val (.int hi1), .val (.int wd1), .val (.int ra), .unset, .unset, .unset, .unset, .unset, .unset, .unset, .unset, .unset] [])
      refine own_via ?_ fun _ kt => XS.iloadN X0.here hx rfl (hb hby at_57) rfl kt
      show Go _ _ _ _ _ _ _ _ (mkF m 58 #[.val (.int n), .val (.int d), .val (.int lw), .val (.int h_), .val (.int w), .val (.int f), .val (.int n), .val (.int lo1), .val (.int hi1), .val (.int wd1), .val (.int ra), .unset, .unset, .unset, .unset, .unset, .unset, .unset, .unset, .unset] [(.int n)])
      exact J2 _ (by rw [if_pos hc22])
    · skip
      refine own_via ?_ fun _ kt => XS.ifNo X0.here hx rfl (hb hby at_50) rfl ((if0 _ _).trans (feq hc22).1) kt
      show Go _ _ _ _ _ _ _ _ (mkF m 53 #[.val (.int n), .val (.int d), .val (.int lw), .val (.int h_), .val (.int w), .val (.int f), .val (.int n), .val (.int lo1), .val (.int hi1), .val (.int wd1), .val (.int ra), .unset, .unset, .unset, .unset, .unset, .unset, .unset, .unset, .unset] [])
      refine own_via ?_ fun _ kt => XS.iloadN X0.here hx rfl (hb hby at_53) rfl kt
      show Go _ _ _ _ _ _ _ _ (mkF m 54 #[.val (.int n), .val (.int d), .val (.int lw), .val (.int h_), .val (.int w), .val (.int f), .val (.int n), .val (.int lo1), .val (.int hi1), .val (.int wd1), .val (.int ra), .unset, .unset, .unset, .unset, .unset, .unset, .unset, .unset, .unset] [(.int d)])
      refine own_via ?_ fun _ kt => XS.goto X0.here hx rfl (pc0 := 54) (pc' := 58) rfl (hb hby at_54) (by decide) (by decide) kt
      show Go _ _ _ _ _ _ _ _ (mkF m 58 #[.val (.int n), .val (.int d), .val (.int lw), .val (.int h_), .val (.int w), .val (.int f), .val (.int n), .val (.int lo1), .val (.int hi1), .val (.int wd1), .val (.int ra), .unset, .unset, .unset, .unset, .unset, .unset, .unset, .unset, .unset] [(.int d)])
      exact J2 _ (by rw [if_neg hc22])
  show Go _ _ _ _ _ _ _ _ (mkF m 36 #[.val (.int n), .val (.int d), .val (.int lw), .val (.int h_), .val (.int w), .val (.int f), .val (.int n), .val (.int lo1), .val (.int hi1), .val (.int wd1), .unset, .unset, .unset, .unset, .unset, .unset, .unset, .unset, .unset, .unset] [(.int (f &&& (128 : Int32)))])
  by_cases hc23 : (f &&& (128 : Int32)) = (0 : Int32)
  · skip
    refine own_via ?_ fun _ kt => XS.ifYes X0.here hx rfl (pc0 := 36) (pc' := 43) rfl (hb hby at_36) rfl ((if0 _ _).trans (teq hc23).1) (by decide) (by decide) kt
    show Go _ _ _ _ _ _ _ _ (mkF m 43 #[.val (.int n), .val (.int d), .val (.int lw), .val (.int h_), .val (.int w), .val (.int f), .val (.int n), .val (.int lo1), .val (.int hi1), .val (.int wd1), .unset, .unset, .unset, .unset, .unset, .unset, .unset, .unset, .unset, .unset] [])
    refine own_via ?_ fun _ kt => XS.iconst X0.here hx rfl (hb hby at_43) kt
    show Go _ _ _ _ _ _ _ _ (mkF m 44 #[.val (.int n), .val (.int d), .val (.int lw), .val (.int h_), .val (.int w), .val (.int f), .val (.int n), .val (.int lo1), .val (.int hi1), .val (.int wd1), .unset, .unset, .unset, .unset, .unset, .unset, .unset, .unset, .unset, .unset] [(.int (0 : Int32))])
    exact J1 _ (by rw [if_pos hc23])
  · skip
    refine own_via ?_ fun _ kt => XS.ifNo X0.here hx rfl (hb hby at_36) rfl ((if0 _ _).trans (feq hc23).1) kt
    show Go _ _ _ _ _ _ _ _ (mkF m 39 #[.val (.int n), .val (.int d), .val (.int lw), .val (.int h_), .val (.int w), .val (.int f), .val (.int n), .val (.int lo1), .val (.int hi1), .val (.int wd1), .unset, .unset, .unset, .unset, .unset, .unset, .unset, .unset, .unset, .unset] [])
    refine own_via ?_ fun _ kt => XS.iconst X0.here hx rfl (hb hby at_39) kt
    show Go _ _ _ _ _ _ _ _ (mkF m 40 #[.val (.int n), .val (.int d), .val (.int lw), .val (.int h_), .val (.int w), .val (.int f), .val (.int n), .val (.int lo1), .val (.int hi1), .val (.int wd1), .unset, .unset, .unset, .unset, .unset, .unset, .unset, .unset, .unset, .unset] [(.int (1 : Int32))])
    refine own_via ?_ fun _ kt => XS.goto X0.here hx rfl (pc0 := 40) (pc' := 44) rfl (hb hby at_40) (by decide) (by decide) kt
    show Go _ _ _ _ _ _ _ _ (mkF m 44 #[.val (.int n), .val (.int d), .val (.int lw), .val (.int h_), .val (.int w), .val (.int f), .val (.int n), .val (.int lo1), .val (.int hi1), .val (.int wd1), .unset, .unset, .unset, .unset, .unset, .unset, .unset, .unset, .unset, .unset] [(.int (1 : Int32))])
    exact J1 _ (by rw [if_neg hc23])
theorem own_len {s : State} {args : Array Value} {t : Term} {a : Addr} {c : Cell} {ty : FieldType} {z : Int32} (et : t.eval args s none [] s = some (.ref a)) (A : Arr s s.heap a c ty) (h : (Term.length t).eval args s none [] s = some (.int z)) : c.slots.size < 2 ^ 31 ∧ c.slots.size.toInt32 = z := by
  have q := A.fin (Vm.Alike.refl _)
  by_cases hl : c.slots.size < 2 ^ 31
  · have e := len_f et q hl
    rw [e] at h; exact ⟨hl, by simpa using h⟩
  · simp [Term.eval, et, q, hl] at h
theorem own_sub {s : State} {args : Array Value} {j : Int32} (nn : ¬ j < 0) : (Term.sub (.index 0) (.int (128 : Int32))).eval args s none [j.toNatClampNeg] s = some (.int (j - (128 : Int32))) := by
  simp [Term.eval, (back32 nn).1]
set_option maxRecDepth 65536 in
set_option maxHeartbeats 40000000 in
theorem comes_1 {Post : Tables → Env → Array Value → State → Outcome → State → Prop} (hpost : ∀ tb e args s v u, (limb_1_1.after args s (.returned v) u = true ∧ limb_1_2.after args s (.returned v) u = true ∧ True) → FrameEnd s (.returned v) u (Jvm.fieldLocs frame_1_writes args s ++ Jvm.arrayLocs frame_1_arrays args s ++ Jvm.staticLocs frame_1_statics s) 16 128 → Post tb e args s (.returned v) u) :
    ArmFor flags0 classFile x code maxLocals ret World_1 tables_1 room_1 Calls_1 rest_1 Pre_1 Post := by
  intro l hfl _ _ p e ha hc hk s m args below hf hA hF happ hP
  obtain ⟨hcalls, hrest, hpre⟩ := hP
  obtain ⟨-, -, -, hnamed, -, -, -, hat⟩ := (Spec.applies_iff hf).mp happ
  obtain ⟨hg, hn⟩ := and_e (Cond.before_iff.mp (show (Jvm.Cond.and given_1 narrow_1).before args s = true from hpre))
  obtain ⟨ga1, gb1⟩ := and_e hg
  obtain ⟨ga2, gb2⟩ := and_e gb1
  obtain ⟨ga3, gb3⟩ := and_e gb2
  obtain ⟨ga4, gb4⟩ := and_e gb3
  obtain ⟨ga5, gb5⟩ := and_e gb4
  obtain ⟨ga6, gb6⟩ := and_e gb5
  obtain ⟨w0, w1, w2, w3, w4, w5, rfl⟩ : ∃ w0 w1 w2 w3 w4 w5 : Value, args = #[w0, w1, w2, w3, w4, w5] := by
    have hs : args.size = 6 := by simpa [Cond.value, given_1] using ga1
    obtain ⟨L⟩ := args
    match L, hs with
    | [w0, w1, w2, w3, w4, w5], _ => exact ⟨w0, w1, w2, w3, w4, w5, rfl⟩
  have hw := fun d (hd : d ∈ tables_1) => atoms_spec (ws := Jvm.Cond.code x code maxLocals ret :: tables_1) hat d (List.mem_cons_of_mem _ hd)
  have hfit : Fit s := fun {y c} hc i hi => by
    obtain ⟨ha, rfl⟩ := Array.getElem?_eq_some_iff.mp hc
    have q := List.all_eq_true.mp ((Array.all_eq_true_iff_forall_mem.mp hF) _ (Array.getElem_mem ha)) i (List.mem_range.mpr hi)
    simpa [Array.getElem?_eq_getElem hi] using q
  obtain ⟨hsets, hown0⟩ := atoms_of _ (rest_1_c_eq ▸ (show rest_1_c.before _ s = true from hrest))
  have hr0 := Cond.before_iff.mp hown0
  obtain ⟨i0, ei0⟩ := is_v ga2
  obtain rfl : w0 = (.int i0) := Option.some.inj ei0
  obtain ⟨i1, ei1⟩ := is_v ga3
  obtain rfl : w1 = (.int i1) := Option.some.inj ei1
  obtain ⟨i2, ei2⟩ := is_v ga4
  obtain rfl : w2 = (.int i2) := Option.some.inj ei2
  obtain ⟨i3, ei3⟩ := is_v ga5
  obtain rfl : w3 = (.int i3) := Option.some.inj ei3
  obtain ⟨i4, ei4⟩ := is_v ga6
  obtain rfl : w4 = (.int i4) := Option.some.inj ei4
  obtain ⟨i5, ei5⟩ := is_v gb6
  obtain rfl : w5 = (.int i5) := Option.some.inj ei5
  have q3 := Cond.before_iff.mp (hsets _ (List.mem_of_getElem? (i := 3) rfl))
  have eh : (Jvm.Term.static "java/lang/Integer$IntegerCache" "high" "I").eval _ s none [] s = some (.int (127 : Int32)) := eqv_i (Term.int_eval 127) q3
  have Sh : Sta s s.heap "java/lang/Integer$IntegerCache" "high" "I" (.int (127 : Int32)) := Sta.start eh (Or.inl (hsets _ (List.mem_of_getElem? (i := 1) rfl)))
  have q4 := Cond.before_iff.mp (hsets _ (List.mem_of_getElem? (i := 4) rfl))
  obtain ⟨ca, ec⟩ := arr_v q4
  obtain ⟨cl, Ac⟩ := Arr.start ec q4
  have Sc : Sta s s.heap "java/lang/Integer$IntegerCache" "cache" "[Ljava/lang/Integer;" (.ref ca) := Sta.start ec (Or.inr ⟨(hw _ (List.mem_of_getElem? (i := 26) rfl)), (hsets _ (List.mem_of_getElem? (i := 2) rfl))⟩)
  have q6 := Cond.before_iff.mp (hsets _ (List.mem_of_getElem? (i := 6) rfl))
  have el := eqv_i (Term.int_eval 256) q6
  obtain ⟨hsz, hz⟩ := own_len ec Ac el
  have BX : Bxs s ca cl "java/lang/Integer" "I" (256 : Int32) (fun j => .int (j - (128 : Int32))) := Bxs.start (fun _ => ec) Ac hsz hz (by decide) (Cond.before_iff.mp (hsets _ (List.mem_of_getElem? (i := 7) rfl))) (fun X j nn h => eqv_i (own_sub nn) h)
  obtain ⟨n, o, h1, h2, h3, _, L, rfl, ⟨rfl, N⟩, hq⟩ := rm_law l s _ hw tables_1 i0 i1 i2 i3 i4 i5 ca cl s.heap s.heap.size (Nat.le_refl _) (Old.start s) Sh Sc BX p e ha hc hk s m _ below hf ((Spec.applies_iff_loose hf).mp happ).1 ⟨rfl, State.Warmed39.refl s, rfl⟩ trivial
  refine ⟨n, _, h1, h2, h3, hpost _ _ _ _ _ _ ⟨Cond.after_iff.mpr rfl, Cond.after_iff.mpr (eq_i res_at (Term.int_eval (1)) rfl), trivial⟩ ⟨hq.1, hq.2.1, (hq.2.2.sift fun y hy => Or.inr (N y hy)).mono (by decide) (by decide)⟩⟩
theorem main_1_1 : Claimed_1_1 := comes_1 fun _ _ _ _ _ _ h hF => ⟨h.1, hF⟩
theorem main_1_2 : Claimed_1_2 := comes_1 fun _ _ _ _ _ _ h hF => ⟨h.2.1, hF⟩
end Jvm.Pilot.@@N@@
namespace Jvm.Pilot.@@N@@
open Jvm Jvm.ClassFile Sem Op Lib Jvm.Free Jvm.Stand Jvm.Pilot.@@N@@.Jvm.D
/-! MADE BY PROGRAM (witnessworld.py) out of the Statement's table words and the real class files: 16 classes; the members and pool entries that the words name. The judged class is class 1, her method 1. -/
namespace start1
open Jvm.ClassFile
def u (s : String) : CpInfo := .utf8 (stringToUtf16 s)
/-- a pool by its gaps: so many unusable entries, then the entry; so many at the end -/
def gap : Nat → List CpInfo → List CpInfo
  | 0, r => r
  | n + 1, r => .unusable :: gap n r
def poolList (es : List (Nat × CpInfo)) (last : Nat) : List CpInfo := es.foldr (fun e r => gap e.1 (e.2 :: r)) (gap last [])
def pool (es : List (Nat × CpInfo)) (last : Nat) : Array CpInfo := ⟨poolList es last⟩
def fileOf (pool : Array CpInfo) (this : Nat) (attrs : Array Attribute := #[]) (ms : Array MethodInfo := #[]) (fl : Nat := 33) (sup : Nat := 0) (ifs : Array Nat := #[]) (fds : Array FieldInfo := #[]) : ClassFile where
  minorVersion := 0
  majorVersion := 65
  constantPool := pool
  accessFlags := fl
  thisClass := this
  superClass := sup
  interfaces := ifs
  fields := fds
  methods := ms
  attributes := attrs
def plain (name : String) (sup : Option ClassId) : Class where
  name := name
  kind := .ordinary
  loader := none
  accessFlags := 33
  super := sup
  interfaces := #[]
  cf := none
  fields := #[]
  methods := #[]
  instanceTypes := #[]
  staticTypes := #[]
  resolved := #[]
  callSites := []
  init := .initialized
  statics := none
  mirror := none

def pool0 : Array CpInfo := pool [(5, u "<init>"), (0, u "()V"), (1, .class_ 10), (1, u "java/lang/Object")] 113

def k0c0 : Code := { maxStack := 0, maxLocals := 1, code := object_method_1_code, exceptionTable := #[], attributes := #[] }
def k0m0 : Method := { name := "<init>", desc := "()V", sig := { parameters := [], returnType := none }, accessFlags := 1, code := some k0c0 }
/-- java/lang/Object -/
def k0 : Class := { plain "java/lang/Object" none with
  accessFlags := 33
  interfaces := #[]
  cf := some (fileOf pool0 8 #[] #[{ accessFlags := 1, nameIndex := 5, descriptorIndex := 6, attributes := #[] }] 33 0 #[] #[])
  fields := #[]
  methods := #[k0m0]
  instanceTypes := #[]
  staticTypes := #[]
  resolved := Array.replicate 124 none
  statics := none }

def pool1 : Array CpInfo := pool [(2, .class_ 4), (1, u "java/lang/Object"), (0, u "<init>"), (0, u "()V"), (0, .integer 536870911), (0, .integer 1073741823), (0, .class_ 10), (0, u "com/example/polytrace/polytrace/model/Trace$Bits"), (0, .methodref 9 12), (0, .nameAndType 5 13), (0, u "(IIIIZ)V"), (0, .methodref 15 16), (0, .class_ 17), (0, .nameAndType 18 19), (0, u "java/lang/Integer"), (0, u "valueOf"), (0, u "(I)Ljava/lang/Integer;"), (0, .methodref 9 21), (0, .nameAndType 22 23), (0, u "equals"), (0, u "(Ljava/lang/Object;)Z"), (0, .class_ 25), (0, u "com/example/polytrace/polytrace/model/BitsEqualsPinLaw"), (2, u "law"), (0, u "(IIIIII)Z")] 7

def k1m0 : Method := { name := "<init>", desc := "()V", sig := { parameters := [], returnType := none }, accessFlags := 2, code := none }
def k1c1 : Code := { maxStack := 7, maxLocals := 20, code := code, exceptionTable := #[], attributes := #[] }
def k1m1 : Method := { name := "law", desc := "(IIIIII)Z", sig := { parameters := [.int, .int, .int, .int, .int, .int], returnType := some .boolean }, accessFlags := 9, code := some k1c1 }
/-- com/example/polytrace/polytrace/model/BitsEqualsPinLaw -/
def k1 : Class := { plain "com/example/polytrace/polytrace/model/BitsEqualsPinLaw" (some 0) with
  accessFlags := 49
  interfaces := #[]
  cf := some (fileOf pool1 24 #[] #[{ accessFlags := 2, nameIndex := 5, descriptorIndex := 6, attributes := #[] }, { accessFlags := 9, nameIndex := 28, descriptorIndex := 29, attributes := #[] }] 49 2 #[] #[])
  fields := #[]
  methods := #[k1m0, k1m1]
  instanceTypes := #[]
  staticTypes := #[]
  resolved := Array.replicate 37 none
  statics := none }

def pool2 : Array CpInfo := pool [(1, .methodref 2 3), (0, .class_ 4), (0, .nameAndType 5 6), (0, u "java/lang/Object"), (0, u "<init>"), (0, u "()V"), (9, .fieldref 17 18), (0, .class_ 19), (0, .nameAndType 20 21), (0, u "com/example/polytrace/polytrace/model/Trace$Bits"), (0, u "net"), (0, u "I"), (0, .fieldref 17 23), (0, .nameAndType 24 21), (0, u "width"), (0, .fieldref 17 26), (0, .nameAndType 27 21), (0, u "high"), (0, .fieldref 17 29), (0, .nameAndType 30 21), (0, u "low"), (0, .fieldref 17 32), (0, .nameAndType 33 34), (0, u "real"), (0, u "Z"), (7, u "(IIIIZ)V"), (5, u "equals"), (0, u "(Ljava/lang/Object;)Z"), (8, .class_ 59), (0, u "com/example/polytrace/polytrace/model/Trace")] 18

def k2c0 : Code := { maxStack := 5, maxLocals := 6, code := prog_297_method_1_code, exceptionTable := #[], attributes := #[] }
def k2m0 : Method := { name := "<init>", desc := "(IIIIZ)V", sig := { parameters := [.int, .int, .int, .int, .boolean], returnType := none }, accessFlags := 1, code := some k2c0 }
def k2c1 : Code := { maxStack := 2, maxLocals := 3, code := prog_297_method_7_code, exceptionTable := #[], attributes := #[] }
def k2m1 : Method := { name := "equals", desc := "(Ljava/lang/Object;)Z", sig := { parameters := [(.object "java/lang/Object")], returnType := some .boolean }, accessFlags := 1, code := some k2c1 }
/-- com/example/polytrace/polytrace/model/Trace$Bits -/
def k2 : Class := { plain "com/example/polytrace/polytrace/model/Trace$Bits" (some 0) with
  accessFlags := 49
  interfaces := #[]
  cf := some (fileOf pool2 17 #[.nestHost 58] #[{ accessFlags := 1, nameIndex := 5, descriptorIndex := 42, attributes := #[] }, { accessFlags := 1, nameIndex := 48, descriptorIndex := 49, attributes := #[] }] 49 2 #[] #[{ accessFlags := 18, nameIndex := 20, descriptorIndex := 21, attributes := #[] }, { accessFlags := 18, nameIndex := 24, descriptorIndex := 21, attributes := #[] }, { accessFlags := 18, nameIndex := 27, descriptorIndex := 21, attributes := #[] }, { accessFlags := 18, nameIndex := 30, descriptorIndex := 21, attributes := #[] }, { accessFlags := 18, nameIndex := 33, descriptorIndex := 34, attributes := #[] }])
  fields := #[{ name := "net", type := .int, accessFlags := 18, slot := 0, constantValue := 0 }, { name := "width", type := .int, accessFlags := 18, slot := 1, constantValue := 0 }, { name := "high", type := .int, accessFlags := 18, slot := 2, constantValue := 0 }, { name := "low", type := .int, accessFlags := 18, slot := 3, constantValue := 0 }, { name := "real", type := .boolean, accessFlags := 18, slot := 4, constantValue := 0 }]
  methods := #[k2m0, k2m1]
  instanceTypes := #[.int, .int, .int, .int, .boolean]
  staticTypes := #[]
  resolved := Array.replicate 78 none
  statics := none }

def pool3 : Array CpInfo := pool [(1, .class_ 2), (0, u "java/io/Serializable"), (0, .class_ 4), (0, u "java/lang/Object")] 2

/-- java/io/Serializable -/
def k3 : Class := { plain "java/io/Serializable" (some 0) with
  accessFlags := 1537
  interfaces := #[]
  cf := some (fileOf pool3 1 #[] #[] 1537 3 #[] #[])
  fields := #[]
  methods := #[]
  instanceTypes := #[]
  staticTypes := #[]
  resolved := Array.replicate 7 none
  statics := none }

def pool4 : Array CpInfo := pool [(1, .methodref 2 3), (0, .class_ 4), (0, .nameAndType 5 6), (0, u "java/lang/Object"), (0, u "<init>"), (0, u "()V"), (1, .class_ 10), (1, u "java/lang/Number"), (2, .class_ 14), (0, u "java/io/Serializable"), (0, u "serialVersionUID"), (0, u "J")] 20

def k4c0 : Code := { maxStack := 1, maxLocals := 1, code := jdk_18_method_1_code, exceptionTable := #[], attributes := #[] }
def k4m0 : Method := { name := "<init>", desc := "()V", sig := { parameters := [], returnType := none }, accessFlags := 1, code := some k4c0 }
/-- java/lang/Number -/
def k4 : Class := { plain "java/lang/Number" (some 0) with
  accessFlags := 1057
  interfaces := #[3]
  cf := some (fileOf pool4 8 #[] #[{ accessFlags := 1, nameIndex := 5, descriptorIndex := 6, attributes := #[] }] 1057 2 #[13] #[{ accessFlags := 26, nameIndex := 15, descriptorIndex := 16, attributes := #[] }])
  fields := #[{ name := "serialVersionUID", type := .long, accessFlags := 26, slot := 0, constantValue := 0 }]
  methods := #[k4m0]
  instanceTypes := #[]
  staticTypes := #[.long]
  resolved := Array.replicate 37 none
  statics := none }

def pool5 : Array CpInfo := pool [(1, .class_ 2), (0, u "java/lang/Comparable"), (0, .class_ 4), (0, u "java/lang/Object")] 7

/-- java/lang/Comparable -/
def k5 : Class := { plain "java/lang/Comparable" (some 0) with
  accessFlags := 1537
  interfaces := #[]
  cf := some (fileOf pool5 1 #[] #[] 1537 3 #[] #[])
  fields := #[]
  methods := #[]
  instanceTypes := #[]
  staticTypes := #[]
  resolved := Array.replicate 12 none
  statics := none }

def pool6 : Array CpInfo := pool [(1, .class_ 2), (0, u "java/lang/constant/Constable"), (0, .class_ 4), (0, u "java/lang/Object")] 6

/-- java/lang/constant/Constable -/
def k6 : Class := { plain "java/lang/constant/Constable" (some 0) with
  accessFlags := 1537
  interfaces := #[]
  cf := some (fileOf pool6 1 #[] #[] 1537 3 #[] #[])
  fields := #[]
  methods := #[]
  instanceTypes := #[]
  staticTypes := #[]
  resolved := Array.replicate 11 none
  statics := none }

def pool7 : Array CpInfo := pool [(1, .class_ 2), (0, u "java/lang/constant/ConstantDesc"), (0, .class_ 4), (0, u "java/lang/Object")] 32

/-- java/lang/constant/ConstantDesc -/
def k7 : Class := { plain "java/lang/constant/ConstantDesc" (some 0) with
  accessFlags := 1537
  interfaces := #[]
  cf := some (fileOf pool7 1 #[] #[] 1537 3 #[] #[])
  fields := #[]
  methods := #[]
  instanceTypes := #[]
  staticTypes := #[]
  resolved := Array.replicate 37 none
  statics := none }

def pool8 : Array CpInfo := pool [(1, .class_ 2), (0, u "java/lang/Integer"), (16, u "digits"), (0, u "[C"), (46, u "<init>"), (17, u "DigitOnes"), (0, u "[B"), (2, u "DigitTens"), (10, .nameAndType 67 101), (0, u "()V"), (85, u "valueOf"), (0, u "(I)Ljava/lang/Integer;"), (0, .class_ 190), (0, u "java/lang/Integer$IntegerCache"), (0, .fieldref 189 192), (0, .nameAndType 193 194), (0, u "high"), (0, u "I"), (0, .fieldref 189 196), (0, .nameAndType 197 198), (0, u "cache"), (0, u "[Ljava/lang/Integer;"), (0, .methodref 1 200), (0, .nameAndType 67 201), (0, u "(I)V"), (0, .methodref 203 100), (0, .class_ 204), (0, u "java/lang/Number"), (0, .fieldref 1 206), (0, .nameAndType 207 194), (0, u "value"), (94, u "TYPE"), (0, u "Ljava/lang/Class;"), (0, .class_ 305), (0, u "java/lang/Comparable"), (0, .class_ 307), (0, u "java/lang/constant/Constable"), (0, .class_ 309), (0, u "java/lang/constant/ConstantDesc"), (0, u "MIN_VALUE"), (1, u "MAX_VALUE"), (3, u "SIZE"), (1, u "BYTES"), (1, u "serialVersionUID"), (0, u "J")] 131

def k8c0 : Code := { maxStack := 3, maxLocals := 1, code := jdk_33_method_22_code, exceptionTable := #[], attributes := #[] }
def k8m0 : Method := { name := "valueOf", desc := "(I)Ljava/lang/Integer;", sig := { parameters := [.int], returnType := some (.object "java/lang/Integer") }, accessFlags := 9, code := some k8c0 }
def k8c1 : Code := { maxStack := 2, maxLocals := 2, code := jdk_33_method_23_code, exceptionTable := #[], attributes := #[] }
def k8m1 : Method := { name := "<init>", desc := "(I)V", sig := { parameters := [.int], returnType := none }, accessFlags := 1, code := some k8c1 }
/-- java/lang/Integer -/
def k8 : Class := { plain "java/lang/Integer" (some 4) with
  accessFlags := 49
  interfaces := #[5, 6, 7]
  cf := some (fileOf pool8 1 #[.nestMembers #[189]] #[{ accessFlags := 9, nameIndex := 187, descriptorIndex := 188, attributes := #[] }, { accessFlags := 1, nameIndex := 67, descriptorIndex := 201, attributes := #[] }] 49 203 #[304, 306, 308] #[{ accessFlags := 25, nameIndex := 310, descriptorIndex := 194, attributes := #[] }, { accessFlags := 25, nameIndex := 312, descriptorIndex := 194, attributes := #[] }, { accessFlags := 25, nameIndex := 302, descriptorIndex := 303, attributes := #[] }, { accessFlags := 24, nameIndex := 19, descriptorIndex := 20, attributes := #[] }, { accessFlags := 24, nameIndex := 89, descriptorIndex := 86, attributes := #[] }, { accessFlags := 24, nameIndex := 85, descriptorIndex := 86, attributes := #[] }, { accessFlags := 18, nameIndex := 207, descriptorIndex := 194, attributes := #[] }, { accessFlags := 25, nameIndex := 316, descriptorIndex := 194, attributes := #[] }, { accessFlags := 25, nameIndex := 318, descriptorIndex := 194, attributes := #[] }, { accessFlags := 26, nameIndex := 320, descriptorIndex := 321, attributes := #[] }])
  fields := #[{ name := "MIN_VALUE", type := .int, accessFlags := 25, slot := 0, constantValue := 0 }, { name := "MAX_VALUE", type := .int, accessFlags := 25, slot := 1, constantValue := 0 }, { name := "TYPE", type := (.object "java/lang/Class"), accessFlags := 25, slot := 2, constantValue := 0 }, { name := "digits", type := (.array .char), accessFlags := 24, slot := 3, constantValue := 0 }, { name := "DigitTens", type := (.array .byte), accessFlags := 24, slot := 4, constantValue := 0 }, { name := "DigitOnes", type := (.array .byte), accessFlags := 24, slot := 5, constantValue := 0 }, { name := "value", type := .int, accessFlags := 18, slot := 0, constantValue := 0 }, { name := "SIZE", type := .int, accessFlags := 25, slot := 6, constantValue := 0 }, { name := "BYTES", type := .int, accessFlags := 25, slot := 7, constantValue := 0 }, { name := "serialVersionUID", type := .long, accessFlags := 26, slot := 8, constantValue := 0 }]
  methods := #[k8m0, k8m1]
  instanceTypes := #[.int]
  staticTypes := #[.int, .int, (.object "java/lang/Class"), (.array .char), (.array .byte), (.array .byte), .int, .int, .long]
  resolved := Array.replicate 453 none
  statics := none }

def pool9 : Array CpInfo := pool [(2, .class_ 4), (1, u "java/lang/Object"), (0, u "<init>"), (0, u "()V"), (0, .class_ 8), (0, u "java/lang/Integer"), (7, .class_ 18), (1, u "java/lang/Integer$IntegerCache"), (0, u "$assertionsDisabled"), (0, u "Z"), (26, u "high"), (0, u "I"), (8, u "archivedCache"), (0, u "[Ljava/lang/Integer;"), (12, u "cache"), (0, u "low")] 27

def k9m0 : Method := { name := "<init>", desc := "()V", sig := { parameters := [], returnType := none }, accessFlags := 2, code := none }
/-- java/lang/Integer$IntegerCache -/
def k9 : Class := { plain "java/lang/Integer$IntegerCache" (some 0) with
  accessFlags := 48
  interfaces := #[]
  cf := some (fileOf pool9 16 #[.nestHost 7] #[{ accessFlags := 2, nameIndex := 5, descriptorIndex := 6, attributes := #[] }] 48 2 #[] #[{ accessFlags := 24, nameIndex := 72, descriptorIndex := 48, attributes := #[] }, { accessFlags := 24, nameIndex := 47, descriptorIndex := 48, attributes := #[] }, { accessFlags := 24, nameIndex := 71, descriptorIndex := 58, attributes := #[] }, { accessFlags := 8, nameIndex := 57, descriptorIndex := 58, attributes := #[] }, { accessFlags := 4120, nameIndex := 19, descriptorIndex := 20, attributes := #[] }])
  fields := #[{ name := "low", type := .int, accessFlags := 24, slot := 0, constantValue := 0 }, { name := "high", type := .int, accessFlags := 24, slot := 1, constantValue := 0 }, { name := "cache", type := (.array (.object "java/lang/Integer")), accessFlags := 24, slot := 2, constantValue := 0 }, { name := "archivedCache", type := (.array (.object "java/lang/Integer")), accessFlags := 8, slot := 3, constantValue := 0 }, { name := "$assertionsDisabled", type := .boolean, accessFlags := 4120, slot := 4, constantValue := 0 }]
  methods := #[k9m0]
  instanceTypes := #[]
  staticTypes := #[.int, .int, (.array (.object "java/lang/Integer")), (.array (.object "java/lang/Integer")), .boolean]
  resolved := Array.replicate 100 none
  statics := some 0 }

def pool10 : Array CpInfo := pool [(1, u "java/lang/Cloneable"), (0, .class_ 1), (0, u "java/lang/Object"), (0, .class_ 3)] 3

/-- java/lang/Cloneable -/
def k10 : Class := { plain "java/lang/Cloneable" (some 0) with
  accessFlags := 1537
  interfaces := #[]
  cf := some (fileOf pool10 2 #[] #[] 1537 4 #[] #[])
  fields := #[]
  methods := #[]
  instanceTypes := #[]
  staticTypes := #[]
  resolved := Array.replicate 8 none
  statics := none }

/-- the primitive byte -/
def k11 : Class := { plain "byte" none with kind := .primitive 'B', accessFlags := 0x411 }
/-- [B -/
def k12 : Class := { plain "[B" (some 0) with kind := .array 11 .byte, interfaces := #[10, 3], accessFlags := 1041 }

/-- the primitive int -/
def k13 : Class := { plain "int" none with kind := .primitive 'I', accessFlags := 0x411 }
/-- [I -/
def k14 : Class := { plain "[I" (some 0) with kind := .array 13 .int, interfaces := #[10, 3], accessFlags := 1041 }

/-- [Ljava/lang/Integer; -/
def k15 : Class := { plain "[Ljava/lang/Integer;" (some 0) with kind := .array 8 (.object "java/lang/Integer"), interfaces := #[10, 3], accessFlags := 1041 }

def heap : Heap := #[{ cls := 9, slots := #[.int 0, .int 127, .ref 1, .null, .int 0], vm := .statics 9 },
  { cls := 15, slots := #[.ref 2, .ref 3, .ref 4, .ref 5, .ref 6, .ref 7, .ref 8, .ref 9, .ref 10, .ref 11, .ref 12, .ref 13, .ref 14, .ref 15, .ref 16, .ref 17, .ref 18, .ref 19, .ref 20, .ref 21, .ref 22, .ref 23, .ref 24, .ref 25, .ref 26, .ref 27, .ref 28, .ref 29, .ref 30, .ref 31, .ref 32, .ref 33, .ref 34, .ref 35, .ref 36, .ref 37, .ref 38, .ref 39, .ref 40, .ref 41, .ref 42, .ref 43, .ref 44, .ref 45, .ref 46, .ref 47, .ref 48, .ref 49, .ref 50, .ref 51, .ref 52, .ref 53, .ref 54, .ref 55, .ref 56, .ref 57, .ref 58, .ref 59, .ref 60, .ref 61, .ref 62, .ref 63, .ref 64, .ref 65, .ref 66, .ref 67, .ref 68, .ref 69, .ref 70, .ref 71, .ref 72, .ref 73, .ref 74, .ref 75, .ref 76, .ref 77, .ref 78, .ref 79, .ref 80, .ref 81, .ref 82, .ref 83, .ref 84, .ref 85, .ref 86, .ref 87, .ref 88, .ref 89, .ref 90, .ref 91, .ref 92, .ref 93, .ref 94, .ref 95, .ref 96, .ref 97, .ref 98, .ref 99, .ref 100, .ref 101, .ref 102, .ref 103, .ref 104, .ref 105, .ref 106, .ref 107, .ref 108, .ref 109, .ref 110, .ref 111, .ref 112, .ref 113, .ref 114, .ref 115, .ref 116, .ref 117, .ref 118, .ref 119, .ref 120, .ref 121, .ref 122, .ref 123, .ref 124, .ref 125, .ref 126, .ref 127, .ref 128, .ref 129, .ref 130, .ref 131, .ref 132, .ref 133, .ref 134, .ref 135, .ref 136, .ref 137, .ref 138, .ref 139, .ref 140, .ref 141, .ref 142, .ref 143, .ref 144, .ref 145, .ref 146, .ref 147, .ref 148, .ref 149, .ref 150, .ref 151, .ref 152, .ref 153, .ref 154, .ref 155, .ref 156, .ref 157, .ref 158, .ref 159, .ref 160, .ref 161, .ref 162, .ref 163, .ref 164, .ref 165, .ref 166, .ref 167, .ref 168, .ref 169, .ref 170, .ref 171, .ref 172, .ref 173, .ref 174, .ref 175, .ref 176, .ref 177, .ref 178, .ref 179, .ref 180, .ref 181, .ref 182, .ref 183, .ref 184, .ref 185, .ref 186, .ref 187, .ref 188, .ref 189, .ref 190, .ref 191, .ref 192, .ref 193, .ref 194, .ref 195, .ref 196, .ref 197, .ref 198, .ref 199, .ref 200, .ref 201, .ref 202, .ref 203, .ref 204, .ref 205, .ref 206, .ref 207, .ref 208, .ref 209, .ref 210, .ref 211, .ref 212, .ref 213, .ref 214, .ref 215, .ref 216, .ref 217, .ref 218, .ref 219, .ref 220, .ref 221, .ref 222, .ref 223, .ref 224, .ref 225, .ref 226, .ref 227, .ref 228, .ref 229, .ref 230, .ref 231, .ref 232, .ref 233, .ref 234, .ref 235, .ref 236, .ref 237, .ref 238, .ref 239, .ref 240, .ref 241, .ref 242, .ref 243, .ref 244, .ref 245, .ref 246, .ref 247, .ref 248, .ref 249, .ref 250, .ref 251, .ref 252, .ref 253, .ref 254, .ref 255, .ref 256, .ref 257], vm := .none },
  { cls := 8, slots := #[.int (-128)], vm := .none },
  { cls := 8, slots := #[.int (-127)], vm := .none },
  { cls := 8, slots := #[.int (-126)], vm := .none },
  { cls := 8, slots := #[.int (-125)], vm := .none },
  { cls := 8, slots := #[.int (-124)], vm := .none },
  { cls := 8, slots := #[.int (-123)], vm := .none },
  { cls := 8, slots := #[.int (-122)], vm := .none },
  { cls := 8, slots := #[.int (-121)], vm := .none },
  { cls := 8, slots := #[.int (-120)], vm := .none },
  { cls := 8, slots := #[.int (-119)], vm := .none },
  { cls := 8, slots := #[.int (-118)], vm := .none },
  { cls := 8, slots := #[.int (-117)], vm := .none },
  { cls := 8, slots := #[.int (-116)], vm := .none },
  { cls := 8, slots := #[.int (-115)], vm := .none },
  { cls := 8, slots := #[.int (-114)], vm := .none },
  { cls := 8, slots := #[.int (-113)], vm := .none },
  { cls := 8, slots := #[.int (-112)], vm := .none },
  { cls := 8, slots := #[.int (-111)], vm := .none },
  { cls := 8, slots := #[.int (-110)], vm := .none },
  { cls := 8, slots := #[.int (-109)], vm := .none },
  { cls := 8, slots := #[.int (-108)], vm := .none },
  { cls := 8, slots := #[.int (-107)], vm := .none },
  { cls := 8, slots := #[.int (-106)], vm := .none },
  { cls := 8, slots := #[.int (-105)], vm := .none },
  { cls := 8, slots := #[.int (-104)], vm := .none },
  { cls := 8, slots := #[.int (-103)], vm := .none },
  { cls := 8, slots := #[.int (-102)], vm := .none },
  { cls := 8, slots := #[.int (-101)], vm := .none },
  { cls := 8, slots := #[.int (-100)], vm := .none },
  { cls := 8, slots := #[.int (-99)], vm := .none },
  { cls := 8, slots := #[.int (-98)], vm := .none },
  { cls := 8, slots := #[.int (-97)], vm := .none },
  { cls := 8, slots := #[.int (-96)], vm := .none },
  { cls := 8, slots := #[.int (-95)], vm := .none },
  { cls := 8, slots := #[.int (-94)], vm := .none },
  { cls := 8, slots := #[.int (-93)], vm := .none },
  { cls := 8, slots := #[.int (-92)], vm := .none },
  { cls := 8, slots := #[.int (-91)], vm := .none },
  { cls := 8, slots := #[.int (-90)], vm := .none },
  { cls := 8, slots := #[.int (-89)], vm := .none },
  { cls := 8, slots := #[.int (-88)], vm := .none },
  { cls := 8, slots := #[.int (-87)], vm := .none },
  { cls := 8, slots := #[.int (-86)], vm := .none },
  { cls := 8, slots := #[.int (-85)], vm := .none },
  { cls := 8, slots := #[.int (-84)], vm := .none },
  { cls := 8, slots := #[.int (-83)], vm := .none },
  { cls := 8, slots := #[.int (-82)], vm := .none },
  { cls := 8, slots := #[.int (-81)], vm := .none },
  { cls := 8, slots := #[.int (-80)], vm := .none },
  { cls := 8, slots := #[.int (-79)], vm := .none },
  { cls := 8, slots := #[.int (-78)], vm := .none },
  { cls := 8, slots := #[.int (-77)], vm := .none },
  { cls := 8, slots := #[.int (-76)], vm := .none },
  { cls := 8, slots := #[.int (-75)], vm := .none },
  { cls := 8, slots := #[.int (-74)], vm := .none },
  { cls := 8, slots := #[.int (-73)], vm := .none },
  { cls := 8, slots := #[.int (-72)], vm := .none },
  { cls := 8, slots := #[.int (-71)], vm := .none },
  { cls := 8, slots := #[.int (-70)], vm := .none },
  { cls := 8, slots := #[.int (-69)], vm := .none },
  { cls := 8, slots := #[.int (-68)], vm := .none },
  { cls := 8, slots := #[.int (-67)], vm := .none },
  { cls := 8, slots := #[.int (-66)], vm := .none },
  { cls := 8, slots := #[.int (-65)], vm := .none },
  { cls := 8, slots := #[.int (-64)], vm := .none },
  { cls := 8, slots := #[.int (-63)], vm := .none },
  { cls := 8, slots := #[.int (-62)], vm := .none },
  { cls := 8, slots := #[.int (-61)], vm := .none },
  { cls := 8, slots := #[.int (-60)], vm := .none },
  { cls := 8, slots := #[.int (-59)], vm := .none },
  { cls := 8, slots := #[.int (-58)], vm := .none },
  { cls := 8, slots := #[.int (-57)], vm := .none },
  { cls := 8, slots := #[.int (-56)], vm := .none },
  { cls := 8, slots := #[.int (-55)], vm := .none },
  { cls := 8, slots := #[.int (-54)], vm := .none },
  { cls := 8, slots := #[.int (-53)], vm := .none },
  { cls := 8, slots := #[.int (-52)], vm := .none },
  { cls := 8, slots := #[.int (-51)], vm := .none },
  { cls := 8, slots := #[.int (-50)], vm := .none },
  { cls := 8, slots := #[.int (-49)], vm := .none },
  { cls := 8, slots := #[.int (-48)], vm := .none },
  { cls := 8, slots := #[.int (-47)], vm := .none },
  { cls := 8, slots := #[.int (-46)], vm := .none },
  { cls := 8, slots := #[.int (-45)], vm := .none },
  { cls := 8, slots := #[.int (-44)], vm := .none },
  { cls := 8, slots := #[.int (-43)], vm := .none },
  { cls := 8, slots := #[.int (-42)], vm := .none },
  { cls := 8, slots := #[.int (-41)], vm := .none },
  { cls := 8, slots := #[.int (-40)], vm := .none },
  { cls := 8, slots := #[.int (-39)], vm := .none },
  { cls := 8, slots := #[.int (-38)], vm := .none },
  { cls := 8, slots := #[.int (-37)], vm := .none },
  { cls := 8, slots := #[.int (-36)], vm := .none },
  { cls := 8, slots := #[.int (-35)], vm := .none },
  { cls := 8, slots := #[.int (-34)], vm := .none },
  { cls := 8, slots := #[.int (-33)], vm := .none },
  { cls := 8, slots := #[.int (-32)], vm := .none },
  { cls := 8, slots := #[.int (-31)], vm := .none },
  { cls := 8, slots := #[.int (-30)], vm := .none },
  { cls := 8, slots := #[.int (-29)], vm := .none },
  { cls := 8, slots := #[.int (-28)], vm := .none },
  { cls := 8, slots := #[.int (-27)], vm := .none },
  { cls := 8, slots := #[.int (-26)], vm := .none },
  { cls := 8, slots := #[.int (-25)], vm := .none },
  { cls := 8, slots := #[.int (-24)], vm := .none },
  { cls := 8, slots := #[.int (-23)], vm := .none },
  { cls := 8, slots := #[.int (-22)], vm := .none },
  { cls := 8, slots := #[.int (-21)], vm := .none },
  { cls := 8, slots := #[.int (-20)], vm := .none },
  { cls := 8, slots := #[.int (-19)], vm := .none },
  { cls := 8, slots := #[.int (-18)], vm := .none },
  { cls := 8, slots := #[.int (-17)], vm := .none },
  { cls := 8, slots := #[.int (-16)], vm := .none },
  { cls := 8, slots := #[.int (-15)], vm := .none },
  { cls := 8, slots := #[.int (-14)], vm := .none },
  { cls := 8, slots := #[.int (-13)], vm := .none },
  { cls := 8, slots := #[.int (-12)], vm := .none },
  { cls := 8, slots := #[.int (-11)], vm := .none },
  { cls := 8, slots := #[.int (-10)], vm := .none },
  { cls := 8, slots := #[.int (-9)], vm := .none },
  { cls := 8, slots := #[.int (-8)], vm := .none },
  { cls := 8, slots := #[.int (-7)], vm := .none },
  { cls := 8, slots := #[.int (-6)], vm := .none },
  { cls := 8, slots := #[.int (-5)], vm := .none },
  { cls := 8, slots := #[.int (-4)], vm := .none },
  { cls := 8, slots := #[.int (-3)], vm := .none },
  { cls := 8, slots := #[.int (-2)], vm := .none },
  { cls := 8, slots := #[.int (-1)], vm := .none },
  { cls := 8, slots := #[.int 0], vm := .none },
  { cls := 8, slots := #[.int 1], vm := .none },
  { cls := 8, slots := #[.int 2], vm := .none },
  { cls := 8, slots := #[.int 3], vm := .none },
  { cls := 8, slots := #[.int 4], vm := .none },
  { cls := 8, slots := #[.int 5], vm := .none },
  { cls := 8, slots := #[.int 6], vm := .none },
  { cls := 8, slots := #[.int 7], vm := .none },
  { cls := 8, slots := #[.int 8], vm := .none },
  { cls := 8, slots := #[.int 9], vm := .none },
  { cls := 8, slots := #[.int 10], vm := .none },
  { cls := 8, slots := #[.int 11], vm := .none },
  { cls := 8, slots := #[.int 12], vm := .none },
  { cls := 8, slots := #[.int 13], vm := .none },
  { cls := 8, slots := #[.int 14], vm := .none },
  { cls := 8, slots := #[.int 15], vm := .none },
  { cls := 8, slots := #[.int 16], vm := .none },
  { cls := 8, slots := #[.int 17], vm := .none },
  { cls := 8, slots := #[.int 18], vm := .none },
  { cls := 8, slots := #[.int 19], vm := .none },
  { cls := 8, slots := #[.int 20], vm := .none },
  { cls := 8, slots := #[.int 21], vm := .none },
  { cls := 8, slots := #[.int 22], vm := .none },
  { cls := 8, slots := #[.int 23], vm := .none },
  { cls := 8, slots := #[.int 24], vm := .none },
  { cls := 8, slots := #[.int 25], vm := .none },
  { cls := 8, slots := #[.int 26], vm := .none },
  { cls := 8, slots := #[.int 27], vm := .none },
  { cls := 8, slots := #[.int 28], vm := .none },
  { cls := 8, slots := #[.int 29], vm := .none },
  { cls := 8, slots := #[.int 30], vm := .none },
  { cls := 8, slots := #[.int 31], vm := .none },
  { cls := 8, slots := #[.int 32], vm := .none },
  { cls := 8, slots := #[.int 33], vm := .none },
  { cls := 8, slots := #[.int 34], vm := .none },
  { cls := 8, slots := #[.int 35], vm := .none },
  { cls := 8, slots := #[.int 36], vm := .none },
  { cls := 8, slots := #[.int 37], vm := .none },
  { cls := 8, slots := #[.int 38], vm := .none },
  { cls := 8, slots := #[.int 39], vm := .none },
  { cls := 8, slots := #[.int 40], vm := .none },
  { cls := 8, slots := #[.int 41], vm := .none },
  { cls := 8, slots := #[.int 42], vm := .none },
  { cls := 8, slots := #[.int 43], vm := .none },
  { cls := 8, slots := #[.int 44], vm := .none },
  { cls := 8, slots := #[.int 45], vm := .none },
  { cls := 8, slots := #[.int 46], vm := .none },
  { cls := 8, slots := #[.int 47], vm := .none },
  { cls := 8, slots := #[.int 48], vm := .none },
  { cls := 8, slots := #[.int 49], vm := .none },
  { cls := 8, slots := #[.int 50], vm := .none },
  { cls := 8, slots := #[.int 51], vm := .none },
  { cls := 8, slots := #[.int 52], vm := .none },
  { cls := 8, slots := #[.int 53], vm := .none },
  { cls := 8, slots := #[.int 54], vm := .none },
  { cls := 8, slots := #[.int 55], vm := .none },
  { cls := 8, slots := #[.int 56], vm := .none },
  { cls := 8, slots := #[.int 57], vm := .none },
  { cls := 8, slots := #[.int 58], vm := .none },
  { cls := 8, slots := #[.int 59], vm := .none },
  { cls := 8, slots := #[.int 60], vm := .none },
  { cls := 8, slots := #[.int 61], vm := .none },
  { cls := 8, slots := #[.int 62], vm := .none },
  { cls := 8, slots := #[.int 63], vm := .none },
  { cls := 8, slots := #[.int 64], vm := .none },
  { cls := 8, slots := #[.int 65], vm := .none },
  { cls := 8, slots := #[.int 66], vm := .none },
  { cls := 8, slots := #[.int 67], vm := .none },
  { cls := 8, slots := #[.int 68], vm := .none },
  { cls := 8, slots := #[.int 69], vm := .none },
  { cls := 8, slots := #[.int 70], vm := .none },
  { cls := 8, slots := #[.int 71], vm := .none },
  { cls := 8, slots := #[.int 72], vm := .none },
  { cls := 8, slots := #[.int 73], vm := .none },
  { cls := 8, slots := #[.int 74], vm := .none },
  { cls := 8, slots := #[.int 75], vm := .none },
  { cls := 8, slots := #[.int 76], vm := .none },
  { cls := 8, slots := #[.int 77], vm := .none },
  { cls := 8, slots := #[.int 78], vm := .none },
  { cls := 8, slots := #[.int 79], vm := .none },
  { cls := 8, slots := #[.int 80], vm := .none },
  { cls := 8, slots := #[.int 81], vm := .none },
  { cls := 8, slots := #[.int 82], vm := .none },
  { cls := 8, slots := #[.int 83], vm := .none },
  { cls := 8, slots := #[.int 84], vm := .none },
  { cls := 8, slots := #[.int 85], vm := .none },
  { cls := 8, slots := #[.int 86], vm := .none },
  { cls := 8, slots := #[.int 87], vm := .none },
  { cls := 8, slots := #[.int 88], vm := .none },
  { cls := 8, slots := #[.int 89], vm := .none },
  { cls := 8, slots := #[.int 90], vm := .none },
  { cls := 8, slots := #[.int 91], vm := .none },
  { cls := 8, slots := #[.int 92], vm := .none },
  { cls := 8, slots := #[.int 93], vm := .none },
  { cls := 8, slots := #[.int 94], vm := .none },
  { cls := 8, slots := #[.int 95], vm := .none },
  { cls := 8, slots := #[.int 96], vm := .none },
  { cls := 8, slots := #[.int 97], vm := .none },
  { cls := 8, slots := #[.int 98], vm := .none },
  { cls := 8, slots := #[.int 99], vm := .none },
  { cls := 8, slots := #[.int 100], vm := .none },
  { cls := 8, slots := #[.int 101], vm := .none },
  { cls := 8, slots := #[.int 102], vm := .none },
  { cls := 8, slots := #[.int 103], vm := .none },
  { cls := 8, slots := #[.int 104], vm := .none },
  { cls := 8, slots := #[.int 105], vm := .none },
  { cls := 8, slots := #[.int 106], vm := .none },
  { cls := 8, slots := #[.int 107], vm := .none },
  { cls := 8, slots := #[.int 108], vm := .none },
  { cls := 8, slots := #[.int 109], vm := .none },
  { cls := 8, slots := #[.int 110], vm := .none },
  { cls := 8, slots := #[.int 111], vm := .none },
  { cls := 8, slots := #[.int 112], vm := .none },
  { cls := 8, slots := #[.int 113], vm := .none },
  { cls := 8, slots := #[.int 114], vm := .none },
  { cls := 8, slots := #[.int 115], vm := .none },
  { cls := 8, slots := #[.int 116], vm := .none },
  { cls := 8, slots := #[.int 117], vm := .none },
  { cls := 8, slots := #[.int 118], vm := .none },
  { cls := 8, slots := #[.int 119], vm := .none },
  { cls := 8, slots := #[.int 120], vm := .none },
  { cls := 8, slots := #[.int 121], vm := .none },
  { cls := 8, slots := #[.int 122], vm := .none },
  { cls := 8, slots := #[.int 123], vm := .none },
  { cls := 8, slots := #[.int 124], vm := .none },
  { cls := 8, slots := #[.int 125], vm := .none },
  { cls := 8, slots := #[.int 126], vm := .none },
  { cls := 8, slots := #[.int 127], vm := .none }]
def classes : Array Class := #[k0, k1, k2, k3, k4, k5, k6, k7, k8, k9, k10, k11, k12, k13, k14, k15]
def interned : List (Array UInt16 × Addr) := []
def slotsUsed : Nat := 517
def theMethod : MethodId := ⟨1, 1⟩
def args0 : Array Value := #[.int 5, .int 5, .int 5, .int 5, .int 5, .int 5]
def aboutOver (below : List Frame) : State where
  vm := { classes := classes, interned := interned.toArray }
  heap := heap
  slotsUsed := slotsUsed
  threads := #[{ frames := .invoking theMethod args0 :: below }]
def below0 : List Frame := [.native { method := ⟨0, 0⟩, args := #[] }]
def about1 : State := aboutOver below0
def p0 : Program := .bare "" "" ""
def e0 : Env := launch0.env 0 0 0
theorem w_frames : about1.frames = Frame.invoking theMethod args0 :: below0 := rfl
set_option maxRecDepth 65536 in
theorem w_args : argsFit about1.vm theMethod args0 = true := by decide +kernel
set_option maxRecDepth 65536 in
theorem w_heap : heapFits about1 = true := by decide +kernel
set_option maxRecDepth 65536 in
theorem w_runnable : about1.curStatus? = some .runnable := by decide +kernel
set_option maxRecDepth 65536 in
theorem w_alone : about1.alone = true := by decide +kernel
set_option maxRecDepth 65536 in
theorem w_named : about1.methodNamed? x = some theMethod := by decide +kernel
set_option maxRecDepth 65536 in
theorem w_hears : about1.hears theMethod below0 = true := by decide +kernel
set_option maxRecDepth 65536 in
theorem w_ripe : about1.ripe theMethod args0 below0 = true := by decide +kernel
theorem w_running : about1.status = .running := rfl
set_option maxRecDepth 65536 in
theorem w_room : about1.hasRoom e0.platform room_1 = true :=
  launch0.hasRoom_least _ room_1 (by decide +kernel) (by decide +kernel) (by decide +kernel) (by decide +kernel) (by decide +kernel) (by decide +kernel)
theorem allAtoms_all (ts : List Jvm.Cond) (a : Array Jvm.Value) (st : Jvm.State) : (allAtoms ts).before a st = ts.all (fun c => c.before a st) := by
  induction ts with
  | nil => rfl
  | cons c t ih =>
    show (Jvm.Cond.and c (allAtoms t)).before a st = _
    rw [Jvm.Cond.before_and, ih, List.all_cons]
def words1 : List Jvm.Cond := Jvm.Cond.code x code maxLocals ret :: tables_1
/-- a 'code' word, met by the world's own term for the bytes: nothing is compared byte by byte -/
theorem code_word {y : MethodName} {bytes : ByteArray} {mx : Nat} {rt : Option FieldType} {a : Array Value} {s : State} {m : MethodId} {meth : Method} {c : Code} (h1 : s.methodNamed? y = some m) (h2 : s.vm.method? m = some meth) (h3 : meth.code = some c) (h4 : c.code = bytes)
    (h5 : (c.maxLocals == mx && c.exceptionTable.isEmpty && decide (c.maxStack ≤ mostOperands) && decide (meth.sig.returnType = rt) && !meth.locks && decide (parseMethodDescriptor y.desc = some meth.sig)) = true) : (Jvm.Cond.code y bytes mx rt).before a s = true := by
  simp only [Bool.and_eq_true, beq_iff_eq, Bool.not_eq_true', decide_eq_true_eq] at h5
  obtain ⟨⟨⟨⟨⟨g1, g2⟩, g3⟩, g4⟩, g5⟩, g6⟩ := h5
  simp [Cond.before, Cond.holds, Cond.value, h1, h2, h3, h4, g1, g2, g3, g4, g5, g6]
def isCode : Jvm.Cond → Bool
  | .code _ _ _ _ => true
  | _ => false
theorem all_split {L : List Jvm.Cond} {P : Jvm.Cond → Bool} (h1 : L.all (fun c => isCode c || P c) = true) (h2 : ∀ c ∈ L.filter isCode, P c = true) : L.all P = true := by
  refine List.all_eq_true.mpr fun c hc => ?_
  have h := List.all_eq_true.mp h1 c hc
  rcases Bool.eq_false_or_eq_true (isCode c) with hi | hi
  · exact h2 c (List.mem_filter.mpr ⟨hc, hi⟩)
  · simpa [hi] using h
set_option maxRecDepth 65536 in
theorem w_c0 : (Jvm.Cond.code x code maxLocals ret).before args0 about1 = true := code_word (m := ⟨1, 1⟩) (meth := k1m1) (c := k1c1) (by decide +kernel) rfl rfl rfl (by decide +kernel)
set_option maxRecDepth 65536 in
theorem w_c1 : (Jvm.Cond.code ({ cls := "com/example/polytrace/polytrace/model/Trace$Bits", name := "<init>", desc := "(IIIIZ)V" } : Jvm.MethodName) prog_297_method_1_code (6 : Nat) (Option.none : Option Jvm.ClassFile.FieldType)).before args0 about1 = true := code_word (m := ⟨2, 0⟩) (meth := k2m0) (c := k2c0) (by decide +kernel) rfl rfl rfl (by decide +kernel)
set_option maxRecDepth 65536 in
theorem w_c2 : (Jvm.Cond.code ({ cls := "java/lang/Object", name := "<init>", desc := "()V" } : Jvm.MethodName) object_method_1_code (1 : Nat) (Option.none : Option Jvm.ClassFile.FieldType)).before args0 about1 = true := code_word (m := ⟨0, 0⟩) (meth := k0m0) (c := k0c0) (by decide +kernel) rfl rfl rfl (by decide +kernel)
set_option maxRecDepth 65536 in
theorem w_c3 : (Jvm.Cond.code ({ cls := "java/lang/Integer", name := "valueOf", desc := "(I)Ljava/lang/Integer;" } : Jvm.MethodName) jdk_33_method_22_code (1 : Nat) (Option.some (Jvm.ClassFile.FieldType.object "java/lang/Integer"))).before args0 about1 = true := code_word (m := ⟨8, 0⟩) (meth := k8m0) (c := k8c0) (by decide +kernel) rfl rfl rfl (by decide +kernel)
set_option maxRecDepth 65536 in
theorem w_c4 : (Jvm.Cond.code ({ cls := "com/example/polytrace/polytrace/model/Trace$Bits", name := "equals", desc := "(Ljava/lang/Object;)Z" } : Jvm.MethodName) prog_297_method_7_code (3 : Nat) (Option.some Jvm.ClassFile.FieldType.boolean)).before args0 about1 = true := code_word (m := ⟨2, 1⟩) (meth := k2m1) (c := k2c1) (by decide +kernel) rfl rfl rfl (by decide +kernel)
set_option maxRecDepth 65536 in
theorem w_c5 : (Jvm.Cond.code ({ cls := "java/lang/Integer", name := "<init>", desc := "(I)V" } : Jvm.MethodName) jdk_33_method_23_code (2 : Nat) (Option.none : Option Jvm.ClassFile.FieldType)).before args0 about1 = true := code_word (m := ⟨8, 1⟩) (meth := k8m1) (c := k8c1) (by decide +kernel) rfl rfl rfl (by decide +kernel)
set_option maxRecDepth 65536 in
theorem w_c6 : (Jvm.Cond.code ({ cls := "java/lang/Number", name := "<init>", desc := "()V" } : Jvm.MethodName) jdk_18_method_1_code (1 : Nat) (Option.none : Option Jvm.ClassFile.FieldType)).before args0 about1 = true := code_word (m := ⟨4, 0⟩) (meth := k4m0) (c := k4c0) (by decide +kernel) rfl rfl rfl (by decide +kernel)
def codes1 : List Jvm.Cond := [Jvm.Cond.code x code maxLocals ret, Jvm.Cond.code ({ cls := "com/example/polytrace/polytrace/model/Trace$Bits", name := "<init>", desc := "(IIIIZ)V" } : Jvm.MethodName) prog_297_method_1_code (6 : Nat) (Option.none : Option Jvm.ClassFile.FieldType), Jvm.Cond.code ({ cls := "java/lang/Object", name := "<init>", desc := "()V" } : Jvm.MethodName) object_method_1_code (1 : Nat) (Option.none : Option Jvm.ClassFile.FieldType), Jvm.Cond.code ({ cls := "java/lang/Integer", name := "valueOf", desc := "(I)Ljava/lang/Integer;" } : Jvm.MethodName) jdk_33_method_22_code (1 : Nat) (Option.some (Jvm.ClassFile.FieldType.object "java/lang/Integer")), Jvm.Cond.code ({ cls := "com/example/polytrace/polytrace/model/Trace$Bits", name := "equals", desc := "(Ljava/lang/Object;)Z" } : Jvm.MethodName) prog_297_method_7_code (3 : Nat) (Option.some Jvm.ClassFile.FieldType.boolean), Jvm.Cond.code ({ cls := "java/lang/Integer", name := "<init>", desc := "(I)V" } : Jvm.MethodName) jdk_33_method_23_code (2 : Nat) (Option.none : Option Jvm.ClassFile.FieldType), Jvm.Cond.code ({ cls := "java/lang/Number", name := "<init>", desc := "()V" } : Jvm.MethodName) jdk_18_method_1_code (1 : Nat) (Option.none : Option Jvm.ClassFile.FieldType)]
set_option maxRecDepth 65536 in
theorem codes_eq : words1.filter isCode = codes1 := rfl
theorem w_codes : ∀ c ∈ words1.filter isCode, c.before args0 about1 = true := by
  rw [codes_eq]
  intro c hc
  simp only [codes1, List.mem_cons, List.not_mem_nil, or_false] at hc
  rcases hc with rfl | rfl | rfl | rfl | rfl | rfl | rfl
  · exact w_c0
  · exact w_c1
  · exact w_c2
  · exact w_c3
  · exact w_c4
  · exact w_c5
  · exact w_c6
set_option maxRecDepth 65536 in
theorem w_t1 : (words1.take 24).all (fun c => isCode c || c.before args0 about1) = true := by decide +kernel
set_option maxRecDepth 65536 in
theorem w_t2 : ((words1.drop 24).take 24).all (fun c => isCode c || c.before args0 about1) = true := by decide +kernel
set_option maxRecDepth 65536 in
theorem w_t3 : ((words1.drop 24).drop 24).all (fun c => isCode c || c.before args0 about1) = true := by decide +kernel
theorem w_tables : (allAtoms (Jvm.Cond.code x code maxLocals ret :: tables_1)).before args0 about1 = true := by
  rw [allAtoms_all]
  show words1.all (fun c => c.before args0 about1) = true
  refine all_split ?_ w_codes
  rw [← List.take_append_drop 24 words1, List.all_append, w_t1, ← List.take_append_drop 24 (words1.drop 24), List.all_append, w_t2, w_t3]
  rfl
set_option maxRecDepth 65536 in
theorem w_rest : rest_1_c.before args0 about1 = true := by decide +kernel
set_option maxRecDepth 65536 in
theorem w_case : (Jvm.Cond.and given_1 narrow_1).before args0 about1 = true := by decide +kernel
theorem w_applies : (headSpec (Jvm.Cond.code x code maxLocals ret :: tables_1) room_1).applies x e0.platform about1 = true :=
  (Spec.applies_iff w_frames).mpr ⟨w_running, w_runnable, w_alone, w_named, w_hears, w_ripe, w_room, w_tables⟩
theorem atStart : AtStart classFile x code maxLocals ret World_1 tables_1 room_1 Calls_1 rest_1 Pre_1 launch0 p0 e0 about1 theMethod args0 below0 :=
  ⟨lists_1, trivial, launch0.admits_env _ _ _, launch0.least_env, fairChoices_fair.cas, fairChoices_fair.clock, w_frames, w_args, w_heap, w_applies, trivial, w_rest, w_case⟩
end start1
theorem witness_1 : WitnessClaimed_1 := ⟨start1.p0, start1.e0, start1.about1, start1.theMethod, start1.args0, start1.below0, start1.atStart⟩
end Jvm.Pilot.@@N@@
