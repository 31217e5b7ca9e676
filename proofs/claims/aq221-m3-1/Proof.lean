import JvmDerived
import JvmDerived.Pilot.@@N@@Statement
import JvmDerived.Pilot.@@N@@Code
set_option linter.unusedVariables false
set_option linter.unusedSimpArgs false
namespace Jvm.Pilot.@@N@@
open Jvm Jvm.ClassFile Sem Op Lib Jvm.Free Jvm.Stand Jvm.LawKit Jvm.RoadKit Bundle Jvm.Pilot.@@N@@.Jvm.D
section OwnLayer
variable {p : Program} {l : Launch} {e : Env} {R : Room} {s : State} {m : MethodId} {args : Array Value} {below : List Frame} {meth : Method} {c : Code} {T T' : State} {locs : List Loc} {cells slots : Nat} {K N : Nat} {Q : Option Value → Heap → List Loc → Prop}
/-- from the frame g over the state T the body comes to its end, and Q holds there -/
def Go (p : Program) (e : Env) (below : List Frame) (s : State) (K N : Nat) (Q : Option Value → Heap → List Loc → Prop) (T : State) (g : JFrame) : Prop :=
  ∃ s₂ o, Steps p.tables e below (T.setTop g) s₂ ∧ s₂.status = .running ∧ Ended s₂ below o ∧ ∃ v L, o = .returned v ∧ Q v s₂.heap L ∧ FrameEnd s o s₂ L K N
theorem own_via {g g' : JFrame} (k : Go p e below s K N Q T' g') (h : ∀ t, Steps p.tables e below (T'.setTop g') t → Steps p.tables e below (T.setTop g) t) : Go p e below s K N Q T g := by
  obtain ⟨a, b, h1, r⟩ := k; exact ⟨a, b, h _ h1, r⟩
theorem own_join {g g' : JFrame} (k : Go p e below s K N Q T' g') (h : Steps p.tables e below (T.setTop g) (T'.setTop g')) : Go p e below s K N Q T g := own_via k fun _ q => h.trans q
theorem own_cast {g g' : JFrame} (q : g = g') (k : Go p e below s K N Q T g') : Go p e below s K N Q T g := q ▸ k
theorem own_ret (X : Stand p l e R s m args below meth c T locs cells slots) (hx : p.tables.exec = Jvm.exec) {pc : Nat} {Ls : Array Slot} {w : Value} {t : FieldType} {i : Instr} {rest : List Value} (hret : meth.sig.returnType = some t) (hlocks : meth.locks = false) (hn : narrow t w = w)
    (hi : (i = .ireturn ∧ (t = .int ∨ t = .boolean ∨ t = .byte ∨ t = .char ∨ t = .short) ∧ ∃ z, w = .int z) ∨ (i = .lreturn ∧ t = .long ∧ ∃ z, w = .long z) ∨ (i = .dreturn ∧ t = .double ∧ ∃ z, w = .double z) ∨ (i = .freturn ∧ t = .float ∧ ∃ z, w = .float z) ∨ (i = .areturn ∧ t.isReference = true ∧ w.isRef = true))
    (hd : decode c.code pc = .ok (i, 1)) (hq : Q (some w) T.heap locs) (hk : cells ≤ K) (hs : slots ≤ N) : Go p e below s K N Q T (mkF m pc Ls (w :: rest)) := by
  obtain ⟨fs, hr, hrun, hended, hW, hsame⟩ := X.leave (v := some w) (fun h => by rw [hret] at h; cases h) (hlocks := hlocks)
  exact ⟨_, _, retOut X hx hret hn hi hd hr, hrun, hended, _, _, rfl, hq, ⟨_, rfl⟩, hW, hsame.mono hk hs⟩
theorem own_retI (X : Stand p l e R s m args below meth c T locs cells slots) (hx : p.tables.exec = Jvm.exec) {pc : Nat} {Ls : Array Slot} {z : Int32} {rest : List Value} (hret : meth.sig.returnType = some .int) (hlocks : meth.locks = false)
    (hd : decode c.code pc = .ok (.ireturn, 1)) (hk : cells ≤ K) (hs : slots ≤ N) (hq : Q (some (.int z)) T.heap locs) : Go p e below s K N Q T (mkF m pc Ls (.int z :: rest)) :=
  own_ret X hx hret hlocks rfl (Or.inl ⟨rfl, Or.inl rfl, _, rfl⟩) hd hq hk hs
theorem own_retJ (X : Stand p l e R s m args below meth c T locs cells slots) (hx : p.tables.exec = Jvm.exec) {pc : Nat} {Ls : Array Slot} {z : Int64} {rest : List Value} (hret : meth.sig.returnType = some .long) (hlocks : meth.locks = false)
    (hd : decode c.code pc = .ok (.lreturn, 1)) (hk : cells ≤ K) (hs : slots ≤ N) (hq : Q (some (.long z)) T.heap locs) : Go p e below s K N Q T (mkF m pc Ls (.long z :: rest)) :=
  own_ret X hx hret hlocks rfl (Or.inr (Or.inl ⟨rfl, rfl, _, rfl⟩)) hd hq hk hs
theorem own_retR (X : Stand p l e R s m args below meth c T locs cells slots) (hx : p.tables.exec = Jvm.exec) {pc : Nat} {Ls : Array Slot} {w : Value} {t : FieldType} {rest : List Value} (hret : meth.sig.returnType = some t) (hlocks : meth.locks = false) (ht : t.isReference = true) (hw : w.isRef = true)
    (hd : decode c.code pc = .ok (.areturn, 1)) (hk : cells ≤ K) (hs : slots ≤ N) (hq : Q (some w) T.heap locs) : Go p e below s K N Q T (mkF m pc Ls (w :: rest)) :=
  own_ret X hx hret hlocks (by rcases ref_cases hw with rfl | ⟨a, rfl⟩ <;> cases t <;> rfl) (Or.inr (Or.inr (Or.inr (Or.inr ⟨rfl, ht, hw⟩)))) hd hq hk hs
theorem own_retZ (X : Stand p l e R s m args below meth c T locs cells slots) (hx : p.tables.exec = Jvm.exec) {pc : Nat} {Ls : Array Slot} {z z' : Int32} {rest : List Value} (hret : meth.sig.returnType = some .boolean) (hlocks : meth.locks = false)
    (hd : decode c.code pc = .ok (.ireturn, 1)) (hz : nar .boolean z = z') (hk : cells ≤ K) (hs : slots ≤ N) (hq : Q (some (.int z')) T.heap locs) : Go p e below s K N Q T (mkF m pc Ls (.int z :: rest)) := by
  subst hz
  obtain ⟨fs, hr, hrun, hended, hW, hsame⟩ := X.leave (v := some (.int (nar .boolean z))) (fun h => by rw [hret] at h; cases h) (hlocks := hlocks)
  exact ⟨_, _, retN X hx (t := .boolean) hret (Or.inl rfl) hd hr, hrun, hended, _, _, rfl, hq, ⟨_, rfl⟩, hW, hsame.mono hk hs⟩
theorem own_retV (X : Stand p l e R s m args below meth c T locs cells slots) (hx : p.tables.exec = Jvm.exec) {pc : Nat} {Ls : Array Slot} (hret : meth.sig.returnType = none) (hlocks : meth.locks = false)
    (hd : decode c.code pc = .ok (.return_, 1)) (hk : cells ≤ K) (hs : slots ≤ N) (hq : Q none T.heap locs) : Go p e below s K N Q T (mkF m pc Ls []) := by
  obtain ⟨fs, hr, hrun, hended, hW, hsame⟩ := X.leave (v := none) (fun _ => rfl) (hlocks := hlocks)
  exact ⟨_, _, X.returnOut hx hret hd hr, hrun, hended, _, _, rfl, hq, ⟨_, rfl⟩, hW, hsame.mono hk hs⟩
/-- the int of a truth value -/
def bi (P : Prop) [Decidable P] : Int32 := if P then 1 else 0
theorem bi_t {P : Prop} [Decidable P] (h : P) : bi P = 1 := if_pos h
theorem bi_f {P : Prop} [Decidable P] (h : ¬ P) : bi P = 0 := if_neg h
theorem bi_0 {P : Prop} [Decidable P] : bi P = 0 ↔ ¬ P := by unfold bi; split <;> simp_all
theorem bi_1 {P : Prop} [Decidable P] : bi P = 1 ↔ P := by unfold bi; split <;> simp_all
theorem bi_nar {P : Prop} [Decidable P] : nar .boolean (bi P) = bi P := by unfold bi; split <;> rfl
theorem bi_iff {P P' : Prop} [Decidable P] [Decidable P'] (h : P ↔ P') : bi P = bi P' := by unfold bi; simp only [h]
theorem bi_eq {P P' : Prop} [Decidable P] [Decidable P'] : bi P = bi P' ↔ (P ↔ P') := by unfold bi; split <;> split <;> simp_all
end OwnLayer
section OwnWords
variable {args : Array Value} {s : State} {t : Term} {C n d : String} {x : Addr}
theorem own_fldV {v : Value} (ht : t.eval args s none [] s = some (.ref x)) (h : (Term.field t C n d).eval args s none [] s = some v) : Fld s s.heap x C n d v :=
  Fld.start ((fld_at (C := C) (n := n) (dd := d) ht).symm.trans h)
theorem own_fldI {z : Int32} (ht : t.eval args s none [] s = some (.ref x)) (h : (Cond.eq (.field t C n d) (.int z)).value args s none s [] = some true) : Fld s s.heap x C n d (.int z) := own_fldV ht (eqv_i rfl h)
theorem own_fldJ {z : Int64} (ht : t.eval args s none [] s = some (.ref x)) (h : (Cond.eq (.field t C n d) (.long z)).value args s none s [] = some true) : Fld s s.heap x C n d (.long z) := own_fldV ht (eqv_l rfl h)
end OwnWords
theorem own_narB (P : Prop) [Decidable P] : narrow .boolean (.int (bi P)) = .int (bi P) := by unfold bi; split <;> rfl
theorem own_fitB (P : Prop) [Decidable P] : fits .boolean (.int (bi P)) = true := by unfold bi; split <;> rfl
theorem own_narR {w : Value} {t : FieldType} (hw : w.isRef = true) : narrow t w = w := by rcases ref_cases hw with rfl | ⟨a, rfl⟩ <;> cases t <;> rfl
theorem own_eqR {args : Array Value} {s : State} {a b : Term} {r : Addr} (hb : b.eval args s none [] s = some (.ref r)) (h : (Cond.eq a b).value args s none s [] = some true) : a.eval args s none [] s = some (.ref r) := by
  cases ha : a.eval args s none [] s with
  | none => simp [Cond.value, ha] at h
  | some x => cases x <;> simp [Cond.value, ha, hb] at h ⊢; exact h
theorem pn0 : plainName "java/util/Arrays" = true := by first | (simp [plainName, overriddenIn]; done) | decide +kernel
theorem pd0 : parseMethodDescriptor "(II)I" = some ⟨[.int, .int], some .int⟩ := by decide +kernel
theorem pn1 : plainName "com/example/aspen/aspen/IntList" = true := by first | (simp [plainName, overriddenIn]; done) | decide +kernel
theorem pd1 : parseMethodDescriptor "([II)[I" = some ⟨[(.array .int), .int], some (.array .int)⟩ := by decide +kernel
theorem pn2 : plainName "com/example/aspen/aspen/IntListRemovePinLaw" = true := by first | (simp [plainName, overriddenIn]; done) | decide +kernel
theorem pd2 : parseMethodDescriptor "()V" = some ⟨[], none⟩ := by decide +kernel
theorem pd3 : parseMethodDescriptor "(I)V" = some ⟨[.int], none⟩ := by decide +kernel
theorem d_max_0 : decode jdk_29_method_65_code 0 = .ok (.iload_n 0, 1) := by decide +kernel
theorem d_max_1 : decode jdk_29_method_65_code 1 = .ok (.iload_n 1, 1) := by decide +kernel
theorem d_max_2 : decode jdk_29_method_65_code 2 = .ok (.if_icmp .lt 7, 3) := by decide +kernel
theorem d_max_5 : decode jdk_29_method_65_code 5 = .ok (.iload_n 0, 1) := by decide +kernel
theorem d_max_6 : decode jdk_29_method_65_code 6 = .ok (.goto 4, 3) := by decide +kernel
theorem d_max_10 : decode jdk_29_method_65_code 10 = .ok (.ireturn, 1) := by decide +kernel
def Q_max (Z : State)  (h0 : Heap) (n0 : Nat) (v : Option Value) (h : Heap) (L : List Loc) : Prop := v = some (.int (4 : Int32)) ∧ Fr n0 L ∧ h = h0
set_option maxRecDepth 65536 in
set_option maxHeartbeats 40000000 in
theorem rm_max (l : Launch) (Z : State) (a0 : Array Value) (hw : ∀ d ∈ tables_1, d.before a0 Z = true) (ws : List Jvm.Cond)  (h0 : Heap) (n0 : Nat) (Z0 : n0 ≤ h0.size) :
    MetFree l (⟨"java/lang/Math", "max", "(II)I"⟩ : MethodName) (head1 (Jvm.Cond.code (⟨"java/lang/Math", "max", "(II)I"⟩ : MethodName) jdk_29_method_65_code 2 (some .int) :: ws) ({ frames := 0, cells := 0, slots := 0, locals := 0 } : Room)) (fun aa_ U => aa_ = #[(.int (4 : Int32)), (.int (0 : Int32))] ∧ Z.Warmed39 U.vm ∧ U.heap = h0) (fun _ _ _ _ _ => True) (fun _ UU_ oo_ UV_ => ∃ vv_ LL_, oo_ = .returned vv_ ∧ (Q_max Z  h0 n0) vv_ UV_.heap LL_ ∧ FrameEnd UU_ oo_ UV_ LL_ ({ frames := 0, cells := 0, slots := 0, locals := 0 } : Room).cells ({ frames := 0, cells := 0, slots := 0, locals := 0 } : Room).slots) := by
  refine MetFree.of_bodySF (Jvm.Free.JP.mathPlain rfl (by decide +kernel)) hisR ?_
  intro p e s m args below meth c s₁ Bd hml0 hP hK
  obtain ⟨rfl, hZ, hh⟩ := hP
  have hx := Bd.exec
  have hby := Bd.bytes
  have hlk : meth.locks = false := BodyLoose.notSynchronized Bd
  have hret := Bd.returns
  have hml : c.maxLocals = 2 := hml0
  have hown : s.vm.findClass "java/lang/Math" = some m.cls := findClass_of_methodNamed Bd.named
  have hnm := (name_of_methodNamed Bd.named Bd.method).1
  have X0 : Stand p l e ({ frames := 0, cells := 0, slots := 0, locals := 0 } : Room) s m #[(.int (4 : Int32)), (.int (0 : Int32))] below meth c s₁ [] 0 0 := Stand.of_body Bd
  have e0 : s₁.heap = h0 := by rw [← hh, Bd.state]; rfl
  have N0 := Fr.nil n0
  show Go p e below s ({ frames := 0, cells := 0, slots := 0, locals := 0 } : Room).cells ({ frames := 0, cells := 0, slots := 0, locals := 0 } : Room).slots (Q_max Z  h0 n0) s₁ (entryFrame m #[(.int (4 : Int32)), (.int (0 : Int32))] 2)
  refine own_cast (g' := mkF m 0 #[.val (.int (4 : Int32)), .val (.int (0 : Int32))] []) (by first | (simp [entryFrame, mkF, argsToLocals, Value.category]; done) | rfl) ?_
  show Go _ _ _ _ _ _ _ _ (mkF m 0 #[.val (.int (4 : Int32)), .val (.int (0 : Int32))] [])
  refine own_via ?_ fun _ kt => XS.iloadN X0.here hx rfl (hb hby d_max_0) rfl kt
  show Go _ _ _ _ _ _ _ _ (mkF m 1 #[.val (.int (4 : Int32)), .val (.int (0 : Int32))] [(.int (4 : Int32))])
  refine own_via ?_ fun _ kt => XS.iloadN X0.here hx rfl (hb hby d_max_1) rfl kt
  show Go _ _ _ _ _ _ _ _ (mkF m 2 #[.val (.int (4 : Int32)), .val (.int (0 : Int32))] [(.int (0 : Int32)), (.int (4 : Int32))])
  refine own_via ?_ fun _ kt => XS.icmpNo X0.here hx rfl (hb hby d_max_2) rfl (flt (by decide : ¬ ((4 : Int32) < (0 : Int32)))).1 kt
  show Go _ _ _ _ _ _ _ _ (mkF m 5 #[.val (.int (4 : Int32)), .val (.int (0 : Int32))] [])
  refine own_via ?_ fun _ kt => XS.iloadN X0.here hx rfl (hb hby d_max_5) rfl kt
  show Go _ _ _ _ _ _ _ _ (mkF m 6 #[.val (.int (4 : Int32)), .val (.int (0 : Int32))] [(.int (4 : Int32))])
  refine own_via ?_ fun _ kt => XS.goto X0.here hx rfl (pc0 := 6) (pc' := 10) rfl (hb hby d_max_6) (by decide) (by decide) kt
  show Go _ _ _ _ _ _ _ _ (mkF m 10 #[.val (.int (4 : Int32)), .val (.int (0 : Int32))] [(.int (4 : Int32))])
  exact own_retI X0 hx hret hlk (hb hby d_max_10) (by decide) (by decide) (by rw [e0]; exact ⟨rfl, N0, rfl⟩)
theorem d_min_0 : decode jdk_29_method_69_code 0 = .ok (.iload_n 0, 1) := by decide +kernel
theorem d_min_1 : decode jdk_29_method_69_code 1 = .ok (.iload_n 1, 1) := by decide +kernel
theorem d_min_2 : decode jdk_29_method_69_code 2 = .ok (.if_icmp .gt 7, 3) := by decide +kernel
theorem d_min_5 : decode jdk_29_method_69_code 5 = .ok (.iload_n 0, 1) := by decide +kernel
theorem d_min_6 : decode jdk_29_method_69_code 6 = .ok (.goto 4, 3) := by decide +kernel
theorem d_min_10 : decode jdk_29_method_69_code 10 = .ok (.ireturn, 1) := by decide +kernel
def Q_min (Z : State)  (h0 : Heap) (n0 : Nat) (v : Option Value) (h : Heap) (L : List Loc) : Prop := v = some (.int (0 : Int32)) ∧ Fr n0 L ∧ h = h0
set_option maxRecDepth 65536 in
set_option maxHeartbeats 40000000 in
theorem rm_min (l : Launch) (Z : State) (a0 : Array Value) (hw : ∀ d ∈ tables_1, d.before a0 Z = true) (ws : List Jvm.Cond)  (h0 : Heap) (n0 : Nat) (Z0 : n0 ≤ h0.size) :
    MetFree l (⟨"java/lang/Math", "min", "(II)I"⟩ : MethodName) (head1 (Jvm.Cond.code (⟨"java/lang/Math", "min", "(II)I"⟩ : MethodName) jdk_29_method_69_code 2 (some .int) :: ws) ({ frames := 0, cells := 0, slots := 0, locals := 0 } : Room)) (fun aa_ U => aa_ = #[(.int (0 : Int32)), (.int (4 : Int32))] ∧ Z.Warmed39 U.vm ∧ U.heap = h0) (fun _ _ _ _ _ => True) (fun _ UU_ oo_ UV_ => ∃ vv_ LL_, oo_ = .returned vv_ ∧ (Q_min Z  h0 n0) vv_ UV_.heap LL_ ∧ FrameEnd UU_ oo_ UV_ LL_ ({ frames := 0, cells := 0, slots := 0, locals := 0 } : Room).cells ({ frames := 0, cells := 0, slots := 0, locals := 0 } : Room).slots) := by
  refine MetFree.of_bodySF (Jvm.Free.JP.mathPlain rfl (by decide +kernel)) hisR ?_
  intro p e s m args below meth c s₁ Bd hml0 hP hK
  obtain ⟨rfl, hZ, hh⟩ := hP
  have hx := Bd.exec
  have hby := Bd.bytes
  have hlk : meth.locks = false := BodyLoose.notSynchronized Bd
  have hret := Bd.returns
  have hml : c.maxLocals = 2 := hml0
  have hown : s.vm.findClass "java/lang/Math" = some m.cls := findClass_of_methodNamed Bd.named
  have hnm := (name_of_methodNamed Bd.named Bd.method).1
  have X0 : Stand p l e ({ frames := 0, cells := 0, slots := 0, locals := 0 } : Room) s m #[(.int (0 : Int32)), (.int (4 : Int32))] below meth c s₁ [] 0 0 := Stand.of_body Bd
  have e0 : s₁.heap = h0 := by rw [← hh, Bd.state]; rfl
  have N0 := Fr.nil n0
  show Go p e below s ({ frames := 0, cells := 0, slots := 0, locals := 0 } : Room).cells ({ frames := 0, cells := 0, slots := 0, locals := 0 } : Room).slots (Q_min Z  h0 n0) s₁ (entryFrame m #[(.int (0 : Int32)), (.int (4 : Int32))] 2)
  refine own_cast (g' := mkF m 0 #[.val (.int (0 : Int32)), .val (.int (4 : Int32))] []) (by first | (simp [entryFrame, mkF, argsToLocals, Value.category]; done) | rfl) ?_
  show Go _ _ _ _ _ _ _ _ (mkF m 0 #[.val (.int (0 : Int32)), .val (.int (4 : Int32))] [])
  refine own_via ?_ fun _ kt => XS.iloadN X0.here hx rfl (hb hby d_min_0) rfl kt
  show Go _ _ _ _ _ _ _ _ (mkF m 1 #[.val (.int (0 : Int32)), .val (.int (4 : Int32))] [(.int (0 : Int32))])
  refine own_via ?_ fun _ kt => XS.iloadN X0.here hx rfl (hb hby d_min_1) rfl kt
  show Go _ _ _ _ _ _ _ _ (mkF m 2 #[.val (.int (0 : Int32)), .val (.int (4 : Int32))] [(.int (4 : Int32)), (.int (0 : Int32))])
  refine own_via ?_ fun _ kt => XS.icmpNo X0.here hx rfl (hb hby d_min_2) rfl (flt (by decide : ¬ ((4 : Int32) < (0 : Int32)))).2.2.1 kt
  show Go _ _ _ _ _ _ _ _ (mkF m 5 #[.val (.int (0 : Int32)), .val (.int (4 : Int32))] [])
  refine own_via ?_ fun _ kt => XS.iloadN X0.here hx rfl (hb hby d_min_5) rfl kt
  show Go _ _ _ _ _ _ _ _ (mkF m 6 #[.val (.int (0 : Int32)), .val (.int (4 : Int32))] [(.int (0 : Int32))])
  refine own_via ?_ fun _ kt => XS.goto X0.here hx rfl (pc0 := 6) (pc' := 10) rfl (hb hby d_min_6) (by decide) (by decide) kt
  show Go _ _ _ _ _ _ _ _ (mkF m 10 #[.val (.int (0 : Int32)), .val (.int (4 : Int32))] [(.int (0 : Int32))])
  exact own_retI X0 hx hret hlk (hb hby d_min_10) (by decide) (by decide) (by rw [e0]; exact ⟨rfl, N0, rfl⟩)
theorem d_copy_0 : decode jdk_65_method_123_code 0 = .ok (.iload_n 1, 1) := by decide +kernel
theorem d_copy_1 : decode jdk_65_method_123_code 1 = .ok (.aload_n 0, 1) := by decide +kernel
theorem d_copy_2 : decode jdk_65_method_123_code 2 = .ok (.arraylength, 1) := by decide +kernel
theorem d_copy_3 : decode jdk_65_method_123_code 3 = .ok (.if_icmp .ne 11, 3) := by decide +kernel
theorem d_copy_14 : decode jdk_65_method_123_code 14 = .ok (.iload_n 1, 1) := by decide +kernel
theorem d_copy_15 : decode jdk_65_method_123_code 15 = .ok (.newarray .int, 2) := by decide +kernel
theorem d_copy_17 : decode jdk_65_method_123_code 17 = .ok (.astore_n 2, 1) := by decide +kernel
theorem d_copy_18 : decode jdk_65_method_123_code 18 = .ok (.aload_n 0, 1) := by decide +kernel
theorem d_copy_19 : decode jdk_65_method_123_code 19 = .ok (.iconst 0, 1) := by decide +kernel
theorem d_copy_20 : decode jdk_65_method_123_code 20 = .ok (.aload_n 2, 1) := by decide +kernel
theorem d_copy_21 : decode jdk_65_method_123_code 21 = .ok (.iconst 0, 1) := by decide +kernel
theorem d_copy_22 : decode jdk_65_method_123_code 22 = .ok (.aload_n 0, 1) := by decide +kernel
theorem d_copy_23 : decode jdk_65_method_123_code 23 = .ok (.arraylength, 1) := by decide +kernel
theorem d_copy_24 : decode jdk_65_method_123_code 24 = .ok (.iload_n 1, 1) := by decide +kernel
theorem d_copy_25 : decode jdk_65_method_123_code 25 = .ok (.invokestatic 304, 3) := by decide +kernel
theorem d_copy_28 : decode jdk_65_method_123_code 28 = .ok (.invokestatic 150, 3) := by decide +kernel
theorem d_copy_31 : decode jdk_65_method_123_code 31 = .ok (.aload_n 2, 1) := by decide +kernel
theorem d_copy_32 : decode jdk_65_method_123_code 32 = .ok (.areturn, 1) := by decide +kernel
def Q_copy (Z : State) (a : Addr) (ka : ClassId) (h0 : Heap) (n0 : Nat) (v : Option Value) (h : Heap) (L : List Loc) : Prop := ∃ b k, v = some (.ref b) ∧ h0.size ≤ b ∧ Arv Z h b k .int (4 : Int32) [(.int (0 : Int32)), (.int (0 : Int32)), (.int (0 : Int32)), (.int (0 : Int32))] (.int (0 : Int32)) ∧ Fr n0 L ∧ Keep h0 h []
set_option maxRecDepth 65536 in
set_option maxHeartbeats 40000000 in
theorem rm_copy (l : Launch) (Z : State) (a0 : Array Value) (hw : ∀ d ∈ tables_1, d.before a0 Z = true) (ws : List Jvm.Cond) (a : Addr) (ka : ClassId) (h0 : Heap) (n0 : Nat) (Z0 : n0 ≤ h0.size) (Va : Arv Z h0 a ka .int (0 : Int32) [] (.int (0 : Int32))) :
    MetFree l (⟨"java/util/Arrays", "copyOf", "([II)[I"⟩ : MethodName) (head1 (Jvm.Cond.code (⟨"java/util/Arrays", "copyOf", "([II)[I"⟩ : MethodName) jdk_65_method_123_code 3 (some (.array .int)) :: ws) ({ frames := 1, cells := 1, slots := 4, locals := 31 } : Room)) (fun aa_ U => aa_ = #[(.ref a), (.int (4 : Int32))] ∧ Z.Warmed39 U.vm ∧ U.heap = h0) (fun _ _ _ _ _ => True) (fun _ UU_ oo_ UV_ => ∃ vv_ LL_, oo_ = .returned vv_ ∧ (Q_copy Z a ka h0 n0) vv_ UV_.heap LL_ ∧ FrameEnd UU_ oo_ UV_ LL_ ({ frames := 1, cells := 1, slots := 4, locals := 31 } : Room).cells ({ frames := 1, cells := 1, slots := 4, locals := 31 } : Room).slots) := by
  refine MetFree.of_bodySF (plainFor_of_name pn0) hisR ?_
  intro p e s m args below meth c s₁ Bd hml0 hP hK
  obtain ⟨rfl, hZ, hh⟩ := hP
  have hx := Bd.exec
  have hby := Bd.bytes
  have hlk : meth.locks = false := BodyLoose.notSynchronized Bd
  have hret := Bd.returns
  have hml : c.maxLocals = 3 := hml0
  have hown : s.vm.findClass "java/util/Arrays" = some m.cls := findClass_of_methodNamed Bd.named
  have hnm := (name_of_methodNamed Bd.named Bd.method).1
  have X0 : Stand p l e ({ frames := 1, cells := 1, slots := 4, locals := 31 } : Room) s m #[(.ref a), (.int (4 : Int32))] below meth c s₁ [] 0 0 := Stand.of_body Bd
  have e0 : s₁.heap = h0 := by rw [← hh, Bd.state]; rfl
  have N0 := Fr.nil n0
  show Go p e below s ({ frames := 1, cells := 1, slots := 4, locals := 31 } : Room).cells ({ frames := 1, cells := 1, slots := 4, locals := 31 } : Room).slots (Q_copy Z a ka h0 n0) s₁ (entryFrame m #[(.ref a), (.int (4 : Int32))] 3)
  refine own_cast (g' := mkF m 0 #[.val (.ref a), .val (.int (4 : Int32)), .unset] []) (by first | (simp [entryFrame, mkF, argsToLocals, Value.category]; done) | rfl) ?_
  have K0 := Keep.refl h0 ([] : List Addr)
  show Go _ _ _ _ _ _ _ _ (mkF m 0 #[.val (.ref a), .val (.int (4 : Int32)), .unset] [])
  refine own_via ?_ fun _ kt => XS.iloadN X0.here hx rfl (hb hby d_copy_0) rfl kt
  show Go _ _ _ _ _ _ _ _ (mkF m 1 #[.val (.ref a), .val (.int (4 : Int32)), .unset] [(.int (4 : Int32))])
  refine own_via ?_ fun _ kt => XS.aloadN X0.here hx rfl (hb hby d_copy_1) rfl rfl kt
  show Go _ _ _ _ _ _ _ _ (mkF m 2 #[.val (.ref a), .val (.int (4 : Int32)), .unset] [(.ref a), (.int (4 : Int32))])
  obtain ⟨cl1, Ar1, Aq1, AS1, AN1, AH1, AG1⟩ := Va
  have Va : Arv Z h0 a ka .int (0 : Int32) [] (.int (0 : Int32)) := ⟨cl1, Ar1, Aq1, AS1, AN1, AH1, AG1⟩
  refine own_via ?_ fun _ kt => X0.arraylength hx (by rw [e0]; exact Ar1.1) (State.isArrayOf_alike hZ.alike Ar1.2.1) (g := (mkF m 2 #[.val (.ref a), .val (.int (4 : Int32)), .unset] [(.ref a), (.int (4 : Int32))])) rfl rfl (hb hby d_copy_2) _ kt
  rw [len_of AS1 AN1]
  show Go _ _ _ _ _ _ _ _ (mkF m 3 #[.val (.ref a), .val (.int (4 : Int32)), .unset] [(.int (0 : Int32)), (.int (4 : Int32))])
  refine own_via ?_ fun _ kt => XS.icmpYes X0.here hx rfl (pc0 := 3) (pc' := 14) rfl (hb hby d_copy_3) rfl (feq (by decide : ¬ ((4 : Int32) = (0 : Int32)))).2 (by decide) (by decide) kt
  show Go _ _ _ _ _ _ _ _ (mkF m 14 #[.val (.ref a), .val (.int (4 : Int32)), .unset] [])
  refine own_via ?_ fun _ kt => XS.iloadN X0.here hx rfl (hb hby d_copy_14) rfl kt
  show Go _ _ _ _ _ _ _ _ (mkF m 15 #[.val (.ref a), .val (.int (4 : Int32)), .unset] [(.int (4 : Int32))])
  obtain ⟨T2, h2, k2, X2, e2, E2, A2, st2⟩ := newP X0 hx hZ (hw _ (List.mem_of_getElem? (i := 20) rfl)) e0 (g := (mkF m 15 #[.val (.ref a), .val (.int (4 : Int32)), .unset] [(.int (4 : Int32))])) rfl (hb hby d_copy_15) rfl (by decide) (cap := 4) (by decide) (by decide) (by decide) (by decide)
  obtain ⟨b2, g2⟩ : ∃ z, z = h0.size := ⟨_, rfl⟩
  rw [← g2] at A2 st2
  have ne3 : a ≠ b2 := by rw [g2]; exact Nat.ne_of_lt Va.lt
  have g_b2 : n0 ≤ b2 := by rw [g2]; exact Z0
  have sz_b2 : h0.size ≤ b2 := by rw [g2]; exact K0.1
  replace Va := Va.ext E2
  replace Z0 := Nat.le_trans Z0 E2.1
  replace K0 := K0.ext E2
  have V2 : Arv Z h2 b2 k2 .int (4 : Int32) [(.int (0 : Int32)), (.int (0 : Int32)), (.int (0 : Int32)), (.int (0 : Int32))] (.int (0 : Int32)) := (Arv.new A2 (by decide)).pad (pad_rep [] (.int (0 : Int32)) 4)
  refine own_via ?_ st2
  show Go _ _ _ _ _ _ _ _ (mkF m 17 #[.val (.ref a), .val (.int (4 : Int32)), .unset] [(.ref b2)])
  refine own_via ?_ fun _ kt => XS.astoreN X2.here hx rfl (hb hby d_copy_17) rfl rfl (l' := #[.val (.ref a), .val (.int (4 : Int32)), .val (.ref b2)]) rfl kt
  show Go _ _ _ _ _ _ _ _ (mkF m 18 #[.val (.ref a), .val (.int (4 : Int32)), .val (.ref b2)] [])
  refine own_via ?_ fun _ kt => XS.aloadN X2.here hx rfl (hb hby d_copy_18) rfl rfl kt
  show Go _ _ _ _ _ _ _ _ (mkF m 19 #[.val (.ref a), .val (.int (4 : Int32)), .val (.ref b2)] [(.ref a)])
  refine own_via ?_ fun _ kt => XS.iconst X2.here hx rfl (hb hby d_copy_19) kt
  show Go _ _ _ _ _ _ _ _ (mkF m 20 #[.val (.ref a), .val (.int (4 : Int32)), .val (.ref b2)] [(.int (0 : Int32)), (.ref a)])
  refine own_via ?_ fun _ kt => XS.aloadN X2.here hx rfl (hb hby d_copy_20) rfl rfl kt
  show Go _ _ _ _ _ _ _ _ (mkF m 21 #[.val (.ref a), .val (.int (4 : Int32)), .val (.ref b2)] [(.ref b2), (.int (0 : Int32)), (.ref a)])
  refine own_via ?_ fun _ kt => XS.iconst X2.here hx rfl (hb hby d_copy_21) kt
  show Go _ _ _ _ _ _ _ _ (mkF m 22 #[.val (.ref a), .val (.int (4 : Int32)), .val (.ref b2)] [(.int (0 : Int32)), (.ref b2), (.int (0 : Int32)), (.ref a)])
  refine own_via ?_ fun _ kt => XS.aloadN X2.here hx rfl (hb hby d_copy_22) rfl rfl kt
  show Go _ _ _ _ _ _ _ _ (mkF m 23 #[.val (.ref a), .val (.int (4 : Int32)), .val (.ref b2)] [(.ref a), (.int (0 : Int32)), (.ref b2), (.int (0 : Int32)), (.ref a)])
  obtain ⟨cl4, Ar4, Aq4, AS4, AN4, AH4, AG4⟩ := Va
  have Va : Arv Z h2 a ka .int (0 : Int32) [] (.int (0 : Int32)) := ⟨cl4, Ar4, Aq4, AS4, AN4, AH4, AG4⟩
  refine own_via ?_ fun _ kt => X2.arraylength hx (by rw [e2]; exact Ar4.1) (State.isArrayOf_alike hZ.alike Ar4.2.1) (g := (mkF m 23 #[.val (.ref a), .val (.int (4 : Int32)), .val (.ref b2)] [(.ref a), (.int (0 : Int32)), (.ref b2), (.int (0 : Int32)), (.ref a)])) rfl rfl (hb hby d_copy_23) _ kt
  rw [len_of AS4 AN4]
  show Go _ _ _ _ _ _ _ _ (mkF m 24 #[.val (.ref a), .val (.int (4 : Int32)), .val (.ref b2)] [(.int (0 : Int32)), (.int (0 : Int32)), (.ref b2), (.int (0 : Int32)), (.ref a)])
  refine own_via ?_ fun _ kt => XS.iloadN X2.here hx rfl (hb hby d_copy_24) rfl kt
  show Go _ _ _ _ _ _ _ _ (mkF m 25 #[.val (.ref a), .val (.int (4 : Int32)), .val (.ref b2)] [(.int (4 : Int32)), (.int (0 : Int32)), (.int (0 : Int32)), (.ref b2), (.int (0 : Int32)), (.ref a)])
  obtain ⟨_, _, ⟨T5, L5, k5, n5⟩, -, X5, ⟨Lc5, hQ5, l5, y5, z5⟩, st5⟩ := Jvm.LawKit.callS X2 hx (y := (⟨"java/lang/Math", "min", "(II)I"⟩ : MethodName)) hown (mvT hZ (hw _ (List.mem_of_getElem? (i := 36) rfl))) (mvT hZ (hw _ (List.mem_of_getElem? (i := 37) rfl))) (mvT hZ (hw _ (List.mem_of_getElem? (i := 30) rfl))) (mvT hZ (hw _ (List.mem_of_getElem? (i := 38) rfl))) (by decide) (backOf (W := 4) (rm_min l Z a0 hw []  h2 n0 Z0) hZ (hw _ (List.mem_of_getElem? (i := 38) rfl)) (hw _ (List.mem_of_getElem? (i := 30) rfl)) (by decide) (by decide)) (g := (mkF m 25 #[.val (.ref a), .val (.int (4 : Int32)), .val (.ref b2)] [(.int (4 : Int32)), (.int (0 : Int32)), (.int (0 : Int32)), (.ref b2), (.int (0 : Int32)), (.ref a)])) rfl (by rw [hml]; rfl) (argsL := [(.int (0 : Int32)), (.int (4 : Int32))]) (rest := [(.int (0 : Int32)), (.ref b2), (.int (0 : Int32)), (.ref a)]) (lenOf pd0 rfl) rfl (by show 2 * 0 + _ ≤ _; exact Nat.le_of_eq rfl) (hb hby d_copy_25) (fun _ _ => ⟨rfl, e2, (by decide : 1 + 0 ≤ _), (by decide : 4 + 0 ≤ _)⟩)
  dsimp only [Pt.U, Pt.locs, Pt.cells, Pt.slots] at X5 l5 y5 z5 st5 hQ5
  subst l5 y5 z5
  obtain ⟨rfl, Nq5, e5⟩ := hQ5
  have N5 := Fr.app N0 Nq5
  refine own_via ?_ st5
  show Go _ _ _ _ _ _ _ _ (mkF m 28 #[.val (.ref a), .val (.int (4 : Int32)), .val (.ref b2)] [(.int (0 : Int32)), (.int (0 : Int32)), (.ref b2), (.int (0 : Int32)), (.ref a)])
  obtain ⟨T6, h6, L6, X6, e6, N6, Kc6, V6, st6⟩ := cpA X5 hx hZ hown (hw _ (List.mem_of_getElem? (i := 39) rfl)) (hw _ (List.mem_of_getElem? (i := 42) rfl)) (hw _ (List.mem_of_getElem? (i := 40) rfl)) (hw _ (List.mem_of_getElem? (i := 41) rfl)) e5 Va V2 (us := []) (Or.inl ⟨rfl, rfl⟩) (sp := (0 : Int32)) (dp := (0 : Int32)) (nn := (0 : Int32)) (by decide) (by decide) (by decide) (by decide) (by decide) rfl (by decide) N5 g_b2 (g := (mkF m 28 #[.val (.ref a), .val (.int (4 : Int32)), .val (.ref b2)] [(.int (0 : Int32)), (.int (0 : Int32)), (.ref b2), (.int (0 : Int32)), (.ref a)])) rfl (by rw [hml]; rfl) rfl (hb hby d_copy_28) (by decide) (W := 0) (by show 2 * 0 + _ ≤ _; exact Nat.le_of_eq rfl) (by decide)
  have V6 : Arv Z h6 b2 k2 .int (4 : Int32) [(.int (0 : Int32)), (.int (0 : Int32)), (.int (0 : Int32)), (.int (0 : Int32))] (.int (0 : Int32)) := V6
  replace K0 := K0.trans Kc6 (allS (Or.inr sz_b2) all0)
  refine own_via ?_ st6
  show Go _ _ _ _ _ _ _ _ (mkF m 31 #[.val (.ref a), .val (.int (4 : Int32)), .val (.ref b2)] [])
  refine own_via ?_ fun _ kt => XS.aloadN X6.here hx rfl (hb hby d_copy_31) rfl rfl kt
  show Go _ _ _ _ _ _ _ _ (mkF m 32 #[.val (.ref a), .val (.int (4 : Int32)), .val (.ref b2)] [(.ref b2)])
  exact own_retR X6 hx hret hlk rfl rfl (hb hby d_copy_32) (by decide) (by decide) (by rw [e6]; exact ⟨b2, k2, rfl, sz_b2, V6, N6, K0⟩)
theorem d_init_0 : decode prog_41_method_1_code 0 = .ok (.aload_n 0, 1) := by decide +kernel
theorem d_init_1 : decode prog_41_method_1_code 1 = .ok (.invokespecial 1, 3) := by decide +kernel
theorem d_init_4 : decode prog_41_method_1_code 4 = .ok (.aload_n 0, 1) := by decide +kernel
theorem d_init_5 : decode prog_41_method_1_code 5 = .ok (.getstatic 7, 3) := by decide +kernel
theorem d_init_8 : decode prog_41_method_1_code 8 = .ok (.putfield 13, 3) := by decide +kernel
theorem d_init_11 : decode prog_41_method_1_code 11 = .ok (.return_, 1) := by decide +kernel
def Q_init (Z : State) (a aN : Addr) (h0 : Heap) (n0 : Nat) (v : Option Value) (h : Heap) (L : List Loc) : Prop := v = none ∧ Fr n0 L ∧ Keep h0 h [a] ∧ Exa Z h a "com/example/aspen/aspen/IntList" ∧ Fld Z h a "com/example/aspen/aspen/IntList" "size" "I" (.int (0 : Int32)) ∧ Fld Z h a "com/example/aspen/aspen/IntList" "items" "[I" (.ref aN)
set_option maxRecDepth 65536 in
set_option maxHeartbeats 40000000 in
theorem rm_init (l : Launch) (Z : State) (a0 : Array Value) (hw : ∀ d ∈ tables_1, d.before a0 Z = true) (ws : List Jvm.Cond) (a aN : Addr) (h0 : Heap) (n0 : Nat) (Z0 : n0 ≤ h0.size) (O : Old Z n0 h0) (S : Sta Z Z.heap "com/example/aspen/aspen/IntList" "NONE" "[I" (.ref aN)) (g_a : n0 ≤ a) (E : Exa Z h0 a "com/example/aspen/aspen/IntList") (Fs : Fld Z h0 a "com/example/aspen/aspen/IntList" "size" "I" (.int (0 : Int32))) (Fi : Fld Z h0 a "com/example/aspen/aspen/IntList" "items" "[I" .null) :
    MetFree l (⟨"com/example/aspen/aspen/IntList", "<init>", "()V"⟩ : MethodName) (head1 (Jvm.Cond.code (⟨"com/example/aspen/aspen/IntList", "<init>", "()V"⟩ : MethodName) prog_41_method_1_code 1 none :: ws) ({ frames := 1, cells := 0, slots := 0, locals := 12 } : Room)) (fun aa_ U => aa_ = #[(.ref a)] ∧ Z.Warmed39 U.vm ∧ U.heap = h0) (fun _ _ _ _ _ => True) (fun _ UU_ oo_ UV_ => ∃ vv_ LL_, oo_ = .returned vv_ ∧ (Q_init Z a aN h0 n0) vv_ UV_.heap LL_ ∧ FrameEnd UU_ oo_ UV_ LL_ ({ frames := 1, cells := 0, slots := 0, locals := 12 } : Room).cells ({ frames := 1, cells := 0, slots := 0, locals := 12 } : Room).slots) := by
  refine MetFree.of_bodySF (plainFor_of_name pn1) hisR ?_
  intro p e s m args below meth c s₁ Bd hml0 hP hK
  obtain ⟨rfl, hZ, hh⟩ := hP
  have hx := Bd.exec
  have hby := Bd.bytes
  have hlk : meth.locks = false := BodyLoose.notSynchronized Bd
  have hret := Bd.returns
  have hml : c.maxLocals = 1 := hml0
  have hown : s.vm.findClass "com/example/aspen/aspen/IntList" = some m.cls := findClass_of_methodNamed Bd.named
  have hnm := (name_of_methodNamed Bd.named Bd.method).1
  have X0 : Stand p l e ({ frames := 1, cells := 0, slots := 0, locals := 12 } : Room) s m #[(.ref a)] below meth c s₁ [] 0 0 := Stand.of_body Bd
  have e0 : s₁.heap = h0 := by rw [← hh, Bd.state]; rfl
  have N0 := Fr.nil n0
  show Go p e below s ({ frames := 1, cells := 0, slots := 0, locals := 12 } : Room).cells ({ frames := 1, cells := 0, slots := 0, locals := 12 } : Room).slots (Q_init Z a aN h0 n0) s₁ (entryFrame m #[(.ref a)] 1)
  refine own_cast (g' := mkF m 0 #[.val (.ref a)] []) (by first | (simp [entryFrame, mkF, argsToLocals, Value.category]; done) | rfl) ?_
  have K0 := Keep.refl h0 ([a] : List Addr)
  show Go _ _ _ _ _ _ _ _ (mkF m 0 #[.val (.ref a)] [])
  refine own_via ?_ fun _ kt => XS.aloadN X0.here hx rfl (hb hby d_init_0) rfl rfl kt
  show Go _ _ _ _ _ _ _ _ (mkF m 1 #[.val (.ref a)] [(.ref a)])
  obtain ⟨T1, X1, e1, st1⟩ := initO X0 hx hZ hown (hw _ (List.mem_of_getElem? (i := 6) rfl)) (hw _ (List.mem_of_getElem? (i := 7) rfl)) (hw _ (List.mem_of_getElem? (i := 8) rfl)) e0 (g := (mkF m 1 #[.val (.ref a)] [(.ref a)])) rfl (by rw [hml]; rfl) rfl (hb hby d_init_1) (by decide) (W := 0) (by show 2 * 0 + _ ≤ _; exact Nat.le_of_eq rfl) (by decide)
  refine own_via ?_ st1
  show Go _ _ _ _ _ _ _ _ (mkF m 4 #[.val (.ref a)] [])
  refine own_via ?_ fun _ kt => XS.aloadN X1.here hx rfl (hb hby d_init_4) rfl rfl kt
  show Go _ _ _ _ _ _ _ _ (mkF m 5 #[.val (.ref a)] [(.ref a)])
  obtain ⟨T2, X2, e2, st2⟩ := getS2 X1 hx hZ hown (host := "") (Or.inl (hw _ (List.mem_of_getElem? (i := 9) rfl))) Via.refl e1 (S.ext O.2) (g := (mkF m 5 #[.val (.ref a)] [(.ref a)])) rfl (hb hby d_init_5)
  refine own_via ?_ st2
  show Go _ _ _ _ _ _ _ _ (mkF m 8 #[.val (.ref a)] [(.ref aN), (.ref a)])
  obtain ⟨T3, h3, X3, e3, W3, st3⟩ := putF X2 hx hZ hown (host := "") (Or.inl (hw _ (List.mem_of_getElem? (i := 11) rfl))) Via.refl e2 Fi E (Or.inl (hw _ (List.mem_of_getElem? (i := 12) rfl))) (hw _ (List.mem_of_getElem? (i := 1) rfl)) (ty := (.array .int)) (by decide) rfl rfl (g := (mkF m 8 #[.val (.ref a)] [(.ref aN), (.ref a)])) rfl rfl (hb hby d_init_8)
  have N3 := Fr.snoc X3 N0 g_a
  replace E := E.wr W3
  replace Fs := Fs.other W3 (Or.inr (slot_ne (Or.inl (hw _ (List.mem_of_getElem? (i := 19) rfl))) (Or.inl (hw _ (List.mem_of_getElem? (i := 12) rfl))) (by decide) (t := .int) (t' := (.array .int)) (by decide) (by decide)))
  replace Fi := Fi.same W3
  replace Z0 := Nat.le_trans Z0 (Keep.of_wr W3).1
  replace K0 := K0.wr W3 (Or.inl (List.mem_of_getElem? (i := 0) rfl))
  replace O := O.wr W3 g_a
  refine own_via ?_ st3
  show Go _ _ _ _ _ _ _ _ (mkF m 11 #[.val (.ref a)] [])
  exact own_retV X3 hx hret hlk (hb hby d_init_11) (by decide) (by decide) (by rw [e3]; exact ⟨rfl, N3, K0, E, Fs, Fi⟩)
theorem d_add0_0 : decode prog_41_method_2_code 0 = .ok (.aload_n 0, 1) := by decide +kernel
theorem d_add0_1 : decode prog_41_method_2_code 1 = .ok (.getfield 16, 3) := by decide +kernel
theorem d_add0_4 : decode prog_41_method_2_code 4 = .ok (.aload_n 0, 1) := by decide +kernel
theorem d_add0_5 : decode prog_41_method_2_code 5 = .ok (.getfield 13, 3) := by decide +kernel
theorem d_add0_8 : decode prog_41_method_2_code 8 = .ok (.arraylength, 1) := by decide +kernel
theorem d_add0_9 : decode prog_41_method_2_code 9 = .ok (.if_icmp .ne 24, 3) := by decide +kernel
theorem d_add0_12 : decode prog_41_method_2_code 12 = .ok (.aload_n 0, 1) := by decide +kernel
theorem d_add0_13 : decode prog_41_method_2_code 13 = .ok (.aload_n 0, 1) := by decide +kernel
theorem d_add0_14 : decode prog_41_method_2_code 14 = .ok (.getfield 13, 3) := by decide +kernel
theorem d_add0_17 : decode prog_41_method_2_code 17 = .ok (.iconst 4, 1) := by decide +kernel
theorem d_add0_18 : decode prog_41_method_2_code 18 = .ok (.iconst 2, 1) := by decide +kernel
theorem d_add0_19 : decode prog_41_method_2_code 19 = .ok (.aload_n 0, 1) := by decide +kernel
theorem d_add0_20 : decode prog_41_method_2_code 20 = .ok (.getfield 16, 3) := by decide +kernel
theorem d_add0_23 : decode prog_41_method_2_code 23 = .ok (.imul, 1) := by decide +kernel
theorem d_add0_24 : decode prog_41_method_2_code 24 = .ok (.invokestatic 20, 3) := by decide +kernel
theorem d_add0_27 : decode prog_41_method_2_code 27 = .ok (.invokestatic 26, 3) := by decide +kernel
theorem d_add0_30 : decode prog_41_method_2_code 30 = .ok (.putfield 13, 3) := by decide +kernel
theorem d_add0_33 : decode prog_41_method_2_code 33 = .ok (.aload_n 0, 1) := by decide +kernel
theorem d_add0_34 : decode prog_41_method_2_code 34 = .ok (.getfield 13, 3) := by decide +kernel
theorem d_add0_37 : decode prog_41_method_2_code 37 = .ok (.aload_n 0, 1) := by decide +kernel
theorem d_add0_38 : decode prog_41_method_2_code 38 = .ok (.getfield 16, 3) := by decide +kernel
theorem d_add0_41 : decode prog_41_method_2_code 41 = .ok (.iload_n 1, 1) := by decide +kernel
theorem d_add0_42 : decode prog_41_method_2_code 42 = .ok (.iastore, 1) := by decide +kernel
theorem d_add0_43 : decode prog_41_method_2_code 43 = .ok (.aload_n 0, 1) := by decide +kernel
theorem d_add0_44 : decode prog_41_method_2_code 44 = .ok (.dup, 1) := by decide +kernel
theorem d_add0_45 : decode prog_41_method_2_code 45 = .ok (.getfield 16, 3) := by decide +kernel
theorem d_add0_48 : decode prog_41_method_2_code 48 = .ok (.iconst 1, 1) := by decide +kernel
theorem d_add0_49 : decode prog_41_method_2_code 49 = .ok (.iadd, 1) := by decide +kernel
theorem d_add0_50 : decode prog_41_method_2_code 50 = .ok (.putfield 16, 3) := by decide +kernel
theorem d_add0_53 : decode prog_41_method_2_code 53 = .ok (.return_, 1) := by decide +kernel
def Q_add0 (Z : State) (a aN : Addr) (kN : ClassId) (x : Int32) (h0 : Heap) (n0 : Nat) (v : Option Value) (h : Heap) (L : List Loc) : Prop := v = none ∧ Fr n0 L ∧ Keep h0 h [a] ∧ ∃ b k, h0.size ≤ b ∧ Exa Z h a "com/example/aspen/aspen/IntList" ∧ Fld Z h a "com/example/aspen/aspen/IntList" "size" "I" (.int (1 : Int32)) ∧ Fld Z h a "com/example/aspen/aspen/IntList" "items" "[I" (.ref b) ∧ Arv Z h b k .int (4 : Int32) [(.int x), (.int (0 : Int32)), (.int (0 : Int32)), (.int (0 : Int32))] (.int (0 : Int32))
set_option maxRecDepth 65536 in
set_option maxHeartbeats 40000000 in
theorem rm_add0 (l : Launch) (Z : State) (a0 : Array Value) (hw : ∀ d ∈ tables_1, d.before a0 Z = true) (ws : List Jvm.Cond) (a aN : Addr) (kN : ClassId) (x : Int32) (h0 : Heap) (n0 : Nat) (Z0 : n0 ≤ h0.size) (O : Old Z n0 h0) (VN : Arv Z Z.heap aN kN .int (0 : Int32) [] (.int (0 : Int32))) (g_a : n0 ≤ a) (E : Exa Z h0 a "com/example/aspen/aspen/IntList") (Fs : Fld Z h0 a "com/example/aspen/aspen/IntList" "size" "I" (.int (0 : Int32))) (Fi : Fld Z h0 a "com/example/aspen/aspen/IntList" "items" "[I" (.ref aN)) :
    MetFree l (⟨"com/example/aspen/aspen/IntList", "add", "(I)V"⟩ : MethodName) (head1 (Jvm.Cond.code (⟨"com/example/aspen/aspen/IntList", "add", "(I)V"⟩ : MethodName) prog_41_method_2_code 2 none :: ws) ({ frames := 2, cells := 1, slots := 4, locals := 47 } : Room)) (fun aa_ U => aa_ = #[(.ref a), (.int x)] ∧ Z.Warmed39 U.vm ∧ U.heap = h0) (fun _ _ _ _ _ => True) (fun _ UU_ oo_ UV_ => ∃ vv_ LL_, oo_ = .returned vv_ ∧ (Q_add0 Z a aN kN x h0 n0) vv_ UV_.heap LL_ ∧ FrameEnd UU_ oo_ UV_ LL_ ({ frames := 2, cells := 1, slots := 4, locals := 47 } : Room).cells ({ frames := 2, cells := 1, slots := 4, locals := 47 } : Room).slots) := by
  refine MetFree.of_bodySF (plainFor_of_name pn1) hisR ?_
  intro p e s m args below meth c s₁ Bd hml0 hP hK
  obtain ⟨rfl, hZ, hh⟩ := hP
  have hx := Bd.exec
  have hby := Bd.bytes
  have hlk : meth.locks = false := BodyLoose.notSynchronized Bd
  have hret := Bd.returns
  have hml : c.maxLocals = 2 := hml0
  have hown : s.vm.findClass "com/example/aspen/aspen/IntList" = some m.cls := findClass_of_methodNamed Bd.named
  have hnm := (name_of_methodNamed Bd.named Bd.method).1
  have X0 : Stand p l e ({ frames := 2, cells := 1, slots := 4, locals := 47 } : Room) s m #[(.ref a), (.int x)] below meth c s₁ [] 0 0 := Stand.of_body Bd
  have e0 : s₁.heap = h0 := by rw [← hh, Bd.state]; rfl
  have N0 := Fr.nil n0
  show Go p e below s ({ frames := 2, cells := 1, slots := 4, locals := 47 } : Room).cells ({ frames := 2, cells := 1, slots := 4, locals := 47 } : Room).slots (Q_add0 Z a aN kN x h0 n0) s₁ (entryFrame m #[(.ref a), (.int x)] 2)
  refine own_cast (g' := mkF m 0 #[.val (.ref a), .val (.int x)] []) (by first | (simp [entryFrame, mkF, argsToLocals, Value.category]; done) | rfl) ?_
  have K0 := Keep.refl h0 ([a] : List Addr)
  show Go _ _ _ _ _ _ _ _ (mkF m 0 #[.val (.ref a), .val (.int x)] [])
  refine own_via ?_ fun _ kt => XS.aloadN X0.here hx rfl (hb hby d_add0_0) rfl rfl kt
  show Go _ _ _ _ _ _ _ _ (mkF m 1 #[.val (.ref a), .val (.int x)] [(.ref a)])
  obtain ⟨T1, X1, e1, st1⟩ := getF X0 hx hZ hown (host := "") (Or.inl (hw _ (List.mem_of_getElem? (i := 18) rfl))) Via.refl e0 Fs (g := (mkF m 1 #[.val (.ref a), .val (.int x)] [(.ref a)])) rfl rfl (hb hby d_add0_1)
  refine own_via ?_ st1
  show Go _ _ _ _ _ _ _ _ (mkF m 4 #[.val (.ref a), .val (.int x)] [(.int (0 : Int32))])
  refine own_via ?_ fun _ kt => XS.aloadN X1.here hx rfl (hb hby d_add0_4) rfl rfl kt
  show Go _ _ _ _ _ _ _ _ (mkF m 5 #[.val (.ref a), .val (.int x)] [(.ref a), (.int (0 : Int32))])
  obtain ⟨T2, X2, e2, st2⟩ := getF X1 hx hZ hown (host := "") (Or.inl (hw _ (List.mem_of_getElem? (i := 11) rfl))) Via.refl e1 Fi (g := (mkF m 5 #[.val (.ref a), .val (.int x)] [(.ref a), (.int (0 : Int32))])) rfl rfl (hb hby d_add0_5)
  refine own_via ?_ st2
  show Go _ _ _ _ _ _ _ _ (mkF m 8 #[.val (.ref a), .val (.int x)] [(.ref aN), (.int (0 : Int32))])
  obtain ⟨cl3, Ar3, Aq3, AS3, AN3, AH3, AG3⟩ := (VN.ext O.2)
  refine own_via ?_ fun _ kt => X2.arraylength hx (by rw [e2]; exact Ar3.1) (State.isArrayOf_alike hZ.alike Ar3.2.1) (g := (mkF m 8 #[.val (.ref a), .val (.int x)] [(.ref aN), (.int (0 : Int32))])) rfl rfl (hb hby d_add0_8) _ kt
  rw [len_of AS3 AN3]
  show Go _ _ _ _ _ _ _ _ (mkF m 9 #[.val (.ref a), .val (.int x)] [(.int (0 : Int32)), (.int (0 : Int32))])
  refine own_via ?_ fun _ kt => XS.icmpNo X2.here hx rfl (hb hby d_add0_9) rfl (teq rfl).2 kt
  show Go _ _ _ _ _ _ _ _ (mkF m 12 #[.val (.ref a), .val (.int x)] [])
  refine own_via ?_ fun _ kt => XS.aloadN X2.here hx rfl (hb hby d_add0_12) rfl rfl kt
  show Go _ _ _ _ _ _ _ _ (mkF m 13 #[.val (.ref a), .val (.int x)] [(.ref a)])
  refine own_via ?_ fun _ kt => XS.aloadN X2.here hx rfl (hb hby d_add0_13) rfl rfl kt
  show Go _ _ _ _ _ _ _ _ (mkF m 14 #[.val (.ref a), .val (.int x)] [(.ref a), (.ref a)])
  obtain ⟨T4, X4, e4, st4⟩ := getF X2 hx hZ hown (host := "") (Or.inl (hw _ (List.mem_of_getElem? (i := 11) rfl))) Via.refl e2 Fi (g := (mkF m 14 #[.val (.ref a), .val (.int x)] [(.ref a), (.ref a)])) rfl rfl (hb hby d_add0_14)
  refine own_via ?_ st4
  show Go _ _ _ _ _ _ _ _ (mkF m 17 #[.val (.ref a), .val (.int x)] [(.ref aN), (.ref a)])
  refine own_via ?_ fun _ kt => XS.iconst X4.here hx rfl (hb hby d_add0_17) kt
  show Go _ _ _ _ _ _ _ _ (mkF m 18 #[.val (.ref a), .val (.int x)] [(.int (4 : Int32)), (.ref aN), (.ref a)])
  refine own_via ?_ fun _ kt => XS.iconst X4.here hx rfl (hb hby d_add0_18) kt
  show Go _ _ _ _ _ _ _ _ (mkF m 19 #[.val (.ref a), .val (.int x)] [(.int (2 : Int32)), (.int (4 : Int32)), (.ref aN), (.ref a)])
  refine own_via ?_ fun _ kt => XS.aloadN X4.here hx rfl (hb hby d_add0_19) rfl rfl kt
  show Go _ _ _ _ _ _ _ _ (mkF m 20 #[.val (.ref a), .val (.int x)] [(.ref a), (.int (2 : Int32)), (.int (4 : Int32)), (.ref aN), (.ref a)])
  obtain ⟨T5, X5, e5, st5⟩ := getF X4 hx hZ hown (host := "") (Or.inl (hw _ (List.mem_of_getElem? (i := 18) rfl))) Via.refl e4 Fs (g := (mkF m 20 #[.val (.ref a), .val (.int x)] [(.ref a), (.int (2 : Int32)), (.int (4 : Int32)), (.ref aN), (.ref a)])) rfl rfl (hb hby d_add0_20)
  refine own_via ?_ st5
  show Go _ _ _ _ _ _ _ _ (mkF m 23 #[.val (.ref a), .val (.int x)] [(.int (0 : Int32)), (.int (2 : Int32)), (.int (4 : Int32)), (.ref aN), (.ref a)])
  refine own_via ?_ fun _ kt => XS.imul X5.here hx rfl (hb hby d_add0_23) rfl kt
  show Go _ _ _ _ _ _ _ _ (mkF m 24 #[.val (.ref a), .val (.int x)] [(.int ((2 : Int32) * (0 : Int32))), (.int (4 : Int32)), (.ref aN), (.ref a)])
  rw [show ((2 : Int32) * (0 : Int32)) = (0 : Int32) from by decide]
  show Go _ _ _ _ _ _ _ _ (mkF m 24 #[.val (.ref a), .val (.int x)] [(.int (0 : Int32)), (.int (4 : Int32)), (.ref aN), (.ref a)])
  obtain ⟨_, _, ⟨T6, L6, k6, n6⟩, -, X6, ⟨Lc6, hQ6, l6, y6, z6⟩, st6⟩ := Jvm.LawKit.callS X5 hx (y := (⟨"java/lang/Math", "max", "(II)I"⟩ : MethodName)) hown (mvT hZ (hw _ (List.mem_of_getElem? (i := 28) rfl))) (mvT hZ (hw _ (List.mem_of_getElem? (i := 29) rfl))) (mvT hZ (hw _ (List.mem_of_getElem? (i := 30) rfl))) (mvT hZ (hw _ (List.mem_of_getElem? (i := 31) rfl))) (by decide) (backOf (W := 2) (rm_max l Z a0 hw []  h0 n0 Z0) hZ (hw _ (List.mem_of_getElem? (i := 31) rfl)) (hw _ (List.mem_of_getElem? (i := 30) rfl)) (by decide) (by decide)) (g := (mkF m 24 #[.val (.ref a), .val (.int x)] [(.int (0 : Int32)), (.int (4 : Int32)), (.ref aN), (.ref a)])) rfl (by rw [hml]; rfl) (argsL := [(.int (4 : Int32)), (.int (0 : Int32))]) (rest := [(.ref aN), (.ref a)]) (lenOf pd0 rfl) rfl (by show 2 * 0 + _ ≤ _; exact Nat.le_of_eq rfl) (hb hby d_add0_24) (fun _ _ => ⟨rfl, e5, (by decide : 0 + 0 ≤ _), (by decide : 0 + 0 ≤ _)⟩)
  dsimp only [Pt.U, Pt.locs, Pt.cells, Pt.slots] at X6 l6 y6 z6 st6 hQ6
  subst l6 y6 z6
  obtain ⟨rfl, Nq6, e6⟩ := hQ6
  have N6 := Fr.app N0 Nq6
  refine own_via ?_ st6
  show Go _ _ _ _ _ _ _ _ (mkF m 27 #[.val (.ref a), .val (.int x)] [(.int (4 : Int32)), (.ref aN), (.ref a)])
  obtain ⟨_, _, ⟨T7, L7, k7, n7⟩, -, X7, ⟨Lc7, hQ7, l7, y7, z7⟩, st7⟩ := Jvm.LawKit.callS X6 hx (y := (⟨"java/util/Arrays", "copyOf", "([II)[I"⟩ : MethodName)) hown (mvT hZ (hw _ (List.mem_of_getElem? (i := 32) rfl))) (mvT hZ (hw _ (List.mem_of_getElem? (i := 33) rfl))) (mvT hZ (hw _ (List.mem_of_getElem? (i := 34) rfl))) (mvT hZ (hw _ (List.mem_of_getElem? (i := 35) rfl))) (by decide) (backOf (W := 1) (rm_copy l Z a0 hw [] aN kN h0 n0 Z0 (VN.ext O.2)) hZ (hw _ (List.mem_of_getElem? (i := 35) rfl)) (hw _ (List.mem_of_getElem? (i := 34) rfl)) (by decide) (by decide)) (g := (mkF m 27 #[.val (.ref a), .val (.int x)] [(.int (4 : Int32)), (.ref aN), (.ref a)])) rfl (by rw [hml]; rfl) (argsL := [(.ref aN), (.int (4 : Int32))]) (rest := [(.ref a)]) (lenOf pd1 rfl) rfl (by show 2 * 0 + _ ≤ _; exact Nat.le_of_eq rfl) (hb hby d_add0_27) (fun _ _ => ⟨rfl, e6, (by decide : 0 + 1 ≤ _), (by decide : 0 + 4 ≤ _)⟩)
  dsimp only [Pt.U, Pt.locs, Pt.cells, Pt.slots] at X7 l7 y7 z7 st7 hQ7
  subst l7 y7 z7
  obtain ⟨h7, e7⟩ : ∃ z, T7.heap = z := ⟨_, rfl⟩
  rw [e7] at hQ7
  obtain ⟨bc, kc, rfl, szc, Vc, Nq7, Kq7⟩ := hQ7
  have N7 := Fr.app N6 Nq7
  have ne8 : a ≠ bc := Nat.ne_of_lt (Nat.lt_of_lt_of_le E.lt szc)
  have g_bc : n0 ≤ bc := Nat.le_trans Z0 szc
  have sz_bc : h0.size ≤ bc := Nat.le_trans K0.1 szc
  replace E := E.keep Kq7
  replace Fs := Fs.keep Kq7 nin0
  replace Fi := Fi.keep Kq7 nin0
  replace Z0 := Nat.le_trans Z0 Kq7.1
  replace K0 := K0.trans Kq7 all0
  replace O := O.keep Kq7 all0
  refine own_via ?_ st7
  show Go _ _ _ _ _ _ _ _ (mkF m 30 #[.val (.ref a), .val (.int x)] [(.ref bc), (.ref a)])
  obtain ⟨T9, h9, X9, e9, W9, st9⟩ := putF X7 hx hZ hown (host := "") (Or.inl (hw _ (List.mem_of_getElem? (i := 11) rfl))) Via.refl e7 Fi E (Or.inl (hw _ (List.mem_of_getElem? (i := 12) rfl))) (hw _ (List.mem_of_getElem? (i := 1) rfl)) (ty := (.array .int)) (by decide) rfl rfl (g := (mkF m 30 #[.val (.ref a), .val (.int x)] [(.ref bc), (.ref a)])) rfl rfl (hb hby d_add0_30)
  have N9 := Fr.snoc X9 N7 g_a
  replace E := E.wr W9
  replace Fs := Fs.other W9 (Or.inr (slot_ne (Or.inl (hw _ (List.mem_of_getElem? (i := 19) rfl))) (Or.inl (hw _ (List.mem_of_getElem? (i := 12) rfl))) (by decide) (t := .int) (t' := (.array .int)) (by decide) (by decide)))
  replace Fi := Fi.same W9
  replace Vc := Vc.other W9 (Ne.symm ne8)
  replace Z0 := Nat.le_trans Z0 (Keep.of_wr W9).1
  replace K0 := K0.wr W9 (Or.inl (List.mem_of_getElem? (i := 0) rfl))
  replace O := O.wr W9 g_a
  refine own_via ?_ st9
  show Go _ _ _ _ _ _ _ _ (mkF m 33 #[.val (.ref a), .val (.int x)] [])
  refine own_via ?_ fun _ kt => XS.aloadN X9.here hx rfl (hb hby d_add0_33) rfl rfl kt
  show Go _ _ _ _ _ _ _ _ (mkF m 34 #[.val (.ref a), .val (.int x)] [(.ref a)])
  obtain ⟨T10, X10, e10, st10⟩ := getF X9 hx hZ hown (host := "") (Or.inl (hw _ (List.mem_of_getElem? (i := 11) rfl))) Via.refl e9 Fi (g := (mkF m 34 #[.val (.ref a), .val (.int x)] [(.ref a)])) rfl rfl (hb hby d_add0_34)
  refine own_via ?_ st10
  show Go _ _ _ _ _ _ _ _ (mkF m 37 #[.val (.ref a), .val (.int x)] [(.ref bc)])
  refine own_via ?_ fun _ kt => XS.aloadN X10.here hx rfl (hb hby d_add0_37) rfl rfl kt
  show Go _ _ _ _ _ _ _ _ (mkF m 38 #[.val (.ref a), .val (.int x)] [(.ref a), (.ref bc)])
  obtain ⟨T11, X11, e11, st11⟩ := getF X10 hx hZ hown (host := "") (Or.inl (hw _ (List.mem_of_getElem? (i := 18) rfl))) Via.refl e10 Fs (g := (mkF m 38 #[.val (.ref a), .val (.int x)] [(.ref a), (.ref bc)])) rfl rfl (hb hby d_add0_38)
  refine own_via ?_ st11
  show Go _ _ _ _ _ _ _ _ (mkF m 41 #[.val (.ref a), .val (.int x)] [(.int (0 : Int32)), (.ref bc)])
  refine own_via ?_ fun _ kt => XS.iloadN X11.here hx rfl (hb hby d_add0_41) rfl kt
  show Go _ _ _ _ _ _ _ _ (mkF m 42 #[.val (.ref a), .val (.int x)] [(.int x), (.int (0 : Int32)), (.ref bc)])
  obtain ⟨cl12, Ar12, Aq12, AS12, AN12, AH12, AG12⟩ := Vc
  have hin13 : ¬ ((0 : Int32) < 0 ∨ cl12.slots.size ≤ ((0 : Int32)).toNatClampNeg) := (inb_of AS12 ⟨by decide, by decide⟩)
  obtain ⟨T13, h13, X13, e13, W13, st13⟩ := stI X11 hx hZ e11 Ar12 (j := (0 : Int32)) hin13 (g := (mkF m 42 #[.val (.ref a), .val (.int x)] [(.int x), (.int (0 : Int32)), (.ref bc)])) rfl rfl (hb hby d_add0_42)
  have N13 := Fr.snoc X13 N9 g_bc
  have V13 : Arv Z h13 bc kc .int (4 : Int32) [(.int x), (.int (0 : Int32)), (.int (0 : Int32)), (.int (0 : Int32))] (.int (0 : Int32)) := Arv.set Ar12 Aq12 AS12 AN12 AH12 AG12 rfl W13 0 rfl (Nat.le_of_ble_eq_true rfl)
  replace E := E.wr W13
  replace Fs := Fs.other W13 (Or.inl ne8)
  replace Fi := Fi.other W13 (Or.inl ne8)
  replace Z0 := Nat.le_trans Z0 (Keep.of_wr W13).1
  replace K0 := K0.wr W13 (Or.inr sz_bc)
  replace O := O.wr W13 g_bc
  refine own_via ?_ st13
  show Go _ _ _ _ _ _ _ _ (mkF m 43 #[.val (.ref a), .val (.int x)] [])
  refine own_via ?_ fun _ kt => XS.aloadN X13.here hx rfl (hb hby d_add0_43) rfl rfl kt
  show Go _ _ _ _ _ _ _ _ (mkF m 44 #[.val (.ref a), .val (.int x)] [(.ref a)])
  refine own_via ?_ fun _ kt => XS.dup X13.here hx rfl (hb hby d_add0_44) rfl rfl kt
  show Go _ _ _ _ _ _ _ _ (mkF m 45 #[.val (.ref a), .val (.int x)] [(.ref a), (.ref a)])
  obtain ⟨T14, X14, e14, st14⟩ := getF X13 hx hZ hown (host := "") (Or.inl (hw _ (List.mem_of_getElem? (i := 18) rfl))) Via.refl e13 Fs (g := (mkF m 45 #[.val (.ref a), .val (.int x)] [(.ref a), (.ref a)])) rfl rfl (hb hby d_add0_45)
  refine own_via ?_ st14
  show Go _ _ _ _ _ _ _ _ (mkF m 48 #[.val (.ref a), .val (.int x)] [(.int (0 : Int32)), (.ref a)])
  refine own_via ?_ fun _ kt => XS.iconst X14.here hx rfl (hb hby d_add0_48) kt
  show Go _ _ _ _ _ _ _ _ (mkF m 49 #[.val (.ref a), .val (.int x)] [(.int (1 : Int32)), (.int (0 : Int32)), (.ref a)])
  refine own_via ?_ fun _ kt => XS.iadd X14.here hx rfl (hb hby d_add0_49) rfl kt
  show Go _ _ _ _ _ _ _ _ (mkF m 50 #[.val (.ref a), .val (.int x)] [(.int ((0 : Int32) + (1 : Int32))), (.ref a)])
  rw [show ((0 : Int32) + (1 : Int32)) = (1 : Int32) from by decide]
  show Go _ _ _ _ _ _ _ _ (mkF m 50 #[.val (.ref a), .val (.int x)] [(.int (1 : Int32)), (.ref a)])
  obtain ⟨T15, h15, X15, e15, W15, st15⟩ := putF X14 hx hZ hown (host := "") (Or.inl (hw _ (List.mem_of_getElem? (i := 18) rfl))) Via.refl e14 Fs E (Or.inl (hw _ (List.mem_of_getElem? (i := 19) rfl))) (hw _ (List.mem_of_getElem? (i := 1) rfl)) (ty := .int) (by decide) rfl rfl (g := (mkF m 50 #[.val (.ref a), .val (.int x)] [(.int (1 : Int32)), (.ref a)])) rfl rfl (hb hby d_add0_50)
  have N15 := Fr.snoc X15 N13 g_a
  replace E := E.wr W15
  replace Fs := Fs.same W15
  replace Fi := Fi.other W15 (Or.inr (slot_ne (Or.inl (hw _ (List.mem_of_getElem? (i := 12) rfl))) (Or.inl (hw _ (List.mem_of_getElem? (i := 19) rfl))) (by decide) (t := (.array .int)) (t' := .int) (by decide) (by decide)))
  replace V13 := V13.other W15 (Ne.symm ne8)
  replace Z0 := Nat.le_trans Z0 (Keep.of_wr W15).1
  replace K0 := K0.wr W15 (Or.inl (List.mem_of_getElem? (i := 0) rfl))
  replace O := O.wr W15 g_a
  refine own_via ?_ st15
  show Go _ _ _ _ _ _ _ _ (mkF m 53 #[.val (.ref a), .val (.int x)] [])
  exact own_retV X15 hx hret hlk (hb hby d_add0_53) (by decide) (by decide) (by rw [e15]; exact ⟨rfl, N15, K0, bc, kc, sz_bc, E, Fs, Fi, V13⟩)
theorem d_add1_0 : decode prog_41_method_2_code 0 = .ok (.aload_n 0, 1) := by decide +kernel
theorem d_add1_1 : decode prog_41_method_2_code 1 = .ok (.getfield 16, 3) := by decide +kernel
theorem d_add1_4 : decode prog_41_method_2_code 4 = .ok (.aload_n 0, 1) := by decide +kernel
theorem d_add1_5 : decode prog_41_method_2_code 5 = .ok (.getfield 13, 3) := by decide +kernel
theorem d_add1_8 : decode prog_41_method_2_code 8 = .ok (.arraylength, 1) := by decide +kernel
theorem d_add1_9 : decode prog_41_method_2_code 9 = .ok (.if_icmp .ne 24, 3) := by decide +kernel
theorem d_add1_33 : decode prog_41_method_2_code 33 = .ok (.aload_n 0, 1) := by decide +kernel
theorem d_add1_34 : decode prog_41_method_2_code 34 = .ok (.getfield 13, 3) := by decide +kernel
theorem d_add1_37 : decode prog_41_method_2_code 37 = .ok (.aload_n 0, 1) := by decide +kernel
theorem d_add1_38 : decode prog_41_method_2_code 38 = .ok (.getfield 16, 3) := by decide +kernel
theorem d_add1_41 : decode prog_41_method_2_code 41 = .ok (.iload_n 1, 1) := by decide +kernel
theorem d_add1_42 : decode prog_41_method_2_code 42 = .ok (.iastore, 1) := by decide +kernel
theorem d_add1_43 : decode prog_41_method_2_code 43 = .ok (.aload_n 0, 1) := by decide +kernel
theorem d_add1_44 : decode prog_41_method_2_code 44 = .ok (.dup, 1) := by decide +kernel
theorem d_add1_45 : decode prog_41_method_2_code 45 = .ok (.getfield 16, 3) := by decide +kernel
theorem d_add1_48 : decode prog_41_method_2_code 48 = .ok (.iconst 1, 1) := by decide +kernel
theorem d_add1_49 : decode prog_41_method_2_code 49 = .ok (.iadd, 1) := by decide +kernel
theorem d_add1_50 : decode prog_41_method_2_code 50 = .ok (.putfield 16, 3) := by decide +kernel
theorem d_add1_53 : decode prog_41_method_2_code 53 = .ok (.return_, 1) := by decide +kernel
def Q_add1 (Z : State) (a b : Addr) (kb : ClassId) (x x0 : Int32) (h0 : Heap) (n0 : Nat) (v : Option Value) (h : Heap) (L : List Loc) : Prop := v = none ∧ Fr n0 L ∧ Keep h0 h [a, b] ∧ Exa Z h a "com/example/aspen/aspen/IntList" ∧ Fld Z h a "com/example/aspen/aspen/IntList" "size" "I" (.int (2 : Int32)) ∧ Fld Z h a "com/example/aspen/aspen/IntList" "items" "[I" (.ref b) ∧ Arv Z h b kb .int (4 : Int32) [(.int x0), (.int x), (.int (0 : Int32)), (.int (0 : Int32))] (.int (0 : Int32))
set_option maxRecDepth 65536 in
set_option maxHeartbeats 40000000 in
theorem rm_add1 (l : Launch) (Z : State) (a0 : Array Value) (hw : ∀ d ∈ tables_1, d.before a0 Z = true) (ws : List Jvm.Cond) (a b : Addr) (kb : ClassId) (x x0 : Int32) (h0 : Heap) (n0 : Nat) (Z0 : n0 ≤ h0.size) (g_a : n0 ≤ a) (g_b : n0 ≤ b) (neab : a ≠ b) (E : Exa Z h0 a "com/example/aspen/aspen/IntList") (Fs : Fld Z h0 a "com/example/aspen/aspen/IntList" "size" "I" (.int (1 : Int32))) (Fi : Fld Z h0 a "com/example/aspen/aspen/IntList" "items" "[I" (.ref b)) (Vb : Arv Z h0 b kb .int (4 : Int32) [(.int x0), (.int (0 : Int32)), (.int (0 : Int32)), (.int (0 : Int32))] (.int (0 : Int32))) :
    MetFree l (⟨"com/example/aspen/aspen/IntList", "add", "(I)V"⟩ : MethodName) (head1 (Jvm.Cond.code (⟨"com/example/aspen/aspen/IntList", "add", "(I)V"⟩ : MethodName) prog_41_method_2_code 2 none :: ws) ({ frames := 0, cells := 0, slots := 0, locals := 0 } : Room)) (fun aa_ U => aa_ = #[(.ref a), (.int x)] ∧ Z.Warmed39 U.vm ∧ U.heap = h0) (fun _ _ _ _ _ => True) (fun _ UU_ oo_ UV_ => ∃ vv_ LL_, oo_ = .returned vv_ ∧ (Q_add1 Z a b kb x x0 h0 n0) vv_ UV_.heap LL_ ∧ FrameEnd UU_ oo_ UV_ LL_ ({ frames := 0, cells := 0, slots := 0, locals := 0 } : Room).cells ({ frames := 0, cells := 0, slots := 0, locals := 0 } : Room).slots) := by
  refine MetFree.of_bodySF (plainFor_of_name pn1) hisR ?_
  intro p e s m args below meth c s₁ Bd hml0 hP hK
  obtain ⟨rfl, hZ, hh⟩ := hP
  have hx := Bd.exec
  have hby := Bd.bytes
  have hlk : meth.locks = false := BodyLoose.notSynchronized Bd
  have hret := Bd.returns
  have hml : c.maxLocals = 2 := hml0
  have hown : s.vm.findClass "com/example/aspen/aspen/IntList" = some m.cls := findClass_of_methodNamed Bd.named
  have hnm := (name_of_methodNamed Bd.named Bd.method).1
  have X0 : Stand p l e ({ frames := 0, cells := 0, slots := 0, locals := 0 } : Room) s m #[(.ref a), (.int x)] below meth c s₁ [] 0 0 := Stand.of_body Bd
  have e0 : s₁.heap = h0 := by rw [← hh, Bd.state]; rfl
  have N0 := Fr.nil n0
  show Go p e below s ({ frames := 0, cells := 0, slots := 0, locals := 0 } : Room).cells ({ frames := 0, cells := 0, slots := 0, locals := 0 } : Room).slots (Q_add1 Z a b kb x x0 h0 n0) s₁ (entryFrame m #[(.ref a), (.int x)] 2)
  refine own_cast (g' := mkF m 0 #[.val (.ref a), .val (.int x)] []) (by first | (simp [entryFrame, mkF, argsToLocals, Value.category]; done) | rfl) ?_
  have K0 := Keep.refl h0 ([a, b] : List Addr)
  show Go _ _ _ _ _ _ _ _ (mkF m 0 #[.val (.ref a), .val (.int x)] [])
  refine own_via ?_ fun _ kt => XS.aloadN X0.here hx rfl (hb hby d_add1_0) rfl rfl kt
  show Go _ _ _ _ _ _ _ _ (mkF m 1 #[.val (.ref a), .val (.int x)] [(.ref a)])
  obtain ⟨T1, X1, e1, st1⟩ := getF X0 hx hZ hown (host := "") (Or.inl (hw _ (List.mem_of_getElem? (i := 18) rfl))) Via.refl e0 Fs (g := (mkF m 1 #[.val (.ref a), .val (.int x)] [(.ref a)])) rfl rfl (hb hby d_add1_1)
  refine own_via ?_ st1
  show Go _ _ _ _ _ _ _ _ (mkF m 4 #[.val (.ref a), .val (.int x)] [(.int (1 : Int32))])
  refine own_via ?_ fun _ kt => XS.aloadN X1.here hx rfl (hb hby d_add1_4) rfl rfl kt
  show Go _ _ _ _ _ _ _ _ (mkF m 5 #[.val (.ref a), .val (.int x)] [(.ref a), (.int (1 : Int32))])
  obtain ⟨T2, X2, e2, st2⟩ := getF X1 hx hZ hown (host := "") (Or.inl (hw _ (List.mem_of_getElem? (i := 11) rfl))) Via.refl e1 Fi (g := (mkF m 5 #[.val (.ref a), .val (.int x)] [(.ref a), (.int (1 : Int32))])) rfl rfl (hb hby d_add1_5)
  refine own_via ?_ st2
  show Go _ _ _ _ _ _ _ _ (mkF m 8 #[.val (.ref a), .val (.int x)] [(.ref b), (.int (1 : Int32))])
  obtain ⟨cl3, Ar3, Aq3, AS3, AN3, AH3, AG3⟩ := Vb
  have Vb : Arv Z h0 b kb .int (4 : Int32) [(.int x0), (.int (0 : Int32)), (.int (0 : Int32)), (.int (0 : Int32))] (.int (0 : Int32)) := ⟨cl3, Ar3, Aq3, AS3, AN3, AH3, AG3⟩
  refine own_via ?_ fun _ kt => X2.arraylength hx (by rw [e2]; exact Ar3.1) (State.isArrayOf_alike hZ.alike Ar3.2.1) (g := (mkF m 8 #[.val (.ref a), .val (.int x)] [(.ref b), (.int (1 : Int32))])) rfl rfl (hb hby d_add1_8) _ kt
  rw [len_of AS3 AN3]
  show Go _ _ _ _ _ _ _ _ (mkF m 9 #[.val (.ref a), .val (.int x)] [(.int (4 : Int32)), (.int (1 : Int32))])
  refine own_via ?_ fun _ kt => XS.icmpYes X2.here hx rfl (pc0 := 9) (pc' := 33) rfl (hb hby d_add1_9) rfl (feq (by decide : ¬ ((1 : Int32) = (4 : Int32)))).2 (by decide) (by decide) kt
  show Go _ _ _ _ _ _ _ _ (mkF m 33 #[.val (.ref a), .val (.int x)] [])
  refine own_via ?_ fun _ kt => XS.aloadN X2.here hx rfl (hb hby d_add1_33) rfl rfl kt
  show Go _ _ _ _ _ _ _ _ (mkF m 34 #[.val (.ref a), .val (.int x)] [(.ref a)])
  obtain ⟨T4, X4, e4, st4⟩ := getF X2 hx hZ hown (host := "") (Or.inl (hw _ (List.mem_of_getElem? (i := 11) rfl))) Via.refl e2 Fi (g := (mkF m 34 #[.val (.ref a), .val (.int x)] [(.ref a)])) rfl rfl (hb hby d_add1_34)
  refine own_via ?_ st4
  show Go _ _ _ _ _ _ _ _ (mkF m 37 #[.val (.ref a), .val (.int x)] [(.ref b)])
  refine own_via ?_ fun _ kt => XS.aloadN X4.here hx rfl (hb hby d_add1_37) rfl rfl kt
  show Go _ _ _ _ _ _ _ _ (mkF m 38 #[.val (.ref a), .val (.int x)] [(.ref a), (.ref b)])
  obtain ⟨T5, X5, e5, st5⟩ := getF X4 hx hZ hown (host := "") (Or.inl (hw _ (List.mem_of_getElem? (i := 18) rfl))) Via.refl e4 Fs (g := (mkF m 38 #[.val (.ref a), .val (.int x)] [(.ref a), (.ref b)])) rfl rfl (hb hby d_add1_38)
  refine own_via ?_ st5
  show Go _ _ _ _ _ _ _ _ (mkF m 41 #[.val (.ref a), .val (.int x)] [(.int (1 : Int32)), (.ref b)])
  refine own_via ?_ fun _ kt => XS.iloadN X5.here hx rfl (hb hby d_add1_41) rfl kt
  show Go _ _ _ _ _ _ _ _ (mkF m 42 #[.val (.ref a), .val (.int x)] [(.int x), (.int (1 : Int32)), (.ref b)])
  obtain ⟨cl6, Ar6, Aq6, AS6, AN6, AH6, AG6⟩ := Vb
  have hin7 : ¬ ((1 : Int32) < 0 ∨ cl6.slots.size ≤ ((1 : Int32)).toNatClampNeg) := (inb_of AS6 ⟨by decide, by decide⟩)
  obtain ⟨T7, h7, X7, e7, W7, st7⟩ := stI X5 hx hZ e5 Ar6 (j := (1 : Int32)) hin7 (g := (mkF m 42 #[.val (.ref a), .val (.int x)] [(.int x), (.int (1 : Int32)), (.ref b)])) rfl rfl (hb hby d_add1_42)
  have N7 := Fr.snoc X7 N0 g_b
  have V7 : Arv Z h7 b kb .int (4 : Int32) [(.int x0), (.int x), (.int (0 : Int32)), (.int (0 : Int32))] (.int (0 : Int32)) := Arv.set Ar6 Aq6 AS6 AN6 AH6 AG6 rfl W7 1 rfl (Nat.le_of_ble_eq_true rfl)
  replace E := E.wr W7
  replace Fs := Fs.other W7 (Or.inl neab)
  replace Fi := Fi.other W7 (Or.inl neab)
  replace Z0 := Nat.le_trans Z0 (Keep.of_wr W7).1
  replace K0 := K0.wr W7 (Or.inl (List.mem_of_getElem? (i := 1) rfl))
  refine own_via ?_ st7
  show Go _ _ _ _ _ _ _ _ (mkF m 43 #[.val (.ref a), .val (.int x)] [])
  refine own_via ?_ fun _ kt => XS.aloadN X7.here hx rfl (hb hby d_add1_43) rfl rfl kt
  show Go _ _ _ _ _ _ _ _ (mkF m 44 #[.val (.ref a), .val (.int x)] [(.ref a)])
  refine own_via ?_ fun _ kt => XS.dup X7.here hx rfl (hb hby d_add1_44) rfl rfl kt
  show Go _ _ _ _ _ _ _ _ (mkF m 45 #[.val (.ref a), .val (.int x)] [(.ref a), (.ref a)])
  obtain ⟨T8, X8, e8, st8⟩ := getF X7 hx hZ hown (host := "") (Or.inl (hw _ (List.mem_of_getElem? (i := 18) rfl))) Via.refl e7 Fs (g := (mkF m 45 #[.val (.ref a), .val (.int x)] [(.ref a), (.ref a)])) rfl rfl (hb hby d_add1_45)
  refine own_via ?_ st8
  show Go _ _ _ _ _ _ _ _ (mkF m 48 #[.val (.ref a), .val (.int x)] [(.int (1 : Int32)), (.ref a)])
  refine own_via ?_ fun _ kt => XS.iconst X8.here hx rfl (hb hby d_add1_48) kt
  show Go _ _ _ _ _ _ _ _ (mkF m 49 #[.val (.ref a), .val (.int x)] [(.int (1 : Int32)), (.int (1 : Int32)), (.ref a)])
  refine own_via ?_ fun _ kt => XS.iadd X8.here hx rfl (hb hby d_add1_49) rfl kt
  show Go _ _ _ _ _ _ _ _ (mkF m 50 #[.val (.ref a), .val (.int x)] [(.int ((1 : Int32) + (1 : Int32))), (.ref a)])
  rw [show ((1 : Int32) + (1 : Int32)) = (2 : Int32) from by decide]
  show Go _ _ _ _ _ _ _ _ (mkF m 50 #[.val (.ref a), .val (.int x)] [(.int (2 : Int32)), (.ref a)])
  obtain ⟨T9, h9, X9, e9, W9, st9⟩ := putF X8 hx hZ hown (host := "") (Or.inl (hw _ (List.mem_of_getElem? (i := 18) rfl))) Via.refl e8 Fs E (Or.inl (hw _ (List.mem_of_getElem? (i := 19) rfl))) (hw _ (List.mem_of_getElem? (i := 1) rfl)) (ty := .int) (by decide) rfl rfl (g := (mkF m 50 #[.val (.ref a), .val (.int x)] [(.int (2 : Int32)), (.ref a)])) rfl rfl (hb hby d_add1_50)
  have N9 := Fr.snoc X9 N7 g_a
  replace E := E.wr W9
  replace Fs := Fs.same W9
  replace Fi := Fi.other W9 (Or.inr (slot_ne (Or.inl (hw _ (List.mem_of_getElem? (i := 12) rfl))) (Or.inl (hw _ (List.mem_of_getElem? (i := 19) rfl))) (by decide) (t := (.array .int)) (t' := .int) (by decide) (by decide)))
  replace V7 := V7.other W9 (Ne.symm neab)
  replace Z0 := Nat.le_trans Z0 (Keep.of_wr W9).1
  replace K0 := K0.wr W9 (Or.inl (List.mem_of_getElem? (i := 0) rfl))
  refine own_via ?_ st9
  show Go _ _ _ _ _ _ _ _ (mkF m 53 #[.val (.ref a), .val (.int x)] [])
  exact own_retV X9 hx hret hlk (hb hby d_add1_53) (by decide) (by decide) (by rw [e9]; exact ⟨rfl, N9, K0, E, Fs, Fi, V7⟩)
theorem d_add2_0 : decode prog_41_method_2_code 0 = .ok (.aload_n 0, 1) := by decide +kernel
theorem d_add2_1 : decode prog_41_method_2_code 1 = .ok (.getfield 16, 3) := by decide +kernel
theorem d_add2_4 : decode prog_41_method_2_code 4 = .ok (.aload_n 0, 1) := by decide +kernel
theorem d_add2_5 : decode prog_41_method_2_code 5 = .ok (.getfield 13, 3) := by decide +kernel
theorem d_add2_8 : decode prog_41_method_2_code 8 = .ok (.arraylength, 1) := by decide +kernel
theorem d_add2_9 : decode prog_41_method_2_code 9 = .ok (.if_icmp .ne 24, 3) := by decide +kernel
theorem d_add2_33 : decode prog_41_method_2_code 33 = .ok (.aload_n 0, 1) := by decide +kernel
theorem d_add2_34 : decode prog_41_method_2_code 34 = .ok (.getfield 13, 3) := by decide +kernel
theorem d_add2_37 : decode prog_41_method_2_code 37 = .ok (.aload_n 0, 1) := by decide +kernel
theorem d_add2_38 : decode prog_41_method_2_code 38 = .ok (.getfield 16, 3) := by decide +kernel
theorem d_add2_41 : decode prog_41_method_2_code 41 = .ok (.iload_n 1, 1) := by decide +kernel
theorem d_add2_42 : decode prog_41_method_2_code 42 = .ok (.iastore, 1) := by decide +kernel
theorem d_add2_43 : decode prog_41_method_2_code 43 = .ok (.aload_n 0, 1) := by decide +kernel
theorem d_add2_44 : decode prog_41_method_2_code 44 = .ok (.dup, 1) := by decide +kernel
theorem d_add2_45 : decode prog_41_method_2_code 45 = .ok (.getfield 16, 3) := by decide +kernel
theorem d_add2_48 : decode prog_41_method_2_code 48 = .ok (.iconst 1, 1) := by decide +kernel
theorem d_add2_49 : decode prog_41_method_2_code 49 = .ok (.iadd, 1) := by decide +kernel
theorem d_add2_50 : decode prog_41_method_2_code 50 = .ok (.putfield 16, 3) := by decide +kernel
theorem d_add2_53 : decode prog_41_method_2_code 53 = .ok (.return_, 1) := by decide +kernel
def Q_add2 (Z : State) (a b : Addr) (kb : ClassId) (x x0 x1 : Int32) (h0 : Heap) (n0 : Nat) (v : Option Value) (h : Heap) (L : List Loc) : Prop := v = none ∧ Fr n0 L ∧ Keep h0 h [a, b] ∧ Exa Z h a "com/example/aspen/aspen/IntList" ∧ Fld Z h a "com/example/aspen/aspen/IntList" "size" "I" (.int (3 : Int32)) ∧ Fld Z h a "com/example/aspen/aspen/IntList" "items" "[I" (.ref b) ∧ Arv Z h b kb .int (4 : Int32) [(.int x0), (.int x1), (.int x), (.int (0 : Int32))] (.int (0 : Int32))
set_option maxRecDepth 65536 in
set_option maxHeartbeats 40000000 in
theorem rm_add2 (l : Launch) (Z : State) (a0 : Array Value) (hw : ∀ d ∈ tables_1, d.before a0 Z = true) (ws : List Jvm.Cond) (a b : Addr) (kb : ClassId) (x x0 x1 : Int32) (h0 : Heap) (n0 : Nat) (Z0 : n0 ≤ h0.size) (g_a : n0 ≤ a) (g_b : n0 ≤ b) (neab : a ≠ b) (E : Exa Z h0 a "com/example/aspen/aspen/IntList") (Fs : Fld Z h0 a "com/example/aspen/aspen/IntList" "size" "I" (.int (2 : Int32))) (Fi : Fld Z h0 a "com/example/aspen/aspen/IntList" "items" "[I" (.ref b)) (Vb : Arv Z h0 b kb .int (4 : Int32) [(.int x0), (.int x1), (.int (0 : Int32)), (.int (0 : Int32))] (.int (0 : Int32))) :
    MetFree l (⟨"com/example/aspen/aspen/IntList", "add", "(I)V"⟩ : MethodName) (head1 (Jvm.Cond.code (⟨"com/example/aspen/aspen/IntList", "add", "(I)V"⟩ : MethodName) prog_41_method_2_code 2 none :: ws) ({ frames := 0, cells := 0, slots := 0, locals := 0 } : Room)) (fun aa_ U => aa_ = #[(.ref a), (.int x)] ∧ Z.Warmed39 U.vm ∧ U.heap = h0) (fun _ _ _ _ _ => True) (fun _ UU_ oo_ UV_ => ∃ vv_ LL_, oo_ = .returned vv_ ∧ (Q_add2 Z a b kb x x0 x1 h0 n0) vv_ UV_.heap LL_ ∧ FrameEnd UU_ oo_ UV_ LL_ ({ frames := 0, cells := 0, slots := 0, locals := 0 } : Room).cells ({ frames := 0, cells := 0, slots := 0, locals := 0 } : Room).slots) := by
  refine MetFree.of_bodySF (plainFor_of_name pn1) hisR ?_
  intro p e s m args below meth c s₁ Bd hml0 hP hK
  obtain ⟨rfl, hZ, hh⟩ := hP
  have hx := Bd.exec
  have hby := Bd.bytes
  have hlk : meth.locks = false := BodyLoose.notSynchronized Bd
  have hret := Bd.returns
  have hml : c.maxLocals = 2 := hml0
  have hown : s.vm.findClass "com/example/aspen/aspen/IntList" = some m.cls := findClass_of_methodNamed Bd.named
  have hnm := (name_of_methodNamed Bd.named Bd.method).1
  have X0 : Stand p l e ({ frames := 0, cells := 0, slots := 0, locals := 0 } : Room) s m #[(.ref a), (.int x)] below meth c s₁ [] 0 0 := Stand.of_body Bd
  have e0 : s₁.heap = h0 := by rw [← hh, Bd.state]; rfl
  have N0 := Fr.nil n0
  show Go p e below s ({ frames := 0, cells := 0, slots := 0, locals := 0 } : Room).cells ({ frames := 0, cells := 0, slots := 0, locals := 0 } : Room).slots (Q_add2 Z a b kb x x0 x1 h0 n0) s₁ (entryFrame m #[(.ref a), (.int x)] 2)
  refine own_cast (g' := mkF m 0 #[.val (.ref a), .val (.int x)] []) (by first | (simp [entryFrame, mkF, argsToLocals, Value.category]; done) | rfl) ?_
  have K0 := Keep.refl h0 ([a, b] : List Addr)
  show Go _ _ _ _ _ _ _ _ (mkF m 0 #[.val (.ref a), .val (.int x)] [])
  refine own_via ?_ fun _ kt => XS.aloadN X0.here hx rfl (hb hby d_add2_0) rfl rfl kt
  show Go _ _ _ _ _ _ _ _ (mkF m 1 #[.val (.ref a), .val (.int x)] [(.ref a)])
  obtain ⟨T1, X1, e1, st1⟩ := getF X0 hx hZ hown (host := "") (Or.inl (hw _ (List.mem_of_getElem? (i := 18) rfl))) Via.refl e0 Fs (g := (mkF m 1 #[.val (.ref a), .val (.int x)] [(.ref a)])) rfl rfl (hb hby d_add2_1)
  refine own_via ?_ st1
  show Go _ _ _ _ _ _ _ _ (mkF m 4 #[.val (.ref a), .val (.int x)] [(.int (2 : Int32))])
  refine own_via ?_ fun _ kt => XS.aloadN X1.here hx rfl (hb hby d_add2_4) rfl rfl kt
  show Go _ _ _ _ _ _ _ _ (mkF m 5 #[.val (.ref a), .val (.int x)] [(.ref a), (.int (2 : Int32))])
  obtain ⟨T2, X2, e2, st2⟩ := getF X1 hx hZ hown (host := "") (Or.inl (hw _ (List.mem_of_getElem? (i := 11) rfl))) Via.refl e1 Fi (g := (mkF m 5 #[.val (.ref a), .val (.int x)] [(.ref a), (.int (2 : Int32))])) rfl rfl (hb hby d_add2_5)
  refine own_via ?_ st2
  show Go _ _ _ _ _ _ _ _ (mkF m 8 #[.val (.ref a), .val (.int x)] [(.ref b), (.int (2 : Int32))])
  obtain ⟨cl3, Ar3, Aq3, AS3, AN3, AH3, AG3⟩ := Vb
  have Vb : Arv Z h0 b kb .int (4 : Int32) [(.int x0), (.int x1), (.int (0 : Int32)), (.int (0 : Int32))] (.int (0 : Int32)) := ⟨cl3, Ar3, Aq3, AS3, AN3, AH3, AG3⟩
  refine own_via ?_ fun _ kt => X2.arraylength hx (by rw [e2]; exact Ar3.1) (State.isArrayOf_alike hZ.alike Ar3.2.1) (g := (mkF m 8 #[.val (.ref a), .val (.int x)] [(.ref b), (.int (2 : Int32))])) rfl rfl (hb hby d_add2_8) _ kt
  rw [len_of AS3 AN3]
  show Go _ _ _ _ _ _ _ _ (mkF m 9 #[.val (.ref a), .val (.int x)] [(.int (4 : Int32)), (.int (2 : Int32))])
  refine own_via ?_ fun _ kt => XS.icmpYes X2.here hx rfl (pc0 := 9) (pc' := 33) rfl (hb hby d_add2_9) rfl (feq (by decide : ¬ ((2 : Int32) = (4 : Int32)))).2 (by decide) (by decide) kt
  show Go _ _ _ _ _ _ _ _ (mkF m 33 #[.val (.ref a), .val (.int x)] [])
  refine own_via ?_ fun _ kt => XS.aloadN X2.here hx rfl (hb hby d_add2_33) rfl rfl kt
  show Go _ _ _ _ _ _ _ _ (mkF m 34 #[.val (.ref a), .val (.int x)] [(.ref a)])
  obtain ⟨T4, X4, e4, st4⟩ := getF X2 hx hZ hown (host := "") (Or.inl (hw _ (List.mem_of_getElem? (i := 11) rfl))) Via.refl e2 Fi (g := (mkF m 34 #[.val (.ref a), .val (.int x)] [(.ref a)])) rfl rfl (hb hby d_add2_34)
  refine own_via ?_ st4
  show Go _ _ _ _ _ _ _ _ (mkF m 37 #[.val (.ref a), .val (.int x)] [(.ref b)])
  refine own_via ?_ fun _ kt => XS.aloadN X4.here hx rfl (hb hby d_add2_37) rfl rfl kt
  show Go _ _ _ _ _ _ _ _ (mkF m 38 #[.val (.ref a), .val (.int x)] [(.ref a), (.ref b)])
  obtain ⟨T5, X5, e5, st5⟩ := getF X4 hx hZ hown (host := "") (Or.inl (hw _ (List.mem_of_getElem? (i := 18) rfl))) Via.refl e4 Fs (g := (mkF m 38 #[.val (.ref a), .val (.int x)] [(.ref a), (.ref b)])) rfl rfl (hb hby d_add2_38)
  refine own_via ?_ st5
  show Go _ _ _ _ _ _ _ _ (mkF m 41 #[.val (.ref a), .val (.int x)] [(.int (2 : Int32)), (.ref b)])
  refine own_via ?_ fun _ kt => XS.iloadN X5.here hx rfl (hb hby d_add2_41) rfl kt
  show Go _ _ _ _ _ _ _ _ (mkF m 42 #[.val (.ref a), .val (.int x)] [(.int x), (.int (2 : Int32)), (.ref b)])
  obtain ⟨cl6, Ar6, Aq6, AS6, AN6, AH6, AG6⟩ := Vb
  have hin7 : ¬ ((2 : Int32) < 0 ∨ cl6.slots.size ≤ ((2 : Int32)).toNatClampNeg) := (inb_of AS6 ⟨by decide, by decide⟩)
  obtain ⟨T7, h7, X7, e7, W7, st7⟩ := stI X5 hx hZ e5 Ar6 (j := (2 : Int32)) hin7 (g := (mkF m 42 #[.val (.ref a), .val (.int x)] [(.int x), (.int (2 : Int32)), (.ref b)])) rfl rfl (hb hby d_add2_42)
  have N7 := Fr.snoc X7 N0 g_b
  have V7 : Arv Z h7 b kb .int (4 : Int32) [(.int x0), (.int x1), (.int x), (.int (0 : Int32))] (.int (0 : Int32)) := Arv.set Ar6 Aq6 AS6 AN6 AH6 AG6 rfl W7 2 rfl (Nat.le_of_ble_eq_true rfl)
  replace E := E.wr W7
  replace Fs := Fs.other W7 (Or.inl neab)
  replace Fi := Fi.other W7 (Or.inl neab)
  replace Z0 := Nat.le_trans Z0 (Keep.of_wr W7).1
  replace K0 := K0.wr W7 (Or.inl (List.mem_of_getElem? (i := 1) rfl))
  refine own_via ?_ st7
  show Go _ _ _ _ _ _ _ _ (mkF m 43 #[.val (.ref a), .val (.int x)] [])
  refine own_via ?_ fun _ kt => XS.aloadN X7.here hx rfl (hb hby d_add2_43) rfl rfl kt
  show Go _ _ _ _ _ _ _ _ (mkF m 44 #[.val (.ref a), .val (.int x)] [(.ref a)])
  refine own_via ?_ fun _ kt => XS.dup X7.here hx rfl (hb hby d_add2_44) rfl rfl kt
  show Go _ _ _ _ _ _ _ _ (mkF m 45 #[.val (.ref a), .val (.int x)] [(.ref a), (.ref a)])
  obtain ⟨T8, X8, e8, st8⟩ := getF X7 hx hZ hown (host := "") (Or.inl (hw _ (List.mem_of_getElem? (i := 18) rfl))) Via.refl e7 Fs (g := (mkF m 45 #[.val (.ref a), .val (.int x)] [(.ref a), (.ref a)])) rfl rfl (hb hby d_add2_45)
  refine own_via ?_ st8
  show Go _ _ _ _ _ _ _ _ (mkF m 48 #[.val (.ref a), .val (.int x)] [(.int (2 : Int32)), (.ref a)])
  refine own_via ?_ fun _ kt => XS.iconst X8.here hx rfl (hb hby d_add2_48) kt
  show Go _ _ _ _ _ _ _ _ (mkF m 49 #[.val (.ref a), .val (.int x)] [(.int (1 : Int32)), (.int (2 : Int32)), (.ref a)])
  refine own_via ?_ fun _ kt => XS.iadd X8.here hx rfl (hb hby d_add2_49) rfl kt
  show Go _ _ _ _ _ _ _ _ (mkF m 50 #[.val (.ref a), .val (.int x)] [(.int ((2 : Int32) + (1 : Int32))), (.ref a)])
  rw [show ((2 : Int32) + (1 : Int32)) = (3 : Int32) from by decide]
  show Go _ _ _ _ _ _ _ _ (mkF m 50 #[.val (.ref a), .val (.int x)] [(.int (3 : Int32)), (.ref a)])
  obtain ⟨T9, h9, X9, e9, W9, st9⟩ := putF X8 hx hZ hown (host := "") (Or.inl (hw _ (List.mem_of_getElem? (i := 18) rfl))) Via.refl e8 Fs E (Or.inl (hw _ (List.mem_of_getElem? (i := 19) rfl))) (hw _ (List.mem_of_getElem? (i := 1) rfl)) (ty := .int) (by decide) rfl rfl (g := (mkF m 50 #[.val (.ref a), .val (.int x)] [(.int (3 : Int32)), (.ref a)])) rfl rfl (hb hby d_add2_50)
  have N9 := Fr.snoc X9 N7 g_a
  replace E := E.wr W9
  replace Fs := Fs.same W9
  replace Fi := Fi.other W9 (Or.inr (slot_ne (Or.inl (hw _ (List.mem_of_getElem? (i := 12) rfl))) (Or.inl (hw _ (List.mem_of_getElem? (i := 19) rfl))) (by decide) (t := (.array .int)) (t' := .int) (by decide) (by decide)))
  replace V7 := V7.other W9 (Ne.symm neab)
  replace Z0 := Nat.le_trans Z0 (Keep.of_wr W9).1
  replace K0 := K0.wr W9 (Or.inl (List.mem_of_getElem? (i := 0) rfl))
  refine own_via ?_ st9
  show Go _ _ _ _ _ _ _ _ (mkF m 53 #[.val (.ref a), .val (.int x)] [])
  exact own_retV X9 hx hret hlk (hb hby d_add2_53) (by decide) (by decide) (by rw [e9]; exact ⟨rfl, N9, K0, E, Fs, Fi, V7⟩)
theorem d_rem0_0 : decode prog_41_method_5_code 0 = .ok (.iconst 0, 1) := by decide +kernel
theorem d_rem0_1 : decode prog_41_method_5_code 1 = .ok (.istore_n 2, 1) := by decide +kernel
theorem d_rem0_2 : decode prog_41_method_5_code 2 = .ok (.iload_n 2, 1) := by decide +kernel
theorem d_rem0_3 : decode prog_41_method_5_code 3 = .ok (.aload_n 0, 1) := by decide +kernel
theorem d_rem0_4 : decode prog_41_method_5_code 4 = .ok (.getfield 16, 3) := by decide +kernel
theorem d_rem0_7 : decode prog_41_method_5_code 7 = .ok (.if_icmp .ge 45, 3) := by decide +kernel
theorem d_rem0_52 : decode prog_41_method_5_code 52 = .ok (.return_, 1) := by decide +kernel
def Q_rem0 (Z : State) (a b : Addr) (kb : ClassId) (it  : Int32) (h0 : Heap) (n0 : Nat) (v : Option Value) (h : Heap) (L : List Loc) : Prop := v = none ∧ Fr n0 L ∧ h = h0
set_option maxRecDepth 65536 in
set_option maxHeartbeats 40000000 in
theorem rm_rem0 (l : Launch) (Z : State) (a0 : Array Value) (hw : ∀ d ∈ tables_1, d.before a0 Z = true) (ws : List Jvm.Cond) (a b : Addr) (kb : ClassId) (it  : Int32) (h0 : Heap) (n0 : Nat) (Z0 : n0 ≤ h0.size) (g_a : n0 ≤ a) (E : Exa Z h0 a "com/example/aspen/aspen/IntList") (Fs : Fld Z h0 a "com/example/aspen/aspen/IntList" "size" "I" (.int (0 : Int32))) (Fi : Fld Z h0 a "com/example/aspen/aspen/IntList" "items" "[I" (.ref b)) :
    MetFree l (⟨"com/example/aspen/aspen/IntList", "remove", "(I)V"⟩ : MethodName) (head1 (Jvm.Cond.code (⟨"com/example/aspen/aspen/IntList", "remove", "(I)V"⟩ : MethodName) prog_41_method_5_code 3 none :: ws) ({ frames := 0, cells := 0, slots := 0, locals := 0 } : Room)) (fun aa_ U => aa_ = #[(.ref a), (.int it)] ∧ Z.Warmed39 U.vm ∧ U.heap = h0) (fun _ _ _ _ _ => True) (fun _ UU_ oo_ UV_ => ∃ vv_ LL_, oo_ = .returned vv_ ∧ (Q_rem0 Z a b kb it h0 n0) vv_ UV_.heap LL_ ∧ FrameEnd UU_ oo_ UV_ LL_ ({ frames := 0, cells := 0, slots := 0, locals := 0 } : Room).cells ({ frames := 0, cells := 0, slots := 0, locals := 0 } : Room).slots) := by
  refine MetFree.of_bodySF (plainFor_of_name pn1) hisR ?_
  intro p e s m args below meth c s₁ Bd hml0 hP hK
  obtain ⟨rfl, hZ, hh⟩ := hP
  have hx := Bd.exec
  have hby := Bd.bytes
  have hlk : meth.locks = false := BodyLoose.notSynchronized Bd
  have hret := Bd.returns
  have hml : c.maxLocals = 3 := hml0
  have hown : s.vm.findClass "com/example/aspen/aspen/IntList" = some m.cls := findClass_of_methodNamed Bd.named
  have hnm := (name_of_methodNamed Bd.named Bd.method).1
  have X0 : Stand p l e ({ frames := 0, cells := 0, slots := 0, locals := 0 } : Room) s m #[(.ref a), (.int it)] below meth c s₁ [] 0 0 := Stand.of_body Bd
  have e0 : s₁.heap = h0 := by rw [← hh, Bd.state]; rfl
  have N0 := Fr.nil n0
  show Go p e below s ({ frames := 0, cells := 0, slots := 0, locals := 0 } : Room).cells ({ frames := 0, cells := 0, slots := 0, locals := 0 } : Room).slots (Q_rem0 Z a b kb it h0 n0) s₁ (entryFrame m #[(.ref a), (.int it)] 3)
  refine own_cast (g' := mkF m 0 #[.val (.ref a), .val (.int it), .unset] []) (by first | (simp [entryFrame, mkF, argsToLocals, Value.category]; done) | rfl) ?_
  have K0 := Keep.refl h0 ([a, b] : List Addr)
  show Go _ _ _ _ _ _ _ _ (mkF m 0 #[.val (.ref a), .val (.int it), .unset] [])
  refine own_via ?_ fun _ kt => XS.iconst X0.here hx rfl (hb hby d_rem0_0) kt
  show Go _ _ _ _ _ _ _ _ (mkF m 1 #[.val (.ref a), .val (.int it), .unset] [(.int (0 : Int32))])
  refine own_via ?_ fun _ kt => XS.istoreN X0.here hx rfl (hb hby d_rem0_1) rfl (l' := #[.val (.ref a), .val (.int it), .val (.int (0 : Int32))]) rfl kt
  show Go _ _ _ _ _ _ _ _ (mkF m 2 #[.val (.ref a), .val (.int it), .val (.int (0 : Int32))] [])
  refine own_via ?_ fun _ kt => XS.iloadN X0.here hx rfl (hb hby d_rem0_2) rfl kt
  show Go _ _ _ _ _ _ _ _ (mkF m 3 #[.val (.ref a), .val (.int it), .val (.int (0 : Int32))] [(.int (0 : Int32))])
  refine own_via ?_ fun _ kt => XS.aloadN X0.here hx rfl (hb hby d_rem0_3) rfl rfl kt
  show Go _ _ _ _ _ _ _ _ (mkF m 4 #[.val (.ref a), .val (.int it), .val (.int (0 : Int32))] [(.ref a), (.int (0 : Int32))])
  obtain ⟨T1, X1, e1, st1⟩ := getF X0 hx hZ hown (host := "") (Or.inl (hw _ (List.mem_of_getElem? (i := 18) rfl))) Via.refl e0 Fs (g := (mkF m 4 #[.val (.ref a), .val (.int it), .val (.int (0 : Int32))] [(.ref a), (.int (0 : Int32))])) rfl rfl (hb hby d_rem0_4)
  refine own_via ?_ st1
  show Go _ _ _ _ _ _ _ _ (mkF m 7 #[.val (.ref a), .val (.int it), .val (.int (0 : Int32))] [(.int (0 : Int32)), (.int (0 : Int32))])
  refine own_via ?_ fun _ kt => XS.icmpYes X1.here hx rfl (pc0 := 7) (pc' := 52) rfl (hb hby d_rem0_7) rfl (flt (by decide : ¬ ((0 : Int32) < (0 : Int32)))).2.1 (by decide) (by decide) kt
  show Go _ _ _ _ _ _ _ _ (mkF m 52 #[.val (.ref a), .val (.int it), .val (.int (0 : Int32))] [])
  exact own_retV X1 hx hret hlk (hb hby d_rem0_52) (by decide) (by decide) (by rw [e1]; exact ⟨rfl, N0, rfl⟩)
theorem d_rem1_0 : decode prog_41_method_5_code 0 = .ok (.iconst 0, 1) := by decide +kernel
theorem d_rem1_1 : decode prog_41_method_5_code 1 = .ok (.istore_n 2, 1) := by decide +kernel
theorem d_rem1_2 : decode prog_41_method_5_code 2 = .ok (.iload_n 2, 1) := by decide +kernel
theorem d_rem1_3 : decode prog_41_method_5_code 3 = .ok (.aload_n 0, 1) := by decide +kernel
theorem d_rem1_4 : decode prog_41_method_5_code 4 = .ok (.getfield 16, 3) := by decide +kernel
theorem d_rem1_7 : decode prog_41_method_5_code 7 = .ok (.if_icmp .ge 45, 3) := by decide +kernel
theorem d_rem1_10 : decode prog_41_method_5_code 10 = .ok (.aload_n 0, 1) := by decide +kernel
theorem d_rem1_11 : decode prog_41_method_5_code 11 = .ok (.getfield 13, 3) := by decide +kernel
theorem d_rem1_14 : decode prog_41_method_5_code 14 = .ok (.iload_n 2, 1) := by decide +kernel
theorem d_rem1_15 : decode prog_41_method_5_code 15 = .ok (.iaload, 1) := by decide +kernel
theorem d_rem1_16 : decode prog_41_method_5_code 16 = .ok (.iload_n 1, 1) := by decide +kernel
theorem d_rem1_17 : decode prog_41_method_5_code 17 = .ok (.if_icmp .ne 29, 3) := by decide +kernel
theorem d_rem1_20 : decode prog_41_method_5_code 20 = .ok (.aload_n 0, 1) := by decide +kernel
theorem d_rem1_21 : decode prog_41_method_5_code 21 = .ok (.dup, 1) := by decide +kernel
theorem d_rem1_22 : decode prog_41_method_5_code 22 = .ok (.getfield 16, 3) := by decide +kernel
theorem d_rem1_25 : decode prog_41_method_5_code 25 = .ok (.iconst 1, 1) := by decide +kernel
theorem d_rem1_26 : decode prog_41_method_5_code 26 = .ok (.isub, 1) := by decide +kernel
theorem d_rem1_27 : decode prog_41_method_5_code 27 = .ok (.putfield 16, 3) := by decide +kernel
theorem d_rem1_30 : decode prog_41_method_5_code 30 = .ok (.aload_n 0, 1) := by decide +kernel
theorem d_rem1_31 : decode prog_41_method_5_code 31 = .ok (.getfield 13, 3) := by decide +kernel
theorem d_rem1_34 : decode prog_41_method_5_code 34 = .ok (.iload_n 2, 1) := by decide +kernel
theorem d_rem1_35 : decode prog_41_method_5_code 35 = .ok (.aload_n 0, 1) := by decide +kernel
theorem d_rem1_36 : decode prog_41_method_5_code 36 = .ok (.getfield 13, 3) := by decide +kernel
theorem d_rem1_39 : decode prog_41_method_5_code 39 = .ok (.aload_n 0, 1) := by decide +kernel
theorem d_rem1_40 : decode prog_41_method_5_code 40 = .ok (.getfield 16, 3) := by decide +kernel
theorem d_rem1_43 : decode prog_41_method_5_code 43 = .ok (.iaload, 1) := by decide +kernel
theorem d_rem1_44 : decode prog_41_method_5_code 44 = .ok (.iastore, 1) := by decide +kernel
theorem d_rem1_45 : decode prog_41_method_5_code 45 = .ok (.return_, 1) := by decide +kernel
theorem d_rem1_46 : decode prog_41_method_5_code 46 = .ok (.iinc 2 1, 3) := by decide +kernel
theorem d_rem1_49 : decode prog_41_method_5_code 49 = .ok (.goto (-47), 3) := by decide +kernel
theorem d_rem1_52 : decode prog_41_method_5_code 52 = .ok (.return_, 1) := by decide +kernel
def Q_rem1 (Z : State) (a b : Addr) (kb : ClassId) (it x0 : Int32) (h0 : Heap) (n0 : Nat) (v : Option Value) (h : Heap) (L : List Loc) : Prop := v = none ∧ Fr n0 L ∧ Keep h0 h [a, b] ∧ ((x0 = it ∧ Exa Z h a "com/example/aspen/aspen/IntList" ∧ Fld Z h a "com/example/aspen/aspen/IntList" "size" "I" (.int (0 : Int32)) ∧ Fld Z h a "com/example/aspen/aspen/IntList" "items" "[I" (.ref b) ∧ Arv Z h b kb .int (4 : Int32) [(.int x0), (.int (0 : Int32)), (.int (0 : Int32)), (.int (0 : Int32))] (.int (0 : Int32))) ∨ (¬ x0 = it ∧ Exa Z h a "com/example/aspen/aspen/IntList" ∧ Fld Z h a "com/example/aspen/aspen/IntList" "size" "I" (.int (1 : Int32)) ∧ Fld Z h a "com/example/aspen/aspen/IntList" "items" "[I" (.ref b) ∧ Arv Z h b kb .int (4 : Int32) [(.int x0), (.int (0 : Int32)), (.int (0 : Int32)), (.int (0 : Int32))] (.int (0 : Int32))))
set_option maxRecDepth 65536 in
set_option maxHeartbeats 40000000 in
theorem rm_rem1 (l : Launch) (Z : State) (a0 : Array Value) (hw : ∀ d ∈ tables_1, d.before a0 Z = true) (ws : List Jvm.Cond) (a b : Addr) (kb : ClassId) (it x0 : Int32) (h0 : Heap) (n0 : Nat) (Z0 : n0 ≤ h0.size) (g_a : n0 ≤ a) (g_b : n0 ≤ b) (neab : a ≠ b) (E : Exa Z h0 a "com/example/aspen/aspen/IntList") (Fs : Fld Z h0 a "com/example/aspen/aspen/IntList" "size" "I" (.int (1 : Int32))) (Fi : Fld Z h0 a "com/example/aspen/aspen/IntList" "items" "[I" (.ref b)) (Vb : Arv Z h0 b kb .int (4 : Int32) [(.int x0), (.int (0 : Int32)), (.int (0 : Int32)), (.int (0 : Int32))] (.int (0 : Int32))) :
    MetFree l (⟨"com/example/aspen/aspen/IntList", "remove", "(I)V"⟩ : MethodName) (head1 (Jvm.Cond.code (⟨"com/example/aspen/aspen/IntList", "remove", "(I)V"⟩ : MethodName) prog_41_method_5_code 3 none :: ws) ({ frames := 0, cells := 0, slots := 0, locals := 0 } : Room)) (fun aa_ U => aa_ = #[(.ref a), (.int it)] ∧ Z.Warmed39 U.vm ∧ U.heap = h0) (fun _ _ _ _ _ => True) (fun _ UU_ oo_ UV_ => ∃ vv_ LL_, oo_ = .returned vv_ ∧ (Q_rem1 Z a b kb it x0 h0 n0) vv_ UV_.heap LL_ ∧ FrameEnd UU_ oo_ UV_ LL_ ({ frames := 0, cells := 0, slots := 0, locals := 0 } : Room).cells ({ frames := 0, cells := 0, slots := 0, locals := 0 } : Room).slots) := by
  refine MetFree.of_bodySF (plainFor_of_name pn1) hisR ?_
  intro p e s m args below meth c s₁ Bd hml0 hP hK
  obtain ⟨rfl, hZ, hh⟩ := hP
  have hx := Bd.exec
  have hby := Bd.bytes
  have hlk : meth.locks = false := BodyLoose.notSynchronized Bd
  have hret := Bd.returns
  have hml : c.maxLocals = 3 := hml0
  have hown : s.vm.findClass "com/example/aspen/aspen/IntList" = some m.cls := findClass_of_methodNamed Bd.named
  have hnm := (name_of_methodNamed Bd.named Bd.method).1
  have X0 : Stand p l e ({ frames := 0, cells := 0, slots := 0, locals := 0 } : Room) s m #[(.ref a), (.int it)] below meth c s₁ [] 0 0 := Stand.of_body Bd
  have e0 : s₁.heap = h0 := by rw [← hh, Bd.state]; rfl
  have N0 := Fr.nil n0
  show Go p e below s ({ frames := 0, cells := 0, slots := 0, locals := 0 } : Room).cells ({ frames := 0, cells := 0, slots := 0, locals := 0 } : Room).slots (Q_rem1 Z a b kb it x0 h0 n0) s₁ (entryFrame m #[(.ref a), (.int it)] 3)
  refine own_cast (g' := mkF m 0 #[.val (.ref a), .val (.int it), .unset] []) (by first | (simp [entryFrame, mkF, argsToLocals, Value.category]; done) | rfl) ?_
  have K0 := Keep.refl h0 ([a, b] : List Addr)
  show Go _ _ _ _ _ _ _ _ (mkF m 0 #[.val (.ref a), .val (.int it), .unset] [])
  refine own_via ?_ fun _ kt => XS.iconst X0.here hx rfl (hb hby d_rem1_0) kt
  show Go _ _ _ _ _ _ _ _ (mkF m 1 #[.val (.ref a), .val (.int it), .unset] [(.int (0 : Int32))])
  refine own_via ?_ fun _ kt => XS.istoreN X0.here hx rfl (hb hby d_rem1_1) rfl (l' := #[.val (.ref a), .val (.int it), .val (.int (0 : Int32))]) rfl kt
  show Go _ _ _ _ _ _ _ _ (mkF m 2 #[.val (.ref a), .val (.int it), .val (.int (0 : Int32))] [])
  refine own_via ?_ fun _ kt => XS.iloadN X0.here hx rfl (hb hby d_rem1_2) rfl kt
  show Go _ _ _ _ _ _ _ _ (mkF m 3 #[.val (.ref a), .val (.int it), .val (.int (0 : Int32))] [(.int (0 : Int32))])
  refine own_via ?_ fun _ kt => XS.aloadN X0.here hx rfl (hb hby d_rem1_3) rfl rfl kt
  show Go _ _ _ _ _ _ _ _ (mkF m 4 #[.val (.ref a), .val (.int it), .val (.int (0 : Int32))] [(.ref a), (.int (0 : Int32))])
  obtain ⟨T1, X1, e1, st1⟩ := getF X0 hx hZ hown (host := "") (Or.inl (hw _ (List.mem_of_getElem? (i := 18) rfl))) Via.refl e0 Fs (g := (mkF m 4 #[.val (.ref a), .val (.int it), .val (.int (0 : Int32))] [(.ref a), (.int (0 : Int32))])) rfl rfl (hb hby d_rem1_4)
  refine own_via ?_ st1
  show Go _ _ _ _ _ _ _ _ (mkF m 7 #[.val (.ref a), .val (.int it), .val (.int (0 : Int32))] [(.int (1 : Int32)), (.int (0 : Int32))])
  refine own_via ?_ fun _ kt => XS.icmpNo X1.here hx rfl (hb hby d_rem1_7) rfl (tlt (by decide : ((0 : Int32) < (1 : Int32)))).2.1 kt
  show Go _ _ _ _ _ _ _ _ (mkF m 10 #[.val (.ref a), .val (.int it), .val (.int (0 : Int32))] [])
  refine own_via ?_ fun _ kt => XS.aloadN X1.here hx rfl (hb hby d_rem1_10) rfl rfl kt
  show Go _ _ _ _ _ _ _ _ (mkF m 11 #[.val (.ref a), .val (.int it), .val (.int (0 : Int32))] [(.ref a)])
  obtain ⟨T2, X2, e2, st2⟩ := getF X1 hx hZ hown (host := "") (Or.inl (hw _ (List.mem_of_getElem? (i := 11) rfl))) Via.refl e1 Fi (g := (mkF m 11 #[.val (.ref a), .val (.int it), .val (.int (0 : Int32))] [(.ref a)])) rfl rfl (hb hby d_rem1_11)
  refine own_via ?_ st2
  show Go _ _ _ _ _ _ _ _ (mkF m 14 #[.val (.ref a), .val (.int it), .val (.int (0 : Int32))] [(.ref b)])
  refine own_via ?_ fun _ kt => XS.iloadN X2.here hx rfl (hb hby d_rem1_14) rfl kt
  show Go _ _ _ _ _ _ _ _ (mkF m 15 #[.val (.ref a), .val (.int it), .val (.int (0 : Int32))] [(.int (0 : Int32)), (.ref b)])
  obtain ⟨cl3, Ar3, Aq3, AS3, AN3, AH3, AG3⟩ := Vb
  have Vb : Arv Z h0 b kb .int (4 : Int32) [(.int x0), (.int (0 : Int32)), (.int (0 : Int32)), (.int (0 : Int32))] (.int (0 : Int32)) := ⟨cl3, Ar3, Aq3, AS3, AN3, AH3, AG3⟩
  have hin4 : ¬ ((0 : Int32) < 0 ∨ cl3.slots.size ≤ ((0 : Int32)).toNatClampNeg) := (inb_of AS3 ⟨by decide, by decide⟩)
  have hat4 : cl3.slots[((0 : Int32)).toNatClampNeg]? = some (.int x0) := (AH3.at hin4 rfl)
  refine own_via ?_ fun _ kt => X2.iaload hx (j := (0 : Int32)) (v := (.int x0)) (by rw [e2]; exact Ar3.1) (State.isArrayOf_alike hZ.alike Ar3.2.1) Ar3.2.2 hin4 hat4 (g := (mkF m 15 #[.val (.ref a), .val (.int it), .val (.int (0 : Int32))] [(.int (0 : Int32)), (.ref b)])) rfl rfl (hb hby d_rem1_15) _ kt
  show Go _ _ _ _ _ _ _ _ (mkF m 16 #[.val (.ref a), .val (.int it), .val (.int (0 : Int32))] [(.int x0)])
  refine own_via ?_ fun _ kt => XS.iloadN X2.here hx rfl (hb hby d_rem1_16) rfl kt
  show Go _ _ _ _ _ _ _ _ (mkF m 17 #[.val (.ref a), .val (.int it), .val (.int (0 : Int32))] [(.int it), (.int x0)])
  by_cases hc5 : x0 = it
  · skip
    refine own_via ?_ fun _ kt => XS.icmpNo X2.here hx rfl (hb hby d_rem1_17) rfl (teq hc5).2 kt
    show Go _ _ _ _ _ _ _ _ (mkF m 20 #[.val (.ref a), .val (.int it), .val (.int (0 : Int32))] [])
    refine own_via ?_ fun _ kt => XS.aloadN X2.here hx rfl (hb hby d_rem1_20) rfl rfl kt
    show Go _ _ _ _ _ _ _ _ (mkF m 21 #[.val (.ref a), .val (.int it), .val (.int (0 : Int32))] [(.ref a)])
    refine own_via ?_ fun _ kt => XS.dup X2.here hx rfl (hb hby d_rem1_21) rfl rfl kt
    show Go _ _ _ _ _ _ _ _ (mkF m 22 #[.val (.ref a), .val (.int it), .val (.int (0 : Int32))] [(.ref a), (.ref a)])
    obtain ⟨T6, X6, e6, st6⟩ := getF X2 hx hZ hown (host := "") (Or.inl (hw _ (List.mem_of_getElem? (i := 18) rfl))) Via.refl e2 Fs (g := (mkF m 22 #[.val (.ref a), .val (.int it), .val (.int (0 : Int32))] [(.ref a), (.ref a)])) rfl rfl (hb hby d_rem1_22)
    refine own_via ?_ st6
    show Go _ _ _ _ _ _ _ _ (mkF m 25 #[.val (.ref a), .val (.int it), .val (.int (0 : Int32))] [(.int (1 : Int32)), (.ref a)])
    refine own_via ?_ fun _ kt => XS.iconst X6.here hx rfl (hb hby d_rem1_25) kt
    show Go _ _ _ _ _ _ _ _ (mkF m 26 #[.val (.ref a), .val (.int it), .val (.int (0 : Int32))] [(.int (1 : Int32)), (.int (1 : Int32)), (.ref a)])
    refine own_via ?_ fun _ kt => XS.isub X6.here hx rfl (hb hby d_rem1_26) rfl kt
    show Go _ _ _ _ _ _ _ _ (mkF m 27 #[.val (.ref a), .val (.int it), .val (.int (0 : Int32))] [(.int ((1 : Int32) - (1 : Int32))), (.ref a)])
    rw [show ((1 : Int32) - (1 : Int32)) = (0 : Int32) from by decide]
    show Go _ _ _ _ _ _ _ _ (mkF m 27 #[.val (.ref a), .val (.int it), .val (.int (0 : Int32))] [(.int (0 : Int32)), (.ref a)])
    obtain ⟨T7, h7, X7, e7, W7, st7⟩ := putF X6 hx hZ hown (host := "") (Or.inl (hw _ (List.mem_of_getElem? (i := 18) rfl))) Via.refl e6 Fs E (Or.inl (hw _ (List.mem_of_getElem? (i := 19) rfl))) (hw _ (List.mem_of_getElem? (i := 1) rfl)) (ty := .int) (by decide) rfl rfl (g := (mkF m 27 #[.val (.ref a), .val (.int it), .val (.int (0 : Int32))] [(.int (0 : Int32)), (.ref a)])) rfl rfl (hb hby d_rem1_27)
    have N7 := Fr.snoc X7 N0 g_a
    replace E := E.wr W7
    replace Fs := Fs.same W7
    replace Fi := Fi.other W7 (Or.inr (slot_ne (Or.inl (hw _ (List.mem_of_getElem? (i := 12) rfl))) (Or.inl (hw _ (List.mem_of_getElem? (i := 19) rfl))) (by decide) (t := (.array .int)) (t' := .int) (by decide) (by decide)))
    replace Vb := Vb.other W7 (Ne.symm neab)
    replace Z0 := Nat.le_trans Z0 (Keep.of_wr W7).1
    replace K0 := K0.wr W7 (Or.inl (List.mem_of_getElem? (i := 0) rfl))
    refine own_via ?_ st7
    show Go _ _ _ _ _ _ _ _ (mkF m 30 #[.val (.ref a), .val (.int it), .val (.int (0 : Int32))] [])
    refine own_via ?_ fun _ kt => XS.aloadN X7.here hx rfl (hb hby d_rem1_30) rfl rfl kt
    show Go _ _ _ _ _ _ _ _ (mkF m 31 #[.val (.ref a), .val (.int it), .val (.int (0 : Int32))] [(.ref a)])
    obtain ⟨T8, X8, e8, st8⟩ := getF X7 hx hZ hown (host := "") (Or.inl (hw _ (List.mem_of_getElem? (i := 11) rfl))) Via.refl e7 Fi (g := (mkF m 31 #[.val (.ref a), .val (.int it), .val (.int (0 : Int32))] [(.ref a)])) rfl rfl (hb hby d_rem1_31)
    refine own_via ?_ st8
    show Go _ _ _ _ _ _ _ _ (mkF m 34 #[.val (.ref a), .val (.int it), .val (.int (0 : Int32))] [(.ref b)])
    refine own_via ?_ fun _ kt => XS.iloadN X8.here hx rfl (hb hby d_rem1_34) rfl kt
    show Go _ _ _ _ _ _ _ _ (mkF m 35 #[.val (.ref a), .val (.int it), .val (.int (0 : Int32))] [(.int (0 : Int32)), (.ref b)])
    refine own_via ?_ fun _ kt => XS.aloadN X8.here hx rfl (hb hby d_rem1_35) rfl rfl kt
    show Go _ _ _ _ _ _ _ _ (mkF m 36 #[.val (.ref a), .val (.int it), .val (.int (0 : Int32))] [(.ref a), (.int (0 : Int32)), (.ref b)])
    obtain ⟨T9, X9, e9, st9⟩ := getF X8 hx hZ hown (host := "") (Or.inl (hw _ (List.mem_of_getElem? (i := 11) rfl))) Via.refl e8 Fi (g := (mkF m 36 #[.val (.ref a), .val (.int it), .val (.int (0 : Int32))] [(.ref a), (.int (0 : Int32)), (.ref b)])) rfl rfl (hb hby d_rem1_36)
    refine own_via ?_ st9
    show Go _ _ _ _ _ _ _ _ (mkF m 39 #[.val (.ref a), .val (.int it), .val (.int (0 : Int32))] [(.ref b), (.int (0 : Int32)), (.ref b)])
    refine own_via ?_ fun _ kt => XS.aloadN X9.here hx rfl (hb hby d_rem1_39) rfl rfl kt
    show Go _ _ _ _ _ _ _ _ (mkF m 40 #[.val (.ref a), .val (.int it), .val (.int (0 : Int32))] [(.ref a), (.ref b), (.int (0 : Int32)), (.ref b)])
    obtain ⟨T10, X10, e10, st10⟩ := getF X9 hx hZ hown (host := "") (Or.inl (hw _ (List.mem_of_getElem? (i := 18) rfl))) Via.refl e9 Fs (g := (mkF m 40 #[.val (.ref a), .val (.int it), .val (.int (0 : Int32))] [(.ref a), (.ref b), (.int (0 : Int32)), (.ref b)])) rfl rfl (hb hby d_rem1_40)
    refine own_via ?_ st10
    show Go _ _ _ _ _ _ _ _ (mkF m 43 #[.val (.ref a), .val (.int it), .val (.int (0 : Int32))] [(.int (0 : Int32)), (.ref b), (.int (0 : Int32)), (.ref b)])
    obtain ⟨cl11, Ar11, Aq11, AS11, AN11, AH11, AG11⟩ := Vb
    have Vb : Arv Z h7 b kb .int (4 : Int32) [(.int x0), (.int (0 : Int32)), (.int (0 : Int32)), (.int (0 : Int32))] (.int (0 : Int32)) := ⟨cl11, Ar11, Aq11, AS11, AN11, AH11, AG11⟩
    have hin12 : ¬ ((0 : Int32) < 0 ∨ cl11.slots.size ≤ ((0 : Int32)).toNatClampNeg) := (inb_of AS11 ⟨by decide, by decide⟩)
    have hat12 : cl11.slots[((0 : Int32)).toNatClampNeg]? = some (.int x0) := (AH11.at hin12 rfl)
    refine own_via ?_ fun _ kt => X10.iaload hx (j := (0 : Int32)) (v := (.int x0)) (by rw [e10]; exact Ar11.1) (State.isArrayOf_alike hZ.alike Ar11.2.1) Ar11.2.2 hin12 hat12 (g := (mkF m 43 #[.val (.ref a), .val (.int it), .val (.int (0 : Int32))] [(.int (0 : Int32)), (.ref b), (.int (0 : Int32)), (.ref b)])) rfl rfl (hb hby d_rem1_43) _ kt
    show Go _ _ _ _ _ _ _ _ (mkF m 44 #[.val (.ref a), .val (.int it), .val (.int (0 : Int32))] [(.int x0), (.int (0 : Int32)), (.ref b)])
    obtain ⟨cl13, Ar13, Aq13, AS13, AN13, AH13, AG13⟩ := Vb
    have hin14 : ¬ ((0 : Int32) < 0 ∨ cl13.slots.size ≤ ((0 : Int32)).toNatClampNeg) := (inb_of AS13 ⟨by decide, by decide⟩)
    obtain ⟨T14, h14, X14, e14, W14, st14⟩ := stI X10 hx hZ e10 Ar13 (j := (0 : Int32)) hin14 (g := (mkF m 44 #[.val (.ref a), .val (.int it), .val (.int (0 : Int32))] [(.int x0), (.int (0 : Int32)), (.ref b)])) rfl rfl (hb hby d_rem1_44)
    have N14 := Fr.snoc X14 N7 g_b
    have V14 : Arv Z h14 b kb .int (4 : Int32) [(.int x0), (.int (0 : Int32)), (.int (0 : Int32)), (.int (0 : Int32))] (.int (0 : Int32)) := Arv.set Ar13 Aq13 AS13 AN13 AH13 AG13 rfl W14 0 rfl (Nat.le_of_ble_eq_true rfl)
    replace E := E.wr W14
    replace Fs := Fs.other W14 (Or.inl neab)
    replace Fi := Fi.other W14 (Or.inl neab)
    replace Z0 := Nat.le_trans Z0 (Keep.of_wr W14).1
    replace K0 := K0.wr W14 (Or.inl (List.mem_of_getElem? (i := 1) rfl))
    refine own_via ?_ st14
    show Go _ _ _ _ _ _ _ _ (mkF m 45 #[.val (.ref a), .val (.int it), .val (.int (0 : Int32))] [])
    exact own_retV X14 hx hret hlk (hb hby d_rem1_45) (by decide) (by decide) (by rw [e14]; exact ⟨rfl, N14, K0, Or.inl ⟨hc5, E, Fs, Fi, V14⟩⟩)
  · skip
    refine own_via ?_ fun _ kt => XS.icmpYes X2.here hx rfl (pc0 := 17) (pc' := 46) rfl (hb hby d_rem1_17) rfl (feq hc5).2 (by decide) (by decide) kt
    show Go _ _ _ _ _ _ _ _ (mkF m 46 #[.val (.ref a), .val (.int it), .val (.int (0 : Int32))] [])
    refine own_via ?_ fun _ kt => XS.iinc X2.here hx rfl (hb hby d_rem1_46) rfl (l' := #[.val (.ref a), .val (.int it), .val (.int ((0 : Int32) + (1 : Int32)))]) rfl kt
    show Go _ _ _ _ _ _ _ _ (mkF m 49 #[.val (.ref a), .val (.int it), .val (.int ((0 : Int32) + (1 : Int32)))] [])
    rw [show ((0 : Int32) + (1 : Int32)) = (1 : Int32) from by decide]
    show Go _ _ _ _ _ _ _ _ (mkF m 49 #[.val (.ref a), .val (.int it), .val (.int (1 : Int32))] [])
    refine own_via ?_ fun _ kt => XS.goto X2.here hx rfl (pc0 := 49) (pc' := 2) rfl (hb hby d_rem1_49) (by decide) (by decide) kt
    show Go _ _ _ _ _ _ _ _ (mkF m 2 #[.val (.ref a), .val (.int it), .val (.int (1 : Int32))] [])
    refine own_via ?_ fun _ kt => XS.iloadN X2.here hx rfl (hb hby d_rem1_2) rfl kt
    show Go _ _ _ _ _ _ _ _ (mkF m 3 #[.val (.ref a), .val (.int it), .val (.int (1 : Int32))] [(.int (1 : Int32))])
    refine own_via ?_ fun _ kt => XS.aloadN X2.here hx rfl (hb hby d_rem1_3) rfl rfl kt
    show Go _ _ _ _ _ _ _ _ (mkF m 4 #[.val (.ref a), .val (.int it), .val (.int (1 : Int32))] [(.ref a), (.int (1 : Int32))])
    obtain ⟨T15, X15, e15, st15⟩ := getF X2 hx hZ hown (host := "") (Or.inl (hw _ (List.mem_of_getElem? (i := 18) rfl))) Via.refl e2 Fs (g := (mkF m 4 #[.val (.ref a), .val (.int it), .val (.int (1 : Int32))] [(.ref a), (.int (1 : Int32))])) rfl rfl (hb hby d_rem1_4)
    refine own_via ?_ st15
    show Go _ _ _ _ _ _ _ _ (mkF m 7 #[.val (.ref a), .val (.int it), .val (.int (1 : Int32))] [(.int (1 : Int32)), (.int (1 : Int32))])
    refine own_via ?_ fun _ kt => XS.icmpYes X15.here hx rfl (pc0 := 7) (pc' := 52) rfl (hb hby d_rem1_7) rfl (flt (by decide : ¬ ((1 : Int32) < (1 : Int32)))).2.1 (by decide) (by decide) kt
    show Go _ _ _ _ _ _ _ _ (mkF m 52 #[.val (.ref a), .val (.int it), .val (.int (1 : Int32))] [])
    exact own_retV X15 hx hret hlk (hb hby d_rem1_52) (by decide) (by decide) (by rw [e15]; exact ⟨rfl, N0, K0, Or.inr (⟨hc5, E, Fs, Fi, Vb⟩)⟩)
theorem d_rem2_0 : decode prog_41_method_5_code 0 = .ok (.iconst 0, 1) := by decide +kernel
theorem d_rem2_1 : decode prog_41_method_5_code 1 = .ok (.istore_n 2, 1) := by decide +kernel
theorem d_rem2_2 : decode prog_41_method_5_code 2 = .ok (.iload_n 2, 1) := by decide +kernel
theorem d_rem2_3 : decode prog_41_method_5_code 3 = .ok (.aload_n 0, 1) := by decide +kernel
theorem d_rem2_4 : decode prog_41_method_5_code 4 = .ok (.getfield 16, 3) := by decide +kernel
theorem d_rem2_7 : decode prog_41_method_5_code 7 = .ok (.if_icmp .ge 45, 3) := by decide +kernel
theorem d_rem2_10 : decode prog_41_method_5_code 10 = .ok (.aload_n 0, 1) := by decide +kernel
theorem d_rem2_11 : decode prog_41_method_5_code 11 = .ok (.getfield 13, 3) := by decide +kernel
theorem d_rem2_14 : decode prog_41_method_5_code 14 = .ok (.iload_n 2, 1) := by decide +kernel
theorem d_rem2_15 : decode prog_41_method_5_code 15 = .ok (.iaload, 1) := by decide +kernel
theorem d_rem2_16 : decode prog_41_method_5_code 16 = .ok (.iload_n 1, 1) := by decide +kernel
theorem d_rem2_17 : decode prog_41_method_5_code 17 = .ok (.if_icmp .ne 29, 3) := by decide +kernel
theorem d_rem2_20 : decode prog_41_method_5_code 20 = .ok (.aload_n 0, 1) := by decide +kernel
theorem d_rem2_21 : decode prog_41_method_5_code 21 = .ok (.dup, 1) := by decide +kernel
theorem d_rem2_22 : decode prog_41_method_5_code 22 = .ok (.getfield 16, 3) := by decide +kernel
theorem d_rem2_25 : decode prog_41_method_5_code 25 = .ok (.iconst 1, 1) := by decide +kernel
theorem d_rem2_26 : decode prog_41_method_5_code 26 = .ok (.isub, 1) := by decide +kernel
theorem d_rem2_27 : decode prog_41_method_5_code 27 = .ok (.putfield 16, 3) := by decide +kernel
theorem d_rem2_30 : decode prog_41_method_5_code 30 = .ok (.aload_n 0, 1) := by decide +kernel
theorem d_rem2_31 : decode prog_41_method_5_code 31 = .ok (.getfield 13, 3) := by decide +kernel
theorem d_rem2_34 : decode prog_41_method_5_code 34 = .ok (.iload_n 2, 1) := by decide +kernel
theorem d_rem2_35 : decode prog_41_method_5_code 35 = .ok (.aload_n 0, 1) := by decide +kernel
theorem d_rem2_36 : decode prog_41_method_5_code 36 = .ok (.getfield 13, 3) := by decide +kernel
theorem d_rem2_39 : decode prog_41_method_5_code 39 = .ok (.aload_n 0, 1) := by decide +kernel
theorem d_rem2_40 : decode prog_41_method_5_code 40 = .ok (.getfield 16, 3) := by decide +kernel
theorem d_rem2_43 : decode prog_41_method_5_code 43 = .ok (.iaload, 1) := by decide +kernel
theorem d_rem2_44 : decode prog_41_method_5_code 44 = .ok (.iastore, 1) := by decide +kernel
theorem d_rem2_45 : decode prog_41_method_5_code 45 = .ok (.return_, 1) := by decide +kernel
theorem d_rem2_46 : decode prog_41_method_5_code 46 = .ok (.iinc 2 1, 3) := by decide +kernel
theorem d_rem2_49 : decode prog_41_method_5_code 49 = .ok (.goto (-47), 3) := by decide +kernel
theorem d_rem2_52 : decode prog_41_method_5_code 52 = .ok (.return_, 1) := by decide +kernel
def Q_rem2 (Z : State) (a b : Addr) (kb : ClassId) (it x0 x1 : Int32) (h0 : Heap) (n0 : Nat) (v : Option Value) (h : Heap) (L : List Loc) : Prop := v = none ∧ Fr n0 L ∧ Keep h0 h [a, b] ∧ ((x0 = it ∧ Exa Z h a "com/example/aspen/aspen/IntList" ∧ Fld Z h a "com/example/aspen/aspen/IntList" "size" "I" (.int (1 : Int32)) ∧ Fld Z h a "com/example/aspen/aspen/IntList" "items" "[I" (.ref b) ∧ Arv Z h b kb .int (4 : Int32) [(.int x1), (.int x1), (.int (0 : Int32)), (.int (0 : Int32))] (.int (0 : Int32))) ∨ (¬ x0 = it ∧ x1 = it ∧ Exa Z h a "com/example/aspen/aspen/IntList" ∧ Fld Z h a "com/example/aspen/aspen/IntList" "size" "I" (.int (1 : Int32)) ∧ Fld Z h a "com/example/aspen/aspen/IntList" "items" "[I" (.ref b) ∧ Arv Z h b kb .int (4 : Int32) [(.int x0), (.int x1), (.int (0 : Int32)), (.int (0 : Int32))] (.int (0 : Int32))) ∨ (¬ x0 = it ∧ ¬ x1 = it ∧ Exa Z h a "com/example/aspen/aspen/IntList" ∧ Fld Z h a "com/example/aspen/aspen/IntList" "size" "I" (.int (2 : Int32)) ∧ Fld Z h a "com/example/aspen/aspen/IntList" "items" "[I" (.ref b) ∧ Arv Z h b kb .int (4 : Int32) [(.int x0), (.int x1), (.int (0 : Int32)), (.int (0 : Int32))] (.int (0 : Int32))))
set_option maxRecDepth 65536 in
set_option maxHeartbeats 40000000 in
theorem rm_rem2 (l : Launch) (Z : State) (a0 : Array Value) (hw : ∀ d ∈ tables_1, d.before a0 Z = true) (ws : List Jvm.Cond) (a b : Addr) (kb : ClassId) (it x0 x1 : Int32) (h0 : Heap) (n0 : Nat) (Z0 : n0 ≤ h0.size) (g_a : n0 ≤ a) (g_b : n0 ≤ b) (neab : a ≠ b) (E : Exa Z h0 a "com/example/aspen/aspen/IntList") (Fs : Fld Z h0 a "com/example/aspen/aspen/IntList" "size" "I" (.int (2 : Int32))) (Fi : Fld Z h0 a "com/example/aspen/aspen/IntList" "items" "[I" (.ref b)) (Vb : Arv Z h0 b kb .int (4 : Int32) [(.int x0), (.int x1), (.int (0 : Int32)), (.int (0 : Int32))] (.int (0 : Int32))) :
    MetFree l (⟨"com/example/aspen/aspen/IntList", "remove", "(I)V"⟩ : MethodName) (head1 (Jvm.Cond.code (⟨"com/example/aspen/aspen/IntList", "remove", "(I)V"⟩ : MethodName) prog_41_method_5_code 3 none :: ws) ({ frames := 0, cells := 0, slots := 0, locals := 0 } : Room)) (fun aa_ U => aa_ = #[(.ref a), (.int it)] ∧ Z.Warmed39 U.vm ∧ U.heap = h0) (fun _ _ _ _ _ => True) (fun _ UU_ oo_ UV_ => ∃ vv_ LL_, oo_ = .returned vv_ ∧ (Q_rem2 Z a b kb it x0 x1 h0 n0) vv_ UV_.heap LL_ ∧ FrameEnd UU_ oo_ UV_ LL_ ({ frames := 0, cells := 0, slots := 0, locals := 0 } : Room).cells ({ frames := 0, cells := 0, slots := 0, locals := 0 } : Room).slots) := by
  refine MetFree.of_bodySF (plainFor_of_name pn1) hisR ?_
  intro p e s m args below meth c s₁ Bd hml0 hP hK
  obtain ⟨rfl, hZ, hh⟩ := hP
  have hx := Bd.exec
  have hby := Bd.bytes
  have hlk : meth.locks = false := BodyLoose.notSynchronized Bd
  have hret := Bd.returns
  have hml : c.maxLocals = 3 := hml0
  have hown : s.vm.findClass "com/example/aspen/aspen/IntList" = some m.cls := findClass_of_methodNamed Bd.named
  have hnm := (name_of_methodNamed Bd.named Bd.method).1
  have X0 : Stand p l e ({ frames := 0, cells := 0, slots := 0, locals := 0 } : Room) s m #[(.ref a), (.int it)] below meth c s₁ [] 0 0 := Stand.of_body Bd
  have e0 : s₁.heap = h0 := by rw [← hh, Bd.state]; rfl
  have N0 := Fr.nil n0
  show Go p e below s ({ frames := 0, cells := 0, slots := 0, locals := 0 } : Room).cells ({ frames := 0, cells := 0, slots := 0, locals := 0 } : Room).slots (Q_rem2 Z a b kb it x0 x1 h0 n0) s₁ (entryFrame m #[(.ref a), (.int it)] 3)
  refine own_cast (g' := mkF m 0 #[.val (.ref a), .val (.int it), .unset] []) (by first | (simp [entryFrame, mkF, argsToLocals, Value.category]; done) | rfl) ?_
  have K0 := Keep.refl h0 ([a, b] : List Addr)
  show Go _ _ _ _ _ _ _ _ (mkF m 0 #[.val (.ref a), .val (.int it), .unset] [])
  refine own_via ?_ fun _ kt => XS.iconst X0.here hx rfl (hb hby d_rem2_0) kt
  show Go _ _ _ _ _ _ _ _ (mkF m 1 #[.val (.ref a), .val (.int it), .unset] [(.int (0 : Int32))])
  refine own_via ?_ fun _ kt => XS.istoreN X0.here hx rfl (hb hby d_rem2_1) rfl (l' := #[.val (.ref a), .val (.int it), .val (.int (0 : Int32))]) rfl kt
  show Go _ _ _ _ _ _ _ _ (mkF m 2 #[.val (.ref a), .val (.int it), .val (.int (0 : Int32))] [])
  refine own_via ?_ fun _ kt => XS.iloadN X0.here hx rfl (hb hby d_rem2_2) rfl kt
  show Go _ _ _ _ _ _ _ _ (mkF m 3 #[.val (.ref a), .val (.int it), .val (.int (0 : Int32))] [(.int (0 : Int32))])
  refine own_via ?_ fun _ kt => XS.aloadN X0.here hx rfl (hb hby d_rem2_3) rfl rfl kt
  show Go _ _ _ _ _ _ _ _ (mkF m 4 #[.val (.ref a), .val (.int it), .val (.int (0 : Int32))] [(.ref a), (.int (0 : Int32))])
  obtain ⟨T1, X1, e1, st1⟩ := getF X0 hx hZ hown (host := "") (Or.inl (hw _ (List.mem_of_getElem? (i := 18) rfl))) Via.refl e0 Fs (g := (mkF m 4 #[.val (.ref a), .val (.int it), .val (.int (0 : Int32))] [(.ref a), (.int (0 : Int32))])) rfl rfl (hb hby d_rem2_4)
  refine own_via ?_ st1
  show Go _ _ _ _ _ _ _ _ (mkF m 7 #[.val (.ref a), .val (.int it), .val (.int (0 : Int32))] [(.int (2 : Int32)), (.int (0 : Int32))])
  refine own_via ?_ fun _ kt => XS.icmpNo X1.here hx rfl (hb hby d_rem2_7) rfl (tlt (by decide : ((0 : Int32) < (2 : Int32)))).2.1 kt
  show Go _ _ _ _ _ _ _ _ (mkF m 10 #[.val (.ref a), .val (.int it), .val (.int (0 : Int32))] [])
  refine own_via ?_ fun _ kt => XS.aloadN X1.here hx rfl (hb hby d_rem2_10) rfl rfl kt
  show Go _ _ _ _ _ _ _ _ (mkF m 11 #[.val (.ref a), .val (.int it), .val (.int (0 : Int32))] [(.ref a)])
  obtain ⟨T2, X2, e2, st2⟩ := getF X1 hx hZ hown (host := "") (Or.inl (hw _ (List.mem_of_getElem? (i := 11) rfl))) Via.refl e1 Fi (g := (mkF m 11 #[.val (.ref a), .val (.int it), .val (.int (0 : Int32))] [(.ref a)])) rfl rfl (hb hby d_rem2_11)
  refine own_via ?_ st2
  show Go _ _ _ _ _ _ _ _ (mkF m 14 #[.val (.ref a), .val (.int it), .val (.int (0 : Int32))] [(.ref b)])
  refine own_via ?_ fun _ kt => XS.iloadN X2.here hx rfl (hb hby d_rem2_14) rfl kt
  show Go _ _ _ _ _ _ _ _ (mkF m 15 #[.val (.ref a), .val (.int it), .val (.int (0 : Int32))] [(.int (0 : Int32)), (.ref b)])
  obtain ⟨cl3, Ar3, Aq3, AS3, AN3, AH3, AG3⟩ := Vb
  have Vb : Arv Z h0 b kb .int (4 : Int32) [(.int x0), (.int x1), (.int (0 : Int32)), (.int (0 : Int32))] (.int (0 : Int32)) := ⟨cl3, Ar3, Aq3, AS3, AN3, AH3, AG3⟩
  have hin4 : ¬ ((0 : Int32) < 0 ∨ cl3.slots.size ≤ ((0 : Int32)).toNatClampNeg) := (inb_of AS3 ⟨by decide, by decide⟩)
  have hat4 : cl3.slots[((0 : Int32)).toNatClampNeg]? = some (.int x0) := (AH3.at hin4 rfl)
  refine own_via ?_ fun _ kt => X2.iaload hx (j := (0 : Int32)) (v := (.int x0)) (by rw [e2]; exact Ar3.1) (State.isArrayOf_alike hZ.alike Ar3.2.1) Ar3.2.2 hin4 hat4 (g := (mkF m 15 #[.val (.ref a), .val (.int it), .val (.int (0 : Int32))] [(.int (0 : Int32)), (.ref b)])) rfl rfl (hb hby d_rem2_15) _ kt
  show Go _ _ _ _ _ _ _ _ (mkF m 16 #[.val (.ref a), .val (.int it), .val (.int (0 : Int32))] [(.int x0)])
  refine own_via ?_ fun _ kt => XS.iloadN X2.here hx rfl (hb hby d_rem2_16) rfl kt
  show Go _ _ _ _ _ _ _ _ (mkF m 17 #[.val (.ref a), .val (.int it), .val (.int (0 : Int32))] [(.int it), (.int x0)])
  by_cases hc5 : x0 = it
  · skip
    refine own_via ?_ fun _ kt => XS.icmpNo X2.here hx rfl (hb hby d_rem2_17) rfl (teq hc5).2 kt
    show Go _ _ _ _ _ _ _ _ (mkF m 20 #[.val (.ref a), .val (.int it), .val (.int (0 : Int32))] [])
    refine own_via ?_ fun _ kt => XS.aloadN X2.here hx rfl (hb hby d_rem2_20) rfl rfl kt
    show Go _ _ _ _ _ _ _ _ (mkF m 21 #[.val (.ref a), .val (.int it), .val (.int (0 : Int32))] [(.ref a)])
    refine own_via ?_ fun _ kt => XS.dup X2.here hx rfl (hb hby d_rem2_21) rfl rfl kt
    show Go _ _ _ _ _ _ _ _ (mkF m 22 #[.val (.ref a), .val (.int it), .val (.int (0 : Int32))] [(.ref a), (.ref a)])
    obtain ⟨T6, X6, e6, st6⟩ := getF X2 hx hZ hown (host := "") (Or.inl (hw _ (List.mem_of_getElem? (i := 18) rfl))) Via.refl e2 Fs (g := (mkF m 22 #[.val (.ref a), .val (.int it), .val (.int (0 : Int32))] [(.ref a), (.ref a)])) rfl rfl (hb hby d_rem2_22)
    refine own_via ?_ st6
    show Go _ _ _ _ _ _ _ _ (mkF m 25 #[.val (.ref a), .val (.int it), .val (.int (0 : Int32))] [(.int (2 : Int32)), (.ref a)])
    refine own_via ?_ fun _ kt => XS.iconst X6.here hx rfl (hb hby d_rem2_25) kt
    show Go _ _ _ _ _ _ _ _ (mkF m 26 #[.val (.ref a), .val (.int it), .val (.int (0 : Int32))] [(.int (1 : Int32)), (.int (2 : Int32)), (.ref a)])
    refine own_via ?_ fun _ kt => XS.isub X6.here hx rfl (hb hby d_rem2_26) rfl kt
    show Go _ _ _ _ _ _ _ _ (mkF m 27 #[.val (.ref a), .val (.int it), .val (.int (0 : Int32))] [(.int ((2 : Int32) - (1 : Int32))), (.ref a)])
    rw [show ((2 : Int32) - (1 : Int32)) = (1 : Int32) from by decide]
    show Go _ _ _ _ _ _ _ _ (mkF m 27 #[.val (.ref a), .val (.int it), .val (.int (0 : Int32))] [(.int (1 : Int32)), (.ref a)])
    obtain ⟨T7, h7, X7, e7, W7, st7⟩ := putF X6 hx hZ hown (host := "") (Or.inl (hw _ (List.mem_of_getElem? (i := 18) rfl))) Via.refl e6 Fs E (Or.inl (hw _ (List.mem_of_getElem? (i := 19) rfl))) (hw _ (List.mem_of_getElem? (i := 1) rfl)) (ty := .int) (by decide) rfl rfl (g := (mkF m 27 #[.val (.ref a), .val (.int it), .val (.int (0 : Int32))] [(.int (1 : Int32)), (.ref a)])) rfl rfl (hb hby d_rem2_27)
    have N7 := Fr.snoc X7 N0 g_a
    replace E := E.wr W7
    replace Fs := Fs.same W7
    replace Fi := Fi.other W7 (Or.inr (slot_ne (Or.inl (hw _ (List.mem_of_getElem? (i := 12) rfl))) (Or.inl (hw _ (List.mem_of_getElem? (i := 19) rfl))) (by decide) (t := (.array .int)) (t' := .int) (by decide) (by decide)))
    replace Vb := Vb.other W7 (Ne.symm neab)
    replace Z0 := Nat.le_trans Z0 (Keep.of_wr W7).1
    replace K0 := K0.wr W7 (Or.inl (List.mem_of_getElem? (i := 0) rfl))
    refine own_via ?_ st7
    show Go _ _ _ _ _ _ _ _ (mkF m 30 #[.val (.ref a), .val (.int it), .val (.int (0 : Int32))] [])
    refine own_via ?_ fun _ kt => XS.aloadN X7.here hx rfl (hb hby d_rem2_30) rfl rfl kt
    show Go _ _ _ _ _ _ _ _ (mkF m 31 #[.val (.ref a), .val (.int it), .val (.int (0 : Int32))] [(.ref a)])
    obtain ⟨T8, X8, e8, st8⟩ := getF X7 hx hZ hown (host := "") (Or.inl (hw _ (List.mem_of_getElem? (i := 11) rfl))) Via.refl e7 Fi (g := (mkF m 31 #[.val (.ref a), .val (.int it), .val (.int (0 : Int32))] [(.ref a)])) rfl rfl (hb hby d_rem2_31)
    refine own_via ?_ st8
    show Go _ _ _ _ _ _ _ _ (mkF m 34 #[.val (.ref a), .val (.int it), .val (.int (0 : Int32))] [(.ref b)])
    refine own_via ?_ fun _ kt => XS.iloadN X8.here hx rfl (hb hby d_rem2_34) rfl kt
    show Go _ _ _ _ _ _ _ _ (mkF m 35 #[.val (.ref a), .val (.int it), .val (.int (0 : Int32))] [(.int (0 : Int32)), (.ref b)])
    refine own_via ?_ fun _ kt => XS.aloadN X8.here hx rfl (hb hby d_rem2_35) rfl rfl kt
    show Go _ _ _ _ _ _ _ _ (mkF m 36 #[.val (.ref a), .val (.int it), .val (.int (0 : Int32))] [(.ref a), (.int (0 : Int32)), (.ref b)])
    obtain ⟨T9, X9, e9, st9⟩ := getF X8 hx hZ hown (host := "") (Or.inl (hw _ (List.mem_of_getElem? (i := 11) rfl))) Via.refl e8 Fi (g := (mkF m 36 #[.val (.ref a), .val (.int it), .val (.int (0 : Int32))] [(.ref a), (.int (0 : Int32)), (.ref b)])) rfl rfl (hb hby d_rem2_36)
    refine own_via ?_ st9
    show Go _ _ _ _ _ _ _ _ (mkF m 39 #[.val (.ref a), .val (.int it), .val (.int (0 : Int32))] [(.ref b), (.int (0 : Int32)), (.ref b)])
    refine own_via ?_ fun _ kt => XS.aloadN X9.here hx rfl (hb hby d_rem2_39) rfl rfl kt
    show Go _ _ _ _ _ _ _ _ (mkF m 40 #[.val (.ref a), .val (.int it), .val (.int (0 : Int32))] [(.ref a), (.ref b), (.int (0 : Int32)), (.ref b)])
    obtain ⟨T10, X10, e10, st10⟩ := getF X9 hx hZ hown (host := "") (Or.inl (hw _ (List.mem_of_getElem? (i := 18) rfl))) Via.refl e9 Fs (g := (mkF m 40 #[.val (.ref a), .val (.int it), .val (.int (0 : Int32))] [(.ref a), (.ref b), (.int (0 : Int32)), (.ref b)])) rfl rfl (hb hby d_rem2_40)
    refine own_via ?_ st10
    show Go _ _ _ _ _ _ _ _ (mkF m 43 #[.val (.ref a), .val (.int it), .val (.int (0 : Int32))] [(.int (1 : Int32)), (.ref b), (.int (0 : Int32)), (.ref b)])
    obtain ⟨cl11, Ar11, Aq11, AS11, AN11, AH11, AG11⟩ := Vb
    have Vb : Arv Z h7 b kb .int (4 : Int32) [(.int x0), (.int x1), (.int (0 : Int32)), (.int (0 : Int32))] (.int (0 : Int32)) := ⟨cl11, Ar11, Aq11, AS11, AN11, AH11, AG11⟩
    have hin12 : ¬ ((1 : Int32) < 0 ∨ cl11.slots.size ≤ ((1 : Int32)).toNatClampNeg) := (inb_of AS11 ⟨by decide, by decide⟩)
    have hat12 : cl11.slots[((1 : Int32)).toNatClampNeg]? = some (.int x1) := (AH11.at hin12 rfl)
    refine own_via ?_ fun _ kt => X10.iaload hx (j := (1 : Int32)) (v := (.int x1)) (by rw [e10]; exact Ar11.1) (State.isArrayOf_alike hZ.alike Ar11.2.1) Ar11.2.2 hin12 hat12 (g := (mkF m 43 #[.val (.ref a), .val (.int it), .val (.int (0 : Int32))] [(.int (1 : Int32)), (.ref b), (.int (0 : Int32)), (.ref b)])) rfl rfl (hb hby d_rem2_43) _ kt
    show Go _ _ _ _ _ _ _ _ (mkF m 44 #[.val (.ref a), .val (.int it), .val (.int (0 : Int32))] [(.int x1), (.int (0 : Int32)), (.ref b)])
    obtain ⟨cl13, Ar13, Aq13, AS13, AN13, AH13, AG13⟩ := Vb
    have hin14 : ¬ ((0 : Int32) < 0 ∨ cl13.slots.size ≤ ((0 : Int32)).toNatClampNeg) := (inb_of AS13 ⟨by decide, by decide⟩)
    obtain ⟨T14, h14, X14, e14, W14, st14⟩ := stI X10 hx hZ e10 Ar13 (j := (0 : Int32)) hin14 (g := (mkF m 44 #[.val (.ref a), .val (.int it), .val (.int (0 : Int32))] [(.int x1), (.int (0 : Int32)), (.ref b)])) rfl rfl (hb hby d_rem2_44)
    have N14 := Fr.snoc X14 N7 g_b
    have V14 : Arv Z h14 b kb .int (4 : Int32) [(.int x1), (.int x1), (.int (0 : Int32)), (.int (0 : Int32))] (.int (0 : Int32)) := Arv.set Ar13 Aq13 AS13 AN13 AH13 AG13 rfl W14 0 rfl (Nat.le_of_ble_eq_true rfl)
    replace E := E.wr W14
    replace Fs := Fs.other W14 (Or.inl neab)
    replace Fi := Fi.other W14 (Or.inl neab)
    replace Z0 := Nat.le_trans Z0 (Keep.of_wr W14).1
    replace K0 := K0.wr W14 (Or.inl (List.mem_of_getElem? (i := 1) rfl))
    refine own_via ?_ st14
    show Go _ _ _ _ _ _ _ _ (mkF m 45 #[.val (.ref a), .val (.int it), .val (.int (0 : Int32))] [])
    exact own_retV X14 hx hret hlk (hb hby d_rem2_45) (by decide) (by decide) (by rw [e14]; exact ⟨rfl, N14, K0, Or.inl ⟨hc5, E, Fs, Fi, V14⟩⟩)
  · skip
    refine own_via ?_ fun _ kt => XS.icmpYes X2.here hx rfl (pc0 := 17) (pc' := 46) rfl (hb hby d_rem2_17) rfl (feq hc5).2 (by decide) (by decide) kt
    show Go _ _ _ _ _ _ _ _ (mkF m 46 #[.val (.ref a), .val (.int it), .val (.int (0 : Int32))] [])
    refine own_via ?_ fun _ kt => XS.iinc X2.here hx rfl (hb hby d_rem2_46) rfl (l' := #[.val (.ref a), .val (.int it), .val (.int ((0 : Int32) + (1 : Int32)))]) rfl kt
    show Go _ _ _ _ _ _ _ _ (mkF m 49 #[.val (.ref a), .val (.int it), .val (.int ((0 : Int32) + (1 : Int32)))] [])
    rw [show ((0 : Int32) + (1 : Int32)) = (1 : Int32) from by decide]
    show Go _ _ _ _ _ _ _ _ (mkF m 49 #[.val (.ref a), .val (.int it), .val (.int (1 : Int32))] [])
    refine own_via ?_ fun _ kt => XS.goto X2.here hx rfl (pc0 := 49) (pc' := 2) rfl (hb hby d_rem2_49) (by decide) (by decide) kt
    show Go _ _ _ _ _ _ _ _ (mkF m 2 #[.val (.ref a), .val (.int it), .val (.int (1 : Int32))] [])
    refine own_via ?_ fun _ kt => XS.iloadN X2.here hx rfl (hb hby d_rem2_2) rfl kt
    show Go _ _ _ _ _ _ _ _ (mkF m 3 #[.val (.ref a), .val (.int it), .val (.int (1 : Int32))] [(.int (1 : Int32))])
    refine own_via ?_ fun _ kt => XS.aloadN X2.here hx rfl (hb hby d_rem2_3) rfl rfl kt
    show Go _ _ _ _ _ _ _ _ (mkF m 4 #[.val (.ref a), .val (.int it), .val (.int (1 : Int32))] [(.ref a), (.int (1 : Int32))])
    obtain ⟨T15, X15, e15, st15⟩ := getF X2 hx hZ hown (host := "") (Or.inl (hw _ (List.mem_of_getElem? (i := 18) rfl))) Via.refl e2 Fs (g := (mkF m 4 #[.val (.ref a), .val (.int it), .val (.int (1 : Int32))] [(.ref a), (.int (1 : Int32))])) rfl rfl (hb hby d_rem2_4)
    refine own_via ?_ st15
    show Go _ _ _ _ _ _ _ _ (mkF m 7 #[.val (.ref a), .val (.int it), .val (.int (1 : Int32))] [(.int (2 : Int32)), (.int (1 : Int32))])
    refine own_via ?_ fun _ kt => XS.icmpNo X15.here hx rfl (hb hby d_rem2_7) rfl (tlt (by decide : ((1 : Int32) < (2 : Int32)))).2.1 kt
    show Go _ _ _ _ _ _ _ _ (mkF m 10 #[.val (.ref a), .val (.int it), .val (.int (1 : Int32))] [])
    refine own_via ?_ fun _ kt => XS.aloadN X15.here hx rfl (hb hby d_rem2_10) rfl rfl kt
    show Go _ _ _ _ _ _ _ _ (mkF m 11 #[.val (.ref a), .val (.int it), .val (.int (1 : Int32))] [(.ref a)])
    obtain ⟨T16, X16, e16, st16⟩ := getF X15 hx hZ hown (host := "") (Or.inl (hw _ (List.mem_of_getElem? (i := 11) rfl))) Via.refl e15 Fi (g := (mkF m 11 #[.val (.ref a), .val (.int it), .val (.int (1 : Int32))] [(.ref a)])) rfl rfl (hb hby d_rem2_11)
    refine own_via ?_ st16
    show Go _ _ _ _ _ _ _ _ (mkF m 14 #[.val (.ref a), .val (.int it), .val (.int (1 : Int32))] [(.ref b)])
    refine own_via ?_ fun _ kt => XS.iloadN X16.here hx rfl (hb hby d_rem2_14) rfl kt
    show Go _ _ _ _ _ _ _ _ (mkF m 15 #[.val (.ref a), .val (.int it), .val (.int (1 : Int32))] [(.int (1 : Int32)), (.ref b)])
    obtain ⟨cl17, Ar17, Aq17, AS17, AN17, AH17, AG17⟩ := Vb
    have Vb : Arv Z h0 b kb .int (4 : Int32) [(.int x0), (.int x1), (.int (0 : Int32)), (.int (0 : Int32))] (.int (0 : Int32)) := ⟨cl17, Ar17, Aq17, AS17, AN17, AH17, AG17⟩
    have hin18 : ¬ ((1 : Int32) < 0 ∨ cl17.slots.size ≤ ((1 : Int32)).toNatClampNeg) := (inb_of AS17 ⟨by decide, by decide⟩)
    have hat18 : cl17.slots[((1 : Int32)).toNatClampNeg]? = some (.int x1) := (AH17.at hin18 rfl)
    refine own_via ?_ fun _ kt => X16.iaload hx (j := (1 : Int32)) (v := (.int x1)) (by rw [e16]; exact Ar17.1) (State.isArrayOf_alike hZ.alike Ar17.2.1) Ar17.2.2 hin18 hat18 (g := (mkF m 15 #[.val (.ref a), .val (.int it), .val (.int (1 : Int32))] [(.int (1 : Int32)), (.ref b)])) rfl rfl (hb hby d_rem2_15) _ kt
    show Go _ _ _ _ _ _ _ _ (mkF m 16 #[.val (.ref a), .val (.int it), .val (.int (1 : Int32))] [(.int x1)])
    refine own_via ?_ fun _ kt => XS.iloadN X16.here hx rfl (hb hby d_rem2_16) rfl kt
    show Go _ _ _ _ _ _ _ _ (mkF m 17 #[.val (.ref a), .val (.int it), .val (.int (1 : Int32))] [(.int it), (.int x1)])
    by_cases hc19 : x1 = it
    · skip
      refine own_via ?_ fun _ kt => XS.icmpNo X16.here hx rfl (hb hby d_rem2_17) rfl (teq hc19).2 kt
      show Go _ _ _ _ _ _ _ _ (mkF m 20 #[.val (.ref a), .val (.int it), .val (.int (1 : Int32))] [])
      refine own_via ?_ fun _ kt => XS.aloadN X16.here hx rfl (hb hby d_rem2_20) rfl rfl kt
      show Go _ _ _ _ _ _ _ _ (mkF m 21 #[.val (.ref a), .val (.int it), .val (.int (1 : Int32))] [(.ref a)])
      refine own_via ?_ fun _ kt => XS.dup X16.here hx rfl (hb hby d_rem2_21) rfl rfl kt
      show Go _ _ _ _ _ _ _ _ (mkF m 22 #[.val (.ref a), .val (.int it), .val (.int (1 : Int32))] [(.ref a), (.ref a)])
      obtain ⟨T20, X20, e20, st20⟩ := getF X16 hx hZ hown (host := "") (Or.inl (hw _ (List.mem_of_getElem? (i := 18) rfl))) Via.refl e16 Fs (g := (mkF m 22 #[.val (.ref a), .val (.int it), .val (.int (1 : Int32))] [(.ref a), (.ref a)])) rfl rfl (hb hby d_rem2_22)
      refine own_via ?_ st20
      show Go _ _ _ _ _ _ _ _ (mkF m 25 #[.val (.ref a), .val (.int it), .val (.int (1 : Int32))] [(.int (2 : Int32)), (.ref a)])
      refine own_via ?_ fun _ kt => XS.iconst X20.here hx rfl (hb hby d_rem2_25) kt
      show Go _ _ _ _ _ _ _ _ (mkF m 26 #[.val (.ref a), .val (.int it), .val (.int (1 : Int32))] [(.int (1 : Int32)), (.int (2 : Int32)), (.ref a)])
      refine own_via ?_ fun _ kt => XS.isub X20.here hx rfl (hb hby d_rem2_26) rfl kt
      show Go _ _ _ _ _ _ _ _ (mkF m 27 #[.val (.ref a), .val (.int it), .val (.int (1 : Int32))] [(.int ((2 : Int32) - (1 : Int32))), (.ref a)])
      rw [show ((2 : Int32) - (1 : Int32)) = (1 : Int32) from by decide]
      show Go _ _ _ _ _ _ _ _ (mkF m 27 #[.val (.ref a), .val (.int it), .val (.int (1 : Int32))] [(.int (1 : Int32)), (.ref a)])
      obtain ⟨T21, h21, X21, e21, W21, st21⟩ := putF X20 hx hZ hown (host := "") (Or.inl (hw _ (List.mem_of_getElem? (i := 18) rfl))) Via.refl e20 Fs E (Or.inl (hw _ (List.mem_of_getElem? (i := 19) rfl))) (hw _ (List.mem_of_getElem? (i := 1) rfl)) (ty := .int) (by decide) rfl rfl (g := (mkF m 27 #[.val (.ref a), .val (.int it), .val (.int (1 : Int32))] [(.int (1 : Int32)), (.ref a)])) rfl rfl (hb hby d_rem2_27)
      have N21 := Fr.snoc X21 N0 g_a
      replace E := E.wr W21
      replace Fs := Fs.same W21
      replace Fi := Fi.other W21 (Or.inr (slot_ne (Or.inl (hw _ (List.mem_of_getElem? (i := 12) rfl))) (Or.inl (hw _ (List.mem_of_getElem? (i := 19) rfl))) (by decide) (t := (.array .int)) (t' := .int) (by decide) (by decide)))
      replace Vb := Vb.other W21 (Ne.symm neab)
      replace Z0 := Nat.le_trans Z0 (Keep.of_wr W21).1
      replace K0 := K0.wr W21 (Or.inl (List.mem_of_getElem? (i := 0) rfl))
      refine own_via ?_ st21
      show Go _ _ _ _ _ _ _ _ (mkF m 30 #[.val (.ref a), .val (.int it), .val (.int (1 : Int32))] [])
      refine own_via ?_ fun _ kt => XS.aloadN X21.here hx rfl (hb hby d_rem2_30) rfl rfl kt
      show Go _ _ _ _ _ _ _ _ (mkF m 31 #[.val (.ref a), .val (.int it), .val (.int (1 : Int32))] [(.ref a)])
      obtain ⟨T22, X22, e22, st22⟩ := getF X21 hx hZ hown (host := "") (Or.inl (hw _ (List.mem_of_getElem? (i := 11) rfl))) Via.refl e21 Fi (g := (mkF m 31 #[.val (.ref a), .val (.int it), .val (.int (1 : Int32))] [(.ref a)])) rfl rfl (hb hby d_rem2_31)
      refine own_via ?_ st22
      show Go _ _ _ _ _ _ _ _ (mkF m 34 #[.val (.ref a), .val (.int it), .val (.int (1 : Int32))] [(.ref b)])
      refine own_via ?_ fun _ kt => XS.iloadN X22.here hx rfl (hb hby d_rem2_34) rfl kt
      show Go _ _ _ _ _ _ _ _ (mkF m 35 #[.val (.ref a), .val (.int it), .val (.int (1 : Int32))] [(.int (1 : Int32)), (.ref b)])
      refine own_via ?_ fun _ kt => XS.aloadN X22.here hx rfl (hb hby d_rem2_35) rfl rfl kt
      show Go _ _ _ _ _ _ _ _ (mkF m 36 #[.val (.ref a), .val (.int it), .val (.int (1 : Int32))] [(.ref a), (.int (1 : Int32)), (.ref b)])
      obtain ⟨T23, X23, e23, st23⟩ := getF X22 hx hZ hown (host := "") (Or.inl (hw _ (List.mem_of_getElem? (i := 11) rfl))) Via.refl e22 Fi (g := (mkF m 36 #[.val (.ref a), .val (.int it), .val (.int (1 : Int32))] [(.ref a), (.int (1 : Int32)), (.ref b)])) rfl rfl (hb hby d_rem2_36)
      refine own_via ?_ st23
      show Go _ _ _ _ _ _ _ _ (mkF m 39 #[.val (.ref a), .val (.int it), .val (.int (1 : Int32))] [(.ref b), (.int (1 : Int32)), (.ref b)])
      refine own_via ?_ fun _ kt => XS.aloadN X23.here hx rfl (hb hby d_rem2_39) rfl rfl kt
      show Go _ _ _ _ _ _ _ _ (mkF m 40 #[.val (.ref a), .val (.int it), .val (.int (1 : Int32))] [(.ref a), (.ref b), (.int (1 : Int32)), (.ref b)])
      obtain ⟨T24, X24, e24, st24⟩ := getF X23 hx hZ hown (host := "") (Or.inl (hw _ (List.mem_of_getElem? (i := 18) rfl))) Via.refl e23 Fs (g := (mkF m 40 #[.val (.ref a), .val (.int it), .val (.int (1 : Int32))] [(.ref a), (.ref b), (.int (1 : Int32)), (.ref b)])) rfl rfl (hb hby d_rem2_40)
      refine own_via ?_ st24
      show Go _ _ _ _ _ _ _ _ (mkF m 43 #[.val (.ref a), .val (.int it), .val (.int (1 : Int32))] [(.int (1 : Int32)), (.ref b), (.int (1 : Int32)), (.ref b)])
      obtain ⟨cl25, Ar25, Aq25, AS25, AN25, AH25, AG25⟩ := Vb
      have Vb : Arv Z h21 b kb .int (4 : Int32) [(.int x0), (.int x1), (.int (0 : Int32)), (.int (0 : Int32))] (.int (0 : Int32)) := ⟨cl25, Ar25, Aq25, AS25, AN25, AH25, AG25⟩
      have hin26 : ¬ ((1 : Int32) < 0 ∨ cl25.slots.size ≤ ((1 : Int32)).toNatClampNeg) := (inb_of AS25 ⟨by decide, by decide⟩)
      have hat26 : cl25.slots[((1 : Int32)).toNatClampNeg]? = some (.int x1) := (AH25.at hin26 rfl)
      refine own_via ?_ fun _ kt => X24.iaload hx (j := (1 : Int32)) (v := (.int x1)) (by rw [e24]; exact Ar25.1) (State.isArrayOf_alike hZ.alike Ar25.2.1) Ar25.2.2 hin26 hat26 (g := (mkF m 43 #[.val (.ref a), .val (.int it), .val (.int (1 : Int32))] [(.int (1 : Int32)), (.ref b), (.int (1 : Int32)), (.ref b)])) rfl rfl (hb hby d_rem2_43) _ kt
      show Go _ _ _ _ _ _ _ _ (mkF m 44 #[.val (.ref a), .val (.int it), .val (.int (1 : Int32))] [(.int x1), (.int (1 : Int32)), (.ref b)])
      obtain ⟨cl27, Ar27, Aq27, AS27, AN27, AH27, AG27⟩ := Vb
      have hin28 : ¬ ((1 : Int32) < 0 ∨ cl27.slots.size ≤ ((1 : Int32)).toNatClampNeg) := (inb_of AS27 ⟨by decide, by decide⟩)
      obtain ⟨T28, h28, X28, e28, W28, st28⟩ := stI X24 hx hZ e24 Ar27 (j := (1 : Int32)) hin28 (g := (mkF m 44 #[.val (.ref a), .val (.int it), .val (.int (1 : Int32))] [(.int x1), (.int (1 : Int32)), (.ref b)])) rfl rfl (hb hby d_rem2_44)
      have N28 := Fr.snoc X28 N21 g_b
      have V28 : Arv Z h28 b kb .int (4 : Int32) [(.int x0), (.int x1), (.int (0 : Int32)), (.int (0 : Int32))] (.int (0 : Int32)) := Arv.set Ar27 Aq27 AS27 AN27 AH27 AG27 rfl W28 1 rfl (Nat.le_of_ble_eq_true rfl)
      replace E := E.wr W28
      replace Fs := Fs.other W28 (Or.inl neab)
      replace Fi := Fi.other W28 (Or.inl neab)
      replace Z0 := Nat.le_trans Z0 (Keep.of_wr W28).1
      replace K0 := K0.wr W28 (Or.inl (List.mem_of_getElem? (i := 1) rfl))
      refine own_via ?_ st28
      show Go _ _ _ _ _ _ _ _ (mkF m 45 #[.val (.ref a), .val (.int it), .val (.int (1 : Int32))] [])
      exact own_retV X28 hx hret hlk (hb hby d_rem2_45) (by decide) (by decide) (by rw [e28]; exact ⟨rfl, N28, K0, Or.inr (Or.inl ⟨hc5, hc19, E, Fs, Fi, V28⟩)⟩)
    · skip
      refine own_via ?_ fun _ kt => XS.icmpYes X16.here hx rfl (pc0 := 17) (pc' := 46) rfl (hb hby d_rem2_17) rfl (feq hc19).2 (by decide) (by decide) kt
      show Go _ _ _ _ _ _ _ _ (mkF m 46 #[.val (.ref a), .val (.int it), .val (.int (1 : Int32))] [])
      refine own_via ?_ fun _ kt => XS.iinc X16.here hx rfl (hb hby d_rem2_46) rfl (l' := #[.val (.ref a), .val (.int it), .val (.int ((1 : Int32) + (1 : Int32)))]) rfl kt
      show Go _ _ _ _ _ _ _ _ (mkF m 49 #[.val (.ref a), .val (.int it), .val (.int ((1 : Int32) + (1 : Int32)))] [])
      rw [show ((1 : Int32) + (1 : Int32)) = (2 : Int32) from by decide]
      show Go _ _ _ _ _ _ _ _ (mkF m 49 #[.val (.ref a), .val (.int it), .val (.int (2 : Int32))] [])
      refine own_via ?_ fun _ kt => XS.goto X16.here hx rfl (pc0 := 49) (pc' := 2) rfl (hb hby d_rem2_49) (by decide) (by decide) kt
      show Go _ _ _ _ _ _ _ _ (mkF m 2 #[.val (.ref a), .val (.int it), .val (.int (2 : Int32))] [])
      refine own_via ?_ fun _ kt => XS.iloadN X16.here hx rfl (hb hby d_rem2_2) rfl kt
      show Go _ _ _ _ _ _ _ _ (mkF m 3 #[.val (.ref a), .val (.int it), .val (.int (2 : Int32))] [(.int (2 : Int32))])
      refine own_via ?_ fun _ kt => XS.aloadN X16.here hx rfl (hb hby d_rem2_3) rfl rfl kt
      show Go _ _ _ _ _ _ _ _ (mkF m 4 #[.val (.ref a), .val (.int it), .val (.int (2 : Int32))] [(.ref a), (.int (2 : Int32))])
      obtain ⟨T29, X29, e29, st29⟩ := getF X16 hx hZ hown (host := "") (Or.inl (hw _ (List.mem_of_getElem? (i := 18) rfl))) Via.refl e16 Fs (g := (mkF m 4 #[.val (.ref a), .val (.int it), .val (.int (2 : Int32))] [(.ref a), (.int (2 : Int32))])) rfl rfl (hb hby d_rem2_4)
      refine own_via ?_ st29
      show Go _ _ _ _ _ _ _ _ (mkF m 7 #[.val (.ref a), .val (.int it), .val (.int (2 : Int32))] [(.int (2 : Int32)), (.int (2 : Int32))])
      refine own_via ?_ fun _ kt => XS.icmpYes X29.here hx rfl (pc0 := 7) (pc' := 52) rfl (hb hby d_rem2_7) rfl (flt (by decide : ¬ ((2 : Int32) < (2 : Int32)))).2.1 (by decide) (by decide) kt
      show Go _ _ _ _ _ _ _ _ (mkF m 52 #[.val (.ref a), .val (.int it), .val (.int (2 : Int32))] [])
      exact own_retV X29 hx hret hlk (hb hby d_rem2_52) (by decide) (by decide) (by rw [e29]; exact ⟨rfl, N0, K0, Or.inr (Or.inr (⟨hc5, hc19, E, Fs, Fi, Vb⟩))⟩)
theorem d_rem3_0 : decode prog_41_method_5_code 0 = .ok (.iconst 0, 1) := by decide +kernel
theorem d_rem3_1 : decode prog_41_method_5_code 1 = .ok (.istore_n 2, 1) := by decide +kernel
theorem d_rem3_2 : decode prog_41_method_5_code 2 = .ok (.iload_n 2, 1) := by decide +kernel
theorem d_rem3_3 : decode prog_41_method_5_code 3 = .ok (.aload_n 0, 1) := by decide +kernel
theorem d_rem3_4 : decode prog_41_method_5_code 4 = .ok (.getfield 16, 3) := by decide +kernel
theorem d_rem3_7 : decode prog_41_method_5_code 7 = .ok (.if_icmp .ge 45, 3) := by decide +kernel
theorem d_rem3_10 : decode prog_41_method_5_code 10 = .ok (.aload_n 0, 1) := by decide +kernel
theorem d_rem3_11 : decode prog_41_method_5_code 11 = .ok (.getfield 13, 3) := by decide +kernel
theorem d_rem3_14 : decode prog_41_method_5_code 14 = .ok (.iload_n 2, 1) := by decide +kernel
theorem d_rem3_15 : decode prog_41_method_5_code 15 = .ok (.iaload, 1) := by decide +kernel
theorem d_rem3_16 : decode prog_41_method_5_code 16 = .ok (.iload_n 1, 1) := by decide +kernel
theorem d_rem3_17 : decode prog_41_method_5_code 17 = .ok (.if_icmp .ne 29, 3) := by decide +kernel
theorem d_rem3_20 : decode prog_41_method_5_code 20 = .ok (.aload_n 0, 1) := by decide +kernel
theorem d_rem3_21 : decode prog_41_method_5_code 21 = .ok (.dup, 1) := by decide +kernel
theorem d_rem3_22 : decode prog_41_method_5_code 22 = .ok (.getfield 16, 3) := by decide +kernel
theorem d_rem3_25 : decode prog_41_method_5_code 25 = .ok (.iconst 1, 1) := by decide +kernel
theorem d_rem3_26 : decode prog_41_method_5_code 26 = .ok (.isub, 1) := by decide +kernel
theorem d_rem3_27 : decode prog_41_method_5_code 27 = .ok (.putfield 16, 3) := by decide +kernel
theorem d_rem3_30 : decode prog_41_method_5_code 30 = .ok (.aload_n 0, 1) := by decide +kernel
theorem d_rem3_31 : decode prog_41_method_5_code 31 = .ok (.getfield 13, 3) := by decide +kernel
theorem d_rem3_34 : decode prog_41_method_5_code 34 = .ok (.iload_n 2, 1) := by decide +kernel
theorem d_rem3_35 : decode prog_41_method_5_code 35 = .ok (.aload_n 0, 1) := by decide +kernel
theorem d_rem3_36 : decode prog_41_method_5_code 36 = .ok (.getfield 13, 3) := by decide +kernel
theorem d_rem3_39 : decode prog_41_method_5_code 39 = .ok (.aload_n 0, 1) := by decide +kernel
theorem d_rem3_40 : decode prog_41_method_5_code 40 = .ok (.getfield 16, 3) := by decide +kernel
theorem d_rem3_43 : decode prog_41_method_5_code 43 = .ok (.iaload, 1) := by decide +kernel
theorem d_rem3_44 : decode prog_41_method_5_code 44 = .ok (.iastore, 1) := by decide +kernel
theorem d_rem3_45 : decode prog_41_method_5_code 45 = .ok (.return_, 1) := by decide +kernel
theorem d_rem3_46 : decode prog_41_method_5_code 46 = .ok (.iinc 2 1, 3) := by decide +kernel
theorem d_rem3_49 : decode prog_41_method_5_code 49 = .ok (.goto (-47), 3) := by decide +kernel
theorem d_rem3_52 : decode prog_41_method_5_code 52 = .ok (.return_, 1) := by decide +kernel
def Q_rem3 (Z : State) (a b : Addr) (kb : ClassId) (it x0 x1 x2 : Int32) (h0 : Heap) (n0 : Nat) (v : Option Value) (h : Heap) (L : List Loc) : Prop := v = none ∧ Fr n0 L ∧ Keep h0 h [a, b] ∧ ((x0 = it ∧ Exa Z h a "com/example/aspen/aspen/IntList" ∧ Fld Z h a "com/example/aspen/aspen/IntList" "size" "I" (.int (2 : Int32)) ∧ Fld Z h a "com/example/aspen/aspen/IntList" "items" "[I" (.ref b) ∧ Arv Z h b kb .int (4 : Int32) [(.int x2), (.int x1), (.int x2), (.int (0 : Int32))] (.int (0 : Int32))) ∨ (¬ x0 = it ∧ x1 = it ∧ Exa Z h a "com/example/aspen/aspen/IntList" ∧ Fld Z h a "com/example/aspen/aspen/IntList" "size" "I" (.int (2 : Int32)) ∧ Fld Z h a "com/example/aspen/aspen/IntList" "items" "[I" (.ref b) ∧ Arv Z h b kb .int (4 : Int32) [(.int x0), (.int x2), (.int x2), (.int (0 : Int32))] (.int (0 : Int32))) ∨ (¬ x0 = it ∧ ¬ x1 = it ∧ x2 = it ∧ Exa Z h a "com/example/aspen/aspen/IntList" ∧ Fld Z h a "com/example/aspen/aspen/IntList" "size" "I" (.int (2 : Int32)) ∧ Fld Z h a "com/example/aspen/aspen/IntList" "items" "[I" (.ref b) ∧ Arv Z h b kb .int (4 : Int32) [(.int x0), (.int x1), (.int x2), (.int (0 : Int32))] (.int (0 : Int32))) ∨ (¬ x0 = it ∧ ¬ x1 = it ∧ ¬ x2 = it ∧ Exa Z h a "com/example/aspen/aspen/IntList" ∧ Fld Z h a "com/example/aspen/aspen/IntList" "size" "I" (.int (3 : Int32)) ∧ Fld Z h a "com/example/aspen/aspen/IntList" "items" "[I" (.ref b) ∧ Arv Z h b kb .int (4 : Int32) [(.int x0), (.int x1), (.int x2), (.int (0 : Int32))] (.int (0 : Int32))))
set_option maxRecDepth 65536 in
set_option maxHeartbeats 40000000 in
theorem rm_rem3 (l : Launch) (Z : State) (a0 : Array Value) (hw : ∀ d ∈ tables_1, d.before a0 Z = true) (ws : List Jvm.Cond) (a b : Addr) (kb : ClassId) (it x0 x1 x2 : Int32) (h0 : Heap) (n0 : Nat) (Z0 : n0 ≤ h0.size) (g_a : n0 ≤ a) (g_b : n0 ≤ b) (neab : a ≠ b) (E : Exa Z h0 a "com/example/aspen/aspen/IntList") (Fs : Fld Z h0 a "com/example/aspen/aspen/IntList" "size" "I" (.int (3 : Int32))) (Fi : Fld Z h0 a "com/example/aspen/aspen/IntList" "items" "[I" (.ref b)) (Vb : Arv Z h0 b kb .int (4 : Int32) [(.int x0), (.int x1), (.int x2), (.int (0 : Int32))] (.int (0 : Int32))) :
    MetFree l (⟨"com/example/aspen/aspen/IntList", "remove", "(I)V"⟩ : MethodName) (head1 (Jvm.Cond.code (⟨"com/example/aspen/aspen/IntList", "remove", "(I)V"⟩ : MethodName) prog_41_method_5_code 3 none :: ws) ({ frames := 0, cells := 0, slots := 0, locals := 0 } : Room)) (fun aa_ U => aa_ = #[(.ref a), (.int it)] ∧ Z.Warmed39 U.vm ∧ U.heap = h0) (fun _ _ _ _ _ => True) (fun _ UU_ oo_ UV_ => ∃ vv_ LL_, oo_ = .returned vv_ ∧ (Q_rem3 Z a b kb it x0 x1 x2 h0 n0) vv_ UV_.heap LL_ ∧ FrameEnd UU_ oo_ UV_ LL_ ({ frames := 0, cells := 0, slots := 0, locals := 0 } : Room).cells ({ frames := 0, cells := 0, slots := 0, locals := 0 } : Room).slots) := by
  refine MetFree.of_bodySF (plainFor_of_name pn1) hisR ?_
  intro p e s m args below meth c s₁ Bd hml0 hP hK
  obtain ⟨rfl, hZ, hh⟩ := hP
  have hx := Bd.exec
  have hby := Bd.bytes
  have hlk : meth.locks = false := BodyLoose.notSynchronized Bd
  have hret := Bd.returns
  have hml : c.maxLocals = 3 := hml0
  have hown : s.vm.findClass "com/example/aspen/aspen/IntList" = some m.cls := findClass_of_methodNamed Bd.named
  have hnm := (name_of_methodNamed Bd.named Bd.method).1
  have X0 : Stand p l e ({ frames := 0, cells := 0, slots := 0, locals := 0 } : Room) s m #[(.ref a), (.int it)] below meth c s₁ [] 0 0 := Stand.of_body Bd
  have e0 : s₁.heap = h0 := by rw [← hh, Bd.state]; rfl
  have N0 := Fr.nil n0
  show Go p e below s ({ frames := 0, cells := 0, slots := 0, locals := 0 } : Room).cells ({ frames := 0, cells := 0, slots := 0, locals := 0 } : Room).slots (Q_rem3 Z a b kb it x0 x1 x2 h0 n0) s₁ (entryFrame m #[(.ref a), (.int it)] 3)
  refine own_cast (g' := mkF m 0 #[.val (.ref a), .val (.int it), .unset] []) (by first | (simp [entryFrame, mkF, argsToLocals, Value.category]; done) | rfl) ?_
  have K0 := Keep.refl h0 ([a, b] : List Addr)
  show Go _ _ _ _ _ _ _ _ (mkF m 0 #[.val (.ref a), .val (.int it), .unset] [])
  refine own_via ?_ fun _ kt => XS.iconst X0.here hx rfl (hb hby d_rem3_0) kt
  show Go _ _ _ _ _ _ _ _ (mkF m 1 #[.val (.ref a), .val (.int it), .unset] [(.int (0 : Int32))])
  refine own_via ?_ fun _ kt => XS.istoreN X0.here hx rfl (hb hby d_rem3_1) rfl (l' := #[.val (.ref a), .val (.int it), .val (.int (0 : Int32))]) rfl kt
  show Go _ _ _ _ _ _ _ _ (mkF m 2 #[.val (.ref a), .val (.int it), .val (.int (0 : Int32))] [])
  refine own_via ?_ fun _ kt => XS.iloadN X0.here hx rfl (hb hby d_rem3_2) rfl kt
  show Go _ _ _ _ _ _ _ _ (mkF m 3 #[.val (.ref a), .val (.int it), .val (.int (0 : Int32))] [(.int (0 : Int32))])
  refine own_via ?_ fun _ kt => XS.aloadN X0.here hx rfl (hb hby d_rem3_3) rfl rfl kt
  show Go _ _ _ _ _ _ _ _ (mkF m 4 #[.val (.ref a), .val (.int it), .val (.int (0 : Int32))] [(.ref a), (.int (0 : Int32))])
  obtain ⟨T1, X1, e1, st1⟩ := getF X0 hx hZ hown (host := "") (Or.inl (hw _ (List.mem_of_getElem? (i := 18) rfl))) Via.refl e0 Fs (g := (mkF m 4 #[.val (.ref a), .val (.int it), .val (.int (0 : Int32))] [(.ref a), (.int (0 : Int32))])) rfl rfl (hb hby d_rem3_4)
  refine own_via ?_ st1
  show Go _ _ _ _ _ _ _ _ (mkF m 7 #[.val (.ref a), .val (.int it), .val (.int (0 : Int32))] [(.int (3 : Int32)), (.int (0 : Int32))])
  refine own_via ?_ fun _ kt => XS.icmpNo X1.here hx rfl (hb hby d_rem3_7) rfl (tlt (by decide : ((0 : Int32) < (3 : Int32)))).2.1 kt
  show Go _ _ _ _ _ _ _ _ (mkF m 10 #[.val (.ref a), .val (.int it), .val (.int (0 : Int32))] [])
  refine own_via ?_ fun _ kt => XS.aloadN X1.here hx rfl (hb hby d_rem3_10) rfl rfl kt
  show Go _ _ _ _ _ _ _ _ (mkF m 11 #[.val (.ref a), .val (.int it), .val (.int (0 : Int32))] [(.ref a)])
  obtain ⟨T2, X2, e2, st2⟩ := getF X1 hx hZ hown (host := "") (Or.inl (hw _ (List.mem_of_getElem? (i := 11) rfl))) Via.refl e1 Fi (g := (mkF m 11 #[.val (.ref a), .val (.int it), .val (.int (0 : Int32))] [(.ref a)])) rfl rfl (hb hby d_rem3_11)
  refine own_via ?_ st2
  show Go _ _ _ _ _ _ _ _ (mkF m 14 #[.val (.ref a), .val (.int it), .val (.int (0 : Int32))] [(.ref b)])
  refine own_via ?_ fun _ kt => XS.iloadN X2.here hx rfl (hb hby d_rem3_14) rfl kt
  show Go _ _ _ _ _ _ _ _ (mkF m 15 #[.val (.ref a), .val (.int it), .val (.int (0 : Int32))] [(.int (0 : Int32)), (.ref b)])
  obtain ⟨cl3, Ar3, Aq3, AS3, AN3, AH3, AG3⟩ := Vb
  have Vb : Arv Z h0 b kb .int (4 : Int32) [(.int x0), (.int x1), (.int x2), (.int (0 : Int32))] (.int (0 : Int32)) := ⟨cl3, Ar3, Aq3, AS3, AN3, AH3, AG3⟩
  have hin4 : ¬ ((0 : Int32) < 0 ∨ cl3.slots.size ≤ ((0 : Int32)).toNatClampNeg) := (inb_of AS3 ⟨by decide, by decide⟩)
  have hat4 : cl3.slots[((0 : Int32)).toNatClampNeg]? = some (.int x0) := (AH3.at hin4 rfl)
  refine own_via ?_ fun _ kt => X2.iaload hx (j := (0 : Int32)) (v := (.int x0)) (by rw [e2]; exact Ar3.1) (State.isArrayOf_alike hZ.alike Ar3.2.1) Ar3.2.2 hin4 hat4 (g := (mkF m 15 #[.val (.ref a), .val (.int it), .val (.int (0 : Int32))] [(.int (0 : Int32)), (.ref b)])) rfl rfl (hb hby d_rem3_15) _ kt
  show Go _ _ _ _ _ _ _ _ (mkF m 16 #[.val (.ref a), .val (.int it), .val (.int (0 : Int32))] [(.int x0)])
  refine own_via ?_ fun _ kt => XS.iloadN X2.here hx rfl (hb hby d_rem3_16) rfl kt
  show Go _ _ _ _ _ _ _ _ (mkF m 17 #[.val (.ref a), .val (.int it), .val (.int (0 : Int32))] [(.int it), (.int x0)])
  by_cases hc5 : x0 = it
  · skip
    refine own_via ?_ fun _ kt => XS.icmpNo X2.here hx rfl (hb hby d_rem3_17) rfl (teq hc5).2 kt
    show Go _ _ _ _ _ _ _ _ (mkF m 20 #[.val (.ref a), .val (.int it), .val (.int (0 : Int32))] [])
    refine own_via ?_ fun _ kt => XS.aloadN X2.here hx rfl (hb hby d_rem3_20) rfl rfl kt
    show Go _ _ _ _ _ _ _ _ (mkF m 21 #[.val (.ref a), .val (.int it), .val (.int (0 : Int32))] [(.ref a)])
    refine own_via ?_ fun _ kt => XS.dup X2.here hx rfl (hb hby d_rem3_21) rfl rfl kt
    show Go _ _ _ _ _ _ _ _ (mkF m 22 #[.val (.ref a), .val (.int it), .val (.int (0 : Int32))] [(.ref a), (.ref a)])
    obtain ⟨T6, X6, e6, st6⟩ := getF X2 hx hZ hown (host := "") (Or.inl (hw _ (List.mem_of_getElem? (i := 18) rfl))) Via.refl e2 Fs (g := (mkF m 22 #[.val (.ref a), .val (.int it), .val (.int (0 : Int32))] [(.ref a), (.ref a)])) rfl rfl (hb hby d_rem3_22)
    refine own_via ?_ st6
    show Go _ _ _ _ _ _ _ _ (mkF m 25 #[.val (.ref a), .val (.int it), .val (.int (0 : Int32))] [(.int (3 : Int32)), (.ref a)])
    refine own_via ?_ fun _ kt => XS.iconst X6.here hx rfl (hb hby d_rem3_25) kt
    show Go _ _ _ _ _ _ _ _ (mkF m 26 #[.val (.ref a), .val (.int it), .val (.int (0 : Int32))] [(.int (1 : Int32)), (.int (3 : Int32)), (.ref a)])
    refine own_via ?_ fun _ kt => XS.isub X6.here hx rfl (hb hby d_rem3_26) rfl kt
    show Go _ _ _ _ _ _ _ _ (mkF m 27 #[.val (.ref a), .val (.int it), .val (.int (0 : Int32))] [(.int ((3 : Int32) - (1 : Int32))), (.ref a)])
    rw [show ((3 : Int32) - (1 : Int32)) = (2 : Int32) from by decide]
    show Go _ _ _ _ _ _ _ _ (mkF m 27 #[.val (.ref a), .val (.int it), .val (.int (0 : Int32))] [(.int (2 : Int32)), (.ref a)])
    obtain ⟨T7, h7, X7, e7, W7, st7⟩ := putF X6 hx hZ hown (host := "") (Or.inl (hw _ (List.mem_of_getElem? (i := 18) rfl))) Via.refl e6 Fs E (Or.inl (hw _ (List.mem_of_getElem? (i := 19) rfl))) (hw _ (List.mem_of_getElem? (i := 1) rfl)) (ty := .int) (by decide) rfl rfl (g := (mkF m 27 #[.val (.ref a), .val (.int it), .val (.int (0 : Int32))] [(.int (2 : Int32)), (.ref a)])) rfl rfl (hb hby d_rem3_27)
    have N7 := Fr.snoc X7 N0 g_a
    replace E := E.wr W7
    replace Fs := Fs.same W7
    replace Fi := Fi.other W7 (Or.inr (slot_ne (Or.inl (hw _ (List.mem_of_getElem? (i := 12) rfl))) (Or.inl (hw _ (List.mem_of_getElem? (i := 19) rfl))) (by decide) (t := (.array .int)) (t' := .int) (by decide) (by decide)))
    replace Vb := Vb.other W7 (Ne.symm neab)
    replace Z0 := Nat.le_trans Z0 (Keep.of_wr W7).1
    replace K0 := K0.wr W7 (Or.inl (List.mem_of_getElem? (i := 0) rfl))
    refine own_via ?_ st7
    show Go _ _ _ _ _ _ _ _ (mkF m 30 #[.val (.ref a), .val (.int it), .val (.int (0 : Int32))] [])
    refine own_via ?_ fun _ kt => XS.aloadN X7.here hx rfl (hb hby d_rem3_30) rfl rfl kt
    show Go _ _ _ _ _ _ _ _ (mkF m 31 #[.val (.ref a), .val (.int it), .val (.int (0 : Int32))] [(.ref a)])
    obtain ⟨T8, X8, e8, st8⟩ := getF X7 hx hZ hown (host := "") (Or.inl (hw _ (List.mem_of_getElem? (i := 11) rfl))) Via.refl e7 Fi (g := (mkF m 31 #[.val (.ref a), .val (.int it), .val (.int (0 : Int32))] [(.ref a)])) rfl rfl (hb hby d_rem3_31)
    refine own_via ?_ st8
    show Go _ _ _ _ _ _ _ _ (mkF m 34 #[.val (.ref a), .val (.int it), .val (.int (0 : Int32))] [(.ref b)])
    refine own_via ?_ fun _ kt => XS.iloadN X8.here hx rfl (hb hby d_rem3_34) rfl kt
    show Go _ _ _ _ _ _ _ _ (mkF m 35 #[.val (.ref a), .val (.int it), .val (.int (0 : Int32))] [(.int (0 : Int32)), (.ref b)])
    refine own_via ?_ fun _ kt => XS.aloadN X8.here hx rfl (hb hby d_rem3_35) rfl rfl kt
    show Go _ _ _ _ _ _ _ _ (mkF m 36 #[.val (.ref a), .val (.int it), .val (.int (0 : Int32))] [(.ref a), (.int (0 : Int32)), (.ref b)])
    obtain ⟨T9, X9, e9, st9⟩ := getF X8 hx hZ hown (host := "") (Or.inl (hw _ (List.mem_of_getElem? (i := 11) rfl))) Via.refl e8 Fi (g := (mkF m 36 #[.val (.ref a), .val (.int it), .val (.int (0 : Int32))] [(.ref a), (.int (0 : Int32)), (.ref b)])) rfl rfl (hb hby d_rem3_36)
    refine own_via ?_ st9
    show Go _ _ _ _ _ _ _ _ (mkF m 39 #[.val (.ref a), .val (.int it), .val (.int (0 : Int32))] [(.ref b), (.int (0 : Int32)), (.ref b)])
    refine own_via ?_ fun _ kt => XS.aloadN X9.here hx rfl (hb hby d_rem3_39) rfl rfl kt
    show Go _ _ _ _ _ _ _ _ (mkF m 40 #[.val (.ref a), .val (.int it), .val (.int (0 : Int32))] [(.ref a), (.ref b), (.int (0 : Int32)), (.ref b)])
    obtain ⟨T10, X10, e10, st10⟩ := getF X9 hx hZ hown (host := "") (Or.inl (hw _ (List.mem_of_getElem? (i := 18) rfl))) Via.refl e9 Fs (g := (mkF m 40 #[.val (.ref a), .val (.int it), .val (.int (0 : Int32))] [(.ref a), (.ref b), (.int (0 : Int32)), (.ref b)])) rfl rfl (hb hby d_rem3_40)
    refine own_via ?_ st10
    show Go _ _ _ _ _ _ _ _ (mkF m 43 #[.val (.ref a), .val (.int it), .val (.int (0 : Int32))] [(.int (2 : Int32)), (.ref b), (.int (0 : Int32)), (.ref b)])
    obtain ⟨cl11, Ar11, Aq11, AS11, AN11, AH11, AG11⟩ := Vb
    have Vb : Arv Z h7 b kb .int (4 : Int32) [(.int x0), (.int x1), (.int x2), (.int (0 : Int32))] (.int (0 : Int32)) := ⟨cl11, Ar11, Aq11, AS11, AN11, AH11, AG11⟩
    have hin12 : ¬ ((2 : Int32) < 0 ∨ cl11.slots.size ≤ ((2 : Int32)).toNatClampNeg) := (inb_of AS11 ⟨by decide, by decide⟩)
    have hat12 : cl11.slots[((2 : Int32)).toNatClampNeg]? = some (.int x2) := (AH11.at hin12 rfl)
    refine own_via ?_ fun _ kt => X10.iaload hx (j := (2 : Int32)) (v := (.int x2)) (by rw [e10]; exact Ar11.1) (State.isArrayOf_alike hZ.alike Ar11.2.1) Ar11.2.2 hin12 hat12 (g := (mkF m 43 #[.val (.ref a), .val (.int it), .val (.int (0 : Int32))] [(.int (2 : Int32)), (.ref b), (.int (0 : Int32)), (.ref b)])) rfl rfl (hb hby d_rem3_43) _ kt
    show Go _ _ _ _ _ _ _ _ (mkF m 44 #[.val (.ref a), .val (.int it), .val (.int (0 : Int32))] [(.int x2), (.int (0 : Int32)), (.ref b)])
    obtain ⟨cl13, Ar13, Aq13, AS13, AN13, AH13, AG13⟩ := Vb
    have hin14 : ¬ ((0 : Int32) < 0 ∨ cl13.slots.size ≤ ((0 : Int32)).toNatClampNeg) := (inb_of AS13 ⟨by decide, by decide⟩)
    obtain ⟨T14, h14, X14, e14, W14, st14⟩ := stI X10 hx hZ e10 Ar13 (j := (0 : Int32)) hin14 (g := (mkF m 44 #[.val (.ref a), .val (.int it), .val (.int (0 : Int32))] [(.int x2), (.int (0 : Int32)), (.ref b)])) rfl rfl (hb hby d_rem3_44)
    have N14 := Fr.snoc X14 N7 g_b
    have V14 : Arv Z h14 b kb .int (4 : Int32) [(.int x2), (.int x1), (.int x2), (.int (0 : Int32))] (.int (0 : Int32)) := Arv.set Ar13 Aq13 AS13 AN13 AH13 AG13 rfl W14 0 rfl (Nat.le_of_ble_eq_true rfl)
    replace E := E.wr W14
    replace Fs := Fs.other W14 (Or.inl neab)
    replace Fi := Fi.other W14 (Or.inl neab)
    replace Z0 := Nat.le_trans Z0 (Keep.of_wr W14).1
    replace K0 := K0.wr W14 (Or.inl (List.mem_of_getElem? (i := 1) rfl))
    refine own_via ?_ st14
    show Go _ _ _ _ _ _ _ _ (mkF m 45 #[.val (.ref a), .val (.int it), .val (.int (0 : Int32))] [])
    exact own_retV X14 hx hret hlk (hb hby d_rem3_45) (by decide) (by decide) (by rw [e14]; exact ⟨rfl, N14, K0, Or.inl ⟨hc5, E, Fs, Fi, V14⟩⟩)
  · skip
    refine own_via ?_ fun _ kt => XS.icmpYes X2.here hx rfl (pc0 := 17) (pc' := 46) rfl (hb hby d_rem3_17) rfl (feq hc5).2 (by decide) (by decide) kt
    show Go _ _ _ _ _ _ _ _ (mkF m 46 #[.val (.ref a), .val (.int it), .val (.int (0 : Int32))] [])
    refine own_via ?_ fun _ kt => XS.iinc X2.here hx rfl (hb hby d_rem3_46) rfl (l' := #[.val (.ref a), .val (.int it), .val (.int ((0 : Int32) + (1 : Int32)))]) rfl kt
    show Go _ _ _ _ _ _ _ _ (mkF m 49 #[.val (.ref a), .val (.int it), .val (.int ((0 : Int32) + (1 : Int32)))] [])
    rw [show ((0 : Int32) + (1 : Int32)) = (1 : Int32) from by decide]
    show Go _ _ _ _ _ _ _ _ (mkF m 49 #[.val (.ref a), .val (.int it), .val (.int (1 : Int32))] [])
    refine own_via ?_ fun _ kt => XS.goto X2.here hx rfl (pc0 := 49) (pc' := 2) rfl (hb hby d_rem3_49) (by decide) (by decide) kt
    show Go _ _ _ _ _ _ _ _ (mkF m 2 #[.val (.ref a), .val (.int it), .val (.int (1 : Int32))] [])
    refine own_via ?_ fun _ kt => XS.iloadN X2.here hx rfl (hb hby d_rem3_2) rfl kt
    show Go _ _ _ _ _ _ _ _ (mkF m 3 #[.val (.ref a), .val (.int it), .val (.int (1 : Int32))] [(.int (1 : Int32))])
    refine own_via ?_ fun _ kt => XS.aloadN X2.here hx rfl (hb hby d_rem3_3) rfl rfl kt
    show Go _ _ _ _ _ _ _ _ (mkF m 4 #[.val (.ref a), .val (.int it), .val (.int (1 : Int32))] [(.ref a), (.int (1 : Int32))])
    obtain ⟨T15, X15, e15, st15⟩ := getF X2 hx hZ hown (host := "") (Or.inl (hw _ (List.mem_of_getElem? (i := 18) rfl))) Via.refl e2 Fs (g := (mkF m 4 #[.val (.ref a), .val (.int it), .val (.int (1 : Int32))] [(.ref a), (.int (1 : Int32))])) rfl rfl (hb hby d_rem3_4)
    refine own_via ?_ st15
    show Go _ _ _ _ _ _ _ _ (mkF m 7 #[.val (.ref a), .val (.int it), .val (.int (1 : Int32))] [(.int (3 : Int32)), (.int (1 : Int32))])
    refine own_via ?_ fun _ kt => XS.icmpNo X15.here hx rfl (hb hby d_rem3_7) rfl (tlt (by decide : ((1 : Int32) < (3 : Int32)))).2.1 kt
    show Go _ _ _ _ _ _ _ _ (mkF m 10 #[.val (.ref a), .val (.int it), .val (.int (1 : Int32))] [])
    refine own_via ?_ fun _ kt => XS.aloadN X15.here hx rfl (hb hby d_rem3_10) rfl rfl kt
    show Go _ _ _ _ _ _ _ _ (mkF m 11 #[.val (.ref a), .val (.int it), .val (.int (1 : Int32))] [(.ref a)])
    obtain ⟨T16, X16, e16, st16⟩ := getF X15 hx hZ hown (host := "") (Or.inl (hw _ (List.mem_of_getElem? (i := 11) rfl))) Via.refl e15 Fi (g := (mkF m 11 #[.val (.ref a), .val (.int it), .val (.int (1 : Int32))] [(.ref a)])) rfl rfl (hb hby d_rem3_11)
    refine own_via ?_ st16
    show Go _ _ _ _ _ _ _ _ (mkF m 14 #[.val (.ref a), .val (.int it), .val (.int (1 : Int32))] [(.ref b)])
    refine own_via ?_ fun _ kt => XS.iloadN X16.here hx rfl (hb hby d_rem3_14) rfl kt
    show Go _ _ _ _ _ _ _ _ (mkF m 15 #[.val (.ref a), .val (.int it), .val (.int (1 : Int32))] [(.int (1 : Int32)), (.ref b)])
    obtain ⟨cl17, Ar17, Aq17, AS17, AN17, AH17, AG17⟩ := Vb
    have Vb : Arv Z h0 b kb .int (4 : Int32) [(.int x0), (.int x1), (.int x2), (.int (0 : Int32))] (.int (0 : Int32)) := ⟨cl17, Ar17, Aq17, AS17, AN17, AH17, AG17⟩
    have hin18 : ¬ ((1 : Int32) < 0 ∨ cl17.slots.size ≤ ((1 : Int32)).toNatClampNeg) := (inb_of AS17 ⟨by decide, by decide⟩)
    have hat18 : cl17.slots[((1 : Int32)).toNatClampNeg]? = some (.int x1) := (AH17.at hin18 rfl)
    refine own_via ?_ fun _ kt => X16.iaload hx (j := (1 : Int32)) (v := (.int x1)) (by rw [e16]; exact Ar17.1) (State.isArrayOf_alike hZ.alike Ar17.2.1) Ar17.2.2 hin18 hat18 (g := (mkF m 15 #[.val (.ref a), .val (.int it), .val (.int (1 : Int32))] [(.int (1 : Int32)), (.ref b)])) rfl rfl (hb hby d_rem3_15) _ kt
    show Go _ _ _ _ _ _ _ _ (mkF m 16 #[.val (.ref a), .val (.int it), .val (.int (1 : Int32))] [(.int x1)])
    refine own_via ?_ fun _ kt => XS.iloadN X16.here hx rfl (hb hby d_rem3_16) rfl kt
    show Go _ _ _ _ _ _ _ _ (mkF m 17 #[.val (.ref a), .val (.int it), .val (.int (1 : Int32))] [(.int it), (.int x1)])
    by_cases hc19 : x1 = it
    · skip
      refine own_via ?_ fun _ kt => XS.icmpNo X16.here hx rfl (hb hby d_rem3_17) rfl (teq hc19).2 kt
      show Go _ _ _ _ _ _ _ _ (mkF m 20 #[.val (.ref a), .val (.int it), .val (.int (1 : Int32))] [])
      refine own_via ?_ fun _ kt => XS.aloadN X16.here hx rfl (hb hby d_rem3_20) rfl rfl kt
      show Go _ _ _ _ _ _ _ _ (mkF m 21 #[.val (.ref a), .val (.int it), .val (.int (1 : Int32))] [(.ref a)])
      refine own_via ?_ fun _ kt => XS.dup X16.here hx rfl (hb hby d_rem3_21) rfl rfl kt
      show Go _ _ _ _ _ _ _ _ (mkF m 22 #[.val (.ref a), .val (.int it), .val (.int (1 : Int32))] [(.ref a), (.ref a)])
      obtain ⟨T20, X20, e20, st20⟩ := getF X16 hx hZ hown (host := "") (Or.inl (hw _ (List.mem_of_getElem? (i := 18) rfl))) Via.refl e16 Fs (g := (mkF m 22 #[.val (.ref a), .val (.int it), .val (.int (1 : Int32))] [(.ref a), (.ref a)])) rfl rfl (hb hby d_rem3_22)
      refine own_via ?_ st20
      show Go _ _ _ _ _ _ _ _ (mkF m 25 #[.val (.ref a), .val (.int it), .val (.int (1 : Int32))] [(.int (3 : Int32)), (.ref a)])
      refine own_via ?_ fun _ kt => XS.iconst X20.here hx rfl (hb hby d_rem3_25) kt
      show Go _ _ _ _ _ _ _ _ (mkF m 26 #[.val (.ref a), .val (.int it), .val (.int (1 : Int32))] [(.int (1 : Int32)), (.int (3 : Int32)), (.ref a)])
      refine own_via ?_ fun _ kt => XS.isub X20.here hx rfl (hb hby d_rem3_26) rfl kt
      show Go _ _ _ _ _ _ _ _ (mkF m 27 #[.val (.ref a), .val (.int it), .val (.int (1 : Int32))] [(.int ((3 : Int32) - (1 : Int32))), (.ref a)])
      rw [show ((3 : Int32) - (1 : Int32)) = (2 : Int32) from by decide]
      show Go _ _ _ _ _ _ _ _ (mkF m 27 #[.val (.ref a), .val (.int it), .val (.int (1 : Int32))] [(.int (2 : Int32)), (.ref a)])
      obtain ⟨T21, h21, X21, e21, W21, st21⟩ := putF X20 hx hZ hown (host := "") (Or.inl (hw _ (List.mem_of_getElem? (i := 18) rfl))) Via.refl e20 Fs E (Or.inl (hw _ (List.mem_of_getElem? (i := 19) rfl))) (hw _ (List.mem_of_getElem? (i := 1) rfl)) (ty := .int) (by decide) rfl rfl (g := (mkF m 27 #[.val (.ref a), .val (.int it), .val (.int (1 : Int32))] [(.int (2 : Int32)), (.ref a)])) rfl rfl (hb hby d_rem3_27)
      have N21 := Fr.snoc X21 N0 g_a
      replace E := E.wr W21
      replace Fs := Fs.same W21
      replace Fi := Fi.other W21 (Or.inr (slot_ne (Or.inl (hw _ (List.mem_of_getElem? (i := 12) rfl))) (Or.inl (hw _ (List.mem_of_getElem? (i := 19) rfl))) (by decide) (t := (.array .int)) (t' := .int) (by decide) (by decide)))
      replace Vb := Vb.other W21 (Ne.symm neab)
      replace Z0 := Nat.le_trans Z0 (Keep.of_wr W21).1
      replace K0 := K0.wr W21 (Or.inl (List.mem_of_getElem? (i := 0) rfl))
      refine own_via ?_ st21
      show Go _ _ _ _ _ _ _ _ (mkF m 30 #[.val (.ref a), .val (.int it), .val (.int (1 : Int32))] [])
      refine own_via ?_ fun _ kt => XS.aloadN X21.here hx rfl (hb hby d_rem3_30) rfl rfl kt
      show Go _ _ _ _ _ _ _ _ (mkF m 31 #[.val (.ref a), .val (.int it), .val (.int (1 : Int32))] [(.ref a)])
      obtain ⟨T22, X22, e22, st22⟩ := getF X21 hx hZ hown (host := "") (Or.inl (hw _ (List.mem_of_getElem? (i := 11) rfl))) Via.refl e21 Fi (g := (mkF m 31 #[.val (.ref a), .val (.int it), .val (.int (1 : Int32))] [(.ref a)])) rfl rfl (hb hby d_rem3_31)
      refine own_via ?_ st22
      show Go _ _ _ _ _ _ _ _ (mkF m 34 #[.val (.ref a), .val (.int it), .val (.int (1 : Int32))] [(.ref b)])
      refine own_via ?_ fun _ kt => XS.iloadN X22.here hx rfl (hb hby d_rem3_34) rfl kt
      show Go _ _ _ _ _ _ _ _ (mkF m 35 #[.val (.ref a), .val (.int it), .val (.int (1 : Int32))] [(.int (1 : Int32)), (.ref b)])
      refine own_via ?_ fun _ kt => XS.aloadN X22.here hx rfl (hb hby d_rem3_35) rfl rfl kt
      show Go _ _ _ _ _ _ _ _ (mkF m 36 #[.val (.ref a), .val (.int it), .val (.int (1 : Int32))] [(.ref a), (.int (1 : Int32)), (.ref b)])
      obtain ⟨T23, X23, e23, st23⟩ := getF X22 hx hZ hown (host := "") (Or.inl (hw _ (List.mem_of_getElem? (i := 11) rfl))) Via.refl e22 Fi (g := (mkF m 36 #[.val (.ref a), .val (.int it), .val (.int (1 : Int32))] [(.ref a), (.int (1 : Int32)), (.ref b)])) rfl rfl (hb hby d_rem3_36)
      refine own_via ?_ st23
      show Go _ _ _ _ _ _ _ _ (mkF m 39 #[.val (.ref a), .val (.int it), .val (.int (1 : Int32))] [(.ref b), (.int (1 : Int32)), (.ref b)])
      refine own_via ?_ fun _ kt => XS.aloadN X23.here hx rfl (hb hby d_rem3_39) rfl rfl kt
      show Go _ _ _ _ _ _ _ _ (mkF m 40 #[.val (.ref a), .val (.int it), .val (.int (1 : Int32))] [(.ref a), (.ref b), (.int (1 : Int32)), (.ref b)])
      obtain ⟨T24, X24, e24, st24⟩ := getF X23 hx hZ hown (host := "") (Or.inl (hw _ (List.mem_of_getElem? (i := 18) rfl))) Via.refl e23 Fs (g := (mkF m 40 #[.val (.ref a), .val (.int it), .val (.int (1 : Int32))] [(.ref a), (.ref b), (.int (1 : Int32)), (.ref b)])) rfl rfl (hb hby d_rem3_40)
      refine own_via ?_ st24
      show Go _ _ _ _ _ _ _ _ (mkF m 43 #[.val (.ref a), .val (.int it), .val (.int (1 : Int32))] [(.int (2 : Int32)), (.ref b), (.int (1 : Int32)), (.ref b)])
      obtain ⟨cl25, Ar25, Aq25, AS25, AN25, AH25, AG25⟩ := Vb
      have Vb : Arv Z h21 b kb .int (4 : Int32) [(.int x0), (.int x1), (.int x2), (.int (0 : Int32))] (.int (0 : Int32)) := ⟨cl25, Ar25, Aq25, AS25, AN25, AH25, AG25⟩
      have hin26 : ¬ ((2 : Int32) < 0 ∨ cl25.slots.size ≤ ((2 : Int32)).toNatClampNeg) := (inb_of AS25 ⟨by decide, by decide⟩)
      have hat26 : cl25.slots[((2 : Int32)).toNatClampNeg]? = some (.int x2) := (AH25.at hin26 rfl)
      refine own_via ?_ fun _ kt => X24.iaload hx (j := (2 : Int32)) (v := (.int x2)) (by rw [e24]; exact Ar25.1) (State.isArrayOf_alike hZ.alike Ar25.2.1) Ar25.2.2 hin26 hat26 (g := (mkF m 43 #[.val (.ref a), .val (.int it), .val (.int (1 : Int32))] [(.int (2 : Int32)), (.ref b), (.int (1 : Int32)), (.ref b)])) rfl rfl (hb hby d_rem3_43) _ kt
      show Go _ _ _ _ _ _ _ _ (mkF m 44 #[.val (.ref a), .val (.int it), .val (.int (1 : Int32))] [(.int x2), (.int (1 : Int32)), (.ref b)])
      obtain ⟨cl27, Ar27, Aq27, AS27, AN27, AH27, AG27⟩ := Vb
      have hin28 : ¬ ((1 : Int32) < 0 ∨ cl27.slots.size ≤ ((1 : Int32)).toNatClampNeg) := (inb_of AS27 ⟨by decide, by decide⟩)
      obtain ⟨T28, h28, X28, e28, W28, st28⟩ := stI X24 hx hZ e24 Ar27 (j := (1 : Int32)) hin28 (g := (mkF m 44 #[.val (.ref a), .val (.int it), .val (.int (1 : Int32))] [(.int x2), (.int (1 : Int32)), (.ref b)])) rfl rfl (hb hby d_rem3_44)
      have N28 := Fr.snoc X28 N21 g_b
      have V28 : Arv Z h28 b kb .int (4 : Int32) [(.int x0), (.int x2), (.int x2), (.int (0 : Int32))] (.int (0 : Int32)) := Arv.set Ar27 Aq27 AS27 AN27 AH27 AG27 rfl W28 1 rfl (Nat.le_of_ble_eq_true rfl)
      replace E := E.wr W28
      replace Fs := Fs.other W28 (Or.inl neab)
      replace Fi := Fi.other W28 (Or.inl neab)
      replace Z0 := Nat.le_trans Z0 (Keep.of_wr W28).1
      replace K0 := K0.wr W28 (Or.inl (List.mem_of_getElem? (i := 1) rfl))
      refine own_via ?_ st28
      show Go _ _ _ _ _ _ _ _ (mkF m 45 #[.val (.ref a), .val (.int it), .val (.int (1 : Int32))] [])
      exact own_retV X28 hx hret hlk (hb hby d_rem3_45) (by decide) (by decide) (by rw [e28]; exact ⟨rfl, N28, K0, Or.inr (Or.inl ⟨hc5, hc19, E, Fs, Fi, V28⟩)⟩)
    · skip
      refine own_via ?_ fun _ kt => XS.icmpYes X16.here hx rfl (pc0 := 17) (pc' := 46) rfl (hb hby d_rem3_17) rfl (feq hc19).2 (by decide) (by decide) kt
      show Go _ _ _ _ _ _ _ _ (mkF m 46 #[.val (.ref a), .val (.int it), .val (.int (1 : Int32))] [])
      refine own_via ?_ fun _ kt => XS.iinc X16.here hx rfl (hb hby d_rem3_46) rfl (l' := #[.val (.ref a), .val (.int it), .val (.int ((1 : Int32) + (1 : Int32)))]) rfl kt
      show Go _ _ _ _ _ _ _ _ (mkF m 49 #[.val (.ref a), .val (.int it), .val (.int ((1 : Int32) + (1 : Int32)))] [])
      rw [show ((1 : Int32) + (1 : Int32)) = (2 : Int32) from by decide]
      show Go _ _ _ _ _ _ _ _ (mkF m 49 #[.val (.ref a), .val (.int it), .val (.int (2 : Int32))] [])
      refine own_via ?_ fun _ kt => XS.goto X16.here hx rfl (pc0 := 49) (pc' := 2) rfl (hb hby d_rem3_49) (by decide) (by decide) kt
      show Go _ _ _ _ _ _ _ _ (mkF m 2 #[.val (.ref a), .val (.int it), .val (.int (2 : Int32))] [])
      refine own_via ?_ fun _ kt => XS.iloadN X16.here hx rfl (hb hby d_rem3_2) rfl kt
      show Go _ _ _ _ _ _ _ _ (mkF m 3 #[.val (.ref a), .val (.int it), .val (.int (2 : Int32))] [(.int (2 : Int32))])
      refine own_via ?_ fun _ kt => XS.aloadN X16.here hx rfl (hb hby d_rem3_3) rfl rfl kt
      show Go _ _ _ _ _ _ _ _ (mkF m 4 #[.val (.ref a), .val (.int it), .val (.int (2 : Int32))] [(.ref a), (.int (2 : Int32))])
      obtain ⟨T29, X29, e29, st29⟩ := getF X16 hx hZ hown (host := "") (Or.inl (hw _ (List.mem_of_getElem? (i := 18) rfl))) Via.refl e16 Fs (g := (mkF m 4 #[.val (.ref a), .val (.int it), .val (.int (2 : Int32))] [(.ref a), (.int (2 : Int32))])) rfl rfl (hb hby d_rem3_4)
      refine own_via ?_ st29
      show Go _ _ _ _ _ _ _ _ (mkF m 7 #[.val (.ref a), .val (.int it), .val (.int (2 : Int32))] [(.int (3 : Int32)), (.int (2 : Int32))])
      refine own_via ?_ fun _ kt => XS.icmpNo X29.here hx rfl (hb hby d_rem3_7) rfl (tlt (by decide : ((2 : Int32) < (3 : Int32)))).2.1 kt
      show Go _ _ _ _ _ _ _ _ (mkF m 10 #[.val (.ref a), .val (.int it), .val (.int (2 : Int32))] [])
      refine own_via ?_ fun _ kt => XS.aloadN X29.here hx rfl (hb hby d_rem3_10) rfl rfl kt
      show Go _ _ _ _ _ _ _ _ (mkF m 11 #[.val (.ref a), .val (.int it), .val (.int (2 : Int32))] [(.ref a)])
      obtain ⟨T30, X30, e30, st30⟩ := getF X29 hx hZ hown (host := "") (Or.inl (hw _ (List.mem_of_getElem? (i := 11) rfl))) Via.refl e29 Fi (g := (mkF m 11 #[.val (.ref a), .val (.int it), .val (.int (2 : Int32))] [(.ref a)])) rfl rfl (hb hby d_rem3_11)
      refine own_via ?_ st30
      show Go _ _ _ _ _ _ _ _ (mkF m 14 #[.val (.ref a), .val (.int it), .val (.int (2 : Int32))] [(.ref b)])
      refine own_via ?_ fun _ kt => XS.iloadN X30.here hx rfl (hb hby d_rem3_14) rfl kt
      show Go _ _ _ _ _ _ _ _ (mkF m 15 #[.val (.ref a), .val (.int it), .val (.int (2 : Int32))] [(.int (2 : Int32)), (.ref b)])
      obtain ⟨cl31, Ar31, Aq31, AS31, AN31, AH31, AG31⟩ := Vb
      have Vb : Arv Z h0 b kb .int (4 : Int32) [(.int x0), (.int x1), (.int x2), (.int (0 : Int32))] (.int (0 : Int32)) := ⟨cl31, Ar31, Aq31, AS31, AN31, AH31, AG31⟩
      have hin32 : ¬ ((2 : Int32) < 0 ∨ cl31.slots.size ≤ ((2 : Int32)).toNatClampNeg) := (inb_of AS31 ⟨by decide, by decide⟩)
      have hat32 : cl31.slots[((2 : Int32)).toNatClampNeg]? = some (.int x2) := (AH31.at hin32 rfl)
      refine own_via ?_ fun _ kt => X30.iaload hx (j := (2 : Int32)) (v := (.int x2)) (by rw [e30]; exact Ar31.1) (State.isArrayOf_alike hZ.alike Ar31.2.1) Ar31.2.2 hin32 hat32 (g := (mkF m 15 #[.val (.ref a), .val (.int it), .val (.int (2 : Int32))] [(.int (2 : Int32)), (.ref b)])) rfl rfl (hb hby d_rem3_15) _ kt
      show Go _ _ _ _ _ _ _ _ (mkF m 16 #[.val (.ref a), .val (.int it), .val (.int (2 : Int32))] [(.int x2)])
      refine own_via ?_ fun _ kt => XS.iloadN X30.here hx rfl (hb hby d_rem3_16) rfl kt
      show Go _ _ _ _ _ _ _ _ (mkF m 17 #[.val (.ref a), .val (.int it), .val (.int (2 : Int32))] [(.int it), (.int x2)])
      by_cases hc33 : x2 = it
      · skip
        refine own_via ?_ fun _ kt => XS.icmpNo X30.here hx rfl (hb hby d_rem3_17) rfl (teq hc33).2 kt
        show Go _ _ _ _ _ _ _ _ (mkF m 20 #[.val (.ref a), .val (.int it), .val (.int (2 : Int32))] [])
        refine own_via ?_ fun _ kt => XS.aloadN X30.here hx rfl (hb hby d_rem3_20) rfl rfl kt
        show Go _ _ _ _ _ _ _ _ (mkF m 21 #[.val (.ref a), .val (.int it), .val (.int (2 : Int32))] [(.ref a)])
        refine own_via ?_ fun _ kt => XS.dup X30.here hx rfl (hb hby d_rem3_21) rfl rfl kt
        show Go _ _ _ _ _ _ _ _ (mkF m 22 #[.val (.ref a), .val (.int it), .val (.int (2 : Int32))] [(.ref a), (.ref a)])
        obtain ⟨T34, X34, e34, st34⟩ := getF X30 hx hZ hown (host := "") (Or.inl (hw _ (List.mem_of_getElem? (i := 18) rfl))) Via.refl e30 Fs (g := (mkF m 22 #[.val (.ref a), .val (.int it), .val (.int (2 : Int32))] [(.ref a), (.ref a)])) rfl rfl (hb hby d_rem3_22)
        refine own_via ?_ st34
        show Go _ _ _ _ _ _ _ _ (mkF m 25 #[.val (.ref a), .val (.int it), .val (.int (2 : Int32))] [(.int (3 : Int32)), (.ref a)])
        refine own_via ?_ fun _ kt => XS.iconst X34.here hx rfl (hb hby d_rem3_25) kt
        show Go _ _ _ _ _ _ _ _ (mkF m 26 #[.val (.ref a), .val (.int it), .val (.int (2 : Int32))] [(.int (1 : Int32)), (.int (3 : Int32)), (.ref a)])
        refine own_via ?_ fun _ kt => XS.isub X34.here hx rfl (hb hby d_rem3_26) rfl kt
        show Go _ _ _ _ _ _ _ _ (mkF m 27 #[.val (.ref a), .val (.int it), .val (.int (2 : Int32))] [(.int ((3 : Int32) - (1 : Int32))), (.ref a)])
        rw [show ((3 : Int32) - (1 : Int32)) = (2 : Int32) from by decide]
        show Go _ _ _ _ _ _ _ _ (mkF m 27 #[.val (.ref a), .val (.int it), .val (.int (2 : Int32))] [(.int (2 : Int32)), (.ref a)])
        obtain ⟨T35, h35, X35, e35, W35, st35⟩ := putF X34 hx hZ hown (host := "") (Or.inl (hw _ (List.mem_of_getElem? (i := 18) rfl))) Via.refl e34 Fs E (Or.inl (hw _ (List.mem_of_getElem? (i := 19) rfl))) (hw _ (List.mem_of_getElem? (i := 1) rfl)) (ty := .int) (by decide) rfl rfl (g := (mkF m 27 #[.val (.ref a), .val (.int it), .val (.int (2 : Int32))] [(.int (2 : Int32)), (.ref a)])) rfl rfl (hb hby d_rem3_27)
        have N35 := Fr.snoc X35 N0 g_a
        replace E := E.wr W35
        replace Fs := Fs.same W35
        replace Fi := Fi.other W35 (Or.inr (slot_ne (Or.inl (hw _ (List.mem_of_getElem? (i := 12) rfl))) (Or.inl (hw _ (List.mem_of_getElem? (i := 19) rfl))) (by decide) (t := (.array .int)) (t' := .int) (by decide) (by decide)))
        replace Vb := Vb.other W35 (Ne.symm neab)
        replace Z0 := Nat.le_trans Z0 (Keep.of_wr W35).1
        replace K0 := K0.wr W35 (Or.inl (List.mem_of_getElem? (i := 0) rfl))
        refine own_via ?_ st35
        show Go _ _ _ _ _ _ _ _ (mkF m 30 #[.val (.ref a), .val (.int it), .val (.int (2 : Int32))] [])
        refine own_via ?_ fun _ kt => XS.aloadN X35.here hx rfl (hb hby d_rem3_30) rfl rfl kt
        show Go _ _ _ _ _ _ _ _ (mkF m 31 #[.val (.ref a), .val (.int it), .val (.int (2 : Int32))] [(.ref a)])
        obtain ⟨T36, X36, e36, st36⟩ := getF X35 hx hZ hown (host := "") (Or.inl (hw _ (List.mem_of_getElem? (i := 11) rfl))) Via.refl e35 Fi (g := (mkF m 31 #[.val (.ref a), .val (.int it), .val (.int (2 : Int32))] [(.ref a)])) rfl rfl (hb hby d_rem3_31)
        refine own_via ?_ st36
        show Go _ _ _ _ _ _ _ _ (mkF m 34 #[.val (.ref a), .val (.int it), .val (.int (2 : Int32))] [(.ref b)])
        refine own_via ?_ fun _ kt => XS.iloadN X36.here hx rfl (hb hby d_rem3_34) rfl kt
        show Go _ _ _ _ _ _ _ _ (mkF m 35 #[.val (.ref a), .val (.int it), .val (.int (2 : Int32))] [(.int (2 : Int32)), (.ref b)])
        refine own_via ?_ fun _ kt => XS.aloadN X36.here hx rfl (hb hby d_rem3_35) rfl rfl kt
        show Go _ _ _ _ _ _ _ _ (mkF m 36 #[.val (.ref a), .val (.int it), .val (.int (2 : Int32))] [(.ref a), (.int (2 : Int32)), (.ref b)])
        obtain ⟨T37, X37, e37, st37⟩ := getF X36 hx hZ hown (host := "") (Or.inl (hw _ (List.mem_of_getElem? (i := 11) rfl))) Via.refl e36 Fi (g := (mkF m 36 #[.val (.ref a), .val (.int it), .val (.int (2 : Int32))] [(.ref a), (.int (2 : Int32)), (.ref b)])) rfl rfl (hb hby d_rem3_36)
        refine own_via ?_ st37
        show Go _ _ _ _ _ _ _ _ (mkF m 39 #[.val (.ref a), .val (.int it), .val (.int (2 : Int32))] [(.ref b), (.int (2 : Int32)), (.ref b)])
        refine own_via ?_ fun _ kt => XS.aloadN X37.here hx rfl (hb hby d_rem3_39) rfl rfl kt
        show Go _ _ _ _ _ _ _ _ (mkF m 40 #[.val (.ref a), .val (.int it), .val (.int (2 : Int32))] [(.ref a), (.ref b), (.int (2 : Int32)), (.ref b)])
        obtain ⟨T38, X38, e38, st38⟩ := getF X37 hx hZ hown (host := "") (Or.inl (hw _ (List.mem_of_getElem? (i := 18) rfl))) Via.refl e37 Fs (g := (mkF m 40 #[.val (.ref a), .val (.int it), .val (.int (2 : Int32))] [(.ref a), (.ref b), (.int (2 : Int32)), (.ref b)])) rfl rfl (hb hby d_rem3_40)
        refine own_via ?_ st38
        show Go _ _ _ _ _ _ _ _ (mkF m 43 #[.val (.ref a), .val (.int it), .val (.int (2 : Int32))] [(.int (2 : Int32)), (.ref b), (.int (2 : Int32)), (.ref b)])
        obtain ⟨cl39, Ar39, Aq39, AS39, AN39, AH39, AG39⟩ := Vb
        have Vb : Arv Z h35 b kb .int (4 : Int32) [(.int x0), (.int x1), (.int x2), (.int (0 : Int32))] (.int (0 : Int32)) := ⟨cl39, Ar39, Aq39, AS39, AN39, AH39, AG39⟩
        have hin40 : ¬ ((2 : Int32) < 0 ∨ cl39.slots.size ≤ ((2 : Int32)).toNatClampNeg) := (inb_of AS39 ⟨by decide, by decide⟩)
        have hat40 : cl39.slots[((2 : Int32)).toNatClampNeg]? = some (.int x2) := (AH39.at hin40 rfl)
        refine own_via ?_ fun _ kt => X38.iaload hx (j := (2 : Int32)) (v := (.int x2)) (by rw [e38]; exact Ar39.1) (State.isArrayOf_alike hZ.alike Ar39.2.1) Ar39.2.2 hin40 hat40 (g := (mkF m 43 #[.val (.ref a), .val (.int it), .val (.int (2 : Int32))] [(.int (2 : Int32)), (.ref b), (.int (2 : Int32)), (.ref b)])) rfl rfl (hb hby d_rem3_43) _ kt
        show Go _ _ _ _ _ _ _ _ (mkF m 44 #[.val (.ref a), .val (.int it), .val (.int (2 : Int32))] [(.int x2), (.int (2 : Int32)), (.ref b)])
        obtain ⟨cl41, Ar41, Aq41, AS41, AN41, AH41, AG41⟩ := Vb
        have hin42 : ¬ ((2 : Int32) < 0 ∨ cl41.slots.size ≤ ((2 : Int32)).toNatClampNeg) := (inb_of AS41 ⟨by decide, by decide⟩)
        obtain ⟨T42, h42, X42, e42, W42, st42⟩ := stI X38 hx hZ e38 Ar41 (j := (2 : Int32)) hin42 (g := (mkF m 44 #[.val (.ref a), .val (.int it), .val (.int (2 : Int32))] [(.int x2), (.int (2 : Int32)), (.ref b)])) rfl rfl (hb hby d_rem3_44)
        have N42 := Fr.snoc X42 N35 g_b
        have V42 : Arv Z h42 b kb .int (4 : Int32) [(.int x0), (.int x1), (.int x2), (.int (0 : Int32))] (.int (0 : Int32)) := Arv.set Ar41 Aq41 AS41 AN41 AH41 AG41 rfl W42 2 rfl (Nat.le_of_ble_eq_true rfl)
        replace E := E.wr W42
        replace Fs := Fs.other W42 (Or.inl neab)
        replace Fi := Fi.other W42 (Or.inl neab)
        replace Z0 := Nat.le_trans Z0 (Keep.of_wr W42).1
        replace K0 := K0.wr W42 (Or.inl (List.mem_of_getElem? (i := 1) rfl))
        refine own_via ?_ st42
        show Go _ _ _ _ _ _ _ _ (mkF m 45 #[.val (.ref a), .val (.int it), .val (.int (2 : Int32))] [])
        exact own_retV X42 hx hret hlk (hb hby d_rem3_45) (by decide) (by decide) (by rw [e42]; exact ⟨rfl, N42, K0, Or.inr (Or.inr (Or.inl ⟨hc5, hc19, hc33, E, Fs, Fi, V42⟩))⟩)
      · skip
        refine own_via ?_ fun _ kt => XS.icmpYes X30.here hx rfl (pc0 := 17) (pc' := 46) rfl (hb hby d_rem3_17) rfl (feq hc33).2 (by decide) (by decide) kt
        show Go _ _ _ _ _ _ _ _ (mkF m 46 #[.val (.ref a), .val (.int it), .val (.int (2 : Int32))] [])
        refine own_via ?_ fun _ kt => XS.iinc X30.here hx rfl (hb hby d_rem3_46) rfl (l' := #[.val (.ref a), .val (.int it), .val (.int ((2 : Int32) + (1 : Int32)))]) rfl kt
        show Go _ _ _ _ _ _ _ _ (mkF m 49 #[.val (.ref a), .val (.int it), .val (.int ((2 : Int32) + (1 : Int32)))] [])
        rw [show ((2 : Int32) + (1 : Int32)) = (3 : Int32) from by decide]
        show Go _ _ _ _ _ _ _ _ (mkF m 49 #[.val (.ref a), .val (.int it), .val (.int (3 : Int32))] [])
        refine own_via ?_ fun _ kt => XS.goto X30.here hx rfl (pc0 := 49) (pc' := 2) rfl (hb hby d_rem3_49) (by decide) (by decide) kt
        show Go _ _ _ _ _ _ _ _ (mkF m 2 #[.val (.ref a), .val (.int it), .val (.int (3 : Int32))] [])
        refine own_via ?_ fun _ kt => XS.iloadN X30.here hx rfl (hb hby d_rem3_2) rfl kt
        show Go _ _ _ _ _ _ _ _ (mkF m 3 #[.val (.ref a), .val (.int it), .val (.int (3 : Int32))] [(.int (3 : Int32))])
        refine own_via ?_ fun _ kt => XS.aloadN X30.here hx rfl (hb hby d_rem3_3) rfl rfl kt
        show Go _ _ _ _ _ _ _ _ (mkF m 4 #[.val (.ref a), .val (.int it), .val (.int (3 : Int32))] [(.ref a), (.int (3 : Int32))])
        obtain ⟨T43, X43, e43, st43⟩ := getF X30 hx hZ hown (host := "") (Or.inl (hw _ (List.mem_of_getElem? (i := 18) rfl))) Via.refl e30 Fs (g := (mkF m 4 #[.val (.ref a), .val (.int it), .val (.int (3 : Int32))] [(.ref a), (.int (3 : Int32))])) rfl rfl (hb hby d_rem3_4)
        refine own_via ?_ st43
        show Go _ _ _ _ _ _ _ _ (mkF m 7 #[.val (.ref a), .val (.int it), .val (.int (3 : Int32))] [(.int (3 : Int32)), (.int (3 : Int32))])
        refine own_via ?_ fun _ kt => XS.icmpYes X43.here hx rfl (pc0 := 7) (pc' := 52) rfl (hb hby d_rem3_7) rfl (flt (by decide : ¬ ((3 : Int32) < (3 : Int32)))).2.1 (by decide) (by decide) kt
        show Go _ _ _ _ _ _ _ _ (mkF m 52 #[.val (.ref a), .val (.int it), .val (.int (3 : Int32))] [])
        exact own_retV X43 hx hret hlk (hb hby d_rem3_52) (by decide) (by decide) (by rw [e43]; exact ⟨rfl, N0, K0, Or.inr (Or.inr (Or.inr (⟨hc5, hc19, hc33, E, Fs, Fi, Vb⟩)))⟩)
theorem n_cases (k : Int32) : (k &&& (3 : Int32)) = (0 : Int32) ∨ (k &&& (3 : Int32)) = (1 : Int32) ∨ (k &&& (3 : Int32)) = (2 : Int32) ∨ (k &&& (3 : Int32)) = (3 : Int32) := by
  have h1 := c_mask k 3 2 (by decide) (by decide)
  have q : (k &&& (3 : Int32)).toInt = 0 ∨ (k &&& (3 : Int32)).toInt = 1 ∨ (k &&& (3 : Int32)).toInt = 2 ∨ (k &&& (3 : Int32)).toInt = 3 := by omega
  rcases q with q | q | q | q
  · exact Or.inl (Int32.toInt_inj.mp (q.trans (by decide)))
  · exact Or.inr (Or.inl (Int32.toInt_inj.mp (q.trans (by decide))))
  · exact Or.inr (Or.inr (Or.inl (Int32.toInt_inj.mp (q.trans (by decide)))))
  · exact Or.inr (Or.inr (Or.inr (Int32.toInt_inj.mp (q.trans (by decide)))))
def Q_law (Z : State) (sel a b c_ x_ : Int32) (aN : Addr) (kN : ClassId) (h0 : Heap) (n0 : Nat) (v : Option Value) (h : Heap) (L : List Loc) : Prop := v = some (.int 1) ∧ Fr n0 L
set_option maxRecDepth 65536 in
set_option maxHeartbeats 40000000 in
theorem rm_law (l : Launch) (Z : State) (a0 : Array Value) (hw : ∀ d ∈ tables_1, d.before a0 Z = true) (ws : List Jvm.Cond) (sel a b c_ x_ : Int32) (aN : Addr) (kN : ClassId) (h0 : Heap) (n0 : Nat) (Z0 : n0 ≤ h0.size) (O : Old Z n0 h0) (S : Sta Z Z.heap "com/example/aspen/aspen/IntList" "NONE" "[I" (.ref aN)) (VN : Arv Z Z.heap aN kN .int (0 : Int32) [] (.int (0 : Int32))) :
    MetFree l x (head1 (Jvm.Cond.code x code maxLocals ret :: ws) room_1) (fun aa_ U => aa_ = #[(.int sel), (.int a), (.int b), (.int c_), (.int x_)] ∧ Z.Warmed39 U.vm ∧ U.heap = h0) (fun _ _ _ _ _ => True) (fun _ UU_ oo_ UV_ => ∃ vv_ LL_, oo_ = .returned vv_ ∧ (Q_law Z sel a b c_ x_ aN kN h0 n0) vv_ UV_.heap LL_ ∧ FrameEnd UU_ oo_ UV_ LL_ room_1.cells room_1.slots) := by
  refine MetFree.of_bodySF (plainFor_of_name pn2) hisR ?_
  intro p e s m args below meth c s₁ Bd hml0 hP hK
  obtain ⟨rfl, hZ, hh⟩ := hP
  have hx := Bd.exec
  have hby := Bd.bytes
  have hlk : meth.locks = false := BodyLoose.notSynchronized Bd
  have hret := Bd.returns
  have hml : c.maxLocals = 13 := hml0
  have hown : s.vm.findClass "com/example/aspen/aspen/IntListRemovePinLaw" = some m.cls := findClass_of_methodNamed Bd.named
  have hnm := (name_of_methodNamed Bd.named Bd.method).1
  have X0 : Stand p l e room_1 s m #[(.int sel), (.int a), (.int b), (.int c_), (.int x_)] below meth c s₁ [] 0 0 := Stand.of_body Bd
  have e0 : s₁.heap = h0 := by rw [← hh, Bd.state]; rfl
  have N0 := Fr.nil n0
  show Go p e below s room_1.cells room_1.slots (Q_law Z sel a b c_ x_ aN kN h0 n0) s₁ (entryFrame m #[(.int sel), (.int a), (.int b), (.int c_), (.int x_)] maxLocals)
  refine own_cast (g' := mkF m 0 #[.val (.int sel), .val (.int a), .val (.int b), .val (.int c_), .val (.int x_), .unset, .unset, .unset, .unset, .unset, .unset, .unset, .unset] []) (by first | (simp [entryFrame, mkF, argsToLocals, Value.category, maxLocals]; done) | rfl) ?_
  show Go _ _ _ _ _ _ _ _ (mkF m 0 #[.val (.int sel), .val (.int a), .val (.int b), .val (.int c_), .val (.int x_), .unset, .unset, .unset, .unset, .unset, .unset, .unset, .unset] [])
  refine own_via ?_ fun _ kt => XS.iloadN X0.here hx rfl (hb hby at_0) rfl kt
  show Go _ _ _ _ _ _ _ _ (mkF m 1 #[.val (.int sel), .val (.int a), .val (.int b), .val (.int c_), .val (.int x_), .unset, .unset, .unset, .unset, .unset, .unset, .unset, .unset] [(.int sel)])
  refine own_via ?_ fun _ kt => XS.iconst X0.here hx rfl (hb hby at_1) kt
  show Go _ _ _ _ _ _ _ _ (mkF m 2 #[.val (.int sel), .val (.int a), .val (.int b), .val (.int c_), .val (.int x_), .unset, .unset, .unset, .unset, .unset, .unset, .unset, .unset] [(.int (3 : Int32)), (.int sel)])
  refine own_via ?_ fun _ kt => XS.iand X0.here hx rfl (hb hby at_2) rfl kt
  show Go _ _ _ _ _ _ _ _ (mkF m 3 #[.val (.int sel), .val (.int a), .val (.int b), .val (.int c_), .val (.int x_), .unset, .unset, .unset, .unset, .unset, .unset, .unset, .unset] [(.int (sel &&& (3 : Int32)))])
  refine own_via ?_ fun _ kt => XS.istore X0.here hx rfl (hb hby at_3) rfl (l' := #[.val (.int sel), .val (.int a), .val (.int b), .val (.int c_), .val (.int x_), .val (.int (sel &&& (3 : Int32))), .unset, .unset, .unset, .unset, .unset, .unset, .unset]) rfl kt
  show Go _ _ _ _ _ _ _ _ (mkF m 5 #[.val (.int sel), .val (.int a), .val (.int b), .val (.int c_), .val (.int x_), .val (.int (sel &&& (3 : Int32))), .unset, .unset, .unset, .unset, .unset, .unset, .unset] [])
  refine own_via ?_ fun _ kt => XS.iloadN X0.here hx rfl (hb hby at_5) rfl kt
  show Go _ _ _ _ _ _ _ _ (mkF m 6 #[.val (.int sel), .val (.int a), .val (.int b), .val (.int c_), .val (.int x_), .val (.int (sel &&& (3 : Int32))), .unset, .unset, .unset, .unset, .unset, .unset, .unset] [(.int sel)])
  refine own_via ?_ fun _ kt => XS.iconst X0.here hx rfl (hb hby at_6) kt
  show Go _ _ _ _ _ _ _ _ (mkF m 7 #[.val (.int sel), .val (.int a), .val (.int b), .val (.int c_), .val (.int x_), .val (.int (sel &&& (3 : Int32))), .unset, .unset, .unset, .unset, .unset, .unset, .unset] [(.int (2 : Int32)), (.int sel)])
  refine own_via ?_ fun _ kt => XS.iushr X0.here hx rfl (hb hby at_7) rfl kt
  show Go _ _ _ _ _ _ _ _ (mkF m 8 #[.val (.int sel), .val (.int a), .val (.int b), .val (.int c_), .val (.int x_), .val (.int (sel &&& (3 : Int32))), .unset, .unset, .unset, .unset, .unset, .unset, .unset] [(.int ((sel.toUInt32 >>> ((2 : Int32) &&& 31).toUInt32).toInt32))])
  refine own_via ?_ fun _ kt => XS.iconst X0.here hx rfl (hb hby at_8) kt
  show Go _ _ _ _ _ _ _ _ (mkF m 9 #[.val (.int sel), .val (.int a), .val (.int b), .val (.int c_), .val (.int x_), .val (.int (sel &&& (3 : Int32))), .unset, .unset, .unset, .unset, .unset, .unset, .unset] [(.int (3 : Int32)), (.int ((sel.toUInt32 >>> ((2 : Int32) &&& 31).toUInt32).toInt32))])
  refine own_via ?_ fun _ kt => XS.iand X0.here hx rfl (hb hby at_9) rfl kt
  show Go _ _ _ _ _ _ _ _ (mkF m 10 #[.val (.int sel), .val (.int a), .val (.int b), .val (.int c_), .val (.int x_), .val (.int (sel &&& (3 : Int32))), .unset, .unset, .unset, .unset, .unset, .unset, .unset] [(.int (((sel.toUInt32 >>> ((2 : Int32) &&& 31).toUInt32).toInt32) &&& (3 : Int32)))])
  refine own_via ?_ fun _ kt => XS.istore X0.here hx rfl (hb hby at_10) rfl (l' := #[.val (.int sel), .val (.int a), .val (.int b), .val (.int c_), .val (.int x_), .val (.int (sel &&& (3 : Int32))), .val (.int (((sel.toUInt32 >>> ((2 : Int32) &&& 31).toUInt32).toInt32) &&& (3 : Int32))), .unset, .unset, .unset, .unset, .unset, .unset]) rfl kt
  have hnc := n_cases sel
  show Go _ _ _ _ _ _ _ _ (mkF m 12 #[.val (.int sel), .val (.int a), .val (.int b), .val (.int c_), .val (.int x_), .val (.int (sel &&& (3 : Int32))), .val (.int (((sel.toUInt32 >>> ((2 : Int32) &&& 31).toUInt32).toInt32) &&& (3 : Int32))), .unset, .unset, .unset, .unset, .unset, .unset] [])
  generalize hn_n : (sel &&& (3 : Int32)) = n
  rw [hn_n] at hnc
  show Go _ _ _ _ _ _ _ _ (mkF m 12 #[.val (.int sel), .val (.int a), .val (.int b), .val (.int c_), .val (.int x_), .val (.int n), .val (.int (((sel.toUInt32 >>> ((2 : Int32) &&& 31).toUInt32).toInt32) &&& (3 : Int32))), .unset, .unset, .unset, .unset, .unset, .unset] [])
  generalize hn_pk : (((sel.toUInt32 >>> ((2 : Int32) &&& 31).toUInt32).toInt32) &&& (3 : Int32)) = pk
  have J1 : ∀ (item : Int32), Go p e below s room_1.cells room_1.slots (Q_law Z sel a b c_ x_ aN kN h0 n0) s₁ (mkF m 51 #[.val (.int sel), .val (.int a), .val (.int b), .val (.int c_), .val (.int x_), .val (.int n), .val (.int pk), .val (.int item), .unset, .unset, .unset, .unset, .unset] []) := by
    intro item
    show Go _ _ _ _ _ _ _ _ (mkF m 51 #[.val (.int sel), .val (.int a), .val (.int b), .val (.int c_), .val (.int x_), .val (.int n), .val (.int pk), .val (.int item), .unset, .unset, .unset, .unset, .unset] [])
    obtain ⟨T2, h2, X2, e2, E2, A2, D2, -, st2⟩ := newO X0 hx hZ hown (hw _ (List.mem_of_getElem? (i := 0) rfl)) (hw _ (List.mem_of_getElem? (i := 1) rfl)) (hw _ (List.mem_of_getElem? (i := 2) rfl)) e0 (g := (mkF m 51 #[.val (.int sel), .val (.int a), .val (.int b), .val (.int c_), .val (.int x_), .val (.int n), .val (.int pk), .val (.int item), .unset, .unset, .unset, .unset, .unset] [])) rfl (hb hby at_51) (by decide) (by decide)
    obtain ⟨b2, g2⟩ : ∃ z, z = h0.size := ⟨_, rfl⟩
    rw [← g2] at A2 D2 st2
    have g_b2 : n0 ≤ b2 := by rw [g2]; exact Z0
    replace Z0 := Nat.le_trans Z0 E2.1
    replace O := O.ext E2
    have F_items_b2 : Fld Z h2 b2 "com/example/aspen/aspen/IntList" "items" "[I" .null := D2 (Or.inl (hw _ (List.mem_of_getElem? (i := 12) rfl))) (ty := (.array .int)) (by decide)
    have F_size_b2 : Fld Z h2 b2 "com/example/aspen/aspen/IntList" "size" "I" (.int (0 : Int32)) := D2 (Or.inl (hw _ (List.mem_of_getElem? (i := 19) rfl))) (ty := .int) (by decide)
    refine own_via ?_ st2
    show Go _ _ _ _ _ _ _ _ (mkF m 54 #[.val (.int sel), .val (.int a), .val (.int b), .val (.int c_), .val (.int x_), .val (.int n), .val (.int pk), .val (.int item), .unset, .unset, .unset, .unset, .unset] [(.ref b2)])
    refine own_via ?_ fun _ kt => XS.dup X2.here hx rfl (hb hby at_54) rfl rfl kt
    show Go _ _ _ _ _ _ _ _ (mkF m 55 #[.val (.int sel), .val (.int a), .val (.int b), .val (.int c_), .val (.int x_), .val (.int n), .val (.int pk), .val (.int item), .unset, .unset, .unset, .unset, .unset] [(.ref b2), (.ref b2)])
    obtain ⟨_, _, ⟨T3, L3, k3, n3⟩, -, X3, ⟨Lc3, hQ3, l3, y3, z3⟩, st3⟩ := X2.specialBack hx (y := (⟨"com/example/aspen/aspen/IntList", "<init>", "()V"⟩ : MethodName)) rfl hown (mvT hZ (hw _ (List.mem_of_getElem? (i := 3) rfl))) (mvT hZ (hw _ (List.mem_of_getElem? (i := 4) rfl))) (mvT hZ (hw _ (List.mem_of_getElem? (i := 5) rfl))) (by decide) (backOf (W := 1) (rm_init l Z a0 hw [] b2 aN h2 n0 Z0 O S g_b2 A2 F_size_b2 F_items_b2) hZ (hw _ (List.mem_of_getElem? (i := 5) rfl)) (hw _ (List.mem_of_getElem? (i := 2) rfl)) (by decide) (by decide)) (g := (mkF m 55 #[.val (.int sel), .val (.int a), .val (.int b), .val (.int c_), .val (.int x_), .val (.int n), .val (.int pk), .val (.int item), .unset, .unset, .unset, .unset, .unset] [(.ref b2), (.ref b2)])) rfl (by rw [hml]; rfl) (Steps.refl _) (a := b2) (argsL := []) (rest := [(.ref b2)]) (lenOf pd2 rfl) rfl (by show 2 * 0 + _ ≤ _; exact Nat.le_of_eq rfl) (hb hby at_55) (fun _ _ => ⟨rfl, e2, (by decide : 1 + 0 ≤ _), (by decide : 2 + 0 ≤ _)⟩)
    dsimp only [Pt.U, Pt.locs, Pt.cells, Pt.slots] at X3 l3 y3 z3 st3 hQ3
    subst l3 y3 z3
    obtain ⟨h3, e3⟩ : ∃ z, T3.heap = z := ⟨_, rfl⟩
    rw [e3] at hQ3
    obtain ⟨rfl, Nq3, Kq3, p3_E, p3_Fs, p3_Fi⟩ := hQ3
    have N3 := Fr.app N0 Nq3
    replace Z0 := Nat.le_trans Z0 Kq3.1
    replace O := O.keep Kq3 (allS g_b2 all0)
    refine own_join ?_ st3
    show Go _ _ _ _ _ _ _ _ (mkF m 58 #[.val (.int sel), .val (.int a), .val (.int b), .val (.int c_), .val (.int x_), .val (.int n), .val (.int pk), .val (.int item), .unset, .unset, .unset, .unset, .unset] [(.ref b2)])
    refine own_via ?_ fun _ kt => XS.astore X3.here hx rfl (hb hby at_58) rfl rfl (l' := #[.val (.int sel), .val (.int a), .val (.int b), .val (.int c_), .val (.int x_), .val (.int n), .val (.int pk), .val (.int item), .val (.ref b2), .unset, .unset, .unset, .unset]) rfl kt
    show Go _ _ _ _ _ _ _ _ (mkF m 60 #[.val (.int sel), .val (.int a), .val (.int b), .val (.int c_), .val (.int x_), .val (.int n), .val (.int pk), .val (.int item), .val (.ref b2), .unset, .unset, .unset, .unset] [])
    rcases hnc with rfl | rfl | rfl | rfl
    · skip
      show Go _ _ _ _ _ _ _ _ (mkF m 60 #[.val (.int sel), .val (.int a), .val (.int b), .val (.int c_), .val (.int x_), .val (.int (0 : Int32)), .val (.int pk), .val (.int item), .val (.ref b2), .unset, .unset, .unset, .unset] [])
      refine own_via ?_ fun _ kt => XS.iload X3.here hx rfl (hb hby at_60) rfl kt
      show Go _ _ _ _ _ _ _ _ (mkF m 62 #[.val (.int sel), .val (.int a), .val (.int b), .val (.int c_), .val (.int x_), .val (.int (0 : Int32)), .val (.int pk), .val (.int item), .val (.ref b2), .unset, .unset, .unset, .unset] [(.int (0 : Int32))])
      refine own_via ?_ fun _ kt => XS.ifYes X3.here hx rfl (pc0 := 62) (pc' := 71) rfl (hb hby at_62) rfl ((if0 _ _).trans (flt (by decide : ¬ ((0 : Int32) < (0 : Int32)))).2.2.2) (by decide) (by decide) kt
      show Go _ _ _ _ _ _ _ _ (mkF m 71 #[.val (.int sel), .val (.int a), .val (.int b), .val (.int c_), .val (.int x_), .val (.int (0 : Int32)), .val (.int pk), .val (.int item), .val (.ref b2), .unset, .unset, .unset, .unset] [])
      refine own_via ?_ fun _ kt => XS.iload X3.here hx rfl (hb hby at_71) rfl kt
      show Go _ _ _ _ _ _ _ _ (mkF m 73 #[.val (.int sel), .val (.int a), .val (.int b), .val (.int c_), .val (.int x_), .val (.int (0 : Int32)), .val (.int pk), .val (.int item), .val (.ref b2), .unset, .unset, .unset, .unset] [(.int (0 : Int32))])
      refine own_via ?_ fun _ kt => XS.iconst X3.here hx rfl (hb hby at_73) kt
      show Go _ _ _ _ _ _ _ _ (mkF m 74 #[.val (.int sel), .val (.int a), .val (.int b), .val (.int c_), .val (.int x_), .val (.int (0 : Int32)), .val (.int pk), .val (.int item), .val (.ref b2), .unset, .unset, .unset, .unset] [(.int (1 : Int32)), (.int (0 : Int32))])
      refine own_via ?_ fun _ kt => XS.icmpYes X3.here hx rfl (pc0 := 74) (pc' := 83) rfl (hb hby at_74) rfl (flt (by decide : ¬ ((1 : Int32) < (0 : Int32)))).2.2.2 (by decide) (by decide) kt
      show Go _ _ _ _ _ _ _ _ (mkF m 83 #[.val (.int sel), .val (.int a), .val (.int b), .val (.int c_), .val (.int x_), .val (.int (0 : Int32)), .val (.int pk), .val (.int item), .val (.ref b2), .unset, .unset, .unset, .unset] [])
      refine own_via ?_ fun _ kt => XS.iload X3.here hx rfl (hb hby at_83) rfl kt
      show Go _ _ _ _ _ _ _ _ (mkF m 85 #[.val (.int sel), .val (.int a), .val (.int b), .val (.int c_), .val (.int x_), .val (.int (0 : Int32)), .val (.int pk), .val (.int item), .val (.ref b2), .unset, .unset, .unset, .unset] [(.int (0 : Int32))])
      refine own_via ?_ fun _ kt => XS.iconst X3.here hx rfl (hb hby at_85) kt
      show Go _ _ _ _ _ _ _ _ (mkF m 86 #[.val (.int sel), .val (.int a), .val (.int b), .val (.int c_), .val (.int x_), .val (.int (0 : Int32)), .val (.int pk), .val (.int item), .val (.ref b2), .unset, .unset, .unset, .unset] [(.int (2 : Int32)), (.int (0 : Int32))])
      refine own_via ?_ fun _ kt => XS.icmpYes X3.here hx rfl (pc0 := 86) (pc' := 95) rfl (hb hby at_86) rfl (flt (by decide : ¬ ((2 : Int32) < (0 : Int32)))).2.2.2 (by decide) (by decide) kt
      show Go _ _ _ _ _ _ _ _ (mkF m 95 #[.val (.int sel), .val (.int a), .val (.int b), .val (.int c_), .val (.int x_), .val (.int (0 : Int32)), .val (.int pk), .val (.int item), .val (.ref b2), .unset, .unset, .unset, .unset] [])
      refine own_via ?_ fun _ kt => XS.aload X3.here hx rfl (hb hby at_95) rfl rfl kt
      show Go _ _ _ _ _ _ _ _ (mkF m 97 #[.val (.int sel), .val (.int a), .val (.int b), .val (.int c_), .val (.int x_), .val (.int (0 : Int32)), .val (.int pk), .val (.int item), .val (.ref b2), .unset, .unset, .unset, .unset] [(.ref b2)])
      refine own_via ?_ fun _ kt => XS.iload X3.here hx rfl (hb hby at_97) rfl kt
      show Go _ _ _ _ _ _ _ _ (mkF m 99 #[.val (.int sel), .val (.int a), .val (.int b), .val (.int c_), .val (.int x_), .val (.int (0 : Int32)), .val (.int pk), .val (.int item), .val (.ref b2), .unset, .unset, .unset, .unset] [(.int item), (.ref b2)])
      obtain ⟨cq4, kq4, q4a, q4b, q4c⟩ := isOf hZ e3 p3_E
      obtain ⟨_, _, ⟨T4, L4, k4, n4⟩, -, X4, ⟨Lc4, hQ4, l4, y4, z4⟩, st4⟩ := X3.virtualBack hx (y := (⟨"com/example/aspen/aspen/IntList", "remove", "(I)V"⟩ : MethodName)) (z := (⟨"com/example/aspen/aspen/IntList", "remove", "(I)V"⟩ : MethodName)) hown (mvT hZ (hw _ (List.mem_of_getElem? (i := 13) rfl))) (mvT hZ (hw _ (List.mem_of_getElem? (i := 14) rfl))) (notFace_of_selects (args := #[]) (mvT hZ (hw _ (List.mem_of_getElem? (i := 16) rfl)))) (mvT hZ (hw _ (List.mem_of_getElem? (i := 16) rfl))) (mvT hZ (hw _ (List.mem_of_getElem? (i := 15) rfl))) (by decide) (backOf (W := 0) (rm_rem0 l Z a0 hw [] b2 aN kN item h3 n0 Z0 g_b2 p3_E p3_Fs p3_Fi) hZ (hw _ (List.mem_of_getElem? (i := 17) rfl)) (hw _ (List.mem_of_getElem? (i := 2) rfl)) (by decide) (by decide)) q4a q4c (g := (mkF m 99 #[.val (.int sel), .val (.int a), .val (.int b), .val (.int c_), .val (.int x_), .val (.int (0 : Int32)), .val (.int pk), .val (.int item), .val (.ref b2), .unset, .unset, .unset, .unset] [(.int item), (.ref b2)])) rfl (by rw [hml]; rfl) (Steps.refl _) (argsL := [(.int item)]) (rest := []) (lenOf pd3 rfl) rfl (by show 2 * 0 + _ ≤ _; exact Nat.le_of_eq rfl) (hb hby at_99) (fun _ _ => ⟨rfl, e3, (by decide : 1 + 0 ≤ _), (by decide : 2 + 0 ≤ _)⟩)
      dsimp only [Pt.U, Pt.locs, Pt.cells, Pt.slots] at X4 l4 y4 z4 st4 hQ4
      subst l4 y4 z4
      obtain ⟨rfl, Nq4, e4⟩ := hQ4
      have N4 := Fr.app N3 Nq4
      refine own_join ?_ st4
      show Go _ _ _ _ _ _ _ _ (mkF m 102 #[.val (.int sel), .val (.int a), .val (.int b), .val (.int c_), .val (.int x_), .val (.int (0 : Int32)), .val (.int pk), .val (.int item), .val (.ref b2), .unset, .unset, .unset, .unset] [])
      refine own_via ?_ fun _ kt => XS.iconst X4.here hx rfl (hb hby at_102) kt
      show Go _ _ _ _ _ _ _ _ (mkF m 103 #[.val (.int sel), .val (.int a), .val (.int b), .val (.int c_), .val (.int x_), .val (.int (0 : Int32)), .val (.int pk), .val (.int item), .val (.ref b2), .unset, .unset, .unset, .unset] [(.int (3 : Int32))])
      obtain ⟨T5, h5, k5, X5, e5, E5, A5, st5⟩ := newP X4 hx hZ (hw _ (List.mem_of_getElem? (i := 20) rfl)) e4 (g := (mkF m 103 #[.val (.int sel), .val (.int a), .val (.int b), .val (.int c_), .val (.int x_), .val (.int (0 : Int32)), .val (.int pk), .val (.int item), .val (.ref b2), .unset, .unset, .unset, .unset] [(.int (3 : Int32))])) rfl (hb hby at_103) rfl (by decide) (cap := 3) (by decide) (by decide) (by decide) (by decide)
      obtain ⟨b5, g5⟩ : ∃ z, z = h3.size := ⟨_, rfl⟩
      rw [← g5] at A5 st5
      have ne6 : b2 ≠ b5 := by rw [g5]; exact Nat.ne_of_lt p3_E.lt
      have g_b5 : n0 ≤ b5 := by rw [g5]; exact Z0
      replace p3_E := p3_E.ext E5
      replace p3_Fs := p3_Fs.ext E5
      replace p3_Fi := p3_Fi.ext E5
      replace Z0 := Nat.le_trans Z0 E5.1
      replace O := O.ext E5
      have V5 : Arv Z h5 b5 k5 .int (3 : Int32) [(.int (0 : Int32)), (.int (0 : Int32)), (.int (0 : Int32))] (.int (0 : Int32)) := (Arv.new A5 (by decide)).pad (pad_rep [] (.int (0 : Int32)) 3)
      refine own_via ?_ st5
      show Go _ _ _ _ _ _ _ _ (mkF m 105 #[.val (.int sel), .val (.int a), .val (.int b), .val (.int c_), .val (.int x_), .val (.int (0 : Int32)), .val (.int pk), .val (.int item), .val (.ref b2), .unset, .unset, .unset, .unset] [(.ref b5)])
      refine own_via ?_ fun _ kt => XS.dup X5.here hx rfl (hb hby at_105) rfl rfl kt
      show Go _ _ _ _ _ _ _ _ (mkF m 106 #[.val (.int sel), .val (.int a), .val (.int b), .val (.int c_), .val (.int x_), .val (.int (0 : Int32)), .val (.int pk), .val (.int item), .val (.ref b2), .unset, .unset, .unset, .unset] [(.ref b5), (.ref b5)])
      refine own_via ?_ fun _ kt => XS.iconst X5.here hx rfl (hb hby at_106) kt
      show Go _ _ _ _ _ _ _ _ (mkF m 107 #[.val (.int sel), .val (.int a), .val (.int b), .val (.int c_), .val (.int x_), .val (.int (0 : Int32)), .val (.int pk), .val (.int item), .val (.ref b2), .unset, .unset, .unset, .unset] [(.int (0 : Int32)), (.ref b5), (.ref b5)])
      refine own_via ?_ fun _ kt => XS.iloadN X5.here hx rfl (hb hby at_107) rfl kt
      show Go _ _ _ _ _ _ _ _ (mkF m 108 #[.val (.int sel), .val (.int a), .val (.int b), .val (.int c_), .val (.int x_), .val (.int (0 : Int32)), .val (.int pk), .val (.int item), .val (.ref b2), .unset, .unset, .unset, .unset] [(.int a), (.int (0 : Int32)), (.ref b5), (.ref b5)])
      obtain ⟨cl7, Ar7, Aq7, AS7, AN7, AH7, AG7⟩ := V5
      have hin8 : ¬ ((0 : Int32) < 0 ∨ cl7.slots.size ≤ ((0 : Int32)).toNatClampNeg) := (inb_of AS7 ⟨by decide, by decide⟩)
      obtain ⟨T8, h8, X8, e8, W8, st8⟩ := stI X5 hx hZ e5 Ar7 (j := (0 : Int32)) hin8 (g := (mkF m 108 #[.val (.int sel), .val (.int a), .val (.int b), .val (.int c_), .val (.int x_), .val (.int (0 : Int32)), .val (.int pk), .val (.int item), .val (.ref b2), .unset, .unset, .unset, .unset] [(.int a), (.int (0 : Int32)), (.ref b5), (.ref b5)])) rfl rfl (hb hby at_108)
      have N8 := Fr.snoc X8 N4 g_b5
      have V8 : Arv Z h8 b5 k5 .int (3 : Int32) [(.int a), (.int (0 : Int32)), (.int (0 : Int32))] (.int (0 : Int32)) := Arv.set Ar7 Aq7 AS7 AN7 AH7 AG7 rfl W8 0 rfl (Nat.le_of_ble_eq_true rfl)
      replace p3_E := p3_E.wr W8
      replace p3_Fs := p3_Fs.other W8 (Or.inl ne6)
      replace p3_Fi := p3_Fi.other W8 (Or.inl ne6)
      replace Z0 := Nat.le_trans Z0 (Keep.of_wr W8).1
      replace O := O.wr W8 g_b5
      refine own_via ?_ st8
      show Go _ _ _ _ _ _ _ _ (mkF m 109 #[.val (.int sel), .val (.int a), .val (.int b), .val (.int c_), .val (.int x_), .val (.int (0 : Int32)), .val (.int pk), .val (.int item), .val (.ref b2), .unset, .unset, .unset, .unset] [(.ref b5)])
      refine own_via ?_ fun _ kt => XS.dup X8.here hx rfl (hb hby at_109) rfl rfl kt
      show Go _ _ _ _ _ _ _ _ (mkF m 110 #[.val (.int sel), .val (.int a), .val (.int b), .val (.int c_), .val (.int x_), .val (.int (0 : Int32)), .val (.int pk), .val (.int item), .val (.ref b2), .unset, .unset, .unset, .unset] [(.ref b5), (.ref b5)])
      refine own_via ?_ fun _ kt => XS.iconst X8.here hx rfl (hb hby at_110) kt
      show Go _ _ _ _ _ _ _ _ (mkF m 111 #[.val (.int sel), .val (.int a), .val (.int b), .val (.int c_), .val (.int x_), .val (.int (0 : Int32)), .val (.int pk), .val (.int item), .val (.ref b2), .unset, .unset, .unset, .unset] [(.int (1 : Int32)), (.ref b5), (.ref b5)])
      refine own_via ?_ fun _ kt => XS.iloadN X8.here hx rfl (hb hby at_111) rfl kt
      show Go _ _ _ _ _ _ _ _ (mkF m 112 #[.val (.int sel), .val (.int a), .val (.int b), .val (.int c_), .val (.int x_), .val (.int (0 : Int32)), .val (.int pk), .val (.int item), .val (.ref b2), .unset, .unset, .unset, .unset] [(.int b), (.int (1 : Int32)), (.ref b5), (.ref b5)])
      obtain ⟨cl9, Ar9, Aq9, AS9, AN9, AH9, AG9⟩ := V8
      have hin10 : ¬ ((1 : Int32) < 0 ∨ cl9.slots.size ≤ ((1 : Int32)).toNatClampNeg) := (inb_of AS9 ⟨by decide, by decide⟩)
      obtain ⟨T10, h10, X10, e10, W10, st10⟩ := stI X8 hx hZ e8 Ar9 (j := (1 : Int32)) hin10 (g := (mkF m 112 #[.val (.int sel), .val (.int a), .val (.int b), .val (.int c_), .val (.int x_), .val (.int (0 : Int32)), .val (.int pk), .val (.int item), .val (.ref b2), .unset, .unset, .unset, .unset] [(.int b), (.int (1 : Int32)), (.ref b5), (.ref b5)])) rfl rfl (hb hby at_112)
      have N10 := Fr.snoc X10 N8 g_b5
      have V10 : Arv Z h10 b5 k5 .int (3 : Int32) [(.int a), (.int b), (.int (0 : Int32))] (.int (0 : Int32)) := Arv.set Ar9 Aq9 AS9 AN9 AH9 AG9 rfl W10 1 rfl (Nat.le_of_ble_eq_true rfl)
      replace p3_E := p3_E.wr W10
      replace p3_Fs := p3_Fs.other W10 (Or.inl ne6)
      replace p3_Fi := p3_Fi.other W10 (Or.inl ne6)
      replace Z0 := Nat.le_trans Z0 (Keep.of_wr W10).1
      replace O := O.wr W10 g_b5
      refine own_via ?_ st10
      show Go _ _ _ _ _ _ _ _ (mkF m 113 #[.val (.int sel), .val (.int a), .val (.int b), .val (.int c_), .val (.int x_), .val (.int (0 : Int32)), .val (.int pk), .val (.int item), .val (.ref b2), .unset, .unset, .unset, .unset] [(.ref b5)])
      refine own_via ?_ fun _ kt => XS.dup X10.here hx rfl (hb hby at_113) rfl rfl kt
      show Go _ _ _ _ _ _ _ _ (mkF m 114 #[.val (.int sel), .val (.int a), .val (.int b), .val (.int c_), .val (.int x_), .val (.int (0 : Int32)), .val (.int pk), .val (.int item), .val (.ref b2), .unset, .unset, .unset, .unset] [(.ref b5), (.ref b5)])
      refine own_via ?_ fun _ kt => XS.iconst X10.here hx rfl (hb hby at_114) kt
      show Go _ _ _ _ _ _ _ _ (mkF m 115 #[.val (.int sel), .val (.int a), .val (.int b), .val (.int c_), .val (.int x_), .val (.int (0 : Int32)), .val (.int pk), .val (.int item), .val (.ref b2), .unset, .unset, .unset, .unset] [(.int (2 : Int32)), (.ref b5), (.ref b5)])
      refine own_via ?_ fun _ kt => XS.iloadN X10.here hx rfl (hb hby at_115) rfl kt
      show Go _ _ _ _ _ _ _ _ (mkF m 116 #[.val (.int sel), .val (.int a), .val (.int b), .val (.int c_), .val (.int x_), .val (.int (0 : Int32)), .val (.int pk), .val (.int item), .val (.ref b2), .unset, .unset, .unset, .unset] [(.int c_), (.int (2 : Int32)), (.ref b5), (.ref b5)])
      obtain ⟨cl11, Ar11, Aq11, AS11, AN11, AH11, AG11⟩ := V10
      have hin12 : ¬ ((2 : Int32) < 0 ∨ cl11.slots.size ≤ ((2 : Int32)).toNatClampNeg) := (inb_of AS11 ⟨by decide, by decide⟩)
      obtain ⟨T12, h12, X12, e12, W12, st12⟩ := stI X10 hx hZ e10 Ar11 (j := (2 : Int32)) hin12 (g := (mkF m 116 #[.val (.int sel), .val (.int a), .val (.int b), .val (.int c_), .val (.int x_), .val (.int (0 : Int32)), .val (.int pk), .val (.int item), .val (.ref b2), .unset, .unset, .unset, .unset] [(.int c_), (.int (2 : Int32)), (.ref b5), (.ref b5)])) rfl rfl (hb hby at_116)
      have N12 := Fr.snoc X12 N10 g_b5
      have V12 : Arv Z h12 b5 k5 .int (3 : Int32) [(.int a), (.int b), (.int c_)] (.int (0 : Int32)) := Arv.set Ar11 Aq11 AS11 AN11 AH11 AG11 rfl W12 2 rfl (Nat.le_of_ble_eq_true rfl)
      replace p3_E := p3_E.wr W12
      replace p3_Fs := p3_Fs.other W12 (Or.inl ne6)
      replace p3_Fi := p3_Fi.other W12 (Or.inl ne6)
      replace Z0 := Nat.le_trans Z0 (Keep.of_wr W12).1
      replace O := O.wr W12 g_b5
      refine own_via ?_ st12
      show Go _ _ _ _ _ _ _ _ (mkF m 117 #[.val (.int sel), .val (.int a), .val (.int b), .val (.int c_), .val (.int x_), .val (.int (0 : Int32)), .val (.int pk), .val (.int item), .val (.ref b2), .unset, .unset, .unset, .unset] [(.ref b5)])
      refine own_via ?_ fun _ kt => XS.astore X12.here hx rfl (hb hby at_117) rfl rfl (l' := #[.val (.int sel), .val (.int a), .val (.int b), .val (.int c_), .val (.int x_), .val (.int (0 : Int32)), .val (.int pk), .val (.int item), .val (.ref b2), .val (.ref b5), .unset, .unset, .unset]) rfl kt
      show Go _ _ _ _ _ _ _ _ (mkF m 119 #[.val (.int sel), .val (.int a), .val (.int b), .val (.int c_), .val (.int x_), .val (.int (0 : Int32)), .val (.int pk), .val (.int item), .val (.ref b2), .val (.ref b5), .unset, .unset, .unset] [])
      refine own_via ?_ fun _ kt => XS.iconst X12.here hx rfl (hb hby at_119) kt
      show Go _ _ _ _ _ _ _ _ (mkF m 120 #[.val (.int sel), .val (.int a), .val (.int b), .val (.int c_), .val (.int x_), .val (.int (0 : Int32)), .val (.int pk), .val (.int item), .val (.ref b2), .val (.ref b5), .unset, .unset, .unset] [(.int (-1 : Int32))])
      refine own_via ?_ fun _ kt => XS.istore X12.here hx rfl (hb hby at_120) rfl (l' := #[.val (.int sel), .val (.int a), .val (.int b), .val (.int c_), .val (.int x_), .val (.int (0 : Int32)), .val (.int pk), .val (.int item), .val (.ref b2), .val (.ref b5), .val (.int (-1 : Int32)), .unset, .unset]) rfl kt
      show Go _ _ _ _ _ _ _ _ (mkF m 122 #[.val (.int sel), .val (.int a), .val (.int b), .val (.int c_), .val (.int x_), .val (.int (0 : Int32)), .val (.int pk), .val (.int item), .val (.ref b2), .val (.ref b5), .val (.int (-1 : Int32)), .unset, .unset] [])
      refine own_via ?_ fun _ kt => XS.iload X12.here hx rfl (hb hby at_122) rfl kt
      show Go _ _ _ _ _ _ _ _ (mkF m 124 #[.val (.int sel), .val (.int a), .val (.int b), .val (.int c_), .val (.int x_), .val (.int (0 : Int32)), .val (.int pk), .val (.int item), .val (.ref b2), .val (.ref b5), .val (.int (-1 : Int32)), .unset, .unset] [(.int (0 : Int32))])
      refine own_via ?_ fun _ kt => XS.ifYes X12.here hx rfl (pc0 := 124) (pc' := 139) rfl (hb hby at_124) rfl ((if0 _ _).trans (flt (by decide : ¬ ((0 : Int32) < (0 : Int32)))).2.2.2) (by decide) (by decide) kt
      show Go _ _ _ _ _ _ _ _ (mkF m 139 #[.val (.int sel), .val (.int a), .val (.int b), .val (.int c_), .val (.int x_), .val (.int (0 : Int32)), .val (.int pk), .val (.int item), .val (.ref b2), .val (.ref b5), .val (.int (-1 : Int32)), .unset, .unset] [])
      refine own_via ?_ fun _ kt => XS.iload X12.here hx rfl (hb hby at_139) rfl kt
      show Go _ _ _ _ _ _ _ _ (mkF m 141 #[.val (.int sel), .val (.int a), .val (.int b), .val (.int c_), .val (.int x_), .val (.int (0 : Int32)), .val (.int pk), .val (.int item), .val (.ref b2), .val (.ref b5), .val (.int (-1 : Int32)), .unset, .unset] [(.int (0 : Int32))])
      refine own_via ?_ fun _ kt => XS.iconst X12.here hx rfl (hb hby at_141) kt
      show Go _ _ _ _ _ _ _ _ (mkF m 142 #[.val (.int sel), .val (.int a), .val (.int b), .val (.int c_), .val (.int x_), .val (.int (0 : Int32)), .val (.int pk), .val (.int item), .val (.ref b2), .val (.ref b5), .val (.int (-1 : Int32)), .unset, .unset] [(.int (1 : Int32)), (.int (0 : Int32))])
      refine own_via ?_ fun _ kt => XS.icmpYes X12.here hx rfl (pc0 := 142) (pc' := 157) rfl (hb hby at_142) rfl (flt (by decide : ¬ ((1 : Int32) < (0 : Int32)))).2.2.2 (by decide) (by decide) kt
      show Go _ _ _ _ _ _ _ _ (mkF m 157 #[.val (.int sel), .val (.int a), .val (.int b), .val (.int c_), .val (.int x_), .val (.int (0 : Int32)), .val (.int pk), .val (.int item), .val (.ref b2), .val (.ref b5), .val (.int (-1 : Int32)), .unset, .unset] [])
      refine own_via ?_ fun _ kt => XS.iload X12.here hx rfl (hb hby at_157) rfl kt
      show Go _ _ _ _ _ _ _ _ (mkF m 159 #[.val (.int sel), .val (.int a), .val (.int b), .val (.int c_), .val (.int x_), .val (.int (0 : Int32)), .val (.int pk), .val (.int item), .val (.ref b2), .val (.ref b5), .val (.int (-1 : Int32)), .unset, .unset] [(.int (0 : Int32))])
      refine own_via ?_ fun _ kt => XS.iconst X12.here hx rfl (hb hby at_159) kt
      show Go _ _ _ _ _ _ _ _ (mkF m 160 #[.val (.int sel), .val (.int a), .val (.int b), .val (.int c_), .val (.int x_), .val (.int (0 : Int32)), .val (.int pk), .val (.int item), .val (.ref b2), .val (.ref b5), .val (.int (-1 : Int32)), .unset, .unset] [(.int (2 : Int32)), (.int (0 : Int32))])
      refine own_via ?_ fun _ kt => XS.icmpYes X12.here hx rfl (pc0 := 160) (pc' := 172) rfl (hb hby at_160) rfl (flt (by decide : ¬ ((2 : Int32) < (0 : Int32)))).2.2.2 (by decide) (by decide) kt
      show Go _ _ _ _ _ _ _ _ (mkF m 172 #[.val (.int sel), .val (.int a), .val (.int b), .val (.int c_), .val (.int x_), .val (.int (0 : Int32)), .val (.int pk), .val (.int item), .val (.ref b2), .val (.ref b5), .val (.int (-1 : Int32)), .unset, .unset] [])
      refine own_via ?_ fun _ kt => XS.iconst X12.here hx rfl (hb hby at_172) kt
      show Go _ _ _ _ _ _ _ _ (mkF m 173 #[.val (.int sel), .val (.int a), .val (.int b), .val (.int c_), .val (.int x_), .val (.int (0 : Int32)), .val (.int pk), .val (.int item), .val (.ref b2), .val (.ref b5), .val (.int (-1 : Int32)), .unset, .unset] [(.int (3 : Int32))])
      obtain ⟨T13, h13, k13, X13, e13, E13, A13, st13⟩ := newP X12 hx hZ (hw _ (List.mem_of_getElem? (i := 20) rfl)) e12 (g := (mkF m 173 #[.val (.int sel), .val (.int a), .val (.int b), .val (.int c_), .val (.int x_), .val (.int (0 : Int32)), .val (.int pk), .val (.int item), .val (.ref b2), .val (.ref b5), .val (.int (-1 : Int32)), .unset, .unset] [(.int (3 : Int32))])) rfl (hb hby at_173) rfl (by decide) (cap := 3) (by decide) (by decide) (by decide) (by decide)
      obtain ⟨b13, g13⟩ : ∃ z, z = h12.size := ⟨_, rfl⟩
      rw [← g13] at A13 st13
      have ne14 : b2 ≠ b13 := by rw [g13]; exact Nat.ne_of_lt p3_E.lt
      have ne15 : b5 ≠ b13 := by rw [g13]; exact Nat.ne_of_lt V12.lt
      have g_b13 : n0 ≤ b13 := by rw [g13]; exact Z0
      replace p3_E := p3_E.ext E13
      replace p3_Fs := p3_Fs.ext E13
      replace p3_Fi := p3_Fi.ext E13
      replace V12 := V12.ext E13
      replace Z0 := Nat.le_trans Z0 E13.1
      replace O := O.ext E13
      have V13 : Arv Z h13 b13 k13 .int (3 : Int32) [(.int (0 : Int32)), (.int (0 : Int32)), (.int (0 : Int32))] (.int (0 : Int32)) := (Arv.new A13 (by decide)).pad (pad_rep [] (.int (0 : Int32)) 3)
      refine own_via ?_ st13
      show Go _ _ _ _ _ _ _ _ (mkF m 175 #[.val (.int sel), .val (.int a), .val (.int b), .val (.int c_), .val (.int x_), .val (.int (0 : Int32)), .val (.int pk), .val (.int item), .val (.ref b2), .val (.ref b5), .val (.int (-1 : Int32)), .unset, .unset] [(.ref b13)])
      refine own_via ?_ fun _ kt => XS.dup X13.here hx rfl (hb hby at_175) rfl rfl kt
      show Go _ _ _ _ _ _ _ _ (mkF m 176 #[.val (.int sel), .val (.int a), .val (.int b), .val (.int c_), .val (.int x_), .val (.int (0 : Int32)), .val (.int pk), .val (.int item), .val (.ref b2), .val (.ref b5), .val (.int (-1 : Int32)), .unset, .unset] [(.ref b13), (.ref b13)])
      refine own_via ?_ fun _ kt => XS.iconst X13.here hx rfl (hb hby at_176) kt
      show Go _ _ _ _ _ _ _ _ (mkF m 177 #[.val (.int sel), .val (.int a), .val (.int b), .val (.int c_), .val (.int x_), .val (.int (0 : Int32)), .val (.int pk), .val (.int item), .val (.ref b2), .val (.ref b5), .val (.int (-1 : Int32)), .unset, .unset] [(.int (0 : Int32)), (.ref b13), (.ref b13)])
      refine own_via ?_ fun _ kt => XS.iloadN X13.here hx rfl (hb hby at_177) rfl kt
      show Go _ _ _ _ _ _ _ _ (mkF m 178 #[.val (.int sel), .val (.int a), .val (.int b), .val (.int c_), .val (.int x_), .val (.int (0 : Int32)), .val (.int pk), .val (.int item), .val (.ref b2), .val (.ref b5), .val (.int (-1 : Int32)), .unset, .unset] [(.int a), (.int (0 : Int32)), (.ref b13), (.ref b13)])
      obtain ⟨cl16, Ar16, Aq16, AS16, AN16, AH16, AG16⟩ := V13
      have hin17 : ¬ ((0 : Int32) < 0 ∨ cl16.slots.size ≤ ((0 : Int32)).toNatClampNeg) := (inb_of AS16 ⟨by decide, by decide⟩)
      obtain ⟨T17, h17, X17, e17, W17, st17⟩ := stI X13 hx hZ e13 Ar16 (j := (0 : Int32)) hin17 (g := (mkF m 178 #[.val (.int sel), .val (.int a), .val (.int b), .val (.int c_), .val (.int x_), .val (.int (0 : Int32)), .val (.int pk), .val (.int item), .val (.ref b2), .val (.ref b5), .val (.int (-1 : Int32)), .unset, .unset] [(.int a), (.int (0 : Int32)), (.ref b13), (.ref b13)])) rfl rfl (hb hby at_178)
      have N17 := Fr.snoc X17 N12 g_b13
      have V17 : Arv Z h17 b13 k13 .int (3 : Int32) [(.int a), (.int (0 : Int32)), (.int (0 : Int32))] (.int (0 : Int32)) := Arv.set Ar16 Aq16 AS16 AN16 AH16 AG16 rfl W17 0 rfl (Nat.le_of_ble_eq_true rfl)
      replace p3_E := p3_E.wr W17
      replace p3_Fs := p3_Fs.other W17 (Or.inl ne14)
      replace p3_Fi := p3_Fi.other W17 (Or.inl ne14)
      replace V12 := V12.other W17 ne15
      replace Z0 := Nat.le_trans Z0 (Keep.of_wr W17).1
      replace O := O.wr W17 g_b13
      refine own_via ?_ st17
      show Go _ _ _ _ _ _ _ _ (mkF m 179 #[.val (.int sel), .val (.int a), .val (.int b), .val (.int c_), .val (.int x_), .val (.int (0 : Int32)), .val (.int pk), .val (.int item), .val (.ref b2), .val (.ref b5), .val (.int (-1 : Int32)), .unset, .unset] [(.ref b13)])
      refine own_via ?_ fun _ kt => XS.dup X17.here hx rfl (hb hby at_179) rfl rfl kt
      show Go _ _ _ _ _ _ _ _ (mkF m 180 #[.val (.int sel), .val (.int a), .val (.int b), .val (.int c_), .val (.int x_), .val (.int (0 : Int32)), .val (.int pk), .val (.int item), .val (.ref b2), .val (.ref b5), .val (.int (-1 : Int32)), .unset, .unset] [(.ref b13), (.ref b13)])
      refine own_via ?_ fun _ kt => XS.iconst X17.here hx rfl (hb hby at_180) kt
      show Go _ _ _ _ _ _ _ _ (mkF m 181 #[.val (.int sel), .val (.int a), .val (.int b), .val (.int c_), .val (.int x_), .val (.int (0 : Int32)), .val (.int pk), .val (.int item), .val (.ref b2), .val (.ref b5), .val (.int (-1 : Int32)), .unset, .unset] [(.int (1 : Int32)), (.ref b13), (.ref b13)])
      refine own_via ?_ fun _ kt => XS.iloadN X17.here hx rfl (hb hby at_181) rfl kt
      show Go _ _ _ _ _ _ _ _ (mkF m 182 #[.val (.int sel), .val (.int a), .val (.int b), .val (.int c_), .val (.int x_), .val (.int (0 : Int32)), .val (.int pk), .val (.int item), .val (.ref b2), .val (.ref b5), .val (.int (-1 : Int32)), .unset, .unset] [(.int b), (.int (1 : Int32)), (.ref b13), (.ref b13)])
      obtain ⟨cl18, Ar18, Aq18, AS18, AN18, AH18, AG18⟩ := V17
      have hin19 : ¬ ((1 : Int32) < 0 ∨ cl18.slots.size ≤ ((1 : Int32)).toNatClampNeg) := (inb_of AS18 ⟨by decide, by decide⟩)
      obtain ⟨T19, h19, X19, e19, W19, st19⟩ := stI X17 hx hZ e17 Ar18 (j := (1 : Int32)) hin19 (g := (mkF m 182 #[.val (.int sel), .val (.int a), .val (.int b), .val (.int c_), .val (.int x_), .val (.int (0 : Int32)), .val (.int pk), .val (.int item), .val (.ref b2), .val (.ref b5), .val (.int (-1 : Int32)), .unset, .unset] [(.int b), (.int (1 : Int32)), (.ref b13), (.ref b13)])) rfl rfl (hb hby at_182)
      have N19 := Fr.snoc X19 N17 g_b13
      have V19 : Arv Z h19 b13 k13 .int (3 : Int32) [(.int a), (.int b), (.int (0 : Int32))] (.int (0 : Int32)) := Arv.set Ar18 Aq18 AS18 AN18 AH18 AG18 rfl W19 1 rfl (Nat.le_of_ble_eq_true rfl)
      replace p3_E := p3_E.wr W19
      replace p3_Fs := p3_Fs.other W19 (Or.inl ne14)
      replace p3_Fi := p3_Fi.other W19 (Or.inl ne14)
      replace V12 := V12.other W19 ne15
      replace Z0 := Nat.le_trans Z0 (Keep.of_wr W19).1
      replace O := O.wr W19 g_b13
      refine own_via ?_ st19
      show Go _ _ _ _ _ _ _ _ (mkF m 183 #[.val (.int sel), .val (.int a), .val (.int b), .val (.int c_), .val (.int x_), .val (.int (0 : Int32)), .val (.int pk), .val (.int item), .val (.ref b2), .val (.ref b5), .val (.int (-1 : Int32)), .unset, .unset] [(.ref b13)])
      refine own_via ?_ fun _ kt => XS.dup X19.here hx rfl (hb hby at_183) rfl rfl kt
      show Go _ _ _ _ _ _ _ _ (mkF m 184 #[.val (.int sel), .val (.int a), .val (.int b), .val (.int c_), .val (.int x_), .val (.int (0 : Int32)), .val (.int pk), .val (.int item), .val (.ref b2), .val (.ref b5), .val (.int (-1 : Int32)), .unset, .unset] [(.ref b13), (.ref b13)])
      refine own_via ?_ fun _ kt => XS.iconst X19.here hx rfl (hb hby at_184) kt
      show Go _ _ _ _ _ _ _ _ (mkF m 185 #[.val (.int sel), .val (.int a), .val (.int b), .val (.int c_), .val (.int x_), .val (.int (0 : Int32)), .val (.int pk), .val (.int item), .val (.ref b2), .val (.ref b5), .val (.int (-1 : Int32)), .unset, .unset] [(.int (2 : Int32)), (.ref b13), (.ref b13)])
      refine own_via ?_ fun _ kt => XS.iloadN X19.here hx rfl (hb hby at_185) rfl kt
      show Go _ _ _ _ _ _ _ _ (mkF m 186 #[.val (.int sel), .val (.int a), .val (.int b), .val (.int c_), .val (.int x_), .val (.int (0 : Int32)), .val (.int pk), .val (.int item), .val (.ref b2), .val (.ref b5), .val (.int (-1 : Int32)), .unset, .unset] [(.int c_), (.int (2 : Int32)), (.ref b13), (.ref b13)])
      obtain ⟨cl20, Ar20, Aq20, AS20, AN20, AH20, AG20⟩ := V19
      have hin21 : ¬ ((2 : Int32) < 0 ∨ cl20.slots.size ≤ ((2 : Int32)).toNatClampNeg) := (inb_of AS20 ⟨by decide, by decide⟩)
      obtain ⟨T21, h21, X21, e21, W21, st21⟩ := stI X19 hx hZ e19 Ar20 (j := (2 : Int32)) hin21 (g := (mkF m 186 #[.val (.int sel), .val (.int a), .val (.int b), .val (.int c_), .val (.int x_), .val (.int (0 : Int32)), .val (.int pk), .val (.int item), .val (.ref b2), .val (.ref b5), .val (.int (-1 : Int32)), .unset, .unset] [(.int c_), (.int (2 : Int32)), (.ref b13), (.ref b13)])) rfl rfl (hb hby at_186)
      have N21 := Fr.snoc X21 N19 g_b13
      have V21 : Arv Z h21 b13 k13 .int (3 : Int32) [(.int a), (.int b), (.int c_)] (.int (0 : Int32)) := Arv.set Ar20 Aq20 AS20 AN20 AH20 AG20 rfl W21 2 rfl (Nat.le_of_ble_eq_true rfl)
      replace p3_E := p3_E.wr W21
      replace p3_Fs := p3_Fs.other W21 (Or.inl ne14)
      replace p3_Fi := p3_Fi.other W21 (Or.inl ne14)
      replace V12 := V12.other W21 ne15
      replace Z0 := Nat.le_trans Z0 (Keep.of_wr W21).1
      replace O := O.wr W21 g_b13
      refine own_via ?_ st21
      show Go _ _ _ _ _ _ _ _ (mkF m 187 #[.val (.int sel), .val (.int a), .val (.int b), .val (.int c_), .val (.int x_), .val (.int (0 : Int32)), .val (.int pk), .val (.int item), .val (.ref b2), .val (.ref b5), .val (.int (-1 : Int32)), .unset, .unset] [(.ref b13)])
      refine own_via ?_ fun _ kt => XS.astore X21.here hx rfl (hb hby at_187) rfl rfl (l' := #[.val (.int sel), .val (.int a), .val (.int b), .val (.int c_), .val (.int x_), .val (.int (0 : Int32)), .val (.int pk), .val (.int item), .val (.ref b2), .val (.ref b5), .val (.int (-1 : Int32)), .val (.ref b13), .unset]) rfl kt
      show Go _ _ _ _ _ _ _ _ (mkF m 189 #[.val (.int sel), .val (.int a), .val (.int b), .val (.int c_), .val (.int x_), .val (.int (0 : Int32)), .val (.int pk), .val (.int item), .val (.ref b2), .val (.ref b5), .val (.int (-1 : Int32)), .val (.ref b13), .unset] [])
      refine own_via ?_ fun _ kt => XS.iload X21.here hx rfl (hb hby at_189) rfl kt
      show Go _ _ _ _ _ _ _ _ (mkF m 191 #[.val (.int sel), .val (.int a), .val (.int b), .val (.int c_), .val (.int x_), .val (.int (0 : Int32)), .val (.int pk), .val (.int item), .val (.ref b2), .val (.ref b5), .val (.int (-1 : Int32)), .val (.ref b13), .unset] [(.int (0 : Int32))])
      refine own_via ?_ fun _ kt => XS.istore X21.here hx rfl (hb hby at_191) rfl (l' := #[.val (.int sel), .val (.int a), .val (.int b), .val (.int c_), .val (.int x_), .val (.int (0 : Int32)), .val (.int pk), .val (.int item), .val (.ref b2), .val (.ref b5), .val (.int (-1 : Int32)), .val (.ref b13), .val (.int (0 : Int32))]) rfl kt
      show Go _ _ _ _ _ _ _ _ (mkF m 193 #[.val (.int sel), .val (.int a), .val (.int b), .val (.int c_), .val (.int x_), .val (.int (0 : Int32)), .val (.int pk), .val (.int item), .val (.ref b2), .val (.ref b5), .val (.int (-1 : Int32)), .val (.ref b13), .val (.int (0 : Int32))] [])
      refine own_via ?_ fun _ kt => XS.iload X21.here hx rfl (hb hby at_193) rfl kt
      show Go _ _ _ _ _ _ _ _ (mkF m 195 #[.val (.int sel), .val (.int a), .val (.int b), .val (.int c_), .val (.int x_), .val (.int (0 : Int32)), .val (.int pk), .val (.int item), .val (.ref b2), .val (.ref b5), .val (.int (-1 : Int32)), .val (.ref b13), .val (.int (0 : Int32))] [(.int (-1 : Int32))])
      refine own_via ?_ fun _ kt => XS.ifYes X21.here hx rfl (pc0 := 195) (pc' := 216) rfl (hb hby at_195) rfl ((if0 _ _).trans (tlt (by decide : ((-1 : Int32) < (0 : Int32)))).1) (by decide) (by decide) kt
      show Go _ _ _ _ _ _ _ _ (mkF m 216 #[.val (.int sel), .val (.int a), .val (.int b), .val (.int c_), .val (.int x_), .val (.int (0 : Int32)), .val (.int pk), .val (.int item), .val (.ref b2), .val (.ref b5), .val (.int (-1 : Int32)), .val (.ref b13), .val (.int (0 : Int32))] [])
      refine own_via ?_ fun _ kt => XS.aload X21.here hx rfl (hb hby at_216) rfl rfl kt
      show Go _ _ _ _ _ _ _ _ (mkF m 218 #[.val (.int sel), .val (.int a), .val (.int b), .val (.int c_), .val (.int x_), .val (.int (0 : Int32)), .val (.int pk), .val (.int item), .val (.ref b2), .val (.ref b5), .val (.int (-1 : Int32)), .val (.ref b13), .val (.int (0 : Int32))] [(.ref b2)])
      obtain ⟨T22, X22, e22, st22⟩ := getF X21 hx hZ hown (host := "") (Or.inl (hw _ (List.mem_of_getElem? (i := 21) rfl))) Via.refl e21 p3_Fs (g := (mkF m 218 #[.val (.int sel), .val (.int a), .val (.int b), .val (.int c_), .val (.int x_), .val (.int (0 : Int32)), .val (.int pk), .val (.int item), .val (.ref b2), .val (.ref b5), .val (.int (-1 : Int32)), .val (.ref b13), .val (.int (0 : Int32))] [(.ref b2)])) rfl rfl (hb hby at_218)
      refine own_via ?_ st22
      show Go _ _ _ _ _ _ _ _ (mkF m 221 #[.val (.int sel), .val (.int a), .val (.int b), .val (.int c_), .val (.int x_), .val (.int (0 : Int32)), .val (.int pk), .val (.int item), .val (.ref b2), .val (.ref b5), .val (.int (-1 : Int32)), .val (.ref b13), .val (.int (0 : Int32))] [(.int (0 : Int32))])
      refine own_via ?_ fun _ kt => XS.iload X22.here hx rfl (hb hby at_221) rfl kt
      show Go _ _ _ _ _ _ _ _ (mkF m 223 #[.val (.int sel), .val (.int a), .val (.int b), .val (.int c_), .val (.int x_), .val (.int (0 : Int32)), .val (.int pk), .val (.int item), .val (.ref b2), .val (.ref b5), .val (.int (-1 : Int32)), .val (.ref b13), .val (.int (0 : Int32))] [(.int (0 : Int32)), (.int (0 : Int32))])
      refine own_via ?_ fun _ kt => XS.icmpYes X22.here hx rfl (pc0 := 223) (pc' := 228) rfl (hb hby at_223) rfl (teq rfl).1 (by decide) (by decide) kt
      show Go _ _ _ _ _ _ _ _ (mkF m 228 #[.val (.int sel), .val (.int a), .val (.int b), .val (.int c_), .val (.int x_), .val (.int (0 : Int32)), .val (.int pk), .val (.int item), .val (.ref b2), .val (.ref b5), .val (.int (-1 : Int32)), .val (.ref b13), .val (.int (0 : Int32))] [])
      refine own_via ?_ fun _ kt => XS.aload X22.here hx rfl (hb hby at_228) rfl rfl kt
      show Go _ _ _ _ _ _ _ _ (mkF m 230 #[.val (.int sel), .val (.int a), .val (.int b), .val (.int c_), .val (.int x_), .val (.int (0 : Int32)), .val (.int pk), .val (.int item), .val (.ref b2), .val (.ref b5), .val (.int (-1 : Int32)), .val (.ref b13), .val (.int (0 : Int32))] [(.ref b2)])
      obtain ⟨T23, X23, e23, st23⟩ := getF X22 hx hZ hown (host := "") (Or.inl (hw _ (List.mem_of_getElem? (i := 22) rfl))) Via.refl e22 p3_Fi (g := (mkF m 230 #[.val (.int sel), .val (.int a), .val (.int b), .val (.int c_), .val (.int x_), .val (.int (0 : Int32)), .val (.int pk), .val (.int item), .val (.ref b2), .val (.ref b5), .val (.int (-1 : Int32)), .val (.ref b13), .val (.int (0 : Int32))] [(.ref b2)])) rfl rfl (hb hby at_230)
      refine own_via ?_ st23
      show Go _ _ _ _ _ _ _ _ (mkF m 233 #[.val (.int sel), .val (.int a), .val (.int b), .val (.int c_), .val (.int x_), .val (.int (0 : Int32)), .val (.int pk), .val (.int item), .val (.ref b2), .val (.ref b5), .val (.int (-1 : Int32)), .val (.ref b13), .val (.int (0 : Int32))] [(.ref aN)])
      obtain ⟨cl24, Ar24, Aq24, AS24, AN24, AH24, AG24⟩ := (VN.ext O.2)
      refine own_via ?_ fun _ kt => X23.arraylength hx (by rw [e23]; exact Ar24.1) (State.isArrayOf_alike hZ.alike Ar24.2.1) (g := (mkF m 233 #[.val (.int sel), .val (.int a), .val (.int b), .val (.int c_), .val (.int x_), .val (.int (0 : Int32)), .val (.int pk), .val (.int item), .val (.ref b2), .val (.ref b5), .val (.int (-1 : Int32)), .val (.ref b13), .val (.int (0 : Int32))] [(.ref aN)])) rfl rfl (hb hby at_233) _ kt
      rw [len_of AS24 AN24]
      show Go _ _ _ _ _ _ _ _ (mkF m 234 #[.val (.int sel), .val (.int a), .val (.int b), .val (.int c_), .val (.int x_), .val (.int (0 : Int32)), .val (.int pk), .val (.int item), .val (.ref b2), .val (.ref b5), .val (.int (-1 : Int32)), .val (.ref b13), .val (.int (0 : Int32))] [(.int (0 : Int32))])
      refine own_via ?_ fun _ kt => XS.iload X23.here hx rfl (hb hby at_234) rfl kt
      show Go _ _ _ _ _ _ _ _ (mkF m 236 #[.val (.int sel), .val (.int a), .val (.int b), .val (.int c_), .val (.int x_), .val (.int (0 : Int32)), .val (.int pk), .val (.int item), .val (.ref b2), .val (.ref b5), .val (.int (-1 : Int32)), .val (.ref b13), .val (.int (0 : Int32))] [(.int (0 : Int32)), (.int (0 : Int32))])
      refine own_via ?_ fun _ kt => XS.icmpYes X23.here hx rfl (pc0 := 236) (pc' := 241) rfl (hb hby at_236) rfl (flt (by decide : ¬ ((0 : Int32) < (0 : Int32)))).2.1 (by decide) (by decide) kt
      show Go _ _ _ _ _ _ _ _ (mkF m 241 #[.val (.int sel), .val (.int a), .val (.int b), .val (.int c_), .val (.int x_), .val (.int (0 : Int32)), .val (.int pk), .val (.int item), .val (.ref b2), .val (.ref b5), .val (.int (-1 : Int32)), .val (.ref b13), .val (.int (0 : Int32))] [])
      refine own_via ?_ fun _ kt => XS.iload X23.here hx rfl (hb hby at_241) rfl kt
      show Go _ _ _ _ _ _ _ _ (mkF m 243 #[.val (.int sel), .val (.int a), .val (.int b), .val (.int c_), .val (.int x_), .val (.int (0 : Int32)), .val (.int pk), .val (.int item), .val (.ref b2), .val (.ref b5), .val (.int (-1 : Int32)), .val (.ref b13), .val (.int (0 : Int32))] [(.int (0 : Int32))])
      refine own_via ?_ fun _ kt => XS.ifYes X23.here hx rfl (pc0 := 243) (pc' := 262) rfl (hb hby at_243) rfl ((if0 _ _).trans (flt (by decide : ¬ ((0 : Int32) < (0 : Int32)))).2.2.2) (by decide) (by decide) kt
      show Go _ _ _ _ _ _ _ _ (mkF m 262 #[.val (.int sel), .val (.int a), .val (.int b), .val (.int c_), .val (.int x_), .val (.int (0 : Int32)), .val (.int pk), .val (.int item), .val (.ref b2), .val (.ref b5), .val (.int (-1 : Int32)), .val (.ref b13), .val (.int (0 : Int32))] [])
      refine own_via ?_ fun _ kt => XS.iload X23.here hx rfl (hb hby at_262) rfl kt
      show Go _ _ _ _ _ _ _ _ (mkF m 264 #[.val (.int sel), .val (.int a), .val (.int b), .val (.int c_), .val (.int x_), .val (.int (0 : Int32)), .val (.int pk), .val (.int item), .val (.ref b2), .val (.ref b5), .val (.int (-1 : Int32)), .val (.ref b13), .val (.int (0 : Int32))] [(.int (0 : Int32))])
      refine own_via ?_ fun _ kt => XS.iconst X23.here hx rfl (hb hby at_264) kt
      show Go _ _ _ _ _ _ _ _ (mkF m 265 #[.val (.int sel), .val (.int a), .val (.int b), .val (.int c_), .val (.int x_), .val (.int (0 : Int32)), .val (.int pk), .val (.int item), .val (.ref b2), .val (.ref b5), .val (.int (-1 : Int32)), .val (.ref b13), .val (.int (0 : Int32))] [(.int (1 : Int32)), (.int (0 : Int32))])
      refine own_via ?_ fun _ kt => XS.icmpYes X23.here hx rfl (pc0 := 265) (pc' := 284) rfl (hb hby at_265) rfl (flt (by decide : ¬ ((1 : Int32) < (0 : Int32)))).2.2.2 (by decide) (by decide) kt
      show Go _ _ _ _ _ _ _ _ (mkF m 284 #[.val (.int sel), .val (.int a), .val (.int b), .val (.int c_), .val (.int x_), .val (.int (0 : Int32)), .val (.int pk), .val (.int item), .val (.ref b2), .val (.ref b5), .val (.int (-1 : Int32)), .val (.ref b13), .val (.int (0 : Int32))] [])
      refine own_via ?_ fun _ kt => XS.iload X23.here hx rfl (hb hby at_284) rfl kt
      show Go _ _ _ _ _ _ _ _ (mkF m 286 #[.val (.int sel), .val (.int a), .val (.int b), .val (.int c_), .val (.int x_), .val (.int (0 : Int32)), .val (.int pk), .val (.int item), .val (.ref b2), .val (.ref b5), .val (.int (-1 : Int32)), .val (.ref b13), .val (.int (0 : Int32))] [(.int (0 : Int32))])
      refine own_via ?_ fun _ kt => XS.iconst X23.here hx rfl (hb hby at_286) kt
      show Go _ _ _ _ _ _ _ _ (mkF m 287 #[.val (.int sel), .val (.int a), .val (.int b), .val (.int c_), .val (.int x_), .val (.int (0 : Int32)), .val (.int pk), .val (.int item), .val (.ref b2), .val (.ref b5), .val (.int (-1 : Int32)), .val (.ref b13), .val (.int (0 : Int32))] [(.int (2 : Int32)), (.int (0 : Int32))])
      refine own_via ?_ fun _ kt => XS.icmpYes X23.here hx rfl (pc0 := 287) (pc' := 306) rfl (hb hby at_287) rfl (flt (by decide : ¬ ((2 : Int32) < (0 : Int32)))).2.2.2 (by decide) (by decide) kt
      show Go _ _ _ _ _ _ _ _ (mkF m 306 #[.val (.int sel), .val (.int a), .val (.int b), .val (.int c_), .val (.int x_), .val (.int (0 : Int32)), .val (.int pk), .val (.int item), .val (.ref b2), .val (.ref b5), .val (.int (-1 : Int32)), .val (.ref b13), .val (.int (0 : Int32))] [])
      refine own_via ?_ fun _ kt => XS.iconst X23.here hx rfl (hb hby at_306) kt
      show Go _ _ _ _ _ _ _ _ (mkF m 307 #[.val (.int sel), .val (.int a), .val (.int b), .val (.int c_), .val (.int x_), .val (.int (0 : Int32)), .val (.int pk), .val (.int item), .val (.ref b2), .val (.ref b5), .val (.int (-1 : Int32)), .val (.ref b13), .val (.int (0 : Int32))] [(.int (1 : Int32))])
      exact own_retZ (z' := (1 : Int32)) X23 hx hret hlk (hb hby at_307) rfl (by decide) (by decide) (by rw [e23]; exact ⟨rfl, N21⟩)
    · skip
      show Go _ _ _ _ _ _ _ _ (mkF m 60 #[.val (.int sel), .val (.int a), .val (.int b), .val (.int c_), .val (.int x_), .val (.int (1 : Int32)), .val (.int pk), .val (.int item), .val (.ref b2), .unset, .unset, .unset, .unset] [])
      refine own_via ?_ fun _ kt => XS.iload X3.here hx rfl (hb hby at_60) rfl kt
      show Go _ _ _ _ _ _ _ _ (mkF m 62 #[.val (.int sel), .val (.int a), .val (.int b), .val (.int c_), .val (.int x_), .val (.int (1 : Int32)), .val (.int pk), .val (.int item), .val (.ref b2), .unset, .unset, .unset, .unset] [(.int (1 : Int32))])
      refine own_via ?_ fun _ kt => XS.ifNo X3.here hx rfl (hb hby at_62) rfl ((if0 _ _).trans (tlt (by decide : ((0 : Int32) < (1 : Int32)))).2.2.2) kt
      show Go _ _ _ _ _ _ _ _ (mkF m 65 #[.val (.int sel), .val (.int a), .val (.int b), .val (.int c_), .val (.int x_), .val (.int (1 : Int32)), .val (.int pk), .val (.int item), .val (.ref b2), .unset, .unset, .unset, .unset] [])
      refine own_via ?_ fun _ kt => XS.aload X3.here hx rfl (hb hby at_65) rfl rfl kt
      show Go _ _ _ _ _ _ _ _ (mkF m 67 #[.val (.int sel), .val (.int a), .val (.int b), .val (.int c_), .val (.int x_), .val (.int (1 : Int32)), .val (.int pk), .val (.int item), .val (.ref b2), .unset, .unset, .unset, .unset] [(.ref b2)])
      refine own_via ?_ fun _ kt => XS.iloadN X3.here hx rfl (hb hby at_67) rfl kt
      show Go _ _ _ _ _ _ _ _ (mkF m 68 #[.val (.int sel), .val (.int a), .val (.int b), .val (.int c_), .val (.int x_), .val (.int (1 : Int32)), .val (.int pk), .val (.int item), .val (.ref b2), .unset, .unset, .unset, .unset] [(.int a), (.ref b2)])
      have Zp := Z0
      obtain ⟨cq25, kq25, q25a, q25b, q25c⟩ := isOf hZ e3 p3_E
      obtain ⟨_, _, ⟨T25, L25, k25, n25⟩, -, X25, ⟨Lc25, hQ25, l25, y25, z25⟩, st25⟩ := X3.virtualBack hx (y := (⟨"com/example/aspen/aspen/IntList", "add", "(I)V"⟩ : MethodName)) (z := (⟨"com/example/aspen/aspen/IntList", "add", "(I)V"⟩ : MethodName)) hown (mvT hZ (hw _ (List.mem_of_getElem? (i := 23) rfl))) (mvT hZ (hw _ (List.mem_of_getElem? (i := 24) rfl))) (notFace_of_selects (args := #[]) (mvT hZ (hw _ (List.mem_of_getElem? (i := 26) rfl)))) (mvT hZ (hw _ (List.mem_of_getElem? (i := 26) rfl))) (mvT hZ (hw _ (List.mem_of_getElem? (i := 25) rfl))) (by decide) (backOf (W := 0) (rm_add0 l Z a0 hw [] b2 aN kN a h3 n0 Z0 O VN g_b2 p3_E p3_Fs p3_Fi) hZ (hw _ (List.mem_of_getElem? (i := 27) rfl)) (hw _ (List.mem_of_getElem? (i := 2) rfl)) (by decide) (by decide)) q25a q25c (g := (mkF m 68 #[.val (.int sel), .val (.int a), .val (.int b), .val (.int c_), .val (.int x_), .val (.int (1 : Int32)), .val (.int pk), .val (.int item), .val (.ref b2), .unset, .unset, .unset, .unset] [(.int a), (.ref b2)])) rfl (by rw [hml]; rfl) (Steps.refl _) (argsL := [(.int a)]) (rest := []) (lenOf pd3 rfl) rfl (by show 2 * 0 + _ ≤ _; exact Nat.le_of_eq rfl) (hb hby at_68) (fun _ _ => ⟨rfl, e3, (by decide : 1 + 1 ≤ _), (by decide : 2 + 4 ≤ _)⟩)
      dsimp only [Pt.U, Pt.locs, Pt.cells, Pt.slots] at X25 l25 y25 z25 st25 hQ25
      subst l25 y25 z25
      have lt_25 := p3_E.lt
      obtain ⟨h25, e25⟩ : ∃ z, T25.heap = z := ⟨_, rfl⟩
      rw [e25] at hQ25
      obtain ⟨rfl, Nq25, Kq25, ba, ka, szb, p25_E, p25_Fs, p25_Fi, p25_V⟩ := hQ25
      have N25 := Fr.app N3 Nq25
      replace Z0 := Nat.le_trans Z0 Kq25.1
      replace O := O.keep Kq25 (allS g_b2 all0)
      have g_ba : n0 ≤ ba := Nat.le_trans Zp szb
      have neab : b2 ≠ ba := Nat.ne_of_lt (Nat.lt_of_lt_of_le lt_25 szb)
      refine own_join ?_ st25
      show Go _ _ _ _ _ _ _ _ (mkF m 71 #[.val (.int sel), .val (.int a), .val (.int b), .val (.int c_), .val (.int x_), .val (.int (1 : Int32)), .val (.int pk), .val (.int item), .val (.ref b2), .unset, .unset, .unset, .unset] [])
      refine own_via ?_ fun _ kt => XS.iload X25.here hx rfl (hb hby at_71) rfl kt
      show Go _ _ _ _ _ _ _ _ (mkF m 73 #[.val (.int sel), .val (.int a), .val (.int b), .val (.int c_), .val (.int x_), .val (.int (1 : Int32)), .val (.int pk), .val (.int item), .val (.ref b2), .unset, .unset, .unset, .unset] [(.int (1 : Int32))])
      refine own_via ?_ fun _ kt => XS.iconst X25.here hx rfl (hb hby at_73) kt
      show Go _ _ _ _ _ _ _ _ (mkF m 74 #[.val (.int sel), .val (.int a), .val (.int b), .val (.int c_), .val (.int x_), .val (.int (1 : Int32)), .val (.int pk), .val (.int item), .val (.ref b2), .unset, .unset, .unset, .unset] [(.int (1 : Int32)), (.int (1 : Int32))])
      refine own_via ?_ fun _ kt => XS.icmpYes X25.here hx rfl (pc0 := 74) (pc' := 83) rfl (hb hby at_74) rfl (flt (by decide : ¬ ((1 : Int32) < (1 : Int32)))).2.2.2 (by decide) (by decide) kt
      show Go _ _ _ _ _ _ _ _ (mkF m 83 #[.val (.int sel), .val (.int a), .val (.int b), .val (.int c_), .val (.int x_), .val (.int (1 : Int32)), .val (.int pk), .val (.int item), .val (.ref b2), .unset, .unset, .unset, .unset] [])
      refine own_via ?_ fun _ kt => XS.iload X25.here hx rfl (hb hby at_83) rfl kt
      show Go _ _ _ _ _ _ _ _ (mkF m 85 #[.val (.int sel), .val (.int a), .val (.int b), .val (.int c_), .val (.int x_), .val (.int (1 : Int32)), .val (.int pk), .val (.int item), .val (.ref b2), .unset, .unset, .unset, .unset] [(.int (1 : Int32))])
      refine own_via ?_ fun _ kt => XS.iconst X25.here hx rfl (hb hby at_85) kt
      show Go _ _ _ _ _ _ _ _ (mkF m 86 #[.val (.int sel), .val (.int a), .val (.int b), .val (.int c_), .val (.int x_), .val (.int (1 : Int32)), .val (.int pk), .val (.int item), .val (.ref b2), .unset, .unset, .unset, .unset] [(.int (2 : Int32)), (.int (1 : Int32))])
      refine own_via ?_ fun _ kt => XS.icmpYes X25.here hx rfl (pc0 := 86) (pc' := 95) rfl (hb hby at_86) rfl (flt (by decide : ¬ ((2 : Int32) < (1 : Int32)))).2.2.2 (by decide) (by decide) kt
      show Go _ _ _ _ _ _ _ _ (mkF m 95 #[.val (.int sel), .val (.int a), .val (.int b), .val (.int c_), .val (.int x_), .val (.int (1 : Int32)), .val (.int pk), .val (.int item), .val (.ref b2), .unset, .unset, .unset, .unset] [])
      refine own_via ?_ fun _ kt => XS.aload X25.here hx rfl (hb hby at_95) rfl rfl kt
      show Go _ _ _ _ _ _ _ _ (mkF m 97 #[.val (.int sel), .val (.int a), .val (.int b), .val (.int c_), .val (.int x_), .val (.int (1 : Int32)), .val (.int pk), .val (.int item), .val (.ref b2), .unset, .unset, .unset, .unset] [(.ref b2)])
      refine own_via ?_ fun _ kt => XS.iload X25.here hx rfl (hb hby at_97) rfl kt
      show Go _ _ _ _ _ _ _ _ (mkF m 99 #[.val (.int sel), .val (.int a), .val (.int b), .val (.int c_), .val (.int x_), .val (.int (1 : Int32)), .val (.int pk), .val (.int item), .val (.ref b2), .unset, .unset, .unset, .unset] [(.int item), (.ref b2)])
      obtain ⟨cq26, kq26, q26a, q26b, q26c⟩ := isOf hZ e25 p25_E
      obtain ⟨_, _, ⟨T26, L26, k26, n26⟩, -, X26, ⟨Lc26, hQ26, l26, y26, z26⟩, st26⟩ := X25.virtualBack hx (y := (⟨"com/example/aspen/aspen/IntList", "remove", "(I)V"⟩ : MethodName)) (z := (⟨"com/example/aspen/aspen/IntList", "remove", "(I)V"⟩ : MethodName)) hown (mvT hZ (hw _ (List.mem_of_getElem? (i := 13) rfl))) (mvT hZ (hw _ (List.mem_of_getElem? (i := 14) rfl))) (notFace_of_selects (args := #[]) (mvT hZ (hw _ (List.mem_of_getElem? (i := 16) rfl)))) (mvT hZ (hw _ (List.mem_of_getElem? (i := 16) rfl))) (mvT hZ (hw _ (List.mem_of_getElem? (i := 15) rfl))) (by decide) (backOf (W := 0) (rm_rem1 l Z a0 hw [] b2 ba ka item a h25 n0 Z0 g_b2 g_ba neab p25_E p25_Fs p25_Fi p25_V) hZ (hw _ (List.mem_of_getElem? (i := 17) rfl)) (hw _ (List.mem_of_getElem? (i := 2) rfl)) (by decide) (by decide)) q26a q26c (g := (mkF m 99 #[.val (.int sel), .val (.int a), .val (.int b), .val (.int c_), .val (.int x_), .val (.int (1 : Int32)), .val (.int pk), .val (.int item), .val (.ref b2), .unset, .unset, .unset, .unset] [(.int item), (.ref b2)])) rfl (by rw [hml]; rfl) (Steps.refl _) (argsL := [(.int item)]) (rest := []) (lenOf pd3 rfl) rfl (by show 2 * 0 + _ ≤ _; exact Nat.le_of_eq rfl) (hb hby at_99) (fun _ _ => ⟨rfl, e25, (by decide : 2 + 0 ≤ _), (by decide : 6 + 0 ≤ _)⟩)
      dsimp only [Pt.U, Pt.locs, Pt.cells, Pt.slots] at X26 l26 y26 z26 st26 hQ26
      subst l26 y26 z26
      obtain ⟨h26, e26⟩ : ∃ z, T26.heap = z := ⟨_, rfl⟩
      rw [e26] at hQ26
      obtain ⟨rfl, Nq26, Kq26, hD26⟩ := hQ26
      have N26 := Fr.app N25 Nq26
      replace Z0 := Nat.le_trans Z0 Kq26.1
      replace O := O.keep Kq26 (allS g_b2 (allS g_ba all0))
      refine own_join ?_ st26
      rcases hD26 with ⟨hv26_0, p26_E, p26_Fs, p26_Fi, p26_V⟩ | ⟨hv26_0, p26_E, p26_Fs, p26_Fi, p26_V⟩
      · skip
        show Go _ _ _ _ _ _ _ _ (mkF m 102 #[.val (.int sel), .val (.int a), .val (.int b), .val (.int c_), .val (.int x_), .val (.int (1 : Int32)), .val (.int pk), .val (.int item), .val (.ref b2), .unset, .unset, .unset, .unset] [])
        refine own_via ?_ fun _ kt => XS.iconst X26.here hx rfl (hb hby at_102) kt
        show Go _ _ _ _ _ _ _ _ (mkF m 103 #[.val (.int sel), .val (.int a), .val (.int b), .val (.int c_), .val (.int x_), .val (.int (1 : Int32)), .val (.int pk), .val (.int item), .val (.ref b2), .unset, .unset, .unset, .unset] [(.int (3 : Int32))])
        obtain ⟨T27, h27, k27, X27, e27, E27, A27, st27⟩ := newP X26 hx hZ (hw _ (List.mem_of_getElem? (i := 20) rfl)) e26 (g := (mkF m 103 #[.val (.int sel), .val (.int a), .val (.int b), .val (.int c_), .val (.int x_), .val (.int (1 : Int32)), .val (.int pk), .val (.int item), .val (.ref b2), .unset, .unset, .unset, .unset] [(.int (3 : Int32))])) rfl (hb hby at_103) rfl (by decide) (cap := 3) (by decide) (by decide) (by decide) (by decide)
        obtain ⟨b27, g27⟩ : ∃ z, z = h26.size := ⟨_, rfl⟩
        rw [← g27] at A27 st27
        have ne28 : b2 ≠ b27 := by rw [g27]; exact Nat.ne_of_lt p26_E.lt
        have ne29 : ba ≠ b27 := by rw [g27]; exact Nat.ne_of_lt p26_V.lt
        have g_b27 : n0 ≤ b27 := by rw [g27]; exact Z0
        replace p26_E := p26_E.ext E27
        replace p26_Fs := p26_Fs.ext E27
        replace p26_Fi := p26_Fi.ext E27
        replace p26_V := p26_V.ext E27
        replace Z0 := Nat.le_trans Z0 E27.1
        replace O := O.ext E27
        have V27 : Arv Z h27 b27 k27 .int (3 : Int32) [(.int (0 : Int32)), (.int (0 : Int32)), (.int (0 : Int32))] (.int (0 : Int32)) := (Arv.new A27 (by decide)).pad (pad_rep [] (.int (0 : Int32)) 3)
        refine own_via ?_ st27
        show Go _ _ _ _ _ _ _ _ (mkF m 105 #[.val (.int sel), .val (.int a), .val (.int b), .val (.int c_), .val (.int x_), .val (.int (1 : Int32)), .val (.int pk), .val (.int item), .val (.ref b2), .unset, .unset, .unset, .unset] [(.ref b27)])
        refine own_via ?_ fun _ kt => XS.dup X27.here hx rfl (hb hby at_105) rfl rfl kt
        show Go _ _ _ _ _ _ _ _ (mkF m 106 #[.val (.int sel), .val (.int a), .val (.int b), .val (.int c_), .val (.int x_), .val (.int (1 : Int32)), .val (.int pk), .val (.int item), .val (.ref b2), .unset, .unset, .unset, .unset] [(.ref b27), (.ref b27)])
        refine own_via ?_ fun _ kt => XS.iconst X27.here hx rfl (hb hby at_106) kt
        show Go _ _ _ _ _ _ _ _ (mkF m 107 #[.val (.int sel), .val (.int a), .val (.int b), .val (.int c_), .val (.int x_), .val (.int (1 : Int32)), .val (.int pk), .val (.int item), .val (.ref b2), .unset, .unset, .unset, .unset] [(.int (0 : Int32)), (.ref b27), (.ref b27)])
        refine own_via ?_ fun _ kt => XS.iloadN X27.here hx rfl (hb hby at_107) rfl kt
        show Go _ _ _ _ _ _ _ _ (mkF m 108 #[.val (.int sel), .val (.int a), .val (.int b), .val (.int c_), .val (.int x_), .val (.int (1 : Int32)), .val (.int pk), .val (.int item), .val (.ref b2), .unset, .unset, .unset, .unset] [(.int a), (.int (0 : Int32)), (.ref b27), (.ref b27)])
        obtain ⟨cl30, Ar30, Aq30, AS30, AN30, AH30, AG30⟩ := V27
        have hin31 : ¬ ((0 : Int32) < 0 ∨ cl30.slots.size ≤ ((0 : Int32)).toNatClampNeg) := (inb_of AS30 ⟨by decide, by decide⟩)
        obtain ⟨T31, h31, X31, e31, W31, st31⟩ := stI X27 hx hZ e27 Ar30 (j := (0 : Int32)) hin31 (g := (mkF m 108 #[.val (.int sel), .val (.int a), .val (.int b), .val (.int c_), .val (.int x_), .val (.int (1 : Int32)), .val (.int pk), .val (.int item), .val (.ref b2), .unset, .unset, .unset, .unset] [(.int a), (.int (0 : Int32)), (.ref b27), (.ref b27)])) rfl rfl (hb hby at_108)
        have N31 := Fr.snoc X31 N26 g_b27
        have V31 : Arv Z h31 b27 k27 .int (3 : Int32) [(.int a), (.int (0 : Int32)), (.int (0 : Int32))] (.int (0 : Int32)) := Arv.set Ar30 Aq30 AS30 AN30 AH30 AG30 rfl W31 0 rfl (Nat.le_of_ble_eq_true rfl)
        replace p26_E := p26_E.wr W31
        replace p26_Fs := p26_Fs.other W31 (Or.inl ne28)
        replace p26_Fi := p26_Fi.other W31 (Or.inl ne28)
        replace p26_V := p26_V.other W31 ne29
        replace Z0 := Nat.le_trans Z0 (Keep.of_wr W31).1
        replace O := O.wr W31 g_b27
        refine own_via ?_ st31
        show Go _ _ _ _ _ _ _ _ (mkF m 109 #[.val (.int sel), .val (.int a), .val (.int b), .val (.int c_), .val (.int x_), .val (.int (1 : Int32)), .val (.int pk), .val (.int item), .val (.ref b2), .unset, .unset, .unset, .unset] [(.ref b27)])
        refine own_via ?_ fun _ kt => XS.dup X31.here hx rfl (hb hby at_109) rfl rfl kt
        show Go _ _ _ _ _ _ _ _ (mkF m 110 #[.val (.int sel), .val (.int a), .val (.int b), .val (.int c_), .val (.int x_), .val (.int (1 : Int32)), .val (.int pk), .val (.int item), .val (.ref b2), .unset, .unset, .unset, .unset] [(.ref b27), (.ref b27)])
        refine own_via ?_ fun _ kt => XS.iconst X31.here hx rfl (hb hby at_110) kt
        show Go _ _ _ _ _ _ _ _ (mkF m 111 #[.val (.int sel), .val (.int a), .val (.int b), .val (.int c_), .val (.int x_), .val (.int (1 : Int32)), .val (.int pk), .val (.int item), .val (.ref b2), .unset, .unset, .unset, .unset] [(.int (1 : Int32)), (.ref b27), (.ref b27)])
        refine own_via ?_ fun _ kt => XS.iloadN X31.here hx rfl (hb hby at_111) rfl kt
        show Go _ _ _ _ _ _ _ _ (mkF m 112 #[.val (.int sel), .val (.int a), .val (.int b), .val (.int c_), .val (.int x_), .val (.int (1 : Int32)), .val (.int pk), .val (.int item), .val (.ref b2), .unset, .unset, .unset, .unset] [(.int b), (.int (1 : Int32)), (.ref b27), (.ref b27)])
        obtain ⟨cl32, Ar32, Aq32, AS32, AN32, AH32, AG32⟩ := V31
        have hin33 : ¬ ((1 : Int32) < 0 ∨ cl32.slots.size ≤ ((1 : Int32)).toNatClampNeg) := (inb_of AS32 ⟨by decide, by decide⟩)
        obtain ⟨T33, h33, X33, e33, W33, st33⟩ := stI X31 hx hZ e31 Ar32 (j := (1 : Int32)) hin33 (g := (mkF m 112 #[.val (.int sel), .val (.int a), .val (.int b), .val (.int c_), .val (.int x_), .val (.int (1 : Int32)), .val (.int pk), .val (.int item), .val (.ref b2), .unset, .unset, .unset, .unset] [(.int b), (.int (1 : Int32)), (.ref b27), (.ref b27)])) rfl rfl (hb hby at_112)
        have N33 := Fr.snoc X33 N31 g_b27
        have V33 : Arv Z h33 b27 k27 .int (3 : Int32) [(.int a), (.int b), (.int (0 : Int32))] (.int (0 : Int32)) := Arv.set Ar32 Aq32 AS32 AN32 AH32 AG32 rfl W33 1 rfl (Nat.le_of_ble_eq_true rfl)
        replace p26_E := p26_E.wr W33
        replace p26_Fs := p26_Fs.other W33 (Or.inl ne28)
        replace p26_Fi := p26_Fi.other W33 (Or.inl ne28)
        replace p26_V := p26_V.other W33 ne29
        replace Z0 := Nat.le_trans Z0 (Keep.of_wr W33).1
        replace O := O.wr W33 g_b27
        refine own_via ?_ st33
        show Go _ _ _ _ _ _ _ _ (mkF m 113 #[.val (.int sel), .val (.int a), .val (.int b), .val (.int c_), .val (.int x_), .val (.int (1 : Int32)), .val (.int pk), .val (.int item), .val (.ref b2), .unset, .unset, .unset, .unset] [(.ref b27)])
        refine own_via ?_ fun _ kt => XS.dup X33.here hx rfl (hb hby at_113) rfl rfl kt
        show Go _ _ _ _ _ _ _ _ (mkF m 114 #[.val (.int sel), .val (.int a), .val (.int b), .val (.int c_), .val (.int x_), .val (.int (1 : Int32)), .val (.int pk), .val (.int item), .val (.ref b2), .unset, .unset, .unset, .unset] [(.ref b27), (.ref b27)])
        refine own_via ?_ fun _ kt => XS.iconst X33.here hx rfl (hb hby at_114) kt
        show Go _ _ _ _ _ _ _ _ (mkF m 115 #[.val (.int sel), .val (.int a), .val (.int b), .val (.int c_), .val (.int x_), .val (.int (1 : Int32)), .val (.int pk), .val (.int item), .val (.ref b2), .unset, .unset, .unset, .unset] [(.int (2 : Int32)), (.ref b27), (.ref b27)])
        refine own_via ?_ fun _ kt => XS.iloadN X33.here hx rfl (hb hby at_115) rfl kt
        show Go _ _ _ _ _ _ _ _ (mkF m 116 #[.val (.int sel), .val (.int a), .val (.int b), .val (.int c_), .val (.int x_), .val (.int (1 : Int32)), .val (.int pk), .val (.int item), .val (.ref b2), .unset, .unset, .unset, .unset] [(.int c_), (.int (2 : Int32)), (.ref b27), (.ref b27)])
        obtain ⟨cl34, Ar34, Aq34, AS34, AN34, AH34, AG34⟩ := V33
        have hin35 : ¬ ((2 : Int32) < 0 ∨ cl34.slots.size ≤ ((2 : Int32)).toNatClampNeg) := (inb_of AS34 ⟨by decide, by decide⟩)
        obtain ⟨T35, h35, X35, e35, W35, st35⟩ := stI X33 hx hZ e33 Ar34 (j := (2 : Int32)) hin35 (g := (mkF m 116 #[.val (.int sel), .val (.int a), .val (.int b), .val (.int c_), .val (.int x_), .val (.int (1 : Int32)), .val (.int pk), .val (.int item), .val (.ref b2), .unset, .unset, .unset, .unset] [(.int c_), (.int (2 : Int32)), (.ref b27), (.ref b27)])) rfl rfl (hb hby at_116)
        have N35 := Fr.snoc X35 N33 g_b27
        have V35 : Arv Z h35 b27 k27 .int (3 : Int32) [(.int a), (.int b), (.int c_)] (.int (0 : Int32)) := Arv.set Ar34 Aq34 AS34 AN34 AH34 AG34 rfl W35 2 rfl (Nat.le_of_ble_eq_true rfl)
        replace p26_E := p26_E.wr W35
        replace p26_Fs := p26_Fs.other W35 (Or.inl ne28)
        replace p26_Fi := p26_Fi.other W35 (Or.inl ne28)
        replace p26_V := p26_V.other W35 ne29
        replace Z0 := Nat.le_trans Z0 (Keep.of_wr W35).1
        replace O := O.wr W35 g_b27
        refine own_via ?_ st35
        show Go _ _ _ _ _ _ _ _ (mkF m 117 #[.val (.int sel), .val (.int a), .val (.int b), .val (.int c_), .val (.int x_), .val (.int (1 : Int32)), .val (.int pk), .val (.int item), .val (.ref b2), .unset, .unset, .unset, .unset] [(.ref b27)])
        refine own_via ?_ fun _ kt => XS.astore X35.here hx rfl (hb hby at_117) rfl rfl (l' := #[.val (.int sel), .val (.int a), .val (.int b), .val (.int c_), .val (.int x_), .val (.int (1 : Int32)), .val (.int pk), .val (.int item), .val (.ref b2), .val (.ref b27), .unset, .unset, .unset]) rfl kt
        show Go _ _ _ _ _ _ _ _ (mkF m 119 #[.val (.int sel), .val (.int a), .val (.int b), .val (.int c_), .val (.int x_), .val (.int (1 : Int32)), .val (.int pk), .val (.int item), .val (.ref b2), .val (.ref b27), .unset, .unset, .unset] [])
        refine own_via ?_ fun _ kt => XS.iconst X35.here hx rfl (hb hby at_119) kt
        show Go _ _ _ _ _ _ _ _ (mkF m 120 #[.val (.int sel), .val (.int a), .val (.int b), .val (.int c_), .val (.int x_), .val (.int (1 : Int32)), .val (.int pk), .val (.int item), .val (.ref b2), .val (.ref b27), .unset, .unset, .unset] [(.int (-1 : Int32))])
        refine own_via ?_ fun _ kt => XS.istore X35.here hx rfl (hb hby at_120) rfl (l' := #[.val (.int sel), .val (.int a), .val (.int b), .val (.int c_), .val (.int x_), .val (.int (1 : Int32)), .val (.int pk), .val (.int item), .val (.ref b2), .val (.ref b27), .val (.int (-1 : Int32)), .unset, .unset]) rfl kt
        show Go _ _ _ _ _ _ _ _ (mkF m 122 #[.val (.int sel), .val (.int a), .val (.int b), .val (.int c_), .val (.int x_), .val (.int (1 : Int32)), .val (.int pk), .val (.int item), .val (.ref b2), .val (.ref b27), .val (.int (-1 : Int32)), .unset, .unset] [])
        refine own_via ?_ fun _ kt => XS.iload X35.here hx rfl (hb hby at_122) rfl kt
        show Go _ _ _ _ _ _ _ _ (mkF m 124 #[.val (.int sel), .val (.int a), .val (.int b), .val (.int c_), .val (.int x_), .val (.int (1 : Int32)), .val (.int pk), .val (.int item), .val (.ref b2), .val (.ref b27), .val (.int (-1 : Int32)), .unset, .unset] [(.int (1 : Int32))])
        refine own_via ?_ fun _ kt => XS.ifNo X35.here hx rfl (hb hby at_124) rfl ((if0 _ _).trans (tlt (by decide : ((0 : Int32) < (1 : Int32)))).2.2.2) kt
        show Go _ _ _ _ _ _ _ _ (mkF m 127 #[.val (.int sel), .val (.int a), .val (.int b), .val (.int c_), .val (.int x_), .val (.int (1 : Int32)), .val (.int pk), .val (.int item), .val (.ref b2), .val (.ref b27), .val (.int (-1 : Int32)), .unset, .unset] [])
        refine own_via ?_ fun _ kt => XS.iloadN X35.here hx rfl (hb hby at_127) rfl kt
        show Go _ _ _ _ _ _ _ _ (mkF m 128 #[.val (.int sel), .val (.int a), .val (.int b), .val (.int c_), .val (.int x_), .val (.int (1 : Int32)), .val (.int pk), .val (.int item), .val (.ref b2), .val (.ref b27), .val (.int (-1 : Int32)), .unset, .unset] [(.int a)])
        refine own_via ?_ fun _ kt => XS.iload X35.here hx rfl (hb hby at_128) rfl kt
        show Go _ _ _ _ _ _ _ _ (mkF m 130 #[.val (.int sel), .val (.int a), .val (.int b), .val (.int c_), .val (.int x_), .val (.int (1 : Int32)), .val (.int pk), .val (.int item), .val (.ref b2), .val (.ref b27), .val (.int (-1 : Int32)), .unset, .unset] [(.int item), (.int a)])
        refine own_via ?_ fun _ kt => XS.icmpNo X35.here hx rfl (hb hby at_130) rfl (teq hv26_0).2 kt
        show Go _ _ _ _ _ _ _ _ (mkF m 133 #[.val (.int sel), .val (.int a), .val (.int b), .val (.int c_), .val (.int x_), .val (.int (1 : Int32)), .val (.int pk), .val (.int item), .val (.ref b2), .val (.ref b27), .val (.int (-1 : Int32)), .unset, .unset] [])
        refine own_via ?_ fun _ kt => XS.iconst X35.here hx rfl (hb hby at_133) kt
        show Go _ _ _ _ _ _ _ _ (mkF m 134 #[.val (.int sel), .val (.int a), .val (.int b), .val (.int c_), .val (.int x_), .val (.int (1 : Int32)), .val (.int pk), .val (.int item), .val (.ref b2), .val (.ref b27), .val (.int (-1 : Int32)), .unset, .unset] [(.int (0 : Int32))])
        refine own_via ?_ fun _ kt => XS.istore X35.here hx rfl (hb hby at_134) rfl (l' := #[.val (.int sel), .val (.int a), .val (.int b), .val (.int c_), .val (.int x_), .val (.int (1 : Int32)), .val (.int pk), .val (.int item), .val (.ref b2), .val (.ref b27), .val (.int (0 : Int32)), .unset, .unset]) rfl kt
        show Go _ _ _ _ _ _ _ _ (mkF m 136 #[.val (.int sel), .val (.int a), .val (.int b), .val (.int c_), .val (.int x_), .val (.int (1 : Int32)), .val (.int pk), .val (.int item), .val (.ref b2), .val (.ref b27), .val (.int (0 : Int32)), .unset, .unset] [])
        refine own_via ?_ fun _ kt => XS.goto X35.here hx rfl (pc0 := 136) (pc' := 172) rfl (hb hby at_136) (by decide) (by decide) kt
        show Go _ _ _ _ _ _ _ _ (mkF m 172 #[.val (.int sel), .val (.int a), .val (.int b), .val (.int c_), .val (.int x_), .val (.int (1 : Int32)), .val (.int pk), .val (.int item), .val (.ref b2), .val (.ref b27), .val (.int (0 : Int32)), .unset, .unset] [])
        refine own_via ?_ fun _ kt => XS.iconst X35.here hx rfl (hb hby at_172) kt
        show Go _ _ _ _ _ _ _ _ (mkF m 173 #[.val (.int sel), .val (.int a), .val (.int b), .val (.int c_), .val (.int x_), .val (.int (1 : Int32)), .val (.int pk), .val (.int item), .val (.ref b2), .val (.ref b27), .val (.int (0 : Int32)), .unset, .unset] [(.int (3 : Int32))])
        obtain ⟨T36, h36, k36, X36, e36, E36, A36, st36⟩ := newP X35 hx hZ (hw _ (List.mem_of_getElem? (i := 20) rfl)) e35 (g := (mkF m 173 #[.val (.int sel), .val (.int a), .val (.int b), .val (.int c_), .val (.int x_), .val (.int (1 : Int32)), .val (.int pk), .val (.int item), .val (.ref b2), .val (.ref b27), .val (.int (0 : Int32)), .unset, .unset] [(.int (3 : Int32))])) rfl (hb hby at_173) rfl (by decide) (cap := 3) (by decide) (by decide) (by decide) (by decide)
        obtain ⟨b36, g36⟩ : ∃ z, z = h35.size := ⟨_, rfl⟩
        rw [← g36] at A36 st36
        have ne37 : b2 ≠ b36 := by rw [g36]; exact Nat.ne_of_lt p26_E.lt
        have ne38 : ba ≠ b36 := by rw [g36]; exact Nat.ne_of_lt p26_V.lt
        have ne39 : b27 ≠ b36 := by rw [g36]; exact Nat.ne_of_lt V35.lt
        have g_b36 : n0 ≤ b36 := by rw [g36]; exact Z0
        replace p26_E := p26_E.ext E36
        replace p26_Fs := p26_Fs.ext E36
        replace p26_Fi := p26_Fi.ext E36
        replace p26_V := p26_V.ext E36
        replace V35 := V35.ext E36
        replace Z0 := Nat.le_trans Z0 E36.1
        replace O := O.ext E36
        have V36 : Arv Z h36 b36 k36 .int (3 : Int32) [(.int (0 : Int32)), (.int (0 : Int32)), (.int (0 : Int32))] (.int (0 : Int32)) := (Arv.new A36 (by decide)).pad (pad_rep [] (.int (0 : Int32)) 3)
        refine own_via ?_ st36
        show Go _ _ _ _ _ _ _ _ (mkF m 175 #[.val (.int sel), .val (.int a), .val (.int b), .val (.int c_), .val (.int x_), .val (.int (1 : Int32)), .val (.int pk), .val (.int item), .val (.ref b2), .val (.ref b27), .val (.int (0 : Int32)), .unset, .unset] [(.ref b36)])
        refine own_via ?_ fun _ kt => XS.dup X36.here hx rfl (hb hby at_175) rfl rfl kt
        show Go _ _ _ _ _ _ _ _ (mkF m 176 #[.val (.int sel), .val (.int a), .val (.int b), .val (.int c_), .val (.int x_), .val (.int (1 : Int32)), .val (.int pk), .val (.int item), .val (.ref b2), .val (.ref b27), .val (.int (0 : Int32)), .unset, .unset] [(.ref b36), (.ref b36)])
        refine own_via ?_ fun _ kt => XS.iconst X36.here hx rfl (hb hby at_176) kt
        show Go _ _ _ _ _ _ _ _ (mkF m 177 #[.val (.int sel), .val (.int a), .val (.int b), .val (.int c_), .val (.int x_), .val (.int (1 : Int32)), .val (.int pk), .val (.int item), .val (.ref b2), .val (.ref b27), .val (.int (0 : Int32)), .unset, .unset] [(.int (0 : Int32)), (.ref b36), (.ref b36)])
        refine own_via ?_ fun _ kt => XS.iloadN X36.here hx rfl (hb hby at_177) rfl kt
        show Go _ _ _ _ _ _ _ _ (mkF m 178 #[.val (.int sel), .val (.int a), .val (.int b), .val (.int c_), .val (.int x_), .val (.int (1 : Int32)), .val (.int pk), .val (.int item), .val (.ref b2), .val (.ref b27), .val (.int (0 : Int32)), .unset, .unset] [(.int a), (.int (0 : Int32)), (.ref b36), (.ref b36)])
        obtain ⟨cl40, Ar40, Aq40, AS40, AN40, AH40, AG40⟩ := V36
        have hin41 : ¬ ((0 : Int32) < 0 ∨ cl40.slots.size ≤ ((0 : Int32)).toNatClampNeg) := (inb_of AS40 ⟨by decide, by decide⟩)
        obtain ⟨T41, h41, X41, e41, W41, st41⟩ := stI X36 hx hZ e36 Ar40 (j := (0 : Int32)) hin41 (g := (mkF m 178 #[.val (.int sel), .val (.int a), .val (.int b), .val (.int c_), .val (.int x_), .val (.int (1 : Int32)), .val (.int pk), .val (.int item), .val (.ref b2), .val (.ref b27), .val (.int (0 : Int32)), .unset, .unset] [(.int a), (.int (0 : Int32)), (.ref b36), (.ref b36)])) rfl rfl (hb hby at_178)
        have N41 := Fr.snoc X41 N35 g_b36
        have V41 : Arv Z h41 b36 k36 .int (3 : Int32) [(.int a), (.int (0 : Int32)), (.int (0 : Int32))] (.int (0 : Int32)) := Arv.set Ar40 Aq40 AS40 AN40 AH40 AG40 rfl W41 0 rfl (Nat.le_of_ble_eq_true rfl)
        replace p26_E := p26_E.wr W41
        replace p26_Fs := p26_Fs.other W41 (Or.inl ne37)
        replace p26_Fi := p26_Fi.other W41 (Or.inl ne37)
        replace p26_V := p26_V.other W41 ne38
        replace V35 := V35.other W41 ne39
        replace Z0 := Nat.le_trans Z0 (Keep.of_wr W41).1
        replace O := O.wr W41 g_b36
        refine own_via ?_ st41
        show Go _ _ _ _ _ _ _ _ (mkF m 179 #[.val (.int sel), .val (.int a), .val (.int b), .val (.int c_), .val (.int x_), .val (.int (1 : Int32)), .val (.int pk), .val (.int item), .val (.ref b2), .val (.ref b27), .val (.int (0 : Int32)), .unset, .unset] [(.ref b36)])
        refine own_via ?_ fun _ kt => XS.dup X41.here hx rfl (hb hby at_179) rfl rfl kt
        show Go _ _ _ _ _ _ _ _ (mkF m 180 #[.val (.int sel), .val (.int a), .val (.int b), .val (.int c_), .val (.int x_), .val (.int (1 : Int32)), .val (.int pk), .val (.int item), .val (.ref b2), .val (.ref b27), .val (.int (0 : Int32)), .unset, .unset] [(.ref b36), (.ref b36)])
        refine own_via ?_ fun _ kt => XS.iconst X41.here hx rfl (hb hby at_180) kt
        show Go _ _ _ _ _ _ _ _ (mkF m 181 #[.val (.int sel), .val (.int a), .val (.int b), .val (.int c_), .val (.int x_), .val (.int (1 : Int32)), .val (.int pk), .val (.int item), .val (.ref b2), .val (.ref b27), .val (.int (0 : Int32)), .unset, .unset] [(.int (1 : Int32)), (.ref b36), (.ref b36)])
        refine own_via ?_ fun _ kt => XS.iloadN X41.here hx rfl (hb hby at_181) rfl kt
        show Go _ _ _ _ _ _ _ _ (mkF m 182 #[.val (.int sel), .val (.int a), .val (.int b), .val (.int c_), .val (.int x_), .val (.int (1 : Int32)), .val (.int pk), .val (.int item), .val (.ref b2), .val (.ref b27), .val (.int (0 : Int32)), .unset, .unset] [(.int b), (.int (1 : Int32)), (.ref b36), (.ref b36)])
        obtain ⟨cl42, Ar42, Aq42, AS42, AN42, AH42, AG42⟩ := V41
        have hin43 : ¬ ((1 : Int32) < 0 ∨ cl42.slots.size ≤ ((1 : Int32)).toNatClampNeg) := (inb_of AS42 ⟨by decide, by decide⟩)
        obtain ⟨T43, h43, X43, e43, W43, st43⟩ := stI X41 hx hZ e41 Ar42 (j := (1 : Int32)) hin43 (g := (mkF m 182 #[.val (.int sel), .val (.int a), .val (.int b), .val (.int c_), .val (.int x_), .val (.int (1 : Int32)), .val (.int pk), .val (.int item), .val (.ref b2), .val (.ref b27), .val (.int (0 : Int32)), .unset, .unset] [(.int b), (.int (1 : Int32)), (.ref b36), (.ref b36)])) rfl rfl (hb hby at_182)
        have N43 := Fr.snoc X43 N41 g_b36
        have V43 : Arv Z h43 b36 k36 .int (3 : Int32) [(.int a), (.int b), (.int (0 : Int32))] (.int (0 : Int32)) := Arv.set Ar42 Aq42 AS42 AN42 AH42 AG42 rfl W43 1 rfl (Nat.le_of_ble_eq_true rfl)
        replace p26_E := p26_E.wr W43
        replace p26_Fs := p26_Fs.other W43 (Or.inl ne37)
        replace p26_Fi := p26_Fi.other W43 (Or.inl ne37)
        replace p26_V := p26_V.other W43 ne38
        replace V35 := V35.other W43 ne39
        replace Z0 := Nat.le_trans Z0 (Keep.of_wr W43).1
        replace O := O.wr W43 g_b36
        refine own_via ?_ st43
        show Go _ _ _ _ _ _ _ _ (mkF m 183 #[.val (.int sel), .val (.int a), .val (.int b), .val (.int c_), .val (.int x_), .val (.int (1 : Int32)), .val (.int pk), .val (.int item), .val (.ref b2), .val (.ref b27), .val (.int (0 : Int32)), .unset, .unset] [(.ref b36)])
        refine own_via ?_ fun _ kt => XS.dup X43.here hx rfl (hb hby at_183) rfl rfl kt
        show Go _ _ _ _ _ _ _ _ (mkF m 184 #[.val (.int sel), .val (.int a), .val (.int b), .val (.int c_), .val (.int x_), .val (.int (1 : Int32)), .val (.int pk), .val (.int item), .val (.ref b2), .val (.ref b27), .val (.int (0 : Int32)), .unset, .unset] [(.ref b36), (.ref b36)])
        refine own_via ?_ fun _ kt => XS.iconst X43.here hx rfl (hb hby at_184) kt
        show Go _ _ _ _ _ _ _ _ (mkF m 185 #[.val (.int sel), .val (.int a), .val (.int b), .val (.int c_), .val (.int x_), .val (.int (1 : Int32)), .val (.int pk), .val (.int item), .val (.ref b2), .val (.ref b27), .val (.int (0 : Int32)), .unset, .unset] [(.int (2 : Int32)), (.ref b36), (.ref b36)])
        refine own_via ?_ fun _ kt => XS.iloadN X43.here hx rfl (hb hby at_185) rfl kt
        show Go _ _ _ _ _ _ _ _ (mkF m 186 #[.val (.int sel), .val (.int a), .val (.int b), .val (.int c_), .val (.int x_), .val (.int (1 : Int32)), .val (.int pk), .val (.int item), .val (.ref b2), .val (.ref b27), .val (.int (0 : Int32)), .unset, .unset] [(.int c_), (.int (2 : Int32)), (.ref b36), (.ref b36)])
        obtain ⟨cl44, Ar44, Aq44, AS44, AN44, AH44, AG44⟩ := V43
        have hin45 : ¬ ((2 : Int32) < 0 ∨ cl44.slots.size ≤ ((2 : Int32)).toNatClampNeg) := (inb_of AS44 ⟨by decide, by decide⟩)
        obtain ⟨T45, h45, X45, e45, W45, st45⟩ := stI X43 hx hZ e43 Ar44 (j := (2 : Int32)) hin45 (g := (mkF m 186 #[.val (.int sel), .val (.int a), .val (.int b), .val (.int c_), .val (.int x_), .val (.int (1 : Int32)), .val (.int pk), .val (.int item), .val (.ref b2), .val (.ref b27), .val (.int (0 : Int32)), .unset, .unset] [(.int c_), (.int (2 : Int32)), (.ref b36), (.ref b36)])) rfl rfl (hb hby at_186)
        have N45 := Fr.snoc X45 N43 g_b36
        have V45 : Arv Z h45 b36 k36 .int (3 : Int32) [(.int a), (.int b), (.int c_)] (.int (0 : Int32)) := Arv.set Ar44 Aq44 AS44 AN44 AH44 AG44 rfl W45 2 rfl (Nat.le_of_ble_eq_true rfl)
        replace p26_E := p26_E.wr W45
        replace p26_Fs := p26_Fs.other W45 (Or.inl ne37)
        replace p26_Fi := p26_Fi.other W45 (Or.inl ne37)
        replace p26_V := p26_V.other W45 ne38
        replace V35 := V35.other W45 ne39
        replace Z0 := Nat.le_trans Z0 (Keep.of_wr W45).1
        replace O := O.wr W45 g_b36
        refine own_via ?_ st45
        show Go _ _ _ _ _ _ _ _ (mkF m 187 #[.val (.int sel), .val (.int a), .val (.int b), .val (.int c_), .val (.int x_), .val (.int (1 : Int32)), .val (.int pk), .val (.int item), .val (.ref b2), .val (.ref b27), .val (.int (0 : Int32)), .unset, .unset] [(.ref b36)])
        refine own_via ?_ fun _ kt => XS.astore X45.here hx rfl (hb hby at_187) rfl rfl (l' := #[.val (.int sel), .val (.int a), .val (.int b), .val (.int c_), .val (.int x_), .val (.int (1 : Int32)), .val (.int pk), .val (.int item), .val (.ref b2), .val (.ref b27), .val (.int (0 : Int32)), .val (.ref b36), .unset]) rfl kt
        show Go _ _ _ _ _ _ _ _ (mkF m 189 #[.val (.int sel), .val (.int a), .val (.int b), .val (.int c_), .val (.int x_), .val (.int (1 : Int32)), .val (.int pk), .val (.int item), .val (.ref b2), .val (.ref b27), .val (.int (0 : Int32)), .val (.ref b36), .unset] [])
        refine own_via ?_ fun _ kt => XS.iload X45.here hx rfl (hb hby at_189) rfl kt
        show Go _ _ _ _ _ _ _ _ (mkF m 191 #[.val (.int sel), .val (.int a), .val (.int b), .val (.int c_), .val (.int x_), .val (.int (1 : Int32)), .val (.int pk), .val (.int item), .val (.ref b2), .val (.ref b27), .val (.int (0 : Int32)), .val (.ref b36), .unset] [(.int (1 : Int32))])
        refine own_via ?_ fun _ kt => XS.istore X45.here hx rfl (hb hby at_191) rfl (l' := #[.val (.int sel), .val (.int a), .val (.int b), .val (.int c_), .val (.int x_), .val (.int (1 : Int32)), .val (.int pk), .val (.int item), .val (.ref b2), .val (.ref b27), .val (.int (0 : Int32)), .val (.ref b36), .val (.int (1 : Int32))]) rfl kt
        show Go _ _ _ _ _ _ _ _ (mkF m 193 #[.val (.int sel), .val (.int a), .val (.int b), .val (.int c_), .val (.int x_), .val (.int (1 : Int32)), .val (.int pk), .val (.int item), .val (.ref b2), .val (.ref b27), .val (.int (0 : Int32)), .val (.ref b36), .val (.int (1 : Int32))] [])
        refine own_via ?_ fun _ kt => XS.iload X45.here hx rfl (hb hby at_193) rfl kt
        show Go _ _ _ _ _ _ _ _ (mkF m 195 #[.val (.int sel), .val (.int a), .val (.int b), .val (.int c_), .val (.int x_), .val (.int (1 : Int32)), .val (.int pk), .val (.int item), .val (.ref b2), .val (.ref b27), .val (.int (0 : Int32)), .val (.ref b36), .val (.int (1 : Int32))] [(.int (0 : Int32))])
        refine own_via ?_ fun _ kt => XS.ifNo X45.here hx rfl (hb hby at_195) rfl ((if0 _ _).trans (flt (by decide : ¬ ((0 : Int32) < (0 : Int32)))).1) kt
        show Go _ _ _ _ _ _ _ _ (mkF m 198 #[.val (.int sel), .val (.int a), .val (.int b), .val (.int c_), .val (.int x_), .val (.int (1 : Int32)), .val (.int pk), .val (.int item), .val (.ref b2), .val (.ref b27), .val (.int (0 : Int32)), .val (.ref b36), .val (.int (1 : Int32))] [])
        refine own_via ?_ fun _ kt => XS.iload X45.here hx rfl (hb hby at_198) rfl kt
        show Go _ _ _ _ _ _ _ _ (mkF m 200 #[.val (.int sel), .val (.int a), .val (.int b), .val (.int c_), .val (.int x_), .val (.int (1 : Int32)), .val (.int pk), .val (.int item), .val (.ref b2), .val (.ref b27), .val (.int (0 : Int32)), .val (.ref b36), .val (.int (1 : Int32))] [(.int (1 : Int32))])
        refine own_via ?_ fun _ kt => XS.iconst X45.here hx rfl (hb hby at_200) kt
        show Go _ _ _ _ _ _ _ _ (mkF m 201 #[.val (.int sel), .val (.int a), .val (.int b), .val (.int c_), .val (.int x_), .val (.int (1 : Int32)), .val (.int pk), .val (.int item), .val (.ref b2), .val (.ref b27), .val (.int (0 : Int32)), .val (.ref b36), .val (.int (1 : Int32))] [(.int (1 : Int32)), (.int (1 : Int32))])
        refine own_via ?_ fun _ kt => XS.isub X45.here hx rfl (hb hby at_201) rfl kt
        show Go _ _ _ _ _ _ _ _ (mkF m 202 #[.val (.int sel), .val (.int a), .val (.int b), .val (.int c_), .val (.int x_), .val (.int (1 : Int32)), .val (.int pk), .val (.int item), .val (.ref b2), .val (.ref b27), .val (.int (0 : Int32)), .val (.ref b36), .val (.int (1 : Int32))] [(.int ((1 : Int32) - (1 : Int32)))])
        rw [show ((1 : Int32) - (1 : Int32)) = (0 : Int32) from by decide]
        show Go _ _ _ _ _ _ _ _ (mkF m 202 #[.val (.int sel), .val (.int a), .val (.int b), .val (.int c_), .val (.int x_), .val (.int (1 : Int32)), .val (.int pk), .val (.int item), .val (.ref b2), .val (.ref b27), .val (.int (0 : Int32)), .val (.ref b36), .val (.int (1 : Int32))] [(.int (0 : Int32))])
        refine own_via ?_ fun _ kt => XS.istore X45.here hx rfl (hb hby at_202) rfl (l' := #[.val (.int sel), .val (.int a), .val (.int b), .val (.int c_), .val (.int x_), .val (.int (1 : Int32)), .val (.int pk), .val (.int item), .val (.ref b2), .val (.ref b27), .val (.int (0 : Int32)), .val (.ref b36), .val (.int (0 : Int32))]) rfl kt
        show Go _ _ _ _ _ _ _ _ (mkF m 204 #[.val (.int sel), .val (.int a), .val (.int b), .val (.int c_), .val (.int x_), .val (.int (1 : Int32)), .val (.int pk), .val (.int item), .val (.ref b2), .val (.ref b27), .val (.int (0 : Int32)), .val (.ref b36), .val (.int (0 : Int32))] [])
        refine own_via ?_ fun _ kt => XS.aload X45.here hx rfl (hb hby at_204) rfl rfl kt
        show Go _ _ _ _ _ _ _ _ (mkF m 206 #[.val (.int sel), .val (.int a), .val (.int b), .val (.int c_), .val (.int x_), .val (.int (1 : Int32)), .val (.int pk), .val (.int item), .val (.ref b2), .val (.ref b27), .val (.int (0 : Int32)), .val (.ref b36), .val (.int (0 : Int32))] [(.ref b36)])
        refine own_via ?_ fun _ kt => XS.iload X45.here hx rfl (hb hby at_206) rfl kt
        show Go _ _ _ _ _ _ _ _ (mkF m 208 #[.val (.int sel), .val (.int a), .val (.int b), .val (.int c_), .val (.int x_), .val (.int (1 : Int32)), .val (.int pk), .val (.int item), .val (.ref b2), .val (.ref b27), .val (.int (0 : Int32)), .val (.ref b36), .val (.int (0 : Int32))] [(.int (0 : Int32)), (.ref b36)])
        refine own_via ?_ fun _ kt => XS.aload X45.here hx rfl (hb hby at_208) rfl rfl kt
        show Go _ _ _ _ _ _ _ _ (mkF m 210 #[.val (.int sel), .val (.int a), .val (.int b), .val (.int c_), .val (.int x_), .val (.int (1 : Int32)), .val (.int pk), .val (.int item), .val (.ref b2), .val (.ref b27), .val (.int (0 : Int32)), .val (.ref b36), .val (.int (0 : Int32))] [(.ref b27), (.int (0 : Int32)), (.ref b36)])
        refine own_via ?_ fun _ kt => XS.iload X45.here hx rfl (hb hby at_210) rfl kt
        show Go _ _ _ _ _ _ _ _ (mkF m 212 #[.val (.int sel), .val (.int a), .val (.int b), .val (.int c_), .val (.int x_), .val (.int (1 : Int32)), .val (.int pk), .val (.int item), .val (.ref b2), .val (.ref b27), .val (.int (0 : Int32)), .val (.ref b36), .val (.int (0 : Int32))] [(.int (1 : Int32)), (.ref b27), (.int (0 : Int32)), (.ref b36)])
        refine own_via ?_ fun _ kt => XS.iconst X45.here hx rfl (hb hby at_212) kt
        show Go _ _ _ _ _ _ _ _ (mkF m 213 #[.val (.int sel), .val (.int a), .val (.int b), .val (.int c_), .val (.int x_), .val (.int (1 : Int32)), .val (.int pk), .val (.int item), .val (.ref b2), .val (.ref b27), .val (.int (0 : Int32)), .val (.ref b36), .val (.int (0 : Int32))] [(.int (1 : Int32)), (.int (1 : Int32)), (.ref b27), (.int (0 : Int32)), (.ref b36)])
        refine own_via ?_ fun _ kt => XS.isub X45.here hx rfl (hb hby at_213) rfl kt
        show Go _ _ _ _ _ _ _ _ (mkF m 214 #[.val (.int sel), .val (.int a), .val (.int b), .val (.int c_), .val (.int x_), .val (.int (1 : Int32)), .val (.int pk), .val (.int item), .val (.ref b2), .val (.ref b27), .val (.int (0 : Int32)), .val (.ref b36), .val (.int (0 : Int32))] [(.int ((1 : Int32) - (1 : Int32))), (.ref b27), (.int (0 : Int32)), (.ref b36)])
        rw [show ((1 : Int32) - (1 : Int32)) = (0 : Int32) from by decide]
        show Go _ _ _ _ _ _ _ _ (mkF m 214 #[.val (.int sel), .val (.int a), .val (.int b), .val (.int c_), .val (.int x_), .val (.int (1 : Int32)), .val (.int pk), .val (.int item), .val (.ref b2), .val (.ref b27), .val (.int (0 : Int32)), .val (.ref b36), .val (.int (0 : Int32))] [(.int (0 : Int32)), (.ref b27), (.int (0 : Int32)), (.ref b36)])
        obtain ⟨cl46, Ar46, Aq46, AS46, AN46, AH46, AG46⟩ := V35
        have V35 : Arv Z h45 b27 k27 .int (3 : Int32) [(.int a), (.int b), (.int c_)] (.int (0 : Int32)) := ⟨cl46, Ar46, Aq46, AS46, AN46, AH46, AG46⟩
        have hin47 : ¬ ((0 : Int32) < 0 ∨ cl46.slots.size ≤ ((0 : Int32)).toNatClampNeg) := (inb_of AS46 ⟨by decide, by decide⟩)
        have hat47 : cl46.slots[((0 : Int32)).toNatClampNeg]? = some (.int a) := (AH46.at hin47 rfl)
        refine own_via ?_ fun _ kt => X45.iaload hx (j := (0 : Int32)) (v := (.int a)) (by rw [e45]; exact Ar46.1) (State.isArrayOf_alike hZ.alike Ar46.2.1) Ar46.2.2 hin47 hat47 (g := (mkF m 214 #[.val (.int sel), .val (.int a), .val (.int b), .val (.int c_), .val (.int x_), .val (.int (1 : Int32)), .val (.int pk), .val (.int item), .val (.ref b2), .val (.ref b27), .val (.int (0 : Int32)), .val (.ref b36), .val (.int (0 : Int32))] [(.int (0 : Int32)), (.ref b27), (.int (0 : Int32)), (.ref b36)])) rfl rfl (hb hby at_214) _ kt
        show Go _ _ _ _ _ _ _ _ (mkF m 215 #[.val (.int sel), .val (.int a), .val (.int b), .val (.int c_), .val (.int x_), .val (.int (1 : Int32)), .val (.int pk), .val (.int item), .val (.ref b2), .val (.ref b27), .val (.int (0 : Int32)), .val (.ref b36), .val (.int (0 : Int32))] [(.int a), (.int (0 : Int32)), (.ref b36)])
        obtain ⟨cl48, Ar48, Aq48, AS48, AN48, AH48, AG48⟩ := V45
        have hin49 : ¬ ((0 : Int32) < 0 ∨ cl48.slots.size ≤ ((0 : Int32)).toNatClampNeg) := (inb_of AS48 ⟨by decide, by decide⟩)
        obtain ⟨T49, h49, X49, e49, W49, st49⟩ := stI X45 hx hZ e45 Ar48 (j := (0 : Int32)) hin49 (g := (mkF m 215 #[.val (.int sel), .val (.int a), .val (.int b), .val (.int c_), .val (.int x_), .val (.int (1 : Int32)), .val (.int pk), .val (.int item), .val (.ref b2), .val (.ref b27), .val (.int (0 : Int32)), .val (.ref b36), .val (.int (0 : Int32))] [(.int a), (.int (0 : Int32)), (.ref b36)])) rfl rfl (hb hby at_215)
        have N49 := Fr.snoc X49 N45 g_b36
        have V49 : Arv Z h49 b36 k36 .int (3 : Int32) [(.int a), (.int b), (.int c_)] (.int (0 : Int32)) := Arv.set Ar48 Aq48 AS48 AN48 AH48 AG48 rfl W49 0 rfl (Nat.le_of_ble_eq_true rfl)
        replace p26_E := p26_E.wr W49
        replace p26_Fs := p26_Fs.other W49 (Or.inl ne37)
        replace p26_Fi := p26_Fi.other W49 (Or.inl ne37)
        replace p26_V := p26_V.other W49 ne38
        replace V35 := V35.other W49 ne39
        replace Z0 := Nat.le_trans Z0 (Keep.of_wr W49).1
        replace O := O.wr W49 g_b36
        refine own_via ?_ st49
        show Go _ _ _ _ _ _ _ _ (mkF m 216 #[.val (.int sel), .val (.int a), .val (.int b), .val (.int c_), .val (.int x_), .val (.int (1 : Int32)), .val (.int pk), .val (.int item), .val (.ref b2), .val (.ref b27), .val (.int (0 : Int32)), .val (.ref b36), .val (.int (0 : Int32))] [])
        refine own_via ?_ fun _ kt => XS.aload X49.here hx rfl (hb hby at_216) rfl rfl kt
        show Go _ _ _ _ _ _ _ _ (mkF m 218 #[.val (.int sel), .val (.int a), .val (.int b), .val (.int c_), .val (.int x_), .val (.int (1 : Int32)), .val (.int pk), .val (.int item), .val (.ref b2), .val (.ref b27), .val (.int (0 : Int32)), .val (.ref b36), .val (.int (0 : Int32))] [(.ref b2)])
        obtain ⟨T50, X50, e50, st50⟩ := getF X49 hx hZ hown (host := "") (Or.inl (hw _ (List.mem_of_getElem? (i := 21) rfl))) Via.refl e49 p26_Fs (g := (mkF m 218 #[.val (.int sel), .val (.int a), .val (.int b), .val (.int c_), .val (.int x_), .val (.int (1 : Int32)), .val (.int pk), .val (.int item), .val (.ref b2), .val (.ref b27), .val (.int (0 : Int32)), .val (.ref b36), .val (.int (0 : Int32))] [(.ref b2)])) rfl rfl (hb hby at_218)
        refine own_via ?_ st50
        show Go _ _ _ _ _ _ _ _ (mkF m 221 #[.val (.int sel), .val (.int a), .val (.int b), .val (.int c_), .val (.int x_), .val (.int (1 : Int32)), .val (.int pk), .val (.int item), .val (.ref b2), .val (.ref b27), .val (.int (0 : Int32)), .val (.ref b36), .val (.int (0 : Int32))] [(.int (0 : Int32))])
        refine own_via ?_ fun _ kt => XS.iload X50.here hx rfl (hb hby at_221) rfl kt
        show Go _ _ _ _ _ _ _ _ (mkF m 223 #[.val (.int sel), .val (.int a), .val (.int b), .val (.int c_), .val (.int x_), .val (.int (1 : Int32)), .val (.int pk), .val (.int item), .val (.ref b2), .val (.ref b27), .val (.int (0 : Int32)), .val (.ref b36), .val (.int (0 : Int32))] [(.int (0 : Int32)), (.int (0 : Int32))])
        refine own_via ?_ fun _ kt => XS.icmpYes X50.here hx rfl (pc0 := 223) (pc' := 228) rfl (hb hby at_223) rfl (teq rfl).1 (by decide) (by decide) kt
        show Go _ _ _ _ _ _ _ _ (mkF m 228 #[.val (.int sel), .val (.int a), .val (.int b), .val (.int c_), .val (.int x_), .val (.int (1 : Int32)), .val (.int pk), .val (.int item), .val (.ref b2), .val (.ref b27), .val (.int (0 : Int32)), .val (.ref b36), .val (.int (0 : Int32))] [])
        refine own_via ?_ fun _ kt => XS.aload X50.here hx rfl (hb hby at_228) rfl rfl kt
        show Go _ _ _ _ _ _ _ _ (mkF m 230 #[.val (.int sel), .val (.int a), .val (.int b), .val (.int c_), .val (.int x_), .val (.int (1 : Int32)), .val (.int pk), .val (.int item), .val (.ref b2), .val (.ref b27), .val (.int (0 : Int32)), .val (.ref b36), .val (.int (0 : Int32))] [(.ref b2)])
        obtain ⟨T51, X51, e51, st51⟩ := getF X50 hx hZ hown (host := "") (Or.inl (hw _ (List.mem_of_getElem? (i := 22) rfl))) Via.refl e50 p26_Fi (g := (mkF m 230 #[.val (.int sel), .val (.int a), .val (.int b), .val (.int c_), .val (.int x_), .val (.int (1 : Int32)), .val (.int pk), .val (.int item), .val (.ref b2), .val (.ref b27), .val (.int (0 : Int32)), .val (.ref b36), .val (.int (0 : Int32))] [(.ref b2)])) rfl rfl (hb hby at_230)
        refine own_via ?_ st51
        show Go _ _ _ _ _ _ _ _ (mkF m 233 #[.val (.int sel), .val (.int a), .val (.int b), .val (.int c_), .val (.int x_), .val (.int (1 : Int32)), .val (.int pk), .val (.int item), .val (.ref b2), .val (.ref b27), .val (.int (0 : Int32)), .val (.ref b36), .val (.int (0 : Int32))] [(.ref ba)])
        obtain ⟨cl52, Ar52, Aq52, AS52, AN52, AH52, AG52⟩ := p26_V
        have p26_V : Arv Z h49 ba ka .int (4 : Int32) [(.int a), (.int (0 : Int32)), (.int (0 : Int32)), (.int (0 : Int32))] (.int (0 : Int32)) := ⟨cl52, Ar52, Aq52, AS52, AN52, AH52, AG52⟩
        refine own_via ?_ fun _ kt => X51.arraylength hx (by rw [e51]; exact Ar52.1) (State.isArrayOf_alike hZ.alike Ar52.2.1) (g := (mkF m 233 #[.val (.int sel), .val (.int a), .val (.int b), .val (.int c_), .val (.int x_), .val (.int (1 : Int32)), .val (.int pk), .val (.int item), .val (.ref b2), .val (.ref b27), .val (.int (0 : Int32)), .val (.ref b36), .val (.int (0 : Int32))] [(.ref ba)])) rfl rfl (hb hby at_233) _ kt
        rw [len_of AS52 AN52]
        show Go _ _ _ _ _ _ _ _ (mkF m 234 #[.val (.int sel), .val (.int a), .val (.int b), .val (.int c_), .val (.int x_), .val (.int (1 : Int32)), .val (.int pk), .val (.int item), .val (.ref b2), .val (.ref b27), .val (.int (0 : Int32)), .val (.ref b36), .val (.int (0 : Int32))] [(.int (4 : Int32))])
        refine own_via ?_ fun _ kt => XS.iload X51.here hx rfl (hb hby at_234) rfl kt
        show Go _ _ _ _ _ _ _ _ (mkF m 236 #[.val (.int sel), .val (.int a), .val (.int b), .val (.int c_), .val (.int x_), .val (.int (1 : Int32)), .val (.int pk), .val (.int item), .val (.ref b2), .val (.ref b27), .val (.int (0 : Int32)), .val (.ref b36), .val (.int (0 : Int32))] [(.int (0 : Int32)), (.int (4 : Int32))])
        refine own_via ?_ fun _ kt => XS.icmpYes X51.here hx rfl (pc0 := 236) (pc' := 241) rfl (hb hby at_236) rfl (flt (by decide : ¬ ((4 : Int32) < (0 : Int32)))).2.1 (by decide) (by decide) kt
        show Go _ _ _ _ _ _ _ _ (mkF m 241 #[.val (.int sel), .val (.int a), .val (.int b), .val (.int c_), .val (.int x_), .val (.int (1 : Int32)), .val (.int pk), .val (.int item), .val (.ref b2), .val (.ref b27), .val (.int (0 : Int32)), .val (.ref b36), .val (.int (0 : Int32))] [])
        refine own_via ?_ fun _ kt => XS.iload X51.here hx rfl (hb hby at_241) rfl kt
        show Go _ _ _ _ _ _ _ _ (mkF m 243 #[.val (.int sel), .val (.int a), .val (.int b), .val (.int c_), .val (.int x_), .val (.int (1 : Int32)), .val (.int pk), .val (.int item), .val (.ref b2), .val (.ref b27), .val (.int (0 : Int32)), .val (.ref b36), .val (.int (0 : Int32))] [(.int (0 : Int32))])
        refine own_via ?_ fun _ kt => XS.ifYes X51.here hx rfl (pc0 := 243) (pc' := 262) rfl (hb hby at_243) rfl ((if0 _ _).trans (flt (by decide : ¬ ((0 : Int32) < (0 : Int32)))).2.2.2) (by decide) (by decide) kt
        show Go _ _ _ _ _ _ _ _ (mkF m 262 #[.val (.int sel), .val (.int a), .val (.int b), .val (.int c_), .val (.int x_), .val (.int (1 : Int32)), .val (.int pk), .val (.int item), .val (.ref b2), .val (.ref b27), .val (.int (0 : Int32)), .val (.ref b36), .val (.int (0 : Int32))] [])
        refine own_via ?_ fun _ kt => XS.iload X51.here hx rfl (hb hby at_262) rfl kt
        show Go _ _ _ _ _ _ _ _ (mkF m 264 #[.val (.int sel), .val (.int a), .val (.int b), .val (.int c_), .val (.int x_), .val (.int (1 : Int32)), .val (.int pk), .val (.int item), .val (.ref b2), .val (.ref b27), .val (.int (0 : Int32)), .val (.ref b36), .val (.int (0 : Int32))] [(.int (0 : Int32))])
        refine own_via ?_ fun _ kt => XS.iconst X51.here hx rfl (hb hby at_264) kt
        show Go _ _ _ _ _ _ _ _ (mkF m 265 #[.val (.int sel), .val (.int a), .val (.int b), .val (.int c_), .val (.int x_), .val (.int (1 : Int32)), .val (.int pk), .val (.int item), .val (.ref b2), .val (.ref b27), .val (.int (0 : Int32)), .val (.ref b36), .val (.int (0 : Int32))] [(.int (1 : Int32)), (.int (0 : Int32))])
        refine own_via ?_ fun _ kt => XS.icmpYes X51.here hx rfl (pc0 := 265) (pc' := 284) rfl (hb hby at_265) rfl (flt (by decide : ¬ ((1 : Int32) < (0 : Int32)))).2.2.2 (by decide) (by decide) kt
        show Go _ _ _ _ _ _ _ _ (mkF m 284 #[.val (.int sel), .val (.int a), .val (.int b), .val (.int c_), .val (.int x_), .val (.int (1 : Int32)), .val (.int pk), .val (.int item), .val (.ref b2), .val (.ref b27), .val (.int (0 : Int32)), .val (.ref b36), .val (.int (0 : Int32))] [])
        refine own_via ?_ fun _ kt => XS.iload X51.here hx rfl (hb hby at_284) rfl kt
        show Go _ _ _ _ _ _ _ _ (mkF m 286 #[.val (.int sel), .val (.int a), .val (.int b), .val (.int c_), .val (.int x_), .val (.int (1 : Int32)), .val (.int pk), .val (.int item), .val (.ref b2), .val (.ref b27), .val (.int (0 : Int32)), .val (.ref b36), .val (.int (0 : Int32))] [(.int (0 : Int32))])
        refine own_via ?_ fun _ kt => XS.iconst X51.here hx rfl (hb hby at_286) kt
        show Go _ _ _ _ _ _ _ _ (mkF m 287 #[.val (.int sel), .val (.int a), .val (.int b), .val (.int c_), .val (.int x_), .val (.int (1 : Int32)), .val (.int pk), .val (.int item), .val (.ref b2), .val (.ref b27), .val (.int (0 : Int32)), .val (.ref b36), .val (.int (0 : Int32))] [(.int (2 : Int32)), (.int (0 : Int32))])
        refine own_via ?_ fun _ kt => XS.icmpYes X51.here hx rfl (pc0 := 287) (pc' := 306) rfl (hb hby at_287) rfl (flt (by decide : ¬ ((2 : Int32) < (0 : Int32)))).2.2.2 (by decide) (by decide) kt
        show Go _ _ _ _ _ _ _ _ (mkF m 306 #[.val (.int sel), .val (.int a), .val (.int b), .val (.int c_), .val (.int x_), .val (.int (1 : Int32)), .val (.int pk), .val (.int item), .val (.ref b2), .val (.ref b27), .val (.int (0 : Int32)), .val (.ref b36), .val (.int (0 : Int32))] [])
        refine own_via ?_ fun _ kt => XS.iconst X51.here hx rfl (hb hby at_306) kt
        show Go _ _ _ _ _ _ _ _ (mkF m 307 #[.val (.int sel), .val (.int a), .val (.int b), .val (.int c_), .val (.int x_), .val (.int (1 : Int32)), .val (.int pk), .val (.int item), .val (.ref b2), .val (.ref b27), .val (.int (0 : Int32)), .val (.ref b36), .val (.int (0 : Int32))] [(.int (1 : Int32))])
        exact own_retZ (z' := (1 : Int32)) X51 hx hret hlk (hb hby at_307) rfl (by decide) (by decide) (by rw [e51]; exact ⟨rfl, N49⟩)
      · skip
        show Go _ _ _ _ _ _ _ _ (mkF m 102 #[.val (.int sel), .val (.int a), .val (.int b), .val (.int c_), .val (.int x_), .val (.int (1 : Int32)), .val (.int pk), .val (.int item), .val (.ref b2), .unset, .unset, .unset, .unset] [])
        refine own_via ?_ fun _ kt => XS.iconst X26.here hx rfl (hb hby at_102) kt
        show Go _ _ _ _ _ _ _ _ (mkF m 103 #[.val (.int sel), .val (.int a), .val (.int b), .val (.int c_), .val (.int x_), .val (.int (1 : Int32)), .val (.int pk), .val (.int item), .val (.ref b2), .unset, .unset, .unset, .unset] [(.int (3 : Int32))])
        obtain ⟨T53, h53, k53, X53, e53, E53, A53, st53⟩ := newP X26 hx hZ (hw _ (List.mem_of_getElem? (i := 20) rfl)) e26 (g := (mkF m 103 #[.val (.int sel), .val (.int a), .val (.int b), .val (.int c_), .val (.int x_), .val (.int (1 : Int32)), .val (.int pk), .val (.int item), .val (.ref b2), .unset, .unset, .unset, .unset] [(.int (3 : Int32))])) rfl (hb hby at_103) rfl (by decide) (cap := 3) (by decide) (by decide) (by decide) (by decide)
        obtain ⟨b53, g53⟩ : ∃ z, z = h26.size := ⟨_, rfl⟩
        rw [← g53] at A53 st53
        have ne54 : b2 ≠ b53 := by rw [g53]; exact Nat.ne_of_lt p26_E.lt
        have ne55 : ba ≠ b53 := by rw [g53]; exact Nat.ne_of_lt p26_V.lt
        have g_b53 : n0 ≤ b53 := by rw [g53]; exact Z0
        replace p26_E := p26_E.ext E53
        replace p26_Fs := p26_Fs.ext E53
        replace p26_Fi := p26_Fi.ext E53
        replace p26_V := p26_V.ext E53
        replace Z0 := Nat.le_trans Z0 E53.1
        replace O := O.ext E53
        have V53 : Arv Z h53 b53 k53 .int (3 : Int32) [(.int (0 : Int32)), (.int (0 : Int32)), (.int (0 : Int32))] (.int (0 : Int32)) := (Arv.new A53 (by decide)).pad (pad_rep [] (.int (0 : Int32)) 3)
        refine own_via ?_ st53
        show Go _ _ _ _ _ _ _ _ (mkF m 105 #[.val (.int sel), .val (.int a), .val (.int b), .val (.int c_), .val (.int x_), .val (.int (1 : Int32)), .val (.int pk), .val (.int item), .val (.ref b2), .unset, .unset, .unset, .unset] [(.ref b53)])
        refine own_via ?_ fun _ kt => XS.dup X53.here hx rfl (hb hby at_105) rfl rfl kt
        show Go _ _ _ _ _ _ _ _ (mkF m 106 #[.val (.int sel), .val (.int a), .val (.int b), .val (.int c_), .val (.int x_), .val (.int (1 : Int32)), .val (.int pk), .val (.int item), .val (.ref b2), .unset, .unset, .unset, .unset] [(.ref b53), (.ref b53)])
        refine own_via ?_ fun _ kt => XS.iconst X53.here hx rfl (hb hby at_106) kt
        show Go _ _ _ _ _ _ _ _ (mkF m 107 #[.val (.int sel), .val (.int a), .val (.int b), .val (.int c_), .val (.int x_), .val (.int (1 : Int32)), .val (.int pk), .val (.int item), .val (.ref b2), .unset, .unset, .unset, .unset] [(.int (0 : Int32)), (.ref b53), (.ref b53)])
        refine own_via ?_ fun _ kt => XS.iloadN X53.here hx rfl (hb hby at_107) rfl kt
        show Go _ _ _ _ _ _ _ _ (mkF m 108 #[.val (.int sel), .val (.int a), .val (.int b), .val (.int c_), .val (.int x_), .val (.int (1 : Int32)), .val (.int pk), .val (.int item), .val (.ref b2), .unset, .unset, .unset, .unset] [(.int a), (.int (0 : Int32)), (.ref b53), (.ref b53)])
        obtain ⟨cl56, Ar56, Aq56, AS56, AN56, AH56, AG56⟩ := V53
        have hin57 : ¬ ((0 : Int32) < 0 ∨ cl56.slots.size ≤ ((0 : Int32)).toNatClampNeg) := (inb_of AS56 ⟨by decide, by decide⟩)
        obtain ⟨T57, h57, X57, e57, W57, st57⟩ := stI X53 hx hZ e53 Ar56 (j := (0 : Int32)) hin57 (g := (mkF m 108 #[.val (.int sel), .val (.int a), .val (.int b), .val (.int c_), .val (.int x_), .val (.int (1 : Int32)), .val (.int pk), .val (.int item), .val (.ref b2), .unset, .unset, .unset, .unset] [(.int a), (.int (0 : Int32)), (.ref b53), (.ref b53)])) rfl rfl (hb hby at_108)
        have N57 := Fr.snoc X57 N26 g_b53
        have V57 : Arv Z h57 b53 k53 .int (3 : Int32) [(.int a), (.int (0 : Int32)), (.int (0 : Int32))] (.int (0 : Int32)) := Arv.set Ar56 Aq56 AS56 AN56 AH56 AG56 rfl W57 0 rfl (Nat.le_of_ble_eq_true rfl)
        replace p26_E := p26_E.wr W57
        replace p26_Fs := p26_Fs.other W57 (Or.inl ne54)
        replace p26_Fi := p26_Fi.other W57 (Or.inl ne54)
        replace p26_V := p26_V.other W57 ne55
        replace Z0 := Nat.le_trans Z0 (Keep.of_wr W57).1
        replace O := O.wr W57 g_b53
        refine own_via ?_ st57
        show Go _ _ _ _ _ _ _ _ (mkF m 109 #[.val (.int sel), .val (.int a), .val (.int b), .val (.int c_), .val (.int x_), .val (.int (1 : Int32)), .val (.int pk), .val (.int item), .val (.ref b2), .unset, .unset, .unset, .unset] [(.ref b53)])
        refine own_via ?_ fun _ kt => XS.dup X57.here hx rfl (hb hby at_109) rfl rfl kt
        show Go _ _ _ _ _ _ _ _ (mkF m 110 #[.val (.int sel), .val (.int a), .val (.int b), .val (.int c_), .val (.int x_), .val (.int (1 : Int32)), .val (.int pk), .val (.int item), .val (.ref b2), .unset, .unset, .unset, .unset] [(.ref b53), (.ref b53)])
        refine own_via ?_ fun _ kt => XS.iconst X57.here hx rfl (hb hby at_110) kt
        show Go _ _ _ _ _ _ _ _ (mkF m 111 #[.val (.int sel), .val (.int a), .val (.int b), .val (.int c_), .val (.int x_), .val (.int (1 : Int32)), .val (.int pk), .val (.int item), .val (.ref b2), .unset, .unset, .unset, .unset] [(.int (1 : Int32)), (.ref b53), (.ref b53)])
        refine own_via ?_ fun _ kt => XS.iloadN X57.here hx rfl (hb hby at_111) rfl kt
        show Go _ _ _ _ _ _ _ _ (mkF m 112 #[.val (.int sel), .val (.int a), .val (.int b), .val (.int c_), .val (.int x_), .val (.int (1 : Int32)), .val (.int pk), .val (.int item), .val (.ref b2), .unset, .unset, .unset, .unset] [(.int b), (.int (1 : Int32)), (.ref b53), (.ref b53)])
        obtain ⟨cl58, Ar58, Aq58, AS58, AN58, AH58, AG58⟩ := V57
        have hin59 : ¬ ((1 : Int32) < 0 ∨ cl58.slots.size ≤ ((1 : Int32)).toNatClampNeg) := (inb_of AS58 ⟨by decide, by decide⟩)
        obtain ⟨T59, h59, X59, e59, W59, st59⟩ := stI X57 hx hZ e57 Ar58 (j := (1 : Int32)) hin59 (g := (mkF m 112 #[.val (.int sel), .val (.int a), .val (.int b), .val (.int c_), .val (.int x_), .val (.int (1 : Int32)), .val (.int pk), .val (.int item), .val (.ref b2), .unset, .unset, .unset, .unset] [(.int b), (.int (1 : Int32)), (.ref b53), (.ref b53)])) rfl rfl (hb hby at_112)
        have N59 := Fr.snoc X59 N57 g_b53
        have V59 : Arv Z h59 b53 k53 .int (3 : Int32) [(.int a), (.int b), (.int (0 : Int32))] (.int (0 : Int32)) := Arv.set Ar58 Aq58 AS58 AN58 AH58 AG58 rfl W59 1 rfl (Nat.le_of_ble_eq_true rfl)
        replace p26_E := p26_E.wr W59
        replace p26_Fs := p26_Fs.other W59 (Or.inl ne54)
        replace p26_Fi := p26_Fi.other W59 (Or.inl ne54)
        replace p26_V := p26_V.other W59 ne55
        replace Z0 := Nat.le_trans Z0 (Keep.of_wr W59).1
        replace O := O.wr W59 g_b53
        refine own_via ?_ st59
        show Go _ _ _ _ _ _ _ _ (mkF m 113 #[.val (.int sel), .val (.int a), .val (.int b), .val (.int c_), .val (.int x_), .val (.int (1 : Int32)), .val (.int pk), .val (.int item), .val (.ref b2), .unset, .unset, .unset, .unset] [(.ref b53)])
        refine own_via ?_ fun _ kt => XS.dup X59.here hx rfl (hb hby at_113) rfl rfl kt
        show Go _ _ _ _ _ _ _ _ (mkF m 114 #[.val (.int sel), .val (.int a), .val (.int b), .val (.int c_), .val (.int x_), .val (.int (1 : Int32)), .val (.int pk), .val (.int item), .val (.ref b2), .unset, .unset, .unset, .unset] [(.ref b53), (.ref b53)])
        refine own_via ?_ fun _ kt => XS.iconst X59.here hx rfl (hb hby at_114) kt
        show Go _ _ _ _ _ _ _ _ (mkF m 115 #[.val (.int sel), .val (.int a), .val (.int b), .val (.int c_), .val (.int x_), .val (.int (1 : Int32)), .val (.int pk), .val (.int item), .val (.ref b2), .unset, .unset, .unset, .unset] [(.int (2 : Int32)), (.ref b53), (.ref b53)])
        refine own_via ?_ fun _ kt => XS.iloadN X59.here hx rfl (hb hby at_115) rfl kt
        show Go _ _ _ _ _ _ _ _ (mkF m 116 #[.val (.int sel), .val (.int a), .val (.int b), .val (.int c_), .val (.int x_), .val (.int (1 : Int32)), .val (.int pk), .val (.int item), .val (.ref b2), .unset, .unset, .unset, .unset] [(.int c_), (.int (2 : Int32)), (.ref b53), (.ref b53)])
        obtain ⟨cl60, Ar60, Aq60, AS60, AN60, AH60, AG60⟩ := V59
        have hin61 : ¬ ((2 : Int32) < 0 ∨ cl60.slots.size ≤ ((2 : Int32)).toNatClampNeg) := (inb_of AS60 ⟨by decide, by decide⟩)
        obtain ⟨T61, h61, X61, e61, W61, st61⟩ := stI X59 hx hZ e59 Ar60 (j := (2 : Int32)) hin61 (g := (mkF m 116 #[.val (.int sel), .val (.int a), .val (.int b), .val (.int c_), .val (.int x_), .val (.int (1 : Int32)), .val (.int pk), .val (.int item), .val (.ref b2), .unset, .unset, .unset, .unset] [(.int c_), (.int (2 : Int32)), (.ref b53), (.ref b53)])) rfl rfl (hb hby at_116)
        have N61 := Fr.snoc X61 N59 g_b53
        have V61 : Arv Z h61 b53 k53 .int (3 : Int32) [(.int a), (.int b), (.int c_)] (.int (0 : Int32)) := Arv.set Ar60 Aq60 AS60 AN60 AH60 AG60 rfl W61 2 rfl (Nat.le_of_ble_eq_true rfl)
        replace p26_E := p26_E.wr W61
        replace p26_Fs := p26_Fs.other W61 (Or.inl ne54)
        replace p26_Fi := p26_Fi.other W61 (Or.inl ne54)
        replace p26_V := p26_V.other W61 ne55
        replace Z0 := Nat.le_trans Z0 (Keep.of_wr W61).1
        replace O := O.wr W61 g_b53
        refine own_via ?_ st61
        show Go _ _ _ _ _ _ _ _ (mkF m 117 #[.val (.int sel), .val (.int a), .val (.int b), .val (.int c_), .val (.int x_), .val (.int (1 : Int32)), .val (.int pk), .val (.int item), .val (.ref b2), .unset, .unset, .unset, .unset] [(.ref b53)])
        refine own_via ?_ fun _ kt => XS.astore X61.here hx rfl (hb hby at_117) rfl rfl (l' := #[.val (.int sel), .val (.int a), .val (.int b), .val (.int c_), .val (.int x_), .val (.int (1 : Int32)), .val (.int pk), .val (.int item), .val (.ref b2), .val (.ref b53), .unset, .unset, .unset]) rfl kt
        show Go _ _ _ _ _ _ _ _ (mkF m 119 #[.val (.int sel), .val (.int a), .val (.int b), .val (.int c_), .val (.int x_), .val (.int (1 : Int32)), .val (.int pk), .val (.int item), .val (.ref b2), .val (.ref b53), .unset, .unset, .unset] [])
        refine own_via ?_ fun _ kt => XS.iconst X61.here hx rfl (hb hby at_119) kt
        show Go _ _ _ _ _ _ _ _ (mkF m 120 #[.val (.int sel), .val (.int a), .val (.int b), .val (.int c_), .val (.int x_), .val (.int (1 : Int32)), .val (.int pk), .val (.int item), .val (.ref b2), .val (.ref b53), .unset, .unset, .unset] [(.int (-1 : Int32))])
        refine own_via ?_ fun _ kt => XS.istore X61.here hx rfl (hb hby at_120) rfl (l' := #[.val (.int sel), .val (.int a), .val (.int b), .val (.int c_), .val (.int x_), .val (.int (1 : Int32)), .val (.int pk), .val (.int item), .val (.ref b2), .val (.ref b53), .val (.int (-1 : Int32)), .unset, .unset]) rfl kt
        show Go _ _ _ _ _ _ _ _ (mkF m 122 #[.val (.int sel), .val (.int a), .val (.int b), .val (.int c_), .val (.int x_), .val (.int (1 : Int32)), .val (.int pk), .val (.int item), .val (.ref b2), .val (.ref b53), .val (.int (-1 : Int32)), .unset, .unset] [])
        refine own_via ?_ fun _ kt => XS.iload X61.here hx rfl (hb hby at_122) rfl kt
        show Go _ _ _ _ _ _ _ _ (mkF m 124 #[.val (.int sel), .val (.int a), .val (.int b), .val (.int c_), .val (.int x_), .val (.int (1 : Int32)), .val (.int pk), .val (.int item), .val (.ref b2), .val (.ref b53), .val (.int (-1 : Int32)), .unset, .unset] [(.int (1 : Int32))])
        refine own_via ?_ fun _ kt => XS.ifNo X61.here hx rfl (hb hby at_124) rfl ((if0 _ _).trans (tlt (by decide : ((0 : Int32) < (1 : Int32)))).2.2.2) kt
        show Go _ _ _ _ _ _ _ _ (mkF m 127 #[.val (.int sel), .val (.int a), .val (.int b), .val (.int c_), .val (.int x_), .val (.int (1 : Int32)), .val (.int pk), .val (.int item), .val (.ref b2), .val (.ref b53), .val (.int (-1 : Int32)), .unset, .unset] [])
        refine own_via ?_ fun _ kt => XS.iloadN X61.here hx rfl (hb hby at_127) rfl kt
        show Go _ _ _ _ _ _ _ _ (mkF m 128 #[.val (.int sel), .val (.int a), .val (.int b), .val (.int c_), .val (.int x_), .val (.int (1 : Int32)), .val (.int pk), .val (.int item), .val (.ref b2), .val (.ref b53), .val (.int (-1 : Int32)), .unset, .unset] [(.int a)])
        refine own_via ?_ fun _ kt => XS.iload X61.here hx rfl (hb hby at_128) rfl kt
        show Go _ _ _ _ _ _ _ _ (mkF m 130 #[.val (.int sel), .val (.int a), .val (.int b), .val (.int c_), .val (.int x_), .val (.int (1 : Int32)), .val (.int pk), .val (.int item), .val (.ref b2), .val (.ref b53), .val (.int (-1 : Int32)), .unset, .unset] [(.int item), (.int a)])
        refine own_via ?_ fun _ kt => XS.icmpYes X61.here hx rfl (pc0 := 130) (pc' := 139) rfl (hb hby at_130) rfl (feq hv26_0).2 (by decide) (by decide) kt
        show Go _ _ _ _ _ _ _ _ (mkF m 139 #[.val (.int sel), .val (.int a), .val (.int b), .val (.int c_), .val (.int x_), .val (.int (1 : Int32)), .val (.int pk), .val (.int item), .val (.ref b2), .val (.ref b53), .val (.int (-1 : Int32)), .unset, .unset] [])
        refine own_via ?_ fun _ kt => XS.iload X61.here hx rfl (hb hby at_139) rfl kt
        show Go _ _ _ _ _ _ _ _ (mkF m 141 #[.val (.int sel), .val (.int a), .val (.int b), .val (.int c_), .val (.int x_), .val (.int (1 : Int32)), .val (.int pk), .val (.int item), .val (.ref b2), .val (.ref b53), .val (.int (-1 : Int32)), .unset, .unset] [(.int (1 : Int32))])
        refine own_via ?_ fun _ kt => XS.iconst X61.here hx rfl (hb hby at_141) kt
        show Go _ _ _ _ _ _ _ _ (mkF m 142 #[.val (.int sel), .val (.int a), .val (.int b), .val (.int c_), .val (.int x_), .val (.int (1 : Int32)), .val (.int pk), .val (.int item), .val (.ref b2), .val (.ref b53), .val (.int (-1 : Int32)), .unset, .unset] [(.int (1 : Int32)), (.int (1 : Int32))])
        refine own_via ?_ fun _ kt => XS.icmpYes X61.here hx rfl (pc0 := 142) (pc' := 157) rfl (hb hby at_142) rfl (flt (by decide : ¬ ((1 : Int32) < (1 : Int32)))).2.2.2 (by decide) (by decide) kt
        show Go _ _ _ _ _ _ _ _ (mkF m 157 #[.val (.int sel), .val (.int a), .val (.int b), .val (.int c_), .val (.int x_), .val (.int (1 : Int32)), .val (.int pk), .val (.int item), .val (.ref b2), .val (.ref b53), .val (.int (-1 : Int32)), .unset, .unset] [])
        refine own_via ?_ fun _ kt => XS.iload X61.here hx rfl (hb hby at_157) rfl kt
        show Go _ _ _ _ _ _ _ _ (mkF m 159 #[.val (.int sel), .val (.int a), .val (.int b), .val (.int c_), .val (.int x_), .val (.int (1 : Int32)), .val (.int pk), .val (.int item), .val (.ref b2), .val (.ref b53), .val (.int (-1 : Int32)), .unset, .unset] [(.int (1 : Int32))])
        refine own_via ?_ fun _ kt => XS.iconst X61.here hx rfl (hb hby at_159) kt
        show Go _ _ _ _ _ _ _ _ (mkF m 160 #[.val (.int sel), .val (.int a), .val (.int b), .val (.int c_), .val (.int x_), .val (.int (1 : Int32)), .val (.int pk), .val (.int item), .val (.ref b2), .val (.ref b53), .val (.int (-1 : Int32)), .unset, .unset] [(.int (2 : Int32)), (.int (1 : Int32))])
        refine own_via ?_ fun _ kt => XS.icmpYes X61.here hx rfl (pc0 := 160) (pc' := 172) rfl (hb hby at_160) rfl (flt (by decide : ¬ ((2 : Int32) < (1 : Int32)))).2.2.2 (by decide) (by decide) kt
        show Go _ _ _ _ _ _ _ _ (mkF m 172 #[.val (.int sel), .val (.int a), .val (.int b), .val (.int c_), .val (.int x_), .val (.int (1 : Int32)), .val (.int pk), .val (.int item), .val (.ref b2), .val (.ref b53), .val (.int (-1 : Int32)), .unset, .unset] [])
        refine own_via ?_ fun _ kt => XS.iconst X61.here hx rfl (hb hby at_172) kt
        show Go _ _ _ _ _ _ _ _ (mkF m 173 #[.val (.int sel), .val (.int a), .val (.int b), .val (.int c_), .val (.int x_), .val (.int (1 : Int32)), .val (.int pk), .val (.int item), .val (.ref b2), .val (.ref b53), .val (.int (-1 : Int32)), .unset, .unset] [(.int (3 : Int32))])
        obtain ⟨T62, h62, k62, X62, e62, E62, A62, st62⟩ := newP X61 hx hZ (hw _ (List.mem_of_getElem? (i := 20) rfl)) e61 (g := (mkF m 173 #[.val (.int sel), .val (.int a), .val (.int b), .val (.int c_), .val (.int x_), .val (.int (1 : Int32)), .val (.int pk), .val (.int item), .val (.ref b2), .val (.ref b53), .val (.int (-1 : Int32)), .unset, .unset] [(.int (3 : Int32))])) rfl (hb hby at_173) rfl (by decide) (cap := 3) (by decide) (by decide) (by decide) (by decide)
        obtain ⟨b62, g62⟩ : ∃ z, z = h61.size := ⟨_, rfl⟩
        rw [← g62] at A62 st62
        have ne63 : b2 ≠ b62 := by rw [g62]; exact Nat.ne_of_lt p26_E.lt
        have ne64 : ba ≠ b62 := by rw [g62]; exact Nat.ne_of_lt p26_V.lt
        have ne65 : b53 ≠ b62 := by rw [g62]; exact Nat.ne_of_lt V61.lt
        have g_b62 : n0 ≤ b62 := by rw [g62]; exact Z0
        replace p26_E := p26_E.ext E62
        replace p26_Fs := p26_Fs.ext E62
        replace p26_Fi := p26_Fi.ext E62
        replace p26_V := p26_V.ext E62
        replace V61 := V61.ext E62
        replace Z0 := Nat.le_trans Z0 E62.1
        replace O := O.ext E62
        have V62 : Arv Z h62 b62 k62 .int (3 : Int32) [(.int (0 : Int32)), (.int (0 : Int32)), (.int (0 : Int32))] (.int (0 : Int32)) := (Arv.new A62 (by decide)).pad (pad_rep [] (.int (0 : Int32)) 3)
        refine own_via ?_ st62
        show Go _ _ _ _ _ _ _ _ (mkF m 175 #[.val (.int sel), .val (.int a), .val (.int b), .val (.int c_), .val (.int x_), .val (.int (1 : Int32)), .val (.int pk), .val (.int item), .val (.ref b2), .val (.ref b53), .val (.int (-1 : Int32)), .unset, .unset] [(.ref b62)])
        refine own_via ?_ fun _ kt => XS.dup X62.here hx rfl (hb hby at_175) rfl rfl kt
        show Go _ _ _ _ _ _ _ _ (mkF m 176 #[.val (.int sel), .val (.int a), .val (.int b), .val (.int c_), .val (.int x_), .val (.int (1 : Int32)), .val (.int pk), .val (.int item), .val (.ref b2), .val (.ref b53), .val (.int (-1 : Int32)), .unset, .unset] [(.ref b62), (.ref b62)])
        refine own_via ?_ fun _ kt => XS.iconst X62.here hx rfl (hb hby at_176) kt
        show Go _ _ _ _ _ _ _ _ (mkF m 177 #[.val (.int sel), .val (.int a), .val (.int b), .val (.int c_), .val (.int x_), .val (.int (1 : Int32)), .val (.int pk), .val (.int item), .val (.ref b2), .val (.ref b53), .val (.int (-1 : Int32)), .unset, .unset] [(.int (0 : Int32)), (.ref b62), (.ref b62)])
        refine own_via ?_ fun _ kt => XS.iloadN X62.here hx rfl (hb hby at_177) rfl kt
        show Go _ _ _ _ _ _ _ _ (mkF m 178 #[.val (.int sel), .val (.int a), .val (.int b), .val (.int c_), .val (.int x_), .val (.int (1 : Int32)), .val (.int pk), .val (.int item), .val (.ref b2), .val (.ref b53), .val (.int (-1 : Int32)), .unset, .unset] [(.int a), (.int (0 : Int32)), (.ref b62), (.ref b62)])
        obtain ⟨cl66, Ar66, Aq66, AS66, AN66, AH66, AG66⟩ := V62
        have hin67 : ¬ ((0 : Int32) < 0 ∨ cl66.slots.size ≤ ((0 : Int32)).toNatClampNeg) := (inb_of AS66 ⟨by decide, by decide⟩)
        obtain ⟨T67, h67, X67, e67, W67, st67⟩ := stI X62 hx hZ e62 Ar66 (j := (0 : Int32)) hin67 (g := (mkF m 178 #[.val (.int sel), .val (.int a), .val (.int b), .val (.int c_), .val (.int x_), .val (.int (1 : Int32)), .val (.int pk), .val (.int item), .val (.ref b2), .val (.ref b53), .val (.int (-1 : Int32)), .unset, .unset] [(.int a), (.int (0 : Int32)), (.ref b62), (.ref b62)])) rfl rfl (hb hby at_178)
        have N67 := Fr.snoc X67 N61 g_b62
        have V67 : Arv Z h67 b62 k62 .int (3 : Int32) [(.int a), (.int (0 : Int32)), (.int (0 : Int32))] (.int (0 : Int32)) := Arv.set Ar66 Aq66 AS66 AN66 AH66 AG66 rfl W67 0 rfl (Nat.le_of_ble_eq_true rfl)
        replace p26_E := p26_E.wr W67
        replace p26_Fs := p26_Fs.other W67 (Or.inl ne63)
        replace p26_Fi := p26_Fi.other W67 (Or.inl ne63)
        replace p26_V := p26_V.other W67 ne64
        replace V61 := V61.other W67 ne65
        replace Z0 := Nat.le_trans Z0 (Keep.of_wr W67).1
        replace O := O.wr W67 g_b62
        refine own_via ?_ st67
        show Go _ _ _ _ _ _ _ _ (mkF m 179 #[.val (.int sel), .val (.int a), .val (.int b), .val (.int c_), .val (.int x_), .val (.int (1 : Int32)), .val (.int pk), .val (.int item), .val (.ref b2), .val (.ref b53), .val (.int (-1 : Int32)), .unset, .unset] [(.ref b62)])
        refine own_via ?_ fun _ kt => XS.dup X67.here hx rfl (hb hby at_179) rfl rfl kt
        show Go _ _ _ _ _ _ _ _ (mkF m 180 #[.val (.int sel), .val (.int a), .val (.int b), .val (.int c_), .val (.int x_), .val (.int (1 : Int32)), .val (.int pk), .val (.int item), .val (.ref b2), .val (.ref b53), .val (.int (-1 : Int32)), .unset, .unset] [(.ref b62), (.ref b62)])
        refine own_via ?_ fun _ kt => XS.iconst X67.here hx rfl (hb hby at_180) kt
        show Go _ _ _ _ _ _ _ _ (mkF m 181 #[.val (.int sel), .val (.int a), .val (.int b), .val (.int c_), .val (.int x_), .val (.int (1 : Int32)), .val (.int pk), .val (.int item), .val (.ref b2), .val (.ref b53), .val (.int (-1 : Int32)), .unset, .unset] [(.int (1 : Int32)), (.ref b62), (.ref b62)])
        refine own_via ?_ fun _ kt => XS.iloadN X67.here hx rfl (hb hby at_181) rfl kt
        show Go _ _ _ _ _ _ _ _ (mkF m 182 #[.val (.int sel), .val (.int a), .val (.int b), .val (.int c_), .val (.int x_), .val (.int (1 : Int32)), .val (.int pk), .val (.int item), .val (.ref b2), .val (.ref b53), .val (.int (-1 : Int32)), .unset, .unset] [(.int b), (.int (1 : Int32)), (.ref b62), (.ref b62)])
        obtain ⟨cl68, Ar68, Aq68, AS68, AN68, AH68, AG68⟩ := V67
        have hin69 : ¬ ((1 : Int32) < 0 ∨ cl68.slots.size ≤ ((1 : Int32)).toNatClampNeg) := (inb_of AS68 ⟨by decide, by decide⟩)
        obtain ⟨T69, h69, X69, e69, W69, st69⟩ := stI X67 hx hZ e67 Ar68 (j := (1 : Int32)) hin69 (g := (mkF m 182 #[.val (.int sel), .val (.int a), .val (.int b), .val (.int c_), .val (.int x_), .val (.int (1 : Int32)), .val (.int pk), .val (.int item), .val (.ref b2), .val (.ref b53), .val (.int (-1 : Int32)), .unset, .unset] [(.int b), (.int (1 : Int32)), (.ref b62), (.ref b62)])) rfl rfl (hb hby at_182)
        have N69 := Fr.snoc X69 N67 g_b62
        have V69 : Arv Z h69 b62 k62 .int (3 : Int32) [(.int a), (.int b), (.int (0 : Int32))] (.int (0 : Int32)) := Arv.set Ar68 Aq68 AS68 AN68 AH68 AG68 rfl W69 1 rfl (Nat.le_of_ble_eq_true rfl)
        replace p26_E := p26_E.wr W69
        replace p26_Fs := p26_Fs.other W69 (Or.inl ne63)
        replace p26_Fi := p26_Fi.other W69 (Or.inl ne63)
        replace p26_V := p26_V.other W69 ne64
        replace V61 := V61.other W69 ne65
        replace Z0 := Nat.le_trans Z0 (Keep.of_wr W69).1
        replace O := O.wr W69 g_b62
        refine own_via ?_ st69
        show Go _ _ _ _ _ _ _ _ (mkF m 183 #[.val (.int sel), .val (.int a), .val (.int b), .val (.int c_), .val (.int x_), .val (.int (1 : Int32)), .val (.int pk), .val (.int item), .val (.ref b2), .val (.ref b53), .val (.int (-1 : Int32)), .unset, .unset] [(.ref b62)])
        refine own_via ?_ fun _ kt => XS.dup X69.here hx rfl (hb hby at_183) rfl rfl kt
        show Go _ _ _ _ _ _ _ _ (mkF m 184 #[.val (.int sel), .val (.int a), .val (.int b), .val (.int c_), .val (.int x_), .val (.int (1 : Int32)), .val (.int pk), .val (.int item), .val (.ref b2), .val (.ref b53), .val (.int (-1 : Int32)), .unset, .unset] [(.ref b62), (.ref b62)])
        refine own_via ?_ fun _ kt => XS.iconst X69.here hx rfl (hb hby at_184) kt
        show Go _ _ _ _ _ _ _ _ (mkF m 185 #[.val (.int sel), .val (.int a), .val (.int b), .val (.int c_), .val (.int x_), .val (.int (1 : Int32)), .val (.int pk), .val (.int item), .val (.ref b2), .val (.ref b53), .val (.int (-1 : Int32)), .unset, .unset] [(.int (2 : Int32)), (.ref b62), (.ref b62)])
        refine own_via ?_ fun _ kt => XS.iloadN X69.here hx rfl (hb hby at_185) rfl kt
        show Go _ _ _ _ _ _ _ _ (mkF m 186 #[.val (.int sel), .val (.int a), .val (.int b), .val (.int c_), .val (.int x_), .val (.int (1 : Int32)), .val (.int pk), .val (.int item), .val (.ref b2), .val (.ref b53), .val (.int (-1 : Int32)), .unset, .unset] [(.int c_), (.int (2 : Int32)), (.ref b62), (.ref b62)])
        obtain ⟨cl70, Ar70, Aq70, AS70, AN70, AH70, AG70⟩ := V69
        have hin71 : ¬ ((2 : Int32) < 0 ∨ cl70.slots.size ≤ ((2 : Int32)).toNatClampNeg) := (inb_of AS70 ⟨by decide, by decide⟩)
        obtain ⟨T71, h71, X71, e71, W71, st71⟩ := stI X69 hx hZ e69 Ar70 (j := (2 : Int32)) hin71 (g := (mkF m 186 #[.val (.int sel), .val (.int a), .val (.int b), .val (.int c_), .val (.int x_), .val (.int (1 : Int32)), .val (.int pk), .val (.int item), .val (.ref b2), .val (.ref b53), .val (.int (-1 : Int32)), .unset, .unset] [(.int c_), (.int (2 : Int32)), (.ref b62), (.ref b62)])) rfl rfl (hb hby at_186)
        have N71 := Fr.snoc X71 N69 g_b62
        have V71 : Arv Z h71 b62 k62 .int (3 : Int32) [(.int a), (.int b), (.int c_)] (.int (0 : Int32)) := Arv.set Ar70 Aq70 AS70 AN70 AH70 AG70 rfl W71 2 rfl (Nat.le_of_ble_eq_true rfl)
        replace p26_E := p26_E.wr W71
        replace p26_Fs := p26_Fs.other W71 (Or.inl ne63)
        replace p26_Fi := p26_Fi.other W71 (Or.inl ne63)
        replace p26_V := p26_V.other W71 ne64
        replace V61 := V61.other W71 ne65
        replace Z0 := Nat.le_trans Z0 (Keep.of_wr W71).1
        replace O := O.wr W71 g_b62
        refine own_via ?_ st71
        show Go _ _ _ _ _ _ _ _ (mkF m 187 #[.val (.int sel), .val (.int a), .val (.int b), .val (.int c_), .val (.int x_), .val (.int (1 : Int32)), .val (.int pk), .val (.int item), .val (.ref b2), .val (.ref b53), .val (.int (-1 : Int32)), .unset, .unset] [(.ref b62)])
        refine own_via ?_ fun _ kt => XS.astore X71.here hx rfl (hb hby at_187) rfl rfl (l' := #[.val (.int sel), .val (.int a), .val (.int b), .val (.int c_), .val (.int x_), .val (.int (1 : Int32)), .val (.int pk), .val (.int item), .val (.ref b2), .val (.ref b53), .val (.int (-1 : Int32)), .val (.ref b62), .unset]) rfl kt
        show Go _ _ _ _ _ _ _ _ (mkF m 189 #[.val (.int sel), .val (.int a), .val (.int b), .val (.int c_), .val (.int x_), .val (.int (1 : Int32)), .val (.int pk), .val (.int item), .val (.ref b2), .val (.ref b53), .val (.int (-1 : Int32)), .val (.ref b62), .unset] [])
        refine own_via ?_ fun _ kt => XS.iload X71.here hx rfl (hb hby at_189) rfl kt
        show Go _ _ _ _ _ _ _ _ (mkF m 191 #[.val (.int sel), .val (.int a), .val (.int b), .val (.int c_), .val (.int x_), .val (.int (1 : Int32)), .val (.int pk), .val (.int item), .val (.ref b2), .val (.ref b53), .val (.int (-1 : Int32)), .val (.ref b62), .unset] [(.int (1 : Int32))])
        refine own_via ?_ fun _ kt => XS.istore X71.here hx rfl (hb hby at_191) rfl (l' := #[.val (.int sel), .val (.int a), .val (.int b), .val (.int c_), .val (.int x_), .val (.int (1 : Int32)), .val (.int pk), .val (.int item), .val (.ref b2), .val (.ref b53), .val (.int (-1 : Int32)), .val (.ref b62), .val (.int (1 : Int32))]) rfl kt
        show Go _ _ _ _ _ _ _ _ (mkF m 193 #[.val (.int sel), .val (.int a), .val (.int b), .val (.int c_), .val (.int x_), .val (.int (1 : Int32)), .val (.int pk), .val (.int item), .val (.ref b2), .val (.ref b53), .val (.int (-1 : Int32)), .val (.ref b62), .val (.int (1 : Int32))] [])
        refine own_via ?_ fun _ kt => XS.iload X71.here hx rfl (hb hby at_193) rfl kt
        show Go _ _ _ _ _ _ _ _ (mkF m 195 #[.val (.int sel), .val (.int a), .val (.int b), .val (.int c_), .val (.int x_), .val (.int (1 : Int32)), .val (.int pk), .val (.int item), .val (.ref b2), .val (.ref b53), .val (.int (-1 : Int32)), .val (.ref b62), .val (.int (1 : Int32))] [(.int (-1 : Int32))])
        refine own_via ?_ fun _ kt => XS.ifYes X71.here hx rfl (pc0 := 195) (pc' := 216) rfl (hb hby at_195) rfl ((if0 _ _).trans (tlt (by decide : ((-1 : Int32) < (0 : Int32)))).1) (by decide) (by decide) kt
        show Go _ _ _ _ _ _ _ _ (mkF m 216 #[.val (.int sel), .val (.int a), .val (.int b), .val (.int c_), .val (.int x_), .val (.int (1 : Int32)), .val (.int pk), .val (.int item), .val (.ref b2), .val (.ref b53), .val (.int (-1 : Int32)), .val (.ref b62), .val (.int (1 : Int32))] [])
        refine own_via ?_ fun _ kt => XS.aload X71.here hx rfl (hb hby at_216) rfl rfl kt
        show Go _ _ _ _ _ _ _ _ (mkF m 218 #[.val (.int sel), .val (.int a), .val (.int b), .val (.int c_), .val (.int x_), .val (.int (1 : Int32)), .val (.int pk), .val (.int item), .val (.ref b2), .val (.ref b53), .val (.int (-1 : Int32)), .val (.ref b62), .val (.int (1 : Int32))] [(.ref b2)])
        obtain ⟨T72, X72, e72, st72⟩ := getF X71 hx hZ hown (host := "") (Or.inl (hw _ (List.mem_of_getElem? (i := 21) rfl))) Via.refl e71 p26_Fs (g := (mkF m 218 #[.val (.int sel), .val (.int a), .val (.int b), .val (.int c_), .val (.int x_), .val (.int (1 : Int32)), .val (.int pk), .val (.int item), .val (.ref b2), .val (.ref b53), .val (.int (-1 : Int32)), .val (.ref b62), .val (.int (1 : Int32))] [(.ref b2)])) rfl rfl (hb hby at_218)
        refine own_via ?_ st72
        show Go _ _ _ _ _ _ _ _ (mkF m 221 #[.val (.int sel), .val (.int a), .val (.int b), .val (.int c_), .val (.int x_), .val (.int (1 : Int32)), .val (.int pk), .val (.int item), .val (.ref b2), .val (.ref b53), .val (.int (-1 : Int32)), .val (.ref b62), .val (.int (1 : Int32))] [(.int (1 : Int32))])
        refine own_via ?_ fun _ kt => XS.iload X72.here hx rfl (hb hby at_221) rfl kt
        show Go _ _ _ _ _ _ _ _ (mkF m 223 #[.val (.int sel), .val (.int a), .val (.int b), .val (.int c_), .val (.int x_), .val (.int (1 : Int32)), .val (.int pk), .val (.int item), .val (.ref b2), .val (.ref b53), .val (.int (-1 : Int32)), .val (.ref b62), .val (.int (1 : Int32))] [(.int (1 : Int32)), (.int (1 : Int32))])
        refine own_via ?_ fun _ kt => XS.icmpYes X72.here hx rfl (pc0 := 223) (pc' := 228) rfl (hb hby at_223) rfl (teq rfl).1 (by decide) (by decide) kt
        show Go _ _ _ _ _ _ _ _ (mkF m 228 #[.val (.int sel), .val (.int a), .val (.int b), .val (.int c_), .val (.int x_), .val (.int (1 : Int32)), .val (.int pk), .val (.int item), .val (.ref b2), .val (.ref b53), .val (.int (-1 : Int32)), .val (.ref b62), .val (.int (1 : Int32))] [])
        refine own_via ?_ fun _ kt => XS.aload X72.here hx rfl (hb hby at_228) rfl rfl kt
        show Go _ _ _ _ _ _ _ _ (mkF m 230 #[.val (.int sel), .val (.int a), .val (.int b), .val (.int c_), .val (.int x_), .val (.int (1 : Int32)), .val (.int pk), .val (.int item), .val (.ref b2), .val (.ref b53), .val (.int (-1 : Int32)), .val (.ref b62), .val (.int (1 : Int32))] [(.ref b2)])
        obtain ⟨T73, X73, e73, st73⟩ := getF X72 hx hZ hown (host := "") (Or.inl (hw _ (List.mem_of_getElem? (i := 22) rfl))) Via.refl e72 p26_Fi (g := (mkF m 230 #[.val (.int sel), .val (.int a), .val (.int b), .val (.int c_), .val (.int x_), .val (.int (1 : Int32)), .val (.int pk), .val (.int item), .val (.ref b2), .val (.ref b53), .val (.int (-1 : Int32)), .val (.ref b62), .val (.int (1 : Int32))] [(.ref b2)])) rfl rfl (hb hby at_230)
        refine own_via ?_ st73
        show Go _ _ _ _ _ _ _ _ (mkF m 233 #[.val (.int sel), .val (.int a), .val (.int b), .val (.int c_), .val (.int x_), .val (.int (1 : Int32)), .val (.int pk), .val (.int item), .val (.ref b2), .val (.ref b53), .val (.int (-1 : Int32)), .val (.ref b62), .val (.int (1 : Int32))] [(.ref ba)])
        obtain ⟨cl74, Ar74, Aq74, AS74, AN74, AH74, AG74⟩ := p26_V
        have p26_V : Arv Z h71 ba ka .int (4 : Int32) [(.int a), (.int (0 : Int32)), (.int (0 : Int32)), (.int (0 : Int32))] (.int (0 : Int32)) := ⟨cl74, Ar74, Aq74, AS74, AN74, AH74, AG74⟩
        refine own_via ?_ fun _ kt => X73.arraylength hx (by rw [e73]; exact Ar74.1) (State.isArrayOf_alike hZ.alike Ar74.2.1) (g := (mkF m 233 #[.val (.int sel), .val (.int a), .val (.int b), .val (.int c_), .val (.int x_), .val (.int (1 : Int32)), .val (.int pk), .val (.int item), .val (.ref b2), .val (.ref b53), .val (.int (-1 : Int32)), .val (.ref b62), .val (.int (1 : Int32))] [(.ref ba)])) rfl rfl (hb hby at_233) _ kt
        rw [len_of AS74 AN74]
        show Go _ _ _ _ _ _ _ _ (mkF m 234 #[.val (.int sel), .val (.int a), .val (.int b), .val (.int c_), .val (.int x_), .val (.int (1 : Int32)), .val (.int pk), .val (.int item), .val (.ref b2), .val (.ref b53), .val (.int (-1 : Int32)), .val (.ref b62), .val (.int (1 : Int32))] [(.int (4 : Int32))])
        refine own_via ?_ fun _ kt => XS.iload X73.here hx rfl (hb hby at_234) rfl kt
        show Go _ _ _ _ _ _ _ _ (mkF m 236 #[.val (.int sel), .val (.int a), .val (.int b), .val (.int c_), .val (.int x_), .val (.int (1 : Int32)), .val (.int pk), .val (.int item), .val (.ref b2), .val (.ref b53), .val (.int (-1 : Int32)), .val (.ref b62), .val (.int (1 : Int32))] [(.int (1 : Int32)), (.int (4 : Int32))])
        refine own_via ?_ fun _ kt => XS.icmpYes X73.here hx rfl (pc0 := 236) (pc' := 241) rfl (hb hby at_236) rfl (flt (by decide : ¬ ((4 : Int32) < (1 : Int32)))).2.1 (by decide) (by decide) kt
        show Go _ _ _ _ _ _ _ _ (mkF m 241 #[.val (.int sel), .val (.int a), .val (.int b), .val (.int c_), .val (.int x_), .val (.int (1 : Int32)), .val (.int pk), .val (.int item), .val (.ref b2), .val (.ref b53), .val (.int (-1 : Int32)), .val (.ref b62), .val (.int (1 : Int32))] [])
        refine own_via ?_ fun _ kt => XS.iload X73.here hx rfl (hb hby at_241) rfl kt
        show Go _ _ _ _ _ _ _ _ (mkF m 243 #[.val (.int sel), .val (.int a), .val (.int b), .val (.int c_), .val (.int x_), .val (.int (1 : Int32)), .val (.int pk), .val (.int item), .val (.ref b2), .val (.ref b53), .val (.int (-1 : Int32)), .val (.ref b62), .val (.int (1 : Int32))] [(.int (1 : Int32))])
        refine own_via ?_ fun _ kt => XS.ifNo X73.here hx rfl (hb hby at_243) rfl ((if0 _ _).trans (tlt (by decide : ((0 : Int32) < (1 : Int32)))).2.2.2) kt
        show Go _ _ _ _ _ _ _ _ (mkF m 246 #[.val (.int sel), .val (.int a), .val (.int b), .val (.int c_), .val (.int x_), .val (.int (1 : Int32)), .val (.int pk), .val (.int item), .val (.ref b2), .val (.ref b53), .val (.int (-1 : Int32)), .val (.ref b62), .val (.int (1 : Int32))] [])
        refine own_via ?_ fun _ kt => XS.aload X73.here hx rfl (hb hby at_246) rfl rfl kt
        show Go _ _ _ _ _ _ _ _ (mkF m 248 #[.val (.int sel), .val (.int a), .val (.int b), .val (.int c_), .val (.int x_), .val (.int (1 : Int32)), .val (.int pk), .val (.int item), .val (.ref b2), .val (.ref b53), .val (.int (-1 : Int32)), .val (.ref b62), .val (.int (1 : Int32))] [(.ref b2)])
        obtain ⟨T75, X75, e75, st75⟩ := getF X73 hx hZ hown (host := "") (Or.inl (hw _ (List.mem_of_getElem? (i := 22) rfl))) Via.refl e73 p26_Fi (g := (mkF m 248 #[.val (.int sel), .val (.int a), .val (.int b), .val (.int c_), .val (.int x_), .val (.int (1 : Int32)), .val (.int pk), .val (.int item), .val (.ref b2), .val (.ref b53), .val (.int (-1 : Int32)), .val (.ref b62), .val (.int (1 : Int32))] [(.ref b2)])) rfl rfl (hb hby at_248)
        refine own_via ?_ st75
        show Go _ _ _ _ _ _ _ _ (mkF m 251 #[.val (.int sel), .val (.int a), .val (.int b), .val (.int c_), .val (.int x_), .val (.int (1 : Int32)), .val (.int pk), .val (.int item), .val (.ref b2), .val (.ref b53), .val (.int (-1 : Int32)), .val (.ref b62), .val (.int (1 : Int32))] [(.ref ba)])
        refine own_via ?_ fun _ kt => XS.iconst X75.here hx rfl (hb hby at_251) kt
        show Go _ _ _ _ _ _ _ _ (mkF m 252 #[.val (.int sel), .val (.int a), .val (.int b), .val (.int c_), .val (.int x_), .val (.int (1 : Int32)), .val (.int pk), .val (.int item), .val (.ref b2), .val (.ref b53), .val (.int (-1 : Int32)), .val (.ref b62), .val (.int (1 : Int32))] [(.int (0 : Int32)), (.ref ba)])
        obtain ⟨cl76, Ar76, Aq76, AS76, AN76, AH76, AG76⟩ := p26_V
        have p26_V : Arv Z h71 ba ka .int (4 : Int32) [(.int a), (.int (0 : Int32)), (.int (0 : Int32)), (.int (0 : Int32))] (.int (0 : Int32)) := ⟨cl76, Ar76, Aq76, AS76, AN76, AH76, AG76⟩
        have hin77 : ¬ ((0 : Int32) < 0 ∨ cl76.slots.size ≤ ((0 : Int32)).toNatClampNeg) := (inb_of AS76 ⟨by decide, by decide⟩)
        have hat77 : cl76.slots[((0 : Int32)).toNatClampNeg]? = some (.int a) := (AH76.at hin77 rfl)
        refine own_via ?_ fun _ kt => X75.iaload hx (j := (0 : Int32)) (v := (.int a)) (by rw [e75]; exact Ar76.1) (State.isArrayOf_alike hZ.alike Ar76.2.1) Ar76.2.2 hin77 hat77 (g := (mkF m 252 #[.val (.int sel), .val (.int a), .val (.int b), .val (.int c_), .val (.int x_), .val (.int (1 : Int32)), .val (.int pk), .val (.int item), .val (.ref b2), .val (.ref b53), .val (.int (-1 : Int32)), .val (.ref b62), .val (.int (1 : Int32))] [(.int (0 : Int32)), (.ref ba)])) rfl rfl (hb hby at_252) _ kt
        show Go _ _ _ _ _ _ _ _ (mkF m 253 #[.val (.int sel), .val (.int a), .val (.int b), .val (.int c_), .val (.int x_), .val (.int (1 : Int32)), .val (.int pk), .val (.int item), .val (.ref b2), .val (.ref b53), .val (.int (-1 : Int32)), .val (.ref b62), .val (.int (1 : Int32))] [(.int a)])
        refine own_via ?_ fun _ kt => XS.aload X75.here hx rfl (hb hby at_253) rfl rfl kt
        show Go _ _ _ _ _ _ _ _ (mkF m 255 #[.val (.int sel), .val (.int a), .val (.int b), .val (.int c_), .val (.int x_), .val (.int (1 : Int32)), .val (.int pk), .val (.int item), .val (.ref b2), .val (.ref b53), .val (.int (-1 : Int32)), .val (.ref b62), .val (.int (1 : Int32))] [(.ref b62), (.int a)])
        refine own_via ?_ fun _ kt => XS.iconst X75.here hx rfl (hb hby at_255) kt
        show Go _ _ _ _ _ _ _ _ (mkF m 256 #[.val (.int sel), .val (.int a), .val (.int b), .val (.int c_), .val (.int x_), .val (.int (1 : Int32)), .val (.int pk), .val (.int item), .val (.ref b2), .val (.ref b53), .val (.int (-1 : Int32)), .val (.ref b62), .val (.int (1 : Int32))] [(.int (0 : Int32)), (.ref b62), (.int a)])
        obtain ⟨cl78, Ar78, Aq78, AS78, AN78, AH78, AG78⟩ := V71
        have V71 : Arv Z h71 b62 k62 .int (3 : Int32) [(.int a), (.int b), (.int c_)] (.int (0 : Int32)) := ⟨cl78, Ar78, Aq78, AS78, AN78, AH78, AG78⟩
        have hin79 : ¬ ((0 : Int32) < 0 ∨ cl78.slots.size ≤ ((0 : Int32)).toNatClampNeg) := (inb_of AS78 ⟨by decide, by decide⟩)
        have hat79 : cl78.slots[((0 : Int32)).toNatClampNeg]? = some (.int a) := (AH78.at hin79 rfl)
        refine own_via ?_ fun _ kt => X75.iaload hx (j := (0 : Int32)) (v := (.int a)) (by rw [e75]; exact Ar78.1) (State.isArrayOf_alike hZ.alike Ar78.2.1) Ar78.2.2 hin79 hat79 (g := (mkF m 256 #[.val (.int sel), .val (.int a), .val (.int b), .val (.int c_), .val (.int x_), .val (.int (1 : Int32)), .val (.int pk), .val (.int item), .val (.ref b2), .val (.ref b53), .val (.int (-1 : Int32)), .val (.ref b62), .val (.int (1 : Int32))] [(.int (0 : Int32)), (.ref b62), (.int a)])) rfl rfl (hb hby at_256) _ kt
        show Go _ _ _ _ _ _ _ _ (mkF m 257 #[.val (.int sel), .val (.int a), .val (.int b), .val (.int c_), .val (.int x_), .val (.int (1 : Int32)), .val (.int pk), .val (.int item), .val (.ref b2), .val (.ref b53), .val (.int (-1 : Int32)), .val (.ref b62), .val (.int (1 : Int32))] [(.int a), (.int a)])
        refine own_via ?_ fun _ kt => XS.icmpYes X75.here hx rfl (pc0 := 257) (pc' := 262) rfl (hb hby at_257) rfl (teq rfl).1 (by decide) (by decide) kt
        show Go _ _ _ _ _ _ _ _ (mkF m 262 #[.val (.int sel), .val (.int a), .val (.int b), .val (.int c_), .val (.int x_), .val (.int (1 : Int32)), .val (.int pk), .val (.int item), .val (.ref b2), .val (.ref b53), .val (.int (-1 : Int32)), .val (.ref b62), .val (.int (1 : Int32))] [])
        refine own_via ?_ fun _ kt => XS.iload X75.here hx rfl (hb hby at_262) rfl kt
        show Go _ _ _ _ _ _ _ _ (mkF m 264 #[.val (.int sel), .val (.int a), .val (.int b), .val (.int c_), .val (.int x_), .val (.int (1 : Int32)), .val (.int pk), .val (.int item), .val (.ref b2), .val (.ref b53), .val (.int (-1 : Int32)), .val (.ref b62), .val (.int (1 : Int32))] [(.int (1 : Int32))])
        refine own_via ?_ fun _ kt => XS.iconst X75.here hx rfl (hb hby at_264) kt
        show Go _ _ _ _ _ _ _ _ (mkF m 265 #[.val (.int sel), .val (.int a), .val (.int b), .val (.int c_), .val (.int x_), .val (.int (1 : Int32)), .val (.int pk), .val (.int item), .val (.ref b2), .val (.ref b53), .val (.int (-1 : Int32)), .val (.ref b62), .val (.int (1 : Int32))] [(.int (1 : Int32)), (.int (1 : Int32))])
        refine own_via ?_ fun _ kt => XS.icmpYes X75.here hx rfl (pc0 := 265) (pc' := 284) rfl (hb hby at_265) rfl (flt (by decide : ¬ ((1 : Int32) < (1 : Int32)))).2.2.2 (by decide) (by decide) kt
        show Go _ _ _ _ _ _ _ _ (mkF m 284 #[.val (.int sel), .val (.int a), .val (.int b), .val (.int c_), .val (.int x_), .val (.int (1 : Int32)), .val (.int pk), .val (.int item), .val (.ref b2), .val (.ref b53), .val (.int (-1 : Int32)), .val (.ref b62), .val (.int (1 : Int32))] [])
        refine own_via ?_ fun _ kt => XS.iload X75.here hx rfl (hb hby at_284) rfl kt
        show Go _ _ _ _ _ _ _ _ (mkF m 286 #[.val (.int sel), .val (.int a), .val (.int b), .val (.int c_), .val (.int x_), .val (.int (1 : Int32)), .val (.int pk), .val (.int item), .val (.ref b2), .val (.ref b53), .val (.int (-1 : Int32)), .val (.ref b62), .val (.int (1 : Int32))] [(.int (1 : Int32))])
        refine own_via ?_ fun _ kt => XS.iconst X75.here hx rfl (hb hby at_286) kt
        show Go _ _ _ _ _ _ _ _ (mkF m 287 #[.val (.int sel), .val (.int a), .val (.int b), .val (.int c_), .val (.int x_), .val (.int (1 : Int32)), .val (.int pk), .val (.int item), .val (.ref b2), .val (.ref b53), .val (.int (-1 : Int32)), .val (.ref b62), .val (.int (1 : Int32))] [(.int (2 : Int32)), (.int (1 : Int32))])
        refine own_via ?_ fun _ kt => XS.icmpYes X75.here hx rfl (pc0 := 287) (pc' := 306) rfl (hb hby at_287) rfl (flt (by decide : ¬ ((2 : Int32) < (1 : Int32)))).2.2.2 (by decide) (by decide) kt
        show Go _ _ _ _ _ _ _ _ (mkF m 306 #[.val (.int sel), .val (.int a), .val (.int b), .val (.int c_), .val (.int x_), .val (.int (1 : Int32)), .val (.int pk), .val (.int item), .val (.ref b2), .val (.ref b53), .val (.int (-1 : Int32)), .val (.ref b62), .val (.int (1 : Int32))] [])
        refine own_via ?_ fun _ kt => XS.iconst X75.here hx rfl (hb hby at_306) kt
        show Go _ _ _ _ _ _ _ _ (mkF m 307 #[.val (.int sel), .val (.int a), .val (.int b), .val (.int c_), .val (.int x_), .val (.int (1 : Int32)), .val (.int pk), .val (.int item), .val (.ref b2), .val (.ref b53), .val (.int (-1 : Int32)), .val (.ref b62), .val (.int (1 : Int32))] [(.int (1 : Int32))])
        exact own_retZ (z' := (1 : Int32)) X75 hx hret hlk (hb hby at_307) rfl (by decide) (by decide) (by rw [e75]; exact ⟨rfl, N71⟩)
    · skip
      show Go _ _ _ _ _ _ _ _ (mkF m 60 #[.val (.int sel), .val (.int a), .val (.int b), .val (.int c_), .val (.int x_), .val (.int (2 : Int32)), .val (.int pk), .val (.int item), .val (.ref b2), .unset, .unset, .unset, .unset] [])
      refine own_via ?_ fun _ kt => XS.iload X3.here hx rfl (hb hby at_60) rfl kt
      show Go _ _ _ _ _ _ _ _ (mkF m 62 #[.val (.int sel), .val (.int a), .val (.int b), .val (.int c_), .val (.int x_), .val (.int (2 : Int32)), .val (.int pk), .val (.int item), .val (.ref b2), .unset, .unset, .unset, .unset] [(.int (2 : Int32))])
      refine own_via ?_ fun _ kt => XS.ifNo X3.here hx rfl (hb hby at_62) rfl ((if0 _ _).trans (tlt (by decide : ((0 : Int32) < (2 : Int32)))).2.2.2) kt
      show Go _ _ _ _ _ _ _ _ (mkF m 65 #[.val (.int sel), .val (.int a), .val (.int b), .val (.int c_), .val (.int x_), .val (.int (2 : Int32)), .val (.int pk), .val (.int item), .val (.ref b2), .unset, .unset, .unset, .unset] [])
      refine own_via ?_ fun _ kt => XS.aload X3.here hx rfl (hb hby at_65) rfl rfl kt
      show Go _ _ _ _ _ _ _ _ (mkF m 67 #[.val (.int sel), .val (.int a), .val (.int b), .val (.int c_), .val (.int x_), .val (.int (2 : Int32)), .val (.int pk), .val (.int item), .val (.ref b2), .unset, .unset, .unset, .unset] [(.ref b2)])
      refine own_via ?_ fun _ kt => XS.iloadN X3.here hx rfl (hb hby at_67) rfl kt
      show Go _ _ _ _ _ _ _ _ (mkF m 68 #[.val (.int sel), .val (.int a), .val (.int b), .val (.int c_), .val (.int x_), .val (.int (2 : Int32)), .val (.int pk), .val (.int item), .val (.ref b2), .unset, .unset, .unset, .unset] [(.int a), (.ref b2)])
      have Zp := Z0
      obtain ⟨cq80, kq80, q80a, q80b, q80c⟩ := isOf hZ e3 p3_E
      obtain ⟨_, _, ⟨T80, L80, k80, n80⟩, -, X80, ⟨Lc80, hQ80, l80, y80, z80⟩, st80⟩ := X3.virtualBack hx (y := (⟨"com/example/aspen/aspen/IntList", "add", "(I)V"⟩ : MethodName)) (z := (⟨"com/example/aspen/aspen/IntList", "add", "(I)V"⟩ : MethodName)) hown (mvT hZ (hw _ (List.mem_of_getElem? (i := 23) rfl))) (mvT hZ (hw _ (List.mem_of_getElem? (i := 24) rfl))) (notFace_of_selects (args := #[]) (mvT hZ (hw _ (List.mem_of_getElem? (i := 26) rfl)))) (mvT hZ (hw _ (List.mem_of_getElem? (i := 26) rfl))) (mvT hZ (hw _ (List.mem_of_getElem? (i := 25) rfl))) (by decide) (backOf (W := 0) (rm_add0 l Z a0 hw [] b2 aN kN a h3 n0 Z0 O VN g_b2 p3_E p3_Fs p3_Fi) hZ (hw _ (List.mem_of_getElem? (i := 27) rfl)) (hw _ (List.mem_of_getElem? (i := 2) rfl)) (by decide) (by decide)) q80a q80c (g := (mkF m 68 #[.val (.int sel), .val (.int a), .val (.int b), .val (.int c_), .val (.int x_), .val (.int (2 : Int32)), .val (.int pk), .val (.int item), .val (.ref b2), .unset, .unset, .unset, .unset] [(.int a), (.ref b2)])) rfl (by rw [hml]; rfl) (Steps.refl _) (argsL := [(.int a)]) (rest := []) (lenOf pd3 rfl) rfl (by show 2 * 0 + _ ≤ _; exact Nat.le_of_eq rfl) (hb hby at_68) (fun _ _ => ⟨rfl, e3, (by decide : 1 + 1 ≤ _), (by decide : 2 + 4 ≤ _)⟩)
      dsimp only [Pt.U, Pt.locs, Pt.cells, Pt.slots] at X80 l80 y80 z80 st80 hQ80
      subst l80 y80 z80
      have lt_80 := p3_E.lt
      obtain ⟨h80, e80⟩ : ∃ z, T80.heap = z := ⟨_, rfl⟩
      rw [e80] at hQ80
      obtain ⟨rfl, Nq80, Kq80, ba, ka, szb, p80_E, p80_Fs, p80_Fi, p80_V⟩ := hQ80
      have N80 := Fr.app N3 Nq80
      replace Z0 := Nat.le_trans Z0 Kq80.1
      replace O := O.keep Kq80 (allS g_b2 all0)
      have g_ba : n0 ≤ ba := Nat.le_trans Zp szb
      have neab : b2 ≠ ba := Nat.ne_of_lt (Nat.lt_of_lt_of_le lt_80 szb)
      refine own_join ?_ st80
      show Go _ _ _ _ _ _ _ _ (mkF m 71 #[.val (.int sel), .val (.int a), .val (.int b), .val (.int c_), .val (.int x_), .val (.int (2 : Int32)), .val (.int pk), .val (.int item), .val (.ref b2), .unset, .unset, .unset, .unset] [])
      refine own_via ?_ fun _ kt => XS.iload X80.here hx rfl (hb hby at_71) rfl kt
      show Go _ _ _ _ _ _ _ _ (mkF m 73 #[.val (.int sel), .val (.int a), .val (.int b), .val (.int c_), .val (.int x_), .val (.int (2 : Int32)), .val (.int pk), .val (.int item), .val (.ref b2), .unset, .unset, .unset, .unset] [(.int (2 : Int32))])
      refine own_via ?_ fun _ kt => XS.iconst X80.here hx rfl (hb hby at_73) kt
      show Go _ _ _ _ _ _ _ _ (mkF m 74 #[.val (.int sel), .val (.int a), .val (.int b), .val (.int c_), .val (.int x_), .val (.int (2 : Int32)), .val (.int pk), .val (.int item), .val (.ref b2), .unset, .unset, .unset, .unset] [(.int (1 : Int32)), (.int (2 : Int32))])
      refine own_via ?_ fun _ kt => XS.icmpNo X80.here hx rfl (hb hby at_74) rfl (tlt (by decide : ((1 : Int32) < (2 : Int32)))).2.2.2 kt
      show Go _ _ _ _ _ _ _ _ (mkF m 77 #[.val (.int sel), .val (.int a), .val (.int b), .val (.int c_), .val (.int x_), .val (.int (2 : Int32)), .val (.int pk), .val (.int item), .val (.ref b2), .unset, .unset, .unset, .unset] [])
      refine own_via ?_ fun _ kt => XS.aload X80.here hx rfl (hb hby at_77) rfl rfl kt
      show Go _ _ _ _ _ _ _ _ (mkF m 79 #[.val (.int sel), .val (.int a), .val (.int b), .val (.int c_), .val (.int x_), .val (.int (2 : Int32)), .val (.int pk), .val (.int item), .val (.ref b2), .unset, .unset, .unset, .unset] [(.ref b2)])
      refine own_via ?_ fun _ kt => XS.iloadN X80.here hx rfl (hb hby at_79) rfl kt
      show Go _ _ _ _ _ _ _ _ (mkF m 80 #[.val (.int sel), .val (.int a), .val (.int b), .val (.int c_), .val (.int x_), .val (.int (2 : Int32)), .val (.int pk), .val (.int item), .val (.ref b2), .unset, .unset, .unset, .unset] [(.int b), (.ref b2)])
      obtain ⟨cq81, kq81, q81a, q81b, q81c⟩ := isOf hZ e80 p80_E
      obtain ⟨_, _, ⟨T81, L81, k81, n81⟩, -, X81, ⟨Lc81, hQ81, l81, y81, z81⟩, st81⟩ := X80.virtualBack hx (y := (⟨"com/example/aspen/aspen/IntList", "add", "(I)V"⟩ : MethodName)) (z := (⟨"com/example/aspen/aspen/IntList", "add", "(I)V"⟩ : MethodName)) hown (mvT hZ (hw _ (List.mem_of_getElem? (i := 23) rfl))) (mvT hZ (hw _ (List.mem_of_getElem? (i := 24) rfl))) (notFace_of_selects (args := #[]) (mvT hZ (hw _ (List.mem_of_getElem? (i := 26) rfl)))) (mvT hZ (hw _ (List.mem_of_getElem? (i := 26) rfl))) (mvT hZ (hw _ (List.mem_of_getElem? (i := 25) rfl))) (by decide) (backOf (W := 0) (rm_add1 l Z a0 hw [] b2 ba ka b a h80 n0 Z0 g_b2 g_ba neab p80_E p80_Fs p80_Fi p80_V) hZ (hw _ (List.mem_of_getElem? (i := 27) rfl)) (hw _ (List.mem_of_getElem? (i := 2) rfl)) (by decide) (by decide)) q81a q81c (g := (mkF m 80 #[.val (.int sel), .val (.int a), .val (.int b), .val (.int c_), .val (.int x_), .val (.int (2 : Int32)), .val (.int pk), .val (.int item), .val (.ref b2), .unset, .unset, .unset, .unset] [(.int b), (.ref b2)])) rfl (by rw [hml]; rfl) (Steps.refl _) (argsL := [(.int b)]) (rest := []) (lenOf pd3 rfl) rfl (by show 2 * 0 + _ ≤ _; exact Nat.le_of_eq rfl) (hb hby at_80) (fun _ _ => ⟨rfl, e80, (by decide : 2 + 0 ≤ _), (by decide : 6 + 0 ≤ _)⟩)
      dsimp only [Pt.U, Pt.locs, Pt.cells, Pt.slots] at X81 l81 y81 z81 st81 hQ81
      subst l81 y81 z81
      obtain ⟨h81, e81⟩ : ∃ z, T81.heap = z := ⟨_, rfl⟩
      rw [e81] at hQ81
      obtain ⟨rfl, Nq81, Kq81, p81_E, p81_Fs, p81_Fi, p81_V⟩ := hQ81
      have N81 := Fr.app N80 Nq81
      replace Z0 := Nat.le_trans Z0 Kq81.1
      replace O := O.keep Kq81 (allS g_b2 (allS g_ba all0))
      refine own_join ?_ st81
      show Go _ _ _ _ _ _ _ _ (mkF m 83 #[.val (.int sel), .val (.int a), .val (.int b), .val (.int c_), .val (.int x_), .val (.int (2 : Int32)), .val (.int pk), .val (.int item), .val (.ref b2), .unset, .unset, .unset, .unset] [])
      refine own_via ?_ fun _ kt => XS.iload X81.here hx rfl (hb hby at_83) rfl kt
      show Go _ _ _ _ _ _ _ _ (mkF m 85 #[.val (.int sel), .val (.int a), .val (.int b), .val (.int c_), .val (.int x_), .val (.int (2 : Int32)), .val (.int pk), .val (.int item), .val (.ref b2), .unset, .unset, .unset, .unset] [(.int (2 : Int32))])
      refine own_via ?_ fun _ kt => XS.iconst X81.here hx rfl (hb hby at_85) kt
      show Go _ _ _ _ _ _ _ _ (mkF m 86 #[.val (.int sel), .val (.int a), .val (.int b), .val (.int c_), .val (.int x_), .val (.int (2 : Int32)), .val (.int pk), .val (.int item), .val (.ref b2), .unset, .unset, .unset, .unset] [(.int (2 : Int32)), (.int (2 : Int32))])
      refine own_via ?_ fun _ kt => XS.icmpYes X81.here hx rfl (pc0 := 86) (pc' := 95) rfl (hb hby at_86) rfl (flt (by decide : ¬ ((2 : Int32) < (2 : Int32)))).2.2.2 (by decide) (by decide) kt
      show Go _ _ _ _ _ _ _ _ (mkF m 95 #[.val (.int sel), .val (.int a), .val (.int b), .val (.int c_), .val (.int x_), .val (.int (2 : Int32)), .val (.int pk), .val (.int item), .val (.ref b2), .unset, .unset, .unset, .unset] [])
      refine own_via ?_ fun _ kt => XS.aload X81.here hx rfl (hb hby at_95) rfl rfl kt
      show Go _ _ _ _ _ _ _ _ (mkF m 97 #[.val (.int sel), .val (.int a), .val (.int b), .val (.int c_), .val (.int x_), .val (.int (2 : Int32)), .val (.int pk), .val (.int item), .val (.ref b2), .unset, .unset, .unset, .unset] [(.ref b2)])
      refine own_via ?_ fun _ kt => XS.iload X81.here hx rfl (hb hby at_97) rfl kt
      show Go _ _ _ _ _ _ _ _ (mkF m 99 #[.val (.int sel), .val (.int a), .val (.int b), .val (.int c_), .val (.int x_), .val (.int (2 : Int32)), .val (.int pk), .val (.int item), .val (.ref b2), .unset, .unset, .unset, .unset] [(.int item), (.ref b2)])
      obtain ⟨cq82, kq82, q82a, q82b, q82c⟩ := isOf hZ e81 p81_E
      obtain ⟨_, _, ⟨T82, L82, k82, n82⟩, -, X82, ⟨Lc82, hQ82, l82, y82, z82⟩, st82⟩ := X81.virtualBack hx (y := (⟨"com/example/aspen/aspen/IntList", "remove", "(I)V"⟩ : MethodName)) (z := (⟨"com/example/aspen/aspen/IntList", "remove", "(I)V"⟩ : MethodName)) hown (mvT hZ (hw _ (List.mem_of_getElem? (i := 13) rfl))) (mvT hZ (hw _ (List.mem_of_getElem? (i := 14) rfl))) (notFace_of_selects (args := #[]) (mvT hZ (hw _ (List.mem_of_getElem? (i := 16) rfl)))) (mvT hZ (hw _ (List.mem_of_getElem? (i := 16) rfl))) (mvT hZ (hw _ (List.mem_of_getElem? (i := 15) rfl))) (by decide) (backOf (W := 0) (rm_rem2 l Z a0 hw [] b2 ba ka item a b h81 n0 Z0 g_b2 g_ba neab p81_E p81_Fs p81_Fi p81_V) hZ (hw _ (List.mem_of_getElem? (i := 17) rfl)) (hw _ (List.mem_of_getElem? (i := 2) rfl)) (by decide) (by decide)) q82a q82c (g := (mkF m 99 #[.val (.int sel), .val (.int a), .val (.int b), .val (.int c_), .val (.int x_), .val (.int (2 : Int32)), .val (.int pk), .val (.int item), .val (.ref b2), .unset, .unset, .unset, .unset] [(.int item), (.ref b2)])) rfl (by rw [hml]; rfl) (Steps.refl _) (argsL := [(.int item)]) (rest := []) (lenOf pd3 rfl) rfl (by show 2 * 0 + _ ≤ _; exact Nat.le_of_eq rfl) (hb hby at_99) (fun _ _ => ⟨rfl, e81, (by decide : 2 + 0 ≤ _), (by decide : 6 + 0 ≤ _)⟩)
      dsimp only [Pt.U, Pt.locs, Pt.cells, Pt.slots] at X82 l82 y82 z82 st82 hQ82
      subst l82 y82 z82
      obtain ⟨h82, e82⟩ : ∃ z, T82.heap = z := ⟨_, rfl⟩
      rw [e82] at hQ82
      obtain ⟨rfl, Nq82, Kq82, hD82⟩ := hQ82
      have N82 := Fr.app N81 Nq82
      replace Z0 := Nat.le_trans Z0 Kq82.1
      replace O := O.keep Kq82 (allS g_b2 (allS g_ba all0))
      refine own_join ?_ st82
      rcases hD82 with ⟨hv82_0, p82_E, p82_Fs, p82_Fi, p82_V⟩ | ⟨hv82_0, hv82_1, p82_E, p82_Fs, p82_Fi, p82_V⟩ | ⟨hv82_0, hv82_1, p82_E, p82_Fs, p82_Fi, p82_V⟩
      · skip
        show Go _ _ _ _ _ _ _ _ (mkF m 102 #[.val (.int sel), .val (.int a), .val (.int b), .val (.int c_), .val (.int x_), .val (.int (2 : Int32)), .val (.int pk), .val (.int item), .val (.ref b2), .unset, .unset, .unset, .unset] [])
        refine own_via ?_ fun _ kt => XS.iconst X82.here hx rfl (hb hby at_102) kt
        show Go _ _ _ _ _ _ _ _ (mkF m 103 #[.val (.int sel), .val (.int a), .val (.int b), .val (.int c_), .val (.int x_), .val (.int (2 : Int32)), .val (.int pk), .val (.int item), .val (.ref b2), .unset, .unset, .unset, .unset] [(.int (3 : Int32))])
        obtain ⟨T83, h83, k83, X83, e83, E83, A83, st83⟩ := newP X82 hx hZ (hw _ (List.mem_of_getElem? (i := 20) rfl)) e82 (g := (mkF m 103 #[.val (.int sel), .val (.int a), .val (.int b), .val (.int c_), .val (.int x_), .val (.int (2 : Int32)), .val (.int pk), .val (.int item), .val (.ref b2), .unset, .unset, .unset, .unset] [(.int (3 : Int32))])) rfl (hb hby at_103) rfl (by decide) (cap := 3) (by decide) (by decide) (by decide) (by decide)
        obtain ⟨b83, g83⟩ : ∃ z, z = h82.size := ⟨_, rfl⟩
        rw [← g83] at A83 st83
        have ne84 : b2 ≠ b83 := by rw [g83]; exact Nat.ne_of_lt p82_E.lt
        have ne85 : ba ≠ b83 := by rw [g83]; exact Nat.ne_of_lt p82_V.lt
        have g_b83 : n0 ≤ b83 := by rw [g83]; exact Z0
        replace p82_E := p82_E.ext E83
        replace p82_Fs := p82_Fs.ext E83
        replace p82_Fi := p82_Fi.ext E83
        replace p82_V := p82_V.ext E83
        replace Z0 := Nat.le_trans Z0 E83.1
        replace O := O.ext E83
        have V83 : Arv Z h83 b83 k83 .int (3 : Int32) [(.int (0 : Int32)), (.int (0 : Int32)), (.int (0 : Int32))] (.int (0 : Int32)) := (Arv.new A83 (by decide)).pad (pad_rep [] (.int (0 : Int32)) 3)
        refine own_via ?_ st83
        show Go _ _ _ _ _ _ _ _ (mkF m 105 #[.val (.int sel), .val (.int a), .val (.int b), .val (.int c_), .val (.int x_), .val (.int (2 : Int32)), .val (.int pk), .val (.int item), .val (.ref b2), .unset, .unset, .unset, .unset] [(.ref b83)])
        refine own_via ?_ fun _ kt => XS.dup X83.here hx rfl (hb hby at_105) rfl rfl kt
        show Go _ _ _ _ _ _ _ _ (mkF m 106 #[.val (.int sel), .val (.int a), .val (.int b), .val (.int c_), .val (.int x_), .val (.int (2 : Int32)), .val (.int pk), .val (.int item), .val (.ref b2), .unset, .unset, .unset, .unset] [(.ref b83), (.ref b83)])
        refine own_via ?_ fun _ kt => XS.iconst X83.here hx rfl (hb hby at_106) kt
        show Go _ _ _ _ _ _ _ _ (mkF m 107 #[.val (.int sel), .val (.int a), .val (.int b), .val (.int c_), .val (.int x_), .val (.int (2 : Int32)), .val (.int pk), .val (.int item), .val (.ref b2), .unset, .unset, .unset, .unset] [(.int (0 : Int32)), (.ref b83), (.ref b83)])
        refine own_via ?_ fun _ kt => XS.iloadN X83.here hx rfl (hb hby at_107) rfl kt
        show Go _ _ _ _ _ _ _ _ (mkF m 108 #[.val (.int sel), .val (.int a), .val (.int b), .val (.int c_), .val (.int x_), .val (.int (2 : Int32)), .val (.int pk), .val (.int item), .val (.ref b2), .unset, .unset, .unset, .unset] [(.int a), (.int (0 : Int32)), (.ref b83), (.ref b83)])
        obtain ⟨cl86, Ar86, Aq86, AS86, AN86, AH86, AG86⟩ := V83
        have hin87 : ¬ ((0 : Int32) < 0 ∨ cl86.slots.size ≤ ((0 : Int32)).toNatClampNeg) := (inb_of AS86 ⟨by decide, by decide⟩)
        obtain ⟨T87, h87, X87, e87, W87, st87⟩ := stI X83 hx hZ e83 Ar86 (j := (0 : Int32)) hin87 (g := (mkF m 108 #[.val (.int sel), .val (.int a), .val (.int b), .val (.int c_), .val (.int x_), .val (.int (2 : Int32)), .val (.int pk), .val (.int item), .val (.ref b2), .unset, .unset, .unset, .unset] [(.int a), (.int (0 : Int32)), (.ref b83), (.ref b83)])) rfl rfl (hb hby at_108)
        have N87 := Fr.snoc X87 N82 g_b83
        have V87 : Arv Z h87 b83 k83 .int (3 : Int32) [(.int a), (.int (0 : Int32)), (.int (0 : Int32))] (.int (0 : Int32)) := Arv.set Ar86 Aq86 AS86 AN86 AH86 AG86 rfl W87 0 rfl (Nat.le_of_ble_eq_true rfl)
        replace p82_E := p82_E.wr W87
        replace p82_Fs := p82_Fs.other W87 (Or.inl ne84)
        replace p82_Fi := p82_Fi.other W87 (Or.inl ne84)
        replace p82_V := p82_V.other W87 ne85
        replace Z0 := Nat.le_trans Z0 (Keep.of_wr W87).1
        replace O := O.wr W87 g_b83
        refine own_via ?_ st87
        show Go _ _ _ _ _ _ _ _ (mkF m 109 #[.val (.int sel), .val (.int a), .val (.int b), .val (.int c_), .val (.int x_), .val (.int (2 : Int32)), .val (.int pk), .val (.int item), .val (.ref b2), .unset, .unset, .unset, .unset] [(.ref b83)])
        refine own_via ?_ fun _ kt => XS.dup X87.here hx rfl (hb hby at_109) rfl rfl kt
        show Go _ _ _ _ _ _ _ _ (mkF m 110 #[.val (.int sel), .val (.int a), .val (.int b), .val (.int c_), .val (.int x_), .val (.int (2 : Int32)), .val (.int pk), .val (.int item), .val (.ref b2), .unset, .unset, .unset, .unset] [(.ref b83), (.ref b83)])
        refine own_via ?_ fun _ kt => XS.iconst X87.here hx rfl (hb hby at_110) kt
        show Go _ _ _ _ _ _ _ _ (mkF m 111 #[.val (.int sel), .val (.int a), .val (.int b), .val (.int c_), .val (.int x_), .val (.int (2 : Int32)), .val (.int pk), .val (.int item), .val (.ref b2), .unset, .unset, .unset, .unset] [(.int (1 : Int32)), (.ref b83), (.ref b83)])
        refine own_via ?_ fun _ kt => XS.iloadN X87.here hx rfl (hb hby at_111) rfl kt
        show Go _ _ _ _ _ _ _ _ (mkF m 112 #[.val (.int sel), .val (.int a), .val (.int b), .val (.int c_), .val (.int x_), .val (.int (2 : Int32)), .val (.int pk), .val (.int item), .val (.ref b2), .unset, .unset, .unset, .unset] [(.int b), (.int (1 : Int32)), (.ref b83), (.ref b83)])
        obtain ⟨cl88, Ar88, Aq88, AS88, AN88, AH88, AG88⟩ := V87
        have hin89 : ¬ ((1 : Int32) < 0 ∨ cl88.slots.size ≤ ((1 : Int32)).toNatClampNeg) := (inb_of AS88 ⟨by decide, by decide⟩)
        obtain ⟨T89, h89, X89, e89, W89, st89⟩ := stI X87 hx hZ e87 Ar88 (j := (1 : Int32)) hin89 (g := (mkF m 112 #[.val (.int sel), .val (.int a), .val (.int b), .val (.int c_), .val (.int x_), .val (.int (2 : Int32)), .val (.int pk), .val (.int item), .val (.ref b2), .unset, .unset, .unset, .unset] [(.int b), (.int (1 : Int32)), (.ref b83), (.ref b83)])) rfl rfl (hb hby at_112)
        have N89 := Fr.snoc X89 N87 g_b83
        have V89 : Arv Z h89 b83 k83 .int (3 : Int32) [(.int a), (.int b), (.int (0 : Int32))] (.int (0 : Int32)) := Arv.set Ar88 Aq88 AS88 AN88 AH88 AG88 rfl W89 1 rfl (Nat.le_of_ble_eq_true rfl)
        replace p82_E := p82_E.wr W89
        replace p82_Fs := p82_Fs.other W89 (Or.inl ne84)
        replace p82_Fi := p82_Fi.other W89 (Or.inl ne84)
        replace p82_V := p82_V.other W89 ne85
        replace Z0 := Nat.le_trans Z0 (Keep.of_wr W89).1
        replace O := O.wr W89 g_b83
        refine own_via ?_ st89
        show Go _ _ _ _ _ _ _ _ (mkF m 113 #[.val (.int sel), .val (.int a), .val (.int b), .val (.int c_), .val (.int x_), .val (.int (2 : Int32)), .val (.int pk), .val (.int item), .val (.ref b2), .unset, .unset, .unset, .unset] [(.ref b83)])
        refine own_via ?_ fun _ kt => XS.dup X89.here hx rfl (hb hby at_113) rfl rfl kt
        show Go _ _ _ _ _ _ _ _ (mkF m 114 #[.val (.int sel), .val (.int a), .val (.int b), .val (.int c_), .val (.int x_), .val (.int (2 : Int32)), .val (.int pk), .val (.int item), .val (.ref b2), .unset, .unset, .unset, .unset] [(.ref b83), (.ref b83)])
        refine own_via ?_ fun _ kt => XS.iconst X89.here hx rfl (hb hby at_114) kt
        show Go _ _ _ _ _ _ _ _ (mkF m 115 #[.val (.int sel), .val (.int a), .val (.int b), .val (.int c_), .val (.int x_), .val (.int (2 : Int32)), .val (.int pk), .val (.int item), .val (.ref b2), .unset, .unset, .unset, .unset] [(.int (2 : Int32)), (.ref b83), (.ref b83)])
        refine own_via ?_ fun _ kt => XS.iloadN X89.here hx rfl (hb hby at_115) rfl kt
        show Go _ _ _ _ _ _ _ _ (mkF m 116 #[.val (.int sel), .val (.int a), .val (.int b), .val (.int c_), .val (.int x_), .val (.int (2 : Int32)), .val (.int pk), .val (.int item), .val (.ref b2), .unset, .unset, .unset, .unset] [(.int c_), (.int (2 : Int32)), (.ref b83), (.ref b83)])
        obtain ⟨cl90, Ar90, Aq90, AS90, AN90, AH90, AG90⟩ := V89
        have hin91 : ¬ ((2 : Int32) < 0 ∨ cl90.slots.size ≤ ((2 : Int32)).toNatClampNeg) := (inb_of AS90 ⟨by decide, by decide⟩)
        obtain ⟨T91, h91, X91, e91, W91, st91⟩ := stI X89 hx hZ e89 Ar90 (j := (2 : Int32)) hin91 (g := (mkF m 116 #[.val (.int sel), .val (.int a), .val (.int b), .val (.int c_), .val (.int x_), .val (.int (2 : Int32)), .val (.int pk), .val (.int item), .val (.ref b2), .unset, .unset, .unset, .unset] [(.int c_), (.int (2 : Int32)), (.ref b83), (.ref b83)])) rfl rfl (hb hby at_116)
        have N91 := Fr.snoc X91 N89 g_b83
        have V91 : Arv Z h91 b83 k83 .int (3 : Int32) [(.int a), (.int b), (.int c_)] (.int (0 : Int32)) := Arv.set Ar90 Aq90 AS90 AN90 AH90 AG90 rfl W91 2 rfl (Nat.le_of_ble_eq_true rfl)
        replace p82_E := p82_E.wr W91
        replace p82_Fs := p82_Fs.other W91 (Or.inl ne84)
        replace p82_Fi := p82_Fi.other W91 (Or.inl ne84)
        replace p82_V := p82_V.other W91 ne85
        replace Z0 := Nat.le_trans Z0 (Keep.of_wr W91).1
        replace O := O.wr W91 g_b83
        refine own_via ?_ st91
        show Go _ _ _ _ _ _ _ _ (mkF m 117 #[.val (.int sel), .val (.int a), .val (.int b), .val (.int c_), .val (.int x_), .val (.int (2 : Int32)), .val (.int pk), .val (.int item), .val (.ref b2), .unset, .unset, .unset, .unset] [(.ref b83)])
        refine own_via ?_ fun _ kt => XS.astore X91.here hx rfl (hb hby at_117) rfl rfl (l' := #[.val (.int sel), .val (.int a), .val (.int b), .val (.int c_), .val (.int x_), .val (.int (2 : Int32)), .val (.int pk), .val (.int item), .val (.ref b2), .val (.ref b83), .unset, .unset, .unset]) rfl kt
        show Go _ _ _ _ _ _ _ _ (mkF m 119 #[.val (.int sel), .val (.int a), .val (.int b), .val (.int c_), .val (.int x_), .val (.int (2 : Int32)), .val (.int pk), .val (.int item), .val (.ref b2), .val (.ref b83), .unset, .unset, .unset] [])
        refine own_via ?_ fun _ kt => XS.iconst X91.here hx rfl (hb hby at_119) kt
        show Go _ _ _ _ _ _ _ _ (mkF m 120 #[.val (.int sel), .val (.int a), .val (.int b), .val (.int c_), .val (.int x_), .val (.int (2 : Int32)), .val (.int pk), .val (.int item), .val (.ref b2), .val (.ref b83), .unset, .unset, .unset] [(.int (-1 : Int32))])
        refine own_via ?_ fun _ kt => XS.istore X91.here hx rfl (hb hby at_120) rfl (l' := #[.val (.int sel), .val (.int a), .val (.int b), .val (.int c_), .val (.int x_), .val (.int (2 : Int32)), .val (.int pk), .val (.int item), .val (.ref b2), .val (.ref b83), .val (.int (-1 : Int32)), .unset, .unset]) rfl kt
        show Go _ _ _ _ _ _ _ _ (mkF m 122 #[.val (.int sel), .val (.int a), .val (.int b), .val (.int c_), .val (.int x_), .val (.int (2 : Int32)), .val (.int pk), .val (.int item), .val (.ref b2), .val (.ref b83), .val (.int (-1 : Int32)), .unset, .unset] [])
        refine own_via ?_ fun _ kt => XS.iload X91.here hx rfl (hb hby at_122) rfl kt
        show Go _ _ _ _ _ _ _ _ (mkF m 124 #[.val (.int sel), .val (.int a), .val (.int b), .val (.int c_), .val (.int x_), .val (.int (2 : Int32)), .val (.int pk), .val (.int item), .val (.ref b2), .val (.ref b83), .val (.int (-1 : Int32)), .unset, .unset] [(.int (2 : Int32))])
        refine own_via ?_ fun _ kt => XS.ifNo X91.here hx rfl (hb hby at_124) rfl ((if0 _ _).trans (tlt (by decide : ((0 : Int32) < (2 : Int32)))).2.2.2) kt
        show Go _ _ _ _ _ _ _ _ (mkF m 127 #[.val (.int sel), .val (.int a), .val (.int b), .val (.int c_), .val (.int x_), .val (.int (2 : Int32)), .val (.int pk), .val (.int item), .val (.ref b2), .val (.ref b83), .val (.int (-1 : Int32)), .unset, .unset] [])
        refine own_via ?_ fun _ kt => XS.iloadN X91.here hx rfl (hb hby at_127) rfl kt
        show Go _ _ _ _ _ _ _ _ (mkF m 128 #[.val (.int sel), .val (.int a), .val (.int b), .val (.int c_), .val (.int x_), .val (.int (2 : Int32)), .val (.int pk), .val (.int item), .val (.ref b2), .val (.ref b83), .val (.int (-1 : Int32)), .unset, .unset] [(.int a)])
        refine own_via ?_ fun _ kt => XS.iload X91.here hx rfl (hb hby at_128) rfl kt
        show Go _ _ _ _ _ _ _ _ (mkF m 130 #[.val (.int sel), .val (.int a), .val (.int b), .val (.int c_), .val (.int x_), .val (.int (2 : Int32)), .val (.int pk), .val (.int item), .val (.ref b2), .val (.ref b83), .val (.int (-1 : Int32)), .unset, .unset] [(.int item), (.int a)])
        refine own_via ?_ fun _ kt => XS.icmpNo X91.here hx rfl (hb hby at_130) rfl (teq hv82_0).2 kt
        show Go _ _ _ _ _ _ _ _ (mkF m 133 #[.val (.int sel), .val (.int a), .val (.int b), .val (.int c_), .val (.int x_), .val (.int (2 : Int32)), .val (.int pk), .val (.int item), .val (.ref b2), .val (.ref b83), .val (.int (-1 : Int32)), .unset, .unset] [])
        refine own_via ?_ fun _ kt => XS.iconst X91.here hx rfl (hb hby at_133) kt
        show Go _ _ _ _ _ _ _ _ (mkF m 134 #[.val (.int sel), .val (.int a), .val (.int b), .val (.int c_), .val (.int x_), .val (.int (2 : Int32)), .val (.int pk), .val (.int item), .val (.ref b2), .val (.ref b83), .val (.int (-1 : Int32)), .unset, .unset] [(.int (0 : Int32))])
        refine own_via ?_ fun _ kt => XS.istore X91.here hx rfl (hb hby at_134) rfl (l' := #[.val (.int sel), .val (.int a), .val (.int b), .val (.int c_), .val (.int x_), .val (.int (2 : Int32)), .val (.int pk), .val (.int item), .val (.ref b2), .val (.ref b83), .val (.int (0 : Int32)), .unset, .unset]) rfl kt
        show Go _ _ _ _ _ _ _ _ (mkF m 136 #[.val (.int sel), .val (.int a), .val (.int b), .val (.int c_), .val (.int x_), .val (.int (2 : Int32)), .val (.int pk), .val (.int item), .val (.ref b2), .val (.ref b83), .val (.int (0 : Int32)), .unset, .unset] [])
        refine own_via ?_ fun _ kt => XS.goto X91.here hx rfl (pc0 := 136) (pc' := 172) rfl (hb hby at_136) (by decide) (by decide) kt
        show Go _ _ _ _ _ _ _ _ (mkF m 172 #[.val (.int sel), .val (.int a), .val (.int b), .val (.int c_), .val (.int x_), .val (.int (2 : Int32)), .val (.int pk), .val (.int item), .val (.ref b2), .val (.ref b83), .val (.int (0 : Int32)), .unset, .unset] [])
        refine own_via ?_ fun _ kt => XS.iconst X91.here hx rfl (hb hby at_172) kt
        show Go _ _ _ _ _ _ _ _ (mkF m 173 #[.val (.int sel), .val (.int a), .val (.int b), .val (.int c_), .val (.int x_), .val (.int (2 : Int32)), .val (.int pk), .val (.int item), .val (.ref b2), .val (.ref b83), .val (.int (0 : Int32)), .unset, .unset] [(.int (3 : Int32))])
        obtain ⟨T92, h92, k92, X92, e92, E92, A92, st92⟩ := newP X91 hx hZ (hw _ (List.mem_of_getElem? (i := 20) rfl)) e91 (g := (mkF m 173 #[.val (.int sel), .val (.int a), .val (.int b), .val (.int c_), .val (.int x_), .val (.int (2 : Int32)), .val (.int pk), .val (.int item), .val (.ref b2), .val (.ref b83), .val (.int (0 : Int32)), .unset, .unset] [(.int (3 : Int32))])) rfl (hb hby at_173) rfl (by decide) (cap := 3) (by decide) (by decide) (by decide) (by decide)
        obtain ⟨b92, g92⟩ : ∃ z, z = h91.size := ⟨_, rfl⟩
        rw [← g92] at A92 st92
        have ne93 : b2 ≠ b92 := by rw [g92]; exact Nat.ne_of_lt p82_E.lt
        have ne94 : ba ≠ b92 := by rw [g92]; exact Nat.ne_of_lt p82_V.lt
        have ne95 : b83 ≠ b92 := by rw [g92]; exact Nat.ne_of_lt V91.lt
        have g_b92 : n0 ≤ b92 := by rw [g92]; exact Z0
        replace p82_E := p82_E.ext E92
        replace p82_Fs := p82_Fs.ext E92
        replace p82_Fi := p82_Fi.ext E92
        replace p82_V := p82_V.ext E92
        replace V91 := V91.ext E92
        replace Z0 := Nat.le_trans Z0 E92.1
        replace O := O.ext E92
        have V92 : Arv Z h92 b92 k92 .int (3 : Int32) [(.int (0 : Int32)), (.int (0 : Int32)), (.int (0 : Int32))] (.int (0 : Int32)) := (Arv.new A92 (by decide)).pad (pad_rep [] (.int (0 : Int32)) 3)
        refine own_via ?_ st92
        show Go _ _ _ _ _ _ _ _ (mkF m 175 #[.val (.int sel), .val (.int a), .val (.int b), .val (.int c_), .val (.int x_), .val (.int (2 : Int32)), .val (.int pk), .val (.int item), .val (.ref b2), .val (.ref b83), .val (.int (0 : Int32)), .unset, .unset] [(.ref b92)])
        refine own_via ?_ fun _ kt => XS.dup X92.here hx rfl (hb hby at_175) rfl rfl kt
        show Go _ _ _ _ _ _ _ _ (mkF m 176 #[.val (.int sel), .val (.int a), .val (.int b), .val (.int c_), .val (.int x_), .val (.int (2 : Int32)), .val (.int pk), .val (.int item), .val (.ref b2), .val (.ref b83), .val (.int (0 : Int32)), .unset, .unset] [(.ref b92), (.ref b92)])
        refine own_via ?_ fun _ kt => XS.iconst X92.here hx rfl (hb hby at_176) kt
        show Go _ _ _ _ _ _ _ _ (mkF m 177 #[.val (.int sel), .val (.int a), .val (.int b), .val (.int c_), .val (.int x_), .val (.int (2 : Int32)), .val (.int pk), .val (.int item), .val (.ref b2), .val (.ref b83), .val (.int (0 : Int32)), .unset, .unset] [(.int (0 : Int32)), (.ref b92), (.ref b92)])
        refine own_via ?_ fun _ kt => XS.iloadN X92.here hx rfl (hb hby at_177) rfl kt
        show Go _ _ _ _ _ _ _ _ (mkF m 178 #[.val (.int sel), .val (.int a), .val (.int b), .val (.int c_), .val (.int x_), .val (.int (2 : Int32)), .val (.int pk), .val (.int item), .val (.ref b2), .val (.ref b83), .val (.int (0 : Int32)), .unset, .unset] [(.int a), (.int (0 : Int32)), (.ref b92), (.ref b92)])
        obtain ⟨cl96, Ar96, Aq96, AS96, AN96, AH96, AG96⟩ := V92
        have hin97 : ¬ ((0 : Int32) < 0 ∨ cl96.slots.size ≤ ((0 : Int32)).toNatClampNeg) := (inb_of AS96 ⟨by decide, by decide⟩)
        obtain ⟨T97, h97, X97, e97, W97, st97⟩ := stI X92 hx hZ e92 Ar96 (j := (0 : Int32)) hin97 (g := (mkF m 178 #[.val (.int sel), .val (.int a), .val (.int b), .val (.int c_), .val (.int x_), .val (.int (2 : Int32)), .val (.int pk), .val (.int item), .val (.ref b2), .val (.ref b83), .val (.int (0 : Int32)), .unset, .unset] [(.int a), (.int (0 : Int32)), (.ref b92), (.ref b92)])) rfl rfl (hb hby at_178)
        have N97 := Fr.snoc X97 N91 g_b92
        have V97 : Arv Z h97 b92 k92 .int (3 : Int32) [(.int a), (.int (0 : Int32)), (.int (0 : Int32))] (.int (0 : Int32)) := Arv.set Ar96 Aq96 AS96 AN96 AH96 AG96 rfl W97 0 rfl (Nat.le_of_ble_eq_true rfl)
        replace p82_E := p82_E.wr W97
        replace p82_Fs := p82_Fs.other W97 (Or.inl ne93)
        replace p82_Fi := p82_Fi.other W97 (Or.inl ne93)
        replace p82_V := p82_V.other W97 ne94
        replace V91 := V91.other W97 ne95
        replace Z0 := Nat.le_trans Z0 (Keep.of_wr W97).1
        replace O := O.wr W97 g_b92
        refine own_via ?_ st97
        show Go _ _ _ _ _ _ _ _ (mkF m 179 #[.val (.int sel), .val (.int a), .val (.int b), .val (.int c_), .val (.int x_), .val (.int (2 : Int32)), .val (.int pk), .val (.int item), .val (.ref b2), .val (.ref b83), .val (.int (0 : Int32)), .unset, .unset] [(.ref b92)])
        refine own_via ?_ fun _ kt => XS.dup X97.here hx rfl (hb hby at_179) rfl rfl kt
        show Go _ _ _ _ _ _ _ _ (mkF m 180 #[.val (.int sel), .val (.int a), .val (.int b), .val (.int c_), .val (.int x_), .val (.int (2 : Int32)), .val (.int pk), .val (.int item), .val (.ref b2), .val (.ref b83), .val (.int (0 : Int32)), .unset, .unset] [(.ref b92), (.ref b92)])
        refine own_via ?_ fun _ kt => XS.iconst X97.here hx rfl (hb hby at_180) kt
        show Go _ _ _ _ _ _ _ _ (mkF m 181 #[.val (.int sel), .val (.int a), .val (.int b), .val (.int c_), .val (.int x_), .val (.int (2 : Int32)), .val (.int pk), .val (.int item), .val (.ref b2), .val (.ref b83), .val (.int (0 : Int32)), .unset, .unset] [(.int (1 : Int32)), (.ref b92), (.ref b92)])
        refine own_via ?_ fun _ kt => XS.iloadN X97.here hx rfl (hb hby at_181) rfl kt
        show Go _ _ _ _ _ _ _ _ (mkF m 182 #[.val (.int sel), .val (.int a), .val (.int b), .val (.int c_), .val (.int x_), .val (.int (2 : Int32)), .val (.int pk), .val (.int item), .val (.ref b2), .val (.ref b83), .val (.int (0 : Int32)), .unset, .unset] [(.int b), (.int (1 : Int32)), (.ref b92), (.ref b92)])
        obtain ⟨cl98, Ar98, Aq98, AS98, AN98, AH98, AG98⟩ := V97
        have hin99 : ¬ ((1 : Int32) < 0 ∨ cl98.slots.size ≤ ((1 : Int32)).toNatClampNeg) := (inb_of AS98 ⟨by decide, by decide⟩)
        obtain ⟨T99, h99, X99, e99, W99, st99⟩ := stI X97 hx hZ e97 Ar98 (j := (1 : Int32)) hin99 (g := (mkF m 182 #[.val (.int sel), .val (.int a), .val (.int b), .val (.int c_), .val (.int x_), .val (.int (2 : Int32)), .val (.int pk), .val (.int item), .val (.ref b2), .val (.ref b83), .val (.int (0 : Int32)), .unset, .unset] [(.int b), (.int (1 : Int32)), (.ref b92), (.ref b92)])) rfl rfl (hb hby at_182)
        have N99 := Fr.snoc X99 N97 g_b92
        have V99 : Arv Z h99 b92 k92 .int (3 : Int32) [(.int a), (.int b), (.int (0 : Int32))] (.int (0 : Int32)) := Arv.set Ar98 Aq98 AS98 AN98 AH98 AG98 rfl W99 1 rfl (Nat.le_of_ble_eq_true rfl)
        replace p82_E := p82_E.wr W99
        replace p82_Fs := p82_Fs.other W99 (Or.inl ne93)
        replace p82_Fi := p82_Fi.other W99 (Or.inl ne93)
        replace p82_V := p82_V.other W99 ne94
        replace V91 := V91.other W99 ne95
        replace Z0 := Nat.le_trans Z0 (Keep.of_wr W99).1
        replace O := O.wr W99 g_b92
        refine own_via ?_ st99
        show Go _ _ _ _ _ _ _ _ (mkF m 183 #[.val (.int sel), .val (.int a), .val (.int b), .val (.int c_), .val (.int x_), .val (.int (2 : Int32)), .val (.int pk), .val (.int item), .val (.ref b2), .val (.ref b83), .val (.int (0 : Int32)), .unset, .unset] [(.ref b92)])
        refine own_via ?_ fun _ kt => XS.dup X99.here hx rfl (hb hby at_183) rfl rfl kt
        show Go _ _ _ _ _ _ _ _ (mkF m 184 #[.val (.int sel), .val (.int a), .val (.int b), .val (.int c_), .val (.int x_), .val (.int (2 : Int32)), .val (.int pk), .val (.int item), .val (.ref b2), .val (.ref b83), .val (.int (0 : Int32)), .unset, .unset] [(.ref b92), (.ref b92)])
        refine own_via ?_ fun _ kt => XS.iconst X99.here hx rfl (hb hby at_184) kt
        show Go _ _ _ _ _ _ _ _ (mkF m 185 #[.val (.int sel), .val (.int a), .val (.int b), .val (.int c_), .val (.int x_), .val (.int (2 : Int32)), .val (.int pk), .val (.int item), .val (.ref b2), .val (.ref b83), .val (.int (0 : Int32)), .unset, .unset] [(.int (2 : Int32)), (.ref b92), (.ref b92)])
        refine own_via ?_ fun _ kt => XS.iloadN X99.here hx rfl (hb hby at_185) rfl kt
        show Go _ _ _ _ _ _ _ _ (mkF m 186 #[.val (.int sel), .val (.int a), .val (.int b), .val (.int c_), .val (.int x_), .val (.int (2 : Int32)), .val (.int pk), .val (.int item), .val (.ref b2), .val (.ref b83), .val (.int (0 : Int32)), .unset, .unset] [(.int c_), (.int (2 : Int32)), (.ref b92), (.ref b92)])
        obtain ⟨cl100, Ar100, Aq100, AS100, AN100, AH100, AG100⟩ := V99
        have hin101 : ¬ ((2 : Int32) < 0 ∨ cl100.slots.size ≤ ((2 : Int32)).toNatClampNeg) := (inb_of AS100 ⟨by decide, by decide⟩)
        obtain ⟨T101, h101, X101, e101, W101, st101⟩ := stI X99 hx hZ e99 Ar100 (j := (2 : Int32)) hin101 (g := (mkF m 186 #[.val (.int sel), .val (.int a), .val (.int b), .val (.int c_), .val (.int x_), .val (.int (2 : Int32)), .val (.int pk), .val (.int item), .val (.ref b2), .val (.ref b83), .val (.int (0 : Int32)), .unset, .unset] [(.int c_), (.int (2 : Int32)), (.ref b92), (.ref b92)])) rfl rfl (hb hby at_186)
        have N101 := Fr.snoc X101 N99 g_b92
        have V101 : Arv Z h101 b92 k92 .int (3 : Int32) [(.int a), (.int b), (.int c_)] (.int (0 : Int32)) := Arv.set Ar100 Aq100 AS100 AN100 AH100 AG100 rfl W101 2 rfl (Nat.le_of_ble_eq_true rfl)
        replace p82_E := p82_E.wr W101
        replace p82_Fs := p82_Fs.other W101 (Or.inl ne93)
        replace p82_Fi := p82_Fi.other W101 (Or.inl ne93)
        replace p82_V := p82_V.other W101 ne94
        replace V91 := V91.other W101 ne95
        replace Z0 := Nat.le_trans Z0 (Keep.of_wr W101).1
        replace O := O.wr W101 g_b92
        refine own_via ?_ st101
        show Go _ _ _ _ _ _ _ _ (mkF m 187 #[.val (.int sel), .val (.int a), .val (.int b), .val (.int c_), .val (.int x_), .val (.int (2 : Int32)), .val (.int pk), .val (.int item), .val (.ref b2), .val (.ref b83), .val (.int (0 : Int32)), .unset, .unset] [(.ref b92)])
        refine own_via ?_ fun _ kt => XS.astore X101.here hx rfl (hb hby at_187) rfl rfl (l' := #[.val (.int sel), .val (.int a), .val (.int b), .val (.int c_), .val (.int x_), .val (.int (2 : Int32)), .val (.int pk), .val (.int item), .val (.ref b2), .val (.ref b83), .val (.int (0 : Int32)), .val (.ref b92), .unset]) rfl kt
        show Go _ _ _ _ _ _ _ _ (mkF m 189 #[.val (.int sel), .val (.int a), .val (.int b), .val (.int c_), .val (.int x_), .val (.int (2 : Int32)), .val (.int pk), .val (.int item), .val (.ref b2), .val (.ref b83), .val (.int (0 : Int32)), .val (.ref b92), .unset] [])
        refine own_via ?_ fun _ kt => XS.iload X101.here hx rfl (hb hby at_189) rfl kt
        show Go _ _ _ _ _ _ _ _ (mkF m 191 #[.val (.int sel), .val (.int a), .val (.int b), .val (.int c_), .val (.int x_), .val (.int (2 : Int32)), .val (.int pk), .val (.int item), .val (.ref b2), .val (.ref b83), .val (.int (0 : Int32)), .val (.ref b92), .unset] [(.int (2 : Int32))])
        refine own_via ?_ fun _ kt => XS.istore X101.here hx rfl (hb hby at_191) rfl (l' := #[.val (.int sel), .val (.int a), .val (.int b), .val (.int c_), .val (.int x_), .val (.int (2 : Int32)), .val (.int pk), .val (.int item), .val (.ref b2), .val (.ref b83), .val (.int (0 : Int32)), .val (.ref b92), .val (.int (2 : Int32))]) rfl kt
        show Go _ _ _ _ _ _ _ _ (mkF m 193 #[.val (.int sel), .val (.int a), .val (.int b), .val (.int c_), .val (.int x_), .val (.int (2 : Int32)), .val (.int pk), .val (.int item), .val (.ref b2), .val (.ref b83), .val (.int (0 : Int32)), .val (.ref b92), .val (.int (2 : Int32))] [])
        refine own_via ?_ fun _ kt => XS.iload X101.here hx rfl (hb hby at_193) rfl kt
        show Go _ _ _ _ _ _ _ _ (mkF m 195 #[.val (.int sel), .val (.int a), .val (.int b), .val (.int c_), .val (.int x_), .val (.int (2 : Int32)), .val (.int pk), .val (.int item), .val (.ref b2), .val (.ref b83), .val (.int (0 : Int32)), .val (.ref b92), .val (.int (2 : Int32))] [(.int (0 : Int32))])
        refine own_via ?_ fun _ kt => XS.ifNo X101.here hx rfl (hb hby at_195) rfl ((if0 _ _).trans (flt (by decide : ¬ ((0 : Int32) < (0 : Int32)))).1) kt
        show Go _ _ _ _ _ _ _ _ (mkF m 198 #[.val (.int sel), .val (.int a), .val (.int b), .val (.int c_), .val (.int x_), .val (.int (2 : Int32)), .val (.int pk), .val (.int item), .val (.ref b2), .val (.ref b83), .val (.int (0 : Int32)), .val (.ref b92), .val (.int (2 : Int32))] [])
        refine own_via ?_ fun _ kt => XS.iload X101.here hx rfl (hb hby at_198) rfl kt
        show Go _ _ _ _ _ _ _ _ (mkF m 200 #[.val (.int sel), .val (.int a), .val (.int b), .val (.int c_), .val (.int x_), .val (.int (2 : Int32)), .val (.int pk), .val (.int item), .val (.ref b2), .val (.ref b83), .val (.int (0 : Int32)), .val (.ref b92), .val (.int (2 : Int32))] [(.int (2 : Int32))])
        refine own_via ?_ fun _ kt => XS.iconst X101.here hx rfl (hb hby at_200) kt
        show Go _ _ _ _ _ _ _ _ (mkF m 201 #[.val (.int sel), .val (.int a), .val (.int b), .val (.int c_), .val (.int x_), .val (.int (2 : Int32)), .val (.int pk), .val (.int item), .val (.ref b2), .val (.ref b83), .val (.int (0 : Int32)), .val (.ref b92), .val (.int (2 : Int32))] [(.int (1 : Int32)), (.int (2 : Int32))])
        refine own_via ?_ fun _ kt => XS.isub X101.here hx rfl (hb hby at_201) rfl kt
        show Go _ _ _ _ _ _ _ _ (mkF m 202 #[.val (.int sel), .val (.int a), .val (.int b), .val (.int c_), .val (.int x_), .val (.int (2 : Int32)), .val (.int pk), .val (.int item), .val (.ref b2), .val (.ref b83), .val (.int (0 : Int32)), .val (.ref b92), .val (.int (2 : Int32))] [(.int ((2 : Int32) - (1 : Int32)))])
        rw [show ((2 : Int32) - (1 : Int32)) = (1 : Int32) from by decide]
        show Go _ _ _ _ _ _ _ _ (mkF m 202 #[.val (.int sel), .val (.int a), .val (.int b), .val (.int c_), .val (.int x_), .val (.int (2 : Int32)), .val (.int pk), .val (.int item), .val (.ref b2), .val (.ref b83), .val (.int (0 : Int32)), .val (.ref b92), .val (.int (2 : Int32))] [(.int (1 : Int32))])
        refine own_via ?_ fun _ kt => XS.istore X101.here hx rfl (hb hby at_202) rfl (l' := #[.val (.int sel), .val (.int a), .val (.int b), .val (.int c_), .val (.int x_), .val (.int (2 : Int32)), .val (.int pk), .val (.int item), .val (.ref b2), .val (.ref b83), .val (.int (0 : Int32)), .val (.ref b92), .val (.int (1 : Int32))]) rfl kt
        show Go _ _ _ _ _ _ _ _ (mkF m 204 #[.val (.int sel), .val (.int a), .val (.int b), .val (.int c_), .val (.int x_), .val (.int (2 : Int32)), .val (.int pk), .val (.int item), .val (.ref b2), .val (.ref b83), .val (.int (0 : Int32)), .val (.ref b92), .val (.int (1 : Int32))] [])
        refine own_via ?_ fun _ kt => XS.aload X101.here hx rfl (hb hby at_204) rfl rfl kt
        show Go _ _ _ _ _ _ _ _ (mkF m 206 #[.val (.int sel), .val (.int a), .val (.int b), .val (.int c_), .val (.int x_), .val (.int (2 : Int32)), .val (.int pk), .val (.int item), .val (.ref b2), .val (.ref b83), .val (.int (0 : Int32)), .val (.ref b92), .val (.int (1 : Int32))] [(.ref b92)])
        refine own_via ?_ fun _ kt => XS.iload X101.here hx rfl (hb hby at_206) rfl kt
        show Go _ _ _ _ _ _ _ _ (mkF m 208 #[.val (.int sel), .val (.int a), .val (.int b), .val (.int c_), .val (.int x_), .val (.int (2 : Int32)), .val (.int pk), .val (.int item), .val (.ref b2), .val (.ref b83), .val (.int (0 : Int32)), .val (.ref b92), .val (.int (1 : Int32))] [(.int (0 : Int32)), (.ref b92)])
        refine own_via ?_ fun _ kt => XS.aload X101.here hx rfl (hb hby at_208) rfl rfl kt
        show Go _ _ _ _ _ _ _ _ (mkF m 210 #[.val (.int sel), .val (.int a), .val (.int b), .val (.int c_), .val (.int x_), .val (.int (2 : Int32)), .val (.int pk), .val (.int item), .val (.ref b2), .val (.ref b83), .val (.int (0 : Int32)), .val (.ref b92), .val (.int (1 : Int32))] [(.ref b83), (.int (0 : Int32)), (.ref b92)])
        refine own_via ?_ fun _ kt => XS.iload X101.here hx rfl (hb hby at_210) rfl kt
        show Go _ _ _ _ _ _ _ _ (mkF m 212 #[.val (.int sel), .val (.int a), .val (.int b), .val (.int c_), .val (.int x_), .val (.int (2 : Int32)), .val (.int pk), .val (.int item), .val (.ref b2), .val (.ref b83), .val (.int (0 : Int32)), .val (.ref b92), .val (.int (1 : Int32))] [(.int (2 : Int32)), (.ref b83), (.int (0 : Int32)), (.ref b92)])
        refine own_via ?_ fun _ kt => XS.iconst X101.here hx rfl (hb hby at_212) kt
        show Go _ _ _ _ _ _ _ _ (mkF m 213 #[.val (.int sel), .val (.int a), .val (.int b), .val (.int c_), .val (.int x_), .val (.int (2 : Int32)), .val (.int pk), .val (.int item), .val (.ref b2), .val (.ref b83), .val (.int (0 : Int32)), .val (.ref b92), .val (.int (1 : Int32))] [(.int (1 : Int32)), (.int (2 : Int32)), (.ref b83), (.int (0 : Int32)), (.ref b92)])
        refine own_via ?_ fun _ kt => XS.isub X101.here hx rfl (hb hby at_213) rfl kt
        show Go _ _ _ _ _ _ _ _ (mkF m 214 #[.val (.int sel), .val (.int a), .val (.int b), .val (.int c_), .val (.int x_), .val (.int (2 : Int32)), .val (.int pk), .val (.int item), .val (.ref b2), .val (.ref b83), .val (.int (0 : Int32)), .val (.ref b92), .val (.int (1 : Int32))] [(.int ((2 : Int32) - (1 : Int32))), (.ref b83), (.int (0 : Int32)), (.ref b92)])
        rw [show ((2 : Int32) - (1 : Int32)) = (1 : Int32) from by decide]
        show Go _ _ _ _ _ _ _ _ (mkF m 214 #[.val (.int sel), .val (.int a), .val (.int b), .val (.int c_), .val (.int x_), .val (.int (2 : Int32)), .val (.int pk), .val (.int item), .val (.ref b2), .val (.ref b83), .val (.int (0 : Int32)), .val (.ref b92), .val (.int (1 : Int32))] [(.int (1 : Int32)), (.ref b83), (.int (0 : Int32)), (.ref b92)])
        obtain ⟨cl102, Ar102, Aq102, AS102, AN102, AH102, AG102⟩ := V91
        have V91 : Arv Z h101 b83 k83 .int (3 : Int32) [(.int a), (.int b), (.int c_)] (.int (0 : Int32)) := ⟨cl102, Ar102, Aq102, AS102, AN102, AH102, AG102⟩
        have hin103 : ¬ ((1 : Int32) < 0 ∨ cl102.slots.size ≤ ((1 : Int32)).toNatClampNeg) := (inb_of AS102 ⟨by decide, by decide⟩)
        have hat103 : cl102.slots[((1 : Int32)).toNatClampNeg]? = some (.int b) := (AH102.at hin103 rfl)
        refine own_via ?_ fun _ kt => X101.iaload hx (j := (1 : Int32)) (v := (.int b)) (by rw [e101]; exact Ar102.1) (State.isArrayOf_alike hZ.alike Ar102.2.1) Ar102.2.2 hin103 hat103 (g := (mkF m 214 #[.val (.int sel), .val (.int a), .val (.int b), .val (.int c_), .val (.int x_), .val (.int (2 : Int32)), .val (.int pk), .val (.int item), .val (.ref b2), .val (.ref b83), .val (.int (0 : Int32)), .val (.ref b92), .val (.int (1 : Int32))] [(.int (1 : Int32)), (.ref b83), (.int (0 : Int32)), (.ref b92)])) rfl rfl (hb hby at_214) _ kt
        show Go _ _ _ _ _ _ _ _ (mkF m 215 #[.val (.int sel), .val (.int a), .val (.int b), .val (.int c_), .val (.int x_), .val (.int (2 : Int32)), .val (.int pk), .val (.int item), .val (.ref b2), .val (.ref b83), .val (.int (0 : Int32)), .val (.ref b92), .val (.int (1 : Int32))] [(.int b), (.int (0 : Int32)), (.ref b92)])
        obtain ⟨cl104, Ar104, Aq104, AS104, AN104, AH104, AG104⟩ := V101
        have hin105 : ¬ ((0 : Int32) < 0 ∨ cl104.slots.size ≤ ((0 : Int32)).toNatClampNeg) := (inb_of AS104 ⟨by decide, by decide⟩)
        obtain ⟨T105, h105, X105, e105, W105, st105⟩ := stI X101 hx hZ e101 Ar104 (j := (0 : Int32)) hin105 (g := (mkF m 215 #[.val (.int sel), .val (.int a), .val (.int b), .val (.int c_), .val (.int x_), .val (.int (2 : Int32)), .val (.int pk), .val (.int item), .val (.ref b2), .val (.ref b83), .val (.int (0 : Int32)), .val (.ref b92), .val (.int (1 : Int32))] [(.int b), (.int (0 : Int32)), (.ref b92)])) rfl rfl (hb hby at_215)
        have N105 := Fr.snoc X105 N101 g_b92
        have V105 : Arv Z h105 b92 k92 .int (3 : Int32) [(.int b), (.int b), (.int c_)] (.int (0 : Int32)) := Arv.set Ar104 Aq104 AS104 AN104 AH104 AG104 rfl W105 0 rfl (Nat.le_of_ble_eq_true rfl)
        replace p82_E := p82_E.wr W105
        replace p82_Fs := p82_Fs.other W105 (Or.inl ne93)
        replace p82_Fi := p82_Fi.other W105 (Or.inl ne93)
        replace p82_V := p82_V.other W105 ne94
        replace V91 := V91.other W105 ne95
        replace Z0 := Nat.le_trans Z0 (Keep.of_wr W105).1
        replace O := O.wr W105 g_b92
        refine own_via ?_ st105
        show Go _ _ _ _ _ _ _ _ (mkF m 216 #[.val (.int sel), .val (.int a), .val (.int b), .val (.int c_), .val (.int x_), .val (.int (2 : Int32)), .val (.int pk), .val (.int item), .val (.ref b2), .val (.ref b83), .val (.int (0 : Int32)), .val (.ref b92), .val (.int (1 : Int32))] [])
        refine own_via ?_ fun _ kt => XS.aload X105.here hx rfl (hb hby at_216) rfl rfl kt
        show Go _ _ _ _ _ _ _ _ (mkF m 218 #[.val (.int sel), .val (.int a), .val (.int b), .val (.int c_), .val (.int x_), .val (.int (2 : Int32)), .val (.int pk), .val (.int item), .val (.ref b2), .val (.ref b83), .val (.int (0 : Int32)), .val (.ref b92), .val (.int (1 : Int32))] [(.ref b2)])
        obtain ⟨T106, X106, e106, st106⟩ := getF X105 hx hZ hown (host := "") (Or.inl (hw _ (List.mem_of_getElem? (i := 21) rfl))) Via.refl e105 p82_Fs (g := (mkF m 218 #[.val (.int sel), .val (.int a), .val (.int b), .val (.int c_), .val (.int x_), .val (.int (2 : Int32)), .val (.int pk), .val (.int item), .val (.ref b2), .val (.ref b83), .val (.int (0 : Int32)), .val (.ref b92), .val (.int (1 : Int32))] [(.ref b2)])) rfl rfl (hb hby at_218)
        refine own_via ?_ st106
        show Go _ _ _ _ _ _ _ _ (mkF m 221 #[.val (.int sel), .val (.int a), .val (.int b), .val (.int c_), .val (.int x_), .val (.int (2 : Int32)), .val (.int pk), .val (.int item), .val (.ref b2), .val (.ref b83), .val (.int (0 : Int32)), .val (.ref b92), .val (.int (1 : Int32))] [(.int (1 : Int32))])
        refine own_via ?_ fun _ kt => XS.iload X106.here hx rfl (hb hby at_221) rfl kt
        show Go _ _ _ _ _ _ _ _ (mkF m 223 #[.val (.int sel), .val (.int a), .val (.int b), .val (.int c_), .val (.int x_), .val (.int (2 : Int32)), .val (.int pk), .val (.int item), .val (.ref b2), .val (.ref b83), .val (.int (0 : Int32)), .val (.ref b92), .val (.int (1 : Int32))] [(.int (1 : Int32)), (.int (1 : Int32))])
        refine own_via ?_ fun _ kt => XS.icmpYes X106.here hx rfl (pc0 := 223) (pc' := 228) rfl (hb hby at_223) rfl (teq rfl).1 (by decide) (by decide) kt
        show Go _ _ _ _ _ _ _ _ (mkF m 228 #[.val (.int sel), .val (.int a), .val (.int b), .val (.int c_), .val (.int x_), .val (.int (2 : Int32)), .val (.int pk), .val (.int item), .val (.ref b2), .val (.ref b83), .val (.int (0 : Int32)), .val (.ref b92), .val (.int (1 : Int32))] [])
        refine own_via ?_ fun _ kt => XS.aload X106.here hx rfl (hb hby at_228) rfl rfl kt
        show Go _ _ _ _ _ _ _ _ (mkF m 230 #[.val (.int sel), .val (.int a), .val (.int b), .val (.int c_), .val (.int x_), .val (.int (2 : Int32)), .val (.int pk), .val (.int item), .val (.ref b2), .val (.ref b83), .val (.int (0 : Int32)), .val (.ref b92), .val (.int (1 : Int32))] [(.ref b2)])
        obtain ⟨T107, X107, e107, st107⟩ := getF X106 hx hZ hown (host := "") (Or.inl (hw _ (List.mem_of_getElem? (i := 22) rfl))) Via.refl e106 p82_Fi (g := (mkF m 230 #[.val (.int sel), .val (.int a), .val (.int b), .val (.int c_), .val (.int x_), .val (.int (2 : Int32)), .val (.int pk), .val (.int item), .val (.ref b2), .val (.ref b83), .val (.int (0 : Int32)), .val (.ref b92), .val (.int (1 : Int32))] [(.ref b2)])) rfl rfl (hb hby at_230)
        refine own_via ?_ st107
        show Go _ _ _ _ _ _ _ _ (mkF m 233 #[.val (.int sel), .val (.int a), .val (.int b), .val (.int c_), .val (.int x_), .val (.int (2 : Int32)), .val (.int pk), .val (.int item), .val (.ref b2), .val (.ref b83), .val (.int (0 : Int32)), .val (.ref b92), .val (.int (1 : Int32))] [(.ref ba)])
        obtain ⟨cl108, Ar108, Aq108, AS108, AN108, AH108, AG108⟩ := p82_V
        have p82_V : Arv Z h105 ba ka .int (4 : Int32) [(.int b), (.int b), (.int (0 : Int32)), (.int (0 : Int32))] (.int (0 : Int32)) := ⟨cl108, Ar108, Aq108, AS108, AN108, AH108, AG108⟩
        refine own_via ?_ fun _ kt => X107.arraylength hx (by rw [e107]; exact Ar108.1) (State.isArrayOf_alike hZ.alike Ar108.2.1) (g := (mkF m 233 #[.val (.int sel), .val (.int a), .val (.int b), .val (.int c_), .val (.int x_), .val (.int (2 : Int32)), .val (.int pk), .val (.int item), .val (.ref b2), .val (.ref b83), .val (.int (0 : Int32)), .val (.ref b92), .val (.int (1 : Int32))] [(.ref ba)])) rfl rfl (hb hby at_233) _ kt
        rw [len_of AS108 AN108]
        show Go _ _ _ _ _ _ _ _ (mkF m 234 #[.val (.int sel), .val (.int a), .val (.int b), .val (.int c_), .val (.int x_), .val (.int (2 : Int32)), .val (.int pk), .val (.int item), .val (.ref b2), .val (.ref b83), .val (.int (0 : Int32)), .val (.ref b92), .val (.int (1 : Int32))] [(.int (4 : Int32))])
        refine own_via ?_ fun _ kt => XS.iload X107.here hx rfl (hb hby at_234) rfl kt
        show Go _ _ _ _ _ _ _ _ (mkF m 236 #[.val (.int sel), .val (.int a), .val (.int b), .val (.int c_), .val (.int x_), .val (.int (2 : Int32)), .val (.int pk), .val (.int item), .val (.ref b2), .val (.ref b83), .val (.int (0 : Int32)), .val (.ref b92), .val (.int (1 : Int32))] [(.int (1 : Int32)), (.int (4 : Int32))])
        refine own_via ?_ fun _ kt => XS.icmpYes X107.here hx rfl (pc0 := 236) (pc' := 241) rfl (hb hby at_236) rfl (flt (by decide : ¬ ((4 : Int32) < (1 : Int32)))).2.1 (by decide) (by decide) kt
        show Go _ _ _ _ _ _ _ _ (mkF m 241 #[.val (.int sel), .val (.int a), .val (.int b), .val (.int c_), .val (.int x_), .val (.int (2 : Int32)), .val (.int pk), .val (.int item), .val (.ref b2), .val (.ref b83), .val (.int (0 : Int32)), .val (.ref b92), .val (.int (1 : Int32))] [])
        refine own_via ?_ fun _ kt => XS.iload X107.here hx rfl (hb hby at_241) rfl kt
        show Go _ _ _ _ _ _ _ _ (mkF m 243 #[.val (.int sel), .val (.int a), .val (.int b), .val (.int c_), .val (.int x_), .val (.int (2 : Int32)), .val (.int pk), .val (.int item), .val (.ref b2), .val (.ref b83), .val (.int (0 : Int32)), .val (.ref b92), .val (.int (1 : Int32))] [(.int (1 : Int32))])
        refine own_via ?_ fun _ kt => XS.ifNo X107.here hx rfl (hb hby at_243) rfl ((if0 _ _).trans (tlt (by decide : ((0 : Int32) < (1 : Int32)))).2.2.2) kt
        show Go _ _ _ _ _ _ _ _ (mkF m 246 #[.val (.int sel), .val (.int a), .val (.int b), .val (.int c_), .val (.int x_), .val (.int (2 : Int32)), .val (.int pk), .val (.int item), .val (.ref b2), .val (.ref b83), .val (.int (0 : Int32)), .val (.ref b92), .val (.int (1 : Int32))] [])
        refine own_via ?_ fun _ kt => XS.aload X107.here hx rfl (hb hby at_246) rfl rfl kt
        show Go _ _ _ _ _ _ _ _ (mkF m 248 #[.val (.int sel), .val (.int a), .val (.int b), .val (.int c_), .val (.int x_), .val (.int (2 : Int32)), .val (.int pk), .val (.int item), .val (.ref b2), .val (.ref b83), .val (.int (0 : Int32)), .val (.ref b92), .val (.int (1 : Int32))] [(.ref b2)])
        obtain ⟨T109, X109, e109, st109⟩ := getF X107 hx hZ hown (host := "") (Or.inl (hw _ (List.mem_of_getElem? (i := 22) rfl))) Via.refl e107 p82_Fi (g := (mkF m 248 #[.val (.int sel), .val (.int a), .val (.int b), .val (.int c_), .val (.int x_), .val (.int (2 : Int32)), .val (.int pk), .val (.int item), .val (.ref b2), .val (.ref b83), .val (.int (0 : Int32)), .val (.ref b92), .val (.int (1 : Int32))] [(.ref b2)])) rfl rfl (hb hby at_248)
        refine own_via ?_ st109
        show Go _ _ _ _ _ _ _ _ (mkF m 251 #[.val (.int sel), .val (.int a), .val (.int b), .val (.int c_), .val (.int x_), .val (.int (2 : Int32)), .val (.int pk), .val (.int item), .val (.ref b2), .val (.ref b83), .val (.int (0 : Int32)), .val (.ref b92), .val (.int (1 : Int32))] [(.ref ba)])
        refine own_via ?_ fun _ kt => XS.iconst X109.here hx rfl (hb hby at_251) kt
        show Go _ _ _ _ _ _ _ _ (mkF m 252 #[.val (.int sel), .val (.int a), .val (.int b), .val (.int c_), .val (.int x_), .val (.int (2 : Int32)), .val (.int pk), .val (.int item), .val (.ref b2), .val (.ref b83), .val (.int (0 : Int32)), .val (.ref b92), .val (.int (1 : Int32))] [(.int (0 : Int32)), (.ref ba)])
        obtain ⟨cl110, Ar110, Aq110, AS110, AN110, AH110, AG110⟩ := p82_V
        have p82_V : Arv Z h105 ba ka .int (4 : Int32) [(.int b), (.int b), (.int (0 : Int32)), (.int (0 : Int32))] (.int (0 : Int32)) := ⟨cl110, Ar110, Aq110, AS110, AN110, AH110, AG110⟩
        have hin111 : ¬ ((0 : Int32) < 0 ∨ cl110.slots.size ≤ ((0 : Int32)).toNatClampNeg) := (inb_of AS110 ⟨by decide, by decide⟩)
        have hat111 : cl110.slots[((0 : Int32)).toNatClampNeg]? = some (.int b) := (AH110.at hin111 rfl)
        refine own_via ?_ fun _ kt => X109.iaload hx (j := (0 : Int32)) (v := (.int b)) (by rw [e109]; exact Ar110.1) (State.isArrayOf_alike hZ.alike Ar110.2.1) Ar110.2.2 hin111 hat111 (g := (mkF m 252 #[.val (.int sel), .val (.int a), .val (.int b), .val (.int c_), .val (.int x_), .val (.int (2 : Int32)), .val (.int pk), .val (.int item), .val (.ref b2), .val (.ref b83), .val (.int (0 : Int32)), .val (.ref b92), .val (.int (1 : Int32))] [(.int (0 : Int32)), (.ref ba)])) rfl rfl (hb hby at_252) _ kt
        show Go _ _ _ _ _ _ _ _ (mkF m 253 #[.val (.int sel), .val (.int a), .val (.int b), .val (.int c_), .val (.int x_), .val (.int (2 : Int32)), .val (.int pk), .val (.int item), .val (.ref b2), .val (.ref b83), .val (.int (0 : Int32)), .val (.ref b92), .val (.int (1 : Int32))] [(.int b)])
        refine own_via ?_ fun _ kt => XS.aload X109.here hx rfl (hb hby at_253) rfl rfl kt
        show Go _ _ _ _ _ _ _ _ (mkF m 255 #[.val (.int sel), .val (.int a), .val (.int b), .val (.int c_), .val (.int x_), .val (.int (2 : Int32)), .val (.int pk), .val (.int item), .val (.ref b2), .val (.ref b83), .val (.int (0 : Int32)), .val (.ref b92), .val (.int (1 : Int32))] [(.ref b92), (.int b)])
        refine own_via ?_ fun _ kt => XS.iconst X109.here hx rfl (hb hby at_255) kt
        show Go _ _ _ _ _ _ _ _ (mkF m 256 #[.val (.int sel), .val (.int a), .val (.int b), .val (.int c_), .val (.int x_), .val (.int (2 : Int32)), .val (.int pk), .val (.int item), .val (.ref b2), .val (.ref b83), .val (.int (0 : Int32)), .val (.ref b92), .val (.int (1 : Int32))] [(.int (0 : Int32)), (.ref b92), (.int b)])
        obtain ⟨cl112, Ar112, Aq112, AS112, AN112, AH112, AG112⟩ := V105
        have V105 : Arv Z h105 b92 k92 .int (3 : Int32) [(.int b), (.int b), (.int c_)] (.int (0 : Int32)) := ⟨cl112, Ar112, Aq112, AS112, AN112, AH112, AG112⟩
        have hin113 : ¬ ((0 : Int32) < 0 ∨ cl112.slots.size ≤ ((0 : Int32)).toNatClampNeg) := (inb_of AS112 ⟨by decide, by decide⟩)
        have hat113 : cl112.slots[((0 : Int32)).toNatClampNeg]? = some (.int b) := (AH112.at hin113 rfl)
        refine own_via ?_ fun _ kt => X109.iaload hx (j := (0 : Int32)) (v := (.int b)) (by rw [e109]; exact Ar112.1) (State.isArrayOf_alike hZ.alike Ar112.2.1) Ar112.2.2 hin113 hat113 (g := (mkF m 256 #[.val (.int sel), .val (.int a), .val (.int b), .val (.int c_), .val (.int x_), .val (.int (2 : Int32)), .val (.int pk), .val (.int item), .val (.ref b2), .val (.ref b83), .val (.int (0 : Int32)), .val (.ref b92), .val (.int (1 : Int32))] [(.int (0 : Int32)), (.ref b92), (.int b)])) rfl rfl (hb hby at_256) _ kt
        show Go _ _ _ _ _ _ _ _ (mkF m 257 #[.val (.int sel), .val (.int a), .val (.int b), .val (.int c_), .val (.int x_), .val (.int (2 : Int32)), .val (.int pk), .val (.int item), .val (.ref b2), .val (.ref b83), .val (.int (0 : Int32)), .val (.ref b92), .val (.int (1 : Int32))] [(.int b), (.int b)])
        refine own_via ?_ fun _ kt => XS.icmpYes X109.here hx rfl (pc0 := 257) (pc' := 262) rfl (hb hby at_257) rfl (teq rfl).1 (by decide) (by decide) kt
        show Go _ _ _ _ _ _ _ _ (mkF m 262 #[.val (.int sel), .val (.int a), .val (.int b), .val (.int c_), .val (.int x_), .val (.int (2 : Int32)), .val (.int pk), .val (.int item), .val (.ref b2), .val (.ref b83), .val (.int (0 : Int32)), .val (.ref b92), .val (.int (1 : Int32))] [])
        refine own_via ?_ fun _ kt => XS.iload X109.here hx rfl (hb hby at_262) rfl kt
        show Go _ _ _ _ _ _ _ _ (mkF m 264 #[.val (.int sel), .val (.int a), .val (.int b), .val (.int c_), .val (.int x_), .val (.int (2 : Int32)), .val (.int pk), .val (.int item), .val (.ref b2), .val (.ref b83), .val (.int (0 : Int32)), .val (.ref b92), .val (.int (1 : Int32))] [(.int (1 : Int32))])
        refine own_via ?_ fun _ kt => XS.iconst X109.here hx rfl (hb hby at_264) kt
        show Go _ _ _ _ _ _ _ _ (mkF m 265 #[.val (.int sel), .val (.int a), .val (.int b), .val (.int c_), .val (.int x_), .val (.int (2 : Int32)), .val (.int pk), .val (.int item), .val (.ref b2), .val (.ref b83), .val (.int (0 : Int32)), .val (.ref b92), .val (.int (1 : Int32))] [(.int (1 : Int32)), (.int (1 : Int32))])
        refine own_via ?_ fun _ kt => XS.icmpYes X109.here hx rfl (pc0 := 265) (pc' := 284) rfl (hb hby at_265) rfl (flt (by decide : ¬ ((1 : Int32) < (1 : Int32)))).2.2.2 (by decide) (by decide) kt
        show Go _ _ _ _ _ _ _ _ (mkF m 284 #[.val (.int sel), .val (.int a), .val (.int b), .val (.int c_), .val (.int x_), .val (.int (2 : Int32)), .val (.int pk), .val (.int item), .val (.ref b2), .val (.ref b83), .val (.int (0 : Int32)), .val (.ref b92), .val (.int (1 : Int32))] [])
        refine own_via ?_ fun _ kt => XS.iload X109.here hx rfl (hb hby at_284) rfl kt
        show Go _ _ _ _ _ _ _ _ (mkF m 286 #[.val (.int sel), .val (.int a), .val (.int b), .val (.int c_), .val (.int x_), .val (.int (2 : Int32)), .val (.int pk), .val (.int item), .val (.ref b2), .val (.ref b83), .val (.int (0 : Int32)), .val (.ref b92), .val (.int (1 : Int32))] [(.int (1 : Int32))])
        refine own_via ?_ fun _ kt => XS.iconst X109.here hx rfl (hb hby at_286) kt
        show Go _ _ _ _ _ _ _ _ (mkF m 287 #[.val (.int sel), .val (.int a), .val (.int b), .val (.int c_), .val (.int x_), .val (.int (2 : Int32)), .val (.int pk), .val (.int item), .val (.ref b2), .val (.ref b83), .val (.int (0 : Int32)), .val (.ref b92), .val (.int (1 : Int32))] [(.int (2 : Int32)), (.int (1 : Int32))])
        refine own_via ?_ fun _ kt => XS.icmpYes X109.here hx rfl (pc0 := 287) (pc' := 306) rfl (hb hby at_287) rfl (flt (by decide : ¬ ((2 : Int32) < (1 : Int32)))).2.2.2 (by decide) (by decide) kt
        show Go _ _ _ _ _ _ _ _ (mkF m 306 #[.val (.int sel), .val (.int a), .val (.int b), .val (.int c_), .val (.int x_), .val (.int (2 : Int32)), .val (.int pk), .val (.int item), .val (.ref b2), .val (.ref b83), .val (.int (0 : Int32)), .val (.ref b92), .val (.int (1 : Int32))] [])
        refine own_via ?_ fun _ kt => XS.iconst X109.here hx rfl (hb hby at_306) kt
        show Go _ _ _ _ _ _ _ _ (mkF m 307 #[.val (.int sel), .val (.int a), .val (.int b), .val (.int c_), .val (.int x_), .val (.int (2 : Int32)), .val (.int pk), .val (.int item), .val (.ref b2), .val (.ref b83), .val (.int (0 : Int32)), .val (.ref b92), .val (.int (1 : Int32))] [(.int (1 : Int32))])
        exact own_retZ (z' := (1 : Int32)) X109 hx hret hlk (hb hby at_307) rfl (by decide) (by decide) (by rw [e109]; exact ⟨rfl, N105⟩)
      · skip
        show Go _ _ _ _ _ _ _ _ (mkF m 102 #[.val (.int sel), .val (.int a), .val (.int b), .val (.int c_), .val (.int x_), .val (.int (2 : Int32)), .val (.int pk), .val (.int item), .val (.ref b2), .unset, .unset, .unset, .unset] [])
        refine own_via ?_ fun _ kt => XS.iconst X82.here hx rfl (hb hby at_102) kt
        show Go _ _ _ _ _ _ _ _ (mkF m 103 #[.val (.int sel), .val (.int a), .val (.int b), .val (.int c_), .val (.int x_), .val (.int (2 : Int32)), .val (.int pk), .val (.int item), .val (.ref b2), .unset, .unset, .unset, .unset] [(.int (3 : Int32))])
        obtain ⟨T114, h114, k114, X114, e114, E114, A114, st114⟩ := newP X82 hx hZ (hw _ (List.mem_of_getElem? (i := 20) rfl)) e82 (g := (mkF m 103 #[.val (.int sel), .val (.int a), .val (.int b), .val (.int c_), .val (.int x_), .val (.int (2 : Int32)), .val (.int pk), .val (.int item), .val (.ref b2), .unset, .unset, .unset, .unset] [(.int (3 : Int32))])) rfl (hb hby at_103) rfl (by decide) (cap := 3) (by decide) (by decide) (by decide) (by decide)
        obtain ⟨b114, g114⟩ : ∃ z, z = h82.size := ⟨_, rfl⟩
        rw [← g114] at A114 st114
        have ne115 : b2 ≠ b114 := by rw [g114]; exact Nat.ne_of_lt p82_E.lt
        have ne116 : ba ≠ b114 := by rw [g114]; exact Nat.ne_of_lt p82_V.lt
        have g_b114 : n0 ≤ b114 := by rw [g114]; exact Z0
        replace p82_E := p82_E.ext E114
        replace p82_Fs := p82_Fs.ext E114
        replace p82_Fi := p82_Fi.ext E114
        replace p82_V := p82_V.ext E114
        replace Z0 := Nat.le_trans Z0 E114.1
        replace O := O.ext E114
        have V114 : Arv Z h114 b114 k114 .int (3 : Int32) [(.int (0 : Int32)), (.int (0 : Int32)), (.int (0 : Int32))] (.int (0 : Int32)) := (Arv.new A114 (by decide)).pad (pad_rep [] (.int (0 : Int32)) 3)
        refine own_via ?_ st114
        show Go _ _ _ _ _ _ _ _ (mkF m 105 #[.val (.int sel), .val (.int a), .val (.int b), .val (.int c_), .val (.int x_), .val (.int (2 : Int32)), .val (.int pk), .val (.int item), .val (.ref b2), .unset, .unset, .unset, .unset] [(.ref b114)])
        refine own_via ?_ fun _ kt => XS.dup X114.here hx rfl (hb hby at_105) rfl rfl kt
        show Go _ _ _ _ _ _ _ _ (mkF m 106 #[.val (.int sel), .val (.int a), .val (.int b), .val (.int c_), .val (.int x_), .val (.int (2 : Int32)), .val (.int pk), .val (.int item), .val (.ref b2), .unset, .unset, .unset, .unset] [(.ref b114), (.ref b114)])
        refine own_via ?_ fun _ kt => XS.iconst X114.here hx rfl (hb hby at_106) kt
        show Go _ _ _ _ _ _ _ _ (mkF m 107 #[.val (.int sel), .val (.int a), .val (.int b), .val (.int c_), .val (.int x_), .val (.int (2 : Int32)), .val (.int pk), .val (.int item), .val (.ref b2), .unset, .unset, .unset, .unset] [(.int (0 : Int32)), (.ref b114), (.ref b114)])
        refine own_via ?_ fun _ kt => XS.iloadN X114.here hx rfl (hb hby at_107) rfl kt
        show Go _ _ _ _ _ _ _ _ (mkF m 108 #[.val (.int sel), .val (.int a), .val (.int b), .val (.int c_), .val (.int x_), .val (.int (2 : Int32)), .val (.int pk), .val (.int item), .val (.ref b2), .unset, .unset, .unset, .unset] [(.int a), (.int (0 : Int32)), (.ref b114), (.ref b114)])
        obtain ⟨cl117, Ar117, Aq117, AS117, AN117, AH117, AG117⟩ := V114
        have hin118 : ¬ ((0 : Int32) < 0 ∨ cl117.slots.size ≤ ((0 : Int32)).toNatClampNeg) := (inb_of AS117 ⟨by decide, by decide⟩)
        obtain ⟨T118, h118, X118, e118, W118, st118⟩ := stI X114 hx hZ e114 Ar117 (j := (0 : Int32)) hin118 (g := (mkF m 108 #[.val (.int sel), .val (.int a), .val (.int b), .val (.int c_), .val (.int x_), .val (.int (2 : Int32)), .val (.int pk), .val (.int item), .val (.ref b2), .unset, .unset, .unset, .unset] [(.int a), (.int (0 : Int32)), (.ref b114), (.ref b114)])) rfl rfl (hb hby at_108)
        have N118 := Fr.snoc X118 N82 g_b114
        have V118 : Arv Z h118 b114 k114 .int (3 : Int32) [(.int a), (.int (0 : Int32)), (.int (0 : Int32))] (.int (0 : Int32)) := Arv.set Ar117 Aq117 AS117 AN117 AH117 AG117 rfl W118 0 rfl (Nat.le_of_ble_eq_true rfl)
        replace p82_E := p82_E.wr W118
        replace p82_Fs := p82_Fs.other W118 (Or.inl ne115)
        replace p82_Fi := p82_Fi.other W118 (Or.inl ne115)
        replace p82_V := p82_V.other W118 ne116
        replace Z0 := Nat.le_trans Z0 (Keep.of_wr W118).1
        replace O := O.wr W118 g_b114
        refine own_via ?_ st118
        show Go _ _ _ _ _ _ _ _ (mkF m 109 #[.val (.int sel), .val (.int a), .val (.int b), .val (.int c_), .val (.int x_), .val (.int (2 : Int32)), .val (.int pk), .val (.int item), .val (.ref b2), .unset, .unset, .unset, .unset] [(.ref b114)])
        refine own_via ?_ fun _ kt => XS.dup X118.here hx rfl (hb hby at_109) rfl rfl kt
        show Go _ _ _ _ _ _ _ _ (mkF m 110 #[.val (.int sel), .val (.int a), .val (.int b), .val (.int c_), .val (.int x_), .val (.int (2 : Int32)), .val (.int pk), .val (.int item), .val (.ref b2), .unset, .unset, .unset, .unset] [(.ref b114), (.ref b114)])
        refine own_via ?_ fun _ kt => XS.iconst X118.here hx rfl (hb hby at_110) kt
        show Go _ _ _ _ _ _ _ _ (mkF m 111 #[.val (.int sel), .val (.int a), .val (.int b), .val (.int c_), .val (.int x_), .val (.int (2 : Int32)), .val (.int pk), .val (.int item), .val (.ref b2), .unset, .unset, .unset, .unset] [(.int (1 : Int32)), (.ref b114), (.ref b114)])
        refine own_via ?_ fun _ kt => XS.iloadN X118.here hx rfl (hb hby at_111) rfl kt
        show Go _ _ _ _ _ _ _ _ (mkF m 112 #[.val (.int sel), .val (.int a), .val (.int b), .val (.int c_), .val (.int x_), .val (.int (2 : Int32)), .val (.int pk), .val (.int item), .val (.ref b2), .unset, .unset, .unset, .unset] [(.int b), (.int (1 : Int32)), (.ref b114), (.ref b114)])
        obtain ⟨cl119, Ar119, Aq119, AS119, AN119, AH119, AG119⟩ := V118
        have hin120 : ¬ ((1 : Int32) < 0 ∨ cl119.slots.size ≤ ((1 : Int32)).toNatClampNeg) := (inb_of AS119 ⟨by decide, by decide⟩)
        obtain ⟨T120, h120, X120, e120, W120, st120⟩ := stI X118 hx hZ e118 Ar119 (j := (1 : Int32)) hin120 (g := (mkF m 112 #[.val (.int sel), .val (.int a), .val (.int b), .val (.int c_), .val (.int x_), .val (.int (2 : Int32)), .val (.int pk), .val (.int item), .val (.ref b2), .unset, .unset, .unset, .unset] [(.int b), (.int (1 : Int32)), (.ref b114), (.ref b114)])) rfl rfl (hb hby at_112)
        have N120 := Fr.snoc X120 N118 g_b114
        have V120 : Arv Z h120 b114 k114 .int (3 : Int32) [(.int a), (.int b), (.int (0 : Int32))] (.int (0 : Int32)) := Arv.set Ar119 Aq119 AS119 AN119 AH119 AG119 rfl W120 1 rfl (Nat.le_of_ble_eq_true rfl)
        replace p82_E := p82_E.wr W120
        replace p82_Fs := p82_Fs.other W120 (Or.inl ne115)
        replace p82_Fi := p82_Fi.other W120 (Or.inl ne115)
        replace p82_V := p82_V.other W120 ne116
        replace Z0 := Nat.le_trans Z0 (Keep.of_wr W120).1
        replace O := O.wr W120 g_b114
        refine own_via ?_ st120
        show Go _ _ _ _ _ _ _ _ (mkF m 113 #[.val (.int sel), .val (.int a), .val (.int b), .val (.int c_), .val (.int x_), .val (.int (2 : Int32)), .val (.int pk), .val (.int item), .val (.ref b2), .unset, .unset, .unset, .unset] [(.ref b114)])
        refine own_via ?_ fun _ kt => XS.dup X120.here hx rfl (hb hby at_113) rfl rfl kt
        show Go _ _ _ _ _ _ _ _ (mkF m 114 #[.val (.int sel), .val (.int a), .val (.int b), .val (.int c_), .val (.int x_), .val (.int (2 : Int32)), .val (.int pk), .val (.int item), .val (.ref b2), .unset, .unset, .unset, .unset] [(.ref b114), (.ref b114)])
        refine own_via ?_ fun _ kt => XS.iconst X120.here hx rfl (hb hby at_114) kt
        show Go _ _ _ _ _ _ _ _ (mkF m 115 #[.val (.int sel), .val (.int a), .val (.int b), .val (.int c_), .val (.int x_), .val (.int (2 : Int32)), .val (.int pk), .val (.int item), .val (.ref b2), .unset, .unset, .unset, .unset] [(.int (2 : Int32)), (.ref b114), (.ref b114)])
        refine own_via ?_ fun _ kt => XS.iloadN X120.here hx rfl (hb hby at_115) rfl kt
        show Go _ _ _ _ _ _ _ _ (mkF m 116 #[.val (.int sel), .val (.int a), .val (.int b), .val (.int c_), .val (.int x_), .val (.int (2 : Int32)), .val (.int pk), .val (.int item), .val (.ref b2), .unset, .unset, .unset, .unset] [(.int c_), (.int (2 : Int32)), (.ref b114), (.ref b114)])
        obtain ⟨cl121, Ar121, Aq121, AS121, AN121, AH121, AG121⟩ := V120
        have hin122 : ¬ ((2 : Int32) < 0 ∨ cl121.slots.size ≤ ((2 : Int32)).toNatClampNeg) := (inb_of AS121 ⟨by decide, by decide⟩)
        obtain ⟨T122, h122, X122, e122, W122, st122⟩ := stI X120 hx hZ e120 Ar121 (j := (2 : Int32)) hin122 (g := (mkF m 116 #[.val (.int sel), .val (.int a), .val (.int b), .val (.int c_), .val (.int x_), .val (.int (2 : Int32)), .val (.int pk), .val (.int item), .val (.ref b2), .unset, .unset, .unset, .unset] [(.int c_), (.int (2 : Int32)), (.ref b114), (.ref b114)])) rfl rfl (hb hby at_116)
        have N122 := Fr.snoc X122 N120 g_b114
        have V122 : Arv Z h122 b114 k114 .int (3 : Int32) [(.int a), (.int b), (.int c_)] (.int (0 : Int32)) := Arv.set Ar121 Aq121 AS121 AN121 AH121 AG121 rfl W122 2 rfl (Nat.le_of_ble_eq_true rfl)
        replace p82_E := p82_E.wr W122
        replace p82_Fs := p82_Fs.other W122 (Or.inl ne115)
        replace p82_Fi := p82_Fi.other W122 (Or.inl ne115)
        replace p82_V := p82_V.other W122 ne116
        replace Z0 := Nat.le_trans Z0 (Keep.of_wr W122).1
        replace O := O.wr W122 g_b114
        refine own_via ?_ st122
        show Go _ _ _ _ _ _ _ _ (mkF m 117 #[.val (.int sel), .val (.int a), .val (.int b), .val (.int c_), .val (.int x_), .val (.int (2 : Int32)), .val (.int pk), .val (.int item), .val (.ref b2), .unset, .unset, .unset, .unset] [(.ref b114)])
        refine own_via ?_ fun _ kt => XS.astore X122.here hx rfl (hb hby at_117) rfl rfl (l' := #[.val (.int sel), .val (.int a), .val (.int b), .val (.int c_), .val (.int x_), .val (.int (2 : Int32)), .val (.int pk), .val (.int item), .val (.ref b2), .val (.ref b114), .unset, .unset, .unset]) rfl kt
        show Go _ _ _ _ _ _ _ _ (mkF m 119 #[.val (.int sel), .val (.int a), .val (.int b), .val (.int c_), .val (.int x_), .val (.int (2 : Int32)), .val (.int pk), .val (.int item), .val (.ref b2), .val (.ref b114), .unset, .unset, .unset] [])
        refine own_via ?_ fun _ kt => XS.iconst X122.here hx rfl (hb hby at_119) kt
        show Go _ _ _ _ _ _ _ _ (mkF m 120 #[.val (.int sel), .val (.int a), .val (.int b), .val (.int c_), .val (.int x_), .val (.int (2 : Int32)), .val (.int pk), .val (.int item), .val (.ref b2), .val (.ref b114), .unset, .unset, .unset] [(.int (-1 : Int32))])
        refine own_via ?_ fun _ kt => XS.istore X122.here hx rfl (hb hby at_120) rfl (l' := #[.val (.int sel), .val (.int a), .val (.int b), .val (.int c_), .val (.int x_), .val (.int (2 : Int32)), .val (.int pk), .val (.int item), .val (.ref b2), .val (.ref b114), .val (.int (-1 : Int32)), .unset, .unset]) rfl kt
        show Go _ _ _ _ _ _ _ _ (mkF m 122 #[.val (.int sel), .val (.int a), .val (.int b), .val (.int c_), .val (.int x_), .val (.int (2 : Int32)), .val (.int pk), .val (.int item), .val (.ref b2), .val (.ref b114), .val (.int (-1 : Int32)), .unset, .unset] [])
        refine own_via ?_ fun _ kt => XS.iload X122.here hx rfl (hb hby at_122) rfl kt
        show Go _ _ _ _ _ _ _ _ (mkF m 124 #[.val (.int sel), .val (.int a), .val (.int b), .val (.int c_), .val (.int x_), .val (.int (2 : Int32)), .val (.int pk), .val (.int item), .val (.ref b2), .val (.ref b114), .val (.int (-1 : Int32)), .unset, .unset] [(.int (2 : Int32))])
        refine own_via ?_ fun _ kt => XS.ifNo X122.here hx rfl (hb hby at_124) rfl ((if0 _ _).trans (tlt (by decide : ((0 : Int32) < (2 : Int32)))).2.2.2) kt
        show Go _ _ _ _ _ _ _ _ (mkF m 127 #[.val (.int sel), .val (.int a), .val (.int b), .val (.int c_), .val (.int x_), .val (.int (2 : Int32)), .val (.int pk), .val (.int item), .val (.ref b2), .val (.ref b114), .val (.int (-1 : Int32)), .unset, .unset] [])
        refine own_via ?_ fun _ kt => XS.iloadN X122.here hx rfl (hb hby at_127) rfl kt
        show Go _ _ _ _ _ _ _ _ (mkF m 128 #[.val (.int sel), .val (.int a), .val (.int b), .val (.int c_), .val (.int x_), .val (.int (2 : Int32)), .val (.int pk), .val (.int item), .val (.ref b2), .val (.ref b114), .val (.int (-1 : Int32)), .unset, .unset] [(.int a)])
        refine own_via ?_ fun _ kt => XS.iload X122.here hx rfl (hb hby at_128) rfl kt
        show Go _ _ _ _ _ _ _ _ (mkF m 130 #[.val (.int sel), .val (.int a), .val (.int b), .val (.int c_), .val (.int x_), .val (.int (2 : Int32)), .val (.int pk), .val (.int item), .val (.ref b2), .val (.ref b114), .val (.int (-1 : Int32)), .unset, .unset] [(.int item), (.int a)])
        refine own_via ?_ fun _ kt => XS.icmpYes X122.here hx rfl (pc0 := 130) (pc' := 139) rfl (hb hby at_130) rfl (feq hv82_0).2 (by decide) (by decide) kt
        show Go _ _ _ _ _ _ _ _ (mkF m 139 #[.val (.int sel), .val (.int a), .val (.int b), .val (.int c_), .val (.int x_), .val (.int (2 : Int32)), .val (.int pk), .val (.int item), .val (.ref b2), .val (.ref b114), .val (.int (-1 : Int32)), .unset, .unset] [])
        refine own_via ?_ fun _ kt => XS.iload X122.here hx rfl (hb hby at_139) rfl kt
        show Go _ _ _ _ _ _ _ _ (mkF m 141 #[.val (.int sel), .val (.int a), .val (.int b), .val (.int c_), .val (.int x_), .val (.int (2 : Int32)), .val (.int pk), .val (.int item), .val (.ref b2), .val (.ref b114), .val (.int (-1 : Int32)), .unset, .unset] [(.int (2 : Int32))])
        refine own_via ?_ fun _ kt => XS.iconst X122.here hx rfl (hb hby at_141) kt
        show Go _ _ _ _ _ _ _ _ (mkF m 142 #[.val (.int sel), .val (.int a), .val (.int b), .val (.int c_), .val (.int x_), .val (.int (2 : Int32)), .val (.int pk), .val (.int item), .val (.ref b2), .val (.ref b114), .val (.int (-1 : Int32)), .unset, .unset] [(.int (1 : Int32)), (.int (2 : Int32))])
        refine own_via ?_ fun _ kt => XS.icmpNo X122.here hx rfl (hb hby at_142) rfl (tlt (by decide : ((1 : Int32) < (2 : Int32)))).2.2.2 kt
        show Go _ _ _ _ _ _ _ _ (mkF m 145 #[.val (.int sel), .val (.int a), .val (.int b), .val (.int c_), .val (.int x_), .val (.int (2 : Int32)), .val (.int pk), .val (.int item), .val (.ref b2), .val (.ref b114), .val (.int (-1 : Int32)), .unset, .unset] [])
        refine own_via ?_ fun _ kt => XS.iloadN X122.here hx rfl (hb hby at_145) rfl kt
        show Go _ _ _ _ _ _ _ _ (mkF m 146 #[.val (.int sel), .val (.int a), .val (.int b), .val (.int c_), .val (.int x_), .val (.int (2 : Int32)), .val (.int pk), .val (.int item), .val (.ref b2), .val (.ref b114), .val (.int (-1 : Int32)), .unset, .unset] [(.int b)])
        refine own_via ?_ fun _ kt => XS.iload X122.here hx rfl (hb hby at_146) rfl kt
        show Go _ _ _ _ _ _ _ _ (mkF m 148 #[.val (.int sel), .val (.int a), .val (.int b), .val (.int c_), .val (.int x_), .val (.int (2 : Int32)), .val (.int pk), .val (.int item), .val (.ref b2), .val (.ref b114), .val (.int (-1 : Int32)), .unset, .unset] [(.int item), (.int b)])
        refine own_via ?_ fun _ kt => XS.icmpNo X122.here hx rfl (hb hby at_148) rfl (teq hv82_1).2 kt
        show Go _ _ _ _ _ _ _ _ (mkF m 151 #[.val (.int sel), .val (.int a), .val (.int b), .val (.int c_), .val (.int x_), .val (.int (2 : Int32)), .val (.int pk), .val (.int item), .val (.ref b2), .val (.ref b114), .val (.int (-1 : Int32)), .unset, .unset] [])
        refine own_via ?_ fun _ kt => XS.iconst X122.here hx rfl (hb hby at_151) kt
        show Go _ _ _ _ _ _ _ _ (mkF m 152 #[.val (.int sel), .val (.int a), .val (.int b), .val (.int c_), .val (.int x_), .val (.int (2 : Int32)), .val (.int pk), .val (.int item), .val (.ref b2), .val (.ref b114), .val (.int (-1 : Int32)), .unset, .unset] [(.int (1 : Int32))])
        refine own_via ?_ fun _ kt => XS.istore X122.here hx rfl (hb hby at_152) rfl (l' := #[.val (.int sel), .val (.int a), .val (.int b), .val (.int c_), .val (.int x_), .val (.int (2 : Int32)), .val (.int pk), .val (.int item), .val (.ref b2), .val (.ref b114), .val (.int (1 : Int32)), .unset, .unset]) rfl kt
        show Go _ _ _ _ _ _ _ _ (mkF m 154 #[.val (.int sel), .val (.int a), .val (.int b), .val (.int c_), .val (.int x_), .val (.int (2 : Int32)), .val (.int pk), .val (.int item), .val (.ref b2), .val (.ref b114), .val (.int (1 : Int32)), .unset, .unset] [])
        refine own_via ?_ fun _ kt => XS.goto X122.here hx rfl (pc0 := 154) (pc' := 172) rfl (hb hby at_154) (by decide) (by decide) kt
        show Go _ _ _ _ _ _ _ _ (mkF m 172 #[.val (.int sel), .val (.int a), .val (.int b), .val (.int c_), .val (.int x_), .val (.int (2 : Int32)), .val (.int pk), .val (.int item), .val (.ref b2), .val (.ref b114), .val (.int (1 : Int32)), .unset, .unset] [])
        refine own_via ?_ fun _ kt => XS.iconst X122.here hx rfl (hb hby at_172) kt
        show Go _ _ _ _ _ _ _ _ (mkF m 173 #[.val (.int sel), .val (.int a), .val (.int b), .val (.int c_), .val (.int x_), .val (.int (2 : Int32)), .val (.int pk), .val (.int item), .val (.ref b2), .val (.ref b114), .val (.int (1 : Int32)), .unset, .unset] [(.int (3 : Int32))])
        obtain ⟨T123, h123, k123, X123, e123, E123, A123, st123⟩ := newP X122 hx hZ (hw _ (List.mem_of_getElem? (i := 20) rfl)) e122 (g := (mkF m 173 #[.val (.int sel), .val (.int a), .val (.int b), .val (.int c_), .val (.int x_), .val (.int (2 : Int32)), .val (.int pk), .val (.int item), .val (.ref b2), .val (.ref b114), .val (.int (1 : Int32)), .unset, .unset] [(.int (3 : Int32))])) rfl (hb hby at_173) rfl (by decide) (cap := 3) (by decide) (by decide) (by decide) (by decide)
        obtain ⟨b123, g123⟩ : ∃ z, z = h122.size := ⟨_, rfl⟩
        rw [← g123] at A123 st123
        have ne124 : b2 ≠ b123 := by rw [g123]; exact Nat.ne_of_lt p82_E.lt
        have ne125 : ba ≠ b123 := by rw [g123]; exact Nat.ne_of_lt p82_V.lt
        have ne126 : b114 ≠ b123 := by rw [g123]; exact Nat.ne_of_lt V122.lt
        have g_b123 : n0 ≤ b123 := by rw [g123]; exact Z0
        replace p82_E := p82_E.ext E123
        replace p82_Fs := p82_Fs.ext E123
        replace p82_Fi := p82_Fi.ext E123
        replace p82_V := p82_V.ext E123
        replace V122 := V122.ext E123
        replace Z0 := Nat.le_trans Z0 E123.1
        replace O := O.ext E123
        have V123 : Arv Z h123 b123 k123 .int (3 : Int32) [(.int (0 : Int32)), (.int (0 : Int32)), (.int (0 : Int32))] (.int (0 : Int32)) := (Arv.new A123 (by decide)).pad (pad_rep [] (.int (0 : Int32)) 3)
        refine own_via ?_ st123
        show Go _ _ _ _ _ _ _ _ (mkF m 175 #[.val (.int sel), .val (.int a), .val (.int b), .val (.int c_), .val (.int x_), .val (.int (2 : Int32)), .val (.int pk), .val (.int item), .val (.ref b2), .val (.ref b114), .val (.int (1 : Int32)), .unset, .unset] [(.ref b123)])
        refine own_via ?_ fun _ kt => XS.dup X123.here hx rfl (hb hby at_175) rfl rfl kt
        show Go _ _ _ _ _ _ _ _ (mkF m 176 #[.val (.int sel), .val (.int a), .val (.int b), .val (.int c_), .val (.int x_), .val (.int (2 : Int32)), .val (.int pk), .val (.int item), .val (.ref b2), .val (.ref b114), .val (.int (1 : Int32)), .unset, .unset] [(.ref b123), (.ref b123)])
        refine own_via ?_ fun _ kt => XS.iconst X123.here hx rfl (hb hby at_176) kt
        show Go _ _ _ _ _ _ _ _ (mkF m 177 #[.val (.int sel), .val (.int a), .val (.int b), .val (.int c_), .val (.int x_), .val (.int (2 : Int32)), .val (.int pk), .val (.int item), .val (.ref b2), .val (.ref b114), .val (.int (1 : Int32)), .unset, .unset] [(.int (0 : Int32)), (.ref b123), (.ref b123)])
        refine own_via ?_ fun _ kt => XS.iloadN X123.here hx rfl (hb hby at_177) rfl kt
        show Go _ _ _ _ _ _ _ _ (mkF m 178 #[.val (.int sel), .val (.int a), .val (.int b), .val (.int c_), .val (.int x_), .val (.int (2 : Int32)), .val (.int pk), .val (.int item), .val (.ref b2), .val (.ref b114), .val (.int (1 : Int32)), .unset, .unset] [(.int a), (.int (0 : Int32)), (.ref b123), (.ref b123)])
        obtain ⟨cl127, Ar127, Aq127, AS127, AN127, AH127, AG127⟩ := V123
        have hin128 : ¬ ((0 : Int32) < 0 ∨ cl127.slots.size ≤ ((0 : Int32)).toNatClampNeg) := (inb_of AS127 ⟨by decide, by decide⟩)
        obtain ⟨T128, h128, X128, e128, W128, st128⟩ := stI X123 hx hZ e123 Ar127 (j := (0 : Int32)) hin128 (g := (mkF m 178 #[.val (.int sel), .val (.int a), .val (.int b), .val (.int c_), .val (.int x_), .val (.int (2 : Int32)), .val (.int pk), .val (.int item), .val (.ref b2), .val (.ref b114), .val (.int (1 : Int32)), .unset, .unset] [(.int a), (.int (0 : Int32)), (.ref b123), (.ref b123)])) rfl rfl (hb hby at_178)
        have N128 := Fr.snoc X128 N122 g_b123
        have V128 : Arv Z h128 b123 k123 .int (3 : Int32) [(.int a), (.int (0 : Int32)), (.int (0 : Int32))] (.int (0 : Int32)) := Arv.set Ar127 Aq127 AS127 AN127 AH127 AG127 rfl W128 0 rfl (Nat.le_of_ble_eq_true rfl)
        replace p82_E := p82_E.wr W128
        replace p82_Fs := p82_Fs.other W128 (Or.inl ne124)
        replace p82_Fi := p82_Fi.other W128 (Or.inl ne124)
        replace p82_V := p82_V.other W128 ne125
        replace V122 := V122.other W128 ne126
        replace Z0 := Nat.le_trans Z0 (Keep.of_wr W128).1
        replace O := O.wr W128 g_b123
        refine own_via ?_ st128
        show Go _ _ _ _ _ _ _ _ (mkF m 179 #[.val (.int sel), .val (.int a), .val (.int b), .val (.int c_), .val (.int x_), .val (.int (2 : Int32)), .val (.int pk), .val (.int item), .val (.ref b2), .val (.ref b114), .val (.int (1 : Int32)), .unset, .unset] [(.ref b123)])
        refine own_via ?_ fun _ kt => XS.dup X128.here hx rfl (hb hby at_179) rfl rfl kt
        show Go _ _ _ _ _ _ _ _ (mkF m 180 #[.val (.int sel), .val (.int a), .val (.int b), .val (.int c_), .val (.int x_), .val (.int (2 : Int32)), .val (.int pk), .val (.int item), .val (.ref b2), .val (.ref b114), .val (.int (1 : Int32)), .unset, .unset] [(.ref b123), (.ref b123)])
        refine own_via ?_ fun _ kt => XS.iconst X128.here hx rfl (hb hby at_180) kt
        show Go _ _ _ _ _ _ _ _ (mkF m 181 #[.val (.int sel), .val (.int a), .val (.int b), .val (.int c_), .val (.int x_), .val (.int (2 : Int32)), .val (.int pk), .val (.int item), .val (.ref b2), .val (.ref b114), .val (.int (1 : Int32)), .unset, .unset] [(.int (1 : Int32)), (.ref b123), (.ref b123)])
        refine own_via ?_ fun _ kt => XS.iloadN X128.here hx rfl (hb hby at_181) rfl kt
        show Go _ _ _ _ _ _ _ _ (mkF m 182 #[.val (.int sel), .val (.int a), .val (.int b), .val (.int c_), .val (.int x_), .val (.int (2 : Int32)), .val (.int pk), .val (.int item), .val (.ref b2), .val (.ref b114), .val (.int (1 : Int32)), .unset, .unset] [(.int b), (.int (1 : Int32)), (.ref b123), (.ref b123)])
        obtain ⟨cl129, Ar129, Aq129, AS129, AN129, AH129, AG129⟩ := V128
        have hin130 : ¬ ((1 : Int32) < 0 ∨ cl129.slots.size ≤ ((1 : Int32)).toNatClampNeg) := (inb_of AS129 ⟨by decide, by decide⟩)
        obtain ⟨T130, h130, X130, e130, W130, st130⟩ := stI X128 hx hZ e128 Ar129 (j := (1 : Int32)) hin130 (g := (mkF m 182 #[.val (.int sel), .val (.int a), .val (.int b), .val (.int c_), .val (.int x_), .val (.int (2 : Int32)), .val (.int pk), .val (.int item), .val (.ref b2), .val (.ref b114), .val (.int (1 : Int32)), .unset, .unset] [(.int b), (.int (1 : Int32)), (.ref b123), (.ref b123)])) rfl rfl (hb hby at_182)
        have N130 := Fr.snoc X130 N128 g_b123
        have V130 : Arv Z h130 b123 k123 .int (3 : Int32) [(.int a), (.int b), (.int (0 : Int32))] (.int (0 : Int32)) := Arv.set Ar129 Aq129 AS129 AN129 AH129 AG129 rfl W130 1 rfl (Nat.le_of_ble_eq_true rfl)
        replace p82_E := p82_E.wr W130
        replace p82_Fs := p82_Fs.other W130 (Or.inl ne124)
        replace p82_Fi := p82_Fi.other W130 (Or.inl ne124)
        replace p82_V := p82_V.other W130 ne125
        replace V122 := V122.other W130 ne126
        replace Z0 := Nat.le_trans Z0 (Keep.of_wr W130).1
        replace O := O.wr W130 g_b123
        refine own_via ?_ st130
        show Go _ _ _ _ _ _ _ _ (mkF m 183 #[.val (.int sel), .val (.int a), .val (.int b), .val (.int c_), .val (.int x_), .val (.int (2 : Int32)), .val (.int pk), .val (.int item), .val (.ref b2), .val (.ref b114), .val (.int (1 : Int32)), .unset, .unset] [(.ref b123)])
        refine own_via ?_ fun _ kt => XS.dup X130.here hx rfl (hb hby at_183) rfl rfl kt
        show Go _ _ _ _ _ _ _ _ (mkF m 184 #[.val (.int sel), .val (.int a), .val (.int b), .val (.int c_), .val (.int x_), .val (.int (2 : Int32)), .val (.int pk), .val (.int item), .val (.ref b2), .val (.ref b114), .val (.int (1 : Int32)), .unset, .unset] [(.ref b123), (.ref b123)])
        refine own_via ?_ fun _ kt => XS.iconst X130.here hx rfl (hb hby at_184) kt
        show Go _ _ _ _ _ _ _ _ (mkF m 185 #[.val (.int sel), .val (.int a), .val (.int b), .val (.int c_), .val (.int x_), .val (.int (2 : Int32)), .val (.int pk), .val (.int item), .val (.ref b2), .val (.ref b114), .val (.int (1 : Int32)), .unset, .unset] [(.int (2 : Int32)), (.ref b123), (.ref b123)])
        refine own_via ?_ fun _ kt => XS.iloadN X130.here hx rfl (hb hby at_185) rfl kt
        show Go _ _ _ _ _ _ _ _ (mkF m 186 #[.val (.int sel), .val (.int a), .val (.int b), .val (.int c_), .val (.int x_), .val (.int (2 : Int32)), .val (.int pk), .val (.int item), .val (.ref b2), .val (.ref b114), .val (.int (1 : Int32)), .unset, .unset] [(.int c_), (.int (2 : Int32)), (.ref b123), (.ref b123)])
        obtain ⟨cl131, Ar131, Aq131, AS131, AN131, AH131, AG131⟩ := V130
        have hin132 : ¬ ((2 : Int32) < 0 ∨ cl131.slots.size ≤ ((2 : Int32)).toNatClampNeg) := (inb_of AS131 ⟨by decide, by decide⟩)
        obtain ⟨T132, h132, X132, e132, W132, st132⟩ := stI X130 hx hZ e130 Ar131 (j := (2 : Int32)) hin132 (g := (mkF m 186 #[.val (.int sel), .val (.int a), .val (.int b), .val (.int c_), .val (.int x_), .val (.int (2 : Int32)), .val (.int pk), .val (.int item), .val (.ref b2), .val (.ref b114), .val (.int (1 : Int32)), .unset, .unset] [(.int c_), (.int (2 : Int32)), (.ref b123), (.ref b123)])) rfl rfl (hb hby at_186)
        have N132 := Fr.snoc X132 N130 g_b123
        have V132 : Arv Z h132 b123 k123 .int (3 : Int32) [(.int a), (.int b), (.int c_)] (.int (0 : Int32)) := Arv.set Ar131 Aq131 AS131 AN131 AH131 AG131 rfl W132 2 rfl (Nat.le_of_ble_eq_true rfl)
        replace p82_E := p82_E.wr W132
        replace p82_Fs := p82_Fs.other W132 (Or.inl ne124)
        replace p82_Fi := p82_Fi.other W132 (Or.inl ne124)
        replace p82_V := p82_V.other W132 ne125
        replace V122 := V122.other W132 ne126
        replace Z0 := Nat.le_trans Z0 (Keep.of_wr W132).1
        replace O := O.wr W132 g_b123
        refine own_via ?_ st132
        show Go _ _ _ _ _ _ _ _ (mkF m 187 #[.val (.int sel), .val (.int a), .val (.int b), .val (.int c_), .val (.int x_), .val (.int (2 : Int32)), .val (.int pk), .val (.int item), .val (.ref b2), .val (.ref b114), .val (.int (1 : Int32)), .unset, .unset] [(.ref b123)])
        refine own_via ?_ fun _ kt => XS.astore X132.here hx rfl (hb hby at_187) rfl rfl (l' := #[.val (.int sel), .val (.int a), .val (.int b), .val (.int c_), .val (.int x_), .val (.int (2 : Int32)), .val (.int pk), .val (.int item), .val (.ref b2), .val (.ref b114), .val (.int (1 : Int32)), .val (.ref b123), .unset]) rfl kt
        show Go _ _ _ _ _ _ _ _ (mkF m 189 #[.val (.int sel), .val (.int a), .val (.int b), .val (.int c_), .val (.int x_), .val (.int (2 : Int32)), .val (.int pk), .val (.int item), .val (.ref b2), .val (.ref b114), .val (.int (1 : Int32)), .val (.ref b123), .unset] [])
        refine own_via ?_ fun _ kt => XS.iload X132.here hx rfl (hb hby at_189) rfl kt
        show Go _ _ _ _ _ _ _ _ (mkF m 191 #[.val (.int sel), .val (.int a), .val (.int b), .val (.int c_), .val (.int x_), .val (.int (2 : Int32)), .val (.int pk), .val (.int item), .val (.ref b2), .val (.ref b114), .val (.int (1 : Int32)), .val (.ref b123), .unset] [(.int (2 : Int32))])
        refine own_via ?_ fun _ kt => XS.istore X132.here hx rfl (hb hby at_191) rfl (l' := #[.val (.int sel), .val (.int a), .val (.int b), .val (.int c_), .val (.int x_), .val (.int (2 : Int32)), .val (.int pk), .val (.int item), .val (.ref b2), .val (.ref b114), .val (.int (1 : Int32)), .val (.ref b123), .val (.int (2 : Int32))]) rfl kt
        show Go _ _ _ _ _ _ _ _ (mkF m 193 #[.val (.int sel), .val (.int a), .val (.int b), .val (.int c_), .val (.int x_), .val (.int (2 : Int32)), .val (.int pk), .val (.int item), .val (.ref b2), .val (.ref b114), .val (.int (1 : Int32)), .val (.ref b123), .val (.int (2 : Int32))] [])
        refine own_via ?_ fun _ kt => XS.iload X132.here hx rfl (hb hby at_193) rfl kt
        show Go _ _ _ _ _ _ _ _ (mkF m 195 #[.val (.int sel), .val (.int a), .val (.int b), .val (.int c_), .val (.int x_), .val (.int (2 : Int32)), .val (.int pk), .val (.int item), .val (.ref b2), .val (.ref b114), .val (.int (1 : Int32)), .val (.ref b123), .val (.int (2 : Int32))] [(.int (1 : Int32))])
        refine own_via ?_ fun _ kt => XS.ifNo X132.here hx rfl (hb hby at_195) rfl ((if0 _ _).trans (flt (by decide : ¬ ((1 : Int32) < (0 : Int32)))).1) kt
        show Go _ _ _ _ _ _ _ _ (mkF m 198 #[.val (.int sel), .val (.int a), .val (.int b), .val (.int c_), .val (.int x_), .val (.int (2 : Int32)), .val (.int pk), .val (.int item), .val (.ref b2), .val (.ref b114), .val (.int (1 : Int32)), .val (.ref b123), .val (.int (2 : Int32))] [])
        refine own_via ?_ fun _ kt => XS.iload X132.here hx rfl (hb hby at_198) rfl kt
        show Go _ _ _ _ _ _ _ _ (mkF m 200 #[.val (.int sel), .val (.int a), .val (.int b), .val (.int c_), .val (.int x_), .val (.int (2 : Int32)), .val (.int pk), .val (.int item), .val (.ref b2), .val (.ref b114), .val (.int (1 : Int32)), .val (.ref b123), .val (.int (2 : Int32))] [(.int (2 : Int32))])
        refine own_via ?_ fun _ kt => XS.iconst X132.here hx rfl (hb hby at_200) kt
        show Go _ _ _ _ _ _ _ _ (mkF m 201 #[.val (.int sel), .val (.int a), .val (.int b), .val (.int c_), .val (.int x_), .val (.int (2 : Int32)), .val (.int pk), .val (.int item), .val (.ref b2), .val (.ref b114), .val (.int (1 : Int32)), .val (.ref b123), .val (.int (2 : Int32))] [(.int (1 : Int32)), (.int (2 : Int32))])
        refine own_via ?_ fun _ kt => XS.isub X132.here hx rfl (hb hby at_201) rfl kt
        show Go _ _ _ _ _ _ _ _ (mkF m 202 #[.val (.int sel), .val (.int a), .val (.int b), .val (.int c_), .val (.int x_), .val (.int (2 : Int32)), .val (.int pk), .val (.int item), .val (.ref b2), .val (.ref b114), .val (.int (1 : Int32)), .val (.ref b123), .val (.int (2 : Int32))] [(.int ((2 : Int32) - (1 : Int32)))])
        rw [show ((2 : Int32) - (1 : Int32)) = (1 : Int32) from by decide]
        show Go _ _ _ _ _ _ _ _ (mkF m 202 #[.val (.int sel), .val (.int a), .val (.int b), .val (.int c_), .val (.int x_), .val (.int (2 : Int32)), .val (.int pk), .val (.int item), .val (.ref b2), .val (.ref b114), .val (.int (1 : Int32)), .val (.ref b123), .val (.int (2 : Int32))] [(.int (1 : Int32))])
        refine own_via ?_ fun _ kt => XS.istore X132.here hx rfl (hb hby at_202) rfl (l' := #[.val (.int sel), .val (.int a), .val (.int b), .val (.int c_), .val (.int x_), .val (.int (2 : Int32)), .val (.int pk), .val (.int item), .val (.ref b2), .val (.ref b114), .val (.int (1 : Int32)), .val (.ref b123), .val (.int (1 : Int32))]) rfl kt
        show Go _ _ _ _ _ _ _ _ (mkF m 204 #[.val (.int sel), .val (.int a), .val (.int b), .val (.int c_), .val (.int x_), .val (.int (2 : Int32)), .val (.int pk), .val (.int item), .val (.ref b2), .val (.ref b114), .val (.int (1 : Int32)), .val (.ref b123), .val (.int (1 : Int32))] [])
        refine own_via ?_ fun _ kt => XS.aload X132.here hx rfl (hb hby at_204) rfl rfl kt
        show Go _ _ _ _ _ _ _ _ (mkF m 206 #[.val (.int sel), .val (.int a), .val (.int b), .val (.int c_), .val (.int x_), .val (.int (2 : Int32)), .val (.int pk), .val (.int item), .val (.ref b2), .val (.ref b114), .val (.int (1 : Int32)), .val (.ref b123), .val (.int (1 : Int32))] [(.ref b123)])
        refine own_via ?_ fun _ kt => XS.iload X132.here hx rfl (hb hby at_206) rfl kt
        show Go _ _ _ _ _ _ _ _ (mkF m 208 #[.val (.int sel), .val (.int a), .val (.int b), .val (.int c_), .val (.int x_), .val (.int (2 : Int32)), .val (.int pk), .val (.int item), .val (.ref b2), .val (.ref b114), .val (.int (1 : Int32)), .val (.ref b123), .val (.int (1 : Int32))] [(.int (1 : Int32)), (.ref b123)])
        refine own_via ?_ fun _ kt => XS.aload X132.here hx rfl (hb hby at_208) rfl rfl kt
        show Go _ _ _ _ _ _ _ _ (mkF m 210 #[.val (.int sel), .val (.int a), .val (.int b), .val (.int c_), .val (.int x_), .val (.int (2 : Int32)), .val (.int pk), .val (.int item), .val (.ref b2), .val (.ref b114), .val (.int (1 : Int32)), .val (.ref b123), .val (.int (1 : Int32))] [(.ref b114), (.int (1 : Int32)), (.ref b123)])
        refine own_via ?_ fun _ kt => XS.iload X132.here hx rfl (hb hby at_210) rfl kt
        show Go _ _ _ _ _ _ _ _ (mkF m 212 #[.val (.int sel), .val (.int a), .val (.int b), .val (.int c_), .val (.int x_), .val (.int (2 : Int32)), .val (.int pk), .val (.int item), .val (.ref b2), .val (.ref b114), .val (.int (1 : Int32)), .val (.ref b123), .val (.int (1 : Int32))] [(.int (2 : Int32)), (.ref b114), (.int (1 : Int32)), (.ref b123)])
        refine own_via ?_ fun _ kt => XS.iconst X132.here hx rfl (hb hby at_212) kt
        show Go _ _ _ _ _ _ _ _ (mkF m 213 #[.val (.int sel), .val (.int a), .val (.int b), .val (.int c_), .val (.int x_), .val (.int (2 : Int32)), .val (.int pk), .val (.int item), .val (.ref b2), .val (.ref b114), .val (.int (1 : Int32)), .val (.ref b123), .val (.int (1 : Int32))] [(.int (1 : Int32)), (.int (2 : Int32)), (.ref b114), (.int (1 : Int32)), (.ref b123)])
        refine own_via ?_ fun _ kt => XS.isub X132.here hx rfl (hb hby at_213) rfl kt
        show Go _ _ _ _ _ _ _ _ (mkF m 214 #[.val (.int sel), .val (.int a), .val (.int b), .val (.int c_), .val (.int x_), .val (.int (2 : Int32)), .val (.int pk), .val (.int item), .val (.ref b2), .val (.ref b114), .val (.int (1 : Int32)), .val (.ref b123), .val (.int (1 : Int32))] [(.int ((2 : Int32) - (1 : Int32))), (.ref b114), (.int (1 : Int32)), (.ref b123)])
        rw [show ((2 : Int32) - (1 : Int32)) = (1 : Int32) from by decide]
        show Go _ _ _ _ _ _ _ _ (mkF m 214 #[.val (.int sel), .val (.int a), .val (.int b), .val (.int c_), .val (.int x_), .val (.int (2 : Int32)), .val (.int pk), .val (.int item), .val (.ref b2), .val (.ref b114), .val (.int (1 : Int32)), .val (.ref b123), .val (.int (1 : Int32))] [(.int (1 : Int32)), (.ref b114), (.int (1 : Int32)), (.ref b123)])
        obtain ⟨cl133, Ar133, Aq133, AS133, AN133, AH133, AG133⟩ := V122
        have V122 : Arv Z h132 b114 k114 .int (3 : Int32) [(.int a), (.int b), (.int c_)] (.int (0 : Int32)) := ⟨cl133, Ar133, Aq133, AS133, AN133, AH133, AG133⟩
        have hin134 : ¬ ((1 : Int32) < 0 ∨ cl133.slots.size ≤ ((1 : Int32)).toNatClampNeg) := (inb_of AS133 ⟨by decide, by decide⟩)
        have hat134 : cl133.slots[((1 : Int32)).toNatClampNeg]? = some (.int b) := (AH133.at hin134 rfl)
        refine own_via ?_ fun _ kt => X132.iaload hx (j := (1 : Int32)) (v := (.int b)) (by rw [e132]; exact Ar133.1) (State.isArrayOf_alike hZ.alike Ar133.2.1) Ar133.2.2 hin134 hat134 (g := (mkF m 214 #[.val (.int sel), .val (.int a), .val (.int b), .val (.int c_), .val (.int x_), .val (.int (2 : Int32)), .val (.int pk), .val (.int item), .val (.ref b2), .val (.ref b114), .val (.int (1 : Int32)), .val (.ref b123), .val (.int (1 : Int32))] [(.int (1 : Int32)), (.ref b114), (.int (1 : Int32)), (.ref b123)])) rfl rfl (hb hby at_214) _ kt
        show Go _ _ _ _ _ _ _ _ (mkF m 215 #[.val (.int sel), .val (.int a), .val (.int b), .val (.int c_), .val (.int x_), .val (.int (2 : Int32)), .val (.int pk), .val (.int item), .val (.ref b2), .val (.ref b114), .val (.int (1 : Int32)), .val (.ref b123), .val (.int (1 : Int32))] [(.int b), (.int (1 : Int32)), (.ref b123)])
        obtain ⟨cl135, Ar135, Aq135, AS135, AN135, AH135, AG135⟩ := V132
        have hin136 : ¬ ((1 : Int32) < 0 ∨ cl135.slots.size ≤ ((1 : Int32)).toNatClampNeg) := (inb_of AS135 ⟨by decide, by decide⟩)
        obtain ⟨T136, h136, X136, e136, W136, st136⟩ := stI X132 hx hZ e132 Ar135 (j := (1 : Int32)) hin136 (g := (mkF m 215 #[.val (.int sel), .val (.int a), .val (.int b), .val (.int c_), .val (.int x_), .val (.int (2 : Int32)), .val (.int pk), .val (.int item), .val (.ref b2), .val (.ref b114), .val (.int (1 : Int32)), .val (.ref b123), .val (.int (1 : Int32))] [(.int b), (.int (1 : Int32)), (.ref b123)])) rfl rfl (hb hby at_215)
        have N136 := Fr.snoc X136 N132 g_b123
        have V136 : Arv Z h136 b123 k123 .int (3 : Int32) [(.int a), (.int b), (.int c_)] (.int (0 : Int32)) := Arv.set Ar135 Aq135 AS135 AN135 AH135 AG135 rfl W136 1 rfl (Nat.le_of_ble_eq_true rfl)
        replace p82_E := p82_E.wr W136
        replace p82_Fs := p82_Fs.other W136 (Or.inl ne124)
        replace p82_Fi := p82_Fi.other W136 (Or.inl ne124)
        replace p82_V := p82_V.other W136 ne125
        replace V122 := V122.other W136 ne126
        replace Z0 := Nat.le_trans Z0 (Keep.of_wr W136).1
        replace O := O.wr W136 g_b123
        refine own_via ?_ st136
        show Go _ _ _ _ _ _ _ _ (mkF m 216 #[.val (.int sel), .val (.int a), .val (.int b), .val (.int c_), .val (.int x_), .val (.int (2 : Int32)), .val (.int pk), .val (.int item), .val (.ref b2), .val (.ref b114), .val (.int (1 : Int32)), .val (.ref b123), .val (.int (1 : Int32))] [])
        refine own_via ?_ fun _ kt => XS.aload X136.here hx rfl (hb hby at_216) rfl rfl kt
        show Go _ _ _ _ _ _ _ _ (mkF m 218 #[.val (.int sel), .val (.int a), .val (.int b), .val (.int c_), .val (.int x_), .val (.int (2 : Int32)), .val (.int pk), .val (.int item), .val (.ref b2), .val (.ref b114), .val (.int (1 : Int32)), .val (.ref b123), .val (.int (1 : Int32))] [(.ref b2)])
        obtain ⟨T137, X137, e137, st137⟩ := getF X136 hx hZ hown (host := "") (Or.inl (hw _ (List.mem_of_getElem? (i := 21) rfl))) Via.refl e136 p82_Fs (g := (mkF m 218 #[.val (.int sel), .val (.int a), .val (.int b), .val (.int c_), .val (.int x_), .val (.int (2 : Int32)), .val (.int pk), .val (.int item), .val (.ref b2), .val (.ref b114), .val (.int (1 : Int32)), .val (.ref b123), .val (.int (1 : Int32))] [(.ref b2)])) rfl rfl (hb hby at_218)
        refine own_via ?_ st137
        show Go _ _ _ _ _ _ _ _ (mkF m 221 #[.val (.int sel), .val (.int a), .val (.int b), .val (.int c_), .val (.int x_), .val (.int (2 : Int32)), .val (.int pk), .val (.int item), .val (.ref b2), .val (.ref b114), .val (.int (1 : Int32)), .val (.ref b123), .val (.int (1 : Int32))] [(.int (1 : Int32))])
        refine own_via ?_ fun _ kt => XS.iload X137.here hx rfl (hb hby at_221) rfl kt
        show Go _ _ _ _ _ _ _ _ (mkF m 223 #[.val (.int sel), .val (.int a), .val (.int b), .val (.int c_), .val (.int x_), .val (.int (2 : Int32)), .val (.int pk), .val (.int item), .val (.ref b2), .val (.ref b114), .val (.int (1 : Int32)), .val (.ref b123), .val (.int (1 : Int32))] [(.int (1 : Int32)), (.int (1 : Int32))])
        refine own_via ?_ fun _ kt => XS.icmpYes X137.here hx rfl (pc0 := 223) (pc' := 228) rfl (hb hby at_223) rfl (teq rfl).1 (by decide) (by decide) kt
        show Go _ _ _ _ _ _ _ _ (mkF m 228 #[.val (.int sel), .val (.int a), .val (.int b), .val (.int c_), .val (.int x_), .val (.int (2 : Int32)), .val (.int pk), .val (.int item), .val (.ref b2), .val (.ref b114), .val (.int (1 : Int32)), .val (.ref b123), .val (.int (1 : Int32))] [])
        refine own_via ?_ fun _ kt => XS.aload X137.here hx rfl (hb hby at_228) rfl rfl kt
        show Go _ _ _ _ _ _ _ _ (mkF m 230 #[.val (.int sel), .val (.int a), .val (.int b), .val (.int c_), .val (.int x_), .val (.int (2 : Int32)), .val (.int pk), .val (.int item), .val (.ref b2), .val (.ref b114), .val (.int (1 : Int32)), .val (.ref b123), .val (.int (1 : Int32))] [(.ref b2)])
        obtain ⟨T138, X138, e138, st138⟩ := getF X137 hx hZ hown (host := "") (Or.inl (hw _ (List.mem_of_getElem? (i := 22) rfl))) Via.refl e137 p82_Fi (g := (mkF m 230 #[.val (.int sel), .val (.int a), .val (.int b), .val (.int c_), .val (.int x_), .val (.int (2 : Int32)), .val (.int pk), .val (.int item), .val (.ref b2), .val (.ref b114), .val (.int (1 : Int32)), .val (.ref b123), .val (.int (1 : Int32))] [(.ref b2)])) rfl rfl (hb hby at_230)
        refine own_via ?_ st138
        show Go _ _ _ _ _ _ _ _ (mkF m 233 #[.val (.int sel), .val (.int a), .val (.int b), .val (.int c_), .val (.int x_), .val (.int (2 : Int32)), .val (.int pk), .val (.int item), .val (.ref b2), .val (.ref b114), .val (.int (1 : Int32)), .val (.ref b123), .val (.int (1 : Int32))] [(.ref ba)])
        obtain ⟨cl139, Ar139, Aq139, AS139, AN139, AH139, AG139⟩ := p82_V
        have p82_V : Arv Z h136 ba ka .int (4 : Int32) [(.int a), (.int b), (.int (0 : Int32)), (.int (0 : Int32))] (.int (0 : Int32)) := ⟨cl139, Ar139, Aq139, AS139, AN139, AH139, AG139⟩
        refine own_via ?_ fun _ kt => X138.arraylength hx (by rw [e138]; exact Ar139.1) (State.isArrayOf_alike hZ.alike Ar139.2.1) (g := (mkF m 233 #[.val (.int sel), .val (.int a), .val (.int b), .val (.int c_), .val (.int x_), .val (.int (2 : Int32)), .val (.int pk), .val (.int item), .val (.ref b2), .val (.ref b114), .val (.int (1 : Int32)), .val (.ref b123), .val (.int (1 : Int32))] [(.ref ba)])) rfl rfl (hb hby at_233) _ kt
        rw [len_of AS139 AN139]
        show Go _ _ _ _ _ _ _ _ (mkF m 234 #[.val (.int sel), .val (.int a), .val (.int b), .val (.int c_), .val (.int x_), .val (.int (2 : Int32)), .val (.int pk), .val (.int item), .val (.ref b2), .val (.ref b114), .val (.int (1 : Int32)), .val (.ref b123), .val (.int (1 : Int32))] [(.int (4 : Int32))])
        refine own_via ?_ fun _ kt => XS.iload X138.here hx rfl (hb hby at_234) rfl kt
        show Go _ _ _ _ _ _ _ _ (mkF m 236 #[.val (.int sel), .val (.int a), .val (.int b), .val (.int c_), .val (.int x_), .val (.int (2 : Int32)), .val (.int pk), .val (.int item), .val (.ref b2), .val (.ref b114), .val (.int (1 : Int32)), .val (.ref b123), .val (.int (1 : Int32))] [(.int (1 : Int32)), (.int (4 : Int32))])
        refine own_via ?_ fun _ kt => XS.icmpYes X138.here hx rfl (pc0 := 236) (pc' := 241) rfl (hb hby at_236) rfl (flt (by decide : ¬ ((4 : Int32) < (1 : Int32)))).2.1 (by decide) (by decide) kt
        show Go _ _ _ _ _ _ _ _ (mkF m 241 #[.val (.int sel), .val (.int a), .val (.int b), .val (.int c_), .val (.int x_), .val (.int (2 : Int32)), .val (.int pk), .val (.int item), .val (.ref b2), .val (.ref b114), .val (.int (1 : Int32)), .val (.ref b123), .val (.int (1 : Int32))] [])
        refine own_via ?_ fun _ kt => XS.iload X138.here hx rfl (hb hby at_241) rfl kt
        show Go _ _ _ _ _ _ _ _ (mkF m 243 #[.val (.int sel), .val (.int a), .val (.int b), .val (.int c_), .val (.int x_), .val (.int (2 : Int32)), .val (.int pk), .val (.int item), .val (.ref b2), .val (.ref b114), .val (.int (1 : Int32)), .val (.ref b123), .val (.int (1 : Int32))] [(.int (1 : Int32))])
        refine own_via ?_ fun _ kt => XS.ifNo X138.here hx rfl (hb hby at_243) rfl ((if0 _ _).trans (tlt (by decide : ((0 : Int32) < (1 : Int32)))).2.2.2) kt
        show Go _ _ _ _ _ _ _ _ (mkF m 246 #[.val (.int sel), .val (.int a), .val (.int b), .val (.int c_), .val (.int x_), .val (.int (2 : Int32)), .val (.int pk), .val (.int item), .val (.ref b2), .val (.ref b114), .val (.int (1 : Int32)), .val (.ref b123), .val (.int (1 : Int32))] [])
        refine own_via ?_ fun _ kt => XS.aload X138.here hx rfl (hb hby at_246) rfl rfl kt
        show Go _ _ _ _ _ _ _ _ (mkF m 248 #[.val (.int sel), .val (.int a), .val (.int b), .val (.int c_), .val (.int x_), .val (.int (2 : Int32)), .val (.int pk), .val (.int item), .val (.ref b2), .val (.ref b114), .val (.int (1 : Int32)), .val (.ref b123), .val (.int (1 : Int32))] [(.ref b2)])
        obtain ⟨T140, X140, e140, st140⟩ := getF X138 hx hZ hown (host := "") (Or.inl (hw _ (List.mem_of_getElem? (i := 22) rfl))) Via.refl e138 p82_Fi (g := (mkF m 248 #[.val (.int sel), .val (.int a), .val (.int b), .val (.int c_), .val (.int x_), .val (.int (2 : Int32)), .val (.int pk), .val (.int item), .val (.ref b2), .val (.ref b114), .val (.int (1 : Int32)), .val (.ref b123), .val (.int (1 : Int32))] [(.ref b2)])) rfl rfl (hb hby at_248)
        refine own_via ?_ st140
        show Go _ _ _ _ _ _ _ _ (mkF m 251 #[.val (.int sel), .val (.int a), .val (.int b), .val (.int c_), .val (.int x_), .val (.int (2 : Int32)), .val (.int pk), .val (.int item), .val (.ref b2), .val (.ref b114), .val (.int (1 : Int32)), .val (.ref b123), .val (.int (1 : Int32))] [(.ref ba)])
        refine own_via ?_ fun _ kt => XS.iconst X140.here hx rfl (hb hby at_251) kt
        show Go _ _ _ _ _ _ _ _ (mkF m 252 #[.val (.int sel), .val (.int a), .val (.int b), .val (.int c_), .val (.int x_), .val (.int (2 : Int32)), .val (.int pk), .val (.int item), .val (.ref b2), .val (.ref b114), .val (.int (1 : Int32)), .val (.ref b123), .val (.int (1 : Int32))] [(.int (0 : Int32)), (.ref ba)])
        obtain ⟨cl141, Ar141, Aq141, AS141, AN141, AH141, AG141⟩ := p82_V
        have p82_V : Arv Z h136 ba ka .int (4 : Int32) [(.int a), (.int b), (.int (0 : Int32)), (.int (0 : Int32))] (.int (0 : Int32)) := ⟨cl141, Ar141, Aq141, AS141, AN141, AH141, AG141⟩
        have hin142 : ¬ ((0 : Int32) < 0 ∨ cl141.slots.size ≤ ((0 : Int32)).toNatClampNeg) := (inb_of AS141 ⟨by decide, by decide⟩)
        have hat142 : cl141.slots[((0 : Int32)).toNatClampNeg]? = some (.int a) := (AH141.at hin142 rfl)
        refine own_via ?_ fun _ kt => X140.iaload hx (j := (0 : Int32)) (v := (.int a)) (by rw [e140]; exact Ar141.1) (State.isArrayOf_alike hZ.alike Ar141.2.1) Ar141.2.2 hin142 hat142 (g := (mkF m 252 #[.val (.int sel), .val (.int a), .val (.int b), .val (.int c_), .val (.int x_), .val (.int (2 : Int32)), .val (.int pk), .val (.int item), .val (.ref b2), .val (.ref b114), .val (.int (1 : Int32)), .val (.ref b123), .val (.int (1 : Int32))] [(.int (0 : Int32)), (.ref ba)])) rfl rfl (hb hby at_252) _ kt
        show Go _ _ _ _ _ _ _ _ (mkF m 253 #[.val (.int sel), .val (.int a), .val (.int b), .val (.int c_), .val (.int x_), .val (.int (2 : Int32)), .val (.int pk), .val (.int item), .val (.ref b2), .val (.ref b114), .val (.int (1 : Int32)), .val (.ref b123), .val (.int (1 : Int32))] [(.int a)])
        refine own_via ?_ fun _ kt => XS.aload X140.here hx rfl (hb hby at_253) rfl rfl kt
        show Go _ _ _ _ _ _ _ _ (mkF m 255 #[.val (.int sel), .val (.int a), .val (.int b), .val (.int c_), .val (.int x_), .val (.int (2 : Int32)), .val (.int pk), .val (.int item), .val (.ref b2), .val (.ref b114), .val (.int (1 : Int32)), .val (.ref b123), .val (.int (1 : Int32))] [(.ref b123), (.int a)])
        refine own_via ?_ fun _ kt => XS.iconst X140.here hx rfl (hb hby at_255) kt
        show Go _ _ _ _ _ _ _ _ (mkF m 256 #[.val (.int sel), .val (.int a), .val (.int b), .val (.int c_), .val (.int x_), .val (.int (2 : Int32)), .val (.int pk), .val (.int item), .val (.ref b2), .val (.ref b114), .val (.int (1 : Int32)), .val (.ref b123), .val (.int (1 : Int32))] [(.int (0 : Int32)), (.ref b123), (.int a)])
        obtain ⟨cl143, Ar143, Aq143, AS143, AN143, AH143, AG143⟩ := V136
        have V136 : Arv Z h136 b123 k123 .int (3 : Int32) [(.int a), (.int b), (.int c_)] (.int (0 : Int32)) := ⟨cl143, Ar143, Aq143, AS143, AN143, AH143, AG143⟩
        have hin144 : ¬ ((0 : Int32) < 0 ∨ cl143.slots.size ≤ ((0 : Int32)).toNatClampNeg) := (inb_of AS143 ⟨by decide, by decide⟩)
        have hat144 : cl143.slots[((0 : Int32)).toNatClampNeg]? = some (.int a) := (AH143.at hin144 rfl)
        refine own_via ?_ fun _ kt => X140.iaload hx (j := (0 : Int32)) (v := (.int a)) (by rw [e140]; exact Ar143.1) (State.isArrayOf_alike hZ.alike Ar143.2.1) Ar143.2.2 hin144 hat144 (g := (mkF m 256 #[.val (.int sel), .val (.int a), .val (.int b), .val (.int c_), .val (.int x_), .val (.int (2 : Int32)), .val (.int pk), .val (.int item), .val (.ref b2), .val (.ref b114), .val (.int (1 : Int32)), .val (.ref b123), .val (.int (1 : Int32))] [(.int (0 : Int32)), (.ref b123), (.int a)])) rfl rfl (hb hby at_256) _ kt
        show Go _ _ _ _ _ _ _ _ (mkF m 257 #[.val (.int sel), .val (.int a), .val (.int b), .val (.int c_), .val (.int x_), .val (.int (2 : Int32)), .val (.int pk), .val (.int item), .val (.ref b2), .val (.ref b114), .val (.int (1 : Int32)), .val (.ref b123), .val (.int (1 : Int32))] [(.int a), (.int a)])
        refine own_via ?_ fun _ kt => XS.icmpYes X140.here hx rfl (pc0 := 257) (pc' := 262) rfl (hb hby at_257) rfl (teq rfl).1 (by decide) (by decide) kt
        show Go _ _ _ _ _ _ _ _ (mkF m 262 #[.val (.int sel), .val (.int a), .val (.int b), .val (.int c_), .val (.int x_), .val (.int (2 : Int32)), .val (.int pk), .val (.int item), .val (.ref b2), .val (.ref b114), .val (.int (1 : Int32)), .val (.ref b123), .val (.int (1 : Int32))] [])
        refine own_via ?_ fun _ kt => XS.iload X140.here hx rfl (hb hby at_262) rfl kt
        show Go _ _ _ _ _ _ _ _ (mkF m 264 #[.val (.int sel), .val (.int a), .val (.int b), .val (.int c_), .val (.int x_), .val (.int (2 : Int32)), .val (.int pk), .val (.int item), .val (.ref b2), .val (.ref b114), .val (.int (1 : Int32)), .val (.ref b123), .val (.int (1 : Int32))] [(.int (1 : Int32))])
        refine own_via ?_ fun _ kt => XS.iconst X140.here hx rfl (hb hby at_264) kt
        show Go _ _ _ _ _ _ _ _ (mkF m 265 #[.val (.int sel), .val (.int a), .val (.int b), .val (.int c_), .val (.int x_), .val (.int (2 : Int32)), .val (.int pk), .val (.int item), .val (.ref b2), .val (.ref b114), .val (.int (1 : Int32)), .val (.ref b123), .val (.int (1 : Int32))] [(.int (1 : Int32)), (.int (1 : Int32))])
        refine own_via ?_ fun _ kt => XS.icmpYes X140.here hx rfl (pc0 := 265) (pc' := 284) rfl (hb hby at_265) rfl (flt (by decide : ¬ ((1 : Int32) < (1 : Int32)))).2.2.2 (by decide) (by decide) kt
        show Go _ _ _ _ _ _ _ _ (mkF m 284 #[.val (.int sel), .val (.int a), .val (.int b), .val (.int c_), .val (.int x_), .val (.int (2 : Int32)), .val (.int pk), .val (.int item), .val (.ref b2), .val (.ref b114), .val (.int (1 : Int32)), .val (.ref b123), .val (.int (1 : Int32))] [])
        refine own_via ?_ fun _ kt => XS.iload X140.here hx rfl (hb hby at_284) rfl kt
        show Go _ _ _ _ _ _ _ _ (mkF m 286 #[.val (.int sel), .val (.int a), .val (.int b), .val (.int c_), .val (.int x_), .val (.int (2 : Int32)), .val (.int pk), .val (.int item), .val (.ref b2), .val (.ref b114), .val (.int (1 : Int32)), .val (.ref b123), .val (.int (1 : Int32))] [(.int (1 : Int32))])
        refine own_via ?_ fun _ kt => XS.iconst X140.here hx rfl (hb hby at_286) kt
        show Go _ _ _ _ _ _ _ _ (mkF m 287 #[.val (.int sel), .val (.int a), .val (.int b), .val (.int c_), .val (.int x_), .val (.int (2 : Int32)), .val (.int pk), .val (.int item), .val (.ref b2), .val (.ref b114), .val (.int (1 : Int32)), .val (.ref b123), .val (.int (1 : Int32))] [(.int (2 : Int32)), (.int (1 : Int32))])
        refine own_via ?_ fun _ kt => XS.icmpYes X140.here hx rfl (pc0 := 287) (pc' := 306) rfl (hb hby at_287) rfl (flt (by decide : ¬ ((2 : Int32) < (1 : Int32)))).2.2.2 (by decide) (by decide) kt
        show Go _ _ _ _ _ _ _ _ (mkF m 306 #[.val (.int sel), .val (.int a), .val (.int b), .val (.int c_), .val (.int x_), .val (.int (2 : Int32)), .val (.int pk), .val (.int item), .val (.ref b2), .val (.ref b114), .val (.int (1 : Int32)), .val (.ref b123), .val (.int (1 : Int32))] [])
        refine own_via ?_ fun _ kt => XS.iconst X140.here hx rfl (hb hby at_306) kt
        show Go _ _ _ _ _ _ _ _ (mkF m 307 #[.val (.int sel), .val (.int a), .val (.int b), .val (.int c_), .val (.int x_), .val (.int (2 : Int32)), .val (.int pk), .val (.int item), .val (.ref b2), .val (.ref b114), .val (.int (1 : Int32)), .val (.ref b123), .val (.int (1 : Int32))] [(.int (1 : Int32))])
        exact own_retZ (z' := (1 : Int32)) X140 hx hret hlk (hb hby at_307) rfl (by decide) (by decide) (by rw [e140]; exact ⟨rfl, N136⟩)
      · skip
        show Go _ _ _ _ _ _ _ _ (mkF m 102 #[.val (.int sel), .val (.int a), .val (.int b), .val (.int c_), .val (.int x_), .val (.int (2 : Int32)), .val (.int pk), .val (.int item), .val (.ref b2), .unset, .unset, .unset, .unset] [])
        refine own_via ?_ fun _ kt => XS.iconst X82.here hx rfl (hb hby at_102) kt
        show Go _ _ _ _ _ _ _ _ (mkF m 103 #[.val (.int sel), .val (.int a), .val (.int b), .val (.int c_), .val (.int x_), .val (.int (2 : Int32)), .val (.int pk), .val (.int item), .val (.ref b2), .unset, .unset, .unset, .unset] [(.int (3 : Int32))])
        obtain ⟨T145, h145, k145, X145, e145, E145, A145, st145⟩ := newP X82 hx hZ (hw _ (List.mem_of_getElem? (i := 20) rfl)) e82 (g := (mkF m 103 #[.val (.int sel), .val (.int a), .val (.int b), .val (.int c_), .val (.int x_), .val (.int (2 : Int32)), .val (.int pk), .val (.int item), .val (.ref b2), .unset, .unset, .unset, .unset] [(.int (3 : Int32))])) rfl (hb hby at_103) rfl (by decide) (cap := 3) (by decide) (by decide) (by decide) (by decide)
        obtain ⟨b145, g145⟩ : ∃ z, z = h82.size := ⟨_, rfl⟩
        rw [← g145] at A145 st145
        have ne146 : b2 ≠ b145 := by rw [g145]; exact Nat.ne_of_lt p82_E.lt
        have ne147 : ba ≠ b145 := by rw [g145]; exact Nat.ne_of_lt p82_V.lt
        have g_b145 : n0 ≤ b145 := by rw [g145]; exact Z0
        replace p82_E := p82_E.ext E145
        replace p82_Fs := p82_Fs.ext E145
        replace p82_Fi := p82_Fi.ext E145
        replace p82_V := p82_V.ext E145
        replace Z0 := Nat.le_trans Z0 E145.1
        replace O := O.ext E145
        have V145 : Arv Z h145 b145 k145 .int (3 : Int32) [(.int (0 : Int32)), (.int (0 : Int32)), (.int (0 : Int32))] (.int (0 : Int32)) := (Arv.new A145 (by decide)).pad (pad_rep [] (.int (0 : Int32)) 3)
        refine own_via ?_ st145
        show Go _ _ _ _ _ _ _ _ (mkF m 105 #[.val (.int sel), .val (.int a), .val (.int b), .val (.int c_), .val (.int x_), .val (.int (2 : Int32)), .val (.int pk), .val (.int item), .val (.ref b2), .unset, .unset, .unset, .unset] [(.ref b145)])
        refine own_via ?_ fun _ kt => XS.dup X145.here hx rfl (hb hby at_105) rfl rfl kt
        show Go _ _ _ _ _ _ _ _ (mkF m 106 #[.val (.int sel), .val (.int a), .val (.int b), .val (.int c_), .val (.int x_), .val (.int (2 : Int32)), .val (.int pk), .val (.int item), .val (.ref b2), .unset, .unset, .unset, .unset] [(.ref b145), (.ref b145)])
        refine own_via ?_ fun _ kt => XS.iconst X145.here hx rfl (hb hby at_106) kt
        show Go _ _ _ _ _ _ _ _ (mkF m 107 #[.val (.int sel), .val (.int a), .val (.int b), .val (.int c_), .val (.int x_), .val (.int (2 : Int32)), .val (.int pk), .val (.int item), .val (.ref b2), .unset, .unset, .unset, .unset] [(.int (0 : Int32)), (.ref b145), (.ref b145)])
        refine own_via ?_ fun _ kt => XS.iloadN X145.here hx rfl (hb hby at_107) rfl kt
        show Go _ _ _ _ _ _ _ _ (mkF m 108 #[.val (.int sel), .val (.int a), .val (.int b), .val (.int c_), .val (.int x_), .val (.int (2 : Int32)), .val (.int pk), .val (.int item), .val (.ref b2), .unset, .unset, .unset, .unset] [(.int a), (.int (0 : Int32)), (.ref b145), (.ref b145)])
        obtain ⟨cl148, Ar148, Aq148, AS148, AN148, AH148, AG148⟩ := V145
        have hin149 : ¬ ((0 : Int32) < 0 ∨ cl148.slots.size ≤ ((0 : Int32)).toNatClampNeg) := (inb_of AS148 ⟨by decide, by decide⟩)
        obtain ⟨T149, h149, X149, e149, W149, st149⟩ := stI X145 hx hZ e145 Ar148 (j := (0 : Int32)) hin149 (g := (mkF m 108 #[.val (.int sel), .val (.int a), .val (.int b), .val (.int c_), .val (.int x_), .val (.int (2 : Int32)), .val (.int pk), .val (.int item), .val (.ref b2), .unset, .unset, .unset, .unset] [(.int a), (.int (0 : Int32)), (.ref b145), (.ref b145)])) rfl rfl (hb hby at_108)
        have N149 := Fr.snoc X149 N82 g_b145
        have V149 : Arv Z h149 b145 k145 .int (3 : Int32) [(.int a), (.int (0 : Int32)), (.int (0 : Int32))] (.int (0 : Int32)) := Arv.set Ar148 Aq148 AS148 AN148 AH148 AG148 rfl W149 0 rfl (Nat.le_of_ble_eq_true rfl)
        replace p82_E := p82_E.wr W149
        replace p82_Fs := p82_Fs.other W149 (Or.inl ne146)
        replace p82_Fi := p82_Fi.other W149 (Or.inl ne146)
        replace p82_V := p82_V.other W149 ne147
        replace Z0 := Nat.le_trans Z0 (Keep.of_wr W149).1
        replace O := O.wr W149 g_b145
        refine own_via ?_ st149
        show Go _ _ _ _ _ _ _ _ (mkF m 109 #[.val (.int sel), .val (.int a), .val (.int b), .val (.int c_), .val (.int x_), .val (.int (2 : Int32)), .val (.int pk), .val (.int item), .val (.ref b2), .unset, .unset, .unset, .unset] [(.ref b145)])
        refine own_via ?_ fun _ kt => XS.dup X149.here hx rfl (hb hby at_109) rfl rfl kt
        show Go _ _ _ _ _ _ _ _ (mkF m 110 #[.val (.int sel), .val (.int a), .val (.int b), .val (.int c_), .val (.int x_), .val (.int (2 : Int32)), .val (.int pk), .val (.int item), .val (.ref b2), .unset, .unset, .unset, .unset] [(.ref b145), (.ref b145)])
        refine own_via ?_ fun _ kt => XS.iconst X149.here hx rfl (hb hby at_110) kt
        show Go _ _ _ _ _ _ _ _ (mkF m 111 #[.val (.int sel), .val (.int a), .val (.int b), .val (.int c_), .val (.int x_), .val (.int (2 : Int32)), .val (.int pk), .val (.int item), .val (.ref b2), .unset, .unset, .unset, .unset] [(.int (1 : Int32)), (.ref b145), (.ref b145)])
        refine own_via ?_ fun _ kt => XS.iloadN X149.here hx rfl (hb hby at_111) rfl kt
        show Go _ _ _ _ _ _ _ _ (mkF m 112 #[.val (.int sel), .val (.int a), .val (.int b), .val (.int c_), .val (.int x_), .val (.int (2 : Int32)), .val (.int pk), .val (.int item), .val (.ref b2), .unset, .unset, .unset, .unset] [(.int b), (.int (1 : Int32)), (.ref b145), (.ref b145)])
        obtain ⟨cl150, Ar150, Aq150, AS150, AN150, AH150, AG150⟩ := V149
        have hin151 : ¬ ((1 : Int32) < 0 ∨ cl150.slots.size ≤ ((1 : Int32)).toNatClampNeg) := (inb_of AS150 ⟨by decide, by decide⟩)
        obtain ⟨T151, h151, X151, e151, W151, st151⟩ := stI X149 hx hZ e149 Ar150 (j := (1 : Int32)) hin151 (g := (mkF m 112 #[.val (.int sel), .val (.int a), .val (.int b), .val (.int c_), .val (.int x_), .val (.int (2 : Int32)), .val (.int pk), .val (.int item), .val (.ref b2), .unset, .unset, .unset, .unset] [(.int b), (.int (1 : Int32)), (.ref b145), (.ref b145)])) rfl rfl (hb hby at_112)
        have N151 := Fr.snoc X151 N149 g_b145
        have V151 : Arv Z h151 b145 k145 .int (3 : Int32) [(.int a), (.int b), (.int (0 : Int32))] (.int (0 : Int32)) := Arv.set Ar150 Aq150 AS150 AN150 AH150 AG150 rfl W151 1 rfl (Nat.le_of_ble_eq_true rfl)
        replace p82_E := p82_E.wr W151
        replace p82_Fs := p82_Fs.other W151 (Or.inl ne146)
        replace p82_Fi := p82_Fi.other W151 (Or.inl ne146)
        replace p82_V := p82_V.other W151 ne147
        replace Z0 := Nat.le_trans Z0 (Keep.of_wr W151).1
        replace O := O.wr W151 g_b145
        refine own_via ?_ st151
        show Go _ _ _ _ _ _ _ _ (mkF m 113 #[.val (.int sel), .val (.int a), .val (.int b), .val (.int c_), .val (.int x_), .val (.int (2 : Int32)), .val (.int pk), .val (.int item), .val (.ref b2), .unset, .unset, .unset, .unset] [(.ref b145)])
        refine own_via ?_ fun _ kt => XS.dup X151.here hx rfl (hb hby at_113) rfl rfl kt
        show Go _ _ _ _ _ _ _ _ (mkF m 114 #[.val (.int sel), .val (.int a), .val (.int b), .val (.int c_), .val (.int x_), .val (.int (2 : Int32)), .val (.int pk), .val (.int item), .val (.ref b2), .unset, .unset, .unset, .unset] [(.ref b145), (.ref b145)])
        refine own_via ?_ fun _ kt => XS.iconst X151.here hx rfl (hb hby at_114) kt
        show Go _ _ _ _ _ _ _ _ (mkF m 115 #[.val (.int sel), .val (.int a), .val (.int b), .val (.int c_), .val (.int x_), .val (.int (2 : Int32)), .val (.int pk), .val (.int item), .val (.ref b2), .unset, .unset, .unset, .unset] [(.int (2 : Int32)), (.ref b145), (.ref b145)])
        refine own_via ?_ fun _ kt => XS.iloadN X151.here hx rfl (hb hby at_115) rfl kt
        show Go _ _ _ _ _ _ _ _ (mkF m 116 #[.val (.int sel), .val (.int a), .val (.int b), .val (.int c_), .val (.int x_), .val (.int (2 : Int32)), .val (.int pk), .val (.int item), .val (.ref b2), .unset, .unset, .unset, .unset] [(.int c_), (.int (2 : Int32)), (.ref b145), (.ref b145)])
        obtain ⟨cl152, Ar152, Aq152, AS152, AN152, AH152, AG152⟩ := V151
        have hin153 : ¬ ((2 : Int32) < 0 ∨ cl152.slots.size ≤ ((2 : Int32)).toNatClampNeg) := (inb_of AS152 ⟨by decide, by decide⟩)
        obtain ⟨T153, h153, X153, e153, W153, st153⟩ := stI X151 hx hZ e151 Ar152 (j := (2 : Int32)) hin153 (g := (mkF m 116 #[.val (.int sel), .val (.int a), .val (.int b), .val (.int c_), .val (.int x_), .val (.int (2 : Int32)), .val (.int pk), .val (.int item), .val (.ref b2), .unset, .unset, .unset, .unset] [(.int c_), (.int (2 : Int32)), (.ref b145), (.ref b145)])) rfl rfl (hb hby at_116)
        have N153 := Fr.snoc X153 N151 g_b145
        have V153 : Arv Z h153 b145 k145 .int (3 : Int32) [(.int a), (.int b), (.int c_)] (.int (0 : Int32)) := Arv.set Ar152 Aq152 AS152 AN152 AH152 AG152 rfl W153 2 rfl (Nat.le_of_ble_eq_true rfl)
        replace p82_E := p82_E.wr W153
        replace p82_Fs := p82_Fs.other W153 (Or.inl ne146)
        replace p82_Fi := p82_Fi.other W153 (Or.inl ne146)
        replace p82_V := p82_V.other W153 ne147
        replace Z0 := Nat.le_trans Z0 (Keep.of_wr W153).1
        replace O := O.wr W153 g_b145
        refine own_via ?_ st153
        show Go _ _ _ _ _ _ _ _ (mkF m 117 #[.val (.int sel), .val (.int a), .val (.int b), .val (.int c_), .val (.int x_), .val (.int (2 : Int32)), .val (.int pk), .val (.int item), .val (.ref b2), .unset, .unset, .unset, .unset] [(.ref b145)])
        refine own_via ?_ fun _ kt => XS.astore X153.here hx rfl (hb hby at_117) rfl rfl (l' := #[.val (.int sel), .val (.int a), .val (.int b), .val (.int c_), .val (.int x_), .val (.int (2 : Int32)), .val (.int pk), .val (.int item), .val (.ref b2), .val (.ref b145), .unset, .unset, .unset]) rfl kt
        show Go _ _ _ _ _ _ _ _ (mkF m 119 #[.val (.int sel), .val (.int a), .val (.int b), .val (.int c_), .val (.int x_), .val (.int (2 : Int32)), .val (.int pk), .val (.int item), .val (.ref b2), .val (.ref b145), .unset, .unset, .unset] [])
        refine own_via ?_ fun _ kt => XS.iconst X153.here hx rfl (hb hby at_119) kt
        show Go _ _ _ _ _ _ _ _ (mkF m 120 #[.val (.int sel), .val (.int a), .val (.int b), .val (.int c_), .val (.int x_), .val (.int (2 : Int32)), .val (.int pk), .val (.int item), .val (.ref b2), .val (.ref b145), .unset, .unset, .unset] [(.int (-1 : Int32))])
        refine own_via ?_ fun _ kt => XS.istore X153.here hx rfl (hb hby at_120) rfl (l' := #[.val (.int sel), .val (.int a), .val (.int b), .val (.int c_), .val (.int x_), .val (.int (2 : Int32)), .val (.int pk), .val (.int item), .val (.ref b2), .val (.ref b145), .val (.int (-1 : Int32)), .unset, .unset]) rfl kt
        show Go _ _ _ _ _ _ _ _ (mkF m 122 #[.val (.int sel), .val (.int a), .val (.int b), .val (.int c_), .val (.int x_), .val (.int (2 : Int32)), .val (.int pk), .val (.int item), .val (.ref b2), .val (.ref b145), .val (.int (-1 : Int32)), .unset, .unset] [])
        refine own_via ?_ fun _ kt => XS.iload X153.here hx rfl (hb hby at_122) rfl kt
        show Go _ _ _ _ _ _ _ _ (mkF m 124 #[.val (.int sel), .val (.int a), .val (.int b), .val (.int c_), .val (.int x_), .val (.int (2 : Int32)), .val (.int pk), .val (.int item), .val (.ref b2), .val (.ref b145), .val (.int (-1 : Int32)), .unset, .unset] [(.int (2 : Int32))])
        refine own_via ?_ fun _ kt => XS.ifNo X153.here hx rfl (hb hby at_124) rfl ((if0 _ _).trans (tlt (by decide : ((0 : Int32) < (2 : Int32)))).2.2.2) kt
        show Go _ _ _ _ _ _ _ _ (mkF m 127 #[.val (.int sel), .val (.int a), .val (.int b), .val (.int c_), .val (.int x_), .val (.int (2 : Int32)), .val (.int pk), .val (.int item), .val (.ref b2), .val (.ref b145), .val (.int (-1 : Int32)), .unset, .unset] [])
        refine own_via ?_ fun _ kt => XS.iloadN X153.here hx rfl (hb hby at_127) rfl kt
        show Go _ _ _ _ _ _ _ _ (mkF m 128 #[.val (.int sel), .val (.int a), .val (.int b), .val (.int c_), .val (.int x_), .val (.int (2 : Int32)), .val (.int pk), .val (.int item), .val (.ref b2), .val (.ref b145), .val (.int (-1 : Int32)), .unset, .unset] [(.int a)])
        refine own_via ?_ fun _ kt => XS.iload X153.here hx rfl (hb hby at_128) rfl kt
        show Go _ _ _ _ _ _ _ _ (mkF m 130 #[.val (.int sel), .val (.int a), .val (.int b), .val (.int c_), .val (.int x_), .val (.int (2 : Int32)), .val (.int pk), .val (.int item), .val (.ref b2), .val (.ref b145), .val (.int (-1 : Int32)), .unset, .unset] [(.int item), (.int a)])
        refine own_via ?_ fun _ kt => XS.icmpYes X153.here hx rfl (pc0 := 130) (pc' := 139) rfl (hb hby at_130) rfl (feq hv82_0).2 (by decide) (by decide) kt
        show Go _ _ _ _ _ _ _ _ (mkF m 139 #[.val (.int sel), .val (.int a), .val (.int b), .val (.int c_), .val (.int x_), .val (.int (2 : Int32)), .val (.int pk), .val (.int item), .val (.ref b2), .val (.ref b145), .val (.int (-1 : Int32)), .unset, .unset] [])
        refine own_via ?_ fun _ kt => XS.iload X153.here hx rfl (hb hby at_139) rfl kt
        show Go _ _ _ _ _ _ _ _ (mkF m 141 #[.val (.int sel), .val (.int a), .val (.int b), .val (.int c_), .val (.int x_), .val (.int (2 : Int32)), .val (.int pk), .val (.int item), .val (.ref b2), .val (.ref b145), .val (.int (-1 : Int32)), .unset, .unset] [(.int (2 : Int32))])
        refine own_via ?_ fun _ kt => XS.iconst X153.here hx rfl (hb hby at_141) kt
        show Go _ _ _ _ _ _ _ _ (mkF m 142 #[.val (.int sel), .val (.int a), .val (.int b), .val (.int c_), .val (.int x_), .val (.int (2 : Int32)), .val (.int pk), .val (.int item), .val (.ref b2), .val (.ref b145), .val (.int (-1 : Int32)), .unset, .unset] [(.int (1 : Int32)), (.int (2 : Int32))])
        refine own_via ?_ fun _ kt => XS.icmpNo X153.here hx rfl (hb hby at_142) rfl (tlt (by decide : ((1 : Int32) < (2 : Int32)))).2.2.2 kt
        show Go _ _ _ _ _ _ _ _ (mkF m 145 #[.val (.int sel), .val (.int a), .val (.int b), .val (.int c_), .val (.int x_), .val (.int (2 : Int32)), .val (.int pk), .val (.int item), .val (.ref b2), .val (.ref b145), .val (.int (-1 : Int32)), .unset, .unset] [])
        refine own_via ?_ fun _ kt => XS.iloadN X153.here hx rfl (hb hby at_145) rfl kt
        show Go _ _ _ _ _ _ _ _ (mkF m 146 #[.val (.int sel), .val (.int a), .val (.int b), .val (.int c_), .val (.int x_), .val (.int (2 : Int32)), .val (.int pk), .val (.int item), .val (.ref b2), .val (.ref b145), .val (.int (-1 : Int32)), .unset, .unset] [(.int b)])
        refine own_via ?_ fun _ kt => XS.iload X153.here hx rfl (hb hby at_146) rfl kt
        show Go _ _ _ _ _ _ _ _ (mkF m 148 #[.val (.int sel), .val (.int a), .val (.int b), .val (.int c_), .val (.int x_), .val (.int (2 : Int32)), .val (.int pk), .val (.int item), .val (.ref b2), .val (.ref b145), .val (.int (-1 : Int32)), .unset, .unset] [(.int item), (.int b)])
        refine own_via ?_ fun _ kt => XS.icmpYes X153.here hx rfl (pc0 := 148) (pc' := 157) rfl (hb hby at_148) rfl (feq hv82_1).2 (by decide) (by decide) kt
        show Go _ _ _ _ _ _ _ _ (mkF m 157 #[.val (.int sel), .val (.int a), .val (.int b), .val (.int c_), .val (.int x_), .val (.int (2 : Int32)), .val (.int pk), .val (.int item), .val (.ref b2), .val (.ref b145), .val (.int (-1 : Int32)), .unset, .unset] [])
        refine own_via ?_ fun _ kt => XS.iload X153.here hx rfl (hb hby at_157) rfl kt
        show Go _ _ _ _ _ _ _ _ (mkF m 159 #[.val (.int sel), .val (.int a), .val (.int b), .val (.int c_), .val (.int x_), .val (.int (2 : Int32)), .val (.int pk), .val (.int item), .val (.ref b2), .val (.ref b145), .val (.int (-1 : Int32)), .unset, .unset] [(.int (2 : Int32))])
        refine own_via ?_ fun _ kt => XS.iconst X153.here hx rfl (hb hby at_159) kt
        show Go _ _ _ _ _ _ _ _ (mkF m 160 #[.val (.int sel), .val (.int a), .val (.int b), .val (.int c_), .val (.int x_), .val (.int (2 : Int32)), .val (.int pk), .val (.int item), .val (.ref b2), .val (.ref b145), .val (.int (-1 : Int32)), .unset, .unset] [(.int (2 : Int32)), (.int (2 : Int32))])
        refine own_via ?_ fun _ kt => XS.icmpYes X153.here hx rfl (pc0 := 160) (pc' := 172) rfl (hb hby at_160) rfl (flt (by decide : ¬ ((2 : Int32) < (2 : Int32)))).2.2.2 (by decide) (by decide) kt
        show Go _ _ _ _ _ _ _ _ (mkF m 172 #[.val (.int sel), .val (.int a), .val (.int b), .val (.int c_), .val (.int x_), .val (.int (2 : Int32)), .val (.int pk), .val (.int item), .val (.ref b2), .val (.ref b145), .val (.int (-1 : Int32)), .unset, .unset] [])
        refine own_via ?_ fun _ kt => XS.iconst X153.here hx rfl (hb hby at_172) kt
        show Go _ _ _ _ _ _ _ _ (mkF m 173 #[.val (.int sel), .val (.int a), .val (.int b), .val (.int c_), .val (.int x_), .val (.int (2 : Int32)), .val (.int pk), .val (.int item), .val (.ref b2), .val (.ref b145), .val (.int (-1 : Int32)), .unset, .unset] [(.int (3 : Int32))])
        obtain ⟨T154, h154, k154, X154, e154, E154, A154, st154⟩ := newP X153 hx hZ (hw _ (List.mem_of_getElem? (i := 20) rfl)) e153 (g := (mkF m 173 #[.val (.int sel), .val (.int a), .val (.int b), .val (.int c_), .val (.int x_), .val (.int (2 : Int32)), .val (.int pk), .val (.int item), .val (.ref b2), .val (.ref b145), .val (.int (-1 : Int32)), .unset, .unset] [(.int (3 : Int32))])) rfl (hb hby at_173) rfl (by decide) (cap := 3) (by decide) (by decide) (by decide) (by decide)
        obtain ⟨b154, g154⟩ : ∃ z, z = h153.size := ⟨_, rfl⟩
        rw [← g154] at A154 st154
        have ne155 : b2 ≠ b154 := by rw [g154]; exact Nat.ne_of_lt p82_E.lt
        have ne156 : ba ≠ b154 := by rw [g154]; exact Nat.ne_of_lt p82_V.lt
        have ne157 : b145 ≠ b154 := by rw [g154]; exact Nat.ne_of_lt V153.lt
        have g_b154 : n0 ≤ b154 := by rw [g154]; exact Z0
        replace p82_E := p82_E.ext E154
        replace p82_Fs := p82_Fs.ext E154
        replace p82_Fi := p82_Fi.ext E154
        replace p82_V := p82_V.ext E154
        replace V153 := V153.ext E154
        replace Z0 := Nat.le_trans Z0 E154.1
        replace O := O.ext E154
        have V154 : Arv Z h154 b154 k154 .int (3 : Int32) [(.int (0 : Int32)), (.int (0 : Int32)), (.int (0 : Int32))] (.int (0 : Int32)) := (Arv.new A154 (by decide)).pad (pad_rep [] (.int (0 : Int32)) 3)
        refine own_via ?_ st154
        show Go _ _ _ _ _ _ _ _ (mkF m 175 #[.val (.int sel), .val (.int a), .val (.int b), .val (.int c_), .val (.int x_), .val (.int (2 : Int32)), .val (.int pk), .val (.int item), .val (.ref b2), .val (.ref b145), .val (.int (-1 : Int32)), .unset, .unset] [(.ref b154)])
        refine own_via ?_ fun _ kt => XS.dup X154.here hx rfl (hb hby at_175) rfl rfl kt
        show Go _ _ _ _ _ _ _ _ (mkF m 176 #[.val (.int sel), .val (.int a), .val (.int b), .val (.int c_), .val (.int x_), .val (.int (2 : Int32)), .val (.int pk), .val (.int item), .val (.ref b2), .val (.ref b145), .val (.int (-1 : Int32)), .unset, .unset] [(.ref b154), (.ref b154)])
        refine own_via ?_ fun _ kt => XS.iconst X154.here hx rfl (hb hby at_176) kt
        show Go _ _ _ _ _ _ _ _ (mkF m 177 #[.val (.int sel), .val (.int a), .val (.int b), .val (.int c_), .val (.int x_), .val (.int (2 : Int32)), .val (.int pk), .val (.int item), .val (.ref b2), .val (.ref b145), .val (.int (-1 : Int32)), .unset, .unset] [(.int (0 : Int32)), (.ref b154), (.ref b154)])
        refine own_via ?_ fun _ kt => XS.iloadN X154.here hx rfl (hb hby at_177) rfl kt
        show Go _ _ _ _ _ _ _ _ (mkF m 178 #[.val (.int sel), .val (.int a), .val (.int b), .val (.int c_), .val (.int x_), .val (.int (2 : Int32)), .val (.int pk), .val (.int item), .val (.ref b2), .val (.ref b145), .val (.int (-1 : Int32)), .unset, .unset] [(.int a), (.int (0 : Int32)), (.ref b154), (.ref b154)])
        obtain ⟨cl158, Ar158, Aq158, AS158, AN158, AH158, AG158⟩ := V154
        have hin159 : ¬ ((0 : Int32) < 0 ∨ cl158.slots.size ≤ ((0 : Int32)).toNatClampNeg) := (inb_of AS158 ⟨by decide, by decide⟩)
        obtain ⟨T159, h159, X159, e159, W159, st159⟩ := stI X154 hx hZ e154 Ar158 (j := (0 : Int32)) hin159 (g := (mkF m 178 #[.val (.int sel), .val (.int a), .val (.int b), .val (.int c_), .val (.int x_), .val (.int (2 : Int32)), .val (.int pk), .val (.int item), .val (.ref b2), .val (.ref b145), .val (.int (-1 : Int32)), .unset, .unset] [(.int a), (.int (0 : Int32)), (.ref b154), (.ref b154)])) rfl rfl (hb hby at_178)
        have N159 := Fr.snoc X159 N153 g_b154
        have V159 : Arv Z h159 b154 k154 .int (3 : Int32) [(.int a), (.int (0 : Int32)), (.int (0 : Int32))] (.int (0 : Int32)) := Arv.set Ar158 Aq158 AS158 AN158 AH158 AG158 rfl W159 0 rfl (Nat.le_of_ble_eq_true rfl)
        replace p82_E := p82_E.wr W159
        replace p82_Fs := p82_Fs.other W159 (Or.inl ne155)
        replace p82_Fi := p82_Fi.other W159 (Or.inl ne155)
        replace p82_V := p82_V.other W159 ne156
        replace V153 := V153.other W159 ne157
        replace Z0 := Nat.le_trans Z0 (Keep.of_wr W159).1
        replace O := O.wr W159 g_b154
        refine own_via ?_ st159
        show Go _ _ _ _ _ _ _ _ (mkF m 179 #[.val (.int sel), .val (.int a), .val (.int b), .val (.int c_), .val (.int x_), .val (.int (2 : Int32)), .val (.int pk), .val (.int item), .val (.ref b2), .val (.ref b145), .val (.int (-1 : Int32)), .unset, .unset] [(.ref b154)])
        refine own_via ?_ fun _ kt => XS.dup X159.here hx rfl (hb hby at_179) rfl rfl kt
        show Go _ _ _ _ _ _ _ _ (mkF m 180 #[.val (.int sel), .val (.int a), .val (.int b), .val (.int c_), .val (.int x_), .val (.int (2 : Int32)), .val (.int pk), .val (.int item), .val (.ref b2), .val (.ref b145), .val (.int (-1 : Int32)), .unset, .unset] [(.ref b154), (.ref b154)])
        refine own_via ?_ fun _ kt => XS.iconst X159.here hx rfl (hb hby at_180) kt
        show Go _ _ _ _ _ _ _ _ (mkF m 181 #[.val (.int sel), .val (.int a), .val (.int b), .val (.int c_), .val (.int x_), .val (.int (2 : Int32)), .val (.int pk), .val (.int item), .val (.ref b2), .val (.ref b145), .val (.int (-1 : Int32)), .unset, .unset] [(.int (1 : Int32)), (.ref b154), (.ref b154)])
        refine own_via ?_ fun _ kt => XS.iloadN X159.here hx rfl (hb hby at_181) rfl kt
        show Go _ _ _ _ _ _ _ _ (mkF m 182 #[.val (.int sel), .val (.int a), .val (.int b), .val (.int c_), .val (.int x_), .val (.int (2 : Int32)), .val (.int pk), .val (.int item), .val (.ref b2), .val (.ref b145), .val (.int (-1 : Int32)), .unset, .unset] [(.int b), (.int (1 : Int32)), (.ref b154), (.ref b154)])
        obtain ⟨cl160, Ar160, Aq160, AS160, AN160, AH160, AG160⟩ := V159
        have hin161 : ¬ ((1 : Int32) < 0 ∨ cl160.slots.size ≤ ((1 : Int32)).toNatClampNeg) := (inb_of AS160 ⟨by decide, by decide⟩)
        obtain ⟨T161, h161, X161, e161, W161, st161⟩ := stI X159 hx hZ e159 Ar160 (j := (1 : Int32)) hin161 (g := (mkF m 182 #[.val (.int sel), .val (.int a), .val (.int b), .val (.int c_), .val (.int x_), .val (.int (2 : Int32)), .val (.int pk), .val (.int item), .val (.ref b2), .val (.ref b145), .val (.int (-1 : Int32)), .unset, .unset] [(.int b), (.int (1 : Int32)), (.ref b154), (.ref b154)])) rfl rfl (hb hby at_182)
        have N161 := Fr.snoc X161 N159 g_b154
        have V161 : Arv Z h161 b154 k154 .int (3 : Int32) [(.int a), (.int b), (.int (0 : Int32))] (.int (0 : Int32)) := Arv.set Ar160 Aq160 AS160 AN160 AH160 AG160 rfl W161 1 rfl (Nat.le_of_ble_eq_true rfl)
        replace p82_E := p82_E.wr W161
        replace p82_Fs := p82_Fs.other W161 (Or.inl ne155)
        replace p82_Fi := p82_Fi.other W161 (Or.inl ne155)
        replace p82_V := p82_V.other W161 ne156
        replace V153 := V153.other W161 ne157
        replace Z0 := Nat.le_trans Z0 (Keep.of_wr W161).1
        replace O := O.wr W161 g_b154
        refine own_via ?_ st161
        show Go _ _ _ _ _ _ _ _ (mkF m 183 #[.val (.int sel), .val (.int a), .val (.int b), .val (.int c_), .val (.int x_), .val (.int (2 : Int32)), .val (.int pk), .val (.int item), .val (.ref b2), .val (.ref b145), .val (.int (-1 : Int32)), .unset, .unset] [(.ref b154)])
        refine own_via ?_ fun _ kt => XS.dup X161.here hx rfl (hb hby at_183) rfl rfl kt
        show Go _ _ _ _ _ _ _ _ (mkF m 184 #[.val (.int sel), .val (.int a), .val (.int b), .val (.int c_), .val (.int x_), .val (.int (2 : Int32)), .val (.int pk), .val (.int item), .val (.ref b2), .val (.ref b145), .val (.int (-1 : Int32)), .unset, .unset] [(.ref b154), (.ref b154)])
        refine own_via ?_ fun _ kt => XS.iconst X161.here hx rfl (hb hby at_184) kt
        show Go _ _ _ _ _ _ _ _ (mkF m 185 #[.val (.int sel), .val (.int a), .val (.int b), .val (.int c_), .val (.int x_), .val (.int (2 : Int32)), .val (.int pk), .val (.int item), .val (.ref b2), .val (.ref b145), .val (.int (-1 : Int32)), .unset, .unset] [(.int (2 : Int32)), (.ref b154), (.ref b154)])
        refine own_via ?_ fun _ kt => XS.iloadN X161.here hx rfl (hb hby at_185) rfl kt
        show Go _ _ _ _ _ _ _ _ (mkF m 186 #[.val (.int sel), .val (.int a), .val (.int b), .val (.int c_), .val (.int x_), .val (.int (2 : Int32)), .val (.int pk), .val (.int item), .val (.ref b2), .val (.ref b145), .val (.int (-1 : Int32)), .unset, .unset] [(.int c_), (.int (2 : Int32)), (.ref b154), (.ref b154)])
        obtain ⟨cl162, Ar162, Aq162, AS162, AN162, AH162, AG162⟩ := V161
        have hin163 : ¬ ((2 : Int32) < 0 ∨ cl162.slots.size ≤ ((2 : Int32)).toNatClampNeg) := (inb_of AS162 ⟨by decide, by decide⟩)
        obtain ⟨T163, h163, X163, e163, W163, st163⟩ := stI X161 hx hZ e161 Ar162 (j := (2 : Int32)) hin163 (g := (mkF m 186 #[.val (.int sel), .val (.int a), .val (.int b), .val (.int c_), .val (.int x_), .val (.int (2 : Int32)), .val (.int pk), .val (.int item), .val (.ref b2), .val (.ref b145), .val (.int (-1 : Int32)), .unset, .unset] [(.int c_), (.int (2 : Int32)), (.ref b154), (.ref b154)])) rfl rfl (hb hby at_186)
        have N163 := Fr.snoc X163 N161 g_b154
        have V163 : Arv Z h163 b154 k154 .int (3 : Int32) [(.int a), (.int b), (.int c_)] (.int (0 : Int32)) := Arv.set Ar162 Aq162 AS162 AN162 AH162 AG162 rfl W163 2 rfl (Nat.le_of_ble_eq_true rfl)
        replace p82_E := p82_E.wr W163
        replace p82_Fs := p82_Fs.other W163 (Or.inl ne155)
        replace p82_Fi := p82_Fi.other W163 (Or.inl ne155)
        replace p82_V := p82_V.other W163 ne156
        replace V153 := V153.other W163 ne157
        replace Z0 := Nat.le_trans Z0 (Keep.of_wr W163).1
        replace O := O.wr W163 g_b154
        refine own_via ?_ st163
        show Go _ _ _ _ _ _ _ _ (mkF m 187 #[.val (.int sel), .val (.int a), .val (.int b), .val (.int c_), .val (.int x_), .val (.int (2 : Int32)), .val (.int pk), .val (.int item), .val (.ref b2), .val (.ref b145), .val (.int (-1 : Int32)), .unset, .unset] [(.ref b154)])
        refine own_via ?_ fun _ kt => XS.astore X163.here hx rfl (hb hby at_187) rfl rfl (l' := #[.val (.int sel), .val (.int a), .val (.int b), .val (.int c_), .val (.int x_), .val (.int (2 : Int32)), .val (.int pk), .val (.int item), .val (.ref b2), .val (.ref b145), .val (.int (-1 : Int32)), .val (.ref b154), .unset]) rfl kt
        show Go _ _ _ _ _ _ _ _ (mkF m 189 #[.val (.int sel), .val (.int a), .val (.int b), .val (.int c_), .val (.int x_), .val (.int (2 : Int32)), .val (.int pk), .val (.int item), .val (.ref b2), .val (.ref b145), .val (.int (-1 : Int32)), .val (.ref b154), .unset] [])
        refine own_via ?_ fun _ kt => XS.iload X163.here hx rfl (hb hby at_189) rfl kt
        show Go _ _ _ _ _ _ _ _ (mkF m 191 #[.val (.int sel), .val (.int a), .val (.int b), .val (.int c_), .val (.int x_), .val (.int (2 : Int32)), .val (.int pk), .val (.int item), .val (.ref b2), .val (.ref b145), .val (.int (-1 : Int32)), .val (.ref b154), .unset] [(.int (2 : Int32))])
        refine own_via ?_ fun _ kt => XS.istore X163.here hx rfl (hb hby at_191) rfl (l' := #[.val (.int sel), .val (.int a), .val (.int b), .val (.int c_), .val (.int x_), .val (.int (2 : Int32)), .val (.int pk), .val (.int item), .val (.ref b2), .val (.ref b145), .val (.int (-1 : Int32)), .val (.ref b154), .val (.int (2 : Int32))]) rfl kt
        show Go _ _ _ _ _ _ _ _ (mkF m 193 #[.val (.int sel), .val (.int a), .val (.int b), .val (.int c_), .val (.int x_), .val (.int (2 : Int32)), .val (.int pk), .val (.int item), .val (.ref b2), .val (.ref b145), .val (.int (-1 : Int32)), .val (.ref b154), .val (.int (2 : Int32))] [])
        refine own_via ?_ fun _ kt => XS.iload X163.here hx rfl (hb hby at_193) rfl kt
        show Go _ _ _ _ _ _ _ _ (mkF m 195 #[.val (.int sel), .val (.int a), .val (.int b), .val (.int c_), .val (.int x_), .val (.int (2 : Int32)), .val (.int pk), .val (.int item), .val (.ref b2), .val (.ref b145), .val (.int (-1 : Int32)), .val (.ref b154), .val (.int (2 : Int32))] [(.int (-1 : Int32))])
        refine own_via ?_ fun _ kt => XS.ifYes X163.here hx rfl (pc0 := 195) (pc' := 216) rfl (hb hby at_195) rfl ((if0 _ _).trans (tlt (by decide : ((-1 : Int32) < (0 : Int32)))).1) (by decide) (by decide) kt
        show Go _ _ _ _ _ _ _ _ (mkF m 216 #[.val (.int sel), .val (.int a), .val (.int b), .val (.int c_), .val (.int x_), .val (.int (2 : Int32)), .val (.int pk), .val (.int item), .val (.ref b2), .val (.ref b145), .val (.int (-1 : Int32)), .val (.ref b154), .val (.int (2 : Int32))] [])
        refine own_via ?_ fun _ kt => XS.aload X163.here hx rfl (hb hby at_216) rfl rfl kt
        show Go _ _ _ _ _ _ _ _ (mkF m 218 #[.val (.int sel), .val (.int a), .val (.int b), .val (.int c_), .val (.int x_), .val (.int (2 : Int32)), .val (.int pk), .val (.int item), .val (.ref b2), .val (.ref b145), .val (.int (-1 : Int32)), .val (.ref b154), .val (.int (2 : Int32))] [(.ref b2)])
        obtain ⟨T164, X164, e164, st164⟩ := getF X163 hx hZ hown (host := "") (Or.inl (hw _ (List.mem_of_getElem? (i := 21) rfl))) Via.refl e163 p82_Fs (g := (mkF m 218 #[.val (.int sel), .val (.int a), .val (.int b), .val (.int c_), .val (.int x_), .val (.int (2 : Int32)), .val (.int pk), .val (.int item), .val (.ref b2), .val (.ref b145), .val (.int (-1 : Int32)), .val (.ref b154), .val (.int (2 : Int32))] [(.ref b2)])) rfl rfl (hb hby at_218)
        refine own_via ?_ st164
        show Go _ _ _ _ _ _ _ _ (mkF m 221 #[.val (.int sel), .val (.int a), .val (.int b), .val (.int c_), .val (.int x_), .val (.int (2 : Int32)), .val (.int pk), .val (.int item), .val (.ref b2), .val (.ref b145), .val (.int (-1 : Int32)), .val (.ref b154), .val (.int (2 : Int32))] [(.int (2 : Int32))])
        refine own_via ?_ fun _ kt => XS.iload X164.here hx rfl (hb hby at_221) rfl kt
        show Go _ _ _ _ _ _ _ _ (mkF m 223 #[.val (.int sel), .val (.int a), .val (.int b), .val (.int c_), .val (.int x_), .val (.int (2 : Int32)), .val (.int pk), .val (.int item), .val (.ref b2), .val (.ref b145), .val (.int (-1 : Int32)), .val (.ref b154), .val (.int (2 : Int32))] [(.int (2 : Int32)), (.int (2 : Int32))])
        refine own_via ?_ fun _ kt => XS.icmpYes X164.here hx rfl (pc0 := 223) (pc' := 228) rfl (hb hby at_223) rfl (teq rfl).1 (by decide) (by decide) kt
        show Go _ _ _ _ _ _ _ _ (mkF m 228 #[.val (.int sel), .val (.int a), .val (.int b), .val (.int c_), .val (.int x_), .val (.int (2 : Int32)), .val (.int pk), .val (.int item), .val (.ref b2), .val (.ref b145), .val (.int (-1 : Int32)), .val (.ref b154), .val (.int (2 : Int32))] [])
        refine own_via ?_ fun _ kt => XS.aload X164.here hx rfl (hb hby at_228) rfl rfl kt
        show Go _ _ _ _ _ _ _ _ (mkF m 230 #[.val (.int sel), .val (.int a), .val (.int b), .val (.int c_), .val (.int x_), .val (.int (2 : Int32)), .val (.int pk), .val (.int item), .val (.ref b2), .val (.ref b145), .val (.int (-1 : Int32)), .val (.ref b154), .val (.int (2 : Int32))] [(.ref b2)])
        obtain ⟨T165, X165, e165, st165⟩ := getF X164 hx hZ hown (host := "") (Or.inl (hw _ (List.mem_of_getElem? (i := 22) rfl))) Via.refl e164 p82_Fi (g := (mkF m 230 #[.val (.int sel), .val (.int a), .val (.int b), .val (.int c_), .val (.int x_), .val (.int (2 : Int32)), .val (.int pk), .val (.int item), .val (.ref b2), .val (.ref b145), .val (.int (-1 : Int32)), .val (.ref b154), .val (.int (2 : Int32))] [(.ref b2)])) rfl rfl (hb hby at_230)
        refine own_via ?_ st165
        show Go _ _ _ _ _ _ _ _ (mkF m 233 #[.val (.int sel), .val (.int a), .val (.int b), .val (.int c_), .val (.int x_), .val (.int (2 : Int32)), .val (.int pk), .val (.int item), .val (.ref b2), .val (.ref b145), .val (.int (-1 : Int32)), .val (.ref b154), .val (.int (2 : Int32))] [(.ref ba)])
        obtain ⟨cl166, Ar166, Aq166, AS166, AN166, AH166, AG166⟩ := p82_V
        have p82_V : Arv Z h163 ba ka .int (4 : Int32) [(.int a), (.int b), (.int (0 : Int32)), (.int (0 : Int32))] (.int (0 : Int32)) := ⟨cl166, Ar166, Aq166, AS166, AN166, AH166, AG166⟩
        refine own_via ?_ fun _ kt => X165.arraylength hx (by rw [e165]; exact Ar166.1) (State.isArrayOf_alike hZ.alike Ar166.2.1) (g := (mkF m 233 #[.val (.int sel), .val (.int a), .val (.int b), .val (.int c_), .val (.int x_), .val (.int (2 : Int32)), .val (.int pk), .val (.int item), .val (.ref b2), .val (.ref b145), .val (.int (-1 : Int32)), .val (.ref b154), .val (.int (2 : Int32))] [(.ref ba)])) rfl rfl (hb hby at_233) _ kt
        rw [len_of AS166 AN166]
        show Go _ _ _ _ _ _ _ _ (mkF m 234 #[.val (.int sel), .val (.int a), .val (.int b), .val (.int c_), .val (.int x_), .val (.int (2 : Int32)), .val (.int pk), .val (.int item), .val (.ref b2), .val (.ref b145), .val (.int (-1 : Int32)), .val (.ref b154), .val (.int (2 : Int32))] [(.int (4 : Int32))])
        refine own_via ?_ fun _ kt => XS.iload X165.here hx rfl (hb hby at_234) rfl kt
        show Go _ _ _ _ _ _ _ _ (mkF m 236 #[.val (.int sel), .val (.int a), .val (.int b), .val (.int c_), .val (.int x_), .val (.int (2 : Int32)), .val (.int pk), .val (.int item), .val (.ref b2), .val (.ref b145), .val (.int (-1 : Int32)), .val (.ref b154), .val (.int (2 : Int32))] [(.int (2 : Int32)), (.int (4 : Int32))])
        refine own_via ?_ fun _ kt => XS.icmpYes X165.here hx rfl (pc0 := 236) (pc' := 241) rfl (hb hby at_236) rfl (flt (by decide : ¬ ((4 : Int32) < (2 : Int32)))).2.1 (by decide) (by decide) kt
        show Go _ _ _ _ _ _ _ _ (mkF m 241 #[.val (.int sel), .val (.int a), .val (.int b), .val (.int c_), .val (.int x_), .val (.int (2 : Int32)), .val (.int pk), .val (.int item), .val (.ref b2), .val (.ref b145), .val (.int (-1 : Int32)), .val (.ref b154), .val (.int (2 : Int32))] [])
        refine own_via ?_ fun _ kt => XS.iload X165.here hx rfl (hb hby at_241) rfl kt
        show Go _ _ _ _ _ _ _ _ (mkF m 243 #[.val (.int sel), .val (.int a), .val (.int b), .val (.int c_), .val (.int x_), .val (.int (2 : Int32)), .val (.int pk), .val (.int item), .val (.ref b2), .val (.ref b145), .val (.int (-1 : Int32)), .val (.ref b154), .val (.int (2 : Int32))] [(.int (2 : Int32))])
        refine own_via ?_ fun _ kt => XS.ifNo X165.here hx rfl (hb hby at_243) rfl ((if0 _ _).trans (tlt (by decide : ((0 : Int32) < (2 : Int32)))).2.2.2) kt
        show Go _ _ _ _ _ _ _ _ (mkF m 246 #[.val (.int sel), .val (.int a), .val (.int b), .val (.int c_), .val (.int x_), .val (.int (2 : Int32)), .val (.int pk), .val (.int item), .val (.ref b2), .val (.ref b145), .val (.int (-1 : Int32)), .val (.ref b154), .val (.int (2 : Int32))] [])
        refine own_via ?_ fun _ kt => XS.aload X165.here hx rfl (hb hby at_246) rfl rfl kt
        show Go _ _ _ _ _ _ _ _ (mkF m 248 #[.val (.int sel), .val (.int a), .val (.int b), .val (.int c_), .val (.int x_), .val (.int (2 : Int32)), .val (.int pk), .val (.int item), .val (.ref b2), .val (.ref b145), .val (.int (-1 : Int32)), .val (.ref b154), .val (.int (2 : Int32))] [(.ref b2)])
        obtain ⟨T167, X167, e167, st167⟩ := getF X165 hx hZ hown (host := "") (Or.inl (hw _ (List.mem_of_getElem? (i := 22) rfl))) Via.refl e165 p82_Fi (g := (mkF m 248 #[.val (.int sel), .val (.int a), .val (.int b), .val (.int c_), .val (.int x_), .val (.int (2 : Int32)), .val (.int pk), .val (.int item), .val (.ref b2), .val (.ref b145), .val (.int (-1 : Int32)), .val (.ref b154), .val (.int (2 : Int32))] [(.ref b2)])) rfl rfl (hb hby at_248)
        refine own_via ?_ st167
        show Go _ _ _ _ _ _ _ _ (mkF m 251 #[.val (.int sel), .val (.int a), .val (.int b), .val (.int c_), .val (.int x_), .val (.int (2 : Int32)), .val (.int pk), .val (.int item), .val (.ref b2), .val (.ref b145), .val (.int (-1 : Int32)), .val (.ref b154), .val (.int (2 : Int32))] [(.ref ba)])
        refine own_via ?_ fun _ kt => XS.iconst X167.here hx rfl (hb hby at_251) kt
        show Go _ _ _ _ _ _ _ _ (mkF m 252 #[.val (.int sel), .val (.int a), .val (.int b), .val (.int c_), .val (.int x_), .val (.int (2 : Int32)), .val (.int pk), .val (.int item), .val (.ref b2), .val (.ref b145), .val (.int (-1 : Int32)), .val (.ref b154), .val (.int (2 : Int32))] [(.int (0 : Int32)), (.ref ba)])
        obtain ⟨cl168, Ar168, Aq168, AS168, AN168, AH168, AG168⟩ := p82_V
        have p82_V : Arv Z h163 ba ka .int (4 : Int32) [(.int a), (.int b), (.int (0 : Int32)), (.int (0 : Int32))] (.int (0 : Int32)) := ⟨cl168, Ar168, Aq168, AS168, AN168, AH168, AG168⟩
        have hin169 : ¬ ((0 : Int32) < 0 ∨ cl168.slots.size ≤ ((0 : Int32)).toNatClampNeg) := (inb_of AS168 ⟨by decide, by decide⟩)
        have hat169 : cl168.slots[((0 : Int32)).toNatClampNeg]? = some (.int a) := (AH168.at hin169 rfl)
        refine own_via ?_ fun _ kt => X167.iaload hx (j := (0 : Int32)) (v := (.int a)) (by rw [e167]; exact Ar168.1) (State.isArrayOf_alike hZ.alike Ar168.2.1) Ar168.2.2 hin169 hat169 (g := (mkF m 252 #[.val (.int sel), .val (.int a), .val (.int b), .val (.int c_), .val (.int x_), .val (.int (2 : Int32)), .val (.int pk), .val (.int item), .val (.ref b2), .val (.ref b145), .val (.int (-1 : Int32)), .val (.ref b154), .val (.int (2 : Int32))] [(.int (0 : Int32)), (.ref ba)])) rfl rfl (hb hby at_252) _ kt
        show Go _ _ _ _ _ _ _ _ (mkF m 253 #[.val (.int sel), .val (.int a), .val (.int b), .val (.int c_), .val (.int x_), .val (.int (2 : Int32)), .val (.int pk), .val (.int item), .val (.ref b2), .val (.ref b145), .val (.int (-1 : Int32)), .val (.ref b154), .val (.int (2 : Int32))] [(.int a)])
        refine own_via ?_ fun _ kt => XS.aload X167.here hx rfl (hb hby at_253) rfl rfl kt
        show Go _ _ _ _ _ _ _ _ (mkF m 255 #[.val (.int sel), .val (.int a), .val (.int b), .val (.int c_), .val (.int x_), .val (.int (2 : Int32)), .val (.int pk), .val (.int item), .val (.ref b2), .val (.ref b145), .val (.int (-1 : Int32)), .val (.ref b154), .val (.int (2 : Int32))] [(.ref b154), (.int a)])
        refine own_via ?_ fun _ kt => XS.iconst X167.here hx rfl (hb hby at_255) kt
        show Go _ _ _ _ _ _ _ _ (mkF m 256 #[.val (.int sel), .val (.int a), .val (.int b), .val (.int c_), .val (.int x_), .val (.int (2 : Int32)), .val (.int pk), .val (.int item), .val (.ref b2), .val (.ref b145), .val (.int (-1 : Int32)), .val (.ref b154), .val (.int (2 : Int32))] [(.int (0 : Int32)), (.ref b154), (.int a)])
        obtain ⟨cl170, Ar170, Aq170, AS170, AN170, AH170, AG170⟩ := V163
        have V163 : Arv Z h163 b154 k154 .int (3 : Int32) [(.int a), (.int b), (.int c_)] (.int (0 : Int32)) := ⟨cl170, Ar170, Aq170, AS170, AN170, AH170, AG170⟩
        have hin171 : ¬ ((0 : Int32) < 0 ∨ cl170.slots.size ≤ ((0 : Int32)).toNatClampNeg) := (inb_of AS170 ⟨by decide, by decide⟩)
        have hat171 : cl170.slots[((0 : Int32)).toNatClampNeg]? = some (.int a) := (AH170.at hin171 rfl)
        refine own_via ?_ fun _ kt => X167.iaload hx (j := (0 : Int32)) (v := (.int a)) (by rw [e167]; exact Ar170.1) (State.isArrayOf_alike hZ.alike Ar170.2.1) Ar170.2.2 hin171 hat171 (g := (mkF m 256 #[.val (.int sel), .val (.int a), .val (.int b), .val (.int c_), .val (.int x_), .val (.int (2 : Int32)), .val (.int pk), .val (.int item), .val (.ref b2), .val (.ref b145), .val (.int (-1 : Int32)), .val (.ref b154), .val (.int (2 : Int32))] [(.int (0 : Int32)), (.ref b154), (.int a)])) rfl rfl (hb hby at_256) _ kt
        show Go _ _ _ _ _ _ _ _ (mkF m 257 #[.val (.int sel), .val (.int a), .val (.int b), .val (.int c_), .val (.int x_), .val (.int (2 : Int32)), .val (.int pk), .val (.int item), .val (.ref b2), .val (.ref b145), .val (.int (-1 : Int32)), .val (.ref b154), .val (.int (2 : Int32))] [(.int a), (.int a)])
        refine own_via ?_ fun _ kt => XS.icmpYes X167.here hx rfl (pc0 := 257) (pc' := 262) rfl (hb hby at_257) rfl (teq rfl).1 (by decide) (by decide) kt
        show Go _ _ _ _ _ _ _ _ (mkF m 262 #[.val (.int sel), .val (.int a), .val (.int b), .val (.int c_), .val (.int x_), .val (.int (2 : Int32)), .val (.int pk), .val (.int item), .val (.ref b2), .val (.ref b145), .val (.int (-1 : Int32)), .val (.ref b154), .val (.int (2 : Int32))] [])
        refine own_via ?_ fun _ kt => XS.iload X167.here hx rfl (hb hby at_262) rfl kt
        show Go _ _ _ _ _ _ _ _ (mkF m 264 #[.val (.int sel), .val (.int a), .val (.int b), .val (.int c_), .val (.int x_), .val (.int (2 : Int32)), .val (.int pk), .val (.int item), .val (.ref b2), .val (.ref b145), .val (.int (-1 : Int32)), .val (.ref b154), .val (.int (2 : Int32))] [(.int (2 : Int32))])
        refine own_via ?_ fun _ kt => XS.iconst X167.here hx rfl (hb hby at_264) kt
        show Go _ _ _ _ _ _ _ _ (mkF m 265 #[.val (.int sel), .val (.int a), .val (.int b), .val (.int c_), .val (.int x_), .val (.int (2 : Int32)), .val (.int pk), .val (.int item), .val (.ref b2), .val (.ref b145), .val (.int (-1 : Int32)), .val (.ref b154), .val (.int (2 : Int32))] [(.int (1 : Int32)), (.int (2 : Int32))])
        refine own_via ?_ fun _ kt => XS.icmpNo X167.here hx rfl (hb hby at_265) rfl (tlt (by decide : ((1 : Int32) < (2 : Int32)))).2.2.2 kt
        show Go _ _ _ _ _ _ _ _ (mkF m 268 #[.val (.int sel), .val (.int a), .val (.int b), .val (.int c_), .val (.int x_), .val (.int (2 : Int32)), .val (.int pk), .val (.int item), .val (.ref b2), .val (.ref b145), .val (.int (-1 : Int32)), .val (.ref b154), .val (.int (2 : Int32))] [])
        refine own_via ?_ fun _ kt => XS.aload X167.here hx rfl (hb hby at_268) rfl rfl kt
        show Go _ _ _ _ _ _ _ _ (mkF m 270 #[.val (.int sel), .val (.int a), .val (.int b), .val (.int c_), .val (.int x_), .val (.int (2 : Int32)), .val (.int pk), .val (.int item), .val (.ref b2), .val (.ref b145), .val (.int (-1 : Int32)), .val (.ref b154), .val (.int (2 : Int32))] [(.ref b2)])
        obtain ⟨T172, X172, e172, st172⟩ := getF X167 hx hZ hown (host := "") (Or.inl (hw _ (List.mem_of_getElem? (i := 22) rfl))) Via.refl e167 p82_Fi (g := (mkF m 270 #[.val (.int sel), .val (.int a), .val (.int b), .val (.int c_), .val (.int x_), .val (.int (2 : Int32)), .val (.int pk), .val (.int item), .val (.ref b2), .val (.ref b145), .val (.int (-1 : Int32)), .val (.ref b154), .val (.int (2 : Int32))] [(.ref b2)])) rfl rfl (hb hby at_270)
        refine own_via ?_ st172
        show Go _ _ _ _ _ _ _ _ (mkF m 273 #[.val (.int sel), .val (.int a), .val (.int b), .val (.int c_), .val (.int x_), .val (.int (2 : Int32)), .val (.int pk), .val (.int item), .val (.ref b2), .val (.ref b145), .val (.int (-1 : Int32)), .val (.ref b154), .val (.int (2 : Int32))] [(.ref ba)])
        refine own_via ?_ fun _ kt => XS.iconst X172.here hx rfl (hb hby at_273) kt
        show Go _ _ _ _ _ _ _ _ (mkF m 274 #[.val (.int sel), .val (.int a), .val (.int b), .val (.int c_), .val (.int x_), .val (.int (2 : Int32)), .val (.int pk), .val (.int item), .val (.ref b2), .val (.ref b145), .val (.int (-1 : Int32)), .val (.ref b154), .val (.int (2 : Int32))] [(.int (1 : Int32)), (.ref ba)])
        obtain ⟨cl173, Ar173, Aq173, AS173, AN173, AH173, AG173⟩ := p82_V
        have p82_V : Arv Z h163 ba ka .int (4 : Int32) [(.int a), (.int b), (.int (0 : Int32)), (.int (0 : Int32))] (.int (0 : Int32)) := ⟨cl173, Ar173, Aq173, AS173, AN173, AH173, AG173⟩
        have hin174 : ¬ ((1 : Int32) < 0 ∨ cl173.slots.size ≤ ((1 : Int32)).toNatClampNeg) := (inb_of AS173 ⟨by decide, by decide⟩)
        have hat174 : cl173.slots[((1 : Int32)).toNatClampNeg]? = some (.int b) := (AH173.at hin174 rfl)
        refine own_via ?_ fun _ kt => X172.iaload hx (j := (1 : Int32)) (v := (.int b)) (by rw [e172]; exact Ar173.1) (State.isArrayOf_alike hZ.alike Ar173.2.1) Ar173.2.2 hin174 hat174 (g := (mkF m 274 #[.val (.int sel), .val (.int a), .val (.int b), .val (.int c_), .val (.int x_), .val (.int (2 : Int32)), .val (.int pk), .val (.int item), .val (.ref b2), .val (.ref b145), .val (.int (-1 : Int32)), .val (.ref b154), .val (.int (2 : Int32))] [(.int (1 : Int32)), (.ref ba)])) rfl rfl (hb hby at_274) _ kt
        show Go _ _ _ _ _ _ _ _ (mkF m 275 #[.val (.int sel), .val (.int a), .val (.int b), .val (.int c_), .val (.int x_), .val (.int (2 : Int32)), .val (.int pk), .val (.int item), .val (.ref b2), .val (.ref b145), .val (.int (-1 : Int32)), .val (.ref b154), .val (.int (2 : Int32))] [(.int b)])
        refine own_via ?_ fun _ kt => XS.aload X172.here hx rfl (hb hby at_275) rfl rfl kt
        show Go _ _ _ _ _ _ _ _ (mkF m 277 #[.val (.int sel), .val (.int a), .val (.int b), .val (.int c_), .val (.int x_), .val (.int (2 : Int32)), .val (.int pk), .val (.int item), .val (.ref b2), .val (.ref b145), .val (.int (-1 : Int32)), .val (.ref b154), .val (.int (2 : Int32))] [(.ref b154), (.int b)])
        refine own_via ?_ fun _ kt => XS.iconst X172.here hx rfl (hb hby at_277) kt
        show Go _ _ _ _ _ _ _ _ (mkF m 278 #[.val (.int sel), .val (.int a), .val (.int b), .val (.int c_), .val (.int x_), .val (.int (2 : Int32)), .val (.int pk), .val (.int item), .val (.ref b2), .val (.ref b145), .val (.int (-1 : Int32)), .val (.ref b154), .val (.int (2 : Int32))] [(.int (1 : Int32)), (.ref b154), (.int b)])
        obtain ⟨cl175, Ar175, Aq175, AS175, AN175, AH175, AG175⟩ := V163
        have V163 : Arv Z h163 b154 k154 .int (3 : Int32) [(.int a), (.int b), (.int c_)] (.int (0 : Int32)) := ⟨cl175, Ar175, Aq175, AS175, AN175, AH175, AG175⟩
        have hin176 : ¬ ((1 : Int32) < 0 ∨ cl175.slots.size ≤ ((1 : Int32)).toNatClampNeg) := (inb_of AS175 ⟨by decide, by decide⟩)
        have hat176 : cl175.slots[((1 : Int32)).toNatClampNeg]? = some (.int b) := (AH175.at hin176 rfl)
        refine own_via ?_ fun _ kt => X172.iaload hx (j := (1 : Int32)) (v := (.int b)) (by rw [e172]; exact Ar175.1) (State.isArrayOf_alike hZ.alike Ar175.2.1) Ar175.2.2 hin176 hat176 (g := (mkF m 278 #[.val (.int sel), .val (.int a), .val (.int b), .val (.int c_), .val (.int x_), .val (.int (2 : Int32)), .val (.int pk), .val (.int item), .val (.ref b2), .val (.ref b145), .val (.int (-1 : Int32)), .val (.ref b154), .val (.int (2 : Int32))] [(.int (1 : Int32)), (.ref b154), (.int b)])) rfl rfl (hb hby at_278) _ kt
        show Go _ _ _ _ _ _ _ _ (mkF m 279 #[.val (.int sel), .val (.int a), .val (.int b), .val (.int c_), .val (.int x_), .val (.int (2 : Int32)), .val (.int pk), .val (.int item), .val (.ref b2), .val (.ref b145), .val (.int (-1 : Int32)), .val (.ref b154), .val (.int (2 : Int32))] [(.int b), (.int b)])
        refine own_via ?_ fun _ kt => XS.icmpYes X172.here hx rfl (pc0 := 279) (pc' := 284) rfl (hb hby at_279) rfl (teq rfl).1 (by decide) (by decide) kt
        show Go _ _ _ _ _ _ _ _ (mkF m 284 #[.val (.int sel), .val (.int a), .val (.int b), .val (.int c_), .val (.int x_), .val (.int (2 : Int32)), .val (.int pk), .val (.int item), .val (.ref b2), .val (.ref b145), .val (.int (-1 : Int32)), .val (.ref b154), .val (.int (2 : Int32))] [])
        refine own_via ?_ fun _ kt => XS.iload X172.here hx rfl (hb hby at_284) rfl kt
        show Go _ _ _ _ _ _ _ _ (mkF m 286 #[.val (.int sel), .val (.int a), .val (.int b), .val (.int c_), .val (.int x_), .val (.int (2 : Int32)), .val (.int pk), .val (.int item), .val (.ref b2), .val (.ref b145), .val (.int (-1 : Int32)), .val (.ref b154), .val (.int (2 : Int32))] [(.int (2 : Int32))])
        refine own_via ?_ fun _ kt => XS.iconst X172.here hx rfl (hb hby at_286) kt
        show Go _ _ _ _ _ _ _ _ (mkF m 287 #[.val (.int sel), .val (.int a), .val (.int b), .val (.int c_), .val (.int x_), .val (.int (2 : Int32)), .val (.int pk), .val (.int item), .val (.ref b2), .val (.ref b145), .val (.int (-1 : Int32)), .val (.ref b154), .val (.int (2 : Int32))] [(.int (2 : Int32)), (.int (2 : Int32))])
        refine own_via ?_ fun _ kt => XS.icmpYes X172.here hx rfl (pc0 := 287) (pc' := 306) rfl (hb hby at_287) rfl (flt (by decide : ¬ ((2 : Int32) < (2 : Int32)))).2.2.2 (by decide) (by decide) kt
        show Go _ _ _ _ _ _ _ _ (mkF m 306 #[.val (.int sel), .val (.int a), .val (.int b), .val (.int c_), .val (.int x_), .val (.int (2 : Int32)), .val (.int pk), .val (.int item), .val (.ref b2), .val (.ref b145), .val (.int (-1 : Int32)), .val (.ref b154), .val (.int (2 : Int32))] [])
        refine own_via ?_ fun _ kt => XS.iconst X172.here hx rfl (hb hby at_306) kt
        show Go _ _ _ _ _ _ _ _ (mkF m 307 #[.val (.int sel), .val (.int a), .val (.int b), .val (.int c_), .val (.int x_), .val (.int (2 : Int32)), .val (.int pk), .val (.int item), .val (.ref b2), .val (.ref b145), .val (.int (-1 : Int32)), .val (.ref b154), .val (.int (2 : Int32))] [(.int (1 : Int32))])
        exact own_retZ (z' := (1 : Int32)) X172 hx hret hlk (hb hby at_307) rfl (by decide) (by decide) (by rw [e172]; exact ⟨rfl, N163⟩)
    · skip
      show Go _ _ _ _ _ _ _ _ (mkF m 60 #[.val (.int sel), .val (.int a), .val (.int b), .val (.int c_), .val (.int x_), .val (.int (3 : Int32)), .val (.int pk), .val (.int item), .val (.ref b2), .unset, .unset, .unset, .unset] [])
      refine own_via ?_ fun _ kt => XS.iload X3.here hx rfl (hb hby at_60) rfl kt
      show Go _ _ _ _ _ _ _ _ (mkF m 62 #[.val (.int sel), .val (.int a), .val (.int b), .val (.int c_), .val (.int x_), .val (.int (3 : Int32)), .val (.int pk), .val (.int item), .val (.ref b2), .unset, .unset, .unset, .unset] [(.int (3 : Int32))])
      refine own_via ?_ fun _ kt => XS.ifNo X3.here hx rfl (hb hby at_62) rfl ((if0 _ _).trans (tlt (by decide : ((0 : Int32) < (3 : Int32)))).2.2.2) kt
      show Go _ _ _ _ _ _ _ _ (mkF m 65 #[.val (.int sel), .val (.int a), .val (.int b), .val (.int c_), .val (.int x_), .val (.int (3 : Int32)), .val (.int pk), .val (.int item), .val (.ref b2), .unset, .unset, .unset, .unset] [])
      refine own_via ?_ fun _ kt => XS.aload X3.here hx rfl (hb hby at_65) rfl rfl kt
      show Go _ _ _ _ _ _ _ _ (mkF m 67 #[.val (.int sel), .val (.int a), .val (.int b), .val (.int c_), .val (.int x_), .val (.int (3 : Int32)), .val (.int pk), .val (.int item), .val (.ref b2), .unset, .unset, .unset, .unset] [(.ref b2)])
      refine own_via ?_ fun _ kt => XS.iloadN X3.here hx rfl (hb hby at_67) rfl kt
      show Go _ _ _ _ _ _ _ _ (mkF m 68 #[.val (.int sel), .val (.int a), .val (.int b), .val (.int c_), .val (.int x_), .val (.int (3 : Int32)), .val (.int pk), .val (.int item), .val (.ref b2), .unset, .unset, .unset, .unset] [(.int a), (.ref b2)])
      have Zp := Z0
      obtain ⟨cq177, kq177, q177a, q177b, q177c⟩ := isOf hZ e3 p3_E
      obtain ⟨_, _, ⟨T177, L177, k177, n177⟩, -, X177, ⟨Lc177, hQ177, l177, y177, z177⟩, st177⟩ := X3.virtualBack hx (y := (⟨"com/example/aspen/aspen/IntList", "add", "(I)V"⟩ : MethodName)) (z := (⟨"com/example/aspen/aspen/IntList", "add", "(I)V"⟩ : MethodName)) hown (mvT hZ (hw _ (List.mem_of_getElem? (i := 23) rfl))) (mvT hZ (hw _ (List.mem_of_getElem? (i := 24) rfl))) (notFace_of_selects (args := #[]) (mvT hZ (hw _ (List.mem_of_getElem? (i := 26) rfl)))) (mvT hZ (hw _ (List.mem_of_getElem? (i := 26) rfl))) (mvT hZ (hw _ (List.mem_of_getElem? (i := 25) rfl))) (by decide) (backOf (W := 0) (rm_add0 l Z a0 hw [] b2 aN kN a h3 n0 Z0 O VN g_b2 p3_E p3_Fs p3_Fi) hZ (hw _ (List.mem_of_getElem? (i := 27) rfl)) (hw _ (List.mem_of_getElem? (i := 2) rfl)) (by decide) (by decide)) q177a q177c (g := (mkF m 68 #[.val (.int sel), .val (.int a), .val (.int b), .val (.int c_), .val (.int x_), .val (.int (3 : Int32)), .val (.int pk), .val (.int item), .val (.ref b2), .unset, .unset, .unset, .unset] [(.int a), (.ref b2)])) rfl (by rw [hml]; rfl) (Steps.refl _) (argsL := [(.int a)]) (rest := []) (lenOf pd3 rfl) rfl (by show 2 * 0 + _ ≤ _; exact Nat.le_of_eq rfl) (hb hby at_68) (fun _ _ => ⟨rfl, e3, (by decide : 1 + 1 ≤ _), (by decide : 2 + 4 ≤ _)⟩)
      dsimp only [Pt.U, Pt.locs, Pt.cells, Pt.slots] at X177 l177 y177 z177 st177 hQ177
      subst l177 y177 z177
      have lt_177 := p3_E.lt
      obtain ⟨h177, e177⟩ : ∃ z, T177.heap = z := ⟨_, rfl⟩
      rw [e177] at hQ177
      obtain ⟨rfl, Nq177, Kq177, ba, ka, szb, p177_E, p177_Fs, p177_Fi, p177_V⟩ := hQ177
      have N177 := Fr.app N3 Nq177
      replace Z0 := Nat.le_trans Z0 Kq177.1
      replace O := O.keep Kq177 (allS g_b2 all0)
      have g_ba : n0 ≤ ba := Nat.le_trans Zp szb
      have neab : b2 ≠ ba := Nat.ne_of_lt (Nat.lt_of_lt_of_le lt_177 szb)
      refine own_join ?_ st177
      show Go _ _ _ _ _ _ _ _ (mkF m 71 #[.val (.int sel), .val (.int a), .val (.int b), .val (.int c_), .val (.int x_), .val (.int (3 : Int32)), .val (.int pk), .val (.int item), .val (.ref b2), .unset, .unset, .unset, .unset] [])
      refine own_via ?_ fun _ kt => XS.iload X177.here hx rfl (hb hby at_71) rfl kt
      show Go _ _ _ _ _ _ _ _ (mkF m 73 #[.val (.int sel), .val (.int a), .val (.int b), .val (.int c_), .val (.int x_), .val (.int (3 : Int32)), .val (.int pk), .val (.int item), .val (.ref b2), .unset, .unset, .unset, .unset] [(.int (3 : Int32))])
      refine own_via ?_ fun _ kt => XS.iconst X177.here hx rfl (hb hby at_73) kt
      show Go _ _ _ _ _ _ _ _ (mkF m 74 #[.val (.int sel), .val (.int a), .val (.int b), .val (.int c_), .val (.int x_), .val (.int (3 : Int32)), .val (.int pk), .val (.int item), .val (.ref b2), .unset, .unset, .unset, .unset] [(.int (1 : Int32)), (.int (3 : Int32))])
      refine own_via ?_ fun _ kt => XS.icmpNo X177.here hx rfl (hb hby at_74) rfl (tlt (by decide : ((1 : Int32) < (3 : Int32)))).2.2.2 kt
      show Go _ _ _ _ _ _ _ _ (mkF m 77 #[.val (.int sel), .val (.int a), .val (.int b), .val (.int c_), .val (.int x_), .val (.int (3 : Int32)), .val (.int pk), .val (.int item), .val (.ref b2), .unset, .unset, .unset, .unset] [])
      refine own_via ?_ fun _ kt => XS.aload X177.here hx rfl (hb hby at_77) rfl rfl kt
      show Go _ _ _ _ _ _ _ _ (mkF m 79 #[.val (.int sel), .val (.int a), .val (.int b), .val (.int c_), .val (.int x_), .val (.int (3 : Int32)), .val (.int pk), .val (.int item), .val (.ref b2), .unset, .unset, .unset, .unset] [(.ref b2)])
      refine own_via ?_ fun _ kt => XS.iloadN X177.here hx rfl (hb hby at_79) rfl kt
      show Go _ _ _ _ _ _ _ _ (mkF m 80 #[.val (.int sel), .val (.int a), .val (.int b), .val (.int c_), .val (.int x_), .val (.int (3 : Int32)), .val (.int pk), .val (.int item), .val (.ref b2), .unset, .unset, .unset, .unset] [(.int b), (.ref b2)])
      obtain ⟨cq178, kq178, q178a, q178b, q178c⟩ := isOf hZ e177 p177_E
      obtain ⟨_, _, ⟨T178, L178, k178, n178⟩, -, X178, ⟨Lc178, hQ178, l178, y178, z178⟩, st178⟩ := X177.virtualBack hx (y := (⟨"com/example/aspen/aspen/IntList", "add", "(I)V"⟩ : MethodName)) (z := (⟨"com/example/aspen/aspen/IntList", "add", "(I)V"⟩ : MethodName)) hown (mvT hZ (hw _ (List.mem_of_getElem? (i := 23) rfl))) (mvT hZ (hw _ (List.mem_of_getElem? (i := 24) rfl))) (notFace_of_selects (args := #[]) (mvT hZ (hw _ (List.mem_of_getElem? (i := 26) rfl)))) (mvT hZ (hw _ (List.mem_of_getElem? (i := 26) rfl))) (mvT hZ (hw _ (List.mem_of_getElem? (i := 25) rfl))) (by decide) (backOf (W := 0) (rm_add1 l Z a0 hw [] b2 ba ka b a h177 n0 Z0 g_b2 g_ba neab p177_E p177_Fs p177_Fi p177_V) hZ (hw _ (List.mem_of_getElem? (i := 27) rfl)) (hw _ (List.mem_of_getElem? (i := 2) rfl)) (by decide) (by decide)) q178a q178c (g := (mkF m 80 #[.val (.int sel), .val (.int a), .val (.int b), .val (.int c_), .val (.int x_), .val (.int (3 : Int32)), .val (.int pk), .val (.int item), .val (.ref b2), .unset, .unset, .unset, .unset] [(.int b), (.ref b2)])) rfl (by rw [hml]; rfl) (Steps.refl _) (argsL := [(.int b)]) (rest := []) (lenOf pd3 rfl) rfl (by show 2 * 0 + _ ≤ _; exact Nat.le_of_eq rfl) (hb hby at_80) (fun _ _ => ⟨rfl, e177, (by decide : 2 + 0 ≤ _), (by decide : 6 + 0 ≤ _)⟩)
      dsimp only [Pt.U, Pt.locs, Pt.cells, Pt.slots] at X178 l178 y178 z178 st178 hQ178
      subst l178 y178 z178
      obtain ⟨h178, e178⟩ : ∃ z, T178.heap = z := ⟨_, rfl⟩
      rw [e178] at hQ178
      obtain ⟨rfl, Nq178, Kq178, p178_E, p178_Fs, p178_Fi, p178_V⟩ := hQ178
      have N178 := Fr.app N177 Nq178
      replace Z0 := Nat.le_trans Z0 Kq178.1
      replace O := O.keep Kq178 (allS g_b2 (allS g_ba all0))
      refine own_join ?_ st178
      show Go _ _ _ _ _ _ _ _ (mkF m 83 #[.val (.int sel), .val (.int a), .val (.int b), .val (.int c_), .val (.int x_), .val (.int (3 : Int32)), .val (.int pk), .val (.int item), .val (.ref b2), .unset, .unset, .unset, .unset] [])
      refine own_via ?_ fun _ kt => XS.iload X178.here hx rfl (hb hby at_83) rfl kt
      show Go _ _ _ _ _ _ _ _ (mkF m 85 #[.val (.int sel), .val (.int a), .val (.int b), .val (.int c_), .val (.int x_), .val (.int (3 : Int32)), .val (.int pk), .val (.int item), .val (.ref b2), .unset, .unset, .unset, .unset] [(.int (3 : Int32))])
      refine own_via ?_ fun _ kt => XS.iconst X178.here hx rfl (hb hby at_85) kt
      show Go _ _ _ _ _ _ _ _ (mkF m 86 #[.val (.int sel), .val (.int a), .val (.int b), .val (.int c_), .val (.int x_), .val (.int (3 : Int32)), .val (.int pk), .val (.int item), .val (.ref b2), .unset, .unset, .unset, .unset] [(.int (2 : Int32)), (.int (3 : Int32))])
      refine own_via ?_ fun _ kt => XS.icmpNo X178.here hx rfl (hb hby at_86) rfl (tlt (by decide : ((2 : Int32) < (3 : Int32)))).2.2.2 kt
      show Go _ _ _ _ _ _ _ _ (mkF m 89 #[.val (.int sel), .val (.int a), .val (.int b), .val (.int c_), .val (.int x_), .val (.int (3 : Int32)), .val (.int pk), .val (.int item), .val (.ref b2), .unset, .unset, .unset, .unset] [])
      refine own_via ?_ fun _ kt => XS.aload X178.here hx rfl (hb hby at_89) rfl rfl kt
      show Go _ _ _ _ _ _ _ _ (mkF m 91 #[.val (.int sel), .val (.int a), .val (.int b), .val (.int c_), .val (.int x_), .val (.int (3 : Int32)), .val (.int pk), .val (.int item), .val (.ref b2), .unset, .unset, .unset, .unset] [(.ref b2)])
      refine own_via ?_ fun _ kt => XS.iloadN X178.here hx rfl (hb hby at_91) rfl kt
      show Go _ _ _ _ _ _ _ _ (mkF m 92 #[.val (.int sel), .val (.int a), .val (.int b), .val (.int c_), .val (.int x_), .val (.int (3 : Int32)), .val (.int pk), .val (.int item), .val (.ref b2), .unset, .unset, .unset, .unset] [(.int c_), (.ref b2)])
      obtain ⟨cq179, kq179, q179a, q179b, q179c⟩ := isOf hZ e178 p178_E
      obtain ⟨_, _, ⟨T179, L179, k179, n179⟩, -, X179, ⟨Lc179, hQ179, l179, y179, z179⟩, st179⟩ := X178.virtualBack hx (y := (⟨"com/example/aspen/aspen/IntList", "add", "(I)V"⟩ : MethodName)) (z := (⟨"com/example/aspen/aspen/IntList", "add", "(I)V"⟩ : MethodName)) hown (mvT hZ (hw _ (List.mem_of_getElem? (i := 23) rfl))) (mvT hZ (hw _ (List.mem_of_getElem? (i := 24) rfl))) (notFace_of_selects (args := #[]) (mvT hZ (hw _ (List.mem_of_getElem? (i := 26) rfl)))) (mvT hZ (hw _ (List.mem_of_getElem? (i := 26) rfl))) (mvT hZ (hw _ (List.mem_of_getElem? (i := 25) rfl))) (by decide) (backOf (W := 0) (rm_add2 l Z a0 hw [] b2 ba ka c_ a b h178 n0 Z0 g_b2 g_ba neab p178_E p178_Fs p178_Fi p178_V) hZ (hw _ (List.mem_of_getElem? (i := 27) rfl)) (hw _ (List.mem_of_getElem? (i := 2) rfl)) (by decide) (by decide)) q179a q179c (g := (mkF m 92 #[.val (.int sel), .val (.int a), .val (.int b), .val (.int c_), .val (.int x_), .val (.int (3 : Int32)), .val (.int pk), .val (.int item), .val (.ref b2), .unset, .unset, .unset, .unset] [(.int c_), (.ref b2)])) rfl (by rw [hml]; rfl) (Steps.refl _) (argsL := [(.int c_)]) (rest := []) (lenOf pd3 rfl) rfl (by show 2 * 0 + _ ≤ _; exact Nat.le_of_eq rfl) (hb hby at_92) (fun _ _ => ⟨rfl, e178, (by decide : 2 + 0 ≤ _), (by decide : 6 + 0 ≤ _)⟩)
      dsimp only [Pt.U, Pt.locs, Pt.cells, Pt.slots] at X179 l179 y179 z179 st179 hQ179
      subst l179 y179 z179
      obtain ⟨h179, e179⟩ : ∃ z, T179.heap = z := ⟨_, rfl⟩
      rw [e179] at hQ179
      obtain ⟨rfl, Nq179, Kq179, p179_E, p179_Fs, p179_Fi, p179_V⟩ := hQ179
      have N179 := Fr.app N178 Nq179
      replace Z0 := Nat.le_trans Z0 Kq179.1
      replace O := O.keep Kq179 (allS g_b2 (allS g_ba all0))
      refine own_join ?_ st179
      show Go _ _ _ _ _ _ _ _ (mkF m 95 #[.val (.int sel), .val (.int a), .val (.int b), .val (.int c_), .val (.int x_), .val (.int (3 : Int32)), .val (.int pk), .val (.int item), .val (.ref b2), .unset, .unset, .unset, .unset] [])
      refine own_via ?_ fun _ kt => XS.aload X179.here hx rfl (hb hby at_95) rfl rfl kt
      show Go _ _ _ _ _ _ _ _ (mkF m 97 #[.val (.int sel), .val (.int a), .val (.int b), .val (.int c_), .val (.int x_), .val (.int (3 : Int32)), .val (.int pk), .val (.int item), .val (.ref b2), .unset, .unset, .unset, .unset] [(.ref b2)])
      refine own_via ?_ fun _ kt => XS.iload X179.here hx rfl (hb hby at_97) rfl kt
      show Go _ _ _ _ _ _ _ _ (mkF m 99 #[.val (.int sel), .val (.int a), .val (.int b), .val (.int c_), .val (.int x_), .val (.int (3 : Int32)), .val (.int pk), .val (.int item), .val (.ref b2), .unset, .unset, .unset, .unset] [(.int item), (.ref b2)])
      obtain ⟨cq180, kq180, q180a, q180b, q180c⟩ := isOf hZ e179 p179_E
      obtain ⟨_, _, ⟨T180, L180, k180, n180⟩, -, X180, ⟨Lc180, hQ180, l180, y180, z180⟩, st180⟩ := X179.virtualBack hx (y := (⟨"com/example/aspen/aspen/IntList", "remove", "(I)V"⟩ : MethodName)) (z := (⟨"com/example/aspen/aspen/IntList", "remove", "(I)V"⟩ : MethodName)) hown (mvT hZ (hw _ (List.mem_of_getElem? (i := 13) rfl))) (mvT hZ (hw _ (List.mem_of_getElem? (i := 14) rfl))) (notFace_of_selects (args := #[]) (mvT hZ (hw _ (List.mem_of_getElem? (i := 16) rfl)))) (mvT hZ (hw _ (List.mem_of_getElem? (i := 16) rfl))) (mvT hZ (hw _ (List.mem_of_getElem? (i := 15) rfl))) (by decide) (backOf (W := 0) (rm_rem3 l Z a0 hw [] b2 ba ka item a b c_ h179 n0 Z0 g_b2 g_ba neab p179_E p179_Fs p179_Fi p179_V) hZ (hw _ (List.mem_of_getElem? (i := 17) rfl)) (hw _ (List.mem_of_getElem? (i := 2) rfl)) (by decide) (by decide)) q180a q180c (g := (mkF m 99 #[.val (.int sel), .val (.int a), .val (.int b), .val (.int c_), .val (.int x_), .val (.int (3 : Int32)), .val (.int pk), .val (.int item), .val (.ref b2), .unset, .unset, .unset, .unset] [(.int item), (.ref b2)])) rfl (by rw [hml]; rfl) (Steps.refl _) (argsL := [(.int item)]) (rest := []) (lenOf pd3 rfl) rfl (by show 2 * 0 + _ ≤ _; exact Nat.le_of_eq rfl) (hb hby at_99) (fun _ _ => ⟨rfl, e179, (by decide : 2 + 0 ≤ _), (by decide : 6 + 0 ≤ _)⟩)
      dsimp only [Pt.U, Pt.locs, Pt.cells, Pt.slots] at X180 l180 y180 z180 st180 hQ180
      subst l180 y180 z180
      obtain ⟨h180, e180⟩ : ∃ z, T180.heap = z := ⟨_, rfl⟩
      rw [e180] at hQ180
      obtain ⟨rfl, Nq180, Kq180, hD180⟩ := hQ180
      have N180 := Fr.app N179 Nq180
      replace Z0 := Nat.le_trans Z0 Kq180.1
      replace O := O.keep Kq180 (allS g_b2 (allS g_ba all0))
      refine own_join ?_ st180
      rcases hD180 with ⟨hv180_0, p180_E, p180_Fs, p180_Fi, p180_V⟩ | ⟨hv180_0, hv180_1, p180_E, p180_Fs, p180_Fi, p180_V⟩ | ⟨hv180_0, hv180_1, hv180_2, p180_E, p180_Fs, p180_Fi, p180_V⟩ | ⟨hv180_0, hv180_1, hv180_2, p180_E, p180_Fs, p180_Fi, p180_V⟩
      · skip
        show Go _ _ _ _ _ _ _ _ (mkF m 102 #[.val (.int sel), .val (.int a), .val (.int b), .val (.int c_), .val (.int x_), .val (.int (3 : Int32)), .val (.int pk), .val (.int item), .val (.ref b2), .unset, .unset, .unset, .unset] [])
        refine own_via ?_ fun _ kt => XS.iconst X180.here hx rfl (hb hby at_102) kt
        show Go _ _ _ _ _ _ _ _ (mkF m 103 #[.val (.int sel), .val (.int a), .val (.int b), .val (.int c_), .val (.int x_), .val (.int (3 : Int32)), .val (.int pk), .val (.int item), .val (.ref b2), .unset, .unset, .unset, .unset] [(.int (3 : Int32))])
        obtain ⟨T181, h181, k181, X181, e181, E181, A181, st181⟩ := newP X180 hx hZ (hw _ (List.mem_of_getElem? (i := 20) rfl)) e180 (g := (mkF m 103 #[.val (.int sel), .val (.int a), .val (.int b), .val (.int c_), .val (.int x_), .val (.int (3 : Int32)), .val (.int pk), .val (.int item), .val (.ref b2), .unset, .unset, .unset, .unset] [(.int (3 : Int32))])) rfl (hb hby at_103) rfl (by decide) (cap := 3) (by decide) (by decide) (by decide) (by decide)
        obtain ⟨b181, g181⟩ : ∃ z, z = h180.size := ⟨_, rfl⟩
        rw [← g181] at A181 st181
        have ne182 : b2 ≠ b181 := by rw [g181]; exact Nat.ne_of_lt p180_E.lt
        have ne183 : ba ≠ b181 := by rw [g181]; exact Nat.ne_of_lt p180_V.lt
        have g_b181 : n0 ≤ b181 := by rw [g181]; exact Z0
        replace p180_E := p180_E.ext E181
        replace p180_Fs := p180_Fs.ext E181
        replace p180_Fi := p180_Fi.ext E181
        replace p180_V := p180_V.ext E181
        replace Z0 := Nat.le_trans Z0 E181.1
        replace O := O.ext E181
        have V181 : Arv Z h181 b181 k181 .int (3 : Int32) [(.int (0 : Int32)), (.int (0 : Int32)), (.int (0 : Int32))] (.int (0 : Int32)) := (Arv.new A181 (by decide)).pad (pad_rep [] (.int (0 : Int32)) 3)
        refine own_via ?_ st181
        show Go _ _ _ _ _ _ _ _ (mkF m 105 #[.val (.int sel), .val (.int a), .val (.int b), .val (.int c_), .val (.int x_), .val (.int (3 : Int32)), .val (.int pk), .val (.int item), .val (.ref b2), .unset, .unset, .unset, .unset] [(.ref b181)])
        refine own_via ?_ fun _ kt => XS.dup X181.here hx rfl (hb hby at_105) rfl rfl kt
        show Go _ _ _ _ _ _ _ _ (mkF m 106 #[.val (.int sel), .val (.int a), .val (.int b), .val (.int c_), .val (.int x_), .val (.int (3 : Int32)), .val (.int pk), .val (.int item), .val (.ref b2), .unset, .unset, .unset, .unset] [(.ref b181), (.ref b181)])
        refine own_via ?_ fun _ kt => XS.iconst X181.here hx rfl (hb hby at_106) kt
        show Go _ _ _ _ _ _ _ _ (mkF m 107 #[.val (.int sel), .val (.int a), .val (.int b), .val (.int c_), .val (.int x_), .val (.int (3 : Int32)), .val (.int pk), .val (.int item), .val (.ref b2), .unset, .unset, .unset, .unset] [(.int (0 : Int32)), (.ref b181), (.ref b181)])
        refine own_via ?_ fun _ kt => XS.iloadN X181.here hx rfl (hb hby at_107) rfl kt
        show Go _ _ _ _ _ _ _ _ (mkF m 108 #[.val (.int sel), .val (.int a), .val (.int b), .val (.int c_), .val (.int x_), .val (.int (3 : Int32)), .val (.int pk), .val (.int item), .val (.ref b2), .unset, .unset, .unset, .unset] [(.int a), (.int (0 : Int32)), (.ref b181), (.ref b181)])
        obtain ⟨cl184, Ar184, Aq184, AS184, AN184, AH184, AG184⟩ := V181
        have hin185 : ¬ ((0 : Int32) < 0 ∨ cl184.slots.size ≤ ((0 : Int32)).toNatClampNeg) := (inb_of AS184 ⟨by decide, by decide⟩)
        obtain ⟨T185, h185, X185, e185, W185, st185⟩ := stI X181 hx hZ e181 Ar184 (j := (0 : Int32)) hin185 (g := (mkF m 108 #[.val (.int sel), .val (.int a), .val (.int b), .val (.int c_), .val (.int x_), .val (.int (3 : Int32)), .val (.int pk), .val (.int item), .val (.ref b2), .unset, .unset, .unset, .unset] [(.int a), (.int (0 : Int32)), (.ref b181), (.ref b181)])) rfl rfl (hb hby at_108)
        have N185 := Fr.snoc X185 N180 g_b181
        have V185 : Arv Z h185 b181 k181 .int (3 : Int32) [(.int a), (.int (0 : Int32)), (.int (0 : Int32))] (.int (0 : Int32)) := Arv.set Ar184 Aq184 AS184 AN184 AH184 AG184 rfl W185 0 rfl (Nat.le_of_ble_eq_true rfl)
        replace p180_E := p180_E.wr W185
        replace p180_Fs := p180_Fs.other W185 (Or.inl ne182)
        replace p180_Fi := p180_Fi.other W185 (Or.inl ne182)
        replace p180_V := p180_V.other W185 ne183
        replace Z0 := Nat.le_trans Z0 (Keep.of_wr W185).1
        replace O := O.wr W185 g_b181
        refine own_via ?_ st185
        show Go _ _ _ _ _ _ _ _ (mkF m 109 #[.val (.int sel), .val (.int a), .val (.int b), .val (.int c_), .val (.int x_), .val (.int (3 : Int32)), .val (.int pk), .val (.int item), .val (.ref b2), .unset, .unset, .unset, .unset] [(.ref b181)])
        refine own_via ?_ fun _ kt => XS.dup X185.here hx rfl (hb hby at_109) rfl rfl kt
        show Go _ _ _ _ _ _ _ _ (mkF m 110 #[.val (.int sel), .val (.int a), .val (.int b), .val (.int c_), .val (.int x_), .val (.int (3 : Int32)), .val (.int pk), .val (.int item), .val (.ref b2), .unset, .unset, .unset, .unset] [(.ref b181), (.ref b181)])
        refine own_via ?_ fun _ kt => XS.iconst X185.here hx rfl (hb hby at_110) kt
        show Go _ _ _ _ _ _ _ _ (mkF m 111 #[.val (.int sel), .val (.int a), .val (.int b), .val (.int c_), .val (.int x_), .val (.int (3 : Int32)), .val (.int pk), .val (.int item), .val (.ref b2), .unset, .unset, .unset, .unset] [(.int (1 : Int32)), (.ref b181), (.ref b181)])
        refine own_via ?_ fun _ kt => XS.iloadN X185.here hx rfl (hb hby at_111) rfl kt
        show Go _ _ _ _ _ _ _ _ (mkF m 112 #[.val (.int sel), .val (.int a), .val (.int b), .val (.int c_), .val (.int x_), .val (.int (3 : Int32)), .val (.int pk), .val (.int item), .val (.ref b2), .unset, .unset, .unset, .unset] [(.int b), (.int (1 : Int32)), (.ref b181), (.ref b181)])
        obtain ⟨cl186, Ar186, Aq186, AS186, AN186, AH186, AG186⟩ := V185
        have hin187 : ¬ ((1 : Int32) < 0 ∨ cl186.slots.size ≤ ((1 : Int32)).toNatClampNeg) := (inb_of AS186 ⟨by decide, by decide⟩)
        obtain ⟨T187, h187, X187, e187, W187, st187⟩ := stI X185 hx hZ e185 Ar186 (j := (1 : Int32)) hin187 (g := (mkF m 112 #[.val (.int sel), .val (.int a), .val (.int b), .val (.int c_), .val (.int x_), .val (.int (3 : Int32)), .val (.int pk), .val (.int item), .val (.ref b2), .unset, .unset, .unset, .unset] [(.int b), (.int (1 : Int32)), (.ref b181), (.ref b181)])) rfl rfl (hb hby at_112)
        have N187 := Fr.snoc X187 N185 g_b181
        have V187 : Arv Z h187 b181 k181 .int (3 : Int32) [(.int a), (.int b), (.int (0 : Int32))] (.int (0 : Int32)) := Arv.set Ar186 Aq186 AS186 AN186 AH186 AG186 rfl W187 1 rfl (Nat.le_of_ble_eq_true rfl)
        replace p180_E := p180_E.wr W187
        replace p180_Fs := p180_Fs.other W187 (Or.inl ne182)
        replace p180_Fi := p180_Fi.other W187 (Or.inl ne182)
        replace p180_V := p180_V.other W187 ne183
        replace Z0 := Nat.le_trans Z0 (Keep.of_wr W187).1
        replace O := O.wr W187 g_b181
        refine own_via ?_ st187
        show Go _ _ _ _ _ _ _ _ (mkF m 113 #[.val (.int sel), .val (.int a), .val (.int b), .val (.int c_), .val (.int x_), .val (.int (3 : Int32)), .val (.int pk), .val (.int item), .val (.ref b2), .unset, .unset, .unset, .unset] [(.ref b181)])
        refine own_via ?_ fun _ kt => XS.dup X187.here hx rfl (hb hby at_113) rfl rfl kt
        show Go _ _ _ _ _ _ _ _ (mkF m 114 #[.val (.int sel), .val (.int a), .val (.int b), .val (.int c_), .val (.int x_), .val (.int (3 : Int32)), .val (.int pk), .val (.int item), .val (.ref b2), .unset, .unset, .unset, .unset] [(.ref b181), (.ref b181)])
        refine own_via ?_ fun _ kt => XS.iconst X187.here hx rfl (hb hby at_114) kt
        show Go _ _ _ _ _ _ _ _ (mkF m 115 #[.val (.int sel), .val (.int a), .val (.int b), .val (.int c_), .val (.int x_), .val (.int (3 : Int32)), .val (.int pk), .val (.int item), .val (.ref b2), .unset, .unset, .unset, .unset] [(.int (2 : Int32)), (.ref b181), (.ref b181)])
        refine own_via ?_ fun _ kt => XS.iloadN X187.here hx rfl (hb hby at_115) rfl kt
        show Go _ _ _ _ _ _ _ _ (mkF m 116 #[.val (.int sel), .val (.int a), .val (.int b), .val (.int c_), .val (.int x_), .val (.int (3 : Int32)), .val (.int pk), .val (.int item), .val (.ref b2), .unset, .unset, .unset, .unset] [(.int c_), (.int (2 : Int32)), (.ref b181), (.ref b181)])
        obtain ⟨cl188, Ar188, Aq188, AS188, AN188, AH188, AG188⟩ := V187
        have hin189 : ¬ ((2 : Int32) < 0 ∨ cl188.slots.size ≤ ((2 : Int32)).toNatClampNeg) := (inb_of AS188 ⟨by decide, by decide⟩)
        obtain ⟨T189, h189, X189, e189, W189, st189⟩ := stI X187 hx hZ e187 Ar188 (j := (2 : Int32)) hin189 (g := (mkF m 116 #[.val (.int sel), .val (.int a), .val (.int b), .val (.int c_), .val (.int x_), .val (.int (3 : Int32)), .val (.int pk), .val (.int item), .val (.ref b2), .unset, .unset, .unset, .unset] [(.int c_), (.int (2 : Int32)), (.ref b181), (.ref b181)])) rfl rfl (hb hby at_116)
        have N189 := Fr.snoc X189 N187 g_b181
        have V189 : Arv Z h189 b181 k181 .int (3 : Int32) [(.int a), (.int b), (.int c_)] (.int (0 : Int32)) := Arv.set Ar188 Aq188 AS188 AN188 AH188 AG188 rfl W189 2 rfl (Nat.le_of_ble_eq_true rfl)
        replace p180_E := p180_E.wr W189
        replace p180_Fs := p180_Fs.other W189 (Or.inl ne182)
        replace p180_Fi := p180_Fi.other W189 (Or.inl ne182)
        replace p180_V := p180_V.other W189 ne183
        replace Z0 := Nat.le_trans Z0 (Keep.of_wr W189).1
        replace O := O.wr W189 g_b181
        refine own_via ?_ st189
        show Go _ _ _ _ _ _ _ _ (mkF m 117 #[.val (.int sel), .val (.int a), .val (.int b), .val (.int c_), .val (.int x_), .val (.int (3 : Int32)), .val (.int pk), .val (.int item), .val (.ref b2), .unset, .unset, .unset, .unset] [(.ref b181)])
        refine own_via ?_ fun _ kt => XS.astore X189.here hx rfl (hb hby at_117) rfl rfl (l' := #[.val (.int sel), .val (.int a), .val (.int b), .val (.int c_), .val (.int x_), .val (.int (3 : Int32)), .val (.int pk), .val (.int item), .val (.ref b2), .val (.ref b181), .unset, .unset, .unset]) rfl kt
        show Go _ _ _ _ _ _ _ _ (mkF m 119 #[.val (.int sel), .val (.int a), .val (.int b), .val (.int c_), .val (.int x_), .val (.int (3 : Int32)), .val (.int pk), .val (.int item), .val (.ref b2), .val (.ref b181), .unset, .unset, .unset] [])
        refine own_via ?_ fun _ kt => XS.iconst X189.here hx rfl (hb hby at_119) kt
        show Go _ _ _ _ _ _ _ _ (mkF m 120 #[.val (.int sel), .val (.int a), .val (.int b), .val (.int c_), .val (.int x_), .val (.int (3 : Int32)), .val (.int pk), .val (.int item), .val (.ref b2), .val (.ref b181), .unset, .unset, .unset] [(.int (-1 : Int32))])
        refine own_via ?_ fun _ kt => XS.istore X189.here hx rfl (hb hby at_120) rfl (l' := #[.val (.int sel), .val (.int a), .val (.int b), .val (.int c_), .val (.int x_), .val (.int (3 : Int32)), .val (.int pk), .val (.int item), .val (.ref b2), .val (.ref b181), .val (.int (-1 : Int32)), .unset, .unset]) rfl kt
        show Go _ _ _ _ _ _ _ _ (mkF m 122 #[.val (.int sel), .val (.int a), .val (.int b), .val (.int c_), .val (.int x_), .val (.int (3 : Int32)), .val (.int pk), .val (.int item), .val (.ref b2), .val (.ref b181), .val (.int (-1 : Int32)), .unset, .unset] [])
        refine own_via ?_ fun _ kt => XS.iload X189.here hx rfl (hb hby at_122) rfl kt
        show Go _ _ _ _ _ _ _ _ (mkF m 124 #[.val (.int sel), .val (.int a), .val (.int b), .val (.int c_), .val (.int x_), .val (.int (3 : Int32)), .val (.int pk), .val (.int item), .val (.ref b2), .val (.ref b181), .val (.int (-1 : Int32)), .unset, .unset] [(.int (3 : Int32))])
        refine own_via ?_ fun _ kt => XS.ifNo X189.here hx rfl (hb hby at_124) rfl ((if0 _ _).trans (tlt (by decide : ((0 : Int32) < (3 : Int32)))).2.2.2) kt
        show Go _ _ _ _ _ _ _ _ (mkF m 127 #[.val (.int sel), .val (.int a), .val (.int b), .val (.int c_), .val (.int x_), .val (.int (3 : Int32)), .val (.int pk), .val (.int item), .val (.ref b2), .val (.ref b181), .val (.int (-1 : Int32)), .unset, .unset] [])
        refine own_via ?_ fun _ kt => XS.iloadN X189.here hx rfl (hb hby at_127) rfl kt
        show Go _ _ _ _ _ _ _ _ (mkF m 128 #[.val (.int sel), .val (.int a), .val (.int b), .val (.int c_), .val (.int x_), .val (.int (3 : Int32)), .val (.int pk), .val (.int item), .val (.ref b2), .val (.ref b181), .val (.int (-1 : Int32)), .unset, .unset] [(.int a)])
        refine own_via ?_ fun _ kt => XS.iload X189.here hx rfl (hb hby at_128) rfl kt
        show Go _ _ _ _ _ _ _ _ (mkF m 130 #[.val (.int sel), .val (.int a), .val (.int b), .val (.int c_), .val (.int x_), .val (.int (3 : Int32)), .val (.int pk), .val (.int item), .val (.ref b2), .val (.ref b181), .val (.int (-1 : Int32)), .unset, .unset] [(.int item), (.int a)])
        refine own_via ?_ fun _ kt => XS.icmpNo X189.here hx rfl (hb hby at_130) rfl (teq hv180_0).2 kt
        show Go _ _ _ _ _ _ _ _ (mkF m 133 #[.val (.int sel), .val (.int a), .val (.int b), .val (.int c_), .val (.int x_), .val (.int (3 : Int32)), .val (.int pk), .val (.int item), .val (.ref b2), .val (.ref b181), .val (.int (-1 : Int32)), .unset, .unset] [])
        refine own_via ?_ fun _ kt => XS.iconst X189.here hx rfl (hb hby at_133) kt
        show Go _ _ _ _ _ _ _ _ (mkF m 134 #[.val (.int sel), .val (.int a), .val (.int b), .val (.int c_), .val (.int x_), .val (.int (3 : Int32)), .val (.int pk), .val (.int item), .val (.ref b2), .val (.ref b181), .val (.int (-1 : Int32)), .unset, .unset] [(.int (0 : Int32))])
        refine own_via ?_ fun _ kt => XS.istore X189.here hx rfl (hb hby at_134) rfl (l' := #[.val (.int sel), .val (.int a), .val (.int b), .val (.int c_), .val (.int x_), .val (.int (3 : Int32)), .val (.int pk), .val (.int item), .val (.ref b2), .val (.ref b181), .val (.int (0 : Int32)), .unset, .unset]) rfl kt
        show Go _ _ _ _ _ _ _ _ (mkF m 136 #[.val (.int sel), .val (.int a), .val (.int b), .val (.int c_), .val (.int x_), .val (.int (3 : Int32)), .val (.int pk), .val (.int item), .val (.ref b2), .val (.ref b181), .val (.int (0 : Int32)), .unset, .unset] [])
        refine own_via ?_ fun _ kt => XS.goto X189.here hx rfl (pc0 := 136) (pc' := 172) rfl (hb hby at_136) (by decide) (by decide) kt
        show Go _ _ _ _ _ _ _ _ (mkF m 172 #[.val (.int sel), .val (.int a), .val (.int b), .val (.int c_), .val (.int x_), .val (.int (3 : Int32)), .val (.int pk), .val (.int item), .val (.ref b2), .val (.ref b181), .val (.int (0 : Int32)), .unset, .unset] [])
        refine own_via ?_ fun _ kt => XS.iconst X189.here hx rfl (hb hby at_172) kt
        show Go _ _ _ _ _ _ _ _ (mkF m 173 #[.val (.int sel), .val (.int a), .val (.int b), .val (.int c_), .val (.int x_), .val (.int (3 : Int32)), .val (.int pk), .val (.int item), .val (.ref b2), .val (.ref b181), .val (.int (0 : Int32)), .unset, .unset] [(.int (3 : Int32))])
        obtain ⟨T190, h190, k190, X190, e190, E190, A190, st190⟩ := newP X189 hx hZ (hw _ (List.mem_of_getElem? (i := 20) rfl)) e189 (g := (mkF m 173 #[.val (.int sel), .val (.int a), .val (.int b), .val (.int c_), .val (.int x_), .val (.int (3 : Int32)), .val (.int pk), .val (.int item), .val (.ref b2), .val (.ref b181), .val (.int (0 : Int32)), .unset, .unset] [(.int (3 : Int32))])) rfl (hb hby at_173) rfl (by decide) (cap := 3) (by decide) (by decide) (by decide) (by decide)
        obtain ⟨b190, g190⟩ : ∃ z, z = h189.size := ⟨_, rfl⟩
        rw [← g190] at A190 st190
        have ne191 : b2 ≠ b190 := by rw [g190]; exact Nat.ne_of_lt p180_E.lt
        have ne192 : ba ≠ b190 := by rw [g190]; exact Nat.ne_of_lt p180_V.lt
        have ne193 : b181 ≠ b190 := by rw [g190]; exact Nat.ne_of_lt V189.lt
        have g_b190 : n0 ≤ b190 := by rw [g190]; exact Z0
        replace p180_E := p180_E.ext E190
        replace p180_Fs := p180_Fs.ext E190
        replace p180_Fi := p180_Fi.ext E190
        replace p180_V := p180_V.ext E190
        replace V189 := V189.ext E190
        replace Z0 := Nat.le_trans Z0 E190.1
        replace O := O.ext E190
        have V190 : Arv Z h190 b190 k190 .int (3 : Int32) [(.int (0 : Int32)), (.int (0 : Int32)), (.int (0 : Int32))] (.int (0 : Int32)) := (Arv.new A190 (by decide)).pad (pad_rep [] (.int (0 : Int32)) 3)
        refine own_via ?_ st190
        show Go _ _ _ _ _ _ _ _ (mkF m 175 #[.val (.int sel), .val (.int a), .val (.int b), .val (.int c_), .val (.int x_), .val (.int (3 : Int32)), .val (.int pk), .val (.int item), .val (.ref b2), .val (.ref b181), .val (.int (0 : Int32)), .unset, .unset] [(.ref b190)])
        refine own_via ?_ fun _ kt => XS.dup X190.here hx rfl (hb hby at_175) rfl rfl kt
        show Go _ _ _ _ _ _ _ _ (mkF m 176 #[.val (.int sel), .val (.int a), .val (.int b), .val (.int c_), .val (.int x_), .val (.int (3 : Int32)), .val (.int pk), .val (.int item), .val (.ref b2), .val (.ref b181), .val (.int (0 : Int32)), .unset, .unset] [(.ref b190), (.ref b190)])
        refine own_via ?_ fun _ kt => XS.iconst X190.here hx rfl (hb hby at_176) kt
        show Go _ _ _ _ _ _ _ _ (mkF m 177 #[.val (.int sel), .val (.int a), .val (.int b), .val (.int c_), .val (.int x_), .val (.int (3 : Int32)), .val (.int pk), .val (.int item), .val (.ref b2), .val (.ref b181), .val (.int (0 : Int32)), .unset, .unset] [(.int (0 : Int32)), (.ref b190), (.ref b190)])
        refine own_via ?_ fun _ kt => XS.iloadN X190.here hx rfl (hb hby at_177) rfl kt
        show Go _ _ _ _ _ _ _ _ (mkF m 178 #[.val (.int sel), .val (.int a), .val (.int b), .val (.int c_), .val (.int x_), .val (.int (3 : Int32)), .val (.int pk), .val (.int item), .val (.ref b2), .val (.ref b181), .val (.int (0 : Int32)), .unset, .unset] [(.int a), (.int (0 : Int32)), (.ref b190), (.ref b190)])
        obtain ⟨cl194, Ar194, Aq194, AS194, AN194, AH194, AG194⟩ := V190
        have hin195 : ¬ ((0 : Int32) < 0 ∨ cl194.slots.size ≤ ((0 : Int32)).toNatClampNeg) := (inb_of AS194 ⟨by decide, by decide⟩)
        obtain ⟨T195, h195, X195, e195, W195, st195⟩ := stI X190 hx hZ e190 Ar194 (j := (0 : Int32)) hin195 (g := (mkF m 178 #[.val (.int sel), .val (.int a), .val (.int b), .val (.int c_), .val (.int x_), .val (.int (3 : Int32)), .val (.int pk), .val (.int item), .val (.ref b2), .val (.ref b181), .val (.int (0 : Int32)), .unset, .unset] [(.int a), (.int (0 : Int32)), (.ref b190), (.ref b190)])) rfl rfl (hb hby at_178)
        have N195 := Fr.snoc X195 N189 g_b190
        have V195 : Arv Z h195 b190 k190 .int (3 : Int32) [(.int a), (.int (0 : Int32)), (.int (0 : Int32))] (.int (0 : Int32)) := Arv.set Ar194 Aq194 AS194 AN194 AH194 AG194 rfl W195 0 rfl (Nat.le_of_ble_eq_true rfl)
        replace p180_E := p180_E.wr W195
        replace p180_Fs := p180_Fs.other W195 (Or.inl ne191)
        replace p180_Fi := p180_Fi.other W195 (Or.inl ne191)
        replace p180_V := p180_V.other W195 ne192
        replace V189 := V189.other W195 ne193
        replace Z0 := Nat.le_trans Z0 (Keep.of_wr W195).1
        replace O := O.wr W195 g_b190
        refine own_via ?_ st195
        show Go _ _ _ _ _ _ _ _ (mkF m 179 #[.val (.int sel), .val (.int a), .val (.int b), .val (.int c_), .val (.int x_), .val (.int (3 : Int32)), .val (.int pk), .val (.int item), .val (.ref b2), .val (.ref b181), .val (.int (0 : Int32)), .unset, .unset] [(.ref b190)])
        refine own_via ?_ fun _ kt => XS.dup X195.here hx rfl (hb hby at_179) rfl rfl kt
        show Go _ _ _ _ _ _ _ _ (mkF m 180 #[.val (.int sel), .val (.int a), .val (.int b), .val (.int c_), .val (.int x_), .val (.int (3 : Int32)), .val (.int pk), .val (.int item), .val (.ref b2), .val (.ref b181), .val (.int (0 : Int32)), .unset, .unset] [(.ref b190), (.ref b190)])
        refine own_via ?_ fun _ kt => XS.iconst X195.here hx rfl (hb hby at_180) kt
        show Go _ _ _ _ _ _ _ _ (mkF m 181 #[.val (.int sel), .val (.int a), .val (.int b), .val (.int c_), .val (.int x_), .val (.int (3 : Int32)), .val (.int pk), .val (.int item), .val (.ref b2), .val (.ref b181), .val (.int (0 : Int32)), .unset, .unset] [(.int (1 : Int32)), (.ref b190), (.ref b190)])
        refine own_via ?_ fun _ kt => XS.iloadN X195.here hx rfl (hb hby at_181) rfl kt
        show Go _ _ _ _ _ _ _ _ (mkF m 182 #[.val (.int sel), .val (.int a), .val (.int b), .val (.int c_), .val (.int x_), .val (.int (3 : Int32)), .val (.int pk), .val (.int item), .val (.ref b2), .val (.ref b181), .val (.int (0 : Int32)), .unset, .unset] [(.int b), (.int (1 : Int32)), (.ref b190), (.ref b190)])
        obtain ⟨cl196, Ar196, Aq196, AS196, AN196, AH196, AG196⟩ := V195
        have hin197 : ¬ ((1 : Int32) < 0 ∨ cl196.slots.size ≤ ((1 : Int32)).toNatClampNeg) := (inb_of AS196 ⟨by decide, by decide⟩)
        obtain ⟨T197, h197, X197, e197, W197, st197⟩ := stI X195 hx hZ e195 Ar196 (j := (1 : Int32)) hin197 (g := (mkF m 182 #[.val (.int sel), .val (.int a), .val (.int b), .val (.int c_), .val (.int x_), .val (.int (3 : Int32)), .val (.int pk), .val (.int item), .val (.ref b2), .val (.ref b181), .val (.int (0 : Int32)), .unset, .unset] [(.int b), (.int (1 : Int32)), (.ref b190), (.ref b190)])) rfl rfl (hb hby at_182)
        have N197 := Fr.snoc X197 N195 g_b190
        have V197 : Arv Z h197 b190 k190 .int (3 : Int32) [(.int a), (.int b), (.int (0 : Int32))] (.int (0 : Int32)) := Arv.set Ar196 Aq196 AS196 AN196 AH196 AG196 rfl W197 1 rfl (Nat.le_of_ble_eq_true rfl)
        replace p180_E := p180_E.wr W197
        replace p180_Fs := p180_Fs.other W197 (Or.inl ne191)
        replace p180_Fi := p180_Fi.other W197 (Or.inl ne191)
        replace p180_V := p180_V.other W197 ne192
        replace V189 := V189.other W197 ne193
        replace Z0 := Nat.le_trans Z0 (Keep.of_wr W197).1
        replace O := O.wr W197 g_b190
        refine own_via ?_ st197
        show Go _ _ _ _ _ _ _ _ (mkF m 183 #[.val (.int sel), .val (.int a), .val (.int b), .val (.int c_), .val (.int x_), .val (.int (3 : Int32)), .val (.int pk), .val (.int item), .val (.ref b2), .val (.ref b181), .val (.int (0 : Int32)), .unset, .unset] [(.ref b190)])
        refine own_via ?_ fun _ kt => XS.dup X197.here hx rfl (hb hby at_183) rfl rfl kt
        show Go _ _ _ _ _ _ _ _ (mkF m 184 #[.val (.int sel), .val (.int a), .val (.int b), .val (.int c_), .val (.int x_), .val (.int (3 : Int32)), .val (.int pk), .val (.int item), .val (.ref b2), .val (.ref b181), .val (.int (0 : Int32)), .unset, .unset] [(.ref b190), (.ref b190)])
        refine own_via ?_ fun _ kt => XS.iconst X197.here hx rfl (hb hby at_184) kt
        show Go _ _ _ _ _ _ _ _ (mkF m 185 #[.val (.int sel), .val (.int a), .val (.int b), .val (.int c_), .val (.int x_), .val (.int (3 : Int32)), .val (.int pk), .val (.int item), .val (.ref b2), .val (.ref b181), .val (.int (0 : Int32)), .unset, .unset] [(.int (2 : Int32)), (.ref b190), (.ref b190)])
        refine own_via ?_ fun _ kt => XS.iloadN X197.here hx rfl (hb hby at_185) rfl kt
        show Go _ _ _ _ _ _ _ _ (mkF m 186 #[.val (.int sel), .val (.int a), .val (.int b), .val (.int c_), .val (.int x_), .val (.int (3 : Int32)), .val (.int pk), .val (.int item), .val (.ref b2), .val (.ref b181), .val (.int (0 : Int32)), .unset, .unset] [(.int c_), (.int (2 : Int32)), (.ref b190), (.ref b190)])
        obtain ⟨cl198, Ar198, Aq198, AS198, AN198, AH198, AG198⟩ := V197
        have hin199 : ¬ ((2 : Int32) < 0 ∨ cl198.slots.size ≤ ((2 : Int32)).toNatClampNeg) := (inb_of AS198 ⟨by decide, by decide⟩)
        obtain ⟨T199, h199, X199, e199, W199, st199⟩ := stI X197 hx hZ e197 Ar198 (j := (2 : Int32)) hin199 (g := (mkF m 186 #[.val (.int sel), .val (.int a), .val (.int b), .val (.int c_), .val (.int x_), .val (.int (3 : Int32)), .val (.int pk), .val (.int item), .val (.ref b2), .val (.ref b181), .val (.int (0 : Int32)), .unset, .unset] [(.int c_), (.int (2 : Int32)), (.ref b190), (.ref b190)])) rfl rfl (hb hby at_186)
        have N199 := Fr.snoc X199 N197 g_b190
        have V199 : Arv Z h199 b190 k190 .int (3 : Int32) [(.int a), (.int b), (.int c_)] (.int (0 : Int32)) := Arv.set Ar198 Aq198 AS198 AN198 AH198 AG198 rfl W199 2 rfl (Nat.le_of_ble_eq_true rfl)
        replace p180_E := p180_E.wr W199
        replace p180_Fs := p180_Fs.other W199 (Or.inl ne191)
        replace p180_Fi := p180_Fi.other W199 (Or.inl ne191)
        replace p180_V := p180_V.other W199 ne192
        replace V189 := V189.other W199 ne193
        replace Z0 := Nat.le_trans Z0 (Keep.of_wr W199).1
        replace O := O.wr W199 g_b190
        refine own_via ?_ st199
        show Go _ _ _ _ _ _ _ _ (mkF m 187 #[.val (.int sel), .val (.int a), .val (.int b), .val (.int c_), .val (.int x_), .val (.int (3 : Int32)), .val (.int pk), .val (.int item), .val (.ref b2), .val (.ref b181), .val (.int (0 : Int32)), .unset, .unset] [(.ref b190)])
        refine own_via ?_ fun _ kt => XS.astore X199.here hx rfl (hb hby at_187) rfl rfl (l' := #[.val (.int sel), .val (.int a), .val (.int b), .val (.int c_), .val (.int x_), .val (.int (3 : Int32)), .val (.int pk), .val (.int item), .val (.ref b2), .val (.ref b181), .val (.int (0 : Int32)), .val (.ref b190), .unset]) rfl kt
        show Go _ _ _ _ _ _ _ _ (mkF m 189 #[.val (.int sel), .val (.int a), .val (.int b), .val (.int c_), .val (.int x_), .val (.int (3 : Int32)), .val (.int pk), .val (.int item), .val (.ref b2), .val (.ref b181), .val (.int (0 : Int32)), .val (.ref b190), .unset] [])
        refine own_via ?_ fun _ kt => XS.iload X199.here hx rfl (hb hby at_189) rfl kt
        show Go _ _ _ _ _ _ _ _ (mkF m 191 #[.val (.int sel), .val (.int a), .val (.int b), .val (.int c_), .val (.int x_), .val (.int (3 : Int32)), .val (.int pk), .val (.int item), .val (.ref b2), .val (.ref b181), .val (.int (0 : Int32)), .val (.ref b190), .unset] [(.int (3 : Int32))])
        refine own_via ?_ fun _ kt => XS.istore X199.here hx rfl (hb hby at_191) rfl (l' := #[.val (.int sel), .val (.int a), .val (.int b), .val (.int c_), .val (.int x_), .val (.int (3 : Int32)), .val (.int pk), .val (.int item), .val (.ref b2), .val (.ref b181), .val (.int (0 : Int32)), .val (.ref b190), .val (.int (3 : Int32))]) rfl kt
        show Go _ _ _ _ _ _ _ _ (mkF m 193 #[.val (.int sel), .val (.int a), .val (.int b), .val (.int c_), .val (.int x_), .val (.int (3 : Int32)), .val (.int pk), .val (.int item), .val (.ref b2), .val (.ref b181), .val (.int (0 : Int32)), .val (.ref b190), .val (.int (3 : Int32))] [])
        refine own_via ?_ fun _ kt => XS.iload X199.here hx rfl (hb hby at_193) rfl kt
        show Go _ _ _ _ _ _ _ _ (mkF m 195 #[.val (.int sel), .val (.int a), .val (.int b), .val (.int c_), .val (.int x_), .val (.int (3 : Int32)), .val (.int pk), .val (.int item), .val (.ref b2), .val (.ref b181), .val (.int (0 : Int32)), .val (.ref b190), .val (.int (3 : Int32))] [(.int (0 : Int32))])
        refine own_via ?_ fun _ kt => XS.ifNo X199.here hx rfl (hb hby at_195) rfl ((if0 _ _).trans (flt (by decide : ¬ ((0 : Int32) < (0 : Int32)))).1) kt
        show Go _ _ _ _ _ _ _ _ (mkF m 198 #[.val (.int sel), .val (.int a), .val (.int b), .val (.int c_), .val (.int x_), .val (.int (3 : Int32)), .val (.int pk), .val (.int item), .val (.ref b2), .val (.ref b181), .val (.int (0 : Int32)), .val (.ref b190), .val (.int (3 : Int32))] [])
        refine own_via ?_ fun _ kt => XS.iload X199.here hx rfl (hb hby at_198) rfl kt
        show Go _ _ _ _ _ _ _ _ (mkF m 200 #[.val (.int sel), .val (.int a), .val (.int b), .val (.int c_), .val (.int x_), .val (.int (3 : Int32)), .val (.int pk), .val (.int item), .val (.ref b2), .val (.ref b181), .val (.int (0 : Int32)), .val (.ref b190), .val (.int (3 : Int32))] [(.int (3 : Int32))])
        refine own_via ?_ fun _ kt => XS.iconst X199.here hx rfl (hb hby at_200) kt
        show Go _ _ _ _ _ _ _ _ (mkF m 201 #[.val (.int sel), .val (.int a), .val (.int b), .val (.int c_), .val (.int x_), .val (.int (3 : Int32)), .val (.int pk), .val (.int item), .val (.ref b2), .val (.ref b181), .val (.int (0 : Int32)), .val (.ref b190), .val (.int (3 : Int32))] [(.int (1 : Int32)), (.int (3 : Int32))])
        refine own_via ?_ fun _ kt => XS.isub X199.here hx rfl (hb hby at_201) rfl kt
        show Go _ _ _ _ _ _ _ _ (mkF m 202 #[.val (.int sel), .val (.int a), .val (.int b), .val (.int c_), .val (.int x_), .val (.int (3 : Int32)), .val (.int pk), .val (.int item), .val (.ref b2), .val (.ref b181), .val (.int (0 : Int32)), .val (.ref b190), .val (.int (3 : Int32))] [(.int ((3 : Int32) - (1 : Int32)))])
        rw [show ((3 : Int32) - (1 : Int32)) = (2 : Int32) from by decide]
        show Go _ _ _ _ _ _ _ _ (mkF m 202 #[.val (.int sel), .val (.int a), .val (.int b), .val (.int c_), .val (.int x_), .val (.int (3 : Int32)), .val (.int pk), .val (.int item), .val (.ref b2), .val (.ref b181), .val (.int (0 : Int32)), .val (.ref b190), .val (.int (3 : Int32))] [(.int (2 : Int32))])
        refine own_via ?_ fun _ kt => XS.istore X199.here hx rfl (hb hby at_202) rfl (l' := #[.val (.int sel), .val (.int a), .val (.int b), .val (.int c_), .val (.int x_), .val (.int (3 : Int32)), .val (.int pk), .val (.int item), .val (.ref b2), .val (.ref b181), .val (.int (0 : Int32)), .val (.ref b190), .val (.int (2 : Int32))]) rfl kt
        show Go _ _ _ _ _ _ _ _ (mkF m 204 #[.val (.int sel), .val (.int a), .val (.int b), .val (.int c_), .val (.int x_), .val (.int (3 : Int32)), .val (.int pk), .val (.int item), .val (.ref b2), .val (.ref b181), .val (.int (0 : Int32)), .val (.ref b190), .val (.int (2 : Int32))] [])
        refine own_via ?_ fun _ kt => XS.aload X199.here hx rfl (hb hby at_204) rfl rfl kt
        show Go _ _ _ _ _ _ _ _ (mkF m 206 #[.val (.int sel), .val (.int a), .val (.int b), .val (.int c_), .val (.int x_), .val (.int (3 : Int32)), .val (.int pk), .val (.int item), .val (.ref b2), .val (.ref b181), .val (.int (0 : Int32)), .val (.ref b190), .val (.int (2 : Int32))] [(.ref b190)])
        refine own_via ?_ fun _ kt => XS.iload X199.here hx rfl (hb hby at_206) rfl kt
        show Go _ _ _ _ _ _ _ _ (mkF m 208 #[.val (.int sel), .val (.int a), .val (.int b), .val (.int c_), .val (.int x_), .val (.int (3 : Int32)), .val (.int pk), .val (.int item), .val (.ref b2), .val (.ref b181), .val (.int (0 : Int32)), .val (.ref b190), .val (.int (2 : Int32))] [(.int (0 : Int32)), (.ref b190)])
        refine own_via ?_ fun _ kt => XS.aload X199.here hx rfl (hb hby at_208) rfl rfl kt
        show Go _ _ _ _ _ _ _ _ (mkF m 210 #[.val (.int sel), .val (.int a), .val (.int b), .val (.int c_), .val (.int x_), .val (.int (3 : Int32)), .val (.int pk), .val (.int item), .val (.ref b2), .val (.ref b181), .val (.int (0 : Int32)), .val (.ref b190), .val (.int (2 : Int32))] [(.ref b181), (.int (0 : Int32)), (.ref b190)])
        refine own_via ?_ fun _ kt => XS.iload X199.here hx rfl (hb hby at_210) rfl kt
        show Go _ _ _ _ _ _ _ _ (mkF m 212 #[.val (.int sel), .val (.int a), .val (.int b), .val (.int c_), .val (.int x_), .val (.int (3 : Int32)), .val (.int pk), .val (.int item), .val (.ref b2), .val (.ref b181), .val (.int (0 : Int32)), .val (.ref b190), .val (.int (2 : Int32))] [(.int (3 : Int32)), (.ref b181), (.int (0 : Int32)), (.ref b190)])
        refine own_via ?_ fun _ kt => XS.iconst X199.here hx rfl (hb hby at_212) kt
        show Go _ _ _ _ _ _ _ _ (mkF m 213 #[.val (.int sel), .val (.int a), .val (.int b), .val (.int c_), .val (.int x_), .val (.int (3 : Int32)), .val (.int pk), .val (.int item), .val (.ref b2), .val (.ref b181), .val (.int (0 : Int32)), .val (.ref b190), .val (.int (2 : Int32))] [(.int (1 : Int32)), (.int (3 : Int32)), (.ref b181), (.int (0 : Int32)), (.ref b190)])
        refine own_via ?_ fun _ kt => XS.isub X199.here hx rfl (hb hby at_213) rfl kt
        show Go _ _ _ _ _ _ _ _ (mkF m 214 #[.val (.int sel), .val (.int a), .val (.int b), .val (.int c_), .val (.int x_), .val (.int (3 : Int32)), .val (.int pk), .val (.int item), .val (.ref b2), .val (.ref b181), .val (.int (0 : Int32)), .val (.ref b190), .val (.int (2 : Int32))] [(.int ((3 : Int32) - (1 : Int32))), (.ref b181), (.int (0 : Int32)), (.ref b190)])
        rw [show ((3 : Int32) - (1 : Int32)) = (2 : Int32) from by decide]
        show Go _ _ _ _ _ _ _ _ (mkF m 214 #[.val (.int sel), .val (.int a), .val (.int b), .val (.int c_), .val (.int x_), .val (.int (3 : Int32)), .val (.int pk), .val (.int item), .val (.ref b2), .val (.ref b181), .val (.int (0 : Int32)), .val (.ref b190), .val (.int (2 : Int32))] [(.int (2 : Int32)), (.ref b181), (.int (0 : Int32)), (.ref b190)])
        obtain ⟨cl200, Ar200, Aq200, AS200, AN200, AH200, AG200⟩ := V189
        have V189 : Arv Z h199 b181 k181 .int (3 : Int32) [(.int a), (.int b), (.int c_)] (.int (0 : Int32)) := ⟨cl200, Ar200, Aq200, AS200, AN200, AH200, AG200⟩
        have hin201 : ¬ ((2 : Int32) < 0 ∨ cl200.slots.size ≤ ((2 : Int32)).toNatClampNeg) := (inb_of AS200 ⟨by decide, by decide⟩)
        have hat201 : cl200.slots[((2 : Int32)).toNatClampNeg]? = some (.int c_) := (AH200.at hin201 rfl)
        refine own_via ?_ fun _ kt => X199.iaload hx (j := (2 : Int32)) (v := (.int c_)) (by rw [e199]; exact Ar200.1) (State.isArrayOf_alike hZ.alike Ar200.2.1) Ar200.2.2 hin201 hat201 (g := (mkF m 214 #[.val (.int sel), .val (.int a), .val (.int b), .val (.int c_), .val (.int x_), .val (.int (3 : Int32)), .val (.int pk), .val (.int item), .val (.ref b2), .val (.ref b181), .val (.int (0 : Int32)), .val (.ref b190), .val (.int (2 : Int32))] [(.int (2 : Int32)), (.ref b181), (.int (0 : Int32)), (.ref b190)])) rfl rfl (hb hby at_214) _ kt
        show Go _ _ _ _ _ _ _ _ (mkF m 215 #[.val (.int sel), .val (.int a), .val (.int b), .val (.int c_), .val (.int x_), .val (.int (3 : Int32)), .val (.int pk), .val (.int item), .val (.ref b2), .val (.ref b181), .val (.int (0 : Int32)), .val (.ref b190), .val (.int (2 : Int32))] [(.int c_), (.int (0 : Int32)), (.ref b190)])
        obtain ⟨cl202, Ar202, Aq202, AS202, AN202, AH202, AG202⟩ := V199
        have hin203 : ¬ ((0 : Int32) < 0 ∨ cl202.slots.size ≤ ((0 : Int32)).toNatClampNeg) := (inb_of AS202 ⟨by decide, by decide⟩)
        obtain ⟨T203, h203, X203, e203, W203, st203⟩ := stI X199 hx hZ e199 Ar202 (j := (0 : Int32)) hin203 (g := (mkF m 215 #[.val (.int sel), .val (.int a), .val (.int b), .val (.int c_), .val (.int x_), .val (.int (3 : Int32)), .val (.int pk), .val (.int item), .val (.ref b2), .val (.ref b181), .val (.int (0 : Int32)), .val (.ref b190), .val (.int (2 : Int32))] [(.int c_), (.int (0 : Int32)), (.ref b190)])) rfl rfl (hb hby at_215)
        have N203 := Fr.snoc X203 N199 g_b190
        have V203 : Arv Z h203 b190 k190 .int (3 : Int32) [(.int c_), (.int b), (.int c_)] (.int (0 : Int32)) := Arv.set Ar202 Aq202 AS202 AN202 AH202 AG202 rfl W203 0 rfl (Nat.le_of_ble_eq_true rfl)
        replace p180_E := p180_E.wr W203
        replace p180_Fs := p180_Fs.other W203 (Or.inl ne191)
        replace p180_Fi := p180_Fi.other W203 (Or.inl ne191)
        replace p180_V := p180_V.other W203 ne192
        replace V189 := V189.other W203 ne193
        replace Z0 := Nat.le_trans Z0 (Keep.of_wr W203).1
        replace O := O.wr W203 g_b190
        refine own_via ?_ st203
        show Go _ _ _ _ _ _ _ _ (mkF m 216 #[.val (.int sel), .val (.int a), .val (.int b), .val (.int c_), .val (.int x_), .val (.int (3 : Int32)), .val (.int pk), .val (.int item), .val (.ref b2), .val (.ref b181), .val (.int (0 : Int32)), .val (.ref b190), .val (.int (2 : Int32))] [])
        refine own_via ?_ fun _ kt => XS.aload X203.here hx rfl (hb hby at_216) rfl rfl kt
        show Go _ _ _ _ _ _ _ _ (mkF m 218 #[.val (.int sel), .val (.int a), .val (.int b), .val (.int c_), .val (.int x_), .val (.int (3 : Int32)), .val (.int pk), .val (.int item), .val (.ref b2), .val (.ref b181), .val (.int (0 : Int32)), .val (.ref b190), .val (.int (2 : Int32))] [(.ref b2)])
        obtain ⟨T204, X204, e204, st204⟩ := getF X203 hx hZ hown (host := "") (Or.inl (hw _ (List.mem_of_getElem? (i := 21) rfl))) Via.refl e203 p180_Fs (g := (mkF m 218 #[.val (.int sel), .val (.int a), .val (.int b), .val (.int c_), .val (.int x_), .val (.int (3 : Int32)), .val (.int pk), .val (.int item), .val (.ref b2), .val (.ref b181), .val (.int (0 : Int32)), .val (.ref b190), .val (.int (2 : Int32))] [(.ref b2)])) rfl rfl (hb hby at_218)
        refine own_via ?_ st204
        show Go _ _ _ _ _ _ _ _ (mkF m 221 #[.val (.int sel), .val (.int a), .val (.int b), .val (.int c_), .val (.int x_), .val (.int (3 : Int32)), .val (.int pk), .val (.int item), .val (.ref b2), .val (.ref b181), .val (.int (0 : Int32)), .val (.ref b190), .val (.int (2 : Int32))] [(.int (2 : Int32))])
        refine own_via ?_ fun _ kt => XS.iload X204.here hx rfl (hb hby at_221) rfl kt
        show Go _ _ _ _ _ _ _ _ (mkF m 223 #[.val (.int sel), .val (.int a), .val (.int b), .val (.int c_), .val (.int x_), .val (.int (3 : Int32)), .val (.int pk), .val (.int item), .val (.ref b2), .val (.ref b181), .val (.int (0 : Int32)), .val (.ref b190), .val (.int (2 : Int32))] [(.int (2 : Int32)), (.int (2 : Int32))])
        refine own_via ?_ fun _ kt => XS.icmpYes X204.here hx rfl (pc0 := 223) (pc' := 228) rfl (hb hby at_223) rfl (teq rfl).1 (by decide) (by decide) kt
        show Go _ _ _ _ _ _ _ _ (mkF m 228 #[.val (.int sel), .val (.int a), .val (.int b), .val (.int c_), .val (.int x_), .val (.int (3 : Int32)), .val (.int pk), .val (.int item), .val (.ref b2), .val (.ref b181), .val (.int (0 : Int32)), .val (.ref b190), .val (.int (2 : Int32))] [])
        refine own_via ?_ fun _ kt => XS.aload X204.here hx rfl (hb hby at_228) rfl rfl kt
        show Go _ _ _ _ _ _ _ _ (mkF m 230 #[.val (.int sel), .val (.int a), .val (.int b), .val (.int c_), .val (.int x_), .val (.int (3 : Int32)), .val (.int pk), .val (.int item), .val (.ref b2), .val (.ref b181), .val (.int (0 : Int32)), .val (.ref b190), .val (.int (2 : Int32))] [(.ref b2)])
        obtain ⟨T205, X205, e205, st205⟩ := getF X204 hx hZ hown (host := "") (Or.inl (hw _ (List.mem_of_getElem? (i := 22) rfl))) Via.refl e204 p180_Fi (g := (mkF m 230 #[.val (.int sel), .val (.int a), .val (.int b), .val (.int c_), .val (.int x_), .val (.int (3 : Int32)), .val (.int pk), .val (.int item), .val (.ref b2), .val (.ref b181), .val (.int (0 : Int32)), .val (.ref b190), .val (.int (2 : Int32))] [(.ref b2)])) rfl rfl (hb hby at_230)
        refine own_via ?_ st205
        show Go _ _ _ _ _ _ _ _ (mkF m 233 #[.val (.int sel), .val (.int a), .val (.int b), .val (.int c_), .val (.int x_), .val (.int (3 : Int32)), .val (.int pk), .val (.int item), .val (.ref b2), .val (.ref b181), .val (.int (0 : Int32)), .val (.ref b190), .val (.int (2 : Int32))] [(.ref ba)])
        obtain ⟨cl206, Ar206, Aq206, AS206, AN206, AH206, AG206⟩ := p180_V
        have p180_V : Arv Z h203 ba ka .int (4 : Int32) [(.int c_), (.int b), (.int c_), (.int (0 : Int32))] (.int (0 : Int32)) := ⟨cl206, Ar206, Aq206, AS206, AN206, AH206, AG206⟩
        refine own_via ?_ fun _ kt => X205.arraylength hx (by rw [e205]; exact Ar206.1) (State.isArrayOf_alike hZ.alike Ar206.2.1) (g := (mkF m 233 #[.val (.int sel), .val (.int a), .val (.int b), .val (.int c_), .val (.int x_), .val (.int (3 : Int32)), .val (.int pk), .val (.int item), .val (.ref b2), .val (.ref b181), .val (.int (0 : Int32)), .val (.ref b190), .val (.int (2 : Int32))] [(.ref ba)])) rfl rfl (hb hby at_233) _ kt
        rw [len_of AS206 AN206]
        show Go _ _ _ _ _ _ _ _ (mkF m 234 #[.val (.int sel), .val (.int a), .val (.int b), .val (.int c_), .val (.int x_), .val (.int (3 : Int32)), .val (.int pk), .val (.int item), .val (.ref b2), .val (.ref b181), .val (.int (0 : Int32)), .val (.ref b190), .val (.int (2 : Int32))] [(.int (4 : Int32))])
        refine own_via ?_ fun _ kt => XS.iload X205.here hx rfl (hb hby at_234) rfl kt
        show Go _ _ _ _ _ _ _ _ (mkF m 236 #[.val (.int sel), .val (.int a), .val (.int b), .val (.int c_), .val (.int x_), .val (.int (3 : Int32)), .val (.int pk), .val (.int item), .val (.ref b2), .val (.ref b181), .val (.int (0 : Int32)), .val (.ref b190), .val (.int (2 : Int32))] [(.int (2 : Int32)), (.int (4 : Int32))])
        refine own_via ?_ fun _ kt => XS.icmpYes X205.here hx rfl (pc0 := 236) (pc' := 241) rfl (hb hby at_236) rfl (flt (by decide : ¬ ((4 : Int32) < (2 : Int32)))).2.1 (by decide) (by decide) kt
        show Go _ _ _ _ _ _ _ _ (mkF m 241 #[.val (.int sel), .val (.int a), .val (.int b), .val (.int c_), .val (.int x_), .val (.int (3 : Int32)), .val (.int pk), .val (.int item), .val (.ref b2), .val (.ref b181), .val (.int (0 : Int32)), .val (.ref b190), .val (.int (2 : Int32))] [])
        refine own_via ?_ fun _ kt => XS.iload X205.here hx rfl (hb hby at_241) rfl kt
        show Go _ _ _ _ _ _ _ _ (mkF m 243 #[.val (.int sel), .val (.int a), .val (.int b), .val (.int c_), .val (.int x_), .val (.int (3 : Int32)), .val (.int pk), .val (.int item), .val (.ref b2), .val (.ref b181), .val (.int (0 : Int32)), .val (.ref b190), .val (.int (2 : Int32))] [(.int (2 : Int32))])
        refine own_via ?_ fun _ kt => XS.ifNo X205.here hx rfl (hb hby at_243) rfl ((if0 _ _).trans (tlt (by decide : ((0 : Int32) < (2 : Int32)))).2.2.2) kt
        show Go _ _ _ _ _ _ _ _ (mkF m 246 #[.val (.int sel), .val (.int a), .val (.int b), .val (.int c_), .val (.int x_), .val (.int (3 : Int32)), .val (.int pk), .val (.int item), .val (.ref b2), .val (.ref b181), .val (.int (0 : Int32)), .val (.ref b190), .val (.int (2 : Int32))] [])
        refine own_via ?_ fun _ kt => XS.aload X205.here hx rfl (hb hby at_246) rfl rfl kt
        show Go _ _ _ _ _ _ _ _ (mkF m 248 #[.val (.int sel), .val (.int a), .val (.int b), .val (.int c_), .val (.int x_), .val (.int (3 : Int32)), .val (.int pk), .val (.int item), .val (.ref b2), .val (.ref b181), .val (.int (0 : Int32)), .val (.ref b190), .val (.int (2 : Int32))] [(.ref b2)])
        obtain ⟨T207, X207, e207, st207⟩ := getF X205 hx hZ hown (host := "") (Or.inl (hw _ (List.mem_of_getElem? (i := 22) rfl))) Via.refl e205 p180_Fi (g := (mkF m 248 #[.val (.int sel), .val (.int a), .val (.int b), .val (.int c_), .val (.int x_), .val (.int (3 : Int32)), .val (.int pk), .val (.int item), .val (.ref b2), .val (.ref b181), .val (.int (0 : Int32)), .val (.ref b190), .val (.int (2 : Int32))] [(.ref b2)])) rfl rfl (hb hby at_248)
        refine own_via ?_ st207
        show Go _ _ _ _ _ _ _ _ (mkF m 251 #[.val (.int sel), .val (.int a), .val (.int b), .val (.int c_), .val (.int x_), .val (.int (3 : Int32)), .val (.int pk), .val (.int item), .val (.ref b2), .val (.ref b181), .val (.int (0 : Int32)), .val (.ref b190), .val (.int (2 : Int32))] [(.ref ba)])
        refine own_via ?_ fun _ kt => XS.iconst X207.here hx rfl (hb hby at_251) kt
        show Go _ _ _ _ _ _ _ _ (mkF m 252 #[.val (.int sel), .val (.int a), .val (.int b), .val (.int c_), .val (.int x_), .val (.int (3 : Int32)), .val (.int pk), .val (.int item), .val (.ref b2), .val (.ref b181), .val (.int (0 : Int32)), .val (.ref b190), .val (.int (2 : Int32))] [(.int (0 : Int32)), (.ref ba)])
        obtain ⟨cl208, Ar208, Aq208, AS208, AN208, AH208, AG208⟩ := p180_V
        have p180_V : Arv Z h203 ba ka .int (4 : Int32) [(.int c_), (.int b), (.int c_), (.int (0 : Int32))] (.int (0 : Int32)) := ⟨cl208, Ar208, Aq208, AS208, AN208, AH208, AG208⟩
        have hin209 : ¬ ((0 : Int32) < 0 ∨ cl208.slots.size ≤ ((0 : Int32)).toNatClampNeg) := (inb_of AS208 ⟨by decide, by decide⟩)
        have hat209 : cl208.slots[((0 : Int32)).toNatClampNeg]? = some (.int c_) := (AH208.at hin209 rfl)
        refine own_via ?_ fun _ kt => X207.iaload hx (j := (0 : Int32)) (v := (.int c_)) (by rw [e207]; exact Ar208.1) (State.isArrayOf_alike hZ.alike Ar208.2.1) Ar208.2.2 hin209 hat209 (g := (mkF m 252 #[.val (.int sel), .val (.int a), .val (.int b), .val (.int c_), .val (.int x_), .val (.int (3 : Int32)), .val (.int pk), .val (.int item), .val (.ref b2), .val (.ref b181), .val (.int (0 : Int32)), .val (.ref b190), .val (.int (2 : Int32))] [(.int (0 : Int32)), (.ref ba)])) rfl rfl (hb hby at_252) _ kt
        show Go _ _ _ _ _ _ _ _ (mkF m 253 #[.val (.int sel), .val (.int a), .val (.int b), .val (.int c_), .val (.int x_), .val (.int (3 : Int32)), .val (.int pk), .val (.int item), .val (.ref b2), .val (.ref b181), .val (.int (0 : Int32)), .val (.ref b190), .val (.int (2 : Int32))] [(.int c_)])
        refine own_via ?_ fun _ kt => XS.aload X207.here hx rfl (hb hby at_253) rfl rfl kt
        show Go _ _ _ _ _ _ _ _ (mkF m 255 #[.val (.int sel), .val (.int a), .val (.int b), .val (.int c_), .val (.int x_), .val (.int (3 : Int32)), .val (.int pk), .val (.int item), .val (.ref b2), .val (.ref b181), .val (.int (0 : Int32)), .val (.ref b190), .val (.int (2 : Int32))] [(.ref b190), (.int c_)])
        refine own_via ?_ fun _ kt => XS.iconst X207.here hx rfl (hb hby at_255) kt
        show Go _ _ _ _ _ _ _ _ (mkF m 256 #[.val (.int sel), .val (.int a), .val (.int b), .val (.int c_), .val (.int x_), .val (.int (3 : Int32)), .val (.int pk), .val (.int item), .val (.ref b2), .val (.ref b181), .val (.int (0 : Int32)), .val (.ref b190), .val (.int (2 : Int32))] [(.int (0 : Int32)), (.ref b190), (.int c_)])
        obtain ⟨cl210, Ar210, Aq210, AS210, AN210, AH210, AG210⟩ := V203
        have V203 : Arv Z h203 b190 k190 .int (3 : Int32) [(.int c_), (.int b), (.int c_)] (.int (0 : Int32)) := ⟨cl210, Ar210, Aq210, AS210, AN210, AH210, AG210⟩
        have hin211 : ¬ ((0 : Int32) < 0 ∨ cl210.slots.size ≤ ((0 : Int32)).toNatClampNeg) := (inb_of AS210 ⟨by decide, by decide⟩)
        have hat211 : cl210.slots[((0 : Int32)).toNatClampNeg]? = some (.int c_) := (AH210.at hin211 rfl)
        refine own_via ?_ fun _ kt => X207.iaload hx (j := (0 : Int32)) (v := (.int c_)) (by rw [e207]; exact Ar210.1) (State.isArrayOf_alike hZ.alike Ar210.2.1) Ar210.2.2 hin211 hat211 (g := (mkF m 256 #[.val (.int sel), .val (.int a), .val (.int b), .val (.int c_), .val (.int x_), .val (.int (3 : Int32)), .val (.int pk), .val (.int item), .val (.ref b2), .val (.ref b181), .val (.int (0 : Int32)), .val (.ref b190), .val (.int (2 : Int32))] [(.int (0 : Int32)), (.ref b190), (.int c_)])) rfl rfl (hb hby at_256) _ kt
        show Go _ _ _ _ _ _ _ _ (mkF m 257 #[.val (.int sel), .val (.int a), .val (.int b), .val (.int c_), .val (.int x_), .val (.int (3 : Int32)), .val (.int pk), .val (.int item), .val (.ref b2), .val (.ref b181), .val (.int (0 : Int32)), .val (.ref b190), .val (.int (2 : Int32))] [(.int c_), (.int c_)])
        refine own_via ?_ fun _ kt => XS.icmpYes X207.here hx rfl (pc0 := 257) (pc' := 262) rfl (hb hby at_257) rfl (teq rfl).1 (by decide) (by decide) kt
        show Go _ _ _ _ _ _ _ _ (mkF m 262 #[.val (.int sel), .val (.int a), .val (.int b), .val (.int c_), .val (.int x_), .val (.int (3 : Int32)), .val (.int pk), .val (.int item), .val (.ref b2), .val (.ref b181), .val (.int (0 : Int32)), .val (.ref b190), .val (.int (2 : Int32))] [])
        refine own_via ?_ fun _ kt => XS.iload X207.here hx rfl (hb hby at_262) rfl kt
        show Go _ _ _ _ _ _ _ _ (mkF m 264 #[.val (.int sel), .val (.int a), .val (.int b), .val (.int c_), .val (.int x_), .val (.int (3 : Int32)), .val (.int pk), .val (.int item), .val (.ref b2), .val (.ref b181), .val (.int (0 : Int32)), .val (.ref b190), .val (.int (2 : Int32))] [(.int (2 : Int32))])
        refine own_via ?_ fun _ kt => XS.iconst X207.here hx rfl (hb hby at_264) kt
        show Go _ _ _ _ _ _ _ _ (mkF m 265 #[.val (.int sel), .val (.int a), .val (.int b), .val (.int c_), .val (.int x_), .val (.int (3 : Int32)), .val (.int pk), .val (.int item), .val (.ref b2), .val (.ref b181), .val (.int (0 : Int32)), .val (.ref b190), .val (.int (2 : Int32))] [(.int (1 : Int32)), (.int (2 : Int32))])
        refine own_via ?_ fun _ kt => XS.icmpNo X207.here hx rfl (hb hby at_265) rfl (tlt (by decide : ((1 : Int32) < (2 : Int32)))).2.2.2 kt
        show Go _ _ _ _ _ _ _ _ (mkF m 268 #[.val (.int sel), .val (.int a), .val (.int b), .val (.int c_), .val (.int x_), .val (.int (3 : Int32)), .val (.int pk), .val (.int item), .val (.ref b2), .val (.ref b181), .val (.int (0 : Int32)), .val (.ref b190), .val (.int (2 : Int32))] [])
        refine own_via ?_ fun _ kt => XS.aload X207.here hx rfl (hb hby at_268) rfl rfl kt
        show Go _ _ _ _ _ _ _ _ (mkF m 270 #[.val (.int sel), .val (.int a), .val (.int b), .val (.int c_), .val (.int x_), .val (.int (3 : Int32)), .val (.int pk), .val (.int item), .val (.ref b2), .val (.ref b181), .val (.int (0 : Int32)), .val (.ref b190), .val (.int (2 : Int32))] [(.ref b2)])
        obtain ⟨T212, X212, e212, st212⟩ := getF X207 hx hZ hown (host := "") (Or.inl (hw _ (List.mem_of_getElem? (i := 22) rfl))) Via.refl e207 p180_Fi (g := (mkF m 270 #[.val (.int sel), .val (.int a), .val (.int b), .val (.int c_), .val (.int x_), .val (.int (3 : Int32)), .val (.int pk), .val (.int item), .val (.ref b2), .val (.ref b181), .val (.int (0 : Int32)), .val (.ref b190), .val (.int (2 : Int32))] [(.ref b2)])) rfl rfl (hb hby at_270)
        refine own_via ?_ st212
        show Go _ _ _ _ _ _ _ _ (mkF m 273 #[.val (.int sel), .val (.int a), .val (.int b), .val (.int c_), .val (.int x_), .val (.int (3 : Int32)), .val (.int pk), .val (.int item), .val (.ref b2), .val (.ref b181), .val (.int (0 : Int32)), .val (.ref b190), .val (.int (2 : Int32))] [(.ref ba)])
        refine own_via ?_ fun _ kt => XS.iconst X212.here hx rfl (hb hby at_273) kt
        show Go _ _ _ _ _ _ _ _ (mkF m 274 #[.val (.int sel), .val (.int a), .val (.int b), .val (.int c_), .val (.int x_), .val (.int (3 : Int32)), .val (.int pk), .val (.int item), .val (.ref b2), .val (.ref b181), .val (.int (0 : Int32)), .val (.ref b190), .val (.int (2 : Int32))] [(.int (1 : Int32)), (.ref ba)])
        obtain ⟨cl213, Ar213, Aq213, AS213, AN213, AH213, AG213⟩ := p180_V
        have p180_V : Arv Z h203 ba ka .int (4 : Int32) [(.int c_), (.int b), (.int c_), (.int (0 : Int32))] (.int (0 : Int32)) := ⟨cl213, Ar213, Aq213, AS213, AN213, AH213, AG213⟩
        have hin214 : ¬ ((1 : Int32) < 0 ∨ cl213.slots.size ≤ ((1 : Int32)).toNatClampNeg) := (inb_of AS213 ⟨by decide, by decide⟩)
        have hat214 : cl213.slots[((1 : Int32)).toNatClampNeg]? = some (.int b) := (AH213.at hin214 rfl)
        refine own_via ?_ fun _ kt => X212.iaload hx (j := (1 : Int32)) (v := (.int b)) (by rw [e212]; exact Ar213.1) (State.isArrayOf_alike hZ.alike Ar213.2.1) Ar213.2.2 hin214 hat214 (g := (mkF m 274 #[.val (.int sel), .val (.int a), .val (.int b), .val (.int c_), .val (.int x_), .val (.int (3 : Int32)), .val (.int pk), .val (.int item), .val (.ref b2), .val (.ref b181), .val (.int (0 : Int32)), .val (.ref b190), .val (.int (2 : Int32))] [(.int (1 : Int32)), (.ref ba)])) rfl rfl (hb hby at_274) _ kt
        show Go _ _ _ _ _ _ _ _ (mkF m 275 #[.val (.int sel), .val (.int a), .val (.int b), .val (.int c_), .val (.int x_), .val (.int (3 : Int32)), .val (.int pk), .val (.int item), .val (.ref b2), .val (.ref b181), .val (.int (0 : Int32)), .val (.ref b190), .val (.int (2 : Int32))] [(.int b)])
        refine own_via ?_ fun _ kt => XS.aload X212.here hx rfl (hb hby at_275) rfl rfl kt
        show Go _ _ _ _ _ _ _ _ (mkF m 277 #[.val (.int sel), .val (.int a), .val (.int b), .val (.int c_), .val (.int x_), .val (.int (3 : Int32)), .val (.int pk), .val (.int item), .val (.ref b2), .val (.ref b181), .val (.int (0 : Int32)), .val (.ref b190), .val (.int (2 : Int32))] [(.ref b190), (.int b)])
        refine own_via ?_ fun _ kt => XS.iconst X212.here hx rfl (hb hby at_277) kt
        show Go _ _ _ _ _ _ _ _ (mkF m 278 #[.val (.int sel), .val (.int a), .val (.int b), .val (.int c_), .val (.int x_), .val (.int (3 : Int32)), .val (.int pk), .val (.int item), .val (.ref b2), .val (.ref b181), .val (.int (0 : Int32)), .val (.ref b190), .val (.int (2 : Int32))] [(.int (1 : Int32)), (.ref b190), (.int b)])
        obtain ⟨cl215, Ar215, Aq215, AS215, AN215, AH215, AG215⟩ := V203
        have V203 : Arv Z h203 b190 k190 .int (3 : Int32) [(.int c_), (.int b), (.int c_)] (.int (0 : Int32)) := ⟨cl215, Ar215, Aq215, AS215, AN215, AH215, AG215⟩
        have hin216 : ¬ ((1 : Int32) < 0 ∨ cl215.slots.size ≤ ((1 : Int32)).toNatClampNeg) := (inb_of AS215 ⟨by decide, by decide⟩)
        have hat216 : cl215.slots[((1 : Int32)).toNatClampNeg]? = some (.int b) := (AH215.at hin216 rfl)
        refine own_via ?_ fun _ kt => X212.iaload hx (j := (1 : Int32)) (v := (.int b)) (by rw [e212]; exact Ar215.1) (State.isArrayOf_alike hZ.alike Ar215.2.1) Ar215.2.2 hin216 hat216 (g := (mkF m 278 #[.val (.int sel), .val (.int a), .val (.int b), .val (.int c_), .val (.int x_), .val (.int (3 : Int32)), .val (.int pk), .val (.int item), .val (.ref b2), .val (.ref b181), .val (.int (0 : Int32)), .val (.ref b190), .val (.int (2 : Int32))] [(.int (1 : Int32)), (.ref b190), (.int b)])) rfl rfl (hb hby at_278) _ kt
        show Go _ _ _ _ _ _ _ _ (mkF m 279 #[.val (.int sel), .val (.int a), .val (.int b), .val (.int c_), .val (.int x_), .val (.int (3 : Int32)), .val (.int pk), .val (.int item), .val (.ref b2), .val (.ref b181), .val (.int (0 : Int32)), .val (.ref b190), .val (.int (2 : Int32))] [(.int b), (.int b)])
        refine own_via ?_ fun _ kt => XS.icmpYes X212.here hx rfl (pc0 := 279) (pc' := 284) rfl (hb hby at_279) rfl (teq rfl).1 (by decide) (by decide) kt
        show Go _ _ _ _ _ _ _ _ (mkF m 284 #[.val (.int sel), .val (.int a), .val (.int b), .val (.int c_), .val (.int x_), .val (.int (3 : Int32)), .val (.int pk), .val (.int item), .val (.ref b2), .val (.ref b181), .val (.int (0 : Int32)), .val (.ref b190), .val (.int (2 : Int32))] [])
        refine own_via ?_ fun _ kt => XS.iload X212.here hx rfl (hb hby at_284) rfl kt
        show Go _ _ _ _ _ _ _ _ (mkF m 286 #[.val (.int sel), .val (.int a), .val (.int b), .val (.int c_), .val (.int x_), .val (.int (3 : Int32)), .val (.int pk), .val (.int item), .val (.ref b2), .val (.ref b181), .val (.int (0 : Int32)), .val (.ref b190), .val (.int (2 : Int32))] [(.int (2 : Int32))])
        refine own_via ?_ fun _ kt => XS.iconst X212.here hx rfl (hb hby at_286) kt
        show Go _ _ _ _ _ _ _ _ (mkF m 287 #[.val (.int sel), .val (.int a), .val (.int b), .val (.int c_), .val (.int x_), .val (.int (3 : Int32)), .val (.int pk), .val (.int item), .val (.ref b2), .val (.ref b181), .val (.int (0 : Int32)), .val (.ref b190), .val (.int (2 : Int32))] [(.int (2 : Int32)), (.int (2 : Int32))])
        refine own_via ?_ fun _ kt => XS.icmpYes X212.here hx rfl (pc0 := 287) (pc' := 306) rfl (hb hby at_287) rfl (flt (by decide : ¬ ((2 : Int32) < (2 : Int32)))).2.2.2 (by decide) (by decide) kt
        show Go _ _ _ _ _ _ _ _ (mkF m 306 #[.val (.int sel), .val (.int a), .val (.int b), .val (.int c_), .val (.int x_), .val (.int (3 : Int32)), .val (.int pk), .val (.int item), .val (.ref b2), .val (.ref b181), .val (.int (0 : Int32)), .val (.ref b190), .val (.int (2 : Int32))] [])
        refine own_via ?_ fun _ kt => XS.iconst X212.here hx rfl (hb hby at_306) kt
        show Go _ _ _ _ _ _ _ _ (mkF m 307 #[.val (.int sel), .val (.int a), .val (.int b), .val (.int c_), .val (.int x_), .val (.int (3 : Int32)), .val (.int pk), .val (.int item), .val (.ref b2), .val (.ref b181), .val (.int (0 : Int32)), .val (.ref b190), .val (.int (2 : Int32))] [(.int (1 : Int32))])
        exact own_retZ (z' := (1 : Int32)) X212 hx hret hlk (hb hby at_307) rfl (by decide) (by decide) (by rw [e212]; exact ⟨rfl, N203⟩)
      · skip
        show Go _ _ _ _ _ _ _ _ (mkF m 102 #[.val (.int sel), .val (.int a), .val (.int b), .val (.int c_), .val (.int x_), .val (.int (3 : Int32)), .val (.int pk), .val (.int item), .val (.ref b2), .unset, .unset, .unset, .unset] [])
        refine own_via ?_ fun _ kt => XS.iconst X180.here hx rfl (hb hby at_102) kt
        show Go _ _ _ _ _ _ _ _ (mkF m 103 #[.val (.int sel), .val (.int a), .val (.int b), .val (.int c_), .val (.int x_), .val (.int (3 : Int32)), .val (.int pk), .val (.int item), .val (.ref b2), .unset, .unset, .unset, .unset] [(.int (3 : Int32))])
        obtain ⟨T217, h217, k217, X217, e217, E217, A217, st217⟩ := newP X180 hx hZ (hw _ (List.mem_of_getElem? (i := 20) rfl)) e180 (g := (mkF m 103 #[.val (.int sel), .val (.int a), .val (.int b), .val (.int c_), .val (.int x_), .val (.int (3 : Int32)), .val (.int pk), .val (.int item), .val (.ref b2), .unset, .unset, .unset, .unset] [(.int (3 : Int32))])) rfl (hb hby at_103) rfl (by decide) (cap := 3) (by decide) (by decide) (by decide) (by decide)
        obtain ⟨b217, g217⟩ : ∃ z, z = h180.size := ⟨_, rfl⟩
        rw [← g217] at A217 st217
        have ne218 : b2 ≠ b217 := by rw [g217]; exact Nat.ne_of_lt p180_E.lt
        have ne219 : ba ≠ b217 := by rw [g217]; exact Nat.ne_of_lt p180_V.lt
        have g_b217 : n0 ≤ b217 := by rw [g217]; exact Z0
        replace p180_E := p180_E.ext E217
        replace p180_Fs := p180_Fs.ext E217
        replace p180_Fi := p180_Fi.ext E217
        replace p180_V := p180_V.ext E217
        replace Z0 := Nat.le_trans Z0 E217.1
        replace O := O.ext E217
        have V217 : Arv Z h217 b217 k217 .int (3 : Int32) [(.int (0 : Int32)), (.int (0 : Int32)), (.int (0 : Int32))] (.int (0 : Int32)) := (Arv.new A217 (by decide)).pad (pad_rep [] (.int (0 : Int32)) 3)
        refine own_via ?_ st217
        show Go _ _ _ _ _ _ _ _ (mkF m 105 #[.val (.int sel), .val (.int a), .val (.int b), .val (.int c_), .val (.int x_), .val (.int (3 : Int32)), .val (.int pk), .val (.int item), .val (.ref b2), .unset, .unset, .unset, .unset] [(.ref b217)])
        refine own_via ?_ fun _ kt => XS.dup X217.here hx rfl (hb hby at_105) rfl rfl kt
        show Go _ _ _ _ _ _ _ _ (mkF m 106 #[.val (.int sel), .val (.int a), .val (.int b), .val (.int c_), .val (.int x_), .val (.int (3 : Int32)), .val (.int pk), .val (.int item), .val (.ref b2), .unset, .unset, .unset, .unset] [(.ref b217), (.ref b217)])
        refine own_via ?_ fun _ kt => XS.iconst X217.here hx rfl (hb hby at_106) kt
        show Go _ _ _ _ _ _ _ _ (mkF m 107 #[.val (.int sel), .val (.int a), .val (.int b), .val (.int c_), .val (.int x_), .val (.int (3 : Int32)), .val (.int pk), .val (.int item), .val (.ref b2), .unset, .unset, .unset, .unset] [(.int (0 : Int32)), (.ref b217), (.ref b217)])
        refine own_via ?_ fun _ kt => XS.iloadN X217.here hx rfl (hb hby at_107) rfl kt
        show Go _ _ _ _ _ _ _ _ (mkF m 108 #[.val (.int sel), .val (.int a), .val (.int b), .val (.int c_), .val (.int x_), .val (.int (3 : Int32)), .val (.int pk), .val (.int item), .val (.ref b2), .unset, .unset, .unset, .unset] [(.int a), (.int (0 : Int32)), (.ref b217), (.ref b217)])
        obtain ⟨cl220, Ar220, Aq220, AS220, AN220, AH220, AG220⟩ := V217
        have hin221 : ¬ ((0 : Int32) < 0 ∨ cl220.slots.size ≤ ((0 : Int32)).toNatClampNeg) := (inb_of AS220 ⟨by decide, by decide⟩)
        obtain ⟨T221, h221, X221, e221, W221, st221⟩ := stI X217 hx hZ e217 Ar220 (j := (0 : Int32)) hin221 (g := (mkF m 108 #[.val (.int sel), .val (.int a), .val (.int b), .val (.int c_), .val (.int x_), .val (.int (3 : Int32)), .val (.int pk), .val (.int item), .val (.ref b2), .unset, .unset, .unset, .unset] [(.int a), (.int (0 : Int32)), (.ref b217), (.ref b217)])) rfl rfl (hb hby at_108)
        have N221 := Fr.snoc X221 N180 g_b217
        have V221 : Arv Z h221 b217 k217 .int (3 : Int32) [(.int a), (.int (0 : Int32)), (.int (0 : Int32))] (.int (0 : Int32)) := Arv.set Ar220 Aq220 AS220 AN220 AH220 AG220 rfl W221 0 rfl (Nat.le_of_ble_eq_true rfl)
        replace p180_E := p180_E.wr W221
        replace p180_Fs := p180_Fs.other W221 (Or.inl ne218)
        replace p180_Fi := p180_Fi.other W221 (Or.inl ne218)
        replace p180_V := p180_V.other W221 ne219
        replace Z0 := Nat.le_trans Z0 (Keep.of_wr W221).1
        replace O := O.wr W221 g_b217
        refine own_via ?_ st221
        show Go _ _ _ _ _ _ _ _ (mkF m 109 #[.val (.int sel), .val (.int a), .val (.int b), .val (.int c_), .val (.int x_), .val (.int (3 : Int32)), .val (.int pk), .val (.int item), .val (.ref b2), .unset, .unset, .unset, .unset] [(.ref b217)])
        refine own_via ?_ fun _ kt => XS.dup X221.here hx rfl (hb hby at_109) rfl rfl kt
        show Go _ _ _ _ _ _ _ _ (mkF m 110 #[.val (.int sel), .val (.int a), .val (.int b), .val (.int c_), .val (.int x_), .val (.int (3 : Int32)), .val (.int pk), .val (.int item), .val (.ref b2), .unset, .unset, .unset, .unset] [(.ref b217), (.ref b217)])
        refine own_via ?_ fun _ kt => XS.iconst X221.here hx rfl (hb hby at_110) kt
        show Go _ _ _ _ _ _ _ _ (mkF m 111 #[.val (.int sel), .val (.int a), .val (.int b), .val (.int c_), .val (.int x_), .val (.int (3 : Int32)), .val (.int pk), .val (.int item), .val (.ref b2), .unset, .unset, .unset, .unset] [(.int (1 : Int32)), (.ref b217), (.ref b217)])
        refine own_via ?_ fun _ kt => XS.iloadN X221.here hx rfl (hb hby at_111) rfl kt
        show Go _ _ _ _ _ _ _ _ (mkF m 112 #[.val (.int sel), .val (.int a), .val (.int b), .val (.int c_), .val (.int x_), .val (.int (3 : Int32)), .val (.int pk), .val (.int item), .val (.ref b2), .unset, .unset, .unset, .unset] [(.int b), (.int (1 : Int32)), (.ref b217), (.ref b217)])
        obtain ⟨cl222, Ar222, Aq222, AS222, AN222, AH222, AG222⟩ := V221
        have hin223 : ¬ ((1 : Int32) < 0 ∨ cl222.slots.size ≤ ((1 : Int32)).toNatClampNeg) := (inb_of AS222 ⟨by decide, by decide⟩)
        obtain ⟨T223, h223, X223, e223, W223, st223⟩ := stI X221 hx hZ e221 Ar222 (j := (1 : Int32)) hin223 (g := (mkF m 112 #[.val (.int sel), .val (.int a), .val (.int b), .val (.int c_), .val (.int x_), .val (.int (3 : Int32)), .val (.int pk), .val (.int item), .val (.ref b2), .unset, .unset, .unset, .unset] [(.int b), (.int (1 : Int32)), (.ref b217), (.ref b217)])) rfl rfl (hb hby at_112)
        have N223 := Fr.snoc X223 N221 g_b217
        have V223 : Arv Z h223 b217 k217 .int (3 : Int32) [(.int a), (.int b), (.int (0 : Int32))] (.int (0 : Int32)) := Arv.set Ar222 Aq222 AS222 AN222 AH222 AG222 rfl W223 1 rfl (Nat.le_of_ble_eq_true rfl)
        replace p180_E := p180_E.wr W223
        replace p180_Fs := p180_Fs.other W223 (Or.inl ne218)
        replace p180_Fi := p180_Fi.other W223 (Or.inl ne218)
        replace p180_V := p180_V.other W223 ne219
        replace Z0 := Nat.le_trans Z0 (Keep.of_wr W223).1
        replace O := O.wr W223 g_b217
        refine own_via ?_ st223
        show Go _ _ _ _ _ _ _ _ (mkF m 113 #[.val (.int sel), .val (.int a), .val (.int b), .val (.int c_), .val (.int x_), .val (.int (3 : Int32)), .val (.int pk), .val (.int item), .val (.ref b2), .unset, .unset, .unset, .unset] [(.ref b217)])
        refine own_via ?_ fun _ kt => XS.dup X223.here hx rfl (hb hby at_113) rfl rfl kt
        show Go _ _ _ _ _ _ _ _ (mkF m 114 #[.val (.int sel), .val (.int a), .val (.int b), .val (.int c_), .val (.int x_), .val (.int (3 : Int32)), .val (.int pk), .val (.int item), .val (.ref b2), .unset, .unset, .unset, .unset] [(.ref b217), (.ref b217)])
        refine own_via ?_ fun _ kt => XS.iconst X223.here hx rfl (hb hby at_114) kt
        show Go _ _ _ _ _ _ _ _ (mkF m 115 #[.val (.int sel), .val (.int a), .val (.int b), .val (.int c_), .val (.int x_), .val (.int (3 : Int32)), .val (.int pk), .val (.int item), .val (.ref b2), .unset, .unset, .unset, .unset] [(.int (2 : Int32)), (.ref b217), (.ref b217)])
        refine own_via ?_ fun _ kt => XS.iloadN X223.here hx rfl (hb hby at_115) rfl kt
        show Go _ _ _ _ _ _ _ _ (mkF m 116 #[.val (.int sel), .val (.int a), .val (.int b), .val (.int c_), .val (.int x_), .val (.int (3 : Int32)), .val (.int pk), .val (.int item), .val (.ref b2), .unset, .unset, .unset, .unset] [(.int c_), (.int (2 : Int32)), (.ref b217), (.ref b217)])
        obtain ⟨cl224, Ar224, Aq224, AS224, AN224, AH224, AG224⟩ := V223
        have hin225 : ¬ ((2 : Int32) < 0 ∨ cl224.slots.size ≤ ((2 : Int32)).toNatClampNeg) := (inb_of AS224 ⟨by decide, by decide⟩)
        obtain ⟨T225, h225, X225, e225, W225, st225⟩ := stI X223 hx hZ e223 Ar224 (j := (2 : Int32)) hin225 (g := (mkF m 116 #[.val (.int sel), .val (.int a), .val (.int b), .val (.int c_), .val (.int x_), .val (.int (3 : Int32)), .val (.int pk), .val (.int item), .val (.ref b2), .unset, .unset, .unset, .unset] [(.int c_), (.int (2 : Int32)), (.ref b217), (.ref b217)])) rfl rfl (hb hby at_116)
        have N225 := Fr.snoc X225 N223 g_b217
        have V225 : Arv Z h225 b217 k217 .int (3 : Int32) [(.int a), (.int b), (.int c_)] (.int (0 : Int32)) := Arv.set Ar224 Aq224 AS224 AN224 AH224 AG224 rfl W225 2 rfl (Nat.le_of_ble_eq_true rfl)
        replace p180_E := p180_E.wr W225
        replace p180_Fs := p180_Fs.other W225 (Or.inl ne218)
        replace p180_Fi := p180_Fi.other W225 (Or.inl ne218)
        replace p180_V := p180_V.other W225 ne219
        replace Z0 := Nat.le_trans Z0 (Keep.of_wr W225).1
        replace O := O.wr W225 g_b217
        refine own_via ?_ st225
        show Go _ _ _ _ _ _ _ _ (mkF m 117 #[.val (.int sel), .val (.int a), .val (.int b), .val (.int c_), .val (.int x_), .val (.int (3 : Int32)), .val (.int pk), .val (.int item), .val (.ref b2), .unset, .unset, .unset, .unset] [(.ref b217)])
        refine own_via ?_ fun _ kt => XS.astore X225.here hx rfl (hb hby at_117) rfl rfl (l' := #[.val (.int sel), .val (.int a), .val (.int b), .val (.int c_), .val (.int x_), .val (.int (3 : Int32)), .val (.int pk), .val (.int item), .val (.ref b2), .val (.ref b217), .unset, .unset, .unset]) rfl kt
        show Go _ _ _ _ _ _ _ _ (mkF m 119 #[.val (.int sel), .val (.int a), .val (.int b), .val (.int c_), .val (.int x_), .val (.int (3 : Int32)), .val (.int pk), .val (.int item), .val (.ref b2), .val (.ref b217), .unset, .unset, .unset] [])
        refine own_via ?_ fun _ kt => XS.iconst X225.here hx rfl (hb hby at_119) kt
        show Go _ _ _ _ _ _ _ _ (mkF m 120 #[.val (.int sel), .val (.int a), .val (.int b), .val (.int c_), .val (.int x_), .val (.int (3 : Int32)), .val (.int pk), .val (.int item), .val (.ref b2), .val (.ref b217), .unset, .unset, .unset] [(.int (-1 : Int32))])
        refine own_via ?_ fun _ kt => XS.istore X225.here hx rfl (hb hby at_120) rfl (l' := #[.val (.int sel), .val (.int a), .val (.int b), .val (.int c_), .val (.int x_), .val (.int (3 : Int32)), .val (.int pk), .val (.int item), .val (.ref b2), .val (.ref b217), .val (.int (-1 : Int32)), .unset, .unset]) rfl kt
        show Go _ _ _ _ _ _ _ _ (mkF m 122 #[.val (.int sel), .val (.int a), .val (.int b), .val (.int c_), .val (.int x_), .val (.int (3 : Int32)), .val (.int pk), .val (.int item), .val (.ref b2), .val (.ref b217), .val (.int (-1 : Int32)), .unset, .unset] [])
        refine own_via ?_ fun _ kt => XS.iload X225.here hx rfl (hb hby at_122) rfl kt
        show Go _ _ _ _ _ _ _ _ (mkF m 124 #[.val (.int sel), .val (.int a), .val (.int b), .val (.int c_), .val (.int x_), .val (.int (3 : Int32)), .val (.int pk), .val (.int item), .val (.ref b2), .val (.ref b217), .val (.int (-1 : Int32)), .unset, .unset] [(.int (3 : Int32))])
        refine own_via ?_ fun _ kt => XS.ifNo X225.here hx rfl (hb hby at_124) rfl ((if0 _ _).trans (tlt (by decide : ((0 : Int32) < (3 : Int32)))).2.2.2) kt
        show Go _ _ _ _ _ _ _ _ (mkF m 127 #[.val (.int sel), .val (.int a), .val (.int b), .val (.int c_), .val (.int x_), .val (.int (3 : Int32)), .val (.int pk), .val (.int item), .val (.ref b2), .val (.ref b217), .val (.int (-1 : Int32)), .unset, .unset] [])
        refine own_via ?_ fun _ kt => XS.iloadN X225.here hx rfl (hb hby at_127) rfl kt
        show Go _ _ _ _ _ _ _ _ (mkF m 128 #[.val (.int sel), .val (.int a), .val (.int b), .val (.int c_), .val (.int x_), .val (.int (3 : Int32)), .val (.int pk), .val (.int item), .val (.ref b2), .val (.ref b217), .val (.int (-1 : Int32)), .unset, .unset] [(.int a)])
        refine own_via ?_ fun _ kt => XS.iload X225.here hx rfl (hb hby at_128) rfl kt
        show Go _ _ _ _ _ _ _ _ (mkF m 130 #[.val (.int sel), .val (.int a), .val (.int b), .val (.int c_), .val (.int x_), .val (.int (3 : Int32)), .val (.int pk), .val (.int item), .val (.ref b2), .val (.ref b217), .val (.int (-1 : Int32)), .unset, .unset] [(.int item), (.int a)])
        refine own_via ?_ fun _ kt => XS.icmpYes X225.here hx rfl (pc0 := 130) (pc' := 139) rfl (hb hby at_130) rfl (feq hv180_0).2 (by decide) (by decide) kt
        show Go _ _ _ _ _ _ _ _ (mkF m 139 #[.val (.int sel), .val (.int a), .val (.int b), .val (.int c_), .val (.int x_), .val (.int (3 : Int32)), .val (.int pk), .val (.int item), .val (.ref b2), .val (.ref b217), .val (.int (-1 : Int32)), .unset, .unset] [])
        refine own_via ?_ fun _ kt => XS.iload X225.here hx rfl (hb hby at_139) rfl kt
        show Go _ _ _ _ _ _ _ _ (mkF m 141 #[.val (.int sel), .val (.int a), .val (.int b), .val (.int c_), .val (.int x_), .val (.int (3 : Int32)), .val (.int pk), .val (.int item), .val (.ref b2), .val (.ref b217), .val (.int (-1 : Int32)), .unset, .unset] [(.int (3 : Int32))])
        refine own_via ?_ fun _ kt => XS.iconst X225.here hx rfl (hb hby at_141) kt
        show Go _ _ _ _ _ _ _ _ (mkF m 142 #[.val (.int sel), .val (.int a), .val (.int b), .val (.int c_), .val (.int x_), .val (.int (3 : Int32)), .val (.int pk), .val (.int item), .val (.ref b2), .val (.ref b217), .val (.int (-1 : Int32)), .unset, .unset] [(.int (1 : Int32)), (.int (3 : Int32))])
        refine own_via ?_ fun _ kt => XS.icmpNo X225.here hx rfl (hb hby at_142) rfl (tlt (by decide : ((1 : Int32) < (3 : Int32)))).2.2.2 kt
        show Go _ _ _ _ _ _ _ _ (mkF m 145 #[.val (.int sel), .val (.int a), .val (.int b), .val (.int c_), .val (.int x_), .val (.int (3 : Int32)), .val (.int pk), .val (.int item), .val (.ref b2), .val (.ref b217), .val (.int (-1 : Int32)), .unset, .unset] [])
        refine own_via ?_ fun _ kt => XS.iloadN X225.here hx rfl (hb hby at_145) rfl kt
        show Go _ _ _ _ _ _ _ _ (mkF m 146 #[.val (.int sel), .val (.int a), .val (.int b), .val (.int c_), .val (.int x_), .val (.int (3 : Int32)), .val (.int pk), .val (.int item), .val (.ref b2), .val (.ref b217), .val (.int (-1 : Int32)), .unset, .unset] [(.int b)])
        refine own_via ?_ fun _ kt => XS.iload X225.here hx rfl (hb hby at_146) rfl kt
        show Go _ _ _ _ _ _ _ _ (mkF m 148 #[.val (.int sel), .val (.int a), .val (.int b), .val (.int c_), .val (.int x_), .val (.int (3 : Int32)), .val (.int pk), .val (.int item), .val (.ref b2), .val (.ref b217), .val (.int (-1 : Int32)), .unset, .unset] [(.int item), (.int b)])
        refine own_via ?_ fun _ kt => XS.icmpNo X225.here hx rfl (hb hby at_148) rfl (teq hv180_1).2 kt
        show Go _ _ _ _ _ _ _ _ (mkF m 151 #[.val (.int sel), .val (.int a), .val (.int b), .val (.int c_), .val (.int x_), .val (.int (3 : Int32)), .val (.int pk), .val (.int item), .val (.ref b2), .val (.ref b217), .val (.int (-1 : Int32)), .unset, .unset] [])
        refine own_via ?_ fun _ kt => XS.iconst X225.here hx rfl (hb hby at_151) kt
        show Go _ _ _ _ _ _ _ _ (mkF m 152 #[.val (.int sel), .val (.int a), .val (.int b), .val (.int c_), .val (.int x_), .val (.int (3 : Int32)), .val (.int pk), .val (.int item), .val (.ref b2), .val (.ref b217), .val (.int (-1 : Int32)), .unset, .unset] [(.int (1 : Int32))])
        refine own_via ?_ fun _ kt => XS.istore X225.here hx rfl (hb hby at_152) rfl (l' := #[.val (.int sel), .val (.int a), .val (.int b), .val (.int c_), .val (.int x_), .val (.int (3 : Int32)), .val (.int pk), .val (.int item), .val (.ref b2), .val (.ref b217), .val (.int (1 : Int32)), .unset, .unset]) rfl kt
        show Go _ _ _ _ _ _ _ _ (mkF m 154 #[.val (.int sel), .val (.int a), .val (.int b), .val (.int c_), .val (.int x_), .val (.int (3 : Int32)), .val (.int pk), .val (.int item), .val (.ref b2), .val (.ref b217), .val (.int (1 : Int32)), .unset, .unset] [])
        refine own_via ?_ fun _ kt => XS.goto X225.here hx rfl (pc0 := 154) (pc' := 172) rfl (hb hby at_154) (by decide) (by decide) kt
        show Go _ _ _ _ _ _ _ _ (mkF m 172 #[.val (.int sel), .val (.int a), .val (.int b), .val (.int c_), .val (.int x_), .val (.int (3 : Int32)), .val (.int pk), .val (.int item), .val (.ref b2), .val (.ref b217), .val (.int (1 : Int32)), .unset, .unset] [])
        refine own_via ?_ fun _ kt => XS.iconst X225.here hx rfl (hb hby at_172) kt
        show Go _ _ _ _ _ _ _ _ (mkF m 173 #[.val (.int sel), .val (.int a), .val (.int b), .val (.int c_), .val (.int x_), .val (.int (3 : Int32)), .val (.int pk), .val (.int item), .val (.ref b2), .val (.ref b217), .val (.int (1 : Int32)), .unset, .unset] [(.int (3 : Int32))])
        obtain ⟨T226, h226, k226, X226, e226, E226, A226, st226⟩ := newP X225 hx hZ (hw _ (List.mem_of_getElem? (i := 20) rfl)) e225 (g := (mkF m 173 #[.val (.int sel), .val (.int a), .val (.int b), .val (.int c_), .val (.int x_), .val (.int (3 : Int32)), .val (.int pk), .val (.int item), .val (.ref b2), .val (.ref b217), .val (.int (1 : Int32)), .unset, .unset] [(.int (3 : Int32))])) rfl (hb hby at_173) rfl (by decide) (cap := 3) (by decide) (by decide) (by decide) (by decide)
        obtain ⟨b226, g226⟩ : ∃ z, z = h225.size := ⟨_, rfl⟩
        rw [← g226] at A226 st226
        have ne227 : b2 ≠ b226 := by rw [g226]; exact Nat.ne_of_lt p180_E.lt
        have ne228 : ba ≠ b226 := by rw [g226]; exact Nat.ne_of_lt p180_V.lt
        have ne229 : b217 ≠ b226 := by rw [g226]; exact Nat.ne_of_lt V225.lt
        have g_b226 : n0 ≤ b226 := by rw [g226]; exact Z0
        replace p180_E := p180_E.ext E226
        replace p180_Fs := p180_Fs.ext E226
        replace p180_Fi := p180_Fi.ext E226
        replace p180_V := p180_V.ext E226
        replace V225 := V225.ext E226
        replace Z0 := Nat.le_trans Z0 E226.1
        replace O := O.ext E226
        have V226 : Arv Z h226 b226 k226 .int (3 : Int32) [(.int (0 : Int32)), (.int (0 : Int32)), (.int (0 : Int32))] (.int (0 : Int32)) := (Arv.new A226 (by decide)).pad (pad_rep [] (.int (0 : Int32)) 3)
        refine own_via ?_ st226
        show Go _ _ _ _ _ _ _ _ (mkF m 175 #[.val (.int sel), .val (.int a), .val (.int b), .val (.int c_), .val (.int x_), .val (.int (3 : Int32)), .val (.int pk), .val (.int item), .val (.ref b2), .val (.ref b217), .val (.int (1 : Int32)), .unset, .unset] [(.ref b226)])
        refine own_via ?_ fun _ kt => XS.dup X226.here hx rfl (hb hby at_175) rfl rfl kt
        show Go _ _ _ _ _ _ _ _ (mkF m 176 #[.val (.int sel), .val (.int a), .val (.int b), .val (.int c_), .val (.int x_), .val (.int (3 : Int32)), .val (.int pk), .val (.int item), .val (.ref b2), .val (.ref b217), .val (.int (1 : Int32)), .unset, .unset] [(.ref b226), (.ref b226)])
        refine own_via ?_ fun _ kt => XS.iconst X226.here hx rfl (hb hby at_176) kt
        show Go _ _ _ _ _ _ _ _ (mkF m 177 #[.val (.int sel), .val (.int a), .val (.int b), .val (.int c_), .val (.int x_), .val (.int (3 : Int32)), .val (.int pk), .val (.int item), .val (.ref b2), .val (.ref b217), .val (.int (1 : Int32)), .unset, .unset] [(.int (0 : Int32)), (.ref b226), (.ref b226)])
        refine own_via ?_ fun _ kt => XS.iloadN X226.here hx rfl (hb hby at_177) rfl kt
        show Go _ _ _ _ _ _ _ _ (mkF m 178 #[.val (.int sel), .val (.int a), .val (.int b), .val (.int c_), .val (.int x_), .val (.int (3 : Int32)), .val (.int pk), .val (.int item), .val (.ref b2), .val (.ref b217), .val (.int (1 : Int32)), .unset, .unset] [(.int a), (.int (0 : Int32)), (.ref b226), (.ref b226)])
        obtain ⟨cl230, Ar230, Aq230, AS230, AN230, AH230, AG230⟩ := V226
        have hin231 : ¬ ((0 : Int32) < 0 ∨ cl230.slots.size ≤ ((0 : Int32)).toNatClampNeg) := (inb_of AS230 ⟨by decide, by decide⟩)
        obtain ⟨T231, h231, X231, e231, W231, st231⟩ := stI X226 hx hZ e226 Ar230 (j := (0 : Int32)) hin231 (g := (mkF m 178 #[.val (.int sel), .val (.int a), .val (.int b), .val (.int c_), .val (.int x_), .val (.int (3 : Int32)), .val (.int pk), .val (.int item), .val (.ref b2), .val (.ref b217), .val (.int (1 : Int32)), .unset, .unset] [(.int a), (.int (0 : Int32)), (.ref b226), (.ref b226)])) rfl rfl (hb hby at_178)
        have N231 := Fr.snoc X231 N225 g_b226
        have V231 : Arv Z h231 b226 k226 .int (3 : Int32) [(.int a), (.int (0 : Int32)), (.int (0 : Int32))] (.int (0 : Int32)) := Arv.set Ar230 Aq230 AS230 AN230 AH230 AG230 rfl W231 0 rfl (Nat.le_of_ble_eq_true rfl)
        replace p180_E := p180_E.wr W231
        replace p180_Fs := p180_Fs.other W231 (Or.inl ne227)
        replace p180_Fi := p180_Fi.other W231 (Or.inl ne227)
        replace p180_V := p180_V.other W231 ne228
        replace V225 := V225.other W231 ne229
        replace Z0 := Nat.le_trans Z0 (Keep.of_wr W231).1
        replace O := O.wr W231 g_b226
        refine own_via ?_ st231
        show Go _ _ _ _ _ _ _ _ (mkF m 179 #[.val (.int sel), .val (.int a), .val (.int b), .val (.int c_), .val (.int x_), .val (.int (3 : Int32)), .val (.int pk), .val (.int item), .val (.ref b2), .val (.ref b217), .val (.int (1 : Int32)), .unset, .unset] [(.ref b226)])
        refine own_via ?_ fun _ kt => XS.dup X231.here hx rfl (hb hby at_179) rfl rfl kt
        show Go _ _ _ _ _ _ _ _ (mkF m 180 #[.val (.int sel), .val (.int a), .val (.int b), .val (.int c_), .val (.int x_), .val (.int (3 : Int32)), .val (.int pk), .val (.int item), .val (.ref b2), .val (.ref b217), .val (.int (1 : Int32)), .unset, .unset] [(.ref b226), (.ref b226)])
        refine own_via ?_ fun _ kt => XS.iconst X231.here hx rfl (hb hby at_180) kt
        show Go _ _ _ _ _ _ _ _ (mkF m 181 #[.val (.int sel), .val (.int a), .val (.int b), .val (.int c_), .val (.int x_), .val (.int (3 : Int32)), .val (.int pk), .val (.int item), .val (.ref b2), .val (.ref b217), .val (.int (1 : Int32)), .unset, .unset] [(.int (1 : Int32)), (.ref b226), (.ref b226)])
        refine own_via ?_ fun _ kt => XS.iloadN X231.here hx rfl (hb hby at_181) rfl kt
        show Go _ _ _ _ _ _ _ _ (mkF m 182 #[.val (.int sel), .val (.int a), .val (.int b), .val (.int c_), .val (.int x_), .val (.int (3 : Int32)), .val (.int pk), .val (.int item), .val (.ref b2), .val (.ref b217), .val (.int (1 : Int32)), .unset, .unset] [(.int b), (.int (1 : Int32)), (.ref b226), (.ref b226)])
        obtain ⟨cl232, Ar232, Aq232, AS232, AN232, AH232, AG232⟩ := V231
        have hin233 : ¬ ((1 : Int32) < 0 ∨ cl232.slots.size ≤ ((1 : Int32)).toNatClampNeg) := (inb_of AS232 ⟨by decide, by decide⟩)
        obtain ⟨T233, h233, X233, e233, W233, st233⟩ := stI X231 hx hZ e231 Ar232 (j := (1 : Int32)) hin233 (g := (mkF m 182 #[.val (.int sel), .val (.int a), .val (.int b), .val (.int c_), .val (.int x_), .val (.int (3 : Int32)), .val (.int pk), .val (.int item), .val (.ref b2), .val (.ref b217), .val (.int (1 : Int32)), .unset, .unset] [(.int b), (.int (1 : Int32)), (.ref b226), (.ref b226)])) rfl rfl (hb hby at_182)
        have N233 := Fr.snoc X233 N231 g_b226
        have V233 : Arv Z h233 b226 k226 .int (3 : Int32) [(.int a), (.int b), (.int (0 : Int32))] (.int (0 : Int32)) := Arv.set Ar232 Aq232 AS232 AN232 AH232 AG232 rfl W233 1 rfl (Nat.le_of_ble_eq_true rfl)
        replace p180_E := p180_E.wr W233
        replace p180_Fs := p180_Fs.other W233 (Or.inl ne227)
        replace p180_Fi := p180_Fi.other W233 (Or.inl ne227)
        replace p180_V := p180_V.other W233 ne228
        replace V225 := V225.other W233 ne229
        replace Z0 := Nat.le_trans Z0 (Keep.of_wr W233).1
        replace O := O.wr W233 g_b226
        refine own_via ?_ st233
        show Go _ _ _ _ _ _ _ _ (mkF m 183 #[.val (.int sel), .val (.int a), .val (.int b), .val (.int c_), .val (.int x_), .val (.int (3 : Int32)), .val (.int pk), .val (.int item), .val (.ref b2), .val (.ref b217), .val (.int (1 : Int32)), .unset, .unset] [(.ref b226)])
        refine own_via ?_ fun _ kt => XS.dup X233.here hx rfl (hb hby at_183) rfl rfl kt
        show Go _ _ _ _ _ _ _ _ (mkF m 184 #[.val (.int sel), .val (.int a), .val (.int b), .val (.int c_), .val (.int x_), .val (.int (3 : Int32)), .val (.int pk), .val (.int item), .val (.ref b2), .val (.ref b217), .val (.int (1 : Int32)), .unset, .unset] [(.ref b226), (.ref b226)])
        refine own_via ?_ fun _ kt => XS.iconst X233.here hx rfl (hb hby at_184) kt
        show Go _ _ _ _ _ _ _ _ (mkF m 185 #[.val (.int sel), .val (.int a), .val (.int b), .val (.int c_), .val (.int x_), .val (.int (3 : Int32)), .val (.int pk), .val (.int item), .val (.ref b2), .val (.ref b217), .val (.int (1 : Int32)), .unset, .unset] [(.int (2 : Int32)), (.ref b226), (.ref b226)])
        refine own_via ?_ fun _ kt => XS.iloadN X233.here hx rfl (hb hby at_185) rfl kt
        show Go _ _ _ _ _ _ _ _ (mkF m 186 #[.val (.int sel), .val (.int a), .val (.int b), .val (.int c_), .val (.int x_), .val (.int (3 : Int32)), .val (.int pk), .val (.int item), .val (.ref b2), .val (.ref b217), .val (.int (1 : Int32)), .unset, .unset] [(.int c_), (.int (2 : Int32)), (.ref b226), (.ref b226)])
        obtain ⟨cl234, Ar234, Aq234, AS234, AN234, AH234, AG234⟩ := V233
        have hin235 : ¬ ((2 : Int32) < 0 ∨ cl234.slots.size ≤ ((2 : Int32)).toNatClampNeg) := (inb_of AS234 ⟨by decide, by decide⟩)
        obtain ⟨T235, h235, X235, e235, W235, st235⟩ := stI X233 hx hZ e233 Ar234 (j := (2 : Int32)) hin235 (g := (mkF m 186 #[.val (.int sel), .val (.int a), .val (.int b), .val (.int c_), .val (.int x_), .val (.int (3 : Int32)), .val (.int pk), .val (.int item), .val (.ref b2), .val (.ref b217), .val (.int (1 : Int32)), .unset, .unset] [(.int c_), (.int (2 : Int32)), (.ref b226), (.ref b226)])) rfl rfl (hb hby at_186)
        have N235 := Fr.snoc X235 N233 g_b226
        have V235 : Arv Z h235 b226 k226 .int (3 : Int32) [(.int a), (.int b), (.int c_)] (.int (0 : Int32)) := Arv.set Ar234 Aq234 AS234 AN234 AH234 AG234 rfl W235 2 rfl (Nat.le_of_ble_eq_true rfl)
        replace p180_E := p180_E.wr W235
        replace p180_Fs := p180_Fs.other W235 (Or.inl ne227)
        replace p180_Fi := p180_Fi.other W235 (Or.inl ne227)
        replace p180_V := p180_V.other W235 ne228
        replace V225 := V225.other W235 ne229
        replace Z0 := Nat.le_trans Z0 (Keep.of_wr W235).1
        replace O := O.wr W235 g_b226
        refine own_via ?_ st235
        show Go _ _ _ _ _ _ _ _ (mkF m 187 #[.val (.int sel), .val (.int a), .val (.int b), .val (.int c_), .val (.int x_), .val (.int (3 : Int32)), .val (.int pk), .val (.int item), .val (.ref b2), .val (.ref b217), .val (.int (1 : Int32)), .unset, .unset] [(.ref b226)])
        refine own_via ?_ fun _ kt => XS.astore X235.here hx rfl (hb hby at_187) rfl rfl (l' := #[.val (.int sel), .val (.int a), .val (.int b), .val (.int c_), .val (.int x_), .val (.int (3 : Int32)), .val (.int pk), .val (.int item), .val (.ref b2), .val (.ref b217), .val (.int (1 : Int32)), .val (.ref b226), .unset]) rfl kt
        show Go _ _ _ _ _ _ _ _ (mkF m 189 #[.val (.int sel), .val (.int a), .val (.int b), .val (.int c_), .val (.int x_), .val (.int (3 : Int32)), .val (.int pk), .val (.int item), .val (.ref b2), .val (.ref b217), .val (.int (1 : Int32)), .val (.ref b226), .unset] [])
        refine own_via ?_ fun _ kt => XS.iload X235.here hx rfl (hb hby at_189) rfl kt
        show Go _ _ _ _ _ _ _ _ (mkF m 191 #[.val (.int sel), .val (.int a), .val (.int b), .val (.int c_), .val (.int x_), .val (.int (3 : Int32)), .val (.int pk), .val (.int item), .val (.ref b2), .val (.ref b217), .val (.int (1 : Int32)), .val (.ref b226), .unset] [(.int (3 : Int32))])
        refine own_via ?_ fun _ kt => XS.istore X235.here hx rfl (hb hby at_191) rfl (l' := #[.val (.int sel), .val (.int a), .val (.int b), .val (.int c_), .val (.int x_), .val (.int (3 : Int32)), .val (.int pk), .val (.int item), .val (.ref b2), .val (.ref b217), .val (.int (1 : Int32)), .val (.ref b226), .val (.int (3 : Int32))]) rfl kt
        show Go _ _ _ _ _ _ _ _ (mkF m 193 #[.val (.int sel), .val (.int a), .val (.int b), .val (.int c_), .val (.int x_), .val (.int (3 : Int32)), .val (.int pk), .val (.int item), .val (.ref b2), .val (.ref b217), .val (.int (1 : Int32)), .val (.ref b226), .val (.int (3 : Int32))] [])
        refine own_via ?_ fun _ kt => XS.iload X235.here hx rfl (hb hby at_193) rfl kt
        show Go _ _ _ _ _ _ _ _ (mkF m 195 #[.val (.int sel), .val (.int a), .val (.int b), .val (.int c_), .val (.int x_), .val (.int (3 : Int32)), .val (.int pk), .val (.int item), .val (.ref b2), .val (.ref b217), .val (.int (1 : Int32)), .val (.ref b226), .val (.int (3 : Int32))] [(.int (1 : Int32))])
        refine own_via ?_ fun _ kt => XS.ifNo X235.here hx rfl (hb hby at_195) rfl ((if0 _ _).trans (flt (by decide : ¬ ((1 : Int32) < (0 : Int32)))).1) kt
        show Go _ _ _ _ _ _ _ _ (mkF m 198 #[.val (.int sel), .val (.int a), .val (.int b), .val (.int c_), .val (.int x_), .val (.int (3 : Int32)), .val (.int pk), .val (.int item), .val (.ref b2), .val (.ref b217), .val (.int (1 : Int32)), .val (.ref b226), .val (.int (3 : Int32))] [])
        refine own_via ?_ fun _ kt => XS.iload X235.here hx rfl (hb hby at_198) rfl kt
        show Go _ _ _ _ _ _ _ _ (mkF m 200 #[.val (.int sel), .val (.int a), .val (.int b), .val (.int c_), .val (.int x_), .val (.int (3 : Int32)), .val (.int pk), .val (.int item), .val (.ref b2), .val (.ref b217), .val (.int (1 : Int32)), .val (.ref b226), .val (.int (3 : Int32))] [(.int (3 : Int32))])
        refine own_via ?_ fun _ kt => XS.iconst X235.here hx rfl (hb hby at_200) kt
        show Go _ _ _ _ _ _ _ _ (mkF m 201 #[.val (.int sel), .val (.int a), .val (.int b), .val (.int c_), .val (.int x_), .val (.int (3 : Int32)), .val (.int pk), .val (.int item), .val (.ref b2), .val (.ref b217), .val (.int (1 : Int32)), .val (.ref b226), .val (.int (3 : Int32))] [(.int (1 : Int32)), (.int (3 : Int32))])
        refine own_via ?_ fun _ kt => XS.isub X235.here hx rfl (hb hby at_201) rfl kt
        show Go _ _ _ _ _ _ _ _ (mkF m 202 #[.val (.int sel), .val (.int a), .val (.int b), .val (.int c_), .val (.int x_), .val (.int (3 : Int32)), .val (.int pk), .val (.int item), .val (.ref b2), .val (.ref b217), .val (.int (1 : Int32)), .val (.ref b226), .val (.int (3 : Int32))] [(.int ((3 : Int32) - (1 : Int32)))])
        rw [show ((3 : Int32) - (1 : Int32)) = (2 : Int32) from by decide]
        show Go _ _ _ _ _ _ _ _ (mkF m 202 #[.val (.int sel), .val (.int a), .val (.int b), .val (.int c_), .val (.int x_), .val (.int (3 : Int32)), .val (.int pk), .val (.int item), .val (.ref b2), .val (.ref b217), .val (.int (1 : Int32)), .val (.ref b226), .val (.int (3 : Int32))] [(.int (2 : Int32))])
        refine own_via ?_ fun _ kt => XS.istore X235.here hx rfl (hb hby at_202) rfl (l' := #[.val (.int sel), .val (.int a), .val (.int b), .val (.int c_), .val (.int x_), .val (.int (3 : Int32)), .val (.int pk), .val (.int item), .val (.ref b2), .val (.ref b217), .val (.int (1 : Int32)), .val (.ref b226), .val (.int (2 : Int32))]) rfl kt
        show Go _ _ _ _ _ _ _ _ (mkF m 204 #[.val (.int sel), .val (.int a), .val (.int b), .val (.int c_), .val (.int x_), .val (.int (3 : Int32)), .val (.int pk), .val (.int item), .val (.ref b2), .val (.ref b217), .val (.int (1 : Int32)), .val (.ref b226), .val (.int (2 : Int32))] [])
        refine own_via ?_ fun _ kt => XS.aload X235.here hx rfl (hb hby at_204) rfl rfl kt
        show Go _ _ _ _ _ _ _ _ (mkF m 206 #[.val (.int sel), .val (.int a), .val (.int b), .val (.int c_), .val (.int x_), .val (.int (3 : Int32)), .val (.int pk), .val (.int item), .val (.ref b2), .val (.ref b217), .val (.int (1 : Int32)), .val (.ref b226), .val (.int (2 : Int32))] [(.ref b226)])
        refine own_via ?_ fun _ kt => XS.iload X235.here hx rfl (hb hby at_206) rfl kt
        show Go _ _ _ _ _ _ _ _ (mkF m 208 #[.val (.int sel), .val (.int a), .val (.int b), .val (.int c_), .val (.int x_), .val (.int (3 : Int32)), .val (.int pk), .val (.int item), .val (.ref b2), .val (.ref b217), .val (.int (1 : Int32)), .val (.ref b226), .val (.int (2 : Int32))] [(.int (1 : Int32)), (.ref b226)])
        refine own_via ?_ fun _ kt => XS.aload X235.here hx rfl (hb hby at_208) rfl rfl kt
        show Go _ _ _ _ _ _ _ _ (mkF m 210 #[.val (.int sel), .val (.int a), .val (.int b), .val (.int c_), .val (.int x_), .val (.int (3 : Int32)), .val (.int pk), .val (.int item), .val (.ref b2), .val (.ref b217), .val (.int (1 : Int32)), .val (.ref b226), .val (.int (2 : Int32))] [(.ref b217), (.int (1 : Int32)), (.ref b226)])
        refine own_via ?_ fun _ kt => XS.iload X235.here hx rfl (hb hby at_210) rfl kt
        show Go _ _ _ _ _ _ _ _ (mkF m 212 #[.val (.int sel), .val (.int a), .val (.int b), .val (.int c_), .val (.int x_), .val (.int (3 : Int32)), .val (.int pk), .val (.int item), .val (.ref b2), .val (.ref b217), .val (.int (1 : Int32)), .val (.ref b226), .val (.int (2 : Int32))] [(.int (3 : Int32)), (.ref b217), (.int (1 : Int32)), (.ref b226)])
        refine own_via ?_ fun _ kt => XS.iconst X235.here hx rfl (hb hby at_212) kt
        show Go _ _ _ _ _ _ _ _ (mkF m 213 #[.val (.int sel), .val (.int a), .val (.int b), .val (.int c_), .val (.int x_), .val (.int (3 : Int32)), .val (.int pk), .val (.int item), .val (.ref b2), .val (.ref b217), .val (.int (1 : Int32)), .val (.ref b226), .val (.int (2 : Int32))] [(.int (1 : Int32)), (.int (3 : Int32)), (.ref b217), (.int (1 : Int32)), (.ref b226)])
        refine own_via ?_ fun _ kt => XS.isub X235.here hx rfl (hb hby at_213) rfl kt
        show Go _ _ _ _ _ _ _ _ (mkF m 214 #[.val (.int sel), .val (.int a), .val (.int b), .val (.int c_), .val (.int x_), .val (.int (3 : Int32)), .val (.int pk), .val (.int item), .val (.ref b2), .val (.ref b217), .val (.int (1 : Int32)), .val (.ref b226), .val (.int (2 : Int32))] [(.int ((3 : Int32) - (1 : Int32))), (.ref b217), (.int (1 : Int32)), (.ref b226)])
        rw [show ((3 : Int32) - (1 : Int32)) = (2 : Int32) from by decide]
        show Go _ _ _ _ _ _ _ _ (mkF m 214 #[.val (.int sel), .val (.int a), .val (.int b), .val (.int c_), .val (.int x_), .val (.int (3 : Int32)), .val (.int pk), .val (.int item), .val (.ref b2), .val (.ref b217), .val (.int (1 : Int32)), .val (.ref b226), .val (.int (2 : Int32))] [(.int (2 : Int32)), (.ref b217), (.int (1 : Int32)), (.ref b226)])
        obtain ⟨cl236, Ar236, Aq236, AS236, AN236, AH236, AG236⟩ := V225
        have V225 : Arv Z h235 b217 k217 .int (3 : Int32) [(.int a), (.int b), (.int c_)] (.int (0 : Int32)) := ⟨cl236, Ar236, Aq236, AS236, AN236, AH236, AG236⟩
        have hin237 : ¬ ((2 : Int32) < 0 ∨ cl236.slots.size ≤ ((2 : Int32)).toNatClampNeg) := (inb_of AS236 ⟨by decide, by decide⟩)
        have hat237 : cl236.slots[((2 : Int32)).toNatClampNeg]? = some (.int c_) := (AH236.at hin237 rfl)
        refine own_via ?_ fun _ kt => X235.iaload hx (j := (2 : Int32)) (v := (.int c_)) (by rw [e235]; exact Ar236.1) (State.isArrayOf_alike hZ.alike Ar236.2.1) Ar236.2.2 hin237 hat237 (g := (mkF m 214 #[.val (.int sel), .val (.int a), .val (.int b), .val (.int c_), .val (.int x_), .val (.int (3 : Int32)), .val (.int pk), .val (.int item), .val (.ref b2), .val (.ref b217), .val (.int (1 : Int32)), .val (.ref b226), .val (.int (2 : Int32))] [(.int (2 : Int32)), (.ref b217), (.int (1 : Int32)), (.ref b226)])) rfl rfl (hb hby at_214) _ kt
        show Go _ _ _ _ _ _ _ _ (mkF m 215 #[.val (.int sel), .val (.int a), .val (.int b), .val (.int c_), .val (.int x_), .val (.int (3 : Int32)), .val (.int pk), .val (.int item), .val (.ref b2), .val (.ref b217), .val (.int (1 : Int32)), .val (.ref b226), .val (.int (2 : Int32))] [(.int c_), (.int (1 : Int32)), (.ref b226)])
        obtain ⟨cl238, Ar238, Aq238, AS238, AN238, AH238, AG238⟩ := V235
        have hin239 : ¬ ((1 : Int32) < 0 ∨ cl238.slots.size ≤ ((1 : Int32)).toNatClampNeg) := (inb_of AS238 ⟨by decide, by decide⟩)
        obtain ⟨T239, h239, X239, e239, W239, st239⟩ := stI X235 hx hZ e235 Ar238 (j := (1 : Int32)) hin239 (g := (mkF m 215 #[.val (.int sel), .val (.int a), .val (.int b), .val (.int c_), .val (.int x_), .val (.int (3 : Int32)), .val (.int pk), .val (.int item), .val (.ref b2), .val (.ref b217), .val (.int (1 : Int32)), .val (.ref b226), .val (.int (2 : Int32))] [(.int c_), (.int (1 : Int32)), (.ref b226)])) rfl rfl (hb hby at_215)
        have N239 := Fr.snoc X239 N235 g_b226
        have V239 : Arv Z h239 b226 k226 .int (3 : Int32) [(.int a), (.int c_), (.int c_)] (.int (0 : Int32)) := Arv.set Ar238 Aq238 AS238 AN238 AH238 AG238 rfl W239 1 rfl (Nat.le_of_ble_eq_true rfl)
        replace p180_E := p180_E.wr W239
        replace p180_Fs := p180_Fs.other W239 (Or.inl ne227)
        replace p180_Fi := p180_Fi.other W239 (Or.inl ne227)
        replace p180_V := p180_V.other W239 ne228
        replace V225 := V225.other W239 ne229
        replace Z0 := Nat.le_trans Z0 (Keep.of_wr W239).1
        replace O := O.wr W239 g_b226
        refine own_via ?_ st239
        show Go _ _ _ _ _ _ _ _ (mkF m 216 #[.val (.int sel), .val (.int a), .val (.int b), .val (.int c_), .val (.int x_), .val (.int (3 : Int32)), .val (.int pk), .val (.int item), .val (.ref b2), .val (.ref b217), .val (.int (1 : Int32)), .val (.ref b226), .val (.int (2 : Int32))] [])
        refine own_via ?_ fun _ kt => XS.aload X239.here hx rfl (hb hby at_216) rfl rfl kt
        show Go _ _ _ _ _ _ _ _ (mkF m 218 #[.val (.int sel), .val (.int a), .val (.int b), .val (.int c_), .val (.int x_), .val (.int (3 : Int32)), .val (.int pk), .val (.int item), .val (.ref b2), .val (.ref b217), .val (.int (1 : Int32)), .val (.ref b226), .val (.int (2 : Int32))] [(.ref b2)])
        obtain ⟨T240, X240, e240, st240⟩ := getF X239 hx hZ hown (host := "") (Or.inl (hw _ (List.mem_of_getElem? (i := 21) rfl))) Via.refl e239 p180_Fs (g := (mkF m 218 #[.val (.int sel), .val (.int a), .val (.int b), .val (.int c_), .val (.int x_), .val (.int (3 : Int32)), .val (.int pk), .val (.int item), .val (.ref b2), .val (.ref b217), .val (.int (1 : Int32)), .val (.ref b226), .val (.int (2 : Int32))] [(.ref b2)])) rfl rfl (hb hby at_218)
        refine own_via ?_ st240
        show Go _ _ _ _ _ _ _ _ (mkF m 221 #[.val (.int sel), .val (.int a), .val (.int b), .val (.int c_), .val (.int x_), .val (.int (3 : Int32)), .val (.int pk), .val (.int item), .val (.ref b2), .val (.ref b217), .val (.int (1 : Int32)), .val (.ref b226), .val (.int (2 : Int32))] [(.int (2 : Int32))])
        refine own_via ?_ fun _ kt => XS.iload X240.here hx rfl (hb hby at_221) rfl kt
        show Go _ _ _ _ _ _ _ _ (mkF m 223 #[.val (.int sel), .val (.int a), .val (.int b), .val (.int c_), .val (.int x_), .val (.int (3 : Int32)), .val (.int pk), .val (.int item), .val (.ref b2), .val (.ref b217), .val (.int (1 : Int32)), .val (.ref b226), .val (.int (2 : Int32))] [(.int (2 : Int32)), (.int (2 : Int32))])
        refine own_via ?_ fun _ kt => XS.icmpYes X240.here hx rfl (pc0 := 223) (pc' := 228) rfl (hb hby at_223) rfl (teq rfl).1 (by decide) (by decide) kt
        show Go _ _ _ _ _ _ _ _ (mkF m 228 #[.val (.int sel), .val (.int a), .val (.int b), .val (.int c_), .val (.int x_), .val (.int (3 : Int32)), .val (.int pk), .val (.int item), .val (.ref b2), .val (.ref b217), .val (.int (1 : Int32)), .val (.ref b226), .val (.int (2 : Int32))] [])
        refine own_via ?_ fun _ kt => XS.aload X240.here hx rfl (hb hby at_228) rfl rfl kt
        show Go _ _ _ _ _ _ _ _ (mkF m 230 #[.val (.int sel), .val (.int a), .val (.int b), .val (.int c_), .val (.int x_), .val (.int (3 : Int32)), .val (.int pk), .val (.int item), .val (.ref b2), .val (.ref b217), .val (.int (1 : Int32)), .val (.ref b226), .val (.int (2 : Int32))] [(.ref b2)])
        obtain ⟨T241, X241, e241, st241⟩ := getF X240 hx hZ hown (host := "") (Or.inl (hw _ (List.mem_of_getElem? (i := 22) rfl))) Via.refl e240 p180_Fi (g := (mkF m 230 #[.val (.int sel), .val (.int a), .val (.int b), .val (.int c_), .val (.int x_), .val (.int (3 : Int32)), .val (.int pk), .val (.int item), .val (.ref b2), .val (.ref b217), .val (.int (1 : Int32)), .val (.ref b226), .val (.int (2 : Int32))] [(.ref b2)])) rfl rfl (hb hby at_230)
        refine own_via ?_ st241
        show Go _ _ _ _ _ _ _ _ (mkF m 233 #[.val (.int sel), .val (.int a), .val (.int b), .val (.int c_), .val (.int x_), .val (.int (3 : Int32)), .val (.int pk), .val (.int item), .val (.ref b2), .val (.ref b217), .val (.int (1 : Int32)), .val (.ref b226), .val (.int (2 : Int32))] [(.ref ba)])
        obtain ⟨cl242, Ar242, Aq242, AS242, AN242, AH242, AG242⟩ := p180_V
        have p180_V : Arv Z h239 ba ka .int (4 : Int32) [(.int a), (.int c_), (.int c_), (.int (0 : Int32))] (.int (0 : Int32)) := ⟨cl242, Ar242, Aq242, AS242, AN242, AH242, AG242⟩
        refine own_via ?_ fun _ kt => X241.arraylength hx (by rw [e241]; exact Ar242.1) (State.isArrayOf_alike hZ.alike Ar242.2.1) (g := (mkF m 233 #[.val (.int sel), .val (.int a), .val (.int b), .val (.int c_), .val (.int x_), .val (.int (3 : Int32)), .val (.int pk), .val (.int item), .val (.ref b2), .val (.ref b217), .val (.int (1 : Int32)), .val (.ref b226), .val (.int (2 : Int32))] [(.ref ba)])) rfl rfl (hb hby at_233) _ kt
        rw [len_of AS242 AN242]
        show Go _ _ _ _ _ _ _ _ (mkF m 234 #[.val (.int sel), .val (.int a), .val (.int b), .val (.int c_), .val (.int x_), .val (.int (3 : Int32)), .val (.int pk), .val (.int item), .val (.ref b2), .val (.ref b217), .val (.int (1 : Int32)), .val (.ref b226), .val (.int (2 : Int32))] [(.int (4 : Int32))])
        refine own_via ?_ fun _ kt => XS.iload X241.here hx rfl (hb hby at_234) rfl kt
        show Go _ _ _ _ _ _ _ _ (mkF m 236 #[.val (.int sel), .val (.int a), .val (.int b), .val (.int c_), .val (.int x_), .val (.int (3 : Int32)), .val (.int pk), .val (.int item), .val (.ref b2), .val (.ref b217), .val (.int (1 : Int32)), .val (.ref b226), .val (.int (2 : Int32))] [(.int (2 : Int32)), (.int (4 : Int32))])
        refine own_via ?_ fun _ kt => XS.icmpYes X241.here hx rfl (pc0 := 236) (pc' := 241) rfl (hb hby at_236) rfl (flt (by decide : ¬ ((4 : Int32) < (2 : Int32)))).2.1 (by decide) (by decide) kt
        show Go _ _ _ _ _ _ _ _ (mkF m 241 #[.val (.int sel), .val (.int a), .val (.int b), .val (.int c_), .val (.int x_), .val (.int (3 : Int32)), .val (.int pk), .val (.int item), .val (.ref b2), .val (.ref b217), .val (.int (1 : Int32)), .val (.ref b226), .val (.int (2 : Int32))] [])
        refine own_via ?_ fun _ kt => XS.iload X241.here hx rfl (hb hby at_241) rfl kt
        show Go _ _ _ _ _ _ _ _ (mkF m 243 #[.val (.int sel), .val (.int a), .val (.int b), .val (.int c_), .val (.int x_), .val (.int (3 : Int32)), .val (.int pk), .val (.int item), .val (.ref b2), .val (.ref b217), .val (.int (1 : Int32)), .val (.ref b226), .val (.int (2 : Int32))] [(.int (2 : Int32))])
        refine own_via ?_ fun _ kt => XS.ifNo X241.here hx rfl (hb hby at_243) rfl ((if0 _ _).trans (tlt (by decide : ((0 : Int32) < (2 : Int32)))).2.2.2) kt
        show Go _ _ _ _ _ _ _ _ (mkF m 246 #[.val (.int sel), .val (.int a), .val (.int b), .val (.int c_), .val (.int x_), .val (.int (3 : Int32)), .val (.int pk), .val (.int item), .val (.ref b2), .val (.ref b217), .val (.int (1 : Int32)), .val (.ref b226), .val (.int (2 : Int32))] [])
        refine own_via ?_ fun _ kt => XS.aload X241.here hx rfl (hb hby at_246) rfl rfl kt
        show Go _ _ _ _ _ _ _ _ (mkF m 248 #[.val (.int sel), .val (.int a), .val (.int b), .val (.int c_), .val (.int x_), .val (.int (3 : Int32)), .val (.int pk), .val (.int item), .val (.ref b2), .val (.ref b217), .val (.int (1 : Int32)), .val (.ref b226), .val (.int (2 : Int32))] [(.ref b2)])
        obtain ⟨T243, X243, e243, st243⟩ := getF X241 hx hZ hown (host := "") (Or.inl (hw _ (List.mem_of_getElem? (i := 22) rfl))) Via.refl e241 p180_Fi (g := (mkF m 248 #[.val (.int sel), .val (.int a), .val (.int b), .val (.int c_), .val (.int x_), .val (.int (3 : Int32)), .val (.int pk), .val (.int item), .val (.ref b2), .val (.ref b217), .val (.int (1 : Int32)), .val (.ref b226), .val (.int (2 : Int32))] [(.ref b2)])) rfl rfl (hb hby at_248)
        refine own_via ?_ st243
        show Go _ _ _ _ _ _ _ _ (mkF m 251 #[.val (.int sel), .val (.int a), .val (.int b), .val (.int c_), .val (.int x_), .val (.int (3 : Int32)), .val (.int pk), .val (.int item), .val (.ref b2), .val (.ref b217), .val (.int (1 : Int32)), .val (.ref b226), .val (.int (2 : Int32))] [(.ref ba)])
        refine own_via ?_ fun _ kt => XS.iconst X243.here hx rfl (hb hby at_251) kt
        show Go _ _ _ _ _ _ _ _ (mkF m 252 #[.val (.int sel), .val (.int a), .val (.int b), .val (.int c_), .val (.int x_), .val (.int (3 : Int32)), .val (.int pk), .val (.int item), .val (.ref b2), .val (.ref b217), .val (.int (1 : Int32)), .val (.ref b226), .val (.int (2 : Int32))] [(.int (0 : Int32)), (.ref ba)])
        obtain ⟨cl244, Ar244, Aq244, AS244, AN244, AH244, AG244⟩ := p180_V
        have p180_V : Arv Z h239 ba ka .int (4 : Int32) [(.int a), (.int c_), (.int c_), (.int (0 : Int32))] (.int (0 : Int32)) := ⟨cl244, Ar244, Aq244, AS244, AN244, AH244, AG244⟩
        have hin245 : ¬ ((0 : Int32) < 0 ∨ cl244.slots.size ≤ ((0 : Int32)).toNatClampNeg) := (inb_of AS244 ⟨by decide, by decide⟩)
        have hat245 : cl244.slots[((0 : Int32)).toNatClampNeg]? = some (.int a) := (AH244.at hin245 rfl)
        refine own_via ?_ fun _ kt => X243.iaload hx (j := (0 : Int32)) (v := (.int a)) (by rw [e243]; exact Ar244.1) (State.isArrayOf_alike hZ.alike Ar244.2.1) Ar244.2.2 hin245 hat245 (g := (mkF m 252 #[.val (.int sel), .val (.int a), .val (.int b), .val (.int c_), .val (.int x_), .val (.int (3 : Int32)), .val (.int pk), .val (.int item), .val (.ref b2), .val (.ref b217), .val (.int (1 : Int32)), .val (.ref b226), .val (.int (2 : Int32))] [(.int (0 : Int32)), (.ref ba)])) rfl rfl (hb hby at_252) _ kt
        show Go _ _ _ _ _ _ _ _ (mkF m 253 #[.val (.int sel), .val (.int a), .val (.int b), .val (.int c_), .val (.int x_), .val (.int (3 : Int32)), .val (.int pk), .val (.int item), .val (.ref b2), .val (.ref b217), .val (.int (1 : Int32)), .val (.ref b226), .val (.int (2 : Int32))] [(.int a)])
        refine own_via ?_ fun _ kt => XS.aload X243.here hx rfl (hb hby at_253) rfl rfl kt
        show Go _ _ _ _ _ _ _ _ (mkF m 255 #[.val (.int sel), .val (.int a), .val (.int b), .val (.int c_), .val (.int x_), .val (.int (3 : Int32)), .val (.int pk), .val (.int item), .val (.ref b2), .val (.ref b217), .val (.int (1 : Int32)), .val (.ref b226), .val (.int (2 : Int32))] [(.ref b226), (.int a)])
        refine own_via ?_ fun _ kt => XS.iconst X243.here hx rfl (hb hby at_255) kt
        show Go _ _ _ _ _ _ _ _ (mkF m 256 #[.val (.int sel), .val (.int a), .val (.int b), .val (.int c_), .val (.int x_), .val (.int (3 : Int32)), .val (.int pk), .val (.int item), .val (.ref b2), .val (.ref b217), .val (.int (1 : Int32)), .val (.ref b226), .val (.int (2 : Int32))] [(.int (0 : Int32)), (.ref b226), (.int a)])
        obtain ⟨cl246, Ar246, Aq246, AS246, AN246, AH246, AG246⟩ := V239
        have V239 : Arv Z h239 b226 k226 .int (3 : Int32) [(.int a), (.int c_), (.int c_)] (.int (0 : Int32)) := ⟨cl246, Ar246, Aq246, AS246, AN246, AH246, AG246⟩
        have hin247 : ¬ ((0 : Int32) < 0 ∨ cl246.slots.size ≤ ((0 : Int32)).toNatClampNeg) := (inb_of AS246 ⟨by decide, by decide⟩)
        have hat247 : cl246.slots[((0 : Int32)).toNatClampNeg]? = some (.int a) := (AH246.at hin247 rfl)
        refine own_via ?_ fun _ kt => X243.iaload hx (j := (0 : Int32)) (v := (.int a)) (by rw [e243]; exact Ar246.1) (State.isArrayOf_alike hZ.alike Ar246.2.1) Ar246.2.2 hin247 hat247 (g := (mkF m 256 #[.val (.int sel), .val (.int a), .val (.int b), .val (.int c_), .val (.int x_), .val (.int (3 : Int32)), .val (.int pk), .val (.int item), .val (.ref b2), .val (.ref b217), .val (.int (1 : Int32)), .val (.ref b226), .val (.int (2 : Int32))] [(.int (0 : Int32)), (.ref b226), (.int a)])) rfl rfl (hb hby at_256) _ kt
        show Go _ _ _ _ _ _ _ _ (mkF m 257 #[.val (.int sel), .val (.int a), .val (.int b), .val (.int c_), .val (.int x_), .val (.int (3 : Int32)), .val (.int pk), .val (.int item), .val (.ref b2), .val (.ref b217), .val (.int (1 : Int32)), .val (.ref b226), .val (.int (2 : Int32))] [(.int a), (.int a)])
        refine own_via ?_ fun _ kt => XS.icmpYes X243.here hx rfl (pc0 := 257) (pc' := 262) rfl (hb hby at_257) rfl (teq rfl).1 (by decide) (by decide) kt
        show Go _ _ _ _ _ _ _ _ (mkF m 262 #[.val (.int sel), .val (.int a), .val (.int b), .val (.int c_), .val (.int x_), .val (.int (3 : Int32)), .val (.int pk), .val (.int item), .val (.ref b2), .val (.ref b217), .val (.int (1 : Int32)), .val (.ref b226), .val (.int (2 : Int32))] [])
        refine own_via ?_ fun _ kt => XS.iload X243.here hx rfl (hb hby at_262) rfl kt
        show Go _ _ _ _ _ _ _ _ (mkF m 264 #[.val (.int sel), .val (.int a), .val (.int b), .val (.int c_), .val (.int x_), .val (.int (3 : Int32)), .val (.int pk), .val (.int item), .val (.ref b2), .val (.ref b217), .val (.int (1 : Int32)), .val (.ref b226), .val (.int (2 : Int32))] [(.int (2 : Int32))])
        refine own_via ?_ fun _ kt => XS.iconst X243.here hx rfl (hb hby at_264) kt
        show Go _ _ _ _ _ _ _ _ (mkF m 265 #[.val (.int sel), .val (.int a), .val (.int b), .val (.int c_), .val (.int x_), .val (.int (3 : Int32)), .val (.int pk), .val (.int item), .val (.ref b2), .val (.ref b217), .val (.int (1 : Int32)), .val (.ref b226), .val (.int (2 : Int32))] [(.int (1 : Int32)), (.int (2 : Int32))])
        refine own_via ?_ fun _ kt => XS.icmpNo X243.here hx rfl (hb hby at_265) rfl (tlt (by decide : ((1 : Int32) < (2 : Int32)))).2.2.2 kt
        show Go _ _ _ _ _ _ _ _ (mkF m 268 #[.val (.int sel), .val (.int a), .val (.int b), .val (.int c_), .val (.int x_), .val (.int (3 : Int32)), .val (.int pk), .val (.int item), .val (.ref b2), .val (.ref b217), .val (.int (1 : Int32)), .val (.ref b226), .val (.int (2 : Int32))] [])
        refine own_via ?_ fun _ kt => XS.aload X243.here hx rfl (hb hby at_268) rfl rfl kt
        show Go _ _ _ _ _ _ _ _ (mkF m 270 #[.val (.int sel), .val (.int a), .val (.int b), .val (.int c_), .val (.int x_), .val (.int (3 : Int32)), .val (.int pk), .val (.int item), .val (.ref b2), .val (.ref b217), .val (.int (1 : Int32)), .val (.ref b226), .val (.int (2 : Int32))] [(.ref b2)])
        obtain ⟨T248, X248, e248, st248⟩ := getF X243 hx hZ hown (host := "") (Or.inl (hw _ (List.mem_of_getElem? (i := 22) rfl))) Via.refl e243 p180_Fi (g := (mkF m 270 #[.val (.int sel), .val (.int a), .val (.int b), .val (.int c_), .val (.int x_), .val (.int (3 : Int32)), .val (.int pk), .val (.int item), .val (.ref b2), .val (.ref b217), .val (.int (1 : Int32)), .val (.ref b226), .val (.int (2 : Int32))] [(.ref b2)])) rfl rfl (hb hby at_270)
        refine own_via ?_ st248
        show Go _ _ _ _ _ _ _ _ (mkF m 273 #[.val (.int sel), .val (.int a), .val (.int b), .val (.int c_), .val (.int x_), .val (.int (3 : Int32)), .val (.int pk), .val (.int item), .val (.ref b2), .val (.ref b217), .val (.int (1 : Int32)), .val (.ref b226), .val (.int (2 : Int32))] [(.ref ba)])
        refine own_via ?_ fun _ kt => XS.iconst X248.here hx rfl (hb hby at_273) kt
        show Go _ _ _ _ _ _ _ _ (mkF m 274 #[.val (.int sel), .val (.int a), .val (.int b), .val (.int c_), .val (.int x_), .val (.int (3 : Int32)), .val (.int pk), .val (.int item), .val (.ref b2), .val (.ref b217), .val (.int (1 : Int32)), .val (.ref b226), .val (.int (2 : Int32))] [(.int (1 : Int32)), (.ref ba)])
        obtain ⟨cl249, Ar249, Aq249, AS249, AN249, AH249, AG249⟩ := p180_V
        have p180_V : Arv Z h239 ba ka .int (4 : Int32) [(.int a), (.int c_), (.int c_), (.int (0 : Int32))] (.int (0 : Int32)) := ⟨cl249, Ar249, Aq249, AS249, AN249, AH249, AG249⟩
        have hin250 : ¬ ((1 : Int32) < 0 ∨ cl249.slots.size ≤ ((1 : Int32)).toNatClampNeg) := (inb_of AS249 ⟨by decide, by decide⟩)
        have hat250 : cl249.slots[((1 : Int32)).toNatClampNeg]? = some (.int c_) := (AH249.at hin250 rfl)
        refine own_via ?_ fun _ kt => X248.iaload hx (j := (1 : Int32)) (v := (.int c_)) (by rw [e248]; exact Ar249.1) (State.isArrayOf_alike hZ.alike Ar249.2.1) Ar249.2.2 hin250 hat250 (g := (mkF m 274 #[.val (.int sel), .val (.int a), .val (.int b), .val (.int c_), .val (.int x_), .val (.int (3 : Int32)), .val (.int pk), .val (.int item), .val (.ref b2), .val (.ref b217), .val (.int (1 : Int32)), .val (.ref b226), .val (.int (2 : Int32))] [(.int (1 : Int32)), (.ref ba)])) rfl rfl (hb hby at_274) _ kt
        show Go _ _ _ _ _ _ _ _ (mkF m 275 #[.val (.int sel), .val (.int a), .val (.int b), .val (.int c_), .val (.int x_), .val (.int (3 : Int32)), .val (.int pk), .val (.int item), .val (.ref b2), .val (.ref b217), .val (.int (1 : Int32)), .val (.ref b226), .val (.int (2 : Int32))] [(.int c_)])
        refine own_via ?_ fun _ kt => XS.aload X248.here hx rfl (hb hby at_275) rfl rfl kt
        show Go _ _ _ _ _ _ _ _ (mkF m 277 #[.val (.int sel), .val (.int a), .val (.int b), .val (.int c_), .val (.int x_), .val (.int (3 : Int32)), .val (.int pk), .val (.int item), .val (.ref b2), .val (.ref b217), .val (.int (1 : Int32)), .val (.ref b226), .val (.int (2 : Int32))] [(.ref b226), (.int c_)])
        refine own_via ?_ fun _ kt => XS.iconst X248.here hx rfl (hb hby at_277) kt
        show Go _ _ _ _ _ _ _ _ (mkF m 278 #[.val (.int sel), .val (.int a), .val (.int b), .val (.int c_), .val (.int x_), .val (.int (3 : Int32)), .val (.int pk), .val (.int item), .val (.ref b2), .val (.ref b217), .val (.int (1 : Int32)), .val (.ref b226), .val (.int (2 : Int32))] [(.int (1 : Int32)), (.ref b226), (.int c_)])
        obtain ⟨cl251, Ar251, Aq251, AS251, AN251, AH251, AG251⟩ := V239
        have V239 : Arv Z h239 b226 k226 .int (3 : Int32) [(.int a), (.int c_), (.int c_)] (.int (0 : Int32)) := ⟨cl251, Ar251, Aq251, AS251, AN251, AH251, AG251⟩
        have hin252 : ¬ ((1 : Int32) < 0 ∨ cl251.slots.size ≤ ((1 : Int32)).toNatClampNeg) := (inb_of AS251 ⟨by decide, by decide⟩)
        have hat252 : cl251.slots[((1 : Int32)).toNatClampNeg]? = some (.int c_) := (AH251.at hin252 rfl)
        refine own_via ?_ fun _ kt => X248.iaload hx (j := (1 : Int32)) (v := (.int c_)) (by rw [e248]; exact Ar251.1) (State.isArrayOf_alike hZ.alike Ar251.2.1) Ar251.2.2 hin252 hat252 (g := (mkF m 278 #[.val (.int sel), .val (.int a), .val (.int b), .val (.int c_), .val (.int x_), .val (.int (3 : Int32)), .val (.int pk), .val (.int item), .val (.ref b2), .val (.ref b217), .val (.int (1 : Int32)), .val (.ref b226), .val (.int (2 : Int32))] [(.int (1 : Int32)), (.ref b226), (.int c_)])) rfl rfl (hb hby at_278) _ kt
        show Go _ _ _ _ _ _ _ _ (mkF m 279 #[.val (.int sel), .val (.int a), .val (.int b), .val (.int c_), .val (.int x_), .val (.int (3 : Int32)), .val (.int pk), .val (.int item), .val (.ref b2), .val (.ref b217), .val (.int (1 : Int32)), .val (.ref b226), .val (.int (2 : Int32))] [(.int c_), (.int c_)])
        refine own_via ?_ fun _ kt => XS.icmpYes X248.here hx rfl (pc0 := 279) (pc' := 284) rfl (hb hby at_279) rfl (teq rfl).1 (by decide) (by decide) kt
        show Go _ _ _ _ _ _ _ _ (mkF m 284 #[.val (.int sel), .val (.int a), .val (.int b), .val (.int c_), .val (.int x_), .val (.int (3 : Int32)), .val (.int pk), .val (.int item), .val (.ref b2), .val (.ref b217), .val (.int (1 : Int32)), .val (.ref b226), .val (.int (2 : Int32))] [])
        refine own_via ?_ fun _ kt => XS.iload X248.here hx rfl (hb hby at_284) rfl kt
        show Go _ _ _ _ _ _ _ _ (mkF m 286 #[.val (.int sel), .val (.int a), .val (.int b), .val (.int c_), .val (.int x_), .val (.int (3 : Int32)), .val (.int pk), .val (.int item), .val (.ref b2), .val (.ref b217), .val (.int (1 : Int32)), .val (.ref b226), .val (.int (2 : Int32))] [(.int (2 : Int32))])
        refine own_via ?_ fun _ kt => XS.iconst X248.here hx rfl (hb hby at_286) kt
        show Go _ _ _ _ _ _ _ _ (mkF m 287 #[.val (.int sel), .val (.int a), .val (.int b), .val (.int c_), .val (.int x_), .val (.int (3 : Int32)), .val (.int pk), .val (.int item), .val (.ref b2), .val (.ref b217), .val (.int (1 : Int32)), .val (.ref b226), .val (.int (2 : Int32))] [(.int (2 : Int32)), (.int (2 : Int32))])
        refine own_via ?_ fun _ kt => XS.icmpYes X248.here hx rfl (pc0 := 287) (pc' := 306) rfl (hb hby at_287) rfl (flt (by decide : ¬ ((2 : Int32) < (2 : Int32)))).2.2.2 (by decide) (by decide) kt
        show Go _ _ _ _ _ _ _ _ (mkF m 306 #[.val (.int sel), .val (.int a), .val (.int b), .val (.int c_), .val (.int x_), .val (.int (3 : Int32)), .val (.int pk), .val (.int item), .val (.ref b2), .val (.ref b217), .val (.int (1 : Int32)), .val (.ref b226), .val (.int (2 : Int32))] [])
        refine own_via ?_ fun _ kt => XS.iconst X248.here hx rfl (hb hby at_306) kt
        show Go _ _ _ _ _ _ _ _ (mkF m 307 #[.val (.int sel), .val (.int a), .val (.int b), .val (.int c_), .val (.int x_), .val (.int (3 : Int32)), .val (.int pk), .val (.int item), .val (.ref b2), .val (.ref b217), .val (.int (1 : Int32)), .val (.ref b226), .val (.int (2 : Int32))] [(.int (1 : Int32))])
        exact own_retZ (z' := (1 : Int32)) X248 hx hret hlk (hb hby at_307) rfl (by decide) (by decide) (by rw [e248]; exact ⟨rfl, N239⟩)
      · skip
        show Go _ _ _ _ _ _ _ _ (mkF m 102 #[.val (.int sel), .val (.int a), .val (.int b), .val (.int c_), .val (.int x_), .val (.int (3 : Int32)), .val (.int pk), .val (.int item), .val (.ref b2), .unset, .unset, .unset, .unset] [])
        refine own_via ?_ fun _ kt => XS.iconst X180.here hx rfl (hb hby at_102) kt
        show Go _ _ _ _ _ _ _ _ (mkF m 103 #[.val (.int sel), .val (.int a), .val (.int b), .val (.int c_), .val (.int x_), .val (.int (3 : Int32)), .val (.int pk), .val (.int item), .val (.ref b2), .unset, .unset, .unset, .unset] [(.int (3 : Int32))])
        obtain ⟨T253, h253, k253, X253, e253, E253, A253, st253⟩ := newP X180 hx hZ (hw _ (List.mem_of_getElem? (i := 20) rfl)) e180 (g := (mkF m 103 #[.val (.int sel), .val (.int a), .val (.int b), .val (.int c_), .val (.int x_), .val (.int (3 : Int32)), .val (.int pk), .val (.int item), .val (.ref b2), .unset, .unset, .unset, .unset] [(.int (3 : Int32))])) rfl (hb hby at_103) rfl (by decide) (cap := 3) (by decide) (by decide) (by decide) (by decide)
        obtain ⟨b253, g253⟩ : ∃ z, z = h180.size := ⟨_, rfl⟩
        rw [← g253] at A253 st253
        have ne254 : b2 ≠ b253 := by rw [g253]; exact Nat.ne_of_lt p180_E.lt
        have ne255 : ba ≠ b253 := by rw [g253]; exact Nat.ne_of_lt p180_V.lt
        have g_b253 : n0 ≤ b253 := by rw [g253]; exact Z0
        replace p180_E := p180_E.ext E253
        replace p180_Fs := p180_Fs.ext E253
        replace p180_Fi := p180_Fi.ext E253
        replace p180_V := p180_V.ext E253
        replace Z0 := Nat.le_trans Z0 E253.1
        replace O := O.ext E253
        have V253 : Arv Z h253 b253 k253 .int (3 : Int32) [(.int (0 : Int32)), (.int (0 : Int32)), (.int (0 : Int32))] (.int (0 : Int32)) := (Arv.new A253 (by decide)).pad (pad_rep [] (.int (0 : Int32)) 3)
        refine own_via ?_ st253
        show Go _ _ _ _ _ _ _ _ (mkF m 105 #[.val (.int sel), .val (.int a), .val (.int b), .val (.int c_), .val (.int x_), .val (.int (3 : Int32)), .val (.int pk), .val (.int item), .val (.ref b2), .unset, .unset, .unset, .unset] [(.ref b253)])
        refine own_via ?_ fun _ kt => XS.dup X253.here hx rfl (hb hby at_105) rfl rfl kt
        show Go _ _ _ _ _ _ _ _ (mkF m 106 #[.val (.int sel), .val (.int a), .val (.int b), .val (.int c_), .val (.int x_), .val (.int (3 : Int32)), .val (.int pk), .val (.int item), .val (.ref b2), .unset, .unset, .unset, .unset] [(.ref b253), (.ref b253)])
        refine own_via ?_ fun _ kt => XS.iconst X253.here hx rfl (hb hby at_106) kt
        show Go _ _ _ _ _ _ _ _ (mkF m 107 #[.val (.int sel), .val (.int a), .val (.int b), .val (.int c_), .val (.int x_), .val (.int (3 : Int32)), .val (.int pk), .val (.int item), .val (.ref b2), .unset, .unset, .unset, .unset] [(.int (0 : Int32)), (.ref b253), (.ref b253)])
        refine own_via ?_ fun _ kt => XS.iloadN X253.here hx rfl (hb hby at_107) rfl kt
        show Go _ _ _ _ _ _ _ _ (mkF m 108 #[.val (.int sel), .val (.int a), .val (.int b), .val (.int c_), .val (.int x_), .val (.int (3 : Int32)), .val (.int pk), .val (.int item), .val (.ref b2), .unset, .unset, .unset, .unset] [(.int a), (.int (0 : Int32)), (.ref b253), (.ref b253)])
        obtain ⟨cl256, Ar256, Aq256, AS256, AN256, AH256, AG256⟩ := V253
        have hin257 : ¬ ((0 : Int32) < 0 ∨ cl256.slots.size ≤ ((0 : Int32)).toNatClampNeg) := (inb_of AS256 ⟨by decide, by decide⟩)
        obtain ⟨T257, h257, X257, e257, W257, st257⟩ := stI X253 hx hZ e253 Ar256 (j := (0 : Int32)) hin257 (g := (mkF m 108 #[.val (.int sel), .val (.int a), .val (.int b), .val (.int c_), .val (.int x_), .val (.int (3 : Int32)), .val (.int pk), .val (.int item), .val (.ref b2), .unset, .unset, .unset, .unset] [(.int a), (.int (0 : Int32)), (.ref b253), (.ref b253)])) rfl rfl (hb hby at_108)
        have N257 := Fr.snoc X257 N180 g_b253
        have V257 : Arv Z h257 b253 k253 .int (3 : Int32) [(.int a), (.int (0 : Int32)), (.int (0 : Int32))] (.int (0 : Int32)) := Arv.set Ar256 Aq256 AS256 AN256 AH256 AG256 rfl W257 0 rfl (Nat.le_of_ble_eq_true rfl)
        replace p180_E := p180_E.wr W257
        replace p180_Fs := p180_Fs.other W257 (Or.inl ne254)
        replace p180_Fi := p180_Fi.other W257 (Or.inl ne254)
        replace p180_V := p180_V.other W257 ne255
        replace Z0 := Nat.le_trans Z0 (Keep.of_wr W257).1
        replace O := O.wr W257 g_b253
        refine own_via ?_ st257
        show Go _ _ _ _ _ _ _ _ (mkF m 109 #[.val (.int sel), .val (.int a), .val (.int b), .val (.int c_), .val (.int x_), .val (.int (3 : Int32)), .val (.int pk), .val (.int item), .val (.ref b2), .unset, .unset, .unset, .unset] [(.ref b253)])
        refine own_via ?_ fun _ kt => XS.dup X257.here hx rfl (hb hby at_109) rfl rfl kt
        show Go _ _ _ _ _ _ _ _ (mkF m 110 #[.val (.int sel), .val (.int a), .val (.int b), .val (.int c_), .val (.int x_), .val (.int (3 : Int32)), .val (.int pk), .val (.int item), .val (.ref b2), .unset, .unset, .unset, .unset] [(.ref b253), (.ref b253)])
        refine own_via ?_ fun _ kt => XS.iconst X257.here hx rfl (hb hby at_110) kt
        show Go _ _ _ _ _ _ _ _ (mkF m 111 #[.val (.int sel), .val (.int a), .val (.int b), .val (.int c_), .val (.int x_), .val (.int (3 : Int32)), .val (.int pk), .val (.int item), .val (.ref b2), .unset, .unset, .unset, .unset] [(.int (1 : Int32)), (.ref b253), (.ref b253)])
        refine own_via ?_ fun _ kt => XS.iloadN X257.here hx rfl (hb hby at_111) rfl kt
        show Go _ _ _ _ _ _ _ _ (mkF m 112 #[.val (.int sel), .val (.int a), .val (.int b), .val (.int c_), .val (.int x_), .val (.int (3 : Int32)), .val (.int pk), .val (.int item), .val (.ref b2), .unset, .unset, .unset, .unset] [(.int b), (.int (1 : Int32)), (.ref b253), (.ref b253)])
        obtain ⟨cl258, Ar258, Aq258, AS258, AN258, AH258, AG258⟩ := V257
        have hin259 : ¬ ((1 : Int32) < 0 ∨ cl258.slots.size ≤ ((1 : Int32)).toNatClampNeg) := (inb_of AS258 ⟨by decide, by decide⟩)
        obtain ⟨T259, h259, X259, e259, W259, st259⟩ := stI X257 hx hZ e257 Ar258 (j := (1 : Int32)) hin259 (g := (mkF m 112 #[.val (.int sel), .val (.int a), .val (.int b), .val (.int c_), .val (.int x_), .val (.int (3 : Int32)), .val (.int pk), .val (.int item), .val (.ref b2), .unset, .unset, .unset, .unset] [(.int b), (.int (1 : Int32)), (.ref b253), (.ref b253)])) rfl rfl (hb hby at_112)
        have N259 := Fr.snoc X259 N257 g_b253
        have V259 : Arv Z h259 b253 k253 .int (3 : Int32) [(.int a), (.int b), (.int (0 : Int32))] (.int (0 : Int32)) := Arv.set Ar258 Aq258 AS258 AN258 AH258 AG258 rfl W259 1 rfl (Nat.le_of_ble_eq_true rfl)
        replace p180_E := p180_E.wr W259
        replace p180_Fs := p180_Fs.other W259 (Or.inl ne254)
        replace p180_Fi := p180_Fi.other W259 (Or.inl ne254)
        replace p180_V := p180_V.other W259 ne255
        replace Z0 := Nat.le_trans Z0 (Keep.of_wr W259).1
        replace O := O.wr W259 g_b253
        refine own_via ?_ st259
        show Go _ _ _ _ _ _ _ _ (mkF m 113 #[.val (.int sel), .val (.int a), .val (.int b), .val (.int c_), .val (.int x_), .val (.int (3 : Int32)), .val (.int pk), .val (.int item), .val (.ref b2), .unset, .unset, .unset, .unset] [(.ref b253)])
        refine own_via ?_ fun _ kt => XS.dup X259.here hx rfl (hb hby at_113) rfl rfl kt
        show Go _ _ _ _ _ _ _ _ (mkF m 114 #[.val (.int sel), .val (.int a), .val (.int b), .val (.int c_), .val (.int x_), .val (.int (3 : Int32)), .val (.int pk), .val (.int item), .val (.ref b2), .unset, .unset, .unset, .unset] [(.ref b253), (.ref b253)])
        refine own_via ?_ fun _ kt => XS.iconst X259.here hx rfl (hb hby at_114) kt
        show Go _ _ _ _ _ _ _ _ (mkF m 115 #[.val (.int sel), .val (.int a), .val (.int b), .val (.int c_), .val (.int x_), .val (.int (3 : Int32)), .val (.int pk), .val (.int item), .val (.ref b2), .unset, .unset, .unset, .unset] [(.int (2 : Int32)), (.ref b253), (.ref b253)])
        refine own_via ?_ fun _ kt => XS.iloadN X259.here hx rfl (hb hby at_115) rfl kt
        show Go _ _ _ _ _ _ _ _ (mkF m 116 #[.val (.int sel), .val (.int a), .val (.int b), .val (.int c_), .val (.int x_), .val (.int (3 : Int32)), .val (.int pk), .val (.int item), .val (.ref b2), .unset, .unset, .unset, .unset] [(.int c_), (.int (2 : Int32)), (.ref b253), (.ref b253)])
        obtain ⟨cl260, Ar260, Aq260, AS260, AN260, AH260, AG260⟩ := V259
        have hin261 : ¬ ((2 : Int32) < 0 ∨ cl260.slots.size ≤ ((2 : Int32)).toNatClampNeg) := (inb_of AS260 ⟨by decide, by decide⟩)
        obtain ⟨T261, h261, X261, e261, W261, st261⟩ := stI X259 hx hZ e259 Ar260 (j := (2 : Int32)) hin261 (g := (mkF m 116 #[.val (.int sel), .val (.int a), .val (.int b), .val (.int c_), .val (.int x_), .val (.int (3 : Int32)), .val (.int pk), .val (.int item), .val (.ref b2), .unset, .unset, .unset, .unset] [(.int c_), (.int (2 : Int32)), (.ref b253), (.ref b253)])) rfl rfl (hb hby at_116)
        have N261 := Fr.snoc X261 N259 g_b253
        have V261 : Arv Z h261 b253 k253 .int (3 : Int32) [(.int a), (.int b), (.int c_)] (.int (0 : Int32)) := Arv.set Ar260 Aq260 AS260 AN260 AH260 AG260 rfl W261 2 rfl (Nat.le_of_ble_eq_true rfl)
        replace p180_E := p180_E.wr W261
        replace p180_Fs := p180_Fs.other W261 (Or.inl ne254)
        replace p180_Fi := p180_Fi.other W261 (Or.inl ne254)
        replace p180_V := p180_V.other W261 ne255
        replace Z0 := Nat.le_trans Z0 (Keep.of_wr W261).1
        replace O := O.wr W261 g_b253
        refine own_via ?_ st261
        show Go _ _ _ _ _ _ _ _ (mkF m 117 #[.val (.int sel), .val (.int a), .val (.int b), .val (.int c_), .val (.int x_), .val (.int (3 : Int32)), .val (.int pk), .val (.int item), .val (.ref b2), .unset, .unset, .unset, .unset] [(.ref b253)])
        refine own_via ?_ fun _ kt => XS.astore X261.here hx rfl (hb hby at_117) rfl rfl (l' := #[.val (.int sel), .val (.int a), .val (.int b), .val (.int c_), .val (.int x_), .val (.int (3 : Int32)), .val (.int pk), .val (.int item), .val (.ref b2), .val (.ref b253), .unset, .unset, .unset]) rfl kt
        show Go _ _ _ _ _ _ _ _ (mkF m 119 #[.val (.int sel), .val (.int a), .val (.int b), .val (.int c_), .val (.int x_), .val (.int (3 : Int32)), .val (.int pk), .val (.int item), .val (.ref b2), .val (.ref b253), .unset, .unset, .unset] [])
        refine own_via ?_ fun _ kt => XS.iconst X261.here hx rfl (hb hby at_119) kt
        show Go _ _ _ _ _ _ _ _ (mkF m 120 #[.val (.int sel), .val (.int a), .val (.int b), .val (.int c_), .val (.int x_), .val (.int (3 : Int32)), .val (.int pk), .val (.int item), .val (.ref b2), .val (.ref b253), .unset, .unset, .unset] [(.int (-1 : Int32))])
        refine own_via ?_ fun _ kt => XS.istore X261.here hx rfl (hb hby at_120) rfl (l' := #[.val (.int sel), .val (.int a), .val (.int b), .val (.int c_), .val (.int x_), .val (.int (3 : Int32)), .val (.int pk), .val (.int item), .val (.ref b2), .val (.ref b253), .val (.int (-1 : Int32)), .unset, .unset]) rfl kt
        show Go _ _ _ _ _ _ _ _ (mkF m 122 #[.val (.int sel), .val (.int a), .val (.int b), .val (.int c_), .val (.int x_), .val (.int (3 : Int32)), .val (.int pk), .val (.int item), .val (.ref b2), .val (.ref b253), .val (.int (-1 : Int32)), .unset, .unset] [])
        refine own_via ?_ fun _ kt => XS.iload X261.here hx rfl (hb hby at_122) rfl kt
        show Go _ _ _ _ _ _ _ _ (mkF m 124 #[.val (.int sel), .val (.int a), .val (.int b), .val (.int c_), .val (.int x_), .val (.int (3 : Int32)), .val (.int pk), .val (.int item), .val (.ref b2), .val (.ref b253), .val (.int (-1 : Int32)), .unset, .unset] [(.int (3 : Int32))])
        refine own_via ?_ fun _ kt => XS.ifNo X261.here hx rfl (hb hby at_124) rfl ((if0 _ _).trans (tlt (by decide : ((0 : Int32) < (3 : Int32)))).2.2.2) kt
        show Go _ _ _ _ _ _ _ _ (mkF m 127 #[.val (.int sel), .val (.int a), .val (.int b), .val (.int c_), .val (.int x_), .val (.int (3 : Int32)), .val (.int pk), .val (.int item), .val (.ref b2), .val (.ref b253), .val (.int (-1 : Int32)), .unset, .unset] [])
        refine own_via ?_ fun _ kt => XS.iloadN X261.here hx rfl (hb hby at_127) rfl kt
        show Go _ _ _ _ _ _ _ _ (mkF m 128 #[.val (.int sel), .val (.int a), .val (.int b), .val (.int c_), .val (.int x_), .val (.int (3 : Int32)), .val (.int pk), .val (.int item), .val (.ref b2), .val (.ref b253), .val (.int (-1 : Int32)), .unset, .unset] [(.int a)])
        refine own_via ?_ fun _ kt => XS.iload X261.here hx rfl (hb hby at_128) rfl kt
        show Go _ _ _ _ _ _ _ _ (mkF m 130 #[.val (.int sel), .val (.int a), .val (.int b), .val (.int c_), .val (.int x_), .val (.int (3 : Int32)), .val (.int pk), .val (.int item), .val (.ref b2), .val (.ref b253), .val (.int (-1 : Int32)), .unset, .unset] [(.int item), (.int a)])
        refine own_via ?_ fun _ kt => XS.icmpYes X261.here hx rfl (pc0 := 130) (pc' := 139) rfl (hb hby at_130) rfl (feq hv180_0).2 (by decide) (by decide) kt
        show Go _ _ _ _ _ _ _ _ (mkF m 139 #[.val (.int sel), .val (.int a), .val (.int b), .val (.int c_), .val (.int x_), .val (.int (3 : Int32)), .val (.int pk), .val (.int item), .val (.ref b2), .val (.ref b253), .val (.int (-1 : Int32)), .unset, .unset] [])
        refine own_via ?_ fun _ kt => XS.iload X261.here hx rfl (hb hby at_139) rfl kt
        show Go _ _ _ _ _ _ _ _ (mkF m 141 #[.val (.int sel), .val (.int a), .val (.int b), .val (.int c_), .val (.int x_), .val (.int (3 : Int32)), .val (.int pk), .val (.int item), .val (.ref b2), .val (.ref b253), .val (.int (-1 : Int32)), .unset, .unset] [(.int (3 : Int32))])
        refine own_via ?_ fun _ kt => XS.iconst X261.here hx rfl (hb hby at_141) kt
        show Go _ _ _ _ _ _ _ _ (mkF m 142 #[.val (.int sel), .val (.int a), .val (.int b), .val (.int c_), .val (.int x_), .val (.int (3 : Int32)), .val (.int pk), .val (.int item), .val (.ref b2), .val (.ref b253), .val (.int (-1 : Int32)), .unset, .unset] [(.int (1 : Int32)), (.int (3 : Int32))])
        refine own_via ?_ fun _ kt => XS.icmpNo X261.here hx rfl (hb hby at_142) rfl (tlt (by decide : ((1 : Int32) < (3 : Int32)))).2.2.2 kt
        show Go _ _ _ _ _ _ _ _ (mkF m 145 #[.val (.int sel), .val (.int a), .val (.int b), .val (.int c_), .val (.int x_), .val (.int (3 : Int32)), .val (.int pk), .val (.int item), .val (.ref b2), .val (.ref b253), .val (.int (-1 : Int32)), .unset, .unset] [])
        refine own_via ?_ fun _ kt => XS.iloadN X261.here hx rfl (hb hby at_145) rfl kt
        show Go _ _ _ _ _ _ _ _ (mkF m 146 #[.val (.int sel), .val (.int a), .val (.int b), .val (.int c_), .val (.int x_), .val (.int (3 : Int32)), .val (.int pk), .val (.int item), .val (.ref b2), .val (.ref b253), .val (.int (-1 : Int32)), .unset, .unset] [(.int b)])
        refine own_via ?_ fun _ kt => XS.iload X261.here hx rfl (hb hby at_146) rfl kt
        show Go _ _ _ _ _ _ _ _ (mkF m 148 #[.val (.int sel), .val (.int a), .val (.int b), .val (.int c_), .val (.int x_), .val (.int (3 : Int32)), .val (.int pk), .val (.int item), .val (.ref b2), .val (.ref b253), .val (.int (-1 : Int32)), .unset, .unset] [(.int item), (.int b)])
        refine own_via ?_ fun _ kt => XS.icmpYes X261.here hx rfl (pc0 := 148) (pc' := 157) rfl (hb hby at_148) rfl (feq hv180_1).2 (by decide) (by decide) kt
        show Go _ _ _ _ _ _ _ _ (mkF m 157 #[.val (.int sel), .val (.int a), .val (.int b), .val (.int c_), .val (.int x_), .val (.int (3 : Int32)), .val (.int pk), .val (.int item), .val (.ref b2), .val (.ref b253), .val (.int (-1 : Int32)), .unset, .unset] [])
        refine own_via ?_ fun _ kt => XS.iload X261.here hx rfl (hb hby at_157) rfl kt
        show Go _ _ _ _ _ _ _ _ (mkF m 159 #[.val (.int sel), .val (.int a), .val (.int b), .val (.int c_), .val (.int x_), .val (.int (3 : Int32)), .val (.int pk), .val (.int item), .val (.ref b2), .val (.ref b253), .val (.int (-1 : Int32)), .unset, .unset] [(.int (3 : Int32))])
        refine own_via ?_ fun _ kt => XS.iconst X261.here hx rfl (hb hby at_159) kt
        show Go _ _ _ _ _ _ _ _ (mkF m 160 #[.val (.int sel), .val (.int a), .val (.int b), .val (.int c_), .val (.int x_), .val (.int (3 : Int32)), .val (.int pk), .val (.int item), .val (.ref b2), .val (.ref b253), .val (.int (-1 : Int32)), .unset, .unset] [(.int (2 : Int32)), (.int (3 : Int32))])
        refine own_via ?_ fun _ kt => XS.icmpNo X261.here hx rfl (hb hby at_160) rfl (tlt (by decide : ((2 : Int32) < (3 : Int32)))).2.2.2 kt
        show Go _ _ _ _ _ _ _ _ (mkF m 163 #[.val (.int sel), .val (.int a), .val (.int b), .val (.int c_), .val (.int x_), .val (.int (3 : Int32)), .val (.int pk), .val (.int item), .val (.ref b2), .val (.ref b253), .val (.int (-1 : Int32)), .unset, .unset] [])
        refine own_via ?_ fun _ kt => XS.iloadN X261.here hx rfl (hb hby at_163) rfl kt
        show Go _ _ _ _ _ _ _ _ (mkF m 164 #[.val (.int sel), .val (.int a), .val (.int b), .val (.int c_), .val (.int x_), .val (.int (3 : Int32)), .val (.int pk), .val (.int item), .val (.ref b2), .val (.ref b253), .val (.int (-1 : Int32)), .unset, .unset] [(.int c_)])
        refine own_via ?_ fun _ kt => XS.iload X261.here hx rfl (hb hby at_164) rfl kt
        show Go _ _ _ _ _ _ _ _ (mkF m 166 #[.val (.int sel), .val (.int a), .val (.int b), .val (.int c_), .val (.int x_), .val (.int (3 : Int32)), .val (.int pk), .val (.int item), .val (.ref b2), .val (.ref b253), .val (.int (-1 : Int32)), .unset, .unset] [(.int item), (.int c_)])
        refine own_via ?_ fun _ kt => XS.icmpNo X261.here hx rfl (hb hby at_166) rfl (teq hv180_2).2 kt
        show Go _ _ _ _ _ _ _ _ (mkF m 169 #[.val (.int sel), .val (.int a), .val (.int b), .val (.int c_), .val (.int x_), .val (.int (3 : Int32)), .val (.int pk), .val (.int item), .val (.ref b2), .val (.ref b253), .val (.int (-1 : Int32)), .unset, .unset] [])
        refine own_via ?_ fun _ kt => XS.iconst X261.here hx rfl (hb hby at_169) kt
        show Go _ _ _ _ _ _ _ _ (mkF m 170 #[.val (.int sel), .val (.int a), .val (.int b), .val (.int c_), .val (.int x_), .val (.int (3 : Int32)), .val (.int pk), .val (.int item), .val (.ref b2), .val (.ref b253), .val (.int (-1 : Int32)), .unset, .unset] [(.int (2 : Int32))])
        refine own_via ?_ fun _ kt => XS.istore X261.here hx rfl (hb hby at_170) rfl (l' := #[.val (.int sel), .val (.int a), .val (.int b), .val (.int c_), .val (.int x_), .val (.int (3 : Int32)), .val (.int pk), .val (.int item), .val (.ref b2), .val (.ref b253), .val (.int (2 : Int32)), .unset, .unset]) rfl kt
        show Go _ _ _ _ _ _ _ _ (mkF m 172 #[.val (.int sel), .val (.int a), .val (.int b), .val (.int c_), .val (.int x_), .val (.int (3 : Int32)), .val (.int pk), .val (.int item), .val (.ref b2), .val (.ref b253), .val (.int (2 : Int32)), .unset, .unset] [])
        refine own_via ?_ fun _ kt => XS.iconst X261.here hx rfl (hb hby at_172) kt
        show Go _ _ _ _ _ _ _ _ (mkF m 173 #[.val (.int sel), .val (.int a), .val (.int b), .val (.int c_), .val (.int x_), .val (.int (3 : Int32)), .val (.int pk), .val (.int item), .val (.ref b2), .val (.ref b253), .val (.int (2 : Int32)), .unset, .unset] [(.int (3 : Int32))])
        obtain ⟨T262, h262, k262, X262, e262, E262, A262, st262⟩ := newP X261 hx hZ (hw _ (List.mem_of_getElem? (i := 20) rfl)) e261 (g := (mkF m 173 #[.val (.int sel), .val (.int a), .val (.int b), .val (.int c_), .val (.int x_), .val (.int (3 : Int32)), .val (.int pk), .val (.int item), .val (.ref b2), .val (.ref b253), .val (.int (2 : Int32)), .unset, .unset] [(.int (3 : Int32))])) rfl (hb hby at_173) rfl (by decide) (cap := 3) (by decide) (by decide) (by decide) (by decide)
        obtain ⟨b262, g262⟩ : ∃ z, z = h261.size := ⟨_, rfl⟩
        rw [← g262] at A262 st262
        have ne263 : b2 ≠ b262 := by rw [g262]; exact Nat.ne_of_lt p180_E.lt
        have ne264 : ba ≠ b262 := by rw [g262]; exact Nat.ne_of_lt p180_V.lt
        have ne265 : b253 ≠ b262 := by rw [g262]; exact Nat.ne_of_lt V261.lt
        have g_b262 : n0 ≤ b262 := by rw [g262]; exact Z0
        replace p180_E := p180_E.ext E262
        replace p180_Fs := p180_Fs.ext E262
        replace p180_Fi := p180_Fi.ext E262
        replace p180_V := p180_V.ext E262
        replace V261 := V261.ext E262
        replace Z0 := Nat.le_trans Z0 E262.1
        replace O := O.ext E262
        have V262 : Arv Z h262 b262 k262 .int (3 : Int32) [(.int (0 : Int32)), (.int (0 : Int32)), (.int (0 : Int32))] (.int (0 : Int32)) := (Arv.new A262 (by decide)).pad (pad_rep [] (.int (0 : Int32)) 3)
        refine own_via ?_ st262
        show Go _ _ _ _ _ _ _ _ (mkF m 175 #[.val (.int sel), .val (.int a), .val (.int b), .val (.int c_), .val (.int x_), .val (.int (3 : Int32)), .val (.int pk), .val (.int item), .val (.ref b2), .val (.ref b253), .val (.int (2 : Int32)), .unset, .unset] [(.ref b262)])
        refine own_via ?_ fun _ kt => XS.dup X262.here hx rfl (hb hby at_175) rfl rfl kt
        show Go _ _ _ _ _ _ _ _ (mkF m 176 #[.val (.int sel), .val (.int a), .val (.int b), .val (.int c_), .val (.int x_), .val (.int (3 : Int32)), .val (.int pk), .val (.int item), .val (.ref b2), .val (.ref b253), .val (.int (2 : Int32)), .unset, .unset] [(.ref b262), (.ref b262)])
        refine own_via ?_ fun _ kt => XS.iconst X262.here hx rfl (hb hby at_176) kt
        show Go _ _ _ _ _ _ _ _ (mkF m 177 #[.val (.int sel), .val (.int a), .val (.int b), .val (.int c_), .val (.int x_), .val (.int (3 : Int32)), .val (.int pk), .val (.int item), .val (.ref b2), .val (.ref b253), .val (.int (2 : Int32)), .unset, .unset] [(.int (0 : Int32)), (.ref b262), (.ref b262)])
        refine own_via ?_ fun _ kt => XS.iloadN X262.here hx rfl (hb hby at_177) rfl kt
        show Go _ _ _ _ _ _ _ _ (mkF m 178 #[.val (.int sel), .val (.int a), .val (.int b), .val (.int c_), .val (.int x_), .val (.int (3 : Int32)), .val (.int pk), .val (.int item), .val (.ref b2), .val (.ref b253), .val (.int (2 : Int32)), .unset, .unset] [(.int a), (.int (0 : Int32)), (.ref b262), (.ref b262)])
        obtain ⟨cl266, Ar266, Aq266, AS266, AN266, AH266, AG266⟩ := V262
        have hin267 : ¬ ((0 : Int32) < 0 ∨ cl266.slots.size ≤ ((0 : Int32)).toNatClampNeg) := (inb_of AS266 ⟨by decide, by decide⟩)
        obtain ⟨T267, h267, X267, e267, W267, st267⟩ := stI X262 hx hZ e262 Ar266 (j := (0 : Int32)) hin267 (g := (mkF m 178 #[.val (.int sel), .val (.int a), .val (.int b), .val (.int c_), .val (.int x_), .val (.int (3 : Int32)), .val (.int pk), .val (.int item), .val (.ref b2), .val (.ref b253), .val (.int (2 : Int32)), .unset, .unset] [(.int a), (.int (0 : Int32)), (.ref b262), (.ref b262)])) rfl rfl (hb hby at_178)
        have N267 := Fr.snoc X267 N261 g_b262
        have V267 : Arv Z h267 b262 k262 .int (3 : Int32) [(.int a), (.int (0 : Int32)), (.int (0 : Int32))] (.int (0 : Int32)) := Arv.set Ar266 Aq266 AS266 AN266 AH266 AG266 rfl W267 0 rfl (Nat.le_of_ble_eq_true rfl)
        replace p180_E := p180_E.wr W267
        replace p180_Fs := p180_Fs.other W267 (Or.inl ne263)
        replace p180_Fi := p180_Fi.other W267 (Or.inl ne263)
        replace p180_V := p180_V.other W267 ne264
        replace V261 := V261.other W267 ne265
        replace Z0 := Nat.le_trans Z0 (Keep.of_wr W267).1
        replace O := O.wr W267 g_b262
        refine own_via ?_ st267
        show Go _ _ _ _ _ _ _ _ (mkF m 179 #[.val (.int sel), .val (.int a), .val (.int b), .val (.int c_), .val (.int x_), .val (.int (3 : Int32)), .val (.int pk), .val (.int item), .val (.ref b2), .val (.ref b253), .val (.int (2 : Int32)), .unset, .unset] [(.ref b262)])
        refine own_via ?_ fun _ kt => XS.dup X267.here hx rfl (hb hby at_179) rfl rfl kt
        show Go _ _ _ _ _ _ _ _ (mkF m 180 #[.val (.int sel), .val (.int a), .val (.int b), .val (.int c_), .val (.int x_), .val (.int (3 : Int32)), .val (.int pk), .val (.int item), .val (.ref b2), .val (.ref b253), .val (.int (2 : Int32)), .unset, .unset] [(.ref b262), (.ref b262)])
        refine own_via ?_ fun _ kt => XS.iconst X267.here hx rfl (hb hby at_180) kt
        show Go _ _ _ _ _ _ _ _ (mkF m 181 #[.val (.int sel), .val (.int a), .val (.int b), .val (.int c_), .val (.int x_), .val (.int (3 : Int32)), .val (.int pk), .val (.int item), .val (.ref b2), .val (.ref b253), .val (.int (2 : Int32)), .unset, .unset] [(.int (1 : Int32)), (.ref b262), (.ref b262)])
        refine own_via ?_ fun _ kt => XS.iloadN X267.here hx rfl (hb hby at_181) rfl kt
        show Go _ _ _ _ _ _ _ _ (mkF m 182 #[.val (.int sel), .val (.int a), .val (.int b), .val (.int c_), .val (.int x_), .val (.int (3 : Int32)), .val (.int pk), .val (.int item), .val (.ref b2), .val (.ref b253), .val (.int (2 : Int32)), .unset, .unset] [(.int b), (.int (1 : Int32)), (.ref b262), (.ref b262)])
        obtain ⟨cl268, Ar268, Aq268, AS268, AN268, AH268, AG268⟩ := V267
        have hin269 : ¬ ((1 : Int32) < 0 ∨ cl268.slots.size ≤ ((1 : Int32)).toNatClampNeg) := (inb_of AS268 ⟨by decide, by decide⟩)
        obtain ⟨T269, h269, X269, e269, W269, st269⟩ := stI X267 hx hZ e267 Ar268 (j := (1 : Int32)) hin269 (g := (mkF m 182 #[.val (.int sel), .val (.int a), .val (.int b), .val (.int c_), .val (.int x_), .val (.int (3 : Int32)), .val (.int pk), .val (.int item), .val (.ref b2), .val (.ref b253), .val (.int (2 : Int32)), .unset, .unset] [(.int b), (.int (1 : Int32)), (.ref b262), (.ref b262)])) rfl rfl (hb hby at_182)
        have N269 := Fr.snoc X269 N267 g_b262
        have V269 : Arv Z h269 b262 k262 .int (3 : Int32) [(.int a), (.int b), (.int (0 : Int32))] (.int (0 : Int32)) := Arv.set Ar268 Aq268 AS268 AN268 AH268 AG268 rfl W269 1 rfl (Nat.le_of_ble_eq_true rfl)
        replace p180_E := p180_E.wr W269
        replace p180_Fs := p180_Fs.other W269 (Or.inl ne263)
        replace p180_Fi := p180_Fi.other W269 (Or.inl ne263)
        replace p180_V := p180_V.other W269 ne264
        replace V261 := V261.other W269 ne265
        replace Z0 := Nat.le_trans Z0 (Keep.of_wr W269).1
        replace O := O.wr W269 g_b262
        refine own_via ?_ st269
        show Go _ _ _ _ _ _ _ _ (mkF m 183 #[.val (.int sel), .val (.int a), .val (.int b), .val (.int c_), .val (.int x_), .val (.int (3 : Int32)), .val (.int pk), .val (.int item), .val (.ref b2), .val (.ref b253), .val (.int (2 : Int32)), .unset, .unset] [(.ref b262)])
        refine own_via ?_ fun _ kt => XS.dup X269.here hx rfl (hb hby at_183) rfl rfl kt
        show Go _ _ _ _ _ _ _ _ (mkF m 184 #[.val (.int sel), .val (.int a), .val (.int b), .val (.int c_), .val (.int x_), .val (.int (3 : Int32)), .val (.int pk), .val (.int item), .val (.ref b2), .val (.ref b253), .val (.int (2 : Int32)), .unset, .unset] [(.ref b262), (.ref b262)])
        refine own_via ?_ fun _ kt => XS.iconst X269.here hx rfl (hb hby at_184) kt
        show Go _ _ _ _ _ _ _ _ (mkF m 185 #[.val (.int sel), .val (.int a), .val (.int b), .val (.int c_), .val (.int x_), .val (.int (3 : Int32)), .val (.int pk), .val (.int item), .val (.ref b2), .val (.ref b253), .val (.int (2 : Int32)), .unset, .unset] [(.int (2 : Int32)), (.ref b262), (.ref b262)])
        refine own_via ?_ fun _ kt => XS.iloadN X269.here hx rfl (hb hby at_185) rfl kt
        show Go _ _ _ _ _ _ _ _ (mkF m 186 #[.val (.int sel), .val (.int a), .val (.int b), .val (.int c_), .val (.int x_), .val (.int (3 : Int32)), .val (.int pk), .val (.int item), .val (.ref b2), .val (.ref b253), .val (.int (2 : Int32)), .unset, .unset] [(.int c_), (.int (2 : Int32)), (.ref b262), (.ref b262)])
        obtain ⟨cl270, Ar270, Aq270, AS270, AN270, AH270, AG270⟩ := V269
        have hin271 : ¬ ((2 : Int32) < 0 ∨ cl270.slots.size ≤ ((2 : Int32)).toNatClampNeg) := (inb_of AS270 ⟨by decide, by decide⟩)
        obtain ⟨T271, h271, X271, e271, W271, st271⟩ := stI X269 hx hZ e269 Ar270 (j := (2 : Int32)) hin271 (g := (mkF m 186 #[.val (.int sel), .val (.int a), .val (.int b), .val (.int c_), .val (.int x_), .val (.int (3 : Int32)), .val (.int pk), .val (.int item), .val (.ref b2), .val (.ref b253), .val (.int (2 : Int32)), .unset, .unset] [(.int c_), (.int (2 : Int32)), (.ref b262), (.ref b262)])) rfl rfl (hb hby at_186)
        have N271 := Fr.snoc X271 N269 g_b262
        have V271 : Arv Z h271 b262 k262 .int (3 : Int32) [(.int a), (.int b), (.int c_)] (.int (0 : Int32)) := Arv.set Ar270 Aq270 AS270 AN270 AH270 AG270 rfl W271 2 rfl (Nat.le_of_ble_eq_true rfl)
        replace p180_E := p180_E.wr W271
        replace p180_Fs := p180_Fs.other W271 (Or.inl ne263)
        replace p180_Fi := p180_Fi.other W271 (Or.inl ne263)
        replace p180_V := p180_V.other W271 ne264
        replace V261 := V261.other W271 ne265
        replace Z0 := Nat.le_trans Z0 (Keep.of_wr W271).1
        replace O := O.wr W271 g_b262
        refine own_via ?_ st271
        show Go _ _ _ _ _ _ _ _ (mkF m 187 #[.val (.int sel), .val (.int a), .val (.int b), .val (.int c_), .val (.int x_), .val (.int (3 : Int32)), .val (.int pk), .val (.int item), .val (.ref b2), .val (.ref b253), .val (.int (2 : Int32)), .unset, .unset] [(.ref b262)])
        refine own_via ?_ fun _ kt => XS.astore X271.here hx rfl (hb hby at_187) rfl rfl (l' := #[.val (.int sel), .val (.int a), .val (.int b), .val (.int c_), .val (.int x_), .val (.int (3 : Int32)), .val (.int pk), .val (.int item), .val (.ref b2), .val (.ref b253), .val (.int (2 : Int32)), .val (.ref b262), .unset]) rfl kt
        show Go _ _ _ _ _ _ _ _ (mkF m 189 #[.val (.int sel), .val (.int a), .val (.int b), .val (.int c_), .val (.int x_), .val (.int (3 : Int32)), .val (.int pk), .val (.int item), .val (.ref b2), .val (.ref b253), .val (.int (2 : Int32)), .val (.ref b262), .unset] [])
        refine own_via ?_ fun _ kt => XS.iload X271.here hx rfl (hb hby at_189) rfl kt
        show Go _ _ _ _ _ _ _ _ (mkF m 191 #[.val (.int sel), .val (.int a), .val (.int b), .val (.int c_), .val (.int x_), .val (.int (3 : Int32)), .val (.int pk), .val (.int item), .val (.ref b2), .val (.ref b253), .val (.int (2 : Int32)), .val (.ref b262), .unset] [(.int (3 : Int32))])
        refine own_via ?_ fun _ kt => XS.istore X271.here hx rfl (hb hby at_191) rfl (l' := #[.val (.int sel), .val (.int a), .val (.int b), .val (.int c_), .val (.int x_), .val (.int (3 : Int32)), .val (.int pk), .val (.int item), .val (.ref b2), .val (.ref b253), .val (.int (2 : Int32)), .val (.ref b262), .val (.int (3 : Int32))]) rfl kt
        show Go _ _ _ _ _ _ _ _ (mkF m 193 #[.val (.int sel), .val (.int a), .val (.int b), .val (.int c_), .val (.int x_), .val (.int (3 : Int32)), .val (.int pk), .val (.int item), .val (.ref b2), .val (.ref b253), .val (.int (2 : Int32)), .val (.ref b262), .val (.int (3 : Int32))] [])
        refine own_via ?_ fun _ kt => XS.iload X271.here hx rfl (hb hby at_193) rfl kt
        show Go _ _ _ _ _ _ _ _ (mkF m 195 #[.val (.int sel), .val (.int a), .val (.int b), .val (.int c_), .val (.int x_), .val (.int (3 : Int32)), .val (.int pk), .val (.int item), .val (.ref b2), .val (.ref b253), .val (.int (2 : Int32)), .val (.ref b262), .val (.int (3 : Int32))] [(.int (2 : Int32))])
        refine own_via ?_ fun _ kt => XS.ifNo X271.here hx rfl (hb hby at_195) rfl ((if0 _ _).trans (flt (by decide : ¬ ((2 : Int32) < (0 : Int32)))).1) kt
        show Go _ _ _ _ _ _ _ _ (mkF m 198 #[.val (.int sel), .val (.int a), .val (.int b), .val (.int c_), .val (.int x_), .val (.int (3 : Int32)), .val (.int pk), .val (.int item), .val (.ref b2), .val (.ref b253), .val (.int (2 : Int32)), .val (.ref b262), .val (.int (3 : Int32))] [])
        refine own_via ?_ fun _ kt => XS.iload X271.here hx rfl (hb hby at_198) rfl kt
        show Go _ _ _ _ _ _ _ _ (mkF m 200 #[.val (.int sel), .val (.int a), .val (.int b), .val (.int c_), .val (.int x_), .val (.int (3 : Int32)), .val (.int pk), .val (.int item), .val (.ref b2), .val (.ref b253), .val (.int (2 : Int32)), .val (.ref b262), .val (.int (3 : Int32))] [(.int (3 : Int32))])
        refine own_via ?_ fun _ kt => XS.iconst X271.here hx rfl (hb hby at_200) kt
        show Go _ _ _ _ _ _ _ _ (mkF m 201 #[.val (.int sel), .val (.int a), .val (.int b), .val (.int c_), .val (.int x_), .val (.int (3 : Int32)), .val (.int pk), .val (.int item), .val (.ref b2), .val (.ref b253), .val (.int (2 : Int32)), .val (.ref b262), .val (.int (3 : Int32))] [(.int (1 : Int32)), (.int (3 : Int32))])
        refine own_via ?_ fun _ kt => XS.isub X271.here hx rfl (hb hby at_201) rfl kt
        show Go _ _ _ _ _ _ _ _ (mkF m 202 #[.val (.int sel), .val (.int a), .val (.int b), .val (.int c_), .val (.int x_), .val (.int (3 : Int32)), .val (.int pk), .val (.int item), .val (.ref b2), .val (.ref b253), .val (.int (2 : Int32)), .val (.ref b262), .val (.int (3 : Int32))] [(.int ((3 : Int32) - (1 : Int32)))])
        rw [show ((3 : Int32) - (1 : Int32)) = (2 : Int32) from by decide]
        show Go _ _ _ _ _ _ _ _ (mkF m 202 #[.val (.int sel), .val (.int a), .val (.int b), .val (.int c_), .val (.int x_), .val (.int (3 : Int32)), .val (.int pk), .val (.int item), .val (.ref b2), .val (.ref b253), .val (.int (2 : Int32)), .val (.ref b262), .val (.int (3 : Int32))] [(.int (2 : Int32))])
        refine own_via ?_ fun _ kt => XS.istore X271.here hx rfl (hb hby at_202) rfl (l' := #[.val (.int sel), .val (.int a), .val (.int b), .val (.int c_), .val (.int x_), .val (.int (3 : Int32)), .val (.int pk), .val (.int item), .val (.ref b2), .val (.ref b253), .val (.int (2 : Int32)), .val (.ref b262), .val (.int (2 : Int32))]) rfl kt
        show Go _ _ _ _ _ _ _ _ (mkF m 204 #[.val (.int sel), .val (.int a), .val (.int b), .val (.int c_), .val (.int x_), .val (.int (3 : Int32)), .val (.int pk), .val (.int item), .val (.ref b2), .val (.ref b253), .val (.int (2 : Int32)), .val (.ref b262), .val (.int (2 : Int32))] [])
        refine own_via ?_ fun _ kt => XS.aload X271.here hx rfl (hb hby at_204) rfl rfl kt
        show Go _ _ _ _ _ _ _ _ (mkF m 206 #[.val (.int sel), .val (.int a), .val (.int b), .val (.int c_), .val (.int x_), .val (.int (3 : Int32)), .val (.int pk), .val (.int item), .val (.ref b2), .val (.ref b253), .val (.int (2 : Int32)), .val (.ref b262), .val (.int (2 : Int32))] [(.ref b262)])
        refine own_via ?_ fun _ kt => XS.iload X271.here hx rfl (hb hby at_206) rfl kt
        show Go _ _ _ _ _ _ _ _ (mkF m 208 #[.val (.int sel), .val (.int a), .val (.int b), .val (.int c_), .val (.int x_), .val (.int (3 : Int32)), .val (.int pk), .val (.int item), .val (.ref b2), .val (.ref b253), .val (.int (2 : Int32)), .val (.ref b262), .val (.int (2 : Int32))] [(.int (2 : Int32)), (.ref b262)])
        refine own_via ?_ fun _ kt => XS.aload X271.here hx rfl (hb hby at_208) rfl rfl kt
        show Go _ _ _ _ _ _ _ _ (mkF m 210 #[.val (.int sel), .val (.int a), .val (.int b), .val (.int c_), .val (.int x_), .val (.int (3 : Int32)), .val (.int pk), .val (.int item), .val (.ref b2), .val (.ref b253), .val (.int (2 : Int32)), .val (.ref b262), .val (.int (2 : Int32))] [(.ref b253), (.int (2 : Int32)), (.ref b262)])
        refine own_via ?_ fun _ kt => XS.iload X271.here hx rfl (hb hby at_210) rfl kt
        show Go _ _ _ _ _ _ _ _ (mkF m 212 #[.val (.int sel), .val (.int a), .val (.int b), .val (.int c_), .val (.int x_), .val (.int (3 : Int32)), .val (.int pk), .val (.int item), .val (.ref b2), .val (.ref b253), .val (.int (2 : Int32)), .val (.ref b262), .val (.int (2 : Int32))] [(.int (3 : Int32)), (.ref b253), (.int (2 : Int32)), (.ref b262)])
        refine own_via ?_ fun _ kt => XS.iconst X271.here hx rfl (hb hby at_212) kt
        show Go _ _ _ _ _ _ _ _ (mkF m 213 #[.val (.int sel), .val (.int a), .val (.int b), .val (.int c_), .val (.int x_), .val (.int (3 : Int32)), .val (.int pk), .val (.int item), .val (.ref b2), .val (.ref b253), .val (.int (2 : Int32)), .val (.ref b262), .val (.int (2 : Int32))] [(.int (1 : Int32)), (.int (3 : Int32)), (.ref b253), (.int (2 : Int32)), (.ref b262)])
        refine own_via ?_ fun _ kt => XS.isub X271.here hx rfl (hb hby at_213) rfl kt
        show Go _ _ _ _ _ _ _ _ (mkF m 214 #[.val (.int sel), .val (.int a), .val (.int b), .val (.int c_), .val (.int x_), .val (.int (3 : Int32)), .val (.int pk), .val (.int item), .val (.ref b2), .val (.ref b253), .val (.int (2 : Int32)), .val (.ref b262), .val (.int (2 : Int32))] [(.int ((3 : Int32) - (1 : Int32))), (.ref b253), (.int (2 : Int32)), (.ref b262)])
        rw [show ((3 : Int32) - (1 : Int32)) = (2 : Int32) from by decide]
        show Go _ _ _ _ _ _ _ _ (mkF m 214 #[.val (.int sel), .val (.int a), .val (.int b), .val (.int c_), .val (.int x_), .val (.int (3 : Int32)), .val (.int pk), .val (.int item), .val (.ref b2), .val (.ref b253), .val (.int (2 : Int32)), .val (.ref b262), .val (.int (2 : Int32))] [(.int (2 : Int32)), (.ref b253), (.int (2 : Int32)), (.ref b262)])
        obtain ⟨cl272, Ar272, Aq272, AS272, AN272, AH272, AG272⟩ := V261
        have V261 : Arv Z h271 b253 k253 .int (3 : Int32) [(.int a), (.int b), (.int c_)] (.int (0 : Int32)) := ⟨cl272, Ar272, Aq272, AS272, AN272, AH272, AG272⟩
        have hin273 : ¬ ((2 : Int32) < 0 ∨ cl272.slots.size ≤ ((2 : Int32)).toNatClampNeg) := (inb_of AS272 ⟨by decide, by decide⟩)
        have hat273 : cl272.slots[((2 : Int32)).toNatClampNeg]? = some (.int c_) := (AH272.at hin273 rfl)
        refine own_via ?_ fun _ kt => X271.iaload hx (j := (2 : Int32)) (v := (.int c_)) (by rw [e271]; exact Ar272.1) (State.isArrayOf_alike hZ.alike Ar272.2.1) Ar272.2.2 hin273 hat273 (g := (mkF m 214 #[.val (.int sel), .val (.int a), .val (.int b), .val (.int c_), .val (.int x_), .val (.int (3 : Int32)), .val (.int pk), .val (.int item), .val (.ref b2), .val (.ref b253), .val (.int (2 : Int32)), .val (.ref b262), .val (.int (2 : Int32))] [(.int (2 : Int32)), (.ref b253), (.int (2 : Int32)), (.ref b262)])) rfl rfl (hb hby at_214) _ kt
        show Go _ _ _ _ _ _ _ _ (mkF m 215 #[.val (.int sel), .val (.int a), .val (.int b), .val (.int c_), .val (.int x_), .val (.int (3 : Int32)), .val (.int pk), .val (.int item), .val (.ref b2), .val (.ref b253), .val (.int (2 : Int32)), .val (.ref b262), .val (.int (2 : Int32))] [(.int c_), (.int (2 : Int32)), (.ref b262)])
        obtain ⟨cl274, Ar274, Aq274, AS274, AN274, AH274, AG274⟩ := V271
        have hin275 : ¬ ((2 : Int32) < 0 ∨ cl274.slots.size ≤ ((2 : Int32)).toNatClampNeg) := (inb_of AS274 ⟨by decide, by decide⟩)
        obtain ⟨T275, h275, X275, e275, W275, st275⟩ := stI X271 hx hZ e271 Ar274 (j := (2 : Int32)) hin275 (g := (mkF m 215 #[.val (.int sel), .val (.int a), .val (.int b), .val (.int c_), .val (.int x_), .val (.int (3 : Int32)), .val (.int pk), .val (.int item), .val (.ref b2), .val (.ref b253), .val (.int (2 : Int32)), .val (.ref b262), .val (.int (2 : Int32))] [(.int c_), (.int (2 : Int32)), (.ref b262)])) rfl rfl (hb hby at_215)
        have N275 := Fr.snoc X275 N271 g_b262
        have V275 : Arv Z h275 b262 k262 .int (3 : Int32) [(.int a), (.int b), (.int c_)] (.int (0 : Int32)) := Arv.set Ar274 Aq274 AS274 AN274 AH274 AG274 rfl W275 2 rfl (Nat.le_of_ble_eq_true rfl)
        replace p180_E := p180_E.wr W275
        replace p180_Fs := p180_Fs.other W275 (Or.inl ne263)
        replace p180_Fi := p180_Fi.other W275 (Or.inl ne263)
        replace p180_V := p180_V.other W275 ne264
        replace V261 := V261.other W275 ne265
        replace Z0 := Nat.le_trans Z0 (Keep.of_wr W275).1
        replace O := O.wr W275 g_b262
        refine own_via ?_ st275
        show Go _ _ _ _ _ _ _ _ (mkF m 216 #[.val (.int sel), .val (.int a), .val (.int b), .val (.int c_), .val (.int x_), .val (.int (3 : Int32)), .val (.int pk), .val (.int item), .val (.ref b2), .val (.ref b253), .val (.int (2 : Int32)), .val (.ref b262), .val (.int (2 : Int32))] [])
        refine own_via ?_ fun _ kt => XS.aload X275.here hx rfl (hb hby at_216) rfl rfl kt
        show Go _ _ _ _ _ _ _ _ (mkF m 218 #[.val (.int sel), .val (.int a), .val (.int b), .val (.int c_), .val (.int x_), .val (.int (3 : Int32)), .val (.int pk), .val (.int item), .val (.ref b2), .val (.ref b253), .val (.int (2 : Int32)), .val (.ref b262), .val (.int (2 : Int32))] [(.ref b2)])
        obtain ⟨T276, X276, e276, st276⟩ := getF X275 hx hZ hown (host := "") (Or.inl (hw _ (List.mem_of_getElem? (i := 21) rfl))) Via.refl e275 p180_Fs (g := (mkF m 218 #[.val (.int sel), .val (.int a), .val (.int b), .val (.int c_), .val (.int x_), .val (.int (3 : Int32)), .val (.int pk), .val (.int item), .val (.ref b2), .val (.ref b253), .val (.int (2 : Int32)), .val (.ref b262), .val (.int (2 : Int32))] [(.ref b2)])) rfl rfl (hb hby at_218)
        refine own_via ?_ st276
        show Go _ _ _ _ _ _ _ _ (mkF m 221 #[.val (.int sel), .val (.int a), .val (.int b), .val (.int c_), .val (.int x_), .val (.int (3 : Int32)), .val (.int pk), .val (.int item), .val (.ref b2), .val (.ref b253), .val (.int (2 : Int32)), .val (.ref b262), .val (.int (2 : Int32))] [(.int (2 : Int32))])
        refine own_via ?_ fun _ kt => XS.iload X276.here hx rfl (hb hby at_221) rfl kt
        show Go _ _ _ _ _ _ _ _ (mkF m 223 #[.val (.int sel), .val (.int a), .val (.int b), .val (.int c_), .val (.int x_), .val (.int (3 : Int32)), .val (.int pk), .val (.int item), .val (.ref b2), .val (.ref b253), .val (.int (2 : Int32)), .val (.ref b262), .val (.int (2 : Int32))] [(.int (2 : Int32)), (.int (2 : Int32))])
        refine own_via ?_ fun _ kt => XS.icmpYes X276.here hx rfl (pc0 := 223) (pc' := 228) rfl (hb hby at_223) rfl (teq rfl).1 (by decide) (by decide) kt
        show Go _ _ _ _ _ _ _ _ (mkF m 228 #[.val (.int sel), .val (.int a), .val (.int b), .val (.int c_), .val (.int x_), .val (.int (3 : Int32)), .val (.int pk), .val (.int item), .val (.ref b2), .val (.ref b253), .val (.int (2 : Int32)), .val (.ref b262), .val (.int (2 : Int32))] [])
        refine own_via ?_ fun _ kt => XS.aload X276.here hx rfl (hb hby at_228) rfl rfl kt
        show Go _ _ _ _ _ _ _ _ (mkF m 230 #[.val (.int sel), .val (.int a), .val (.int b), .val (.int c_), .val (.int x_), .val (.int (3 : Int32)), .val (.int pk), .val (.int item), .val (.ref b2), .val (.ref b253), .val (.int (2 : Int32)), .val (.ref b262), .val (.int (2 : Int32))] [(.ref b2)])
        obtain ⟨T277, X277, e277, st277⟩ := getF X276 hx hZ hown (host := "") (Or.inl (hw _ (List.mem_of_getElem? (i := 22) rfl))) Via.refl e276 p180_Fi (g := (mkF m 230 #[.val (.int sel), .val (.int a), .val (.int b), .val (.int c_), .val (.int x_), .val (.int (3 : Int32)), .val (.int pk), .val (.int item), .val (.ref b2), .val (.ref b253), .val (.int (2 : Int32)), .val (.ref b262), .val (.int (2 : Int32))] [(.ref b2)])) rfl rfl (hb hby at_230)
        refine own_via ?_ st277
        show Go _ _ _ _ _ _ _ _ (mkF m 233 #[.val (.int sel), .val (.int a), .val (.int b), .val (.int c_), .val (.int x_), .val (.int (3 : Int32)), .val (.int pk), .val (.int item), .val (.ref b2), .val (.ref b253), .val (.int (2 : Int32)), .val (.ref b262), .val (.int (2 : Int32))] [(.ref ba)])
        obtain ⟨cl278, Ar278, Aq278, AS278, AN278, AH278, AG278⟩ := p180_V
        have p180_V : Arv Z h275 ba ka .int (4 : Int32) [(.int a), (.int b), (.int c_), (.int (0 : Int32))] (.int (0 : Int32)) := ⟨cl278, Ar278, Aq278, AS278, AN278, AH278, AG278⟩
        refine own_via ?_ fun _ kt => X277.arraylength hx (by rw [e277]; exact Ar278.1) (State.isArrayOf_alike hZ.alike Ar278.2.1) (g := (mkF m 233 #[.val (.int sel), .val (.int a), .val (.int b), .val (.int c_), .val (.int x_), .val (.int (3 : Int32)), .val (.int pk), .val (.int item), .val (.ref b2), .val (.ref b253), .val (.int (2 : Int32)), .val (.ref b262), .val (.int (2 : Int32))] [(.ref ba)])) rfl rfl (hb hby at_233) _ kt
        rw [len_of AS278 AN278]
        show Go _ _ _ _ _ _ _ _ (mkF m 234 #[.val (.int sel), .val (.int a), .val (.int b), .val (.int c_), .val (.int x_), .val (.int (3 : Int32)), .val (.int pk), .val (.int item), .val (.ref b2), .val (.ref b253), .val (.int (2 : Int32)), .val (.ref b262), .val (.int (2 : Int32))] [(.int (4 : Int32))])
        refine own_via ?_ fun _ kt => XS.iload X277.here hx rfl (hb hby at_234) rfl kt
        show Go _ _ _ _ _ _ _ _ (mkF m 236 #[.val (.int sel), .val (.int a), .val (.int b), .val (.int c_), .val (.int x_), .val (.int (3 : Int32)), .val (.int pk), .val (.int item), .val (.ref b2), .val (.ref b253), .val (.int (2 : Int32)), .val (.ref b262), .val (.int (2 : Int32))] [(.int (2 : Int32)), (.int (4 : Int32))])
        refine own_via ?_ fun _ kt => XS.icmpYes X277.here hx rfl (pc0 := 236) (pc' := 241) rfl (hb hby at_236) rfl (flt (by decide : ¬ ((4 : Int32) < (2 : Int32)))).2.1 (by decide) (by decide) kt
        show Go _ _ _ _ _ _ _ _ (mkF m 241 #[.val (.int sel), .val (.int a), .val (.int b), .val (.int c_), .val (.int x_), .val (.int (3 : Int32)), .val (.int pk), .val (.int item), .val (.ref b2), .val (.ref b253), .val (.int (2 : Int32)), .val (.ref b262), .val (.int (2 : Int32))] [])
        refine own_via ?_ fun _ kt => XS.iload X277.here hx rfl (hb hby at_241) rfl kt
        show Go _ _ _ _ _ _ _ _ (mkF m 243 #[.val (.int sel), .val (.int a), .val (.int b), .val (.int c_), .val (.int x_), .val (.int (3 : Int32)), .val (.int pk), .val (.int item), .val (.ref b2), .val (.ref b253), .val (.int (2 : Int32)), .val (.ref b262), .val (.int (2 : Int32))] [(.int (2 : Int32))])
        refine own_via ?_ fun _ kt => XS.ifNo X277.here hx rfl (hb hby at_243) rfl ((if0 _ _).trans (tlt (by decide : ((0 : Int32) < (2 : Int32)))).2.2.2) kt
        show Go _ _ _ _ _ _ _ _ (mkF m 246 #[.val (.int sel), .val (.int a), .val (.int b), .val (.int c_), .val (.int x_), .val (.int (3 : Int32)), .val (.int pk), .val (.int item), .val (.ref b2), .val (.ref b253), .val (.int (2 : Int32)), .val (.ref b262), .val (.int (2 : Int32))] [])
        refine own_via ?_ fun _ kt => XS.aload X277.here hx rfl (hb hby at_246) rfl rfl kt
        show Go _ _ _ _ _ _ _ _ (mkF m 248 #[.val (.int sel), .val (.int a), .val (.int b), .val (.int c_), .val (.int x_), .val (.int (3 : Int32)), .val (.int pk), .val (.int item), .val (.ref b2), .val (.ref b253), .val (.int (2 : Int32)), .val (.ref b262), .val (.int (2 : Int32))] [(.ref b2)])
        obtain ⟨T279, X279, e279, st279⟩ := getF X277 hx hZ hown (host := "") (Or.inl (hw _ (List.mem_of_getElem? (i := 22) rfl))) Via.refl e277 p180_Fi (g := (mkF m 248 #[.val (.int sel), .val (.int a), .val (.int b), .val (.int c_), .val (.int x_), .val (.int (3 : Int32)), .val (.int pk), .val (.int item), .val (.ref b2), .val (.ref b253), .val (.int (2 : Int32)), .val (.ref b262), .val (.int (2 : Int32))] [(.ref b2)])) rfl rfl (hb hby at_248)
        refine own_via ?_ st279
        show Go _ _ _ _ _ _ _ _ (mkF m 251 #[.val (.int sel), .val (.int a), .val (.int b), .val (.int c_), .val (.int x_), .val (.int (3 : Int32)), .val (.int pk), .val (.int item), .val (.ref b2), .val (.ref b253), .val (.int (2 : Int32)), .val (.ref b262), .val (.int (2 : Int32))] [(.ref ba)])
        refine own_via ?_ fun _ kt => XS.iconst X279.here hx rfl (hb hby at_251) kt
        show Go _ _ _ _ _ _ _ _ (mkF m 252 #[.val (.int sel), .val (.int a), .val (.int b), .val (.int c_), .val (.int x_), .val (.int (3 : Int32)), .val (.int pk), .val (.int item), .val (.ref b2), .val (.ref b253), .val (.int (2 : Int32)), .val (.ref b262), .val (.int (2 : Int32))] [(.int (0 : Int32)), (.ref ba)])
        obtain ⟨cl280, Ar280, Aq280, AS280, AN280, AH280, AG280⟩ := p180_V
        have p180_V : Arv Z h275 ba ka .int (4 : Int32) [(.int a), (.int b), (.int c_), (.int (0 : Int32))] (.int (0 : Int32)) := ⟨cl280, Ar280, Aq280, AS280, AN280, AH280, AG280⟩
        have hin281 : ¬ ((0 : Int32) < 0 ∨ cl280.slots.size ≤ ((0 : Int32)).toNatClampNeg) := (inb_of AS280 ⟨by decide, by decide⟩)
        have hat281 : cl280.slots[((0 : Int32)).toNatClampNeg]? = some (.int a) := (AH280.at hin281 rfl)
        refine own_via ?_ fun _ kt => X279.iaload hx (j := (0 : Int32)) (v := (.int a)) (by rw [e279]; exact Ar280.1) (State.isArrayOf_alike hZ.alike Ar280.2.1) Ar280.2.2 hin281 hat281 (g := (mkF m 252 #[.val (.int sel), .val (.int a), .val (.int b), .val (.int c_), .val (.int x_), .val (.int (3 : Int32)), .val (.int pk), .val (.int item), .val (.ref b2), .val (.ref b253), .val (.int (2 : Int32)), .val (.ref b262), .val (.int (2 : Int32))] [(.int (0 : Int32)), (.ref ba)])) rfl rfl (hb hby at_252) _ kt
        show Go _ _ _ _ _ _ _ _ (mkF m 253 #[.val (.int sel), .val (.int a), .val (.int b), .val (.int c_), .val (.int x_), .val (.int (3 : Int32)), .val (.int pk), .val (.int item), .val (.ref b2), .val (.ref b253), .val (.int (2 : Int32)), .val (.ref b262), .val (.int (2 : Int32))] [(.int a)])
        refine own_via ?_ fun _ kt => XS.aload X279.here hx rfl (hb hby at_253) rfl rfl kt
        show Go _ _ _ _ _ _ _ _ (mkF m 255 #[.val (.int sel), .val (.int a), .val (.int b), .val (.int c_), .val (.int x_), .val (.int (3 : Int32)), .val (.int pk), .val (.int item), .val (.ref b2), .val (.ref b253), .val (.int (2 : Int32)), .val (.ref b262), .val (.int (2 : Int32))] [(.ref b262), (.int a)])
        refine own_via ?_ fun _ kt => XS.iconst X279.here hx rfl (hb hby at_255) kt
        show Go _ _ _ _ _ _ _ _ (mkF m 256 #[.val (.int sel), .val (.int a), .val (.int b), .val (.int c_), .val (.int x_), .val (.int (3 : Int32)), .val (.int pk), .val (.int item), .val (.ref b2), .val (.ref b253), .val (.int (2 : Int32)), .val (.ref b262), .val (.int (2 : Int32))] [(.int (0 : Int32)), (.ref b262), (.int a)])
        obtain ⟨cl282, Ar282, Aq282, AS282, AN282, AH282, AG282⟩ := V275
        have V275 : Arv Z h275 b262 k262 .int (3 : Int32) [(.int a), (.int b), (.int c_)] (.int (0 : Int32)) := ⟨cl282, Ar282, Aq282, AS282, AN282, AH282, AG282⟩
        have hin283 : ¬ ((0 : Int32) < 0 ∨ cl282.slots.size ≤ ((0 : Int32)).toNatClampNeg) := (inb_of AS282 ⟨by decide, by decide⟩)
        have hat283 : cl282.slots[((0 : Int32)).toNatClampNeg]? = some (.int a) := (AH282.at hin283 rfl)
        refine own_via ?_ fun _ kt => X279.iaload hx (j := (0 : Int32)) (v := (.int a)) (by rw [e279]; exact Ar282.1) (State.isArrayOf_alike hZ.alike Ar282.2.1) Ar282.2.2 hin283 hat283 (g := (mkF m 256 #[.val (.int sel), .val (.int a), .val (.int b), .val (.int c_), .val (.int x_), .val (.int (3 : Int32)), .val (.int pk), .val (.int item), .val (.ref b2), .val (.ref b253), .val (.int (2 : Int32)), .val (.ref b262), .val (.int (2 : Int32))] [(.int (0 : Int32)), (.ref b262), (.int a)])) rfl rfl (hb hby at_256) _ kt
        show Go _ _ _ _ _ _ _ _ (mkF m 257 #[.val (.int sel), .val (.int a), .val (.int b), .val (.int c_), .val (.int x_), .val (.int (3 : Int32)), .val (.int pk), .val (.int item), .val (.ref b2), .val (.ref b253), .val (.int (2 : Int32)), .val (.ref b262), .val (.int (2 : Int32))] [(.int a), (.int a)])
        refine own_via ?_ fun _ kt => XS.icmpYes X279.here hx rfl (pc0 := 257) (pc' := 262) rfl (hb hby at_257) rfl (teq rfl).1 (by decide) (by decide) kt
        show Go _ _ _ _ _ _ _ _ (mkF m 262 #[.val (.int sel), .val (.int a), .val (.int b), .val (.int c_), .val (.int x_), .val (.int (3 : Int32)), .val (.int pk), .val (.int item), .val (.ref b2), .val (.ref b253), .val (.int (2 : Int32)), .val (.ref b262), .val (.int (2 : Int32))] [])
        refine own_via ?_ fun _ kt => XS.iload X279.here hx rfl (hb hby at_262) rfl kt
        show Go _ _ _ _ _ _ _ _ (mkF m 264 #[.val (.int sel), .val (.int a), .val (.int b), .val (.int c_), .val (.int x_), .val (.int (3 : Int32)), .val (.int pk), .val (.int item), .val (.ref b2), .val (.ref b253), .val (.int (2 : Int32)), .val (.ref b262), .val (.int (2 : Int32))] [(.int (2 : Int32))])
        refine own_via ?_ fun _ kt => XS.iconst X279.here hx rfl (hb hby at_264) kt
        show Go _ _ _ _ _ _ _ _ (mkF m 265 #[.val (.int sel), .val (.int a), .val (.int b), .val (.int c_), .val (.int x_), .val (.int (3 : Int32)), .val (.int pk), .val (.int item), .val (.ref b2), .val (.ref b253), .val (.int (2 : Int32)), .val (.ref b262), .val (.int (2 : Int32))] [(.int (1 : Int32)), (.int (2 : Int32))])
        refine own_via ?_ fun _ kt => XS.icmpNo X279.here hx rfl (hb hby at_265) rfl (tlt (by decide : ((1 : Int32) < (2 : Int32)))).2.2.2 kt
        show Go _ _ _ _ _ _ _ _ (mkF m 268 #[.val (.int sel), .val (.int a), .val (.int b), .val (.int c_), .val (.int x_), .val (.int (3 : Int32)), .val (.int pk), .val (.int item), .val (.ref b2), .val (.ref b253), .val (.int (2 : Int32)), .val (.ref b262), .val (.int (2 : Int32))] [])
        refine own_via ?_ fun _ kt => XS.aload X279.here hx rfl (hb hby at_268) rfl rfl kt
        show Go _ _ _ _ _ _ _ _ (mkF m 270 #[.val (.int sel), .val (.int a), .val (.int b), .val (.int c_), .val (.int x_), .val (.int (3 : Int32)), .val (.int pk), .val (.int item), .val (.ref b2), .val (.ref b253), .val (.int (2 : Int32)), .val (.ref b262), .val (.int (2 : Int32))] [(.ref b2)])
        obtain ⟨T284, X284, e284, st284⟩ := getF X279 hx hZ hown (host := "") (Or.inl (hw _ (List.mem_of_getElem? (i := 22) rfl))) Via.refl e279 p180_Fi (g := (mkF m 270 #[.val (.int sel), .val (.int a), .val (.int b), .val (.int c_), .val (.int x_), .val (.int (3 : Int32)), .val (.int pk), .val (.int item), .val (.ref b2), .val (.ref b253), .val (.int (2 : Int32)), .val (.ref b262), .val (.int (2 : Int32))] [(.ref b2)])) rfl rfl (hb hby at_270)
        refine own_via ?_ st284
        show Go _ _ _ _ _ _ _ _ (mkF m 273 #[.val (.int sel), .val (.int a), .val (.int b), .val (.int c_), .val (.int x_), .val (.int (3 : Int32)), .val (.int pk), .val (.int item), .val (.ref b2), .val (.ref b253), .val (.int (2 : Int32)), .val (.ref b262), .val (.int (2 : Int32))] [(.ref ba)])
        refine own_via ?_ fun _ kt => XS.iconst X284.here hx rfl (hb hby at_273) kt
        show Go _ _ _ _ _ _ _ _ (mkF m 274 #[.val (.int sel), .val (.int a), .val (.int b), .val (.int c_), .val (.int x_), .val (.int (3 : Int32)), .val (.int pk), .val (.int item), .val (.ref b2), .val (.ref b253), .val (.int (2 : Int32)), .val (.ref b262), .val (.int (2 : Int32))] [(.int (1 : Int32)), (.ref ba)])
        obtain ⟨cl285, Ar285, Aq285, AS285, AN285, AH285, AG285⟩ := p180_V
        have p180_V : Arv Z h275 ba ka .int (4 : Int32) [(.int a), (.int b), (.int c_), (.int (0 : Int32))] (.int (0 : Int32)) := ⟨cl285, Ar285, Aq285, AS285, AN285, AH285, AG285⟩
        have hin286 : ¬ ((1 : Int32) < 0 ∨ cl285.slots.size ≤ ((1 : Int32)).toNatClampNeg) := (inb_of AS285 ⟨by decide, by decide⟩)
        have hat286 : cl285.slots[((1 : Int32)).toNatClampNeg]? = some (.int b) := (AH285.at hin286 rfl)
        refine own_via ?_ fun _ kt => X284.iaload hx (j := (1 : Int32)) (v := (.int b)) (by rw [e284]; exact Ar285.1) (State.isArrayOf_alike hZ.alike Ar285.2.1) Ar285.2.2 hin286 hat286 (g := (mkF m 274 #[.val (.int sel), .val (.int a), .val (.int b), .val (.int c_), .val (.int x_), .val (.int (3 : Int32)), .val (.int pk), .val (.int item), .val (.ref b2), .val (.ref b253), .val (.int (2 : Int32)), .val (.ref b262), .val (.int (2 : Int32))] [(.int (1 : Int32)), (.ref ba)])) rfl rfl (hb hby at_274) _ kt
        show Go _ _ _ _ _ _ _ _ (mkF m 275 #[.val (.int sel), .val (.int a), .val (.int b), .val (.int c_), .val (.int x_), .val (.int (3 : Int32)), .val (.int pk), .val (.int item), .val (.ref b2), .val (.ref b253), .val (.int (2 : Int32)), .val (.ref b262), .val (.int (2 : Int32))] [(.int b)])
        refine own_via ?_ fun _ kt => XS.aload X284.here hx rfl (hb hby at_275) rfl rfl kt
        show Go _ _ _ _ _ _ _ _ (mkF m 277 #[.val (.int sel), .val (.int a), .val (.int b), .val (.int c_), .val (.int x_), .val (.int (3 : Int32)), .val (.int pk), .val (.int item), .val (.ref b2), .val (.ref b253), .val (.int (2 : Int32)), .val (.ref b262), .val (.int (2 : Int32))] [(.ref b262), (.int b)])
        refine own_via ?_ fun _ kt => XS.iconst X284.here hx rfl (hb hby at_277) kt
        show Go _ _ _ _ _ _ _ _ (mkF m 278 #[.val (.int sel), .val (.int a), .val (.int b), .val (.int c_), .val (.int x_), .val (.int (3 : Int32)), .val (.int pk), .val (.int item), .val (.ref b2), .val (.ref b253), .val (.int (2 : Int32)), .val (.ref b262), .val (.int (2 : Int32))] [(.int (1 : Int32)), (.ref b262), (.int b)])
        obtain ⟨cl287, Ar287, Aq287, AS287, AN287, AH287, AG287⟩ := V275
        have V275 : Arv Z h275 b262 k262 .int (3 : Int32) [(.int a), (.int b), (.int c_)] (.int (0 : Int32)) := ⟨cl287, Ar287, Aq287, AS287, AN287, AH287, AG287⟩
        have hin288 : ¬ ((1 : Int32) < 0 ∨ cl287.slots.size ≤ ((1 : Int32)).toNatClampNeg) := (inb_of AS287 ⟨by decide, by decide⟩)
        have hat288 : cl287.slots[((1 : Int32)).toNatClampNeg]? = some (.int b) := (AH287.at hin288 rfl)
        refine own_via ?_ fun _ kt => X284.iaload hx (j := (1 : Int32)) (v := (.int b)) (by rw [e284]; exact Ar287.1) (State.isArrayOf_alike hZ.alike Ar287.2.1) Ar287.2.2 hin288 hat288 (g := (mkF m 278 #[.val (.int sel), .val (.int a), .val (.int b), .val (.int c_), .val (.int x_), .val (.int (3 : Int32)), .val (.int pk), .val (.int item), .val (.ref b2), .val (.ref b253), .val (.int (2 : Int32)), .val (.ref b262), .val (.int (2 : Int32))] [(.int (1 : Int32)), (.ref b262), (.int b)])) rfl rfl (hb hby at_278) _ kt
        show Go _ _ _ _ _ _ _ _ (mkF m 279 #[.val (.int sel), .val (.int a), .val (.int b), .val (.int c_), .val (.int x_), .val (.int (3 : Int32)), .val (.int pk), .val (.int item), .val (.ref b2), .val (.ref b253), .val (.int (2 : Int32)), .val (.ref b262), .val (.int (2 : Int32))] [(.int b), (.int b)])
        refine own_via ?_ fun _ kt => XS.icmpYes X284.here hx rfl (pc0 := 279) (pc' := 284) rfl (hb hby at_279) rfl (teq rfl).1 (by decide) (by decide) kt
        show Go _ _ _ _ _ _ _ _ (mkF m 284 #[.val (.int sel), .val (.int a), .val (.int b), .val (.int c_), .val (.int x_), .val (.int (3 : Int32)), .val (.int pk), .val (.int item), .val (.ref b2), .val (.ref b253), .val (.int (2 : Int32)), .val (.ref b262), .val (.int (2 : Int32))] [])
        refine own_via ?_ fun _ kt => XS.iload X284.here hx rfl (hb hby at_284) rfl kt
        show Go _ _ _ _ _ _ _ _ (mkF m 286 #[.val (.int sel), .val (.int a), .val (.int b), .val (.int c_), .val (.int x_), .val (.int (3 : Int32)), .val (.int pk), .val (.int item), .val (.ref b2), .val (.ref b253), .val (.int (2 : Int32)), .val (.ref b262), .val (.int (2 : Int32))] [(.int (2 : Int32))])
        refine own_via ?_ fun _ kt => XS.iconst X284.here hx rfl (hb hby at_286) kt
        show Go _ _ _ _ _ _ _ _ (mkF m 287 #[.val (.int sel), .val (.int a), .val (.int b), .val (.int c_), .val (.int x_), .val (.int (3 : Int32)), .val (.int pk), .val (.int item), .val (.ref b2), .val (.ref b253), .val (.int (2 : Int32)), .val (.ref b262), .val (.int (2 : Int32))] [(.int (2 : Int32)), (.int (2 : Int32))])
        refine own_via ?_ fun _ kt => XS.icmpYes X284.here hx rfl (pc0 := 287) (pc' := 306) rfl (hb hby at_287) rfl (flt (by decide : ¬ ((2 : Int32) < (2 : Int32)))).2.2.2 (by decide) (by decide) kt
        show Go _ _ _ _ _ _ _ _ (mkF m 306 #[.val (.int sel), .val (.int a), .val (.int b), .val (.int c_), .val (.int x_), .val (.int (3 : Int32)), .val (.int pk), .val (.int item), .val (.ref b2), .val (.ref b253), .val (.int (2 : Int32)), .val (.ref b262), .val (.int (2 : Int32))] [])
        refine own_via ?_ fun _ kt => XS.iconst X284.here hx rfl (hb hby at_306) kt
        show Go _ _ _ _ _ _ _ _ (mkF m 307 #[.val (.int sel), .val (.int a), .val (.int b), .val (.int c_), .val (.int x_), .val (.int (3 : Int32)), .val (.int pk), .val (.int item), .val (.ref b2), .val (.ref b253), .val (.int (2 : Int32)), .val (.ref b262), .val (.int (2 : Int32))] [(.int (1 : Int32))])
        exact own_retZ (z' := (1 : Int32)) X284 hx hret hlk (hb hby at_307) rfl (by decide) (by decide) (by rw [e284]; exact ⟨rfl, N275⟩)
      · skip
        show Go _ _ _ _ _ _ _ _ (mkF m 102 #[.val (.int sel), .val (.int a), .val (.int b), .val (.int c_), .val (.int x_), .val (.int (3 : Int32)), .val (.int pk), .val (.int item), .val (.ref b2), .unset, .unset, .unset, .unset] [])
        refine own_via ?_ fun _ kt => XS.iconst X180.here hx rfl (hb hby at_102) kt
        show Go _ _ _ _ _ _ _ _ (mkF m 103 #[.val (.int sel), .val (.int a), .val (.int b), .val (.int c_), .val (.int x_), .val (.int (3 : Int32)), .val (.int pk), .val (.int item), .val (.ref b2), .unset, .unset, .unset, .unset] [(.int (3 : Int32))])
        obtain ⟨T289, h289, k289, X289, e289, E289, A289, st289⟩ := newP X180 hx hZ (hw _ (List.mem_of_getElem? (i := 20) rfl)) e180 (g := (mkF m 103 #[.val (.int sel), .val (.int a), .val (.int b), .val (.int c_), .val (.int x_), .val (.int (3 : Int32)), .val (.int pk), .val (.int item), .val (.ref b2), .unset, .unset, .unset, .unset] [(.int (3 : Int32))])) rfl (hb hby at_103) rfl (by decide) (cap := 3) (by decide) (by decide) (by decide) (by decide)
        obtain ⟨b289, g289⟩ : ∃ z, z = h180.size := ⟨_, rfl⟩
        rw [← g289] at A289 st289
        have ne290 : b2 ≠ b289 := by rw [g289]; exact Nat.ne_of_lt p180_E.lt
        have ne291 : ba ≠ b289 := by rw [g289]; exact Nat.ne_of_lt p180_V.lt
        have g_b289 : n0 ≤ b289 := by rw [g289]; exact Z0
        replace p180_E := p180_E.ext E289
        replace p180_Fs := p180_Fs.ext E289
        replace p180_Fi := p180_Fi.ext E289
        replace p180_V := p180_V.ext E289
        replace Z0 := Nat.le_trans Z0 E289.1
        replace O := O.ext E289
        have V289 : Arv Z h289 b289 k289 .int (3 : Int32) [(.int (0 : Int32)), (.int (0 : Int32)), (.int (0 : Int32))] (.int (0 : Int32)) := (Arv.new A289 (by decide)).pad (pad_rep [] (.int (0 : Int32)) 3)
        refine own_via ?_ st289
        show Go _ _ _ _ _ _ _ _ (mkF m 105 #[.val (.int sel), .val (.int a), .val (.int b), .val (.int c_), .val (.int x_), .val (.int (3 : Int32)), .val (.int pk), .val (.int item), .val (.ref b2), .unset, .unset, .unset, .unset] [(.ref b289)])
        refine own_via ?_ fun _ kt => XS.dup X289.here hx rfl (hb hby at_105) rfl rfl kt
        show Go _ _ _ _ _ _ _ _ (mkF m 106 #[.val (.int sel), .val (.int a), .val (.int b), .val (.int c_), .val (.int x_), .val (.int (3 : Int32)), .val (.int pk), .val (.int item), .val (.ref b2), .unset, .unset, .unset, .unset] [(.ref b289), (.ref b289)])
        refine own_via ?_ fun _ kt => XS.iconst X289.here hx rfl (hb hby at_106) kt
        show Go _ _ _ _ _ _ _ _ (mkF m 107 #[.val (.int sel), .val (.int a), .val (.int b), .val (.int c_), .val (.int x_), .val (.int (3 : Int32)), .val (.int pk), .val (.int item), .val (.ref b2), .unset, .unset, .unset, .unset] [(.int (0 : Int32)), (.ref b289), (.ref b289)])
        refine own_via ?_ fun _ kt => XS.iloadN X289.here hx rfl (hb hby at_107) rfl kt
        show Go _ _ _ _ _ _ _ _ (mkF m 108 #[.val (.int sel), .val (.int a), .val (.int b), .val (.int c_), .val (.int x_), .val (.int (3 : Int32)), .val (.int pk), .val (.int item), .val (.ref b2), .unset, .unset, .unset, .unset] [(.int a), (.int (0 : Int32)), (.ref b289), (.ref b289)])
        obtain ⟨cl292, Ar292, Aq292, AS292, AN292, AH292, AG292⟩ := V289
        have hin293 : ¬ ((0 : Int32) < 0 ∨ cl292.slots.size ≤ ((0 : Int32)).toNatClampNeg) := (inb_of AS292 ⟨by decide, by decide⟩)
        obtain ⟨T293, h293, X293, e293, W293, st293⟩ := stI X289 hx hZ e289 Ar292 (j := (0 : Int32)) hin293 (g := (mkF m 108 #[.val (.int sel), .val (.int a), .val (.int b), .val (.int c_), .val (.int x_), .val (.int (3 : Int32)), .val (.int pk), .val (.int item), .val (.ref b2), .unset, .unset, .unset, .unset] [(.int a), (.int (0 : Int32)), (.ref b289), (.ref b289)])) rfl rfl (hb hby at_108)
        have N293 := Fr.snoc X293 N180 g_b289
        have V293 : Arv Z h293 b289 k289 .int (3 : Int32) [(.int a), (.int (0 : Int32)), (.int (0 : Int32))] (.int (0 : Int32)) := Arv.set Ar292 Aq292 AS292 AN292 AH292 AG292 rfl W293 0 rfl (Nat.le_of_ble_eq_true rfl)
        replace p180_E := p180_E.wr W293
        replace p180_Fs := p180_Fs.other W293 (Or.inl ne290)
        replace p180_Fi := p180_Fi.other W293 (Or.inl ne290)
        replace p180_V := p180_V.other W293 ne291
        replace Z0 := Nat.le_trans Z0 (Keep.of_wr W293).1
        replace O := O.wr W293 g_b289
        refine own_via ?_ st293
        show Go _ _ _ _ _ _ _ _ (mkF m 109 #[.val (.int sel), .val (.int a), .val (.int b), .val (.int c_), .val (.int x_), .val (.int (3 : Int32)), .val (.int pk), .val (.int item), .val (.ref b2), .unset, .unset, .unset, .unset] [(.ref b289)])
        refine own_via ?_ fun _ kt => XS.dup X293.here hx rfl (hb hby at_109) rfl rfl kt
        show Go _ _ _ _ _ _ _ _ (mkF m 110 #[.val (.int sel), .val (.int a), .val (.int b), .val (.int c_), .val (.int x_), .val (.int (3 : Int32)), .val (.int pk), .val (.int item), .val (.ref b2), .unset, .unset, .unset, .unset] [(.ref b289), (.ref b289)])
        refine own_via ?_ fun _ kt => XS.iconst X293.here hx rfl (hb hby at_110) kt
        show Go _ _ _ _ _ _ _ _ (mkF m 111 #[.val (.int sel), .val (.int a), .val (.int b), .val (.int c_), .val (.int x_), .val (.int (3 : Int32)), .val (.int pk), .val (.int item), .val (.ref b2), .unset, .unset, .unset, .unset] [(.int (1 : Int32)), (.ref b289), (.ref b289)])
        refine own_via ?_ fun _ kt => XS.iloadN X293.here hx rfl (hb hby at_111) rfl kt
        show Go _ _ _ _ _ _ _ _ (mkF m 112 #[.val (.int sel), .val (.int a), .val (.int b), .val (.int c_), .val (.int x_), .val (.int (3 : Int32)), .val (.int pk), .val (.int item), .val (.ref b2), .unset, .unset, .unset, .unset] [(.int b), (.int (1 : Int32)), (.ref b289), (.ref b289)])
        obtain ⟨cl294, Ar294, Aq294, AS294, AN294, AH294, AG294⟩ := V293
        have hin295 : ¬ ((1 : Int32) < 0 ∨ cl294.slots.size ≤ ((1 : Int32)).toNatClampNeg) := (inb_of AS294 ⟨by decide, by decide⟩)
        obtain ⟨T295, h295, X295, e295, W295, st295⟩ := stI X293 hx hZ e293 Ar294 (j := (1 : Int32)) hin295 (g := (mkF m 112 #[.val (.int sel), .val (.int a), .val (.int b), .val (.int c_), .val (.int x_), .val (.int (3 : Int32)), .val (.int pk), .val (.int item), .val (.ref b2), .unset, .unset, .unset, .unset] [(.int b), (.int (1 : Int32)), (.ref b289), (.ref b289)])) rfl rfl (hb hby at_112)
        have N295 := Fr.snoc X295 N293 g_b289
        have V295 : Arv Z h295 b289 k289 .int (3 : Int32) [(.int a), (.int b), (.int (0 : Int32))] (.int (0 : Int32)) := Arv.set Ar294 Aq294 AS294 AN294 AH294 AG294 rfl W295 1 rfl (Nat.le_of_ble_eq_true rfl)
        replace p180_E := p180_E.wr W295
        replace p180_Fs := p180_Fs.other W295 (Or.inl ne290)
        replace p180_Fi := p180_Fi.other W295 (Or.inl ne290)
        replace p180_V := p180_V.other W295 ne291
        replace Z0 := Nat.le_trans Z0 (Keep.of_wr W295).1
        replace O := O.wr W295 g_b289
        refine own_via ?_ st295
        show Go _ _ _ _ _ _ _ _ (mkF m 113 #[.val (.int sel), .val (.int a), .val (.int b), .val (.int c_), .val (.int x_), .val (.int (3 : Int32)), .val (.int pk), .val (.int item), .val (.ref b2), .unset, .unset, .unset, .unset] [(.ref b289)])
        refine own_via ?_ fun _ kt => XS.dup X295.here hx rfl (hb hby at_113) rfl rfl kt
        show Go _ _ _ _ _ _ _ _ (mkF m 114 #[.val (.int sel), .val (.int a), .val (.int b), .val (.int c_), .val (.int x_), .val (.int (3 : Int32)), .val (.int pk), .val (.int item), .val (.ref b2), .unset, .unset, .unset, .unset] [(.ref b289), (.ref b289)])
        refine own_via ?_ fun _ kt => XS.iconst X295.here hx rfl (hb hby at_114) kt
        show Go _ _ _ _ _ _ _ _ (mkF m 115 #[.val (.int sel), .val (.int a), .val (.int b), .val (.int c_), .val (.int x_), .val (.int (3 : Int32)), .val (.int pk), .val (.int item), .val (.ref b2), .unset, .unset, .unset, .unset] [(.int (2 : Int32)), (.ref b289), (.ref b289)])
        refine own_via ?_ fun _ kt => XS.iloadN X295.here hx rfl (hb hby at_115) rfl kt
        show Go _ _ _ _ _ _ _ _ (mkF m 116 #[.val (.int sel), .val (.int a), .val (.int b), .val (.int c_), .val (.int x_), .val (.int (3 : Int32)), .val (.int pk), .val (.int item), .val (.ref b2), .unset, .unset, .unset, .unset] [(.int c_), (.int (2 : Int32)), (.ref b289), (.ref b289)])
        obtain ⟨cl296, Ar296, Aq296, AS296, AN296, AH296, AG296⟩ := V295
        have hin297 : ¬ ((2 : Int32) < 0 ∨ cl296.slots.size ≤ ((2 : Int32)).toNatClampNeg) := (inb_of AS296 ⟨by decide, by decide⟩)
        obtain ⟨T297, h297, X297, e297, W297, st297⟩ := stI X295 hx hZ e295 Ar296 (j := (2 : Int32)) hin297 (g := (mkF m 116 #[.val (.int sel), .val (.int a), .val (.int b), .val (.int c_), .val (.int x_), .val (.int (3 : Int32)), .val (.int pk), .val (.int item), .val (.ref b2), .unset, .unset, .unset, .unset] [(.int c_), (.int (2 : Int32)), (.ref b289), (.ref b289)])) rfl rfl (hb hby at_116)
        have N297 := Fr.snoc X297 N295 g_b289
        have V297 : Arv Z h297 b289 k289 .int (3 : Int32) [(.int a), (.int b), (.int c_)] (.int (0 : Int32)) := Arv.set Ar296 Aq296 AS296 AN296 AH296 AG296 rfl W297 2 rfl (Nat.le_of_ble_eq_true rfl)
        replace p180_E := p180_E.wr W297
        replace p180_Fs := p180_Fs.other W297 (Or.inl ne290)
        replace p180_Fi := p180_Fi.other W297 (Or.inl ne290)
        replace p180_V := p180_V.other W297 ne291
        replace Z0 := Nat.le_trans Z0 (Keep.of_wr W297).1
        replace O := O.wr W297 g_b289
        refine own_via ?_ st297
        show Go _ _ _ _ _ _ _ _ (mkF m 117 #[.val (.int sel), .val (.int a), .val (.int b), .val (.int c_), .val (.int x_), .val (.int (3 : Int32)), .val (.int pk), .val (.int item), .val (.ref b2), .unset, .unset, .unset, .unset] [(.ref b289)])
        refine own_via ?_ fun _ kt => XS.astore X297.here hx rfl (hb hby at_117) rfl rfl (l' := #[.val (.int sel), .val (.int a), .val (.int b), .val (.int c_), .val (.int x_), .val (.int (3 : Int32)), .val (.int pk), .val (.int item), .val (.ref b2), .val (.ref b289), .unset, .unset, .unset]) rfl kt
        show Go _ _ _ _ _ _ _ _ (mkF m 119 #[.val (.int sel), .val (.int a), .val (.int b), .val (.int c_), .val (.int x_), .val (.int (3 : Int32)), .val (.int pk), .val (.int item), .val (.ref b2), .val (.ref b289), .unset, .unset, .unset] [])
        refine own_via ?_ fun _ kt => XS.iconst X297.here hx rfl (hb hby at_119) kt
        show Go _ _ _ _ _ _ _ _ (mkF m 120 #[.val (.int sel), .val (.int a), .val (.int b), .val (.int c_), .val (.int x_), .val (.int (3 : Int32)), .val (.int pk), .val (.int item), .val (.ref b2), .val (.ref b289), .unset, .unset, .unset] [(.int (-1 : Int32))])
        refine own_via ?_ fun _ kt => XS.istore X297.here hx rfl (hb hby at_120) rfl (l' := #[.val (.int sel), .val (.int a), .val (.int b), .val (.int c_), .val (.int x_), .val (.int (3 : Int32)), .val (.int pk), .val (.int item), .val (.ref b2), .val (.ref b289), .val (.int (-1 : Int32)), .unset, .unset]) rfl kt
        show Go _ _ _ _ _ _ _ _ (mkF m 122 #[.val (.int sel), .val (.int a), .val (.int b), .val (.int c_), .val (.int x_), .val (.int (3 : Int32)), .val (.int pk), .val (.int item), .val (.ref b2), .val (.ref b289), .val (.int (-1 : Int32)), .unset, .unset] [])
        refine own_via ?_ fun _ kt => XS.iload X297.here hx rfl (hb hby at_122) rfl kt
        show Go _ _ _ _ _ _ _ _ (mkF m 124 #[.val (.int sel), .val (.int a), .val (.int b), .val (.int c_), .val (.int x_), .val (.int (3 : Int32)), .val (.int pk), .val (.int item), .val (.ref b2), .val (.ref b289), .val (.int (-1 : Int32)), .unset, .unset] [(.int (3 : Int32))])
        refine own_via ?_ fun _ kt => XS.ifNo X297.here hx rfl (hb hby at_124) rfl ((if0 _ _).trans (tlt (by decide : ((0 : Int32) < (3 : Int32)))).2.2.2) kt
        show Go _ _ _ _ _ _ _ _ (mkF m 127 #[.val (.int sel), .val (.int a), .val (.int b), .val (.int c_), .val (.int x_), .val (.int (3 : Int32)), .val (.int pk), .val (.int item), .val (.ref b2), .val (.ref b289), .val (.int (-1 : Int32)), .unset, .unset] [])
        refine own_via ?_ fun _ kt => XS.iloadN X297.here hx rfl (hb hby at_127) rfl kt
        show Go _ _ _ _ _ _ _ _ (mkF m 128 #[.val (.int sel), .val (.int a), .val (.int b), .val (.int c_), .val (.int x_), .val (.int (3 : Int32)), .val (.int pk), .val (.int item), .val (.ref b2), .val (.ref b289), .val (.int (-1 : Int32)), .unset, .unset] [(.int a)])
        refine own_via ?_ fun _ kt => XS.iload X297.here hx rfl (hb hby at_128) rfl kt
        show Go _ _ _ _ _ _ _ _ (mkF m 130 #[.val (.int sel), .val (.int a), .val (.int b), .val (.int c_), .val (.int x_), .val (.int (3 : Int32)), .val (.int pk), .val (.int item), .val (.ref b2), .val (.ref b289), .val (.int (-1 : Int32)), .unset, .unset] [(.int item), (.int a)])
        refine own_via ?_ fun _ kt => XS.icmpYes X297.here hx rfl (pc0 := 130) (pc' := 139) rfl (hb hby at_130) rfl (feq hv180_0).2 (by decide) (by decide) kt
        show Go _ _ _ _ _ _ _ _ (mkF m 139 #[.val (.int sel), .val (.int a), .val (.int b), .val (.int c_), .val (.int x_), .val (.int (3 : Int32)), .val (.int pk), .val (.int item), .val (.ref b2), .val (.ref b289), .val (.int (-1 : Int32)), .unset, .unset] [])
        refine own_via ?_ fun _ kt => XS.iload X297.here hx rfl (hb hby at_139) rfl kt
        show Go _ _ _ _ _ _ _ _ (mkF m 141 #[.val (.int sel), .val (.int a), .val (.int b), .val (.int c_), .val (.int x_), .val (.int (3 : Int32)), .val (.int pk), .val (.int item), .val (.ref b2), .val (.ref b289), .val (.int (-1 : Int32)), .unset, .unset] [(.int (3 : Int32))])
        refine own_via ?_ fun _ kt => XS.iconst X297.here hx rfl (hb hby at_141) kt
        show Go _ _ _ _ _ _ _ _ (mkF m 142 #[.val (.int sel), .val (.int a), .val (.int b), .val (.int c_), .val (.int x_), .val (.int (3 : Int32)), .val (.int pk), .val (.int item), .val (.ref b2), .val (.ref b289), .val (.int (-1 : Int32)), .unset, .unset] [(.int (1 : Int32)), (.int (3 : Int32))])
        refine own_via ?_ fun _ kt => XS.icmpNo X297.here hx rfl (hb hby at_142) rfl (tlt (by decide : ((1 : Int32) < (3 : Int32)))).2.2.2 kt
        show Go _ _ _ _ _ _ _ _ (mkF m 145 #[.val (.int sel), .val (.int a), .val (.int b), .val (.int c_), .val (.int x_), .val (.int (3 : Int32)), .val (.int pk), .val (.int item), .val (.ref b2), .val (.ref b289), .val (.int (-1 : Int32)), .unset, .unset] [])
        refine own_via ?_ fun _ kt => XS.iloadN X297.here hx rfl (hb hby at_145) rfl kt
        show Go _ _ _ _ _ _ _ _ (mkF m 146 #[.val (.int sel), .val (.int a), .val (.int b), .val (.int c_), .val (.int x_), .val (.int (3 : Int32)), .val (.int pk), .val (.int item), .val (.ref b2), .val (.ref b289), .val (.int (-1 : Int32)), .unset, .unset] [(.int b)])
        refine own_via ?_ fun _ kt => XS.iload X297.here hx rfl (hb hby at_146) rfl kt
        show Go _ _ _ _ _ _ _ _ (mkF m 148 #[.val (.int sel), .val (.int a), .val (.int b), .val (.int c_), .val (.int x_), .val (.int (3 : Int32)), .val (.int pk), .val (.int item), .val (.ref b2), .val (.ref b289), .val (.int (-1 : Int32)), .unset, .unset] [(.int item), (.int b)])
        refine own_via ?_ fun _ kt => XS.icmpYes X297.here hx rfl (pc0 := 148) (pc' := 157) rfl (hb hby at_148) rfl (feq hv180_1).2 (by decide) (by decide) kt
        show Go _ _ _ _ _ _ _ _ (mkF m 157 #[.val (.int sel), .val (.int a), .val (.int b), .val (.int c_), .val (.int x_), .val (.int (3 : Int32)), .val (.int pk), .val (.int item), .val (.ref b2), .val (.ref b289), .val (.int (-1 : Int32)), .unset, .unset] [])
        refine own_via ?_ fun _ kt => XS.iload X297.here hx rfl (hb hby at_157) rfl kt
        show Go _ _ _ _ _ _ _ _ (mkF m 159 #[.val (.int sel), .val (.int a), .val (.int b), .val (.int c_), .val (.int x_), .val (.int (3 : Int32)), .val (.int pk), .val (.int item), .val (.ref b2), .val (.ref b289), .val (.int (-1 : Int32)), .unset, .unset] [(.int (3 : Int32))])
        refine own_via ?_ fun _ kt => XS.iconst X297.here hx rfl (hb hby at_159) kt
        show Go _ _ _ _ _ _ _ _ (mkF m 160 #[.val (.int sel), .val (.int a), .val (.int b), .val (.int c_), .val (.int x_), .val (.int (3 : Int32)), .val (.int pk), .val (.int item), .val (.ref b2), .val (.ref b289), .val (.int (-1 : Int32)), .unset, .unset] [(.int (2 : Int32)), (.int (3 : Int32))])
        refine own_via ?_ fun _ kt => XS.icmpNo X297.here hx rfl (hb hby at_160) rfl (tlt (by decide : ((2 : Int32) < (3 : Int32)))).2.2.2 kt
        show Go _ _ _ _ _ _ _ _ (mkF m 163 #[.val (.int sel), .val (.int a), .val (.int b), .val (.int c_), .val (.int x_), .val (.int (3 : Int32)), .val (.int pk), .val (.int item), .val (.ref b2), .val (.ref b289), .val (.int (-1 : Int32)), .unset, .unset] [])
        refine own_via ?_ fun _ kt => XS.iloadN X297.here hx rfl (hb hby at_163) rfl kt
        show Go _ _ _ _ _ _ _ _ (mkF m 164 #[.val (.int sel), .val (.int a), .val (.int b), .val (.int c_), .val (.int x_), .val (.int (3 : Int32)), .val (.int pk), .val (.int item), .val (.ref b2), .val (.ref b289), .val (.int (-1 : Int32)), .unset, .unset] [(.int c_)])
        refine own_via ?_ fun _ kt => XS.iload X297.here hx rfl (hb hby at_164) rfl kt
        show Go _ _ _ _ _ _ _ _ (mkF m 166 #[.val (.int sel), .val (.int a), .val (.int b), .val (.int c_), .val (.int x_), .val (.int (3 : Int32)), .val (.int pk), .val (.int item), .val (.ref b2), .val (.ref b289), .val (.int (-1 : Int32)), .unset, .unset] [(.int item), (.int c_)])
        refine own_via ?_ fun _ kt => XS.icmpYes X297.here hx rfl (pc0 := 166) (pc' := 172) rfl (hb hby at_166) rfl (feq hv180_2).2 (by decide) (by decide) kt
        show Go _ _ _ _ _ _ _ _ (mkF m 172 #[.val (.int sel), .val (.int a), .val (.int b), .val (.int c_), .val (.int x_), .val (.int (3 : Int32)), .val (.int pk), .val (.int item), .val (.ref b2), .val (.ref b289), .val (.int (-1 : Int32)), .unset, .unset] [])
        refine own_via ?_ fun _ kt => XS.iconst X297.here hx rfl (hb hby at_172) kt
        show Go _ _ _ _ _ _ _ _ (mkF m 173 #[.val (.int sel), .val (.int a), .val (.int b), .val (.int c_), .val (.int x_), .val (.int (3 : Int32)), .val (.int pk), .val (.int item), .val (.ref b2), .val (.ref b289), .val (.int (-1 : Int32)), .unset, .unset] [(.int (3 : Int32))])
        obtain ⟨T298, h298, k298, X298, e298, E298, A298, st298⟩ := newP X297 hx hZ (hw _ (List.mem_of_getElem? (i := 20) rfl)) e297 (g := (mkF m 173 #[.val (.int sel), .val (.int a), .val (.int b), .val (.int c_), .val (.int x_), .val (.int (3 : Int32)), .val (.int pk), .val (.int item), .val (.ref b2), .val (.ref b289), .val (.int (-1 : Int32)), .unset, .unset] [(.int (3 : Int32))])) rfl (hb hby at_173) rfl (by decide) (cap := 3) (by decide) (by decide) (by decide) (by decide)
        obtain ⟨b298, g298⟩ : ∃ z, z = h297.size := ⟨_, rfl⟩
        rw [← g298] at A298 st298
        have ne299 : b2 ≠ b298 := by rw [g298]; exact Nat.ne_of_lt p180_E.lt
        have ne300 : ba ≠ b298 := by rw [g298]; exact Nat.ne_of_lt p180_V.lt
        have ne301 : b289 ≠ b298 := by rw [g298]; exact Nat.ne_of_lt V297.lt
        have g_b298 : n0 ≤ b298 := by rw [g298]; exact Z0
        replace p180_E := p180_E.ext E298
        replace p180_Fs := p180_Fs.ext E298
        replace p180_Fi := p180_Fi.ext E298
        replace p180_V := p180_V.ext E298
        replace V297 := V297.ext E298
        replace Z0 := Nat.le_trans Z0 E298.1
        replace O := O.ext E298
        have V298 : Arv Z h298 b298 k298 .int (3 : Int32) [(.int (0 : Int32)), (.int (0 : Int32)), (.int (0 : Int32))] (.int (0 : Int32)) := (Arv.new A298 (by decide)).pad (pad_rep [] (.int (0 : Int32)) 3)
        refine own_via ?_ st298
        show Go _ _ _ _ _ _ _ _ (mkF m 175 #[.val (.int sel), .val (.int a), .val (.int b), .val (.int c_), .val (.int x_), .val (.int (3 : Int32)), .val (.int pk), .val (.int item), .val (.ref b2), .val (.ref b289), .val (.int (-1 : Int32)), .unset, .unset] [(.ref b298)])
        refine own_via ?_ fun _ kt => XS.dup X298.here hx rfl (hb hby at_175) rfl rfl kt
        show Go _ _ _ _ _ _ _ _ (mkF m 176 #[.val (.int sel), .val (.int a), .val (.int b), .val (.int c_), .val (.int x_), .val (.int (3 : Int32)), .val (.int pk), .val (.int item), .val (.ref b2), .val (.ref b289), .val (.int (-1 : Int32)), .unset, .unset] [(.ref b298), (.ref b298)])
        refine own_via ?_ fun _ kt => XS.iconst X298.here hx rfl (hb hby at_176) kt
        show Go _ _ _ _ _ _ _ _ (mkF m 177 #[.val (.int sel), .val (.int a), .val (.int b), .val (.int c_), .val (.int x_), .val (.int (3 : Int32)), .val (.int pk), .val (.int item), .val (.ref b2), .val (.ref b289), .val (.int (-1 : Int32)), .unset, .unset] [(.int (0 : Int32)), (.ref b298), (.ref b298)])
        refine own_via ?_ fun _ kt => XS.iloadN X298.here hx rfl (hb hby at_177) rfl kt
        show Go _ _ _ _ _ _ _ _ (mkF m 178 #[.val (.int sel), .val (.int a), .val (.int b), .val (.int c_), .val (.int x_), .val (.int (3 : Int32)), .val (.int pk), .val (.int item), .val (.ref b2), .val (.ref b289), .val (.int (-1 : Int32)), .unset, .unset] [(.int a), (.int (0 : Int32)), (.ref b298), (.ref b298)])
        obtain ⟨cl302, Ar302, Aq302, AS302, AN302, AH302, AG302⟩ := V298
        have hin303 : ¬ ((0 : Int32) < 0 ∨ cl302.slots.size ≤ ((0 : Int32)).toNatClampNeg) := (inb_of AS302 ⟨by decide, by decide⟩)
        obtain ⟨T303, h303, X303, e303, W303, st303⟩ := stI X298 hx hZ e298 Ar302 (j := (0 : Int32)) hin303 (g := (mkF m 178 #[.val (.int sel), .val (.int a), .val (.int b), .val (.int c_), .val (.int x_), .val (.int (3 : Int32)), .val (.int pk), .val (.int item), .val (.ref b2), .val (.ref b289), .val (.int (-1 : Int32)), .unset, .unset] [(.int a), (.int (0 : Int32)), (.ref b298), (.ref b298)])) rfl rfl (hb hby at_178)
        have N303 := Fr.snoc X303 N297 g_b298
        have V303 : Arv Z h303 b298 k298 .int (3 : Int32) [(.int a), (.int (0 : Int32)), (.int (0 : Int32))] (.int (0 : Int32)) := Arv.set Ar302 Aq302 AS302 AN302 AH302 AG302 rfl W303 0 rfl (Nat.le_of_ble_eq_true rfl)
        replace p180_E := p180_E.wr W303
        replace p180_Fs := p180_Fs.other W303 (Or.inl ne299)
        replace p180_Fi := p180_Fi.other W303 (Or.inl ne299)
        replace p180_V := p180_V.other W303 ne300
        replace V297 := V297.other W303 ne301
        replace Z0 := Nat.le_trans Z0 (Keep.of_wr W303).1
        replace O := O.wr W303 g_b298
        refine own_via ?_ st303
        show Go _ _ _ _ _ _ _ _ (mkF m 179 #[.val (.int sel), .val (.int a), .val (.int b), .val (.int c_), .val (.int x_), .val (.int (3 : Int32)), .val (.int pk), .val (.int item), .val (.ref b2), .val (.ref b289), .val (.int (-1 : Int32)), .unset, .unset] [(.ref b298)])
        refine own_via ?_ fun _ kt => XS.dup X303.here hx rfl (hb hby at_179) rfl rfl kt
        show Go _ _ _ _ _ _ _ _ (mkF m 180 #[.val (.int sel), .val (.int a), .val (.int b), .val (.int c_), .val (.int x_), .val (.int (3 : Int32)), .val (.int pk), .val (.int item), .val (.ref b2), .val (.ref b289), .val (.int (-1 : Int32)), .unset, .unset] [(.ref b298), (.ref b298)])
        refine own_via ?_ fun _ kt => XS.iconst X303.here hx rfl (hb hby at_180) kt
        show Go _ _ _ _ _ _ _ _ (mkF m 181 #[.val (.int sel), .val (.int a), .val (.int b), .val (.int c_), .val (.int x_), .val (.int (3 : Int32)), .val (.int pk), .val (.int item), .val (.ref b2), .val (.ref b289), .val (.int (-1 : Int32)), .unset, .unset] [(.int (1 : Int32)), (.ref b298), (.ref b298)])
        refine own_via ?_ fun _ kt => XS.iloadN X303.here hx rfl (hb hby at_181) rfl kt
        show Go _ _ _ _ _ _ _ _ (mkF m 182 #[.val (.int sel), .val (.int a), .val (.int b), .val (.int c_), .val (.int x_), .val (.int (3 : Int32)), .val (.int pk), .val (.int item), .val (.ref b2), .val (.ref b289), .val (.int (-1 : Int32)), .unset, .unset] [(.int b), (.int (1 : Int32)), (.ref b298), (.ref b298)])
        obtain ⟨cl304, Ar304, Aq304, AS304, AN304, AH304, AG304⟩ := V303
        have hin305 : ¬ ((1 : Int32) < 0 ∨ cl304.slots.size ≤ ((1 : Int32)).toNatClampNeg) := (inb_of AS304 ⟨by decide, by decide⟩)
        obtain ⟨T305, h305, X305, e305, W305, st305⟩ := stI X303 hx hZ e303 Ar304 (j := (1 : Int32)) hin305 (g := (mkF m 182 #[.val (.int sel), .val (.int a), .val (.int b), .val (.int c_), .val (.int x_), .val (.int (3 : Int32)), .val (.int pk), .val (.int item), .val (.ref b2), .val (.ref b289), .val (.int (-1 : Int32)), .unset, .unset] [(.int b), (.int (1 : Int32)), (.ref b298), (.ref b298)])) rfl rfl (hb hby at_182)
        have N305 := Fr.snoc X305 N303 g_b298
        have V305 : Arv Z h305 b298 k298 .int (3 : Int32) [(.int a), (.int b), (.int (0 : Int32))] (.int (0 : Int32)) := Arv.set Ar304 Aq304 AS304 AN304 AH304 AG304 rfl W305 1 rfl (Nat.le_of_ble_eq_true rfl)
        replace p180_E := p180_E.wr W305
        replace p180_Fs := p180_Fs.other W305 (Or.inl ne299)
        replace p180_Fi := p180_Fi.other W305 (Or.inl ne299)
        replace p180_V := p180_V.other W305 ne300
        replace V297 := V297.other W305 ne301
        replace Z0 := Nat.le_trans Z0 (Keep.of_wr W305).1
        replace O := O.wr W305 g_b298
        refine own_via ?_ st305
        show Go _ _ _ _ _ _ _ _ (mkF m 183 #[.val (.int sel), .val (.int a), .val (.int b), .val (.int c_), .val (.int x_), .val (.int (3 : Int32)), .val (.int pk), .val (.int item), .val (.ref b2), .val (.ref b289), .val (.int (-1 : Int32)), .unset, .unset] [(.ref b298)])
        refine own_via ?_ fun _ kt => XS.dup X305.here hx rfl (hb hby at_183) rfl rfl kt
        show Go _ _ _ _ _ _ _ _ (mkF m 184 #[.val (.int sel), .val (.int a), .val (.int b), .val (.int c_), .val (.int x_), .val (.int (3 : Int32)), .val (.int pk), .val (.int item), .val (.ref b2), .val (.ref b289), .val (.int (-1 : Int32)), .unset, .unset] [(.ref b298), (.ref b298)])
        refine own_via ?_ fun _ kt => XS.iconst X305.here hx rfl (hb hby at_184) kt
        show Go _ _ _ _ _ _ _ _ (mkF m 185 #[.val (.int sel), .val (.int a), .val (.int b), .val (.int c_), .val (.int x_), .val (.int (3 : Int32)), .val (.int pk), .val (.int item), .val (.ref b2), .val (.ref b289), .val (.int (-1 : Int32)), .unset, .unset] [(.int (2 : Int32)), (.ref b298), (.ref b298)])
        refine own_via ?_ fun _ kt => XS.iloadN X305.here hx rfl (hb hby at_185) rfl kt
        show Go _ _ _ _ _ _ _ _ (mkF m 186 #[.val (.int sel), .val (.int a), .val (.int b), .val (.int c_), .val (.int x_), .val (.int (3 : Int32)), .val (.int pk), .val (.int item), .val (.ref b2), .val (.ref b289), .val (.int (-1 : Int32)), .unset, .unset] [(.int c_), (.int (2 : Int32)), (.ref b298), (.ref b298)])
        obtain ⟨cl306, Ar306, Aq306, AS306, AN306, AH306, AG306⟩ := V305
        have hin307 : ¬ ((2 : Int32) < 0 ∨ cl306.slots.size ≤ ((2 : Int32)).toNatClampNeg) := (inb_of AS306 ⟨by decide, by decide⟩)
        obtain ⟨T307, h307, X307, e307, W307, st307⟩ := stI X305 hx hZ e305 Ar306 (j := (2 : Int32)) hin307 (g := (mkF m 186 #[.val (.int sel), .val (.int a), .val (.int b), .val (.int c_), .val (.int x_), .val (.int (3 : Int32)), .val (.int pk), .val (.int item), .val (.ref b2), .val (.ref b289), .val (.int (-1 : Int32)), .unset, .unset] [(.int c_), (.int (2 : Int32)), (.ref b298), (.ref b298)])) rfl rfl (hb hby at_186)
        have N307 := Fr.snoc X307 N305 g_b298
        have V307 : Arv Z h307 b298 k298 .int (3 : Int32) [(.int a), (.int b), (.int c_)] (.int (0 : Int32)) := Arv.set Ar306 Aq306 AS306 AN306 AH306 AG306 rfl W307 2 rfl (Nat.le_of_ble_eq_true rfl)
        replace p180_E := p180_E.wr W307
        replace p180_Fs := p180_Fs.other W307 (Or.inl ne299)
        replace p180_Fi := p180_Fi.other W307 (Or.inl ne299)
        replace p180_V := p180_V.other W307 ne300
        replace V297 := V297.other W307 ne301
        replace Z0 := Nat.le_trans Z0 (Keep.of_wr W307).1
        replace O := O.wr W307 g_b298
        refine own_via ?_ st307
        show Go _ _ _ _ _ _ _ _ (mkF m 187 #[.val (.int sel), .val (.int a), .val (.int b), .val (.int c_), .val (.int x_), .val (.int (3 : Int32)), .val (.int pk), .val (.int item), .val (.ref b2), .val (.ref b289), .val (.int (-1 : Int32)), .unset, .unset] [(.ref b298)])
        refine own_via ?_ fun _ kt => XS.astore X307.here hx rfl (hb hby at_187) rfl rfl (l' := #[.val (.int sel), .val (.int a), .val (.int b), .val (.int c_), .val (.int x_), .val (.int (3 : Int32)), .val (.int pk), .val (.int item), .val (.ref b2), .val (.ref b289), .val (.int (-1 : Int32)), .val (.ref b298), .unset]) rfl kt
        show Go _ _ _ _ _ _ _ _ (mkF m 189 #[.val (.int sel), .val (.int a), .val (.int b), .val (.int c_), .val (.int x_), .val (.int (3 : Int32)), .val (.int pk), .val (.int item), .val (.ref b2), .val (.ref b289), .val (.int (-1 : Int32)), .val (.ref b298), .unset] [])
        refine own_via ?_ fun _ kt => XS.iload X307.here hx rfl (hb hby at_189) rfl kt
        show Go _ _ _ _ _ _ _ _ (mkF m 191 #[.val (.int sel), .val (.int a), .val (.int b), .val (.int c_), .val (.int x_), .val (.int (3 : Int32)), .val (.int pk), .val (.int item), .val (.ref b2), .val (.ref b289), .val (.int (-1 : Int32)), .val (.ref b298), .unset] [(.int (3 : Int32))])
        refine own_via ?_ fun _ kt => XS.istore X307.here hx rfl (hb hby at_191) rfl (l' := #[.val (.int sel), .val (.int a), .val (.int b), .val (.int c_), .val (.int x_), .val (.int (3 : Int32)), .val (.int pk), .val (.int item), .val (.ref b2), .val (.ref b289), .val (.int (-1 : Int32)), .val (.ref b298), .val (.int (3 : Int32))]) rfl kt
        show Go _ _ _ _ _ _ _ _ (mkF m 193 #[.val (.int sel), .val (.int a), .val (.int b), .val (.int c_), .val (.int x_), .val (.int (3 : Int32)), .val (.int pk), .val (.int item), .val (.ref b2), .val (.ref b289), .val (.int (-1 : Int32)), .val (.ref b298), .val (.int (3 : Int32))] [])
        refine own_via ?_ fun _ kt => XS.iload X307.here hx rfl (hb hby at_193) rfl kt
        show Go _ _ _ _ _ _ _ _ (mkF m 195 #[.val (.int sel), .val (.int a), .val (.int b), .val (.int c_), .val (.int x_), .val (.int (3 : Int32)), .val (.int pk), .val (.int item), .val (.ref b2), .val (.ref b289), .val (.int (-1 : Int32)), .val (.ref b298), .val (.int (3 : Int32))] [(.int (-1 : Int32))])
        refine own_via ?_ fun _ kt => XS.ifYes X307.here hx rfl (pc0 := 195) (pc' := 216) rfl (hb hby at_195) rfl ((if0 _ _).trans (tlt (by decide : ((-1 : Int32) < (0 : Int32)))).1) (by decide) (by decide) kt
        show Go _ _ _ _ _ _ _ _ (mkF m 216 #[.val (.int sel), .val (.int a), .val (.int b), .val (.int c_), .val (.int x_), .val (.int (3 : Int32)), .val (.int pk), .val (.int item), .val (.ref b2), .val (.ref b289), .val (.int (-1 : Int32)), .val (.ref b298), .val (.int (3 : Int32))] [])
        refine own_via ?_ fun _ kt => XS.aload X307.here hx rfl (hb hby at_216) rfl rfl kt
        show Go _ _ _ _ _ _ _ _ (mkF m 218 #[.val (.int sel), .val (.int a), .val (.int b), .val (.int c_), .val (.int x_), .val (.int (3 : Int32)), .val (.int pk), .val (.int item), .val (.ref b2), .val (.ref b289), .val (.int (-1 : Int32)), .val (.ref b298), .val (.int (3 : Int32))] [(.ref b2)])
        obtain ⟨T308, X308, e308, st308⟩ := getF X307 hx hZ hown (host := "") (Or.inl (hw _ (List.mem_of_getElem? (i := 21) rfl))) Via.refl e307 p180_Fs (g := (mkF m 218 #[.val (.int sel), .val (.int a), .val (.int b), .val (.int c_), .val (.int x_), .val (.int (3 : Int32)), .val (.int pk), .val (.int item), .val (.ref b2), .val (.ref b289), .val (.int (-1 : Int32)), .val (.ref b298), .val (.int (3 : Int32))] [(.ref b2)])) rfl rfl (hb hby at_218)
        refine own_via ?_ st308
        show Go _ _ _ _ _ _ _ _ (mkF m 221 #[.val (.int sel), .val (.int a), .val (.int b), .val (.int c_), .val (.int x_), .val (.int (3 : Int32)), .val (.int pk), .val (.int item), .val (.ref b2), .val (.ref b289), .val (.int (-1 : Int32)), .val (.ref b298), .val (.int (3 : Int32))] [(.int (3 : Int32))])
        refine own_via ?_ fun _ kt => XS.iload X308.here hx rfl (hb hby at_221) rfl kt
        show Go _ _ _ _ _ _ _ _ (mkF m 223 #[.val (.int sel), .val (.int a), .val (.int b), .val (.int c_), .val (.int x_), .val (.int (3 : Int32)), .val (.int pk), .val (.int item), .val (.ref b2), .val (.ref b289), .val (.int (-1 : Int32)), .val (.ref b298), .val (.int (3 : Int32))] [(.int (3 : Int32)), (.int (3 : Int32))])
        refine own_via ?_ fun _ kt => XS.icmpYes X308.here hx rfl (pc0 := 223) (pc' := 228) rfl (hb hby at_223) rfl (teq rfl).1 (by decide) (by decide) kt
        show Go _ _ _ _ _ _ _ _ (mkF m 228 #[.val (.int sel), .val (.int a), .val (.int b), .val (.int c_), .val (.int x_), .val (.int (3 : Int32)), .val (.int pk), .val (.int item), .val (.ref b2), .val (.ref b289), .val (.int (-1 : Int32)), .val (.ref b298), .val (.int (3 : Int32))] [])
        refine own_via ?_ fun _ kt => XS.aload X308.here hx rfl (hb hby at_228) rfl rfl kt
        show Go _ _ _ _ _ _ _ _ (mkF m 230 #[.val (.int sel), .val (.int a), .val (.int b), .val (.int c_), .val (.int x_), .val (.int (3 : Int32)), .val (.int pk), .val (.int item), .val (.ref b2), .val (.ref b289), .val (.int (-1 : Int32)), .val (.ref b298), .val (.int (3 : Int32))] [(.ref b2)])
        obtain ⟨T309, X309, e309, st309⟩ := getF X308 hx hZ hown (host := "") (Or.inl (hw _ (List.mem_of_getElem? (i := 22) rfl))) Via.refl e308 p180_Fi (g := (mkF m 230 #[.val (.int sel), .val (.int a), .val (.int b), .val (.int c_), .val (.int x_), .val (.int (3 : Int32)), .val (.int pk), .val (.int item), .val (.ref b2), .val (.ref b289), .val (.int (-1 : Int32)), .val (.ref b298), .val (.int (3 : Int32))] [(.ref b2)])) rfl rfl (hb hby at_230)
        refine own_via ?_ st309
        show Go _ _ _ _ _ _ _ _ (mkF m 233 #[.val (.int sel), .val (.int a), .val (.int b), .val (.int c_), .val (.int x_), .val (.int (3 : Int32)), .val (.int pk), .val (.int item), .val (.ref b2), .val (.ref b289), .val (.int (-1 : Int32)), .val (.ref b298), .val (.int (3 : Int32))] [(.ref ba)])
        obtain ⟨cl310, Ar310, Aq310, AS310, AN310, AH310, AG310⟩ := p180_V
        have p180_V : Arv Z h307 ba ka .int (4 : Int32) [(.int a), (.int b), (.int c_), (.int (0 : Int32))] (.int (0 : Int32)) := ⟨cl310, Ar310, Aq310, AS310, AN310, AH310, AG310⟩
        refine own_via ?_ fun _ kt => X309.arraylength hx (by rw [e309]; exact Ar310.1) (State.isArrayOf_alike hZ.alike Ar310.2.1) (g := (mkF m 233 #[.val (.int sel), .val (.int a), .val (.int b), .val (.int c_), .val (.int x_), .val (.int (3 : Int32)), .val (.int pk), .val (.int item), .val (.ref b2), .val (.ref b289), .val (.int (-1 : Int32)), .val (.ref b298), .val (.int (3 : Int32))] [(.ref ba)])) rfl rfl (hb hby at_233) _ kt
        rw [len_of AS310 AN310]
        show Go _ _ _ _ _ _ _ _ (mkF m 234 #[.val (.int sel), .val (.int a), .val (.int b), .val (.int c_), .val (.int x_), .val (.int (3 : Int32)), .val (.int pk), .val (.int item), .val (.ref b2), .val (.ref b289), .val (.int (-1 : Int32)), .val (.ref b298), .val (.int (3 : Int32))] [(.int (4 : Int32))])
        refine own_via ?_ fun _ kt => XS.iload X309.here hx rfl (hb hby at_234) rfl kt
        show Go _ _ _ _ _ _ _ _ (mkF m 236 #[.val (.int sel), .val (.int a), .val (.int b), .val (.int c_), .val (.int x_), .val (.int (3 : Int32)), .val (.int pk), .val (.int item), .val (.ref b2), .val (.ref b289), .val (.int (-1 : Int32)), .val (.ref b298), .val (.int (3 : Int32))] [(.int (3 : Int32)), (.int (4 : Int32))])
        refine own_via ?_ fun _ kt => XS.icmpYes X309.here hx rfl (pc0 := 236) (pc' := 241) rfl (hb hby at_236) rfl (flt (by decide : ¬ ((4 : Int32) < (3 : Int32)))).2.1 (by decide) (by decide) kt
        show Go _ _ _ _ _ _ _ _ (mkF m 241 #[.val (.int sel), .val (.int a), .val (.int b), .val (.int c_), .val (.int x_), .val (.int (3 : Int32)), .val (.int pk), .val (.int item), .val (.ref b2), .val (.ref b289), .val (.int (-1 : Int32)), .val (.ref b298), .val (.int (3 : Int32))] [])
        refine own_via ?_ fun _ kt => XS.iload X309.here hx rfl (hb hby at_241) rfl kt
        show Go _ _ _ _ _ _ _ _ (mkF m 243 #[.val (.int sel), .val (.int a), .val (.int b), .val (.int c_), .val (.int x_), .val (.int (3 : Int32)), .val (.int pk), .val (.int item), .val (.ref b2), .val (.ref b289), .val (.int (-1 : Int32)), .val (.ref b298), .val (.int (3 : Int32))] [(.int (3 : Int32))])
        refine own_via ?_ fun _ kt => XS.ifNo X309.here hx rfl (hb hby at_243) rfl ((if0 _ _).trans (tlt (by decide : ((0 : Int32) < (3 : Int32)))).2.2.2) kt
        show Go _ _ _ _ _ _ _ _ (mkF m 246 #[.val (.int sel), .val (.int a), .val (.int b), .val (.int c_), .val (.int x_), .val (.int (3 : Int32)), .val (.int pk), .val (.int item), .val (.ref b2), .val (.ref b289), .val (.int (-1 : Int32)), .val (.ref b298), .val (.int (3 : Int32))] [])
        refine own_via ?_ fun _ kt => XS.aload X309.here hx rfl (hb hby at_246) rfl rfl kt
        show Go _ _ _ _ _ _ _ _ (mkF m 248 #[.val (.int sel), .val (.int a), .val (.int b), .val (.int c_), .val (.int x_), .val (.int (3 : Int32)), .val (.int pk), .val (.int item), .val (.ref b2), .val (.ref b289), .val (.int (-1 : Int32)), .val (.ref b298), .val (.int (3 : Int32))] [(.ref b2)])
        obtain ⟨T311, X311, e311, st311⟩ := getF X309 hx hZ hown (host := "") (Or.inl (hw _ (List.mem_of_getElem? (i := 22) rfl))) Via.refl e309 p180_Fi (g := (mkF m 248 #[.val (.int sel), .val (.int a), .val (.int b), .val (.int c_), .val (.int x_), .val (.int (3 : Int32)), .val (.int pk), .val (.int item), .val (.ref b2), .val (.ref b289), .val (.int (-1 : Int32)), .val (.ref b298), .val (.int (3 : Int32))] [(.ref b2)])) rfl rfl (hb hby at_248)
        refine own_via ?_ st311
        show Go _ _ _ _ _ _ _ _ (mkF m 251 #[.val (.int sel), .val (.int a), .val (.int b), .val (.int c_), .val (.int x_), .val (.int (3 : Int32)), .val (.int pk), .val (.int item), .val (.ref b2), .val (.ref b289), .val (.int (-1 : Int32)), .val (.ref b298), .val (.int (3 : Int32))] [(.ref ba)])
        refine own_via ?_ fun _ kt => XS.iconst X311.here hx rfl (hb hby at_251) kt
        show Go _ _ _ _ _ _ _ _ (mkF m 252 #[.val (.int sel), .val (.int a), .val (.int b), .val (.int c_), .val (.int x_), .val (.int (3 : Int32)), .val (.int pk), .val (.int item), .val (.ref b2), .val (.ref b289), .val (.int (-1 : Int32)), .val (.ref b298), .val (.int (3 : Int32))] [(.int (0 : Int32)), (.ref ba)])
        obtain ⟨cl312, Ar312, Aq312, AS312, AN312, AH312, AG312⟩ := p180_V
        have p180_V : Arv Z h307 ba ka .int (4 : Int32) [(.int a), (.int b), (.int c_), (.int (0 : Int32))] (.int (0 : Int32)) := ⟨cl312, Ar312, Aq312, AS312, AN312, AH312, AG312⟩
        have hin313 : ¬ ((0 : Int32) < 0 ∨ cl312.slots.size ≤ ((0 : Int32)).toNatClampNeg) := (inb_of AS312 ⟨by decide, by decide⟩)
        have hat313 : cl312.slots[((0 : Int32)).toNatClampNeg]? = some (.int a) := (AH312.at hin313 rfl)
        refine own_via ?_ fun _ kt => X311.iaload hx (j := (0 : Int32)) (v := (.int a)) (by rw [e311]; exact Ar312.1) (State.isArrayOf_alike hZ.alike Ar312.2.1) Ar312.2.2 hin313 hat313 (g := (mkF m 252 #[.val (.int sel), .val (.int a), .val (.int b), .val (.int c_), .val (.int x_), .val (.int (3 : Int32)), .val (.int pk), .val (.int item), .val (.ref b2), .val (.ref b289), .val (.int (-1 : Int32)), .val (.ref b298), .val (.int (3 : Int32))] [(.int (0 : Int32)), (.ref ba)])) rfl rfl (hb hby at_252) _ kt
        show Go _ _ _ _ _ _ _ _ (mkF m 253 #[.val (.int sel), .val (.int a), .val (.int b), .val (.int c_), .val (.int x_), .val (.int (3 : Int32)), .val (.int pk), .val (.int item), .val (.ref b2), .val (.ref b289), .val (.int (-1 : Int32)), .val (.ref b298), .val (.int (3 : Int32))] [(.int a)])
        refine own_via ?_ fun _ kt => XS.aload X311.here hx rfl (hb hby at_253) rfl rfl kt
        show Go _ _ _ _ _ _ _ _ (mkF m 255 #[.val (.int sel), .val (.int a), .val (.int b), .val (.int c_), .val (.int x_), .val (.int (3 : Int32)), .val (.int pk), .val (.int item), .val (.ref b2), .val (.ref b289), .val (.int (-1 : Int32)), .val (.ref b298), .val (.int (3 : Int32))] [(.ref b298), (.int a)])
        refine own_via ?_ fun _ kt => XS.iconst X311.here hx rfl (hb hby at_255) kt
        show Go _ _ _ _ _ _ _ _ (mkF m 256 #[.val (.int sel), .val (.int a), .val (.int b), .val (.int c_), .val (.int x_), .val (.int (3 : Int32)), .val (.int pk), .val (.int item), .val (.ref b2), .val (.ref b289), .val (.int (-1 : Int32)), .val (.ref b298), .val (.int (3 : Int32))] [(.int (0 : Int32)), (.ref b298), (.int a)])
        obtain ⟨cl314, Ar314, Aq314, AS314, AN314, AH314, AG314⟩ := V307
        have V307 : Arv Z h307 b298 k298 .int (3 : Int32) [(.int a), (.int b), (.int c_)] (.int (0 : Int32)) := ⟨cl314, Ar314, Aq314, AS314, AN314, AH314, AG314⟩
        have hin315 : ¬ ((0 : Int32) < 0 ∨ cl314.slots.size ≤ ((0 : Int32)).toNatClampNeg) := (inb_of AS314 ⟨by decide, by decide⟩)
        have hat315 : cl314.slots[((0 : Int32)).toNatClampNeg]? = some (.int a) := (AH314.at hin315 rfl)
        refine own_via ?_ fun _ kt => X311.iaload hx (j := (0 : Int32)) (v := (.int a)) (by rw [e311]; exact Ar314.1) (State.isArrayOf_alike hZ.alike Ar314.2.1) Ar314.2.2 hin315 hat315 (g := (mkF m 256 #[.val (.int sel), .val (.int a), .val (.int b), .val (.int c_), .val (.int x_), .val (.int (3 : Int32)), .val (.int pk), .val (.int item), .val (.ref b2), .val (.ref b289), .val (.int (-1 : Int32)), .val (.ref b298), .val (.int (3 : Int32))] [(.int (0 : Int32)), (.ref b298), (.int a)])) rfl rfl (hb hby at_256) _ kt
        show Go _ _ _ _ _ _ _ _ (mkF m 257 #[.val (.int sel), .val (.int a), .val (.int b), .val (.int c_), .val (.int x_), .val (.int (3 : Int32)), .val (.int pk), .val (.int item), .val (.ref b2), .val (.ref b289), .val (.int (-1 : Int32)), .val (.ref b298), .val (.int (3 : Int32))] [(.int a), (.int a)])
        refine own_via ?_ fun _ kt => XS.icmpYes X311.here hx rfl (pc0 := 257) (pc' := 262) rfl (hb hby at_257) rfl (teq rfl).1 (by decide) (by decide) kt
        show Go _ _ _ _ _ _ _ _ (mkF m 262 #[.val (.int sel), .val (.int a), .val (.int b), .val (.int c_), .val (.int x_), .val (.int (3 : Int32)), .val (.int pk), .val (.int item), .val (.ref b2), .val (.ref b289), .val (.int (-1 : Int32)), .val (.ref b298), .val (.int (3 : Int32))] [])
        refine own_via ?_ fun _ kt => XS.iload X311.here hx rfl (hb hby at_262) rfl kt
        show Go _ _ _ _ _ _ _ _ (mkF m 264 #[.val (.int sel), .val (.int a), .val (.int b), .val (.int c_), .val (.int x_), .val (.int (3 : Int32)), .val (.int pk), .val (.int item), .val (.ref b2), .val (.ref b289), .val (.int (-1 : Int32)), .val (.ref b298), .val (.int (3 : Int32))] [(.int (3 : Int32))])
        refine own_via ?_ fun _ kt => XS.iconst X311.here hx rfl (hb hby at_264) kt
        show Go _ _ _ _ _ _ _ _ (mkF m 265 #[.val (.int sel), .val (.int a), .val (.int b), .val (.int c_), .val (.int x_), .val (.int (3 : Int32)), .val (.int pk), .val (.int item), .val (.ref b2), .val (.ref b289), .val (.int (-1 : Int32)), .val (.ref b298), .val (.int (3 : Int32))] [(.int (1 : Int32)), (.int (3 : Int32))])
        refine own_via ?_ fun _ kt => XS.icmpNo X311.here hx rfl (hb hby at_265) rfl (tlt (by decide : ((1 : Int32) < (3 : Int32)))).2.2.2 kt
        show Go _ _ _ _ _ _ _ _ (mkF m 268 #[.val (.int sel), .val (.int a), .val (.int b), .val (.int c_), .val (.int x_), .val (.int (3 : Int32)), .val (.int pk), .val (.int item), .val (.ref b2), .val (.ref b289), .val (.int (-1 : Int32)), .val (.ref b298), .val (.int (3 : Int32))] [])
        refine own_via ?_ fun _ kt => XS.aload X311.here hx rfl (hb hby at_268) rfl rfl kt
        show Go _ _ _ _ _ _ _ _ (mkF m 270 #[.val (.int sel), .val (.int a), .val (.int b), .val (.int c_), .val (.int x_), .val (.int (3 : Int32)), .val (.int pk), .val (.int item), .val (.ref b2), .val (.ref b289), .val (.int (-1 : Int32)), .val (.ref b298), .val (.int (3 : Int32))] [(.ref b2)])
        obtain ⟨T316, X316, e316, st316⟩ := getF X311 hx hZ hown (host := "") (Or.inl (hw _ (List.mem_of_getElem? (i := 22) rfl))) Via.refl e311 p180_Fi (g := (mkF m 270 #[.val (.int sel), .val (.int a), .val (.int b), .val (.int c_), .val (.int x_), .val (.int (3 : Int32)), .val (.int pk), .val (.int item), .val (.ref b2), .val (.ref b289), .val (.int (-1 : Int32)), .val (.ref b298), .val (.int (3 : Int32))] [(.ref b2)])) rfl rfl (hb hby at_270)
        refine own_via ?_ st316
        show Go _ _ _ _ _ _ _ _ (mkF m 273 #[.val (.int sel), .val (.int a), .val (.int b), .val (.int c_), .val (.int x_), .val (.int (3 : Int32)), .val (.int pk), .val (.int item), .val (.ref b2), .val (.ref b289), .val (.int (-1 : Int32)), .val (.ref b298), .val (.int (3 : Int32))] [(.ref ba)])
        refine own_via ?_ fun _ kt => XS.iconst X316.here hx rfl (hb hby at_273) kt
        show Go _ _ _ _ _ _ _ _ (mkF m 274 #[.val (.int sel), .val (.int a), .val (.int b), .val (.int c_), .val (.int x_), .val (.int (3 : Int32)), .val (.int pk), .val (.int item), .val (.ref b2), .val (.ref b289), .val (.int (-1 : Int32)), .val (.ref b298), .val (.int (3 : Int32))] [(.int (1 : Int32)), (.ref ba)])
        obtain ⟨cl317, Ar317, Aq317, AS317, AN317, AH317, AG317⟩ := p180_V
        have p180_V : Arv Z h307 ba ka .int (4 : Int32) [(.int a), (.int b), (.int c_), (.int (0 : Int32))] (.int (0 : Int32)) := ⟨cl317, Ar317, Aq317, AS317, AN317, AH317, AG317⟩
        have hin318 : ¬ ((1 : Int32) < 0 ∨ cl317.slots.size ≤ ((1 : Int32)).toNatClampNeg) := (inb_of AS317 ⟨by decide, by decide⟩)
        have hat318 : cl317.slots[((1 : Int32)).toNatClampNeg]? = some (.int b) := (AH317.at hin318 rfl)
        refine own_via ?_ fun _ kt => X316.iaload hx (j := (1 : Int32)) (v := (.int b)) (by rw [e316]; exact Ar317.1) (State.isArrayOf_alike hZ.alike Ar317.2.1) Ar317.2.2 hin318 hat318 (g := (mkF m 274 #[.val (.int sel), .val (.int a), .val (.int b), .val (.int c_), .val (.int x_), .val (.int (3 : Int32)), .val (.int pk), .val (.int item), .val (.ref b2), .val (.ref b289), .val (.int (-1 : Int32)), .val (.ref b298), .val (.int (3 : Int32))] [(.int (1 : Int32)), (.ref ba)])) rfl rfl (hb hby at_274) _ kt
        show Go _ _ _ _ _ _ _ _ (mkF m 275 #[.val (.int sel), .val (.int a), .val (.int b), .val (.int c_), .val (.int x_), .val (.int (3 : Int32)), .val (.int pk), .val (.int item), .val (.ref b2), .val (.ref b289), .val (.int (-1 : Int32)), .val (.ref b298), .val (.int (3 : Int32))] [(.int b)])
        refine own_via ?_ fun _ kt => XS.aload X316.here hx rfl (hb hby at_275) rfl rfl kt
        show Go _ _ _ _ _ _ _ _ (mkF m 277 #[.val (.int sel), .val (.int a), .val (.int b), .val (.int c_), .val (.int x_), .val (.int (3 : Int32)), .val (.int pk), .val (.int item), .val (.ref b2), .val (.ref b289), .val (.int (-1 : Int32)), .val (.ref b298), .val (.int (3 : Int32))] [(.ref b298), (.int b)])
        refine own_via ?_ fun _ kt => XS.iconst X316.here hx rfl (hb hby at_277) kt
        show Go _ _ _ _ _ _ _ _ (mkF m 278 #[.val (.int sel), .val (.int a), .val (.int b), .val (.int c_), .val (.int x_), .val (.int (3 : Int32)), .val (.int pk), .val (.int item), .val (.ref b2), .val (.ref b289), .val (.int (-1 : Int32)), .val (.ref b298), .val (.int (3 : Int32))] [(.int (1 : Int32)), (.ref b298), (.int b)])
        obtain ⟨cl319, Ar319, Aq319, AS319, AN319, AH319, AG319⟩ := V307
        have V307 : Arv Z h307 b298 k298 .int (3 : Int32) [(.int a), (.int b), (.int c_)] (.int (0 : Int32)) := ⟨cl319, Ar319, Aq319, AS319, AN319, AH319, AG319⟩
        have hin320 : ¬ ((1 : Int32) < 0 ∨ cl319.slots.size ≤ ((1 : Int32)).toNatClampNeg) := (inb_of AS319 ⟨by decide, by decide⟩)
        have hat320 : cl319.slots[((1 : Int32)).toNatClampNeg]? = some (.int b) := (AH319.at hin320 rfl)
        refine own_via ?_ fun _ kt => X316.iaload hx (j := (1 : Int32)) (v := (.int b)) (by rw [e316]; exact Ar319.1) (State.isArrayOf_alike hZ.alike Ar319.2.1) Ar319.2.2 hin320 hat320 (g := (mkF m 278 #[.val (.int sel), .val (.int a), .val (.int b), .val (.int c_), .val (.int x_), .val (.int (3 : Int32)), .val (.int pk), .val (.int item), .val (.ref b2), .val (.ref b289), .val (.int (-1 : Int32)), .val (.ref b298), .val (.int (3 : Int32))] [(.int (1 : Int32)), (.ref b298), (.int b)])) rfl rfl (hb hby at_278) _ kt
        show Go _ _ _ _ _ _ _ _ (mkF m 279 #[.val (.int sel), .val (.int a), .val (.int b), .val (.int c_), .val (.int x_), .val (.int (3 : Int32)), .val (.int pk), .val (.int item), .val (.ref b2), .val (.ref b289), .val (.int (-1 : Int32)), .val (.ref b298), .val (.int (3 : Int32))] [(.int b), (.int b)])
        refine own_via ?_ fun _ kt => XS.icmpYes X316.here hx rfl (pc0 := 279) (pc' := 284) rfl (hb hby at_279) rfl (teq rfl).1 (by decide) (by decide) kt
        show Go _ _ _ _ _ _ _ _ (mkF m 284 #[.val (.int sel), .val (.int a), .val (.int b), .val (.int c_), .val (.int x_), .val (.int (3 : Int32)), .val (.int pk), .val (.int item), .val (.ref b2), .val (.ref b289), .val (.int (-1 : Int32)), .val (.ref b298), .val (.int (3 : Int32))] [])
        refine own_via ?_ fun _ kt => XS.iload X316.here hx rfl (hb hby at_284) rfl kt
        show Go _ _ _ _ _ _ _ _ (mkF m 286 #[.val (.int sel), .val (.int a), .val (.int b), .val (.int c_), .val (.int x_), .val (.int (3 : Int32)), .val (.int pk), .val (.int item), .val (.ref b2), .val (.ref b289), .val (.int (-1 : Int32)), .val (.ref b298), .val (.int (3 : Int32))] [(.int (3 : Int32))])
        refine own_via ?_ fun _ kt => XS.iconst X316.here hx rfl (hb hby at_286) kt
        show Go _ _ _ _ _ _ _ _ (mkF m 287 #[.val (.int sel), .val (.int a), .val (.int b), .val (.int c_), .val (.int x_), .val (.int (3 : Int32)), .val (.int pk), .val (.int item), .val (.ref b2), .val (.ref b289), .val (.int (-1 : Int32)), .val (.ref b298), .val (.int (3 : Int32))] [(.int (2 : Int32)), (.int (3 : Int32))])
        refine own_via ?_ fun _ kt => XS.icmpNo X316.here hx rfl (hb hby at_287) rfl (tlt (by decide : ((2 : Int32) < (3 : Int32)))).2.2.2 kt
        show Go _ _ _ _ _ _ _ _ (mkF m 290 #[.val (.int sel), .val (.int a), .val (.int b), .val (.int c_), .val (.int x_), .val (.int (3 : Int32)), .val (.int pk), .val (.int item), .val (.ref b2), .val (.ref b289), .val (.int (-1 : Int32)), .val (.ref b298), .val (.int (3 : Int32))] [])
        refine own_via ?_ fun _ kt => XS.aload X316.here hx rfl (hb hby at_290) rfl rfl kt
        show Go _ _ _ _ _ _ _ _ (mkF m 292 #[.val (.int sel), .val (.int a), .val (.int b), .val (.int c_), .val (.int x_), .val (.int (3 : Int32)), .val (.int pk), .val (.int item), .val (.ref b2), .val (.ref b289), .val (.int (-1 : Int32)), .val (.ref b298), .val (.int (3 : Int32))] [(.ref b2)])
        obtain ⟨T321, X321, e321, st321⟩ := getF X316 hx hZ hown (host := "") (Or.inl (hw _ (List.mem_of_getElem? (i := 22) rfl))) Via.refl e316 p180_Fi (g := (mkF m 292 #[.val (.int sel), .val (.int a), .val (.int b), .val (.int c_), .val (.int x_), .val (.int (3 : Int32)), .val (.int pk), .val (.int item), .val (.ref b2), .val (.ref b289), .val (.int (-1 : Int32)), .val (.ref b298), .val (.int (3 : Int32))] [(.ref b2)])) rfl rfl (hb hby at_292)
        refine own_via ?_ st321
        show Go _ _ _ _ _ _ _ _ (mkF m 295 #[.val (.int sel), .val (.int a), .val (.int b), .val (.int c_), .val (.int x_), .val (.int (3 : Int32)), .val (.int pk), .val (.int item), .val (.ref b2), .val (.ref b289), .val (.int (-1 : Int32)), .val (.ref b298), .val (.int (3 : Int32))] [(.ref ba)])
        refine own_via ?_ fun _ kt => XS.iconst X321.here hx rfl (hb hby at_295) kt
        show Go _ _ _ _ _ _ _ _ (mkF m 296 #[.val (.int sel), .val (.int a), .val (.int b), .val (.int c_), .val (.int x_), .val (.int (3 : Int32)), .val (.int pk), .val (.int item), .val (.ref b2), .val (.ref b289), .val (.int (-1 : Int32)), .val (.ref b298), .val (.int (3 : Int32))] [(.int (2 : Int32)), (.ref ba)])
        obtain ⟨cl322, Ar322, Aq322, AS322, AN322, AH322, AG322⟩ := p180_V
        have p180_V : Arv Z h307 ba ka .int (4 : Int32) [(.int a), (.int b), (.int c_), (.int (0 : Int32))] (.int (0 : Int32)) := ⟨cl322, Ar322, Aq322, AS322, AN322, AH322, AG322⟩
        have hin323 : ¬ ((2 : Int32) < 0 ∨ cl322.slots.size ≤ ((2 : Int32)).toNatClampNeg) := (inb_of AS322 ⟨by decide, by decide⟩)
        have hat323 : cl322.slots[((2 : Int32)).toNatClampNeg]? = some (.int c_) := (AH322.at hin323 rfl)
        refine own_via ?_ fun _ kt => X321.iaload hx (j := (2 : Int32)) (v := (.int c_)) (by rw [e321]; exact Ar322.1) (State.isArrayOf_alike hZ.alike Ar322.2.1) Ar322.2.2 hin323 hat323 (g := (mkF m 296 #[.val (.int sel), .val (.int a), .val (.int b), .val (.int c_), .val (.int x_), .val (.int (3 : Int32)), .val (.int pk), .val (.int item), .val (.ref b2), .val (.ref b289), .val (.int (-1 : Int32)), .val (.ref b298), .val (.int (3 : Int32))] [(.int (2 : Int32)), (.ref ba)])) rfl rfl (hb hby at_296) _ kt
        show Go _ _ _ _ _ _ _ _ (mkF m 297 #[.val (.int sel), .val (.int a), .val (.int b), .val (.int c_), .val (.int x_), .val (.int (3 : Int32)), .val (.int pk), .val (.int item), .val (.ref b2), .val (.ref b289), .val (.int (-1 : Int32)), .val (.ref b298), .val (.int (3 : Int32))] [(.int c_)])
        refine own_via ?_ fun _ kt => XS.aload X321.here hx rfl (hb hby at_297) rfl rfl kt
        show Go _ _ _ _ _ _ _ _ (mkF m 299 #[.val (.int sel), .val (.int a), .val (.int b), .val (.int c_), .val (.int x_), .val (.int (3 : Int32)), .val (.int pk), .val (.int item), .val (.ref b2), .val (.ref b289), .val (.int (-1 : Int32)), .val (.ref b298), .val (.int (3 : Int32))] [(.ref b298), (.int c_)])
        refine own_via ?_ fun _ kt => XS.iconst X321.here hx rfl (hb hby at_299) kt
        show Go _ _ _ _ _ _ _ _ (mkF m 300 #[.val (.int sel), .val (.int a), .val (.int b), .val (.int c_), .val (.int x_), .val (.int (3 : Int32)), .val (.int pk), .val (.int item), .val (.ref b2), .val (.ref b289), .val (.int (-1 : Int32)), .val (.ref b298), .val (.int (3 : Int32))] [(.int (2 : Int32)), (.ref b298), (.int c_)])
        obtain ⟨cl324, Ar324, Aq324, AS324, AN324, AH324, AG324⟩ := V307
        have V307 : Arv Z h307 b298 k298 .int (3 : Int32) [(.int a), (.int b), (.int c_)] (.int (0 : Int32)) := ⟨cl324, Ar324, Aq324, AS324, AN324, AH324, AG324⟩
        have hin325 : ¬ ((2 : Int32) < 0 ∨ cl324.slots.size ≤ ((2 : Int32)).toNatClampNeg) := (inb_of AS324 ⟨by decide, by decide⟩)
        have hat325 : cl324.slots[((2 : Int32)).toNatClampNeg]? = some (.int c_) := (AH324.at hin325 rfl)
        refine own_via ?_ fun _ kt => X321.iaload hx (j := (2 : Int32)) (v := (.int c_)) (by rw [e321]; exact Ar324.1) (State.isArrayOf_alike hZ.alike Ar324.2.1) Ar324.2.2 hin325 hat325 (g := (mkF m 300 #[.val (.int sel), .val (.int a), .val (.int b), .val (.int c_), .val (.int x_), .val (.int (3 : Int32)), .val (.int pk), .val (.int item), .val (.ref b2), .val (.ref b289), .val (.int (-1 : Int32)), .val (.ref b298), .val (.int (3 : Int32))] [(.int (2 : Int32)), (.ref b298), (.int c_)])) rfl rfl (hb hby at_300) _ kt
        show Go _ _ _ _ _ _ _ _ (mkF m 301 #[.val (.int sel), .val (.int a), .val (.int b), .val (.int c_), .val (.int x_), .val (.int (3 : Int32)), .val (.int pk), .val (.int item), .val (.ref b2), .val (.ref b289), .val (.int (-1 : Int32)), .val (.ref b298), .val (.int (3 : Int32))] [(.int c_), (.int c_)])
        refine own_via ?_ fun _ kt => XS.icmpYes X321.here hx rfl (pc0 := 301) (pc' := 306) rfl (hb hby at_301) rfl (teq rfl).1 (by decide) (by decide) kt
        show Go _ _ _ _ _ _ _ _ (mkF m 306 #[.val (.int sel), .val (.int a), .val (.int b), .val (.int c_), .val (.int x_), .val (.int (3 : Int32)), .val (.int pk), .val (.int item), .val (.ref b2), .val (.ref b289), .val (.int (-1 : Int32)), .val (.ref b298), .val (.int (3 : Int32))] [])
        refine own_via ?_ fun _ kt => XS.iconst X321.here hx rfl (hb hby at_306) kt
        show Go _ _ _ _ _ _ _ _ (mkF m 307 #[.val (.int sel), .val (.int a), .val (.int b), .val (.int c_), .val (.int x_), .val (.int (3 : Int32)), .val (.int pk), .val (.int item), .val (.ref b2), .val (.ref b289), .val (.int (-1 : Int32)), .val (.ref b298), .val (.int (3 : Int32))] [(.int (1 : Int32))])
        exact own_retZ (z' := (1 : Int32)) X321 hx hret hlk (hb hby at_307) rfl (by decide) (by decide) (by rw [e321]; exact ⟨rfl, N307⟩)
  show Go _ _ _ _ _ _ _ _ (mkF m 12 #[.val (.int sel), .val (.int a), .val (.int b), .val (.int c_), .val (.int x_), .val (.int n), .val (.int pk), .unset, .unset, .unset, .unset, .unset, .unset] [])
  refine own_via ?_ fun _ kt => XS.iload X0.here hx rfl (hb hby at_12) rfl kt
  show Go _ _ _ _ _ _ _ _ (mkF m 14 #[.val (.int sel), .val (.int a), .val (.int b), .val (.int c_), .val (.int x_), .val (.int n), .val (.int pk), .unset, .unset, .unset, .unset, .unset, .unset] [(.int pk)])
  by_cases hc326 : pk = (0 : Int32)
  · skip
    refine own_via ?_ fun _ kt => XS.ifNo X0.here hx rfl (hb hby at_14) rfl ((if0 _ _).trans (teq hc326).2) kt
    show Go _ _ _ _ _ _ _ _ (mkF m 17 #[.val (.int sel), .val (.int a), .val (.int b), .val (.int c_), .val (.int x_), .val (.int n), .val (.int pk), .unset, .unset, .unset, .unset, .unset, .unset] [])
    refine own_via ?_ fun _ kt => XS.iloadN X0.here hx rfl (hb hby at_17) rfl kt
    show Go _ _ _ _ _ _ _ _ (mkF m 18 #[.val (.int sel), .val (.int a), .val (.int b), .val (.int c_), .val (.int x_), .val (.int n), .val (.int pk), .unset, .unset, .unset, .unset, .unset, .unset] [(.int a)])
    refine own_via ?_ fun _ kt => XS.istore X0.here hx rfl (hb hby at_18) rfl (l' := #[.val (.int sel), .val (.int a), .val (.int b), .val (.int c_), .val (.int x_), .val (.int n), .val (.int pk), .val (.int a), .unset, .unset, .unset, .unset, .unset]) rfl kt
    show Go _ _ _ _ _ _ _ _ (mkF m 20 #[.val (.int sel), .val (.int a), .val (.int b), .val (.int c_), .val (.int x_), .val (.int n), .val (.int pk), .val (.int a), .unset, .unset, .unset, .unset, .unset] [])
    refine own_via ?_ fun _ kt => XS.goto X0.here hx rfl (pc0 := 20) (pc' := 51) rfl (hb hby at_20) (by decide) (by decide) kt
    show Go _ _ _ _ _ _ _ _ (mkF m 51 #[.val (.int sel), .val (.int a), .val (.int b), .val (.int c_), .val (.int x_), .val (.int n), .val (.int pk), .val (.int a), .unset, .unset, .unset, .unset, .unset] [])
    exact J1 a
  · skip
    refine own_via ?_ fun _ kt => XS.ifYes X0.here hx rfl (pc0 := 14) (pc' := 23) rfl (hb hby at_14) rfl ((if0 _ _).trans (feq hc326).2) (by decide) (by decide) kt
    show Go _ _ _ _ _ _ _ _ (mkF m 23 #[.val (.int sel), .val (.int a), .val (.int b), .val (.int c_), .val (.int x_), .val (.int n), .val (.int pk), .unset, .unset, .unset, .unset, .unset, .unset] [])
    refine own_via ?_ fun _ kt => XS.iload X0.here hx rfl (hb hby at_23) rfl kt
    show Go _ _ _ _ _ _ _ _ (mkF m 25 #[.val (.int sel), .val (.int a), .val (.int b), .val (.int c_), .val (.int x_), .val (.int n), .val (.int pk), .unset, .unset, .unset, .unset, .unset, .unset] [(.int pk)])
    refine own_via ?_ fun _ kt => XS.iconst X0.here hx rfl (hb hby at_25) kt
    show Go _ _ _ _ _ _ _ _ (mkF m 26 #[.val (.int sel), .val (.int a), .val (.int b), .val (.int c_), .val (.int x_), .val (.int n), .val (.int pk), .unset, .unset, .unset, .unset, .unset, .unset] [(.int (1 : Int32)), (.int pk)])
    by_cases hc327 : pk = (1 : Int32)
    · skip
      refine own_via ?_ fun _ kt => XS.icmpNo X0.here hx rfl (hb hby at_26) rfl (teq hc327).2 kt
      show Go _ _ _ _ _ _ _ _ (mkF m 29 #[.val (.int sel), .val (.int a), .val (.int b), .val (.int c_), .val (.int x_), .val (.int n), .val (.int pk), .unset, .unset, .unset, .unset, .unset, .unset] [])
      refine own_via ?_ fun _ kt => XS.iloadN X0.here hx rfl (hb hby at_29) rfl kt
      show Go _ _ _ _ _ _ _ _ (mkF m 30 #[.val (.int sel), .val (.int a), .val (.int b), .val (.int c_), .val (.int x_), .val (.int n), .val (.int pk), .unset, .unset, .unset, .unset, .unset, .unset] [(.int b)])
      refine own_via ?_ fun _ kt => XS.istore X0.here hx rfl (hb hby at_30) rfl (l' := #[.val (.int sel), .val (.int a), .val (.int b), .val (.int c_), .val (.int x_), .val (.int n), .val (.int pk), .val (.int b), .unset, .unset, .unset, .unset, .unset]) rfl kt
      show Go _ _ _ _ _ _ _ _ (mkF m 32 #[.val (.int sel), .val (.int a), .val (.int b), .val (.int c_), .val (.int x_), .val (.int n), .val (.int pk), .val (.int b), .unset, .unset, .unset, .unset, .unset] [])
      refine own_via ?_ fun _ kt => XS.goto X0.here hx rfl (pc0 := 32) (pc' := 51) rfl (hb hby at_32) (by decide) (by decide) kt
      show Go _ _ _ _ _ _ _ _ (mkF m 51 #[.val (.int sel), .val (.int a), .val (.int b), .val (.int c_), .val (.int x_), .val (.int n), .val (.int pk), .val (.int b), .unset, .unset, .unset, .unset, .unset] [])
      exact J1 b
    · skip
      refine own_via ?_ fun _ kt => XS.icmpYes X0.here hx rfl (pc0 := 26) (pc' := 35) rfl (hb hby at_26) rfl (feq hc327).2 (by decide) (by decide) kt
      show Go _ _ _ _ _ _ _ _ (mkF m 35 #[.val (.int sel), .val (.int a), .val (.int b), .val (.int c_), .val (.int x_), .val (.int n), .val (.int pk), .unset, .unset, .unset, .unset, .unset, .unset] [])
      refine own_via ?_ fun _ kt => XS.iload X0.here hx rfl (hb hby at_35) rfl kt
      show Go _ _ _ _ _ _ _ _ (mkF m 37 #[.val (.int sel), .val (.int a), .val (.int b), .val (.int c_), .val (.int x_), .val (.int n), .val (.int pk), .unset, .unset, .unset, .unset, .unset, .unset] [(.int pk)])
      refine own_via ?_ fun _ kt => XS.iconst X0.here hx rfl (hb hby at_37) kt
      show Go _ _ _ _ _ _ _ _ (mkF m 38 #[.val (.int sel), .val (.int a), .val (.int b), .val (.int c_), .val (.int x_), .val (.int n), .val (.int pk), .unset, .unset, .unset, .unset, .unset, .unset] [(.int (2 : Int32)), (.int pk)])
      by_cases hc328 : pk = (2 : Int32)
      · skip
        refine own_via ?_ fun _ kt => XS.icmpNo X0.here hx rfl (hb hby at_38) rfl (teq hc328).2 kt
        show Go _ _ _ _ _ _ _ _ (mkF m 41 #[.val (.int sel), .val (.int a), .val (.int b), .val (.int c_), .val (.int x_), .val (.int n), .val (.int pk), .unset, .unset, .unset, .unset, .unset, .unset] [])
        refine own_via ?_ fun _ kt => XS.iloadN X0.here hx rfl (hb hby at_41) rfl kt
        show Go _ _ _ _ _ _ _ _ (mkF m 42 #[.val (.int sel), .val (.int a), .val (.int b), .val (.int c_), .val (.int x_), .val (.int n), .val (.int pk), .unset, .unset, .unset, .unset, .unset, .unset] [(.int c_)])
        refine own_via ?_ fun _ kt => XS.istore X0.here hx rfl (hb hby at_42) rfl (l' := #[.val (.int sel), .val (.int a), .val (.int b), .val (.int c_), .val (.int x_), .val (.int n), .val (.int pk), .val (.int c_), .unset, .unset, .unset, .unset, .unset]) rfl kt
        show Go _ _ _ _ _ _ _ _ (mkF m 44 #[.val (.int sel), .val (.int a), .val (.int b), .val (.int c_), .val (.int x_), .val (.int n), .val (.int pk), .val (.int c_), .unset, .unset, .unset, .unset, .unset] [])
        refine own_via ?_ fun _ kt => XS.goto X0.here hx rfl (pc0 := 44) (pc' := 51) rfl (hb hby at_44) (by decide) (by decide) kt
        show Go _ _ _ _ _ _ _ _ (mkF m 51 #[.val (.int sel), .val (.int a), .val (.int b), .val (.int c_), .val (.int x_), .val (.int n), .val (.int pk), .val (.int c_), .unset, .unset, .unset, .unset, .unset] [])
        exact J1 c_
      · skip
        refine own_via ?_ fun _ kt => XS.icmpYes X0.here hx rfl (pc0 := 38) (pc' := 47) rfl (hb hby at_38) rfl (feq hc328).2 (by decide) (by decide) kt
        show Go _ _ _ _ _ _ _ _ (mkF m 47 #[.val (.int sel), .val (.int a), .val (.int b), .val (.int c_), .val (.int x_), .val (.int n), .val (.int pk), .unset, .unset, .unset, .unset, .unset, .unset] [])
        refine own_via ?_ fun _ kt => XS.iload X0.here hx rfl (hb hby at_47) rfl kt
        show Go _ _ _ _ _ _ _ _ (mkF m 49 #[.val (.int sel), .val (.int a), .val (.int b), .val (.int c_), .val (.int x_), .val (.int n), .val (.int pk), .unset, .unset, .unset, .unset, .unset, .unset] [(.int x_)])
        refine own_via ?_ fun _ kt => XS.istore X0.here hx rfl (hb hby at_49) rfl (l' := #[.val (.int sel), .val (.int a), .val (.int b), .val (.int c_), .val (.int x_), .val (.int n), .val (.int pk), .val (.int x_), .unset, .unset, .unset, .unset, .unset]) rfl kt
        show Go _ _ _ _ _ _ _ _ (mkF m 51 #[.val (.int sel), .val (.int a), .val (.int b), .val (.int c_), .val (.int x_), .val (.int n), .val (.int pk), .val (.int x_), .unset, .unset, .unset, .unset, .unset] [])
        exact J1 x_
theorem own_len {s : State} {args : Array Value} {t : Term} {a : Addr} {c : Cell} {ty : FieldType} {z : Int32} (et : t.eval args s none [] s = some (.ref a)) (A : Arr s s.heap a c ty) (h : (Term.length t).eval args s none [] s = some (.int z)) : c.slots.size < 2 ^ 31 ∧ c.slots.size.toInt32 = z := by
  have q := A.fin (Vm.Alike.refl _)
  by_cases hl : c.slots.size < 2 ^ 31
  · have e := len_f et q hl
    rw [e] at h; exact ⟨hl, by simpa using h⟩
  · simp [Term.eval, et, q, hl] at h
set_option maxRecDepth 65536 in
set_option maxHeartbeats 40000000 in
theorem comes_1 {Post : Tables → Env → Array Value → State → Outcome → State → Prop} (hpost : ∀ tb e args s v u, (limb_1_1.after args s (.returned v) u = true ∧ limb_1_2.after args s (.returned v) u = true ∧ True) → FrameEnd s (.returned v) u (Jvm.fieldLocs frame_1_writes args s ++ Jvm.arrayLocs frame_1_arrays args s ++ Jvm.staticLocs frame_1_statics s) 16 128 → Post tb e args s (.returned v) u) :
    ArmFor flags0 classFile x code maxLocals ret World_1 tables_1 room_1 Calls_1 rest_1 Pre_1 Post := by
  intro l hfl _ _ p e ha hc hk s m args below hf hA hF happ hP
  obtain ⟨hcalls, hrest, hpre⟩ := hP
  obtain ⟨-, -, -, hnamed, -, -, -, hat⟩ := (Spec.applies_iff hf).mp happ
  obtain ⟨hg, hn⟩ := and_e (Cond.before_iff.mp (show (Jvm.Cond.and given_1 narrow_1).before args s = true from hpre))
  obtain ⟨ga1, gb1⟩ := and_e hg
  obtain ⟨ga2, gb2⟩ := and_e gb1
  obtain ⟨ga3, gb3⟩ := and_e gb2
  obtain ⟨ga4, gb4⟩ := and_e gb3
  obtain ⟨ga5, gb5⟩ := and_e gb4
  obtain ⟨w0, w1, w2, w3, w4, rfl⟩ : ∃ w0 w1 w2 w3 w4 : Value, args = #[w0, w1, w2, w3, w4] := by
    have hs : args.size = 5 := by simpa [Cond.value, given_1] using ga1
    obtain ⟨L⟩ := args
    match L, hs with
    | [w0, w1, w2, w3, w4], _ => exact ⟨w0, w1, w2, w3, w4, rfl⟩
  have hw := fun d (hd : d ∈ tables_1) => atoms_spec (ws := Jvm.Cond.code x code maxLocals ret :: tables_1) hat d (List.mem_cons_of_mem _ hd)
  have hfit : Fit s := fun {y c} hc i hi => by
    obtain ⟨ha, rfl⟩ := Array.getElem?_eq_some_iff.mp hc
    have q := List.all_eq_true.mp ((Array.all_eq_true_iff_forall_mem.mp hF) _ (Array.getElem_mem ha)) i (List.mem_range.mpr hi)
    simpa [Array.getElem?_eq_getElem hi] using q
  obtain ⟨i0, ei0⟩ := is_v ga2
  obtain rfl : w0 = (.int i0) := Option.some.inj ei0
  obtain ⟨i1, ei1⟩ := is_v ga3
  obtain rfl : w1 = (.int i1) := Option.some.inj ei1
  obtain ⟨i2, ei2⟩ := is_v ga4
  obtain rfl : w2 = (.int i2) := Option.some.inj ei2
  obtain ⟨i3, ei3⟩ := is_v ga5
  obtain rfl : w3 = (.int i3) := Option.some.inj ei3
  obtain ⟨i4, ei4⟩ := is_v gb5
  obtain rfl : w4 = (.int i4) := Option.some.inj ei4
  obtain ⟨ga51, gb51⟩ := and_e hn
  obtain ⟨ga52, gb52⟩ := and_e gb51
  obtain ⟨aN, ec⟩ := arr_v ga51
  obtain ⟨cl, Ac⟩ := Arr.start ec ga51
  have S : Sta s s.heap "com/example/aspen/aspen/IntList" "NONE" "[I" (.ref aN) := Sta.start ec (Or.inr ⟨(hw _ (List.mem_of_getElem? (i := 2) rfl)), (hw _ (List.mem_of_getElem? (i := 10) rfl))⟩)
  obtain ⟨hsz, hz⟩ := own_len ec Ac (eqv_i (Term.int_eval 0) gb52)
  have VN : Arv s s.heap aN cl.cls .int (0 : Int32) [] (.int (0 : Int32)) := Arv.start hfit Ac hsz hz (by decide) (by decide) trivial
  obtain ⟨n, o, h1, h2, h3, _, L, rfl, ⟨rfl, N⟩, hq⟩ := rm_law l s _ hw tables_1 i0 i1 i2 i3 i4 aN cl.cls s.heap s.heap.size (Nat.le_refl _) (Old.start s) S VN p e ha hc hk s m _ below hf ((Spec.applies_iff_loose hf).mp happ).1 ⟨rfl, State.Warmed39.refl s, rfl⟩ trivial
  refine ⟨n, _, h1, h2, h3, hpost _ _ _ _ _ _ ⟨Cond.after_iff.mpr rfl, Cond.after_iff.mpr (eq_i res_at (Term.int_eval (1)) rfl), trivial⟩ ⟨hq.1, hq.2.1, (hq.2.2.sift fun y hy => Or.inr (N y hy)).mono (by decide) (by decide)⟩⟩
theorem main_1_1 : Claimed_1_1 := comes_1 fun _ _ _ _ _ _ h hF => ⟨h.1, hF⟩
theorem main_1_2 : Claimed_1_2 := comes_1 fun _ _ _ _ _ _ h hF => ⟨h.2.1, hF⟩
end Jvm.Pilot.@@N@@
namespace Jvm.Pilot.@@N@@
open Jvm Jvm.ClassFile Sem Op Lib Jvm.Free Jvm.Stand Jvm.Pilot.@@N@@.Jvm.D
/-! MADE BY PROGRAM (witnessworld.py) out of the Statement's table words and the real class files: 12 classes; the members and pool entries that the words name. The judged class is class 1, her method 1. -/
namespace start1
open Jvm.ClassFile
def u (s : String) : CpInfo := .utf8 (stringToUtf16 s)
/-- a pool by its gaps: so many unusable entries, then the entry; so many at the end -/
def gap : Nat → List CpInfo → List CpInfo
  | 0, r => r
  | n + 1, r => .unusable :: gap n r
def poolList (es : List (Nat × CpInfo)) (last : Nat) : List CpInfo := es.foldr (fun e r => gap e.1 (e.2 :: r)) (gap last [])
def pool (es : List (Nat × CpInfo)) (last : Nat) : Array CpInfo := ⟨poolList es last⟩
def fileOf (pool : Array CpInfo) (this : Nat) (attrs : Array Attribute := #[]) (ms : Array MethodInfo := #[]) (fl : Nat := 33) (sup : Nat := 0) (ifs : Array Nat := #[]) (fds : Array FieldInfo := #[]) : ClassFile where
  minorVersion := 0
  majorVersion := 65
  constantPool := pool
  accessFlags := fl
  thisClass := this
  superClass := sup
  interfaces := ifs
  fields := fds
  methods := ms
  attributes := attrs
def plain (name : String) (sup : Option ClassId) : Class where
  name := name
  kind := .ordinary
  loader := none
  accessFlags := 33
  super := sup
  interfaces := #[]
  cf := none
  fields := #[]
  methods := #[]
  instanceTypes := #[]
  staticTypes := #[]
  resolved := #[]
  callSites := []
  init := .initialized
  statics := none
  mirror := none

def pool0 : Array CpInfo := pool [(5, u "<init>"), (0, u "()V"), (1, .class_ 10), (1, u "java/lang/Object")] 113

def k0c0 : Code := { maxStack := 0, maxLocals := 1, code := object_method_1_code, exceptionTable := #[], attributes := #[] }
def k0m0 : Method := { name := "<init>", desc := "()V", sig := { parameters := [], returnType := none }, accessFlags := 1, code := some k0c0 }
/-- java/lang/Object -/
def k0 : Class := { plain "java/lang/Object" none with
  accessFlags := 33
  interfaces := #[]
  cf := some (fileOf pool0 8 #[] #[{ accessFlags := 1, nameIndex := 5, descriptorIndex := 6, attributes := #[] }] 33 0 #[] #[])
  fields := #[]
  methods := #[k0m0]
  instanceTypes := #[]
  staticTypes := #[]
  resolved := Array.replicate 124 none
  statics := none }

def pool1 : Array CpInfo := pool [(2, .class_ 4), (0, .nameAndType 5 6), (0, u "java/lang/Object"), (0, u "<init>"), (0, u "()V"), (0, .class_ 8), (0, u "com/example/aspen/aspen/IntList"), (0, .methodref 7 3), (0, .methodref 7 11), (0, .nameAndType 12 13), (0, u "add"), (0, u "(I)V"), (0, .methodref 7 15), (0, .nameAndType 16 13), (0, u "remove"), (0, .fieldref 7 18), (0, .nameAndType 19 20), (0, u "size"), (0, u "I"), (0, .fieldref 7 22), (0, .nameAndType 23 24), (0, u "items"), (0, u "[I"), (0, .class_ 26), (0, u "com/example/aspen/aspen/IntListRemovePinLaw"), (2, u "law"), (0, u "(IIIII)Z")] 4

def k1m0 : Method := { name := "<init>", desc := "()V", sig := { parameters := [], returnType := none }, accessFlags := 2, code := none }
def k1c1 : Code := { maxStack := 5, maxLocals := 13, code := code, exceptionTable := #[], attributes := #[] }
def k1m1 : Method := { name := "law", desc := "(IIIII)Z", sig := { parameters := [.int, .int, .int, .int, .int], returnType := some .boolean }, accessFlags := 9, code := some k1c1 }
/-- com/example/aspen/aspen/IntListRemovePinLaw -/
def k1 : Class := { plain "com/example/aspen/aspen/IntListRemovePinLaw" (some 0) with
  accessFlags := 49
  interfaces := #[]
  cf := some (fileOf pool1 25 #[] #[{ accessFlags := 2, nameIndex := 5, descriptorIndex := 6, attributes := #[] }, { accessFlags := 9, nameIndex := 29, descriptorIndex := 30, attributes := #[] }] 49 2 #[] #[])
  fields := #[]
  methods := #[k1m0, k1m1]
  instanceTypes := #[]
  staticTypes := #[]
  resolved := Array.replicate 35 none
  statics := none }

def pool2 : Array CpInfo := pool [(1, .methodref 2 3), (0, .class_ 4), (0, .nameAndType 5 6), (0, u "java/lang/Object"), (0, u "<init>"), (0, u "()V"), (0, .fieldref 8 9), (0, .class_ 10), (0, .nameAndType 11 12), (0, u "com/example/aspen/aspen/IntList"), (0, u "NONE"), (0, u "[I"), (0, .fieldref 8 14), (0, .nameAndType 15 12), (0, u "items"), (0, .fieldref 8 17), (0, .nameAndType 18 19), (0, u "size"), (0, u "I"), (0, .methodref 21 22), (0, .class_ 23), (0, .nameAndType 24 25), (0, u "java/lang/Math"), (0, u "max"), (0, u "(II)I"), (0, .methodref 27 28), (0, .class_ 29), (0, .nameAndType 30 31), (0, u "java/util/Arrays"), (0, u "copyOf"), (0, u "([II)[I"), (2, u "add"), (0, u "(I)V"), (11, u "remove")] 8

def k2c0 : Code := { maxStack := 2, maxLocals := 1, code := prog_41_method_1_code, exceptionTable := #[], attributes := #[] }
def k2m0 : Method := { name := "<init>", desc := "()V", sig := { parameters := [], returnType := none }, accessFlags := 0, code := some k2c0 }
def k2c1 : Code := { maxStack := 5, maxLocals := 2, code := prog_41_method_2_code, exceptionTable := #[], attributes := #[] }
def k2m1 : Method := { name := "add", desc := "(I)V", sig := { parameters := [.int], returnType := none }, accessFlags := 0, code := some k2c1 }
def k2c2 : Code := { maxStack := 4, maxLocals := 3, code := prog_41_method_5_code, exceptionTable := #[], attributes := #[] }
def k2m2 : Method := { name := "remove", desc := "(I)V", sig := { parameters := [.int], returnType := none }, accessFlags := 0, code := some k2c2 }
/-- com/example/aspen/aspen/IntList -/
def k2 : Class := { plain "com/example/aspen/aspen/IntList" (some 0) with
  accessFlags := 32
  interfaces := #[]
  cf := some (fileOf pool2 8 #[] #[{ accessFlags := 0, nameIndex := 5, descriptorIndex := 6, attributes := #[] }, { accessFlags := 0, nameIndex := 34, descriptorIndex := 35, attributes := #[] }, { accessFlags := 0, nameIndex := 47, descriptorIndex := 35, attributes := #[] }] 32 2 #[] #[{ accessFlags := 26, nameIndex := 11, descriptorIndex := 12, attributes := #[] }, { accessFlags := 0, nameIndex := 15, descriptorIndex := 12, attributes := #[] }, { accessFlags := 0, nameIndex := 18, descriptorIndex := 19, attributes := #[] }])
  fields := #[{ name := "NONE", type := (.array .int), accessFlags := 26, slot := 0, constantValue := 0 }, { name := "items", type := (.array .int), accessFlags := 0, slot := 0, constantValue := 0 }, { name := "size", type := .int, accessFlags := 0, slot := 1, constantValue := 0 }]
  methods := #[k2m0, k2m1, k2m2]
  instanceTypes := #[(.array .int), .int]
  staticTypes := #[(.array .int)]
  resolved := Array.replicate 56 none
  statics := some 0 }

def pool3 : Array CpInfo := pool [(1, .class_ 2), (0, u "java/lang/Math"), (1, .class_ 6), (1, u "java/lang/Object"), (0, u "<init>"), (0, u "()V"), (89, .class_ 100), (1, u "java/lang/Math$RandomNumberGeneratorHolder"), (71, u "negativeZeroFloatBits"), (0, u "J"), (2, u "negativeZeroDoubleBits"), (21, u "max"), (2, u "min"), (43, u "$assertionsDisabled"), (0, u "Z"), (88, u "(II)I"), (2, u "twoToTheDoubleScaleDown"), (0, u "D"), (4, u "twoToTheDoubleScaleUp"), (9, u "E"), (3, u "PI"), (2, u "TAU"), (2, u "DEGREES_TO_RADIANS"), (0, u "RADIANS_TO_DEGREES")] 94

def k3m0 : Method := { name := "<init>", desc := "()V", sig := { parameters := [], returnType := none }, accessFlags := 2, code := none }
def k3c1 : Code := { maxStack := 2, maxLocals := 2, code := jdk_29_method_65_code, exceptionTable := #[], attributes := #[] }
def k3m1 : Method := { name := "max", desc := "(II)I", sig := { parameters := [.int, .int], returnType := some .int }, accessFlags := 9, code := some k3c1 }
def k3c2 : Code := { maxStack := 2, maxLocals := 2, code := jdk_29_method_69_code, exceptionTable := #[], attributes := #[] }
def k3m2 : Method := { name := "min", desc := "(II)I", sig := { parameters := [.int, .int], returnType := some .int }, accessFlags := 9, code := some k3c2 }
/-- java/lang/Math -/
def k3 : Class := { plain "java/lang/Math" (some 0) with
  accessFlags := 49
  interfaces := #[]
  cf := some (fileOf pool3 1 #[.nestMembers #[98]] #[{ accessFlags := 2, nameIndex := 7, descriptorIndex := 8, attributes := #[] }, { accessFlags := 9, nameIndex := 198, descriptorIndex := 335, attributes := #[] }, { accessFlags := 9, nameIndex := 201, descriptorIndex := 335, attributes := #[] }] 49 4 #[] #[{ accessFlags := 25, nameIndex := 354, descriptorIndex := 339, attributes := #[] }, { accessFlags := 25, nameIndex := 358, descriptorIndex := 339, attributes := #[] }, { accessFlags := 25, nameIndex := 361, descriptorIndex := 339, attributes := #[] }, { accessFlags := 26, nameIndex := 364, descriptorIndex := 339, attributes := #[] }, { accessFlags := 26, nameIndex := 365, descriptorIndex := 339, attributes := #[] }, { accessFlags := 26, nameIndex := 172, descriptorIndex := 173, attributes := #[] }, { accessFlags := 26, nameIndex := 176, descriptorIndex := 173, attributes := #[] }, { accessFlags := 8, nameIndex := 344, descriptorIndex := 339, attributes := #[] }, { accessFlags := 8, nameIndex := 338, descriptorIndex := 339, attributes := #[] }, { accessFlags := 4120, nameIndex := 245, descriptorIndex := 246, attributes := #[] }])
  fields := #[{ name := "E", type := .double, accessFlags := 25, slot := 0, constantValue := 0 }, { name := "PI", type := .double, accessFlags := 25, slot := 1, constantValue := 0 }, { name := "TAU", type := .double, accessFlags := 25, slot := 2, constantValue := 0 }, { name := "DEGREES_TO_RADIANS", type := .double, accessFlags := 26, slot := 3, constantValue := 0 }, { name := "RADIANS_TO_DEGREES", type := .double, accessFlags := 26, slot := 4, constantValue := 0 }, { name := "negativeZeroFloatBits", type := .long, accessFlags := 26, slot := 5, constantValue := 0 }, { name := "negativeZeroDoubleBits", type := .long, accessFlags := 26, slot := 6, constantValue := 0 }, { name := "twoToTheDoubleScaleUp", type := .double, accessFlags := 8, slot := 7, constantValue := 0 }, { name := "twoToTheDoubleScaleDown", type := .double, accessFlags := 8, slot := 8, constantValue := 0 }, { name := "$assertionsDisabled", type := .boolean, accessFlags := 4120, slot := 9, constantValue := 0 }]
  methods := #[k3m0, k3m1, k3m2]
  instanceTypes := #[]
  staticTypes := #[.double, .double, .double, .double, .double, .long, .long, .double, .double, .boolean]
  resolved := Array.replicate 460 none
  statics := none }

def pool4 : Array CpInfo := pool [(2, .class_ 4), (1, u "java/lang/Object"), (0, u "<init>"), (0, u "()V"), (7, .class_ 16), (1, u "java/util/Arrays"), (57, .class_ 76), (1, u "java/util/Arrays$NaturalOrder"), (36, .class_ 115), (1, u "java/util/Arrays$LegacyMergeSort"), (1, u "Z"), (32, .methodref 151 152), (0, .class_ 153), (0, .nameAndType 154 155), (0, u "java/lang/System"), (0, u "arraycopy"), (0, u "(Ljava/lang/Object;ILjava/lang/Object;II)V"), (146, u "copyOf"), (1, .methodref 305 306), (0, .class_ 307), (0, .nameAndType 308 309), (0, u "java/lang/Math"), (0, u "min"), (0, u "(II)I"), (65, .class_ 376), (0, u "java/util/Arrays$ArrayList"), (68, u "$assertionsDisabled"), (269, u "MIN_ARRAY_SORT_GRAN"), (0, u "I"), (2, u "INSERTIONSORT_THRESHOLD"), (151, u "([II)[I"), (103, .class_ 976), (0, u "java/util/Arrays$ArrayItr")] 52

def k4m0 : Method := { name := "<init>", desc := "()V", sig := { parameters := [], returnType := none }, accessFlags := 2, code := none }
def k4c1 : Code := { maxStack := 6, maxLocals := 3, code := jdk_65_method_123_code, exceptionTable := #[], attributes := #[] }
def k4m1 : Method := { name := "copyOf", desc := "([II)[I", sig := { parameters := [(.array .int), .int], returnType := some (.array .int) }, accessFlags := 9, code := some k4c1 }
/-- java/util/Arrays -/
def k4 : Class := { plain "java/util/Arrays" (some 0) with
  accessFlags := 49
  interfaces := #[]
  cf := some (fileOf pool4 14 #[.nestMembers #[975, 375, 113, 74]] #[{ accessFlags := 2, nameIndex := 5, descriptorIndex := 6, attributes := #[] }, { accessFlags := 9, nameIndex := 302, descriptorIndex := 871, attributes := #[] }] 49 2 #[] #[{ accessFlags := 26, nameIndex := 715, descriptorIndex := 716, attributes := #[] }, { accessFlags := 26, nameIndex := 719, descriptorIndex := 716, attributes := #[] }, { accessFlags := 4120, nameIndex := 445, descriptorIndex := 117, attributes := #[] }])
  fields := #[{ name := "MIN_ARRAY_SORT_GRAN", type := .int, accessFlags := 26, slot := 0, constantValue := 0 }, { name := "INSERTIONSORT_THRESHOLD", type := .int, accessFlags := 26, slot := 1, constantValue := 0 }, { name := "$assertionsDisabled", type := .boolean, accessFlags := 4120, slot := 2, constantValue := 0 }]
  methods := #[k4m0, k4m1]
  instanceTypes := #[]
  staticTypes := #[.int, .int, .boolean]
  resolved := Array.replicate 1029 none
  statics := none }

def pool5 : Array CpInfo := pool [(2, .class_ 4), (1, u "java/lang/Object"), (0, u "<init>"), (0, u "()V"), (1, .class_ 10), (1, u "java/lang/System"), (0, u "allowSecurityManager"), (0, u "I"), (16, u "cons"), (0, u "Ljava/io/Console;"), (77, .class_ 110), (1, u "java/lang/System$CallersHolder"), (43, u "initialErrStream"), (0, u "Ljava/io/PrintStream;"), (19, u "security"), (0, u "Ljava/lang/SecurityManager;"), (31, .class_ 209), (0, u "java/lang/System$1"), (7, u "props"), (0, u "Ljava/util/Properties;"), (2, u "lineSeparator"), (0, u "Ljava/lang/String;"), (96, .class_ 321), (1, u "java/lang/System$LoggerFinder"), (5, .class_ 328), (0, u "java/lang/System$Logger"), (67, u "err"), (2, u "out"), (91, u "notSupportedJnuEncoding"), (15, u "in"), (17, u "initialIn"), (0, u "Ljava/io/InputStream;"), (35, u "bootLayer"), (0, u "Ljava/lang/ModuleLayer;"), (99, .class_ 664), (0, u "java/lang/System$2"), (9, u "NEVER"), (2, u "MAYBE"), (49, u "arraycopy"), (0, u "(Ljava/lang/Object;ILjava/lang/Object;II)V"), (72, .class_ 802), (0, u "java/lang/System$Logger$Level")] 31

def k5m0 : Method := { name := "<init>", desc := "()V", sig := { parameters := [], returnType := none }, accessFlags := 2, code := none }
def k5m1 : Method := { name := "arraycopy", desc := "(Ljava/lang/Object;ILjava/lang/Object;II)V", sig := { parameters := [(.object "java/lang/Object"), .int, (.object "java/lang/Object"), .int, .int], returnType := none }, accessFlags := 265, code := none }
/-- java/lang/System -/
def k5 : Class := { plain "java/lang/System" (some 0) with
  accessFlags := 49
  interfaces := #[]
  cf := some (fileOf pool5 8 #[.nestMembers #[319, 327, 801, 108, 663, 208]] #[{ accessFlags := 2, nameIndex := 5, descriptorIndex := 6, attributes := #[] }, { accessFlags := 265, nameIndex := 727, descriptorIndex := 728, attributes := #[] }] 49 2 #[] #[{ accessFlags := 25, nameIndex := 507, descriptorIndex := 526, attributes := #[] }, { accessFlags := 25, nameIndex := 399, descriptorIndex := 155, attributes := #[] }, { accessFlags := 25, nameIndex := 396, descriptorIndex := 155, attributes := #[] }, { accessFlags := 10, nameIndex := 525, descriptorIndex := 526, attributes := #[] }, { accessFlags := 26, nameIndex := 674, descriptorIndex := 12, attributes := #[] }, { accessFlags := 26, nameIndex := 677, descriptorIndex := 12, attributes := #[] }, { accessFlags := 10, nameIndex := 11, descriptorIndex := 12, attributes := #[] }, { accessFlags := 74, nameIndex := 175, descriptorIndex := 176, attributes := #[] }, { accessFlags := 10, nameIndex := 491, descriptorIndex := 222, attributes := #[] }, { accessFlags := 74, nameIndex := 29, descriptorIndex := 30, attributes := #[] }, { accessFlags := 74, nameIndex := 154, descriptorIndex := 155, attributes := #[] }, { accessFlags := 10, nameIndex := 217, descriptorIndex := 218, attributes := #[] }, { accessFlags := 10, nameIndex := 221, descriptorIndex := 222, attributes := #[] }, { accessFlags := 8, nameIndex := 562, descriptorIndex := 563, attributes := #[] }])
  fields := #[{ name := "in", type := (.object "java/io/InputStream"), accessFlags := 25, slot := 0, constantValue := 0 }, { name := "out", type := (.object "java/io/PrintStream"), accessFlags := 25, slot := 1, constantValue := 0 }, { name := "err", type := (.object "java/io/PrintStream"), accessFlags := 25, slot := 2, constantValue := 0 }, { name := "initialIn", type := (.object "java/io/InputStream"), accessFlags := 10, slot := 3, constantValue := 0 }, { name := "NEVER", type := .int, accessFlags := 26, slot := 4, constantValue := 0 }, { name := "MAYBE", type := .int, accessFlags := 26, slot := 5, constantValue := 0 }, { name := "allowSecurityManager", type := .int, accessFlags := 10, slot := 6, constantValue := 0 }, { name := "security", type := (.object "java/lang/SecurityManager"), accessFlags := 74, slot := 7, constantValue := 0 }, { name := "notSupportedJnuEncoding", type := (.object "java/lang/String"), accessFlags := 10, slot := 8, constantValue := 0 }, { name := "cons", type := (.object "java/io/Console"), accessFlags := 74, slot := 9, constantValue := 0 }, { name := "initialErrStream", type := (.object "java/io/PrintStream"), accessFlags := 74, slot := 10, constantValue := 0 }, { name := "props", type := (.object "java/util/Properties"), accessFlags := 10, slot := 11, constantValue := 0 }, { name := "lineSeparator", type := (.object "java/lang/String"), accessFlags := 10, slot := 12, constantValue := 0 }, { name := "bootLayer", type := (.object "java/lang/ModuleLayer"), accessFlags := 8, slot := 13, constantValue := 0 }]
  methods := #[k5m0, k5m1]
  instanceTypes := #[]
  staticTypes := #[(.object "java/io/InputStream"), (.object "java/io/PrintStream"), (.object "java/io/PrintStream"), (.object "java/io/InputStream"), .int, .int, .int, (.object "java/lang/SecurityManager"), (.object "java/lang/String"), (.object "java/io/Console"), (.object "java/io/PrintStream"), (.object "java/util/Properties"), (.object "java/lang/String"), (.object "java/lang/ModuleLayer")]
  resolved := Array.replicate 834 none
  statics := none }

def pool6 : Array CpInfo := pool [(1, u "java/lang/Cloneable"), (0, .class_ 1), (0, u "java/lang/Object"), (0, .class_ 3)] 3

/-- java/lang/Cloneable -/
def k6 : Class := { plain "java/lang/Cloneable" (some 0) with
  accessFlags := 1537
  interfaces := #[]
  cf := some (fileOf pool6 2 #[] #[] 1537 4 #[] #[])
  fields := #[]
  methods := #[]
  instanceTypes := #[]
  staticTypes := #[]
  resolved := Array.replicate 8 none
  statics := none }

def pool7 : Array CpInfo := pool [(1, u "java/io/Serializable"), (0, .class_ 1), (0, u "java/lang/Object"), (0, .class_ 3)] 3

/-- java/io/Serializable -/
def k7 : Class := { plain "java/io/Serializable" (some 0) with
  accessFlags := 1537
  interfaces := #[]
  cf := some (fileOf pool7 2 #[] #[] 1537 4 #[] #[])
  fields := #[]
  methods := #[]
  instanceTypes := #[]
  staticTypes := #[]
  resolved := Array.replicate 8 none
  statics := none }

/-- the primitive byte -/
def k8 : Class := { plain "byte" none with kind := .primitive 'B', accessFlags := 0x411 }
/-- [B -/
def k9 : Class := { plain "[B" (some 0) with kind := .array 8 .byte, interfaces := #[6, 7], accessFlags := 1041 }

/-- the primitive int -/
def k10 : Class := { plain "int" none with kind := .primitive 'I', accessFlags := 0x411 }
/-- [I -/
def k11 : Class := { plain "[I" (some 0) with kind := .array 10 .int, interfaces := #[6, 7], accessFlags := 1041 }

def heap : Heap := #[{ cls := 2, slots := #[.ref 1], vm := .statics 2 },
  { cls := 11, slots := #[], vm := .none }]
def classes : Array Class := #[k0, k1, k2, k3, k4, k5, k6, k7, k8, k9, k10, k11]
def interned : List (Array UInt16 × Addr) := []
def slotsUsed : Nat := 1
def theMethod : MethodId := ⟨1, 1⟩
def args0 : Array Value := #[.int 7, .int 5, .int 5, .int 5, .int 5]
def aboutOver (below : List Frame) : State where
  vm := { classes := classes, interned := interned.toArray }
  heap := heap
  slotsUsed := slotsUsed
  threads := #[{ frames := .invoking theMethod args0 :: below }]
def below0 : List Frame := [.native { method := ⟨0, 0⟩, args := #[] }]
def about1 : State := aboutOver below0
def p0 : Program := .bare "" "" ""
def e0 : Env := launch0.env 0 0 0
theorem w_frames : about1.frames = Frame.invoking theMethod args0 :: below0 := rfl
set_option maxRecDepth 65536 in
theorem w_args : argsFit about1.vm theMethod args0 = true := by decide +kernel
set_option maxRecDepth 65536 in
theorem w_heap : heapFits about1 = true := by decide +kernel
set_option maxRecDepth 65536 in
theorem w_runnable : about1.curStatus? = some .runnable := by decide +kernel
set_option maxRecDepth 65536 in
theorem w_alone : about1.alone = true := by decide +kernel
set_option maxRecDepth 65536 in
theorem w_named : about1.methodNamed? x = some theMethod := by decide +kernel
set_option maxRecDepth 65536 in
theorem w_hears : about1.hears theMethod below0 = true := by decide +kernel
set_option maxRecDepth 65536 in
theorem w_ripe : about1.ripe theMethod args0 below0 = true := by decide +kernel
theorem w_running : about1.status = .running := rfl
set_option maxRecDepth 65536 in
theorem w_room : about1.hasRoom e0.platform room_1 = true :=
  launch0.hasRoom_least _ room_1 (by decide +kernel) (by decide +kernel) (by decide +kernel) (by decide +kernel) (by decide +kernel) (by decide +kernel)
theorem allAtoms_all (ts : List Jvm.Cond) (a : Array Jvm.Value) (st : Jvm.State) : (allAtoms ts).before a st = ts.all (fun c => c.before a st) := by
  induction ts with
  | nil => rfl
  | cons c t ih =>
    show (Jvm.Cond.and c (allAtoms t)).before a st = _
    rw [Jvm.Cond.before_and, ih, List.all_cons]
def words1 : List Jvm.Cond := Jvm.Cond.code x code maxLocals ret :: tables_1
/-- a 'code' word, met by the world's own term for the bytes: nothing is compared byte by byte -/
theorem code_word {y : MethodName} {bytes : ByteArray} {mx : Nat} {rt : Option FieldType} {a : Array Value} {s : State} {m : MethodId} {meth : Method} {c : Code} (h1 : s.methodNamed? y = some m) (h2 : s.vm.method? m = some meth) (h3 : meth.code = some c) (h4 : c.code = bytes)
    (h5 : (c.maxLocals == mx && c.exceptionTable.isEmpty && decide (c.maxStack ≤ mostOperands) && decide (meth.sig.returnType = rt) && !meth.locks && decide (parseMethodDescriptor y.desc = some meth.sig)) = true) : (Jvm.Cond.code y bytes mx rt).before a s = true := by
  simp only [Bool.and_eq_true, beq_iff_eq, Bool.not_eq_true', decide_eq_true_eq] at h5
  obtain ⟨⟨⟨⟨⟨g1, g2⟩, g3⟩, g4⟩, g5⟩, g6⟩ := h5
  simp [Cond.before, Cond.holds, Cond.value, h1, h2, h3, h4, g1, g2, g3, g4, g5, g6]
def isCode : Jvm.Cond → Bool
  | .code _ _ _ _ => true
  | _ => false
theorem all_split {L : List Jvm.Cond} {P : Jvm.Cond → Bool} (h1 : L.all (fun c => isCode c || P c) = true) (h2 : ∀ c ∈ L.filter isCode, P c = true) : L.all P = true := by
  refine List.all_eq_true.mpr fun c hc => ?_
  have h := List.all_eq_true.mp h1 c hc
  rcases Bool.eq_false_or_eq_true (isCode c) with hi | hi
  · exact h2 c (List.mem_filter.mpr ⟨hc, hi⟩)
  · simpa [hi] using h
set_option maxRecDepth 65536 in
theorem w_c0 : (Jvm.Cond.code x code maxLocals ret).before args0 about1 = true := code_word (m := ⟨1, 1⟩) (meth := k1m1) (c := k1c1) (by decide +kernel) rfl rfl rfl (by decide +kernel)
set_option maxRecDepth 65536 in
theorem w_c1 : (Jvm.Cond.code ({ cls := "com/example/aspen/aspen/IntList", name := "<init>", desc := "()V" } : Jvm.MethodName) prog_41_method_1_code (1 : Nat) (Option.none : Option Jvm.ClassFile.FieldType)).before args0 about1 = true := code_word (m := ⟨2, 0⟩) (meth := k2m0) (c := k2c0) (by decide +kernel) rfl rfl rfl (by decide +kernel)
set_option maxRecDepth 65536 in
theorem w_c2 : (Jvm.Cond.code ({ cls := "java/lang/Object", name := "<init>", desc := "()V" } : Jvm.MethodName) object_method_1_code (1 : Nat) (Option.none : Option Jvm.ClassFile.FieldType)).before args0 about1 = true := code_word (m := ⟨0, 0⟩) (meth := k0m0) (c := k0c0) (by decide +kernel) rfl rfl rfl (by decide +kernel)
set_option maxRecDepth 65536 in
theorem w_c3 : (Jvm.Cond.code ({ cls := "com/example/aspen/aspen/IntList", name := "remove", desc := "(I)V" } : Jvm.MethodName) prog_41_method_5_code (3 : Nat) (Option.none : Option Jvm.ClassFile.FieldType)).before args0 about1 = true := code_word (m := ⟨2, 2⟩) (meth := k2m2) (c := k2c2) (by decide +kernel) rfl rfl rfl (by decide +kernel)
set_option maxRecDepth 65536 in
theorem w_c4 : (Jvm.Cond.code ({ cls := "com/example/aspen/aspen/IntList", name := "add", desc := "(I)V" } : Jvm.MethodName) prog_41_method_2_code (2 : Nat) (Option.none : Option Jvm.ClassFile.FieldType)).before args0 about1 = true := code_word (m := ⟨2, 1⟩) (meth := k2m1) (c := k2c1) (by decide +kernel) rfl rfl rfl (by decide +kernel)
set_option maxRecDepth 65536 in
theorem w_c5 : (Jvm.Cond.code ({ cls := "java/lang/Math", name := "max", desc := "(II)I" } : Jvm.MethodName) jdk_29_method_65_code (2 : Nat) (Option.some Jvm.ClassFile.FieldType.int)).before args0 about1 = true := code_word (m := ⟨3, 1⟩) (meth := k3m1) (c := k3c1) (by decide +kernel) rfl rfl rfl (by decide +kernel)
set_option maxRecDepth 65536 in
theorem w_c6 : (Jvm.Cond.code ({ cls := "java/util/Arrays", name := "copyOf", desc := "([II)[I" } : Jvm.MethodName) jdk_65_method_123_code (3 : Nat) (Option.some (Jvm.ClassFile.FieldType.array Jvm.ClassFile.FieldType.int))).before args0 about1 = true := code_word (m := ⟨4, 1⟩) (meth := k4m1) (c := k4c1) (by decide +kernel) rfl rfl rfl (by decide +kernel)
set_option maxRecDepth 65536 in
theorem w_c7 : (Jvm.Cond.code ({ cls := "java/lang/Math", name := "min", desc := "(II)I" } : Jvm.MethodName) jdk_29_method_69_code (2 : Nat) (Option.some Jvm.ClassFile.FieldType.int)).before args0 about1 = true := code_word (m := ⟨3, 2⟩) (meth := k3m2) (c := k3c2) (by decide +kernel) rfl rfl rfl (by decide +kernel)
def codes1 : List Jvm.Cond := [Jvm.Cond.code x code maxLocals ret, Jvm.Cond.code ({ cls := "com/example/aspen/aspen/IntList", name := "<init>", desc := "()V" } : Jvm.MethodName) prog_41_method_1_code (1 : Nat) (Option.none : Option Jvm.ClassFile.FieldType), Jvm.Cond.code ({ cls := "java/lang/Object", name := "<init>", desc := "()V" } : Jvm.MethodName) object_method_1_code (1 : Nat) (Option.none : Option Jvm.ClassFile.FieldType), Jvm.Cond.code ({ cls := "com/example/aspen/aspen/IntList", name := "remove", desc := "(I)V" } : Jvm.MethodName) prog_41_method_5_code (3 : Nat) (Option.none : Option Jvm.ClassFile.FieldType), Jvm.Cond.code ({ cls := "com/example/aspen/aspen/IntList", name := "add", desc := "(I)V" } : Jvm.MethodName) prog_41_method_2_code (2 : Nat) (Option.none : Option Jvm.ClassFile.FieldType), Jvm.Cond.code ({ cls := "java/lang/Math", name := "max", desc := "(II)I" } : Jvm.MethodName) jdk_29_method_65_code (2 : Nat) (Option.some Jvm.ClassFile.FieldType.int), Jvm.Cond.code ({ cls := "java/util/Arrays", name := "copyOf", desc := "([II)[I" } : Jvm.MethodName) jdk_65_method_123_code (3 : Nat) (Option.some (Jvm.ClassFile.FieldType.array Jvm.ClassFile.FieldType.int)), Jvm.Cond.code ({ cls := "java/lang/Math", name := "min", desc := "(II)I" } : Jvm.MethodName) jdk_29_method_69_code (2 : Nat) (Option.some Jvm.ClassFile.FieldType.int)]
set_option maxRecDepth 65536 in
theorem codes_eq : words1.filter isCode = codes1 := rfl
theorem w_codes : ∀ c ∈ words1.filter isCode, c.before args0 about1 = true := by
  rw [codes_eq]
  intro c hc
  simp only [codes1, List.mem_cons, List.not_mem_nil, or_false] at hc
  rcases hc with rfl | rfl | rfl | rfl | rfl | rfl | rfl | rfl
  · exact w_c0
  · exact w_c1
  · exact w_c2
  · exact w_c3
  · exact w_c4
  · exact w_c5
  · exact w_c6
  · exact w_c7
set_option maxRecDepth 65536 in
theorem w_t1 : (words1.take 24).all (fun c => isCode c || c.before args0 about1) = true := by decide +kernel
set_option maxRecDepth 65536 in
theorem w_t2 : (words1.drop 24).all (fun c => isCode c || c.before args0 about1) = true := by decide +kernel
theorem w_tables : (allAtoms (Jvm.Cond.code x code maxLocals ret :: tables_1)).before args0 about1 = true := by
  rw [allAtoms_all]
  show words1.all (fun c => c.before args0 about1) = true
  refine all_split ?_ w_codes
  rw [← List.take_append_drop 24 words1, List.all_append, w_t1, w_t2]
  rfl
set_option maxRecDepth 65536 in
theorem w_case : (Jvm.Cond.and given_1 narrow_1).before args0 about1 = true := by decide +kernel
theorem w_applies : (headSpec (Jvm.Cond.code x code maxLocals ret :: tables_1) room_1).applies x e0.platform about1 = true :=
  (Spec.applies_iff w_frames).mpr ⟨w_running, w_runnable, w_alone, w_named, w_hears, w_ripe, w_room, w_tables⟩
theorem atStart : AtStart classFile x code maxLocals ret World_1 tables_1 room_1 Calls_1 rest_1 Pre_1 launch0 p0 e0 about1 theMethod args0 below0 :=
  ⟨lists_1, trivial, launch0.admits_env _ _ _, launch0.least_env, fairChoices_fair.cas, fairChoices_fair.clock, w_frames, w_args, w_heap, w_applies, trivial, trivial, w_case⟩
end start1
theorem witness_1 : WitnessClaimed_1 := ⟨start1.p0, start1.e0, start1.about1, start1.theMethod, start1.args0, start1.below0, start1.atStart⟩
end Jvm.Pilot.@@N@@
