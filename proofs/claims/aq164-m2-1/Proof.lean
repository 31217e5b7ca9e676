import JvmDerived
import JvmDerived.Pilot.@@N@@Statement
import JvmDerived.Pilot.@@N@@Code
set_option linter.unusedVariables false
set_option linter.unusedSimpArgs false
namespace Jvm.Pilot.@@N@@
open Jvm Jvm.ClassFile Sem Op Lib Jvm.Free Jvm.Stand Jvm.LawKit Jvm.RoadKit Bundle Jvm.Pilot.@@N@@.Jvm.D
section OwnLayer
variable {p : Program} {l : Launch} {e : Env} {R : Room} {s : State} {m : MethodId} {args : Array Value} {below : List Frame} {meth : Method} {c : Code} {T T' : State} {locs : List Loc} {cells slots : Nat} {K N : Nat} {Q : Option Value → Heap → List Loc → Prop}
/-- from the frame g over the state T the body comes to its end, and Q holds there -/
def Go (p : Program) (e : Env) (below : List Frame) (s : State) (K N : Nat) (Q : Option Value → Heap → List Loc → Prop) (T : State) (g : JFrame) : Prop :=
  ∃ s₂ o, Steps p.tables e below (T.setTop g) s₂ ∧ s₂.status = .running ∧ Ended s₂ below o ∧ ∃ v L, o = .returned v ∧ Q v s₂.heap L ∧ FrameEnd s o s₂ L K N
theorem own_via {g g' : JFrame} (k : Go p e below s K N Q T' g') (h : ∀ t, Steps p.tables e below (T'.setTop g') t → Steps p.tables e below (T.setTop g) t) : Go p e below s K N Q T g := by
  obtain ⟨a, b, h1, r⟩ := k; exact ⟨a, b, h _ h1, r⟩
theorem own_join {g g' : JFrame} (k : Go p e below s K N Q T' g') (h : Steps p.tables e below (T.setTop g) (T'.setTop g')) : Go p e below s K N Q T g := own_via k fun _ q => h.trans q
theorem own_cast {g g' : JFrame} (q : g = g') (k : Go p e below s K N Q T g') : Go p e below s K N Q T g := q ▸ k
theorem own_ret (X : Stand p l e R s m args below meth c T locs cells slots) (hx : p.tables.exec = Jvm.exec) {pc : Nat} {Ls : Array Slot} {w : Value} {t : FieldType} {i : Instr} {rest : List Value} (hret : meth.sig.returnType = some t) (hlocks : meth.locks = false) (hn : narrow t w = w)
    (hi : (i = .ireturn ∧ (t = .int ∨ t = .boolean ∨ t = .byte ∨ t = .char ∨ t = .short) ∧ ∃ z, w = .int z) ∨ (i = .lreturn ∧ t = .long ∧ ∃ z, w = .long z) ∨ (i = .dreturn ∧ t = .double ∧ ∃ z, w = .double z) ∨ (i = .freturn ∧ t = .float ∧ ∃ z, w = .float z) ∨ (i = .areturn ∧ t.isReference = true ∧ w.isRef = true))
    (hd : decode c.code pc = .ok (i, 1)) (hq : Q (some w) T.heap locs) (hk : cells ≤ K) (hs : slots ≤ N) : Go p e below s K N Q T (mkF m pc Ls (w :: rest)) := by
  obtain ⟨fs, hr, hrun, hended, hW, hsame⟩ := X.leave (v := some w) (fun h => by rw [hret] at h; cases h) (hlocks := hlocks)
  exact ⟨_, _, retOut X hx hret hn hi hd hr, hrun, hended, _, _, rfl, hq, ⟨_, rfl⟩, hW, hsame.mono hk hs⟩
theorem own_retI (X : Stand p l e R s m args below meth c T locs cells slots) (hx : p.tables.exec = Jvm.exec) {pc : Nat} {Ls : Array Slot} {z : Int32} {rest : List Value} (hret : meth.sig.returnType = some .int) (hlocks : meth.locks = false)
    (hd : decode c.code pc = .ok (.ireturn, 1)) (hk : cells ≤ K) (hs : slots ≤ N) (hq : Q (some (.int z)) T.heap locs) : Go p e below s K N Q T (mkF m pc Ls (.int z :: rest)) :=
  own_ret X hx hret hlocks rfl (Or.inl ⟨rfl, Or.inl rfl, _, rfl⟩) hd hq hk hs
theorem own_retJ (X : Stand p l e R s m args below meth c T locs cells slots) (hx : p.tables.exec = Jvm.exec) {pc : Nat} {Ls : Array Slot} {z : Int64} {rest : List Value} (hret : meth.sig.returnType = some .long) (hlocks : meth.locks = false)
    (hd : decode c.code pc = .ok (.lreturn, 1)) (hk : cells ≤ K) (hs : slots ≤ N) (hq : Q (some (.long z)) T.heap locs) : Go p e below s K N Q T (mkF m pc Ls (.long z :: rest)) :=
  own_ret X hx hret hlocks rfl (Or.inr (Or.inl ⟨rfl, rfl, _, rfl⟩)) hd hq hk hs
theorem own_retR (X : Stand p l e R s m args below meth c T locs cells slots) (hx : p.tables.exec = Jvm.exec) {pc : Nat} {Ls : Array Slot} {w : Value} {t : FieldType} {rest : List Value} (hret : meth.sig.returnType = some t) (hlocks : meth.locks = false) (ht : t.isReference = true) (hw : w.isRef = true)
    (hd : decode c.code pc = .ok (.areturn, 1)) (hk : cells ≤ K) (hs : slots ≤ N) (hq : Q (some w) T.heap locs) : Go p e below s K N Q T (mkF m pc Ls (w :: rest)) :=
  own_ret X hx hret hlocks (by rcases ref_cases hw with rfl | ⟨a, rfl⟩ <;> cases t <;> rfl) (Or.inr (Or.inr (Or.inr (Or.inr ⟨rfl, ht, hw⟩)))) hd hq hk hs
theorem own_retZ (X : Stand p l e R s m args below meth c T locs cells slots) (hx : p.tables.exec = Jvm.exec) {pc : Nat} {Ls : Array Slot} {z z' : Int32} {rest : List Value} (hret : meth.sig.returnType = some .boolean) (hlocks : meth.locks = false)
    (hd : decode c.code pc = .ok (.ireturn, 1)) (hz : nar .boolean z = z') (hk : cells ≤ K) (hs : slots ≤ N) (hq : Q (some (.int z')) T.heap locs) : Go p e below s K N Q T (mkF m pc Ls (.int z :: rest)) := by
  subst hz
  obtain ⟨fs, hr, hrun, hended, hW, hsame⟩ := X.leave (v := some (.int (nar .boolean z))) (fun h => by rw [hret] at h; cases h) (hlocks := hlocks)
  exact ⟨_, _, retN X hx (t := .boolean) hret (Or.inl rfl) hd hr, hrun, hended, _, _, rfl, hq, ⟨_, rfl⟩, hW, hsame.mono hk hs⟩
theorem own_retV (X : Stand p l e R s m args below meth c T locs cells slots) (hx : p.tables.exec = Jvm.exec) {pc : Nat} {Ls : Array Slot} (hret : meth.sig.returnType = none) (hlocks : meth.locks = false)
    (hd : decode c.code pc = .ok (.return_, 1)) (hk : cells ≤ K) (hs : slots ≤ N) (hq : Q none T.heap locs) : Go p e below s K N Q T (mkF m pc Ls []) := by
  obtain ⟨fs, hr, hrun, hended, hW, hsame⟩ := X.leave (v := none) (fun _ => rfl) (hlocks := hlocks)
  exact ⟨_, _, X.returnOut hx hret hd hr, hrun, hended, _, _, rfl, hq, ⟨_, rfl⟩, hW, hsame.mono hk hs⟩
/-- the int of a truth value -/
def bi (P : Prop) [Decidable P] : Int32 := if P then 1 else 0
theorem bi_t {P : Prop} [Decidable P] (h : P) : bi P = 1 := if_pos h
theorem bi_f {P : Prop} [Decidable P] (h : ¬ P) : bi P = 0 := if_neg h
theorem bi_0 {P : Prop} [Decidable P] : bi P = 0 ↔ ¬ P := by unfold bi; split <;> simp_all
theorem bi_1 {P : Prop} [Decidable P] : bi P = 1 ↔ P := by unfold bi; split <;> simp_all
theorem bi_nar {P : Prop} [Decidable P] : nar .boolean (bi P) = bi P := by unfold bi; split <;> rfl
theorem bi_iff {P P' : Prop} [Decidable P] [Decidable P'] (h : P ↔ P') : bi P = bi P' := by unfold bi; simp only [h]
theorem bi_eq {P P' : Prop} [Decidable P] [Decidable P'] : bi P = bi P' ↔ (P ↔ P') := by unfold bi; split <;> split <;> simp_all
end OwnLayer
section OwnWords
variable {args : Array Value} {s : State} {t : Term} {C n d : String} {x : Addr}
theorem own_fldV {v : Value} (ht : t.eval args s none [] s = some (.ref x)) (h : (Term.field t C n d).eval args s none [] s = some v) : Fld s s.heap x C n d v :=
  Fld.start ((fld_at (C := C) (n := n) (dd := d) ht).symm.trans h)
theorem own_fldI {z : Int32} (ht : t.eval args s none [] s = some (.ref x)) (h : (Cond.eq (.field t C n d) (.int z)).value args s none s [] = some true) : Fld s s.heap x C n d (.int z) := own_fldV ht (eqv_i rfl h)
theorem own_fldJ {z : Int64} (ht : t.eval args s none [] s = some (.ref x)) (h : (Cond.eq (.field t C n d) (.long z)).value args s none s [] = some true) : Fld s s.heap x C n d (.long z) := own_fldV ht (eqv_l rfl h)
end OwnWords
theorem own_narB (P : Prop) [Decidable P] : narrow .boolean (.int (bi P)) = .int (bi P) := by unfold bi; split <;> rfl
theorem own_fitB (P : Prop) [Decidable P] : fits .boolean (.int (bi P)) = true := by unfold bi; split <;> rfl
theorem own_narR {w : Value} {t : FieldType} (hw : w.isRef = true) : narrow t w = w := by rcases ref_cases hw with rfl | ⟨a, rfl⟩ <;> cases t <;> rfl
theorem own_eqR {args : Array Value} {s : State} {a b : Term} {r : Addr} (hb : b.eval args s none [] s = some (.ref r)) (h : (Cond.eq a b).value args s none s [] = some true) : a.eval args s none [] s = some (.ref r) := by
  cases ha : a.eval args s none [] s with
  | none => simp [Cond.value, ha] at h
  | some x => cases x <;> simp [Cond.value, ha, hb] at h ⊢; exact h
theorem pn0 : plainName "com/example/seshat/seshat/archive/EntityType" = true := by first | (simp [plainName, overriddenIn]; done) | decide +kernel
theorem pn1 : plainName "com/example/seshat/seshat/archive/EntityTypeMayStandAtRootPinLaw" = true := by first | (simp [plainName, overriddenIn]; done) | decide +kernel
theorem pd0 : parseMethodDescriptor "()Z" = some ⟨[], some .boolean⟩ := by decide +kernel
theorem d_may_0 : decode prog_19_method_7_code 0 = .ok (.aload_n 0, 1) := by decide +kernel
theorem d_may_1 : decode prog_19_method_7_code 1 = .ok (.getstatic 3, 3) := by decide +kernel
theorem d_may_4 : decode prog_19_method_7_code 4 = .ok (.if_acmp .ne 7, 3) := by decide +kernel
theorem d_may_7 : decode prog_19_method_7_code 7 = .ok (.iconst 1, 1) := by decide +kernel
theorem d_may_8 : decode prog_19_method_7_code 8 = .ok (.goto 4, 3) := by decide +kernel
theorem d_may_11 : decode prog_19_method_7_code 11 = .ok (.iconst 0, 1) := by decide +kernel
theorem d_may_12 : decode prog_19_method_7_code 12 = .ok (.ireturn, 1) := by decide +kernel
def Q_may (Z : State) (a1 : Addr) (w2 : Addr) (h0 : Heap) (n0 : Nat) (v : Option Value) (h : Heap) (L : List Loc) : Prop := v = some (.int (bi (a1 = w2))) ∧ Fr n0 L ∧ h = h0
set_option maxRecDepth 65536 in
set_option maxHeartbeats 40000000 in
theorem rm_may (l : Launch) (Z : State) (a0 : Array Value) (hw : ∀ d ∈ tables_1, d.before a0 Z = true) (ws : List Jvm.Cond) (a1 : Addr) (w2 : Addr) (h0 : Heap) (n0 : Nat) (Z0 : n0 ≤ h0.size) (S_CLASS : Sta Z h0 "com/example/seshat/seshat/archive/EntityType" "CLASS" "Lcom/example/seshat/seshat/archive/EntityType;" (.ref w2)) :
    MetFree l (⟨"com/example/seshat/seshat/archive/EntityType", "mayStandAtRoot", "()Z"⟩ : MethodName) (head1 (Jvm.Cond.code (⟨"com/example/seshat/seshat/archive/EntityType", "mayStandAtRoot", "()Z"⟩ : MethodName) prog_19_method_7_code 1 (some .boolean) :: ws) ({ frames := 0, cells := 0, slots := 0, locals := 0 } : Room)) (fun a U => a = #[(.ref a1)] ∧ Z.Warmed39 U.vm ∧ U.heap = h0) (fun _ _ _ _ _ => True) (fun _ U o U' => ∃ v L, o = .returned v ∧ (Q_may Z a1 w2 h0 n0) v U'.heap L ∧ FrameEnd U o U' L ({ frames := 0, cells := 0, slots := 0, locals := 0 } : Room).cells ({ frames := 0, cells := 0, slots := 0, locals := 0 } : Room).slots) := by
  refine MetFree.of_bodySF (plainFor_of_name pn0) hisR ?_
  intro p e s m args below meth c s₁ Bd hml0 hP hK
  obtain ⟨rfl, hZ, hh⟩ := hP
  have hx := Bd.exec
  have hby := Bd.bytes
  have hlk : meth.locks = false := BodyLoose.notSynchronized Bd
  have hret := Bd.returns
  have hml : c.maxLocals = 1 := hml0
  have hown : s.vm.findClass "com/example/seshat/seshat/archive/EntityType" = some m.cls := findClass_of_methodNamed Bd.named
  have hnm := (name_of_methodNamed Bd.named Bd.method).1
  have X0 : Stand p l e ({ frames := 0, cells := 0, slots := 0, locals := 0 } : Room) s m #[(.ref a1)] below meth c s₁ [] 0 0 := Stand.of_body Bd
  have e0 : s₁.heap = h0 := by rw [← hh, Bd.state]; rfl
  have N0 := Fr.nil n0
  show Go p e below s ({ frames := 0, cells := 0, slots := 0, locals := 0 } : Room).cells ({ frames := 0, cells := 0, slots := 0, locals := 0 } : Room).slots (Q_may Z a1 w2 h0 n0) s₁ (entryFrame m #[(.ref a1)] 1)
  refine own_cast (g' := mkF m 0 #[.val (.ref a1)] []) (by first | (simp [entryFrame, mkF, argsToLocals, Value.category]; done) | rfl) ?_
  show Go _ _ _ _ _ _ _ _ (mkF m 0 #[.val (.ref a1)] [])
  refine own_via ?_ fun _ kt => XS.aloadN X0.here hx rfl (hb hby d_may_0) rfl rfl kt
  show Go _ _ _ _ _ _ _ _ (mkF m 1 #[.val (.ref a1)] [(.ref a1)])
  obtain ⟨T1, X1, e1, st1⟩ := getS2 X0 hx hZ hown (host := "") (Or.inl (hw _ (List.mem_of_getElem? (i := 9) rfl))) Via.refl e0 S_CLASS (g := (mkF m 1 #[.val (.ref a1)] [(.ref a1)])) rfl (hb hby d_may_1)
  refine own_via ?_ st1
  show Go _ _ _ _ _ _ _ _ (mkF m 4 #[.val (.ref a1)] [(.ref w2), (.ref a1)])
  by_cases hc2 : a1 = w2
  · skip
    refine own_via ?_ fun _ kt => Jvm.RoadKit.acmp (g := (mkF m 4 #[.val (.ref a1)] [(.ref w2), (.ref a1)])) X1 hx rfl rfl rfl (pc0 := 4) (pc' := 7) (same := true) rfl (hb hby d_may_4) rfl (decide_eq_true (congrArg Value.ref hc2)) (by decide) (by decide) kt
    show Go _ _ _ _ _ _ _ _ (mkF m 7 #[.val (.ref a1)] [])
    refine own_via ?_ fun _ kt => XS.iconst X1.here hx rfl (hb hby d_may_7) kt
    show Go _ _ _ _ _ _ _ _ (mkF m 8 #[.val (.ref a1)] [(.int (1 : Int32))])
    refine own_via ?_ fun _ kt => XS.goto X1.here hx rfl (pc0 := 8) (pc' := 12) rfl (hb hby d_may_8) (by decide) (by decide) kt
    show Go _ _ _ _ _ _ _ _ (mkF m 12 #[.val (.ref a1)] [(.int (1 : Int32))])
    exact own_retZ (z' := (1 : Int32)) X1 hx hret hlk (hb hby d_may_12) rfl (by decide) (by decide) (by rw [e1]; exact ⟨by rw [bi_t hc2], N0, rfl⟩)
  · skip
    refine own_via ?_ fun _ kt => Jvm.RoadKit.acmp (g := (mkF m 4 #[.val (.ref a1)] [(.ref w2), (.ref a1)])) X1 hx rfl rfl rfl (pc0 := 4) (pc' := 11) (same := false) rfl (hb hby d_may_4) rfl (decide_eq_false fun q => hc2 (Value.ref.inj q)) (by decide) (by decide) kt
    show Go _ _ _ _ _ _ _ _ (mkF m 11 #[.val (.ref a1)] [])
    refine own_via ?_ fun _ kt => XS.iconst X1.here hx rfl (hb hby d_may_11) kt
    show Go _ _ _ _ _ _ _ _ (mkF m 12 #[.val (.ref a1)] [(.int (0 : Int32))])
    exact own_retZ (z' := (0 : Int32)) X1 hx hret hlk (hb hby d_may_12) rfl (by decide) (by decide) (by rw [e1]; exact ⟨by rw [bi_f hc2], N0, rfl⟩)
def Q_law (Z : State) (k : Int32) (aC aF aD : Addr) (h0 : Heap) (n0 : Nat) (v : Option Value) (h : Heap) (L : List Loc) : Prop := v = some (.int 1) ∧ Fr n0 L
set_option maxRecDepth 65536 in
set_option maxHeartbeats 40000000 in
theorem rm_law (l : Launch) (Z : State) (a0 : Array Value) (hw : ∀ d ∈ tables_1, d.before a0 Z = true) (ws : List Jvm.Cond) (k : Int32) (aC aF aD : Addr) (h0 : Heap) (n0 : Nat) (Z0 : n0 ≤ h0.size) (S_CLASS : Sta Z h0 "com/example/seshat/seshat/archive/EntityType" "CLASS" "Lcom/example/seshat/seshat/archive/EntityType;" (.ref aC)) (S_FOLDER : Sta Z h0 "com/example/seshat/seshat/archive/EntityType" "FOLDER" "Lcom/example/seshat/seshat/archive/EntityType;" (.ref aF)) (S_DOCUMENT : Sta Z h0 "com/example/seshat/seshat/archive/EntityType" "DOCUMENT" "Lcom/example/seshat/seshat/archive/EntityType;" (.ref aD)) (E_CLASS : Exa Z h0 aC "com/example/seshat/seshat/archive/EntityType") (E_FOLDER : Exa Z h0 aF "com/example/seshat/seshat/archive/EntityType") (E_DOCUMENT : Exa Z h0 aD "com/example/seshat/seshat/archive/EntityType") (neF : aF ≠ aC) (neD : aD ≠ aC) :
    MetFree l x (head1 (Jvm.Cond.code x code maxLocals ret :: ws) room_1) (fun a U => a = #[(.int k)] ∧ Z.Warmed39 U.vm ∧ U.heap = h0) (fun _ _ _ _ _ => True) (fun _ U o U' => ∃ v L, o = .returned v ∧ (Q_law Z k aC aF aD h0 n0) v U'.heap L ∧ FrameEnd U o U' L room_1.cells room_1.slots) := by
  refine MetFree.of_bodySF (plainFor_of_name pn1) hisR ?_
  intro p e s m args below meth c s₁ Bd hml0 hP hK
  obtain ⟨rfl, hZ, hh⟩ := hP
  have hx := Bd.exec
  have hby := Bd.bytes
  have hlk : meth.locks = false := BodyLoose.notSynchronized Bd
  have hret := Bd.returns
  have hml : c.maxLocals = 4 := hml0
  have hown : s.vm.findClass "com/example/seshat/seshat/archive/EntityTypeMayStandAtRootPinLaw" = some m.cls := findClass_of_methodNamed Bd.named
  have hnm := (name_of_methodNamed Bd.named Bd.method).1
  have X0 : Stand p l e room_1 s m #[(.int k)] below meth c s₁ [] 0 0 := Stand.of_body Bd
  have e0 : s₁.heap = h0 := by rw [← hh, Bd.state]; rfl
  have N0 := Fr.nil n0
  show Go p e below s room_1.cells room_1.slots (Q_law Z k aC aF aD h0 n0) s₁ (entryFrame m #[(.int k)] maxLocals)
  refine own_cast (g' := mkF m 0 #[.val (.int k), .unset, .unset, .unset] []) (by first | (simp [entryFrame, mkF, argsToLocals, Value.category, maxLocals]; done) | rfl) ?_
  show Go _ _ _ _ _ _ _ _ (mkF m 0 #[.val (.int k), .unset, .unset, .unset] [])
  refine own_via ?_ fun _ kt => XS.iloadN X0.here hx rfl (hb hby at_0) rfl kt
  show Go _ _ _ _ _ _ _ _ (mkF m 1 #[.val (.int k), .unset, .unset, .unset] [(.int k)])
  refine own_via ?_ fun _ kt => X0.ldcInt hx hown (mvT hZ (hw _ (List.mem_of_getElem? (i := 0) rfl))) (g := (mkF m 1 #[.val (.int k), .unset, .unset, .unset] [(.int k)])) rfl (hb hby at_1) _ kt
  show Go _ _ _ _ _ _ _ _ (mkF m 3 #[.val (.int k), .unset, .unset, .unset] [(.int (2147483647 : Int32)), (.int k)])
  refine own_via ?_ fun _ kt => XS.iand X0.here hx rfl (hb hby at_3) rfl kt
  show Go _ _ _ _ _ _ _ _ (mkF m 4 #[.val (.int k), .unset, .unset, .unset] [(.int (k &&& (2147483647 : Int32)))])
  refine own_via ?_ fun _ kt => XS.iconst X0.here hx rfl (hb hby at_4) kt
  show Go _ _ _ _ _ _ _ _ (mkF m 5 #[.val (.int k), .unset, .unset, .unset] [(.int (3 : Int32)), (.int (k &&& (2147483647 : Int32)))])
  refine own_via ?_ fun _ kt => iremM X0 hx rfl (hb hby at_5) rfl (by decide) kt
  show Go _ _ _ _ _ _ _ _ (mkF m 6 #[.val (.int k), .unset, .unset, .unset] [(.int ((k &&& (2147483647 : Int32)) % (3 : Int32)))])
  refine own_via ?_ fun _ kt => XS.istoreN X0.here hx rfl (hb hby at_6) rfl (l' := #[.val (.int k), .val (.int ((k &&& (2147483647 : Int32)) % (3 : Int32))), .unset, .unset]) rfl kt
  show Go _ _ _ _ _ _ _ _ (mkF m 7 #[.val (.int k), .val (.int ((k &&& (2147483647 : Int32)) % (3 : Int32))), .unset, .unset] [])
  refine own_via ?_ fun _ kt => XS.iloadN X0.here hx rfl (hb hby at_7) rfl kt
  show Go _ _ _ _ _ _ _ _ (mkF m 8 #[.val (.int k), .val (.int ((k &&& (2147483647 : Int32)) % (3 : Int32))), .unset, .unset] [(.int ((k &&& (2147483647 : Int32)) % (3 : Int32)))])
  by_cases hc1 : ((k &&& (2147483647 : Int32)) % (3 : Int32)) = (0 : Int32)
  · skip
    refine own_via ?_ fun _ kt => XS.ifNo X0.here hx rfl (hb hby at_8) rfl ((if0 _ _).trans (teq hc1).2) kt
    show Go _ _ _ _ _ _ _ _ (mkF m 11 #[.val (.int k), .val (.int ((k &&& (2147483647 : Int32)) % (3 : Int32))), .unset, .unset] [])
    obtain ⟨T2, X2, e2, st2⟩ := getS2 X0 hx hZ hown (host := "") (Or.inl (hw _ (List.mem_of_getElem? (i := 1) rfl))) Via.refl e0 S_CLASS (g := (mkF m 11 #[.val (.int k), .val (.int ((k &&& (2147483647 : Int32)) % (3 : Int32))), .unset, .unset] [])) rfl (hb hby at_11)
    refine own_via ?_ st2
    show Go _ _ _ _ _ _ _ _ (mkF m 14 #[.val (.int k), .val (.int ((k &&& (2147483647 : Int32)) % (3 : Int32))), .unset, .unset] [(.ref aC)])
    refine own_via ?_ fun _ kt => XS.astoreN X2.here hx rfl (hb hby at_14) rfl rfl (l' := #[.val (.int k), .val (.int ((k &&& (2147483647 : Int32)) % (3 : Int32))), .val (.ref aC), .unset]) rfl kt
    show Go _ _ _ _ _ _ _ _ (mkF m 15 #[.val (.int k), .val (.int ((k &&& (2147483647 : Int32)) % (3 : Int32))), .val (.ref aC), .unset] [])
    refine own_via ?_ fun _ kt => XS.iconst X2.here hx rfl (hb hby at_15) kt
    show Go _ _ _ _ _ _ _ _ (mkF m 16 #[.val (.int k), .val (.int ((k &&& (2147483647 : Int32)) % (3 : Int32))), .val (.ref aC), .unset] [(.int (1 : Int32))])
    refine own_via ?_ fun _ kt => XS.istoreN X2.here hx rfl (hb hby at_16) rfl (l' := #[.val (.int k), .val (.int ((k &&& (2147483647 : Int32)) % (3 : Int32))), .val (.ref aC), .val (.int (1 : Int32))]) rfl kt
    show Go _ _ _ _ _ _ _ _ (mkF m 17 #[.val (.int k), .val (.int ((k &&& (2147483647 : Int32)) % (3 : Int32))), .val (.ref aC), .val (.int (1 : Int32))] [])
    refine own_via ?_ fun _ kt => XS.goto X2.here hx rfl (pc0 := 17) (pc' := 40) rfl (hb hby at_17) (by decide) (by decide) kt
    show Go _ _ _ _ _ _ _ _ (mkF m 40 #[.val (.int k), .val (.int ((k &&& (2147483647 : Int32)) % (3 : Int32))), .val (.ref aC), .val (.int (1 : Int32))] [])
    refine own_via ?_ fun _ kt => XS.aloadN X2.here hx rfl (hb hby at_40) rfl rfl kt
    show Go _ _ _ _ _ _ _ _ (mkF m 41 #[.val (.int k), .val (.int ((k &&& (2147483647 : Int32)) % (3 : Int32))), .val (.ref aC), .val (.int (1 : Int32))] [(.ref aC)])
    obtain ⟨cq3, kq3, q3a, q3b, q3c⟩ := isOf hZ e2 E_CLASS
    obtain ⟨_, _, ⟨T3, L3, k3, n3⟩, -, X3, ⟨Lc3, hQ3, l3, y3, z3⟩, st3⟩ := X2.virtualBack hx (y := (⟨"com/example/seshat/seshat/archive/EntityType", "mayStandAtRoot", "()Z"⟩ : MethodName)) (z := (⟨"com/example/seshat/seshat/archive/EntityType", "mayStandAtRoot", "()Z"⟩ : MethodName)) hown (mvT hZ (hw _ (List.mem_of_getElem? (i := 4) rfl))) (mvT hZ (hw _ (List.mem_of_getElem? (i := 5) rfl))) (notFace_of_selects (args := #[]) (mvT hZ (hw _ (List.mem_of_getElem? (i := 7) rfl)))) (mvT hZ (hw _ (List.mem_of_getElem? (i := 7) rfl))) (mvT hZ (hw _ (List.mem_of_getElem? (i := 6) rfl))) (by decide) (backOf (W := 0) (rm_may l Z a0 hw [] aC aC h0 n0 Z0 S_CLASS) hZ (hw _ (List.mem_of_getElem? (i := 8) rfl)) (hw _ (List.mem_of_getElem? (i := 2) rfl)) (by decide) (by decide)) q3a q3c (g := (mkF m 41 #[.val (.int k), .val (.int ((k &&& (2147483647 : Int32)) % (3 : Int32))), .val (.ref aC), .val (.int (1 : Int32))] [(.ref aC)])) rfl (by rw [hml]; rfl) (Steps.refl _) (argsL := []) (rest := []) (lenOf pd0 rfl) rfl (by show 2 * 0 + _ ≤ _; exact Nat.le_of_eq rfl) (hb hby at_41) (fun _ _ => ⟨rfl, e2, (by decide : 0 + 0 ≤ _), (by decide : 0 + 0 ≤ _)⟩)
    dsimp only [Pt.U, Pt.locs, Pt.cells, Pt.slots] at X3 l3 y3 z3 st3 hQ3
    subst l3 y3 z3
    obtain ⟨rfl, Nq3, e3⟩ := hQ3
    have N3 := Fr.app N0 Nq3
    refine own_join ?_ st3
    show Go _ _ _ _ _ _ _ _ (mkF m 44 #[.val (.int k), .val (.int ((k &&& (2147483647 : Int32)) % (3 : Int32))), .val (.ref aC), .val (.int (1 : Int32))] [(.int (bi (aC = aC)))])
    refine own_via ?_ fun _ kt => XS.iloadN X3.here hx rfl (hb hby at_44) rfl kt
    show Go _ _ _ _ _ _ _ _ (mkF m 45 #[.val (.int k), .val (.int ((k &&& (2147483647 : Int32)) % (3 : Int32))), .val (.ref aC), .val (.int (1 : Int32))] [(.int (1 : Int32)), (.int (bi (aC = aC)))])
    refine own_via ?_ fun _ kt => XS.icmpNo X3.here hx rfl (hb hby at_45) rfl (teq (bi_1.mpr (rfl : aC = aC))).2 kt
    show Go _ _ _ _ _ _ _ _ (mkF m 48 #[.val (.int k), .val (.int ((k &&& (2147483647 : Int32)) % (3 : Int32))), .val (.ref aC), .val (.int (1 : Int32))] [])
    refine own_via ?_ fun _ kt => XS.iconst X3.here hx rfl (hb hby at_48) kt
    show Go _ _ _ _ _ _ _ _ (mkF m 49 #[.val (.int k), .val (.int ((k &&& (2147483647 : Int32)) % (3 : Int32))), .val (.ref aC), .val (.int (1 : Int32))] [(.int (1 : Int32))])
    refine own_via ?_ fun _ kt => XS.goto X3.here hx rfl (pc0 := 49) (pc' := 53) rfl (hb hby at_49) (by decide) (by decide) kt
    show Go _ _ _ _ _ _ _ _ (mkF m 53 #[.val (.int k), .val (.int ((k &&& (2147483647 : Int32)) % (3 : Int32))), .val (.ref aC), .val (.int (1 : Int32))] [(.int (1 : Int32))])
    exact own_retZ (z' := (1 : Int32)) X3 hx hret hlk (hb hby at_53) rfl (by decide) (by decide) (by rw [e3]; exact ⟨rfl, N3⟩)
  · skip
    refine own_via ?_ fun _ kt => XS.ifYes X0.here hx rfl (pc0 := 8) (pc' := 20) rfl (hb hby at_8) rfl ((if0 _ _).trans (feq hc1).2) (by decide) (by decide) kt
    show Go _ _ _ _ _ _ _ _ (mkF m 20 #[.val (.int k), .val (.int ((k &&& (2147483647 : Int32)) % (3 : Int32))), .unset, .unset] [])
    refine own_via ?_ fun _ kt => XS.iloadN X0.here hx rfl (hb hby at_20) rfl kt
    show Go _ _ _ _ _ _ _ _ (mkF m 21 #[.val (.int k), .val (.int ((k &&& (2147483647 : Int32)) % (3 : Int32))), .unset, .unset] [(.int ((k &&& (2147483647 : Int32)) % (3 : Int32)))])
    refine own_via ?_ fun _ kt => XS.iconst X0.here hx rfl (hb hby at_21) kt
    show Go _ _ _ _ _ _ _ _ (mkF m 22 #[.val (.int k), .val (.int ((k &&& (2147483647 : Int32)) % (3 : Int32))), .unset, .unset] [(.int (1 : Int32)), (.int ((k &&& (2147483647 : Int32)) % (3 : Int32)))])
    by_cases hc4 : ((k &&& (2147483647 : Int32)) % (3 : Int32)) = (1 : Int32)
    · skip
      refine own_via ?_ fun _ kt => XS.icmpNo X0.here hx rfl (hb hby at_22) rfl (teq hc4).2 kt
      show Go _ _ _ _ _ _ _ _ (mkF m 25 #[.val (.int k), .val (.int ((k &&& (2147483647 : Int32)) % (3 : Int32))), .unset, .unset] [])
      obtain ⟨T5, X5, e5, st5⟩ := getS2 X0 hx hZ hown (host := "") (Or.inl (hw _ (List.mem_of_getElem? (i := 12) rfl))) Via.refl e0 S_FOLDER (g := (mkF m 25 #[.val (.int k), .val (.int ((k &&& (2147483647 : Int32)) % (3 : Int32))), .unset, .unset] [])) rfl (hb hby at_25)
      refine own_via ?_ st5
      show Go _ _ _ _ _ _ _ _ (mkF m 28 #[.val (.int k), .val (.int ((k &&& (2147483647 : Int32)) % (3 : Int32))), .unset, .unset] [(.ref aF)])
      refine own_via ?_ fun _ kt => XS.astoreN X5.here hx rfl (hb hby at_28) rfl rfl (l' := #[.val (.int k), .val (.int ((k &&& (2147483647 : Int32)) % (3 : Int32))), .val (.ref aF), .unset]) rfl kt
      show Go _ _ _ _ _ _ _ _ (mkF m 29 #[.val (.int k), .val (.int ((k &&& (2147483647 : Int32)) % (3 : Int32))), .val (.ref aF), .unset] [])
      refine own_via ?_ fun _ kt => XS.iconst X5.here hx rfl (hb hby at_29) kt
      show Go _ _ _ _ _ _ _ _ (mkF m 30 #[.val (.int k), .val (.int ((k &&& (2147483647 : Int32)) % (3 : Int32))), .val (.ref aF), .unset] [(.int (0 : Int32))])
      refine own_via ?_ fun _ kt => XS.istoreN X5.here hx rfl (hb hby at_30) rfl (l' := #[.val (.int k), .val (.int ((k &&& (2147483647 : Int32)) % (3 : Int32))), .val (.ref aF), .val (.int (0 : Int32))]) rfl kt
      show Go _ _ _ _ _ _ _ _ (mkF m 31 #[.val (.int k), .val (.int ((k &&& (2147483647 : Int32)) % (3 : Int32))), .val (.ref aF), .val (.int (0 : Int32))] [])
      refine own_via ?_ fun _ kt => XS.goto X5.here hx rfl (pc0 := 31) (pc' := 40) rfl (hb hby at_31) (by decide) (by decide) kt
      show Go _ _ _ _ _ _ _ _ (mkF m 40 #[.val (.int k), .val (.int ((k &&& (2147483647 : Int32)) % (3 : Int32))), .val (.ref aF), .val (.int (0 : Int32))] [])
      refine own_via ?_ fun _ kt => XS.aloadN X5.here hx rfl (hb hby at_40) rfl rfl kt
      show Go _ _ _ _ _ _ _ _ (mkF m 41 #[.val (.int k), .val (.int ((k &&& (2147483647 : Int32)) % (3 : Int32))), .val (.ref aF), .val (.int (0 : Int32))] [(.ref aF)])
      obtain ⟨cq6, kq6, q6a, q6b, q6c⟩ := isOf hZ e5 E_FOLDER
      obtain ⟨_, _, ⟨T6, L6, k6, n6⟩, -, X6, ⟨Lc6, hQ6, l6, y6, z6⟩, st6⟩ := X5.virtualBack hx (y := (⟨"com/example/seshat/seshat/archive/EntityType", "mayStandAtRoot", "()Z"⟩ : MethodName)) (z := (⟨"com/example/seshat/seshat/archive/EntityType", "mayStandAtRoot", "()Z"⟩ : MethodName)) hown (mvT hZ (hw _ (List.mem_of_getElem? (i := 4) rfl))) (mvT hZ (hw _ (List.mem_of_getElem? (i := 5) rfl))) (notFace_of_selects (args := #[]) (mvT hZ (hw _ (List.mem_of_getElem? (i := 7) rfl)))) (mvT hZ (hw _ (List.mem_of_getElem? (i := 7) rfl))) (mvT hZ (hw _ (List.mem_of_getElem? (i := 6) rfl))) (by decide) (backOf (W := 0) (rm_may l Z a0 hw [] aF aC h0 n0 Z0 S_CLASS) hZ (hw _ (List.mem_of_getElem? (i := 8) rfl)) (hw _ (List.mem_of_getElem? (i := 2) rfl)) (by decide) (by decide)) q6a q6c (g := (mkF m 41 #[.val (.int k), .val (.int ((k &&& (2147483647 : Int32)) % (3 : Int32))), .val (.ref aF), .val (.int (0 : Int32))] [(.ref aF)])) rfl (by rw [hml]; rfl) (Steps.refl _) (argsL := []) (rest := []) (lenOf pd0 rfl) rfl (by show 2 * 0 + _ ≤ _; exact Nat.le_of_eq rfl) (hb hby at_41) (fun _ _ => ⟨rfl, e5, (by decide : 0 + 0 ≤ _), (by decide : 0 + 0 ≤ _)⟩)
      dsimp only [Pt.U, Pt.locs, Pt.cells, Pt.slots] at X6 l6 y6 z6 st6 hQ6
      subst l6 y6 z6
      obtain ⟨rfl, Nq6, e6⟩ := hQ6
      have N6 := Fr.app N0 Nq6
      refine own_join ?_ st6
      show Go _ _ _ _ _ _ _ _ (mkF m 44 #[.val (.int k), .val (.int ((k &&& (2147483647 : Int32)) % (3 : Int32))), .val (.ref aF), .val (.int (0 : Int32))] [(.int (bi (aF = aC)))])
      refine own_via ?_ fun _ kt => XS.iloadN X6.here hx rfl (hb hby at_44) rfl kt
      show Go _ _ _ _ _ _ _ _ (mkF m 45 #[.val (.int k), .val (.int ((k &&& (2147483647 : Int32)) % (3 : Int32))), .val (.ref aF), .val (.int (0 : Int32))] [(.int (0 : Int32)), (.int (bi (aF = aC)))])
      refine own_via ?_ fun _ kt => XS.icmpNo X6.here hx rfl (hb hby at_45) rfl (teq (bi_0.mpr neF)).2 kt
      show Go _ _ _ _ _ _ _ _ (mkF m 48 #[.val (.int k), .val (.int ((k &&& (2147483647 : Int32)) % (3 : Int32))), .val (.ref aF), .val (.int (0 : Int32))] [])
      refine own_via ?_ fun _ kt => XS.iconst X6.here hx rfl (hb hby at_48) kt
      show Go _ _ _ _ _ _ _ _ (mkF m 49 #[.val (.int k), .val (.int ((k &&& (2147483647 : Int32)) % (3 : Int32))), .val (.ref aF), .val (.int (0 : Int32))] [(.int (1 : Int32))])
      refine own_via ?_ fun _ kt => XS.goto X6.here hx rfl (pc0 := 49) (pc' := 53) rfl (hb hby at_49) (by decide) (by decide) kt
      show Go _ _ _ _ _ _ _ _ (mkF m 53 #[.val (.int k), .val (.int ((k &&& (2147483647 : Int32)) % (3 : Int32))), .val (.ref aF), .val (.int (0 : Int32))] [(.int (1 : Int32))])
      exact own_retZ (z' := (1 : Int32)) X6 hx hret hlk (hb hby at_53) rfl (by decide) (by decide) (by rw [e6]; exact ⟨rfl, N6⟩)
    · skip
      refine own_via ?_ fun _ kt => XS.icmpYes X0.here hx rfl (pc0 := 22) (pc' := 34) rfl (hb hby at_22) rfl (feq hc4).2 (by decide) (by decide) kt
      show Go _ _ _ _ _ _ _ _ (mkF m 34 #[.val (.int k), .val (.int ((k &&& (2147483647 : Int32)) % (3 : Int32))), .unset, .unset] [])
      obtain ⟨T7, X7, e7, st7⟩ := getS2 X0 hx hZ hown (host := "") (Or.inl (hw _ (List.mem_of_getElem? (i := 10) rfl))) Via.refl e0 S_DOCUMENT (g := (mkF m 34 #[.val (.int k), .val (.int ((k &&& (2147483647 : Int32)) % (3 : Int32))), .unset, .unset] [])) rfl (hb hby at_34)
      refine own_via ?_ st7
      show Go _ _ _ _ _ _ _ _ (mkF m 37 #[.val (.int k), .val (.int ((k &&& (2147483647 : Int32)) % (3 : Int32))), .unset, .unset] [(.ref aD)])
      refine own_via ?_ fun _ kt => XS.astoreN X7.here hx rfl (hb hby at_37) rfl rfl (l' := #[.val (.int k), .val (.int ((k &&& (2147483647 : Int32)) % (3 : Int32))), .val (.ref aD), .unset]) rfl kt
      show Go _ _ _ _ _ _ _ _ (mkF m 38 #[.val (.int k), .val (.int ((k &&& (2147483647 : Int32)) % (3 : Int32))), .val (.ref aD), .unset] [])
      refine own_via ?_ fun _ kt => XS.iconst X7.here hx rfl (hb hby at_38) kt
      show Go _ _ _ _ _ _ _ _ (mkF m 39 #[.val (.int k), .val (.int ((k &&& (2147483647 : Int32)) % (3 : Int32))), .val (.ref aD), .unset] [(.int (0 : Int32))])
      refine own_via ?_ fun _ kt => XS.istoreN X7.here hx rfl (hb hby at_39) rfl (l' := #[.val (.int k), .val (.int ((k &&& (2147483647 : Int32)) % (3 : Int32))), .val (.ref aD), .val (.int (0 : Int32))]) rfl kt
      show Go _ _ _ _ _ _ _ _ (mkF m 40 #[.val (.int k), .val (.int ((k &&& (2147483647 : Int32)) % (3 : Int32))), .val (.ref aD), .val (.int (0 : Int32))] [])
      refine own_via ?_ fun _ kt => XS.aloadN X7.here hx rfl (hb hby at_40) rfl rfl kt
      show Go _ _ _ _ _ _ _ _ (mkF m 41 #[.val (.int k), .val (.int ((k &&& (2147483647 : Int32)) % (3 : Int32))), .val (.ref aD), .val (.int (0 : Int32))] [(.ref aD)])
      obtain ⟨cq8, kq8, q8a, q8b, q8c⟩ := isOf hZ e7 E_DOCUMENT
      obtain ⟨_, _, ⟨T8, L8, k8, n8⟩, -, X8, ⟨Lc8, hQ8, l8, y8, z8⟩, st8⟩ := X7.virtualBack hx (y := (⟨"com/example/seshat/seshat/archive/EntityType", "mayStandAtRoot", "()Z"⟩ : MethodName)) (z := (⟨"com/example/seshat/seshat/archive/EntityType", "mayStandAtRoot", "()Z"⟩ : MethodName)) hown (mvT hZ (hw _ (List.mem_of_getElem? (i := 4) rfl))) (mvT hZ (hw _ (List.mem_of_getElem? (i := 5) rfl))) (notFace_of_selects (args := #[]) (mvT hZ (hw _ (List.mem_of_getElem? (i := 7) rfl)))) (mvT hZ (hw _ (List.mem_of_getElem? (i := 7) rfl))) (mvT hZ (hw _ (List.mem_of_getElem? (i := 6) rfl))) (by decide) (backOf (W := 0) (rm_may l Z a0 hw [] aD aC h0 n0 Z0 S_CLASS) hZ (hw _ (List.mem_of_getElem? (i := 8) rfl)) (hw _ (List.mem_of_getElem? (i := 2) rfl)) (by decide) (by decide)) q8a q8c (g := (mkF m 41 #[.val (.int k), .val (.int ((k &&& (2147483647 : Int32)) % (3 : Int32))), .val (.ref aD), .val (.int (0 : Int32))] [(.ref aD)])) rfl (by rw [hml]; rfl) (Steps.refl _) (argsL := []) (rest := []) (lenOf pd0 rfl) rfl (by show 2 * 0 + _ ≤ _; exact Nat.le_of_eq rfl) (hb hby at_41) (fun _ _ => ⟨rfl, e7, (by decide : 0 + 0 ≤ _), (by decide : 0 + 0 ≤ _)⟩)
      dsimp only [Pt.U, Pt.locs, Pt.cells, Pt.slots] at X8 l8 y8 z8 st8 hQ8
      subst l8 y8 z8
      obtain ⟨rfl, Nq8, e8⟩ := hQ8
      have N8 := Fr.app N0 Nq8
      refine own_join ?_ st8
      show Go _ _ _ _ _ _ _ _ (mkF m 44 #[.val (.int k), .val (.int ((k &&& (2147483647 : Int32)) % (3 : Int32))), .val (.ref aD), .val (.int (0 : Int32))] [(.int (bi (aD = aC)))])
      refine own_via ?_ fun _ kt => XS.iloadN X8.here hx rfl (hb hby at_44) rfl kt
      show Go _ _ _ _ _ _ _ _ (mkF m 45 #[.val (.int k), .val (.int ((k &&& (2147483647 : Int32)) % (3 : Int32))), .val (.ref aD), .val (.int (0 : Int32))] [(.int (0 : Int32)), (.int (bi (aD = aC)))])
      refine own_via ?_ fun _ kt => XS.icmpNo X8.here hx rfl (hb hby at_45) rfl (teq (bi_0.mpr neD)).2 kt
      show Go _ _ _ _ _ _ _ _ (mkF m 48 #[.val (.int k), .val (.int ((k &&& (2147483647 : Int32)) % (3 : Int32))), .val (.ref aD), .val (.int (0 : Int32))] [])
      refine own_via ?_ fun _ kt => XS.iconst X8.here hx rfl (hb hby at_48) kt
      show Go _ _ _ _ _ _ _ _ (mkF m 49 #[.val (.int k), .val (.int ((k &&& (2147483647 : Int32)) % (3 : Int32))), .val (.ref aD), .val (.int (0 : Int32))] [(.int (1 : Int32))])
      refine own_via ?_ fun _ kt => XS.goto X8.here hx rfl (pc0 := 49) (pc' := 53) rfl (hb hby at_49) (by decide) (by decide) kt
      show Go _ _ _ _ _ _ _ _ (mkF m 53 #[.val (.int k), .val (.int ((k &&& (2147483647 : Int32)) % (3 : Int32))), .val (.ref aD), .val (.int (0 : Int32))] [(.int (1 : Int32))])
      exact own_retZ (z' := (1 : Int32)) X8 hx hret hlk (hb hby at_53) rfl (by decide) (by decide) (by rw [e8]; exact ⟨rfl, N8⟩)
set_option maxRecDepth 65536 in
set_option maxHeartbeats 40000000 in
theorem comes_1 {Post : Tables → Env → Array Value → State → Outcome → State → Prop} (hpost : ∀ tb e args s v u, (limb_1_1.after args s (.returned v) u = true ∧ limb_1_2.after args s (.returned v) u = true ∧ True) → FrameEnd s (.returned v) u (Jvm.fieldLocs frame_1_writes args s ++ Jvm.arrayLocs frame_1_arrays args s ++ Jvm.staticLocs frame_1_statics s) 0 0 → Post tb e args s (.returned v) u) :
    ArmFor flags0 classFile x code maxLocals ret World_1 tables_1 room_1 Calls_1 rest_1 Pre_1 Post := by
  intro l hfl _ _ p e ha hc hk s m args below hf hA hF happ hP
  obtain ⟨hcalls, hrest, hpre⟩ := hP
  obtain ⟨-, -, -, hnamed, -, -, -, hat⟩ := (Spec.applies_iff hf).mp happ
  obtain ⟨hg, hn⟩ := and_e (Cond.before_iff.mp (show (Jvm.Cond.and given_1 narrow_1).before args s = true from hpre))
  obtain ⟨ga1, gb1⟩ := and_e hg
  obtain ⟨ga2, gb2⟩ := and_e hn
  obtain ⟨ga3, gb3⟩ := and_e gb2
  obtain ⟨ga4, gb4⟩ := and_e gb3
  obtain ⟨ga5, gb5⟩ := and_e gb4
  obtain ⟨ga6, gb6⟩ := and_e gb5
  obtain ⟨w0, rfl⟩ : ∃ w0 : Value, args = #[w0] := by
    have hs : args.size = 1 := by simpa [Cond.value, given_1] using ga1
    obtain ⟨L⟩ := args
    match L, hs with
    | [w0], _ => exact ⟨w0, rfl⟩
  have hw := fun d (hd : d ∈ tables_1) => atoms_spec (ws := Jvm.Cond.code x code maxLocals ret :: tables_1) hat d (List.mem_cons_of_mem _ hd)
  have hfit : Fit s := fun {y c} hc i hi => by
    obtain ⟨ha, rfl⟩ := Array.getElem?_eq_some_iff.mp hc
    have q := List.all_eq_true.mp ((Array.all_eq_true_iff_forall_mem.mp hF) _ (Array.getElem_mem ha)) i (List.mem_range.mpr hi)
    simpa [Array.getElem?_eq_getElem hi] using q
  obtain ⟨i0, ei0⟩ := is_v gb1
  obtain rfl : w0 = (.int i0) := Option.some.inj ei0
  obtain ⟨ga51, gb51⟩ := and_e hn
  obtain ⟨ga52, gb52⟩ := and_e gb51
  obtain ⟨ga53, gb53⟩ := and_e gb52
  obtain ⟨ga54, gb54⟩ := and_e gb53
  obtain ⟨ga55, gb55⟩ := and_e gb54
  obtain ⟨a_CLASS, ev_CLASS⟩ := exa_v ga2
  have S_CLASS : Sta s s.heap "com/example/seshat/seshat/archive/EntityType" "CLASS" "Lcom/example/seshat/seshat/archive/EntityType;" (.ref a_CLASS) := Sta.start ev_CLASS (Or.inr ⟨(hw _ (List.mem_of_getElem? (i := 2) rfl)), (hw _ (List.mem_of_getElem? (i := 3) rfl))⟩)
  have E_CLASS : Exa s s.heap a_CLASS "com/example/seshat/seshat/archive/EntityType" := Exa.start ev_CLASS ga2
  obtain ⟨a_DOCUMENT, ev_DOCUMENT⟩ := exa_v ga3
  have S_DOCUMENT : Sta s s.heap "com/example/seshat/seshat/archive/EntityType" "DOCUMENT" "Lcom/example/seshat/seshat/archive/EntityType;" (.ref a_DOCUMENT) := Sta.start ev_DOCUMENT (Or.inr ⟨(hw _ (List.mem_of_getElem? (i := 2) rfl)), (hw _ (List.mem_of_getElem? (i := 11) rfl))⟩)
  have E_DOCUMENT : Exa s s.heap a_DOCUMENT "com/example/seshat/seshat/archive/EntityType" := Exa.start ev_DOCUMENT ga3
  obtain ⟨a_FOLDER, ev_FOLDER⟩ := exa_v ga6
  have S_FOLDER : Sta s s.heap "com/example/seshat/seshat/archive/EntityType" "FOLDER" "Lcom/example/seshat/seshat/archive/EntityType;" (.ref a_FOLDER) := Sta.start ev_FOLDER (Or.inr ⟨(hw _ (List.mem_of_getElem? (i := 2) rfl)), (hw _ (List.mem_of_getElem? (i := 13) rfl))⟩)
  have E_FOLDER : Exa s s.heap a_FOLDER "com/example/seshat/seshat/archive/EntityType" := Exa.start ev_FOLDER ga6
  obtain ⟨a_CLASS, ev_CLASS⟩ := exa_v ga51
  have S_CLASS : Sta s s.heap "com/example/seshat/seshat/archive/EntityType" "CLASS" "Lcom/example/seshat/seshat/archive/EntityType;" (.ref a_CLASS) := Sta.start ev_CLASS (Or.inr ⟨(hw _ (List.mem_of_getElem? (i := 2) rfl)), (hw _ (List.mem_of_getElem? (i := 3) rfl))⟩)
  have E_CLASS : Exa s s.heap a_CLASS "com/example/seshat/seshat/archive/EntityType" := Exa.start ev_CLASS ga51
  obtain ⟨a_DOCUMENT, ev_DOCUMENT⟩ := exa_v ga52
  have S_DOCUMENT : Sta s s.heap "com/example/seshat/seshat/archive/EntityType" "DOCUMENT" "Lcom/example/seshat/seshat/archive/EntityType;" (.ref a_DOCUMENT) := Sta.start ev_DOCUMENT (Or.inr ⟨(hw _ (List.mem_of_getElem? (i := 2) rfl)), (hw _ (List.mem_of_getElem? (i := 11) rfl))⟩)
  have E_DOCUMENT : Exa s s.heap a_DOCUMENT "com/example/seshat/seshat/archive/EntityType" := Exa.start ev_DOCUMENT ga52
  obtain ⟨a_FOLDER, ev_FOLDER⟩ := exa_v ga55
  have S_FOLDER : Sta s s.heap "com/example/seshat/seshat/archive/EntityType" "FOLDER" "Lcom/example/seshat/seshat/archive/EntityType;" (.ref a_FOLDER) := Sta.start ev_FOLDER (Or.inr ⟨(hw _ (List.mem_of_getElem? (i := 2) rfl)), (hw _ (List.mem_of_getElem? (i := 13) rfl))⟩)
  have E_FOLDER : Exa s s.heap a_FOLDER "com/example/seshat/seshat/archive/EntityType" := Exa.start ev_FOLDER ga55
  have O_DOCUMENT : Fld s s.heap a_DOCUMENT "java/lang/Enum" "ordinal" "I" (.int (2 : Int32)) := own_fldI ev_DOCUMENT ga4
  have O_CLASS : Fld s s.heap a_CLASS "java/lang/Enum" "ordinal" "I" (.int (0 : Int32)) := own_fldI ev_CLASS ga5
  have O_FOLDER : Fld s s.heap a_FOLDER "java/lang/Enum" "ordinal" "I" (.int (1 : Int32)) := own_fldI ev_FOLDER gb6
  have O_DOCUMENT : Fld s s.heap a_DOCUMENT "java/lang/Enum" "ordinal" "I" (.int (2 : Int32)) := own_fldI ev_DOCUMENT ga53
  have O_CLASS : Fld s s.heap a_CLASS "java/lang/Enum" "ordinal" "I" (.int (0 : Int32)) := own_fldI ev_CLASS ga54
  have O_FOLDER : Fld s s.heap a_FOLDER "java/lang/Enum" "ordinal" "I" (.int (1 : Int32)) := own_fldI ev_FOLDER gb55
  have neF : a_FOLDER ≠ a_CLASS := O_FOLDER.ne O_CLASS (by decide)
  have neD : a_DOCUMENT ≠ a_CLASS := O_DOCUMENT.ne O_CLASS (by decide)
  obtain ⟨n, o, h1, h2, h3, _, L, rfl, ⟨rfl, N⟩, hq⟩ := rm_law l s _ hw tables_1 i0 a_CLASS a_FOLDER a_DOCUMENT s.heap s.heap.size (Nat.le_refl _) S_CLASS S_FOLDER S_DOCUMENT E_CLASS E_FOLDER E_DOCUMENT neF neD p e ha hc hk s m _ below hf ((Spec.applies_iff_loose hf).mp happ).1 ⟨rfl, State.Warmed39.refl s, rfl⟩ trivial
  refine ⟨n, _, h1, h2, h3, hpost _ _ _ _ _ _ ⟨Cond.after_iff.mpr rfl, Cond.after_iff.mpr (eq_i res_at (Term.int_eval (1)) rfl), trivial⟩ ⟨hq.1, hq.2.1, (hq.2.2.sift fun y hy => Or.inr (N y hy)).mono (by decide) (by decide)⟩⟩
theorem main_1_1 : Claimed_1_1 := comes_1 fun _ _ _ _ _ _ h hF => ⟨h.1, hF⟩
theorem main_1_2 : Claimed_1_2 := comes_1 fun _ _ _ _ _ _ h hF => ⟨h.2.1, hF⟩
end Jvm.Pilot.@@N@@
namespace Jvm.Pilot.@@N@@
open Jvm Jvm.ClassFile Sem Op Lib Jvm.Free Jvm.Stand Jvm.Pilot.@@N@@.Jvm.D
/-! MADE BY PROGRAM (witnessworld.py) out of the Statement's table words and the real class files: 12 classes; the members and pool entries that the words name. The judged class is class 1, her method 1. -/
namespace start1
open Jvm.ClassFile
def u (s : String) : CpInfo := .utf8 (stringToUtf16 s)
/-- a pool by its gaps: so many unusable entries, then the entry; so many at the end -/
def gap : Nat → List CpInfo → List CpInfo
  | 0, r => r
  | n + 1, r => .unusable :: gap n r
def poolList (es : List (Nat × CpInfo)) (last : Nat) : List CpInfo := es.foldr (fun e r => gap e.1 (e.2 :: r)) (gap last [])
def pool (es : List (Nat × CpInfo)) (last : Nat) : Array CpInfo := ⟨poolList es last⟩
def fileOf (pool : Array CpInfo) (this : Nat) (attrs : Array Attribute := #[]) (ms : Array MethodInfo := #[]) (fl : Nat := 33) (sup : Nat := 0) (ifs : Array Nat := #[]) (fds : Array FieldInfo := #[]) : ClassFile where
  minorVersion := 0
  majorVersion := 65
  constantPool := pool
  accessFlags := fl
  thisClass := this
  superClass := sup
  interfaces := ifs
  fields := fds
  methods := ms
  attributes := attrs
def plain (name : String) (sup : Option ClassId) : Class where
  name := name
  kind := .ordinary
  loader := none
  accessFlags := 33
  super := sup
  interfaces := #[]
  cf := none
  fields := #[]
  methods := #[]
  instanceTypes := #[]
  staticTypes := #[]
  resolved := #[]
  callSites := []
  init := .initialized
  statics := none
  mirror := none

def pool0 : Array CpInfo := pool [(5, u "<init>"), (0, u "()V"), (1, .class_ 10), (1, u "java/lang/Object")] 113

def k0m0 : Method := { name := "<init>", desc := "()V", sig := { parameters := [], returnType := none }, accessFlags := 1, code := none }
/-- java/lang/Object -/
def k0 : Class := { plain "java/lang/Object" none with
  accessFlags := 33
  interfaces := #[]
  cf := some (fileOf pool0 8 #[] #[{ accessFlags := 1, nameIndex := 5, descriptorIndex := 6, attributes := #[] }] 33 0 #[] #[])
  fields := #[]
  methods := #[k0m0]
  instanceTypes := #[]
  staticTypes := #[]
  resolved := Array.replicate 124 none
  statics := none }

def pool1 : Array CpInfo := pool [(2, .class_ 4), (1, u "java/lang/Object"), (0, u "<init>"), (0, u "()V"), (0, .integer 2147483647), (0, .fieldref 9 10), (0, .class_ 11), (0, .nameAndType 12 13), (0, u "com/example/seshat/seshat/archive/EntityType"), (0, u "CLASS"), (0, u "Lcom/example/seshat/seshat/archive/EntityType;"), (0, .fieldref 9 15), (0, .nameAndType 16 13), (0, u "FOLDER"), (0, .fieldref 9 18), (0, .nameAndType 19 13), (0, u "DOCUMENT"), (0, .methodref 9 21), (0, .nameAndType 22 23), (0, u "mayStandAtRoot"), (0, u "()Z"), (0, .class_ 25), (0, u "com/example/seshat/seshat/archive/EntityTypeMayStandAtRootPinLaw"), (2, u "law"), (0, u "(I)Z")] 3

def k1m0 : Method := { name := "<init>", desc := "()V", sig := { parameters := [], returnType := none }, accessFlags := 1, code := none }
def k1c1 : Code := { maxStack := 2, maxLocals := 4, code := code, exceptionTable := #[], attributes := #[] }
def k1m1 : Method := { name := "law", desc := "(I)Z", sig := { parameters := [.int], returnType := some .boolean }, accessFlags := 9, code := some k1c1 }
/-- com/example/seshat/seshat/archive/EntityTypeMayStandAtRootPinLaw -/
def k1 : Class := { plain "com/example/seshat/seshat/archive/EntityTypeMayStandAtRootPinLaw" (some 0) with
  accessFlags := 49
  interfaces := #[]
  cf := some (fileOf pool1 24 #[] #[{ accessFlags := 1, nameIndex := 5, descriptorIndex := 6, attributes := #[] }, { accessFlags := 9, nameIndex := 28, descriptorIndex := 29, attributes := #[] }] 49 2 #[] #[])
  fields := #[]
  methods := #[k1m0, k1m1]
  instanceTypes := #[]
  staticTypes := #[]
  resolved := Array.replicate 33 none
  statics := none }

def pool2 : Array CpInfo := pool [(1, .class_ 2), (0, u "java/lang/constant/Constable"), (0, .class_ 4), (0, u "java/lang/Object")] 6

/-- java/lang/constant/Constable -/
def k2 : Class := { plain "java/lang/constant/Constable" (some 0) with
  accessFlags := 1537
  interfaces := #[]
  cf := some (fileOf pool2 1 #[] #[] 1537 3 #[] #[])
  fields := #[]
  methods := #[]
  instanceTypes := #[]
  staticTypes := #[]
  resolved := Array.replicate 11 none
  statics := none }

def pool3 : Array CpInfo := pool [(1, .class_ 2), (0, u "java/lang/Comparable"), (0, .class_ 4), (0, u "java/lang/Object")] 7

/-- java/lang/Comparable -/
def k3 : Class := { plain "java/lang/Comparable" (some 0) with
  accessFlags := 1537
  interfaces := #[]
  cf := some (fileOf pool3 1 #[] #[] 1537 3 #[] #[])
  fields := #[]
  methods := #[]
  instanceTypes := #[]
  staticTypes := #[]
  resolved := Array.replicate 12 none
  statics := none }

def pool4 : Array CpInfo := pool [(1, .class_ 2), (0, u "java/io/Serializable"), (0, .class_ 4), (0, u "java/lang/Object")] 2

/-- java/io/Serializable -/
def k4 : Class := { plain "java/io/Serializable" (some 0) with
  accessFlags := 1537
  interfaces := #[]
  cf := some (fileOf pool4 1 #[] #[] 1537 3 #[] #[])
  fields := #[]
  methods := #[]
  instanceTypes := #[]
  staticTypes := #[]
  resolved := Array.replicate 7 none
  statics := none }

def pool5 : Array CpInfo := pool [(2, .class_ 4), (1, u "java/lang/Enum"), (0, u "name"), (0, u "Ljava/lang/String;"), (2, u "ordinal"), (0, u "I"), (1, .class_ 14), (1, u "java/lang/Object"), (4, u "hash"), (86, .class_ 108), (1, u "java/lang/Enum$EnumDesc"), (2, .class_ 112), (0, u "java/lang/constant/Constable"), (0, .class_ 114), (0, u "java/lang/Comparable"), (0, .class_ 116), (0, u "java/io/Serializable")] 87

/-- java/lang/Enum -/
def k5 : Class := { plain "java/lang/Enum" (some 0) with
  accessFlags := 1057
  interfaces := #[2, 3, 4]
  cf := some (fileOf pool5 2 #[.nestMembers #[106]] #[] 1057 12 #[111, 113, 115] #[{ accessFlags := 18, nameIndex := 5, descriptorIndex := 6, attributes := #[] }, { accessFlags := 18, nameIndex := 9, descriptorIndex := 10, attributes := #[] }, { accessFlags := 2, nameIndex := 19, descriptorIndex := 10, attributes := #[] }])
  fields := #[{ name := "name", type := (.object "java/lang/String"), accessFlags := 18, slot := 0, constantValue := 0 }, { name := "ordinal", type := .int, accessFlags := 18, slot := 1, constantValue := 0 }, { name := "hash", type := .int, accessFlags := 2, slot := 2, constantValue := 0 }]
  methods := #[]
  instanceTypes := #[(.object "java/lang/String"), .int, .int]
  staticTypes := #[]
  resolved := Array.replicate 204 none
  statics := none }

def pool6 : Array CpInfo := pool [(1, .class_ 2), (0, u "com/example/seshat/seshat/archive/EntityType"), (0, .fieldref 1 4), (0, .nameAndType 5 6), (0, u "CLASS"), (0, u "Lcom/example/seshat/seshat/archive/EntityType;"), (2, u "FOLDER"), (2, u "DOCUMENT"), (2, u "$VALUES"), (0, u "[Lcom/example/seshat/seshat/archive/EntityType;"), (6, .class_ 25), (1, u "java/lang/Enum"), (8, u "letter"), (0, u "C"), (2, u "builtInTemplate"), (0, u "Ljava/lang/String;"), (45, u "mayStandAtRoot"), (0, u "()Z")] 8

def k6c0 : Code := { maxStack := 2, maxLocals := 1, code := prog_19_method_7_code, exceptionTable := #[], attributes := #[] }
def k6m0 : Method := { name := "mayStandAtRoot", desc := "()Z", sig := { parameters := [], returnType := some .boolean }, accessFlags := 1, code := some k6c0 }
/-- com/example/seshat/seshat/archive/EntityType -/
def k6 : Class := { plain "com/example/seshat/seshat/archive/EntityType" (some 5) with
  accessFlags := 16433
  interfaces := #[]
  cf := some (fileOf pool6 1 #[] #[{ accessFlags := 1, nameIndex := 85, descriptorIndex := 86, attributes := #[] }] 16433 23 #[] #[{ accessFlags := 16409, nameIndex := 5, descriptorIndex := 6, attributes := #[] }, { accessFlags := 16409, nameIndex := 9, descriptorIndex := 6, attributes := #[] }, { accessFlags := 16409, nameIndex := 12, descriptorIndex := 6, attributes := #[] }, { accessFlags := 18, nameIndex := 34, descriptorIndex := 35, attributes := #[] }, { accessFlags := 18, nameIndex := 38, descriptorIndex := 39, attributes := #[] }, { accessFlags := 4122, nameIndex := 15, descriptorIndex := 16, attributes := #[] }])
  fields := #[{ name := "CLASS", type := (.object "com/example/seshat/seshat/archive/EntityType"), accessFlags := 16409, slot := 0, constantValue := 0 }, { name := "FOLDER", type := (.object "com/example/seshat/seshat/archive/EntityType"), accessFlags := 16409, slot := 1, constantValue := 0 }, { name := "DOCUMENT", type := (.object "com/example/seshat/seshat/archive/EntityType"), accessFlags := 16409, slot := 2, constantValue := 0 }, { name := "letter", type := .char, accessFlags := 18, slot := 3, constantValue := 0 }, { name := "builtInTemplate", type := (.object "java/lang/String"), accessFlags := 18, slot := 4, constantValue := 0 }, { name := "$VALUES", type := (.array (.object "com/example/seshat/seshat/archive/EntityType")), accessFlags := 4122, slot := 3, constantValue := 0 }]
  methods := #[k6m0]
  instanceTypes := #[(.object "java/lang/String"), .int, .int, .char, (.object "java/lang/String")]
  staticTypes := #[(.object "com/example/seshat/seshat/archive/EntityType"), (.object "com/example/seshat/seshat/archive/EntityType"), (.object "com/example/seshat/seshat/archive/EntityType"), (.array (.object "com/example/seshat/seshat/archive/EntityType"))]
  resolved := Array.replicate 95 none
  statics := some 0 }

def pool7 : Array CpInfo := pool [(1, u "java/lang/Cloneable"), (0, .class_ 1), (0, u "java/lang/Object"), (0, .class_ 3)] 3

/-- java/lang/Cloneable -/
def k7 : Class := { plain "java/lang/Cloneable" (some 0) with
  accessFlags := 1537
  interfaces := #[]
  cf := some (fileOf pool7 2 #[] #[] 1537 4 #[] #[])
  fields := #[]
  methods := #[]
  instanceTypes := #[]
  staticTypes := #[]
  resolved := Array.replicate 8 none
  statics := none }

/-- the primitive byte -/
def k8 : Class := { plain "byte" none with kind := .primitive 'B', accessFlags := 0x411 }
/-- [B -/
def k9 : Class := { plain "[B" (some 0) with kind := .array 8 .byte, interfaces := #[7, 4], accessFlags := 1041 }

/-- the primitive int -/
def k10 : Class := { plain "int" none with kind := .primitive 'I', accessFlags := 0x411 }
/-- [I -/
def k11 : Class := { plain "[I" (some 0) with kind := .array 10 .int, interfaces := #[7, 4], accessFlags := 1041 }

def heap : Heap := #[{ cls := 6, slots := #[.ref 1, .ref 2, .ref 3, .null], vm := .statics 6 },
  { cls := 6, slots := #[.null, .int 0, .int 0, .int 0, .null], vm := .none },
  { cls := 6, slots := #[.null, .int 1, .int 0, .int 0, .null], vm := .none },
  { cls := 6, slots := #[.null, .int 2, .int 0, .int 0, .null], vm := .none }]
def classes : Array Class := #[k0, k1, k2, k3, k4, k5, k6, k7, k8, k9, k10, k11]
def interned : List (Array UInt16 × Addr) := []
def slotsUsed : Nat := 19
def theMethod : MethodId := ⟨1, 1⟩
def args0 : Array Value := #[.int 5]
def aboutOver (below : List Frame) : State where
  vm := { classes := classes, interned := interned.toArray }
  heap := heap
  slotsUsed := slotsUsed
  threads := #[{ frames := .invoking theMethod args0 :: below }]
def below0 : List Frame := [.native { method := ⟨0, 0⟩, args := #[] }]
def about1 : State := aboutOver below0
def p0 : Program := .bare "" "" ""
def e0 : Env := launch0.env 0 0 0
theorem w_frames : about1.frames = Frame.invoking theMethod args0 :: below0 := rfl
set_option maxRecDepth 65536 in
theorem w_args : argsFit about1.vm theMethod args0 = true := by decide +kernel
set_option maxRecDepth 65536 in
theorem w_heap : heapFits about1 = true := by decide +kernel
set_option maxRecDepth 65536 in
theorem w_runnable : about1.curStatus? = some .runnable := by decide +kernel
set_option maxRecDepth 65536 in
theorem w_alone : about1.alone = true := by decide +kernel
set_option maxRecDepth 65536 in
theorem w_named : about1.methodNamed? x = some theMethod := by decide +kernel
set_option maxRecDepth 65536 in
theorem w_hears : about1.hears theMethod below0 = true := by decide +kernel
set_option maxRecDepth 65536 in
theorem w_ripe : about1.ripe theMethod args0 below0 = true := by decide +kernel
theorem w_running : about1.status = .running := rfl
set_option maxRecDepth 65536 in
theorem w_room : about1.hasRoom e0.platform room_1 = true :=
  launch0.hasRoom_least _ room_1 (by decide +kernel) (by decide +kernel) (by decide +kernel) (by decide +kernel) (by decide +kernel) (by decide +kernel)
theorem allAtoms_all (ts : List Jvm.Cond) (a : Array Jvm.Value) (st : Jvm.State) : (allAtoms ts).before a st = ts.all (fun c => c.before a st) := by
  induction ts with
  | nil => rfl
  | cons c t ih =>
    show (Jvm.Cond.and c (allAtoms t)).before a st = _
    rw [Jvm.Cond.before_and, ih, List.all_cons]
def words1 : List Jvm.Cond := Jvm.Cond.code x code maxLocals ret :: tables_1
/-- a 'code' word, met by the world's own term for the bytes: nothing is compared byte by byte -/
theorem code_word {y : MethodName} {bytes : ByteArray} {mx : Nat} {rt : Option FieldType} {a : Array Value} {s : State} {m : MethodId} {meth : Method} {c : Code} (h1 : s.methodNamed? y = some m) (h2 : s.vm.method? m = some meth) (h3 : meth.code = some c) (h4 : c.code = bytes)
    (h5 : (c.maxLocals == mx && c.exceptionTable.isEmpty && decide (c.maxStack ≤ mostOperands) && decide (meth.sig.returnType = rt) && !meth.locks && decide (parseMethodDescriptor y.desc = some meth.sig)) = true) : (Jvm.Cond.code y bytes mx rt).before a s = true := by
  simp only [Bool.and_eq_true, beq_iff_eq, Bool.not_eq_true', decide_eq_true_eq] at h5
  obtain ⟨⟨⟨⟨⟨g1, g2⟩, g3⟩, g4⟩, g5⟩, g6⟩ := h5
  simp [Cond.before, Cond.holds, Cond.value, h1, h2, h3, h4, g1, g2, g3, g4, g5, g6]
def isCode : Jvm.Cond → Bool
  | .code _ _ _ _ => true
  | _ => false
theorem all_split {L : List Jvm.Cond} {P : Jvm.Cond → Bool} (h1 : L.all (fun c => isCode c || P c) = true) (h2 : ∀ c ∈ L.filter isCode, P c = true) : L.all P = true := by
  refine List.all_eq_true.mpr fun c hc => ?_
  have h := List.all_eq_true.mp h1 c hc
  rcases Bool.eq_false_or_eq_true (isCode c) with hi | hi
  · exact h2 c (List.mem_filter.mpr ⟨hc, hi⟩)
  · simpa [hi] using h
set_option maxRecDepth 65536 in
theorem w_c0 : (Jvm.Cond.code x code maxLocals ret).before args0 about1 = true := code_word (m := ⟨1, 1⟩) (meth := k1m1) (c := k1c1) (by decide +kernel) rfl rfl rfl (by decide +kernel)
set_option maxRecDepth 65536 in
theorem w_c1 : (Jvm.Cond.code ({ cls := "com/example/seshat/seshat/archive/EntityType", name := "mayStandAtRoot", desc := "()Z" } : Jvm.MethodName) prog_19_method_7_code (1 : Nat) (Option.some Jvm.ClassFile.FieldType.boolean)).before args0 about1 = true := code_word (m := ⟨6, 0⟩) (meth := k6m0) (c := k6c0) (by decide +kernel) rfl rfl rfl (by decide +kernel)
def codes1 : List Jvm.Cond := [Jvm.Cond.code x code maxLocals ret, Jvm.Cond.code ({ cls := "com/example/seshat/seshat/archive/EntityType", name := "mayStandAtRoot", desc := "()Z" } : Jvm.MethodName) prog_19_method_7_code (1 : Nat) (Option.some Jvm.ClassFile.FieldType.boolean)]
set_option maxRecDepth 65536 in
theorem codes_eq : words1.filter isCode = codes1 := rfl
theorem w_codes : ∀ c ∈ words1.filter isCode, c.before args0 about1 = true := by
  rw [codes_eq]
  intro c hc
  simp only [codes1, List.mem_cons, List.not_mem_nil, or_false] at hc
  rcases hc with rfl | rfl
  · exact w_c0
  · exact w_c1
set_option maxRecDepth 65536 in
theorem w_t1 : words1.all (fun c => isCode c || c.before args0 about1) = true := by decide +kernel
theorem w_tables : (allAtoms (Jvm.Cond.code x code maxLocals ret :: tables_1)).before args0 about1 = true := by
  rw [allAtoms_all]
  show words1.all (fun c => c.before args0 about1) = true
  refine all_split ?_ w_codes
  rw [w_t1]
set_option maxRecDepth 65536 in
theorem w_case : (Jvm.Cond.and given_1 narrow_1).before args0 about1 = true := by decide +kernel
theorem w_applies : (headSpec (Jvm.Cond.code x code maxLocals ret :: tables_1) room_1).applies x e0.platform about1 = true :=
  (Spec.applies_iff w_frames).mpr ⟨w_running, w_runnable, w_alone, w_named, w_hears, w_ripe, w_room, w_tables⟩
theorem atStart : AtStart classFile x code maxLocals ret World_1 tables_1 room_1 Calls_1 rest_1 Pre_1 launch0 p0 e0 about1 theMethod args0 below0 :=
  ⟨lists_1, trivial, launch0.admits_env _ _ _, launch0.least_env, fairChoices_fair.cas, fairChoices_fair.clock, w_frames, w_args, w_heap, w_applies, trivial, trivial, w_case⟩
end start1
theorem witness_1 : WitnessClaimed_1 := ⟨start1.p0, start1.e0, start1.about1, start1.theMethod, start1.args0, start1.below0, start1.atStart⟩
end Jvm.Pilot.@@N@@
