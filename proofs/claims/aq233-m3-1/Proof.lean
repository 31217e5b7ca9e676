import JvmDerived
import JvmDerived.Pilot.@@N@@Statement
import JvmDerived.Pilot.@@N@@Code
set_option linter.unusedVariables false
set_option linter.unusedSimpArgs false
namespace Jvm.Pilot.@@N@@
open Jvm Jvm.ClassFile Sem Op Lib Jvm.Free Jvm.Stand Jvm.LawKit Jvm.RoadKit Bundle Jvm.Pilot.@@N@@.Jvm.D
section OwnLayer
variable {p : Program} {l : Launch} {e : Env} {R : Room} {s : State} {m : MethodId} {args : Array Value} {below : List Frame} {meth : Method} {c : Code} {T T' : State} {locs : List Loc} {cells slots : Nat} {K N : Nat} {Q : Option Value → Heap → List Loc → Prop}
/-- from the frame g over the state T the body comes to its end, and Q holds there -/
def Go (p : Program) (e : Env) (below : List Frame) (s : State) (K N : Nat) (Q : Option Value → Heap → List Loc → Prop) (T : State) (g : JFrame) : Prop :=
  ∃ s₂ o, Steps p.tables e below (T.setTop g) s₂ ∧ s₂.status = .running ∧ Ended s₂ below o ∧ ∃ v L, o = .returned v ∧ Q v s₂.heap L ∧ FrameEnd s o s₂ L K N
theorem own_via {g g' : JFrame} (k : Go p e below s K N Q T' g') (h : ∀ t, Steps p.tables e below (T'.setTop g') t → Steps p.tables e below (T.setTop g) t) : Go p e below s K N Q T g := by
  obtain ⟨a, b, h1, r⟩ := k; exact ⟨a, b, h _ h1, r⟩
theorem own_join {g g' : JFrame} (k : Go p e below s K N Q T' g') (h : Steps p.tables e below (T.setTop g) (T'.setTop g')) : Go p e below s K N Q T g := own_via k fun _ q => h.trans q
theorem own_cast {g g' : JFrame} (q : g = g') (k : Go p e below s K N Q T g') : Go p e below s K N Q T g := q ▸ k
theorem own_ret (X : Stand p l e R s m args below meth c T locs cells slots) (hx : p.tables.exec = Jvm.exec) {pc : Nat} {Ls : Array Slot} {w : Value} {t : FieldType} {i : Instr} {rest : List Value} (hret : meth.sig.returnType = some t) (hlocks : meth.locks = false) (hn : narrow t w = w)
    (hi : (i = .ireturn ∧ (t = .int ∨ t = .boolean ∨ t = .byte ∨ t = .char ∨ t = .short) ∧ ∃ z, w = .int z) ∨ (i = .lreturn ∧ t = .long ∧ ∃ z, w = .long z) ∨ (i = .dreturn ∧ t = .double ∧ ∃ z, w = .double z) ∨ (i = .freturn ∧ t = .float ∧ ∃ z, w = .float z) ∨ (i = .areturn ∧ t.isReference = true ∧ w.isRef = true))
    (hd : decode c.code pc = .ok (i, 1)) (hq : Q (some w) T.heap locs) (hk : cells ≤ K) (hs : slots ≤ N) : Go p e below s K N Q T (mkF m pc Ls (w :: rest)) := by
  obtain ⟨fs, hr, hrun, hended, hW, hsame⟩ := X.leave (v := some w) (fun h => by rw [hret] at h; cases h) (hlocks := hlocks)
  exact ⟨_, _, retOut X hx hret hn hi hd hr, hrun, hended, _, _, rfl, hq, ⟨_, rfl⟩, hW, hsame.mono hk hs⟩
theorem own_retI (X : Stand p l e R s m args below meth c T locs cells slots) (hx : p.tables.exec = Jvm.exec) {pc : Nat} {Ls : Array Slot} {z : Int32} {rest : List Value} (hret : meth.sig.returnType = some .int) (hlocks : meth.locks = false)
    (hd : decode c.code pc = .ok (.ireturn, 1)) (hk : cells ≤ K) (hs : slots ≤ N) (hq : Q (some (.int z)) T.heap locs) : Go p e below s K N Q T (mkF m pc Ls (.int z :: rest)) :=
  own_ret X hx hret hlocks rfl (Or.inl ⟨rfl, Or.inl rfl, _, rfl⟩) hd hq hk hs
theorem own_retJ (X : Stand p l e R s m args below meth c T locs cells slots) (hx : p.tables.exec = Jvm.exec) {pc : Nat} {Ls : Array Slot} {z : Int64} {rest : List Value} (hret : meth.sig.returnType = some .long) (hlocks : meth.locks = false)
    (hd : decode c.code pc = .ok (.lreturn, 1)) (hk : cells ≤ K) (hs : slots ≤ N) (hq : Q (some (.long z)) T.heap locs) : Go p e below s K N Q T (mkF m pc Ls (.long z :: rest)) :=
  own_ret X hx hret hlocks rfl (Or.inr (Or.inl ⟨rfl, rfl, _, rfl⟩)) hd hq hk hs
theorem own_retR (X : Stand p l e R s m args below meth c T locs cells slots) (hx : p.tables.exec = Jvm.exec) {pc : Nat} {Ls : Array Slot} {w : Value} {t : FieldType} {rest : List Value} (hret : meth.sig.returnType = some t) (hlocks : meth.locks = false) (ht : t.isReference = true) (hw : w.isRef = true)
    (hd : decode c.code pc = .ok (.areturn, 1)) (hk : cells ≤ K) (hs : slots ≤ N) (hq : Q (some w) T.heap locs) : Go p e below s K N Q T (mkF m pc Ls (w :: rest)) :=
  own_ret X hx hret hlocks (by rcases ref_cases hw with rfl | ⟨a, rfl⟩ <;> cases t <;> rfl) (Or.inr (Or.inr (Or.inr (Or.inr ⟨rfl, ht, hw⟩)))) hd hq hk hs
theorem own_retZ (X : Stand p l e R s m args below meth c T locs cells slots) (hx : p.tables.exec = Jvm.exec) {pc : Nat} {Ls : Array Slot} {z z' : Int32} {rest : List Value} (hret : meth.sig.returnType = some .boolean) (hlocks : meth.locks = false)
    (hd : decode c.code pc = .ok (.ireturn, 1)) (hz : nar .boolean z = z') (hk : cells ≤ K) (hs : slots ≤ N) (hq : Q (some (.int z')) T.heap locs) : Go p e below s K N Q T (mkF m pc Ls (.int z :: rest)) := by
  subst hz
  obtain ⟨fs, hr, hrun, hended, hW, hsame⟩ := X.leave (v := some (.int (nar .boolean z))) (fun h => by rw [hret] at h; cases h) (hlocks := hlocks)
  exact ⟨_, _, retN X hx (t := .boolean) hret (Or.inl rfl) hd hr, hrun, hended, _, _, rfl, hq, ⟨_, rfl⟩, hW, hsame.mono hk hs⟩
theorem own_retV (X : Stand p l e R s m args below meth c T locs cells slots) (hx : p.tables.exec = Jvm.exec) {pc : Nat} {Ls : Array Slot} (hret : meth.sig.returnType = none) (hlocks : meth.locks = false)
    (hd : decode c.code pc = .ok (.return_, 1)) (hk : cells ≤ K) (hs : slots ≤ N) (hq : Q none T.heap locs) : Go p e below s K N Q T (mkF m pc Ls []) := by
  obtain ⟨fs, hr, hrun, hended, hW, hsame⟩ := X.leave (v := none) (fun _ => rfl) (hlocks := hlocks)
  exact ⟨_, _, X.returnOut hx hret hd hr, hrun, hended, _, _, rfl, hq, ⟨_, rfl⟩, hW, hsame.mono hk hs⟩
/-- the int of a truth value -/
def bi (P : Prop) [Decidable P] : Int32 := if P then 1 else 0
theorem bi_t {P : Prop} [Decidable P] (h : P) : bi P = 1 := if_pos h
theorem bi_f {P : Prop} [Decidable P] (h : ¬ P) : bi P = 0 := if_neg h
theorem bi_0 {P : Prop} [Decidable P] : bi P = 0 ↔ ¬ P := by unfold bi; split <;> simp_all
theorem bi_1 {P : Prop} [Decidable P] : bi P = 1 ↔ P := by unfold bi; split <;> simp_all
theorem bi_nar {P : Prop} [Decidable P] : nar .boolean (bi P) = bi P := by unfold bi; split <;> rfl
theorem bi_iff {P P' : Prop} [Decidable P] [Decidable P'] (h : P ↔ P') : bi P = bi P' := by unfold bi; simp only [h]
theorem bi_eq {P P' : Prop} [Decidable P] [Decidable P'] : bi P = bi P' ↔ (P ↔ P') := by unfold bi; split <;> split <;> simp_all
end OwnLayer
section OwnWords
variable {args : Array Value} {s : State} {t : Term} {C n d : String} {x : Addr}
theorem own_fldV {v : Value} (ht : t.eval args s none [] s = some (.ref x)) (h : (Term.field t C n d).eval args s none [] s = some v) : Fld s s.heap x C n d v :=
  Fld.start ((fld_at (C := C) (n := n) (dd := d) ht).symm.trans h)
theorem own_fldI {z : Int32} (ht : t.eval args s none [] s = some (.ref x)) (h : (Cond.eq (.field t C n d) (.int z)).value args s none s [] = some true) : Fld s s.heap x C n d (.int z) := own_fldV ht (eqv_i rfl h)
theorem own_fldJ {z : Int64} (ht : t.eval args s none [] s = some (.ref x)) (h : (Cond.eq (.field t C n d) (.long z)).value args s none s [] = some true) : Fld s s.heap x C n d (.long z) := own_fldV ht (eqv_l rfl h)
end OwnWords
theorem own_narB (P : Prop) [Decidable P] : narrow .boolean (.int (bi P)) = .int (bi P) := by unfold bi; split <;> rfl
theorem own_fitB (P : Prop) [Decidable P] : fits .boolean (.int (bi P)) = true := by unfold bi; split <;> rfl
theorem own_narR {w : Value} {t : FieldType} (hw : w.isRef = true) : narrow t w = w := by rcases ref_cases hw with rfl | ⟨a, rfl⟩ <;> cases t <;> rfl
theorem own_eqR {args : Array Value} {s : State} {a b : Term} {r : Addr} (hb : b.eval args s none [] s = some (.ref r)) (h : (Cond.eq a b).value args s none s [] = some true) : a.eval args s none [] s = some (.ref r) := by
  cases ha : a.eval args s none [] s with
  | none => simp [Cond.value, ha] at h
  | some x => cases x <;> simp [Cond.value, ha, hb] at h ⊢; exact h
theorem pn0 : plainName "com/example/kharon/kharon/Setting" = true := by first | (simp [plainName, overriddenIn]; done) | decide +kernel
theorem pn1 : plainName "com/example/kharon/kharon/SettingSecretPinLaw" = true := by first | (simp [plainName, overriddenIn]; done) | decide +kernel
theorem pd0 : parseMethodDescriptor "()Z" = some ⟨[], some .boolean⟩ := by decide +kernel
theorem pd1 : parseMethodDescriptor "()Ljava/lang/String;" = some ⟨[], some (.object "java/lang/String")⟩ := by decide +kernel
def nz : Value → Int32
  | .null => 1
  | _ => 0
theorem i_range (k : Int32) : 0 ≤ ((k &&& (2147483647 : Int32)) % (11 : Int32)).toInt ∧ ((k &&& (2147483647 : Int32)) % (11 : Int32)).toInt < 11 := by
  have h1 := c_mask k 2147483647 31 (by decide) (by decide)
  have h2 := (c_irem (k &&& (2147483647 : Int32)) 11 11 (by decide)).1
  have h3 : 0 ≤ (k &&& (2147483647 : Int32)).toInt := by omega
  have h4 := h2 h3
  omega
theorem i_cases {i : Int32} (h : 0 ≤ i.toInt ∧ i.toInt < 11) : i = (0 : Int32) ∨ i = (1 : Int32) ∨ i = (2 : Int32) ∨ i = (3 : Int32) ∨ i = (4 : Int32) ∨ i = (5 : Int32) ∨ i = (6 : Int32) ∨ i = (7 : Int32) ∨ i = (8 : Int32) ∨ i = (9 : Int32) ∨ i = (10 : Int32) := by
  have q : i.toInt = 0 ∨ i.toInt = 1 ∨ i.toInt = 2 ∨ i.toInt = 3 ∨ i.toInt = 4 ∨ i.toInt = 5 ∨ i.toInt = 6 ∨ i.toInt = 7 ∨ i.toInt = 8 ∨ i.toInt = 9 ∨ i.toInt = 10 := by omega
  rcases q with q | q | q | q | q | q | q | q | q | q | q
  · exact Or.inl (Int32.toInt_inj.mp (q.trans (by decide)))
  · exact Or.inr (Or.inl (Int32.toInt_inj.mp (q.trans (by decide))))
  · exact Or.inr (Or.inr (Or.inl (Int32.toInt_inj.mp (q.trans (by decide)))))
  · exact Or.inr (Or.inr (Or.inr (Or.inl (Int32.toInt_inj.mp (q.trans (by decide))))))
  · exact Or.inr (Or.inr (Or.inr (Or.inr (Or.inl (Int32.toInt_inj.mp (q.trans (by decide)))))))
  · exact Or.inr (Or.inr (Or.inr (Or.inr (Or.inr (Or.inl (Int32.toInt_inj.mp (q.trans (by decide))))))))
  · exact Or.inr (Or.inr (Or.inr (Or.inr (Or.inr (Or.inr (Or.inl (Int32.toInt_inj.mp (q.trans (by decide)))))))))
  · exact Or.inr (Or.inr (Or.inr (Or.inr (Or.inr (Or.inr (Or.inr (Or.inl (Int32.toInt_inj.mp (q.trans (by decide))))))))))
  · exact Or.inr (Or.inr (Or.inr (Or.inr (Or.inr (Or.inr (Or.inr (Or.inr (Or.inl (Int32.toInt_inj.mp (q.trans (by decide)))))))))))
  · exact Or.inr (Or.inr (Or.inr (Or.inr (Or.inr (Or.inr (Or.inr (Or.inr (Or.inr (Or.inl (Int32.toInt_inj.mp (q.trans (by decide))))))))))))
  · exact Or.inr (Or.inr (Or.inr (Or.inr (Or.inr (Or.inr (Or.inr (Or.inr (Or.inr (Or.inr ((Int32.toInt_inj.mp (q.trans (by decide)))))))))))))
def Kn (Z : State) (aP : Addr) (f : String) : Prop := ∃ a r, Sta Z Z.heap "com/example/kharon/kharon/Setting" f "Lcom/example/kharon/kharon/Setting;" (.ref a) ∧ Exa Z Z.heap a "com/example/kharon/kharon/Setting" ∧ Fld Z Z.heap a "com/example/kharon/kharon/Setting" "label" "Ljava/lang/String;" (.ref r) ∧ a ≠ aP
def All (Z : State) : Prop := ∃ aP, Sta Z Z.heap "com/example/kharon/kharon/Setting" "PASSWORD" "Lcom/example/kharon/kharon/Setting;" (.ref aP) ∧ Exa Z Z.heap aP "com/example/kharon/kharon/Setting" ∧ Fld Z Z.heap aP "com/example/kharon/kharon/Setting" "label" "Ljava/lang/String;" .null ∧ Kn Z aP "CONTACT_POINTS" ∧ Kn Z aP "CASSANDRA_PORT" ∧ Kn Z aP "KEYSPACE" ∧ Kn Z aP "CONSISTENCY_LEVEL" ∧ Kn Z aP "DATA_CENTER" ∧ Kn Z aP "CLUSTER_NAME" ∧ Kn Z aP "AUTH_PROVIDER" ∧ Kn Z aP "USERNAME" ∧ Kn Z aP "USE_SSL" ∧ Kn Z aP "SSL_PORT"
theorem d_secret_0 : decode prog_3_method_6_code 0 = .ok (.aload_n 0, 1) := by decide +kernel
theorem d_secret_1 : decode prog_3_method_6_code 1 = .ok (.getfield 56, 3) := by decide +kernel
theorem d_secret_4 : decode prog_3_method_6_code 4 = .ok (.ifnonnull 7, 3) := by decide +kernel
theorem d_secret_7 : decode prog_3_method_6_code 7 = .ok (.iconst 1, 1) := by decide +kernel
theorem d_secret_8 : decode prog_3_method_6_code 8 = .ok (.goto 4, 3) := by decide +kernel
theorem d_secret_11 : decode prog_3_method_6_code 11 = .ok (.iconst 0, 1) := by decide +kernel
theorem d_secret_12 : decode prog_3_method_6_code 12 = .ok (.ireturn, 1) := by decide +kernel
def Q_secret (Z : State) (a : Addr) (lv : Value) (h0 : Heap) (n0 : Nat) (v : Option Value) (h : Heap) (L : List Loc) : Prop := v = some (.int (nz lv)) ∧ Fr n0 L ∧ h = h0
set_option maxRecDepth 65536 in
set_option maxHeartbeats 40000000 in
theorem rm_secret (l : Launch) (Z : State) (a0 : Array Value) (hw : ∀ d ∈ tables_1, d.before a0 Z = true) (ws : List Jvm.Cond) (a : Addr) (lv : Value) (h0 : Heap) (n0 : Nat) (Z0 : n0 ≤ h0.size) (hr : lv.isRef = true) (F : Fld Z h0 a "com/example/kharon/kharon/Setting" "label" "Ljava/lang/String;" lv) :
    MetFree l (⟨"com/example/kharon/kharon/Setting", "secret", "()Z"⟩ : MethodName) (head1 (Jvm.Cond.code (⟨"com/example/kharon/kharon/Setting", "secret", "()Z"⟩ : MethodName) prog_3_method_6_code 1 (some .boolean) :: ws) ({ frames := 0, cells := 0, slots := 0, locals := 0 } : Room)) (fun aa_ U => aa_ = #[(.ref a)] ∧ Z.Warmed39 U.vm ∧ U.heap = h0) (fun _ _ _ _ _ => True) (fun _ U o U' => ∃ v L, o = .returned v ∧ (Q_secret Z a lv h0 n0) v U'.heap L ∧ FrameEnd U o U' L ({ frames := 0, cells := 0, slots := 0, locals := 0 } : Room).cells ({ frames := 0, cells := 0, slots := 0, locals := 0 } : Room).slots) := by
  refine MetFree.of_bodySF (plainFor_of_name pn0) hisR ?_
  intro p e s m args below meth c s₁ Bd hml0 hP hK
  obtain ⟨rfl, hZ, hh⟩ := hP
  have hx := Bd.exec
  have hby := Bd.bytes
  have hlk : meth.locks = false := BodyLoose.notSynchronized Bd
  have hret := Bd.returns
  have hml : c.maxLocals = 1 := hml0
  have hown : s.vm.findClass "com/example/kharon/kharon/Setting" = some m.cls := findClass_of_methodNamed Bd.named
  have hnm := (name_of_methodNamed Bd.named Bd.method).1
  have X0 : Stand p l e ({ frames := 0, cells := 0, slots := 0, locals := 0 } : Room) s m #[(.ref a)] below meth c s₁ [] 0 0 := Stand.of_body Bd
  have e0 : s₁.heap = h0 := by rw [← hh, Bd.state]; rfl
  have N0 := Fr.nil n0
  show Go p e below s ({ frames := 0, cells := 0, slots := 0, locals := 0 } : Room).cells ({ frames := 0, cells := 0, slots := 0, locals := 0 } : Room).slots (Q_secret Z a lv h0 n0) s₁ (entryFrame m #[(.ref a)] 1)
  refine own_cast (g' := mkF m 0 #[.val (.ref a)] []) (by first | (simp [entryFrame, mkF, argsToLocals, Value.category]; done) | rfl) ?_
  rcases ref_cases hr with rfl | ⟨r, rfl⟩
  · skip
    show Go _ _ _ _ _ _ _ _ (mkF m 0 #[.val (.ref a)] [])
    refine own_via ?_ fun _ kt => XS.aloadN X0.here hx rfl (hb hby d_secret_0) rfl rfl kt
    show Go _ _ _ _ _ _ _ _ (mkF m 1 #[.val (.ref a)] [(.ref a)])
    obtain ⟨T1, X1, e1, st1⟩ := getF X0 hx hZ hown (host := "") (Or.inl (hw _ (List.mem_of_getElem? (i := 32) rfl))) Via.refl e0 F (g := (mkF m 1 #[.val (.ref a)] [(.ref a)])) rfl rfl (hb hby d_secret_1)
    refine own_via ?_ st1
    show Go _ _ _ _ _ _ _ _ (mkF m 4 #[.val (.ref a)] [.null])
    refine own_via ?_ fun _ kt => XS.ifnonnullNo X1.here hx rfl (hb hby d_secret_4) rfl kt
    show Go _ _ _ _ _ _ _ _ (mkF m 7 #[.val (.ref a)] [])
    refine own_via ?_ fun _ kt => XS.iconst X1.here hx rfl (hb hby d_secret_7) kt
    show Go _ _ _ _ _ _ _ _ (mkF m 8 #[.val (.ref a)] [(.int (1 : Int32))])
    refine own_via ?_ fun _ kt => XS.goto X1.here hx rfl (pc0 := 8) (pc' := 12) rfl (hb hby d_secret_8) (by decide) (by decide) kt
    show Go _ _ _ _ _ _ _ _ (mkF m 12 #[.val (.ref a)] [(.int (1 : Int32))])
    exact own_retZ (z' := (1 : Int32)) X1 hx hret hlk (hb hby d_secret_12) rfl (by decide) (by decide) (by rw [e1]; exact ⟨rfl, N0, rfl⟩)
  · skip
    show Go _ _ _ _ _ _ _ _ (mkF m 0 #[.val (.ref a)] [])
    refine own_via ?_ fun _ kt => XS.aloadN X0.here hx rfl (hb hby d_secret_0) rfl rfl kt
    show Go _ _ _ _ _ _ _ _ (mkF m 1 #[.val (.ref a)] [(.ref a)])
    obtain ⟨T2, X2, e2, st2⟩ := getF X0 hx hZ hown (host := "") (Or.inl (hw _ (List.mem_of_getElem? (i := 32) rfl))) Via.refl e0 F (g := (mkF m 1 #[.val (.ref a)] [(.ref a)])) rfl rfl (hb hby d_secret_1)
    refine own_via ?_ st2
    show Go _ _ _ _ _ _ _ _ (mkF m 4 #[.val (.ref a)] [(.ref r)])
    refine own_via ?_ fun _ kt => XS.ifnonnullYes X2.here hx rfl (pc0 := 4) (pc' := 11) rfl (hb hby d_secret_4) rfl (by decide) (by decide) kt
    show Go _ _ _ _ _ _ _ _ (mkF m 11 #[.val (.ref a)] [])
    refine own_via ?_ fun _ kt => XS.iconst X2.here hx rfl (hb hby d_secret_11) kt
    show Go _ _ _ _ _ _ _ _ (mkF m 12 #[.val (.ref a)] [(.int (0 : Int32))])
    exact own_retZ (z' := (0 : Int32)) X2 hx hret hlk (hb hby d_secret_12) rfl (by decide) (by decide) (by rw [e2]; exact ⟨rfl, N0, rfl⟩)
theorem d_label_0 : decode prog_3_method_7_code 0 = .ok (.aload_n 0, 1) := by decide +kernel
theorem d_label_1 : decode prog_3_method_7_code 1 = .ok (.getfield 56, 3) := by decide +kernel
theorem d_label_4 : decode prog_3_method_7_code 4 = .ok (.areturn, 1) := by decide +kernel
def Q_label (Z : State) (a : Addr) (lv : Value) (h0 : Heap) (n0 : Nat) (v : Option Value) (h : Heap) (L : List Loc) : Prop := v = some lv ∧ Fr n0 L ∧ h = h0
set_option maxRecDepth 65536 in
set_option maxHeartbeats 40000000 in
theorem rm_label (l : Launch) (Z : State) (a0 : Array Value) (hw : ∀ d ∈ tables_1, d.before a0 Z = true) (ws : List Jvm.Cond) (a : Addr) (lv : Value) (h0 : Heap) (n0 : Nat) (Z0 : n0 ≤ h0.size) (hr : lv.isRef = true) (F : Fld Z h0 a "com/example/kharon/kharon/Setting" "label" "Ljava/lang/String;" lv) :
    MetFree l (⟨"com/example/kharon/kharon/Setting", "label", "()Ljava/lang/String;"⟩ : MethodName) (head1 (Jvm.Cond.code (⟨"com/example/kharon/kharon/Setting", "label", "()Ljava/lang/String;"⟩ : MethodName) prog_3_method_7_code 1 (some (.object "java/lang/String")) :: ws) ({ frames := 0, cells := 0, slots := 0, locals := 0 } : Room)) (fun aa_ U => aa_ = #[(.ref a)] ∧ Z.Warmed39 U.vm ∧ U.heap = h0) (fun _ _ _ _ _ => True) (fun _ U o U' => ∃ v L, o = .returned v ∧ (Q_label Z a lv h0 n0) v U'.heap L ∧ FrameEnd U o U' L ({ frames := 0, cells := 0, slots := 0, locals := 0 } : Room).cells ({ frames := 0, cells := 0, slots := 0, locals := 0 } : Room).slots) := by
  refine MetFree.of_bodySF (plainFor_of_name pn0) hisR ?_
  intro p e s m args below meth c s₁ Bd hml0 hP hK
  obtain ⟨rfl, hZ, hh⟩ := hP
  have hx := Bd.exec
  have hby := Bd.bytes
  have hlk : meth.locks = false := BodyLoose.notSynchronized Bd
  have hret := Bd.returns
  have hml : c.maxLocals = 1 := hml0
  have hown : s.vm.findClass "com/example/kharon/kharon/Setting" = some m.cls := findClass_of_methodNamed Bd.named
  have hnm := (name_of_methodNamed Bd.named Bd.method).1
  have X0 : Stand p l e ({ frames := 0, cells := 0, slots := 0, locals := 0 } : Room) s m #[(.ref a)] below meth c s₁ [] 0 0 := Stand.of_body Bd
  have e0 : s₁.heap = h0 := by rw [← hh, Bd.state]; rfl
  have N0 := Fr.nil n0
  show Go p e below s ({ frames := 0, cells := 0, slots := 0, locals := 0 } : Room).cells ({ frames := 0, cells := 0, slots := 0, locals := 0 } : Room).slots (Q_label Z a lv h0 n0) s₁ (entryFrame m #[(.ref a)] 1)
  refine own_cast (g' := mkF m 0 #[.val (.ref a)] []) (by first | (simp [entryFrame, mkF, argsToLocals, Value.category]; done) | rfl) ?_
  show Go _ _ _ _ _ _ _ _ (mkF m 0 #[.val (.ref a)] [])
  refine own_via ?_ fun _ kt => XS.aloadN X0.here hx rfl (hb hby d_label_0) rfl rfl kt
  show Go _ _ _ _ _ _ _ _ (mkF m 1 #[.val (.ref a)] [(.ref a)])
  obtain ⟨T1, X1, e1, st1⟩ := getF X0 hx hZ hown (host := "") (Or.inl (hw _ (List.mem_of_getElem? (i := 32) rfl))) Via.refl e0 F (g := (mkF m 1 #[.val (.ref a)] [(.ref a)])) rfl rfl (hb hby d_label_1)
  refine own_via ?_ st1
  show Go _ _ _ _ _ _ _ _ (mkF m 4 #[.val (.ref a)] [lv])
  exact own_retR X1 hx hret hlk rfl hr (hb hby d_label_4) (by decide) (by decide) (by rw [e1]; exact ⟨rfl, N0, rfl⟩)
def Q_law (Z : State) (k : Int32) (h0 : Heap) (n0 : Nat) (v : Option Value) (h : Heap) (L : List Loc) : Prop := v = some (.int 1) ∧ Fr n0 L
set_option maxRecDepth 65536 in
set_option maxHeartbeats 40000000 in
theorem rm_law (l : Launch) (Z : State) (a0 : Array Value) (hw : ∀ d ∈ tables_1, d.before a0 Z = true) (ws : List Jvm.Cond) (k : Int32) (h0 : Heap) (n0 : Nat) (Z0 : n0 ≤ h0.size) (O : Old Z n0 h0) (hA : All Z) :
    MetFree l x (head1 (Jvm.Cond.code x code maxLocals ret :: ws) room_1) (fun aa_ U => aa_ = #[(.int k)] ∧ Z.Warmed39 U.vm ∧ U.heap = h0) (fun _ _ _ _ _ => True) (fun _ U o U' => ∃ v L, o = .returned v ∧ (Q_law Z k h0 n0) v U'.heap L ∧ FrameEnd U o U' L room_1.cells room_1.slots) := by
  refine MetFree.of_bodySF (plainFor_of_name pn1) hisR ?_
  intro p e s m args below meth c s₁ Bd hml0 hP hK
  obtain ⟨rfl, hZ, hh⟩ := hP
  have hx := Bd.exec
  have hby := Bd.bytes
  have hlk : meth.locks = false := BodyLoose.notSynchronized Bd
  have hret := Bd.returns
  have hml : c.maxLocals = 6 := hml0
  have hown : s.vm.findClass "com/example/kharon/kharon/SettingSecretPinLaw" = some m.cls := findClass_of_methodNamed Bd.named
  have hnm := (name_of_methodNamed Bd.named Bd.method).1
  have X0 : Stand p l e room_1 s m #[(.int k)] below meth c s₁ [] 0 0 := Stand.of_body Bd
  have e0 : s₁.heap = h0 := by rw [← hh, Bd.state]; rfl
  have N0 := Fr.nil n0
  show Go p e below s room_1.cells room_1.slots (Q_law Z k h0 n0) s₁ (entryFrame m #[(.int k)] maxLocals)
  refine own_cast (g' := mkF m 0 #[.val (.int k), .unset, .unset, .unset, .unset, .unset] []) (by first | (simp [entryFrame, mkF, argsToLocals, Value.category, maxLocals]; done) | rfl) ?_
  obtain ⟨a_PASSWORD, S_PASSWORD, E_PASSWORD, F_PASSWORD, ⟨a_CONTACT_POINTS, r_CONTACT_POINTS, S_CONTACT_POINTS, E_CONTACT_POINTS, F_CONTACT_POINTS, ne_CONTACT_POINTS⟩, ⟨a_CASSANDRA_PORT, r_CASSANDRA_PORT, S_CASSANDRA_PORT, E_CASSANDRA_PORT, F_CASSANDRA_PORT, ne_CASSANDRA_PORT⟩, ⟨a_KEYSPACE, r_KEYSPACE, S_KEYSPACE, E_KEYSPACE, F_KEYSPACE, ne_KEYSPACE⟩, ⟨a_CONSISTENCY_LEVEL, r_CONSISTENCY_LEVEL, S_CONSISTENCY_LEVEL, E_CONSISTENCY_LEVEL, F_CONSISTENCY_LEVEL, ne_CONSISTENCY_LEVEL⟩, ⟨a_DATA_CENTER, r_DATA_CENTER, S_DATA_CENTER, E_DATA_CENTER, F_DATA_CENTER, ne_DATA_CENTER⟩, ⟨a_CLUSTER_NAME, r_CLUSTER_NAME, S_CLUSTER_NAME, E_CLUSTER_NAME, F_CLUSTER_NAME, ne_CLUSTER_NAME⟩, ⟨a_AUTH_PROVIDER, r_AUTH_PROVIDER, S_AUTH_PROVIDER, E_AUTH_PROVIDER, F_AUTH_PROVIDER, ne_AUTH_PROVIDER⟩, ⟨a_USERNAME, r_USERNAME, S_USERNAME, E_USERNAME, F_USERNAME, ne_USERNAME⟩, ⟨a_USE_SSL, r_USE_SSL, S_USE_SSL, E_USE_SSL, F_USE_SSL, ne_USE_SSL⟩, ⟨a_SSL_PORT, r_SSL_PORT, S_SSL_PORT, E_SSL_PORT, F_SSL_PORT, ne_SSL_PORT⟩⟩ := hA
  show Go _ _ _ _ _ _ _ _ (mkF m 0 #[.val (.int k), .unset, .unset, .unset, .unset, .unset] [])
  refine own_via ?_ fun _ kt => XS.bipush X0.here hx rfl (hb hby at_0) kt
  show Go _ _ _ _ _ _ _ _ (mkF m 2 #[.val (.int k), .unset, .unset, .unset, .unset, .unset] [(.int (11 : Int32))])
  obtain ⟨T1, h1, k1, X1, e1, E1, A1, O1, st1⟩ := newR X0 hx hZ hown (hw _ (List.mem_of_getElem? (i := 0) rfl)) (hw _ (List.mem_of_getElem? (i := 1) rfl)) e0 (g := (mkF m 2 #[.val (.int k), .unset, .unset, .unset, .unset, .unset] [(.int (11 : Int32))])) rfl (hb hby at_2) rfl (by decide) (cap := 11) (by decide) (by decide) (by decide) (by decide)
  obtain ⟨b1, g1⟩ : ∃ z, z = h0.size := ⟨_, rfl⟩
  rw [← g1] at A1 st1
  have g_b1 : n0 ≤ b1 := by rw [g1]; exact Z0
  replace Z0 := Nat.le_trans Z0 E1.1
  replace O := O.ext E1
  have V1 : Arv Z h1 b1 k1 (.object "com/example/kharon/kharon/Setting") (11 : Int32) [.null, .null, .null, .null, .null, .null, .null, .null, .null, .null, .null] .null := (Arv.new A1 (by decide)).pad (pad_rep [] .null 11)
  refine own_via ?_ st1
  show Go _ _ _ _ _ _ _ _ (mkF m 5 #[.val (.int k), .unset, .unset, .unset, .unset, .unset] [(.ref b1)])
  refine own_via ?_ fun _ kt => XS.dup X1.here hx rfl (hb hby at_5) rfl rfl kt
  show Go _ _ _ _ _ _ _ _ (mkF m 6 #[.val (.int k), .unset, .unset, .unset, .unset, .unset] [(.ref b1), (.ref b1)])
  refine own_via ?_ fun _ kt => XS.iconst X1.here hx rfl (hb hby at_6) kt
  show Go _ _ _ _ _ _ _ _ (mkF m 7 #[.val (.int k), .unset, .unset, .unset, .unset, .unset] [(.int (0 : Int32)), (.ref b1), (.ref b1)])
  obtain ⟨T2, X2, e2, st2⟩ := getS2 X1 hx hZ hown (host := "") (Or.inl (hw _ (List.mem_of_getElem? (i := 2) rfl))) Via.refl e1 (S_CONTACT_POINTS.ext O.2) (g := (mkF m 7 #[.val (.int k), .unset, .unset, .unset, .unset, .unset] [(.int (0 : Int32)), (.ref b1), (.ref b1)])) rfl (hb hby at_7)
  refine own_via ?_ st2
  show Go _ _ _ _ _ _ _ _ (mkF m 10 #[.val (.int k), .unset, .unset, .unset, .unset, .unset] [(.ref a_CONTACT_POINTS), (.int (0 : Int32)), (.ref b1), (.ref b1)])
  obtain ⟨cl3, Ar3, Aq3, AS3, AN3, AH3, AG3⟩ := V1
  have hin4 : ¬ ((0 : Int32) < 0 ∨ cl3.slots.size ≤ ((0 : Int32)).toNatClampNeg) := (inb_of AS3 ⟨by decide, by decide⟩)
  obtain ⟨T4, h4, X4, e4, W4, st4⟩ := stR X2 hx hZ e2 Ar3 (j := (0 : Int32)) hin4 rfl (Sto.ofV Ar3 Aq3 O1 (Ins.self (E_CONTACT_POINTS.ext O.2))) (g := (mkF m 10 #[.val (.int k), .unset, .unset, .unset, .unset, .unset] [(.ref a_CONTACT_POINTS), (.int (0 : Int32)), (.ref b1), (.ref b1)])) rfl rfl (hb hby at_10)
  have N4 := Fr.snoc X4 N0 g_b1
  have V4 : Arv Z h4 b1 k1 (.object "com/example/kharon/kharon/Setting") (11 : Int32) [(.ref a_CONTACT_POINTS), .null, .null, .null, .null, .null, .null, .null, .null, .null, .null] .null := Arv.set Ar3 Aq3 AS3 AN3 AH3 AG3 rfl W4 0 rfl (Nat.le_of_ble_eq_true rfl)
  replace Z0 := Nat.le_trans Z0 (Keep.of_wr W4).1
  replace O := O.wr W4 g_b1
  refine own_via ?_ st4
  show Go _ _ _ _ _ _ _ _ (mkF m 11 #[.val (.int k), .unset, .unset, .unset, .unset, .unset] [(.ref b1)])
  refine own_via ?_ fun _ kt => XS.dup X4.here hx rfl (hb hby at_11) rfl rfl kt
  show Go _ _ _ _ _ _ _ _ (mkF m 12 #[.val (.int k), .unset, .unset, .unset, .unset, .unset] [(.ref b1), (.ref b1)])
  refine own_via ?_ fun _ kt => XS.iconst X4.here hx rfl (hb hby at_12) kt
  show Go _ _ _ _ _ _ _ _ (mkF m 13 #[.val (.int k), .unset, .unset, .unset, .unset, .unset] [(.int (1 : Int32)), (.ref b1), (.ref b1)])
  obtain ⟨T5, X5, e5, st5⟩ := getS2 X4 hx hZ hown (host := "") (Or.inl (hw _ (List.mem_of_getElem? (i := 6) rfl))) Via.refl e4 (S_CASSANDRA_PORT.ext O.2) (g := (mkF m 13 #[.val (.int k), .unset, .unset, .unset, .unset, .unset] [(.int (1 : Int32)), (.ref b1), (.ref b1)])) rfl (hb hby at_13)
  refine own_via ?_ st5
  show Go _ _ _ _ _ _ _ _ (mkF m 16 #[.val (.int k), .unset, .unset, .unset, .unset, .unset] [(.ref a_CASSANDRA_PORT), (.int (1 : Int32)), (.ref b1), (.ref b1)])
  obtain ⟨cl6, Ar6, Aq6, AS6, AN6, AH6, AG6⟩ := V4
  have hin7 : ¬ ((1 : Int32) < 0 ∨ cl6.slots.size ≤ ((1 : Int32)).toNatClampNeg) := (inb_of AS6 ⟨by decide, by decide⟩)
  obtain ⟨T7, h7, X7, e7, W7, st7⟩ := stR X5 hx hZ e5 Ar6 (j := (1 : Int32)) hin7 rfl (Sto.ofV Ar6 Aq6 O1 (Ins.self (E_CASSANDRA_PORT.ext O.2))) (g := (mkF m 16 #[.val (.int k), .unset, .unset, .unset, .unset, .unset] [(.ref a_CASSANDRA_PORT), (.int (1 : Int32)), (.ref b1), (.ref b1)])) rfl rfl (hb hby at_16)
  have N7 := Fr.snoc X7 N4 g_b1
  have V7 : Arv Z h7 b1 k1 (.object "com/example/kharon/kharon/Setting") (11 : Int32) [(.ref a_CONTACT_POINTS), (.ref a_CASSANDRA_PORT), .null, .null, .null, .null, .null, .null, .null, .null, .null] .null := Arv.set Ar6 Aq6 AS6 AN6 AH6 AG6 rfl W7 1 rfl (Nat.le_of_ble_eq_true rfl)
  replace Z0 := Nat.le_trans Z0 (Keep.of_wr W7).1
  replace O := O.wr W7 g_b1
  refine own_via ?_ st7
  show Go _ _ _ _ _ _ _ _ (mkF m 17 #[.val (.int k), .unset, .unset, .unset, .unset, .unset] [(.ref b1)])
  refine own_via ?_ fun _ kt => XS.dup X7.here hx rfl (hb hby at_17) rfl rfl kt
  show Go _ _ _ _ _ _ _ _ (mkF m 18 #[.val (.int k), .unset, .unset, .unset, .unset, .unset] [(.ref b1), (.ref b1)])
  refine own_via ?_ fun _ kt => XS.iconst X7.here hx rfl (hb hby at_18) kt
  show Go _ _ _ _ _ _ _ _ (mkF m 19 #[.val (.int k), .unset, .unset, .unset, .unset, .unset] [(.int (2 : Int32)), (.ref b1), (.ref b1)])
  obtain ⟨T8, X8, e8, st8⟩ := getS2 X7 hx hZ hown (host := "") (Or.inl (hw _ (List.mem_of_getElem? (i := 8) rfl))) Via.refl e7 (S_KEYSPACE.ext O.2) (g := (mkF m 19 #[.val (.int k), .unset, .unset, .unset, .unset, .unset] [(.int (2 : Int32)), (.ref b1), (.ref b1)])) rfl (hb hby at_19)
  refine own_via ?_ st8
  show Go _ _ _ _ _ _ _ _ (mkF m 22 #[.val (.int k), .unset, .unset, .unset, .unset, .unset] [(.ref a_KEYSPACE), (.int (2 : Int32)), (.ref b1), (.ref b1)])
  obtain ⟨cl9, Ar9, Aq9, AS9, AN9, AH9, AG9⟩ := V7
  have hin10 : ¬ ((2 : Int32) < 0 ∨ cl9.slots.size ≤ ((2 : Int32)).toNatClampNeg) := (inb_of AS9 ⟨by decide, by decide⟩)
  obtain ⟨T10, h10, X10, e10, W10, st10⟩ := stR X8 hx hZ e8 Ar9 (j := (2 : Int32)) hin10 rfl (Sto.ofV Ar9 Aq9 O1 (Ins.self (E_KEYSPACE.ext O.2))) (g := (mkF m 22 #[.val (.int k), .unset, .unset, .unset, .unset, .unset] [(.ref a_KEYSPACE), (.int (2 : Int32)), (.ref b1), (.ref b1)])) rfl rfl (hb hby at_22)
  have N10 := Fr.snoc X10 N7 g_b1
  have V10 : Arv Z h10 b1 k1 (.object "com/example/kharon/kharon/Setting") (11 : Int32) [(.ref a_CONTACT_POINTS), (.ref a_CASSANDRA_PORT), (.ref a_KEYSPACE), .null, .null, .null, .null, .null, .null, .null, .null] .null := Arv.set Ar9 Aq9 AS9 AN9 AH9 AG9 rfl W10 2 rfl (Nat.le_of_ble_eq_true rfl)
  replace Z0 := Nat.le_trans Z0 (Keep.of_wr W10).1
  replace O := O.wr W10 g_b1
  refine own_via ?_ st10
  show Go _ _ _ _ _ _ _ _ (mkF m 23 #[.val (.int k), .unset, .unset, .unset, .unset, .unset] [(.ref b1)])
  refine own_via ?_ fun _ kt => XS.dup X10.here hx rfl (hb hby at_23) rfl rfl kt
  show Go _ _ _ _ _ _ _ _ (mkF m 24 #[.val (.int k), .unset, .unset, .unset, .unset, .unset] [(.ref b1), (.ref b1)])
  refine own_via ?_ fun _ kt => XS.iconst X10.here hx rfl (hb hby at_24) kt
  show Go _ _ _ _ _ _ _ _ (mkF m 25 #[.val (.int k), .unset, .unset, .unset, .unset, .unset] [(.int (3 : Int32)), (.ref b1), (.ref b1)])
  obtain ⟨T11, X11, e11, st11⟩ := getS2 X10 hx hZ hown (host := "") (Or.inl (hw _ (List.mem_of_getElem? (i := 10) rfl))) Via.refl e10 (S_CONSISTENCY_LEVEL.ext O.2) (g := (mkF m 25 #[.val (.int k), .unset, .unset, .unset, .unset, .unset] [(.int (3 : Int32)), (.ref b1), (.ref b1)])) rfl (hb hby at_25)
  refine own_via ?_ st11
  show Go _ _ _ _ _ _ _ _ (mkF m 28 #[.val (.int k), .unset, .unset, .unset, .unset, .unset] [(.ref a_CONSISTENCY_LEVEL), (.int (3 : Int32)), (.ref b1), (.ref b1)])
  obtain ⟨cl12, Ar12, Aq12, AS12, AN12, AH12, AG12⟩ := V10
  have hin13 : ¬ ((3 : Int32) < 0 ∨ cl12.slots.size ≤ ((3 : Int32)).toNatClampNeg) := (inb_of AS12 ⟨by decide, by decide⟩)
  obtain ⟨T13, h13, X13, e13, W13, st13⟩ := stR X11 hx hZ e11 Ar12 (j := (3 : Int32)) hin13 rfl (Sto.ofV Ar12 Aq12 O1 (Ins.self (E_CONSISTENCY_LEVEL.ext O.2))) (g := (mkF m 28 #[.val (.int k), .unset, .unset, .unset, .unset, .unset] [(.ref a_CONSISTENCY_LEVEL), (.int (3 : Int32)), (.ref b1), (.ref b1)])) rfl rfl (hb hby at_28)
  have N13 := Fr.snoc X13 N10 g_b1
  have V13 : Arv Z h13 b1 k1 (.object "com/example/kharon/kharon/Setting") (11 : Int32) [(.ref a_CONTACT_POINTS), (.ref a_CASSANDRA_PORT), (.ref a_KEYSPACE), (.ref a_CONSISTENCY_LEVEL), .null, .null, .null, .null, .null, .null, .null] .null := Arv.set Ar12 Aq12 AS12 AN12 AH12 AG12 rfl W13 3 rfl (Nat.le_of_ble_eq_true rfl)
  replace Z0 := Nat.le_trans Z0 (Keep.of_wr W13).1
  replace O := O.wr W13 g_b1
  refine own_via ?_ st13
  show Go _ _ _ _ _ _ _ _ (mkF m 29 #[.val (.int k), .unset, .unset, .unset, .unset, .unset] [(.ref b1)])
  refine own_via ?_ fun _ kt => XS.dup X13.here hx rfl (hb hby at_29) rfl rfl kt
  show Go _ _ _ _ _ _ _ _ (mkF m 30 #[.val (.int k), .unset, .unset, .unset, .unset, .unset] [(.ref b1), (.ref b1)])
  refine own_via ?_ fun _ kt => XS.iconst X13.here hx rfl (hb hby at_30) kt
  show Go _ _ _ _ _ _ _ _ (mkF m 31 #[.val (.int k), .unset, .unset, .unset, .unset, .unset] [(.int (4 : Int32)), (.ref b1), (.ref b1)])
  obtain ⟨T14, X14, e14, st14⟩ := getS2 X13 hx hZ hown (host := "") (Or.inl (hw _ (List.mem_of_getElem? (i := 12) rfl))) Via.refl e13 (S_DATA_CENTER.ext O.2) (g := (mkF m 31 #[.val (.int k), .unset, .unset, .unset, .unset, .unset] [(.int (4 : Int32)), (.ref b1), (.ref b1)])) rfl (hb hby at_31)
  refine own_via ?_ st14
  show Go _ _ _ _ _ _ _ _ (mkF m 34 #[.val (.int k), .unset, .unset, .unset, .unset, .unset] [(.ref a_DATA_CENTER), (.int (4 : Int32)), (.ref b1), (.ref b1)])
  obtain ⟨cl15, Ar15, Aq15, AS15, AN15, AH15, AG15⟩ := V13
  have hin16 : ¬ ((4 : Int32) < 0 ∨ cl15.slots.size ≤ ((4 : Int32)).toNatClampNeg) := (inb_of AS15 ⟨by decide, by decide⟩)
  obtain ⟨T16, h16, X16, e16, W16, st16⟩ := stR X14 hx hZ e14 Ar15 (j := (4 : Int32)) hin16 rfl (Sto.ofV Ar15 Aq15 O1 (Ins.self (E_DATA_CENTER.ext O.2))) (g := (mkF m 34 #[.val (.int k), .unset, .unset, .unset, .unset, .unset] [(.ref a_DATA_CENTER), (.int (4 : Int32)), (.ref b1), (.ref b1)])) rfl rfl (hb hby at_34)
  have N16 := Fr.snoc X16 N13 g_b1
  have V16 : Arv Z h16 b1 k1 (.object "com/example/kharon/kharon/Setting") (11 : Int32) [(.ref a_CONTACT_POINTS), (.ref a_CASSANDRA_PORT), (.ref a_KEYSPACE), (.ref a_CONSISTENCY_LEVEL), (.ref a_DATA_CENTER), .null, .null, .null, .null, .null, .null] .null := Arv.set Ar15 Aq15 AS15 AN15 AH15 AG15 rfl W16 4 rfl (Nat.le_of_ble_eq_true rfl)
  replace Z0 := Nat.le_trans Z0 (Keep.of_wr W16).1
  replace O := O.wr W16 g_b1
  refine own_via ?_ st16
  show Go _ _ _ _ _ _ _ _ (mkF m 35 #[.val (.int k), .unset, .unset, .unset, .unset, .unset] [(.ref b1)])
  refine own_via ?_ fun _ kt => XS.dup X16.here hx rfl (hb hby at_35) rfl rfl kt
  show Go _ _ _ _ _ _ _ _ (mkF m 36 #[.val (.int k), .unset, .unset, .unset, .unset, .unset] [(.ref b1), (.ref b1)])
  refine own_via ?_ fun _ kt => XS.iconst X16.here hx rfl (hb hby at_36) kt
  show Go _ _ _ _ _ _ _ _ (mkF m 37 #[.val (.int k), .unset, .unset, .unset, .unset, .unset] [(.int (5 : Int32)), (.ref b1), (.ref b1)])
  obtain ⟨T17, X17, e17, st17⟩ := getS2 X16 hx hZ hown (host := "") (Or.inl (hw _ (List.mem_of_getElem? (i := 14) rfl))) Via.refl e16 (S_CLUSTER_NAME.ext O.2) (g := (mkF m 37 #[.val (.int k), .unset, .unset, .unset, .unset, .unset] [(.int (5 : Int32)), (.ref b1), (.ref b1)])) rfl (hb hby at_37)
  refine own_via ?_ st17
  show Go _ _ _ _ _ _ _ _ (mkF m 40 #[.val (.int k), .unset, .unset, .unset, .unset, .unset] [(.ref a_CLUSTER_NAME), (.int (5 : Int32)), (.ref b1), (.ref b1)])
  obtain ⟨cl18, Ar18, Aq18, AS18, AN18, AH18, AG18⟩ := V16
  have hin19 : ¬ ((5 : Int32) < 0 ∨ cl18.slots.size ≤ ((5 : Int32)).toNatClampNeg) := (inb_of AS18 ⟨by decide, by decide⟩)
  obtain ⟨T19, h19, X19, e19, W19, st19⟩ := stR X17 hx hZ e17 Ar18 (j := (5 : Int32)) hin19 rfl (Sto.ofV Ar18 Aq18 O1 (Ins.self (E_CLUSTER_NAME.ext O.2))) (g := (mkF m 40 #[.val (.int k), .unset, .unset, .unset, .unset, .unset] [(.ref a_CLUSTER_NAME), (.int (5 : Int32)), (.ref b1), (.ref b1)])) rfl rfl (hb hby at_40)
  have N19 := Fr.snoc X19 N16 g_b1
  have V19 : Arv Z h19 b1 k1 (.object "com/example/kharon/kharon/Setting") (11 : Int32) [(.ref a_CONTACT_POINTS), (.ref a_CASSANDRA_PORT), (.ref a_KEYSPACE), (.ref a_CONSISTENCY_LEVEL), (.ref a_DATA_CENTER), (.ref a_CLUSTER_NAME), .null, .null, .null, .null, .null] .null := Arv.set Ar18 Aq18 AS18 AN18 AH18 AG18 rfl W19 5 rfl (Nat.le_of_ble_eq_true rfl)
  replace Z0 := Nat.le_trans Z0 (Keep.of_wr W19).1
  replace O := O.wr W19 g_b1
  refine own_via ?_ st19
  show Go _ _ _ _ _ _ _ _ (mkF m 41 #[.val (.int k), .unset, .unset, .unset, .unset, .unset] [(.ref b1)])
  refine own_via ?_ fun _ kt => XS.dup X19.here hx rfl (hb hby at_41) rfl rfl kt
  show Go _ _ _ _ _ _ _ _ (mkF m 42 #[.val (.int k), .unset, .unset, .unset, .unset, .unset] [(.ref b1), (.ref b1)])
  refine own_via ?_ fun _ kt => XS.bipush X19.here hx rfl (hb hby at_42) kt
  show Go _ _ _ _ _ _ _ _ (mkF m 44 #[.val (.int k), .unset, .unset, .unset, .unset, .unset] [(.int (6 : Int32)), (.ref b1), (.ref b1)])
  obtain ⟨T20, X20, e20, st20⟩ := getS2 X19 hx hZ hown (host := "") (Or.inl (hw _ (List.mem_of_getElem? (i := 16) rfl))) Via.refl e19 (S_AUTH_PROVIDER.ext O.2) (g := (mkF m 44 #[.val (.int k), .unset, .unset, .unset, .unset, .unset] [(.int (6 : Int32)), (.ref b1), (.ref b1)])) rfl (hb hby at_44)
  refine own_via ?_ st20
  show Go _ _ _ _ _ _ _ _ (mkF m 47 #[.val (.int k), .unset, .unset, .unset, .unset, .unset] [(.ref a_AUTH_PROVIDER), (.int (6 : Int32)), (.ref b1), (.ref b1)])
  obtain ⟨cl21, Ar21, Aq21, AS21, AN21, AH21, AG21⟩ := V19
  have hin22 : ¬ ((6 : Int32) < 0 ∨ cl21.slots.size ≤ ((6 : Int32)).toNatClampNeg) := (inb_of AS21 ⟨by decide, by decide⟩)
  obtain ⟨T22, h22, X22, e22, W22, st22⟩ := stR X20 hx hZ e20 Ar21 (j := (6 : Int32)) hin22 rfl (Sto.ofV Ar21 Aq21 O1 (Ins.self (E_AUTH_PROVIDER.ext O.2))) (g := (mkF m 47 #[.val (.int k), .unset, .unset, .unset, .unset, .unset] [(.ref a_AUTH_PROVIDER), (.int (6 : Int32)), (.ref b1), (.ref b1)])) rfl rfl (hb hby at_47)
  have N22 := Fr.snoc X22 N19 g_b1
  have V22 : Arv Z h22 b1 k1 (.object "com/example/kharon/kharon/Setting") (11 : Int32) [(.ref a_CONTACT_POINTS), (.ref a_CASSANDRA_PORT), (.ref a_KEYSPACE), (.ref a_CONSISTENCY_LEVEL), (.ref a_DATA_CENTER), (.ref a_CLUSTER_NAME), (.ref a_AUTH_PROVIDER), .null, .null, .null, .null] .null := Arv.set Ar21 Aq21 AS21 AN21 AH21 AG21 rfl W22 6 rfl (Nat.le_of_ble_eq_true rfl)
  replace Z0 := Nat.le_trans Z0 (Keep.of_wr W22).1
  replace O := O.wr W22 g_b1
  refine own_via ?_ st22
  show Go _ _ _ _ _ _ _ _ (mkF m 48 #[.val (.int k), .unset, .unset, .unset, .unset, .unset] [(.ref b1)])
  refine own_via ?_ fun _ kt => XS.dup X22.here hx rfl (hb hby at_48) rfl rfl kt
  show Go _ _ _ _ _ _ _ _ (mkF m 49 #[.val (.int k), .unset, .unset, .unset, .unset, .unset] [(.ref b1), (.ref b1)])
  refine own_via ?_ fun _ kt => XS.bipush X22.here hx rfl (hb hby at_49) kt
  show Go _ _ _ _ _ _ _ _ (mkF m 51 #[.val (.int k), .unset, .unset, .unset, .unset, .unset] [(.int (7 : Int32)), (.ref b1), (.ref b1)])
  obtain ⟨T23, X23, e23, st23⟩ := getS2 X22 hx hZ hown (host := "") (Or.inl (hw _ (List.mem_of_getElem? (i := 18) rfl))) Via.refl e22 (S_USERNAME.ext O.2) (g := (mkF m 51 #[.val (.int k), .unset, .unset, .unset, .unset, .unset] [(.int (7 : Int32)), (.ref b1), (.ref b1)])) rfl (hb hby at_51)
  refine own_via ?_ st23
  show Go _ _ _ _ _ _ _ _ (mkF m 54 #[.val (.int k), .unset, .unset, .unset, .unset, .unset] [(.ref a_USERNAME), (.int (7 : Int32)), (.ref b1), (.ref b1)])
  obtain ⟨cl24, Ar24, Aq24, AS24, AN24, AH24, AG24⟩ := V22
  have hin25 : ¬ ((7 : Int32) < 0 ∨ cl24.slots.size ≤ ((7 : Int32)).toNatClampNeg) := (inb_of AS24 ⟨by decide, by decide⟩)
  obtain ⟨T25, h25, X25, e25, W25, st25⟩ := stR X23 hx hZ e23 Ar24 (j := (7 : Int32)) hin25 rfl (Sto.ofV Ar24 Aq24 O1 (Ins.self (E_USERNAME.ext O.2))) (g := (mkF m 54 #[.val (.int k), .unset, .unset, .unset, .unset, .unset] [(.ref a_USERNAME), (.int (7 : Int32)), (.ref b1), (.ref b1)])) rfl rfl (hb hby at_54)
  have N25 := Fr.snoc X25 N22 g_b1
  have V25 : Arv Z h25 b1 k1 (.object "com/example/kharon/kharon/Setting") (11 : Int32) [(.ref a_CONTACT_POINTS), (.ref a_CASSANDRA_PORT), (.ref a_KEYSPACE), (.ref a_CONSISTENCY_LEVEL), (.ref a_DATA_CENTER), (.ref a_CLUSTER_NAME), (.ref a_AUTH_PROVIDER), (.ref a_USERNAME), .null, .null, .null] .null := Arv.set Ar24 Aq24 AS24 AN24 AH24 AG24 rfl W25 7 rfl (Nat.le_of_ble_eq_true rfl)
  replace Z0 := Nat.le_trans Z0 (Keep.of_wr W25).1
  replace O := O.wr W25 g_b1
  refine own_via ?_ st25
  show Go _ _ _ _ _ _ _ _ (mkF m 55 #[.val (.int k), .unset, .unset, .unset, .unset, .unset] [(.ref b1)])
  refine own_via ?_ fun _ kt => XS.dup X25.here hx rfl (hb hby at_55) rfl rfl kt
  show Go _ _ _ _ _ _ _ _ (mkF m 56 #[.val (.int k), .unset, .unset, .unset, .unset, .unset] [(.ref b1), (.ref b1)])
  refine own_via ?_ fun _ kt => XS.bipush X25.here hx rfl (hb hby at_56) kt
  show Go _ _ _ _ _ _ _ _ (mkF m 58 #[.val (.int k), .unset, .unset, .unset, .unset, .unset] [(.int (8 : Int32)), (.ref b1), (.ref b1)])
  obtain ⟨T26, X26, e26, st26⟩ := getS2 X25 hx hZ hown (host := "") (Or.inl (hw _ (List.mem_of_getElem? (i := 20) rfl))) Via.refl e25 (S_PASSWORD.ext O.2) (g := (mkF m 58 #[.val (.int k), .unset, .unset, .unset, .unset, .unset] [(.int (8 : Int32)), (.ref b1), (.ref b1)])) rfl (hb hby at_58)
  refine own_via ?_ st26
  show Go _ _ _ _ _ _ _ _ (mkF m 61 #[.val (.int k), .unset, .unset, .unset, .unset, .unset] [(.ref a_PASSWORD), (.int (8 : Int32)), (.ref b1), (.ref b1)])
  obtain ⟨cl27, Ar27, Aq27, AS27, AN27, AH27, AG27⟩ := V25
  have hin28 : ¬ ((8 : Int32) < 0 ∨ cl27.slots.size ≤ ((8 : Int32)).toNatClampNeg) := (inb_of AS27 ⟨by decide, by decide⟩)
  obtain ⟨T28, h28, X28, e28, W28, st28⟩ := stR X26 hx hZ e26 Ar27 (j := (8 : Int32)) hin28 rfl (Sto.ofV Ar27 Aq27 O1 (Ins.self (E_PASSWORD.ext O.2))) (g := (mkF m 61 #[.val (.int k), .unset, .unset, .unset, .unset, .unset] [(.ref a_PASSWORD), (.int (8 : Int32)), (.ref b1), (.ref b1)])) rfl rfl (hb hby at_61)
  have N28 := Fr.snoc X28 N25 g_b1
  have V28 : Arv Z h28 b1 k1 (.object "com/example/kharon/kharon/Setting") (11 : Int32) [(.ref a_CONTACT_POINTS), (.ref a_CASSANDRA_PORT), (.ref a_KEYSPACE), (.ref a_CONSISTENCY_LEVEL), (.ref a_DATA_CENTER), (.ref a_CLUSTER_NAME), (.ref a_AUTH_PROVIDER), (.ref a_USERNAME), (.ref a_PASSWORD), .null, .null] .null := Arv.set Ar27 Aq27 AS27 AN27 AH27 AG27 rfl W28 8 rfl (Nat.le_of_ble_eq_true rfl)
  replace Z0 := Nat.le_trans Z0 (Keep.of_wr W28).1
  replace O := O.wr W28 g_b1
  refine own_via ?_ st28
  show Go _ _ _ _ _ _ _ _ (mkF m 62 #[.val (.int k), .unset, .unset, .unset, .unset, .unset] [(.ref b1)])
  refine own_via ?_ fun _ kt => XS.dup X28.here hx rfl (hb hby at_62) rfl rfl kt
  show Go _ _ _ _ _ _ _ _ (mkF m 63 #[.val (.int k), .unset, .unset, .unset, .unset, .unset] [(.ref b1), (.ref b1)])
  refine own_via ?_ fun _ kt => XS.bipush X28.here hx rfl (hb hby at_63) kt
  show Go _ _ _ _ _ _ _ _ (mkF m 65 #[.val (.int k), .unset, .unset, .unset, .unset, .unset] [(.int (9 : Int32)), (.ref b1), (.ref b1)])
  obtain ⟨T29, X29, e29, st29⟩ := getS2 X28 hx hZ hown (host := "") (Or.inl (hw _ (List.mem_of_getElem? (i := 22) rfl))) Via.refl e28 (S_USE_SSL.ext O.2) (g := (mkF m 65 #[.val (.int k), .unset, .unset, .unset, .unset, .unset] [(.int (9 : Int32)), (.ref b1), (.ref b1)])) rfl (hb hby at_65)
  refine own_via ?_ st29
  show Go _ _ _ _ _ _ _ _ (mkF m 68 #[.val (.int k), .unset, .unset, .unset, .unset, .unset] [(.ref a_USE_SSL), (.int (9 : Int32)), (.ref b1), (.ref b1)])
  obtain ⟨cl30, Ar30, Aq30, AS30, AN30, AH30, AG30⟩ := V28
  have hin31 : ¬ ((9 : Int32) < 0 ∨ cl30.slots.size ≤ ((9 : Int32)).toNatClampNeg) := (inb_of AS30 ⟨by decide, by decide⟩)
  obtain ⟨T31, h31, X31, e31, W31, st31⟩ := stR X29 hx hZ e29 Ar30 (j := (9 : Int32)) hin31 rfl (Sto.ofV Ar30 Aq30 O1 (Ins.self (E_USE_SSL.ext O.2))) (g := (mkF m 68 #[.val (.int k), .unset, .unset, .unset, .unset, .unset] [(.ref a_USE_SSL), (.int (9 : Int32)), (.ref b1), (.ref b1)])) rfl rfl (hb hby at_68)
  have N31 := Fr.snoc X31 N28 g_b1
  have V31 : Arv Z h31 b1 k1 (.object "com/example/kharon/kharon/Setting") (11 : Int32) [(.ref a_CONTACT_POINTS), (.ref a_CASSANDRA_PORT), (.ref a_KEYSPACE), (.ref a_CONSISTENCY_LEVEL), (.ref a_DATA_CENTER), (.ref a_CLUSTER_NAME), (.ref a_AUTH_PROVIDER), (.ref a_USERNAME), (.ref a_PASSWORD), (.ref a_USE_SSL), .null] .null := Arv.set Ar30 Aq30 AS30 AN30 AH30 AG30 rfl W31 9 rfl (Nat.le_of_ble_eq_true rfl)
  replace Z0 := Nat.le_trans Z0 (Keep.of_wr W31).1
  replace O := O.wr W31 g_b1
  refine own_via ?_ st31
  show Go _ _ _ _ _ _ _ _ (mkF m 69 #[.val (.int k), .unset, .unset, .unset, .unset, .unset] [(.ref b1)])
  refine own_via ?_ fun _ kt => XS.dup X31.here hx rfl (hb hby at_69) rfl rfl kt
  show Go _ _ _ _ _ _ _ _ (mkF m 70 #[.val (.int k), .unset, .unset, .unset, .unset, .unset] [(.ref b1), (.ref b1)])
  refine own_via ?_ fun _ kt => XS.bipush X31.here hx rfl (hb hby at_70) kt
  show Go _ _ _ _ _ _ _ _ (mkF m 72 #[.val (.int k), .unset, .unset, .unset, .unset, .unset] [(.int (10 : Int32)), (.ref b1), (.ref b1)])
  obtain ⟨T32, X32, e32, st32⟩ := getS2 X31 hx hZ hown (host := "") (Or.inl (hw _ (List.mem_of_getElem? (i := 24) rfl))) Via.refl e31 (S_SSL_PORT.ext O.2) (g := (mkF m 72 #[.val (.int k), .unset, .unset, .unset, .unset, .unset] [(.int (10 : Int32)), (.ref b1), (.ref b1)])) rfl (hb hby at_72)
  refine own_via ?_ st32
  show Go _ _ _ _ _ _ _ _ (mkF m 75 #[.val (.int k), .unset, .unset, .unset, .unset, .unset] [(.ref a_SSL_PORT), (.int (10 : Int32)), (.ref b1), (.ref b1)])
  obtain ⟨cl33, Ar33, Aq33, AS33, AN33, AH33, AG33⟩ := V31
  have hin34 : ¬ ((10 : Int32) < 0 ∨ cl33.slots.size ≤ ((10 : Int32)).toNatClampNeg) := (inb_of AS33 ⟨by decide, by decide⟩)
  obtain ⟨T34, h34, X34, e34, W34, st34⟩ := stR X32 hx hZ e32 Ar33 (j := (10 : Int32)) hin34 rfl (Sto.ofV Ar33 Aq33 O1 (Ins.self (E_SSL_PORT.ext O.2))) (g := (mkF m 75 #[.val (.int k), .unset, .unset, .unset, .unset, .unset] [(.ref a_SSL_PORT), (.int (10 : Int32)), (.ref b1), (.ref b1)])) rfl rfl (hb hby at_75)
  have N34 := Fr.snoc X34 N31 g_b1
  have V34 : Arv Z h34 b1 k1 (.object "com/example/kharon/kharon/Setting") (11 : Int32) [(.ref a_CONTACT_POINTS), (.ref a_CASSANDRA_PORT), (.ref a_KEYSPACE), (.ref a_CONSISTENCY_LEVEL), (.ref a_DATA_CENTER), (.ref a_CLUSTER_NAME), (.ref a_AUTH_PROVIDER), (.ref a_USERNAME), (.ref a_PASSWORD), (.ref a_USE_SSL), (.ref a_SSL_PORT)] .null := Arv.set Ar33 Aq33 AS33 AN33 AH33 AG33 rfl W34 10 rfl (Nat.le_of_ble_eq_true rfl)
  replace Z0 := Nat.le_trans Z0 (Keep.of_wr W34).1
  replace O := O.wr W34 g_b1
  refine own_via ?_ st34
  show Go _ _ _ _ _ _ _ _ (mkF m 76 #[.val (.int k), .unset, .unset, .unset, .unset, .unset] [(.ref b1)])
  refine own_via ?_ fun _ kt => XS.astoreN X34.here hx rfl (hb hby at_76) rfl rfl (l' := #[.val (.int k), .val (.ref b1), .unset, .unset, .unset, .unset]) rfl kt
  show Go _ _ _ _ _ _ _ _ (mkF m 77 #[.val (.int k), .val (.ref b1), .unset, .unset, .unset, .unset] [])
  refine own_via ?_ fun _ kt => XS.aloadN X34.here hx rfl (hb hby at_77) rfl rfl kt
  show Go _ _ _ _ _ _ _ _ (mkF m 78 #[.val (.int k), .val (.ref b1), .unset, .unset, .unset, .unset] [(.ref b1)])
  refine own_via ?_ fun _ kt => XS.iloadN X34.here hx rfl (hb hby at_78) rfl kt
  show Go _ _ _ _ _ _ _ _ (mkF m 79 #[.val (.int k), .val (.ref b1), .unset, .unset, .unset, .unset] [(.int k), (.ref b1)])
  refine own_via ?_ fun _ kt => X34.ldcInt hx hown (mvT hZ (hw _ (List.mem_of_getElem? (i := 26) rfl))) (g := (mkF m 79 #[.val (.int k), .val (.ref b1), .unset, .unset, .unset, .unset] [(.int k), (.ref b1)])) rfl (hb hby at_79) _ kt
  show Go _ _ _ _ _ _ _ _ (mkF m 81 #[.val (.int k), .val (.ref b1), .unset, .unset, .unset, .unset] [(.int (2147483647 : Int32)), (.int k), (.ref b1)])
  refine own_via ?_ fun _ kt => XS.iand X34.here hx rfl (hb hby at_81) rfl kt
  show Go _ _ _ _ _ _ _ _ (mkF m 82 #[.val (.int k), .val (.ref b1), .unset, .unset, .unset, .unset] [(.int (k &&& (2147483647 : Int32))), (.ref b1)])
  refine own_via ?_ fun _ kt => XS.bipush X34.here hx rfl (hb hby at_82) kt
  show Go _ _ _ _ _ _ _ _ (mkF m 84 #[.val (.int k), .val (.ref b1), .unset, .unset, .unset, .unset] [(.int (11 : Int32)), (.int (k &&& (2147483647 : Int32))), (.ref b1)])
  refine own_via ?_ fun _ kt => iremM X34 hx rfl (hb hby at_84) rfl (by decide) kt
  have hi := i_range k
  show Go _ _ _ _ _ _ _ _ (mkF m 85 #[.val (.int k), .val (.ref b1), .unset, .unset, .unset, .unset] [(.int ((k &&& (2147483647 : Int32)) % (11 : Int32))), (.ref b1)])
  generalize hn_i : ((k &&& (2147483647 : Int32)) % (11 : Int32)) = i
  rw [hn_i] at hi
  have J : ∀ (a : Addr) (lv : Value) (hr : lv.isRef = true) (E : Exa Z h34 a "com/example/kharon/kharon/Setting") (F : Fld Z h34 a "com/example/kharon/kharon/Setting" "label" "Ljava/lang/String;" lv) (hiff : a = a_PASSWORD ↔ lv = .null), Go p e below s room_1.cells room_1.slots (Q_law Z k h0 n0) T34 (mkF m 86 #[.val (.int k), .val (.ref b1), .unset, .unset, .unset, .unset] [(.ref a)]) := by
    intro a lv hr E F hiff
    rcases ref_cases hr with rfl | ⟨r, rfl⟩
    · skip
      show Go _ _ _ _ _ _ _ _ (mkF m 86 #[.val (.int k), .val (.ref b1), .unset, .unset, .unset, .unset] [(.ref a)])
      refine own_via ?_ fun _ kt => XS.astoreN X34.here hx rfl (hb hby at_86) rfl rfl (l' := #[.val (.int k), .val (.ref b1), .val (.ref a), .unset, .unset, .unset]) rfl kt
      show Go _ _ _ _ _ _ _ _ (mkF m 87 #[.val (.int k), .val (.ref b1), .val (.ref a), .unset, .unset, .unset] [])
      refine own_via ?_ fun _ kt => XS.aloadN X34.here hx rfl (hb hby at_87) rfl rfl kt
      show Go _ _ _ _ _ _ _ _ (mkF m 88 #[.val (.int k), .val (.ref b1), .val (.ref a), .unset, .unset, .unset] [(.ref a)])
      obtain ⟨cq36, kq36, q36a, q36b, q36c⟩ := isOf hZ e34 E
      obtain ⟨_, _, ⟨T36, L36, k36, n36⟩, -, X36, ⟨Lc36, hQ36, l36, y36, z36⟩, st36⟩ := X34.virtualBack hx (y := (⟨"com/example/kharon/kharon/Setting", "secret", "()Z"⟩ : MethodName)) (z := (⟨"com/example/kharon/kharon/Setting", "secret", "()Z"⟩ : MethodName)) hown (mvT hZ (hw _ (List.mem_of_getElem? (i := 27) rfl))) (mvT hZ (hw _ (List.mem_of_getElem? (i := 28) rfl))) (notFace_of_selects (args := #[]) (mvT hZ (hw _ (List.mem_of_getElem? (i := 30) rfl)))) (mvT hZ (hw _ (List.mem_of_getElem? (i := 30) rfl))) (mvT hZ (hw _ (List.mem_of_getElem? (i := 29) rfl))) (by decide) (backOf (W := 0) (rm_secret l Z a0 hw [] a .null h34 n0 Z0 rfl F) hZ (hw _ (List.mem_of_getElem? (i := 31) rfl)) (hw _ (List.mem_of_getElem? (i := 3) rfl)) (by decide) (by decide)) q36a q36c (g := (mkF m 88 #[.val (.int k), .val (.ref b1), .val (.ref a), .unset, .unset, .unset] [(.ref a)])) rfl (by rw [hml]; rfl) (Steps.refl _) (argsL := []) (rest := []) (lenOf pd0 rfl) rfl (by show 2 * 0 + _ ≤ _; exact Nat.le_of_eq rfl) (hb hby at_88) (fun _ _ => ⟨rfl, e34, (by decide : 1 + 0 ≤ _), (by decide : 11 + 0 ≤ _)⟩)
      dsimp only [Pt.U, Pt.locs, Pt.cells, Pt.slots] at X36 l36 y36 z36 st36 hQ36
      subst l36 y36 z36
      obtain ⟨rfl, Nq36, e36⟩ := hQ36
      have N36 := Fr.app N34 Nq36
      refine own_join ?_ st36
      show Go _ _ _ _ _ _ _ _ (mkF m 91 #[.val (.int k), .val (.ref b1), .val (.ref a), .unset, .unset, .unset] [(.int (1 : Int32))])
      refine own_via ?_ fun _ kt => XS.istoreN X36.here hx rfl (hb hby at_91) rfl (l' := #[.val (.int k), .val (.ref b1), .val (.ref a), .val (.int (1 : Int32)), .unset, .unset]) rfl kt
      show Go _ _ _ _ _ _ _ _ (mkF m 92 #[.val (.int k), .val (.ref b1), .val (.ref a), .val (.int (1 : Int32)), .unset, .unset] [])
      refine own_via ?_ fun _ kt => XS.iloadN X36.here hx rfl (hb hby at_92) rfl kt
      show Go _ _ _ _ _ _ _ _ (mkF m 93 #[.val (.int k), .val (.ref b1), .val (.ref a), .val (.int (1 : Int32)), .unset, .unset] [(.int (1 : Int32))])
      refine own_via ?_ fun _ kt => XS.aloadN X36.here hx rfl (hb hby at_93) rfl rfl kt
      show Go _ _ _ _ _ _ _ _ (mkF m 94 #[.val (.int k), .val (.ref b1), .val (.ref a), .val (.int (1 : Int32)), .unset, .unset] [(.ref a), (.int (1 : Int32))])
      obtain ⟨T37, X37, e37, st37⟩ := getS2 X36 hx hZ hown (host := "") (Or.inl (hw _ (List.mem_of_getElem? (i := 20) rfl))) Via.refl e36 (S_PASSWORD.ext O.2) (g := (mkF m 94 #[.val (.int k), .val (.ref b1), .val (.ref a), .val (.int (1 : Int32)), .unset, .unset] [(.ref a), (.int (1 : Int32))])) rfl (hb hby at_94)
      refine own_via ?_ st37
      show Go _ _ _ _ _ _ _ _ (mkF m 97 #[.val (.int k), .val (.ref b1), .val (.ref a), .val (.int (1 : Int32)), .unset, .unset] [(.ref a_PASSWORD), (.ref a), (.int (1 : Int32))])
      refine own_via ?_ fun _ kt => Jvm.RoadKit.acmp (g := (mkF m 97 #[.val (.int k), .val (.ref b1), .val (.ref a), .val (.int (1 : Int32)), .unset, .unset] [(.ref a_PASSWORD), (.ref a), (.int (1 : Int32))])) X37 hx rfl rfl rfl (pc0 := 97) (pc' := 100) (same := true) rfl (hb hby at_97) rfl (decide_eq_true (congrArg Value.ref (hiff.mpr rfl))) (by decide) (by decide) kt
      show Go _ _ _ _ _ _ _ _ (mkF m 100 #[.val (.int k), .val (.ref b1), .val (.ref a), .val (.int (1 : Int32)), .unset, .unset] [(.int (1 : Int32))])
      refine own_via ?_ fun _ kt => XS.iconst X37.here hx rfl (hb hby at_100) kt
      show Go _ _ _ _ _ _ _ _ (mkF m 101 #[.val (.int k), .val (.ref b1), .val (.ref a), .val (.int (1 : Int32)), .unset, .unset] [(.int (1 : Int32)), (.int (1 : Int32))])
      refine own_via ?_ fun _ kt => XS.goto X37.here hx rfl (pc0 := 101) (pc' := 105) rfl (hb hby at_101) (by decide) (by decide) kt
      show Go _ _ _ _ _ _ _ _ (mkF m 105 #[.val (.int k), .val (.ref b1), .val (.ref a), .val (.int (1 : Int32)), .unset, .unset] [(.int (1 : Int32)), (.int (1 : Int32))])
      refine own_via ?_ fun _ kt => XS.icmpNo X37.here hx rfl (hb hby at_105) rfl (teq rfl).2 kt
      show Go _ _ _ _ _ _ _ _ (mkF m 108 #[.val (.int k), .val (.ref b1), .val (.ref a), .val (.int (1 : Int32)), .unset, .unset] [])
      refine own_via ?_ fun _ kt => XS.iconst X37.here hx rfl (hb hby at_108) kt
      show Go _ _ _ _ _ _ _ _ (mkF m 109 #[.val (.int k), .val (.ref b1), .val (.ref a), .val (.int (1 : Int32)), .unset, .unset] [(.int (1 : Int32))])
      refine own_via ?_ fun _ kt => XS.goto X37.here hx rfl (pc0 := 109) (pc' := 113) rfl (hb hby at_109) (by decide) (by decide) kt
      show Go _ _ _ _ _ _ _ _ (mkF m 113 #[.val (.int k), .val (.ref b1), .val (.ref a), .val (.int (1 : Int32)), .unset, .unset] [(.int (1 : Int32))])
      refine own_via ?_ fun _ kt => XS.istore X37.here hx rfl (hb hby at_113) rfl (l' := #[.val (.int k), .val (.ref b1), .val (.ref a), .val (.int (1 : Int32)), .val (.int (1 : Int32)), .unset]) rfl kt
      show Go _ _ _ _ _ _ _ _ (mkF m 115 #[.val (.int k), .val (.ref b1), .val (.ref a), .val (.int (1 : Int32)), .val (.int (1 : Int32)), .unset] [])
      refine own_via ?_ fun _ kt => XS.iloadN X37.here hx rfl (hb hby at_115) rfl kt
      show Go _ _ _ _ _ _ _ _ (mkF m 116 #[.val (.int k), .val (.ref b1), .val (.ref a), .val (.int (1 : Int32)), .val (.int (1 : Int32)), .unset] [(.int (1 : Int32))])
      refine own_via ?_ fun _ kt => XS.aloadN X37.here hx rfl (hb hby at_116) rfl rfl kt
      show Go _ _ _ _ _ _ _ _ (mkF m 117 #[.val (.int k), .val (.ref b1), .val (.ref a), .val (.int (1 : Int32)), .val (.int (1 : Int32)), .unset] [(.ref a), (.int (1 : Int32))])
      obtain ⟨cq38, kq38, q38a, q38b, q38c⟩ := isOf hZ e37 E
      obtain ⟨_, _, ⟨T38, L38, k38, n38⟩, -, X38, ⟨Lc38, hQ38, l38, y38, z38⟩, st38⟩ := X37.virtualBack hx (y := (⟨"com/example/kharon/kharon/Setting", "label", "()Ljava/lang/String;"⟩ : MethodName)) (z := (⟨"com/example/kharon/kharon/Setting", "label", "()Ljava/lang/String;"⟩ : MethodName)) hown (mvT hZ (hw _ (List.mem_of_getElem? (i := 34) rfl))) (mvT hZ (hw _ (List.mem_of_getElem? (i := 35) rfl))) (notFace_of_selects (args := #[]) (mvT hZ (hw _ (List.mem_of_getElem? (i := 37) rfl)))) (mvT hZ (hw _ (List.mem_of_getElem? (i := 37) rfl))) (mvT hZ (hw _ (List.mem_of_getElem? (i := 36) rfl))) (by decide) (backOf (W := 1) (rm_label l Z a0 hw [] a .null h34 n0 Z0 rfl F) hZ (hw _ (List.mem_of_getElem? (i := 38) rfl)) (hw _ (List.mem_of_getElem? (i := 3) rfl)) (by decide) (by decide)) q38a q38c (g := (mkF m 117 #[.val (.int k), .val (.ref b1), .val (.ref a), .val (.int (1 : Int32)), .val (.int (1 : Int32)), .unset] [(.ref a), (.int (1 : Int32))])) rfl (by rw [hml]; rfl) (Steps.refl _) (argsL := []) (rest := [(.int (1 : Int32))]) (lenOf pd1 rfl) rfl (by show 2 * 0 + _ ≤ _; exact Nat.le_of_eq rfl) (hb hby at_117) (fun _ _ => ⟨rfl, e37, (by decide : 1 + 0 ≤ _), (by decide : 11 + 0 ≤ _)⟩)
      dsimp only [Pt.U, Pt.locs, Pt.cells, Pt.slots] at X38 l38 y38 z38 st38 hQ38
      subst l38 y38 z38
      obtain ⟨rfl, Nq38, e38⟩ := hQ38
      have N38 := Fr.app N36 Nq38
      refine own_join ?_ st38
      show Go _ _ _ _ _ _ _ _ (mkF m 120 #[.val (.int k), .val (.ref b1), .val (.ref a), .val (.int (1 : Int32)), .val (.int (1 : Int32)), .unset] [.null, (.int (1 : Int32))])
      refine own_via ?_ fun _ kt => XS.ifnonnullNo X38.here hx rfl (hb hby at_120) rfl kt
      show Go _ _ _ _ _ _ _ _ (mkF m 123 #[.val (.int k), .val (.ref b1), .val (.ref a), .val (.int (1 : Int32)), .val (.int (1 : Int32)), .unset] [(.int (1 : Int32))])
      refine own_via ?_ fun _ kt => XS.iconst X38.here hx rfl (hb hby at_123) kt
      show Go _ _ _ _ _ _ _ _ (mkF m 124 #[.val (.int k), .val (.ref b1), .val (.ref a), .val (.int (1 : Int32)), .val (.int (1 : Int32)), .unset] [(.int (1 : Int32)), (.int (1 : Int32))])
      refine own_via ?_ fun _ kt => XS.goto X38.here hx rfl (pc0 := 124) (pc' := 128) rfl (hb hby at_124) (by decide) (by decide) kt
      show Go _ _ _ _ _ _ _ _ (mkF m 128 #[.val (.int k), .val (.ref b1), .val (.ref a), .val (.int (1 : Int32)), .val (.int (1 : Int32)), .unset] [(.int (1 : Int32)), (.int (1 : Int32))])
      refine own_via ?_ fun _ kt => XS.icmpNo X38.here hx rfl (hb hby at_128) rfl (teq rfl).2 kt
      show Go _ _ _ _ _ _ _ _ (mkF m 131 #[.val (.int k), .val (.ref b1), .val (.ref a), .val (.int (1 : Int32)), .val (.int (1 : Int32)), .unset] [])
      refine own_via ?_ fun _ kt => XS.iconst X38.here hx rfl (hb hby at_131) kt
      show Go _ _ _ _ _ _ _ _ (mkF m 132 #[.val (.int k), .val (.ref b1), .val (.ref a), .val (.int (1 : Int32)), .val (.int (1 : Int32)), .unset] [(.int (1 : Int32))])
      refine own_via ?_ fun _ kt => XS.goto X38.here hx rfl (pc0 := 132) (pc' := 136) rfl (hb hby at_132) (by decide) (by decide) kt
      show Go _ _ _ _ _ _ _ _ (mkF m 136 #[.val (.int k), .val (.ref b1), .val (.ref a), .val (.int (1 : Int32)), .val (.int (1 : Int32)), .unset] [(.int (1 : Int32))])
      refine own_via ?_ fun _ kt => XS.istore X38.here hx rfl (hb hby at_136) rfl (l' := #[.val (.int k), .val (.ref b1), .val (.ref a), .val (.int (1 : Int32)), .val (.int (1 : Int32)), .val (.int (1 : Int32))]) rfl kt
      show Go _ _ _ _ _ _ _ _ (mkF m 138 #[.val (.int k), .val (.ref b1), .val (.ref a), .val (.int (1 : Int32)), .val (.int (1 : Int32)), .val (.int (1 : Int32))] [])
      refine own_via ?_ fun _ kt => XS.iload X38.here hx rfl (hb hby at_138) rfl kt
      show Go _ _ _ _ _ _ _ _ (mkF m 140 #[.val (.int k), .val (.ref b1), .val (.ref a), .val (.int (1 : Int32)), .val (.int (1 : Int32)), .val (.int (1 : Int32))] [(.int (1 : Int32))])
      refine own_via ?_ fun _ kt => XS.ifNo X38.here hx rfl (hb hby at_140) rfl ((if0 _ _).trans (feq (by decide : ¬ ((1 : Int32) = (0 : Int32)))).1) kt
      show Go _ _ _ _ _ _ _ _ (mkF m 143 #[.val (.int k), .val (.ref b1), .val (.ref a), .val (.int (1 : Int32)), .val (.int (1 : Int32)), .val (.int (1 : Int32))] [])
      refine own_via ?_ fun _ kt => XS.iload X38.here hx rfl (hb hby at_143) rfl kt
      show Go _ _ _ _ _ _ _ _ (mkF m 145 #[.val (.int k), .val (.ref b1), .val (.ref a), .val (.int (1 : Int32)), .val (.int (1 : Int32)), .val (.int (1 : Int32))] [(.int (1 : Int32))])
      refine own_via ?_ fun _ kt => XS.ifNo X38.here hx rfl (hb hby at_145) rfl ((if0 _ _).trans (feq (by decide : ¬ ((1 : Int32) = (0 : Int32)))).1) kt
      show Go _ _ _ _ _ _ _ _ (mkF m 148 #[.val (.int k), .val (.ref b1), .val (.ref a), .val (.int (1 : Int32)), .val (.int (1 : Int32)), .val (.int (1 : Int32))] [])
      refine own_via ?_ fun _ kt => XS.iconst X38.here hx rfl (hb hby at_148) kt
      show Go _ _ _ _ _ _ _ _ (mkF m 149 #[.val (.int k), .val (.ref b1), .val (.ref a), .val (.int (1 : Int32)), .val (.int (1 : Int32)), .val (.int (1 : Int32))] [(.int (1 : Int32))])
      refine own_via ?_ fun _ kt => XS.goto X38.here hx rfl (pc0 := 149) (pc' := 153) rfl (hb hby at_149) (by decide) (by decide) kt
      show Go _ _ _ _ _ _ _ _ (mkF m 153 #[.val (.int k), .val (.ref b1), .val (.ref a), .val (.int (1 : Int32)), .val (.int (1 : Int32)), .val (.int (1 : Int32))] [(.int (1 : Int32))])
      exact own_retZ (z' := (1 : Int32)) X38 hx hret hlk (hb hby at_153) rfl (by decide) (by decide) (by rw [e38]; exact ⟨rfl, N38⟩)
    · skip
      show Go _ _ _ _ _ _ _ _ (mkF m 86 #[.val (.int k), .val (.ref b1), .unset, .unset, .unset, .unset] [(.ref a)])
      refine own_via ?_ fun _ kt => XS.astoreN X34.here hx rfl (hb hby at_86) rfl rfl (l' := #[.val (.int k), .val (.ref b1), .val (.ref a), .unset, .unset, .unset]) rfl kt
      show Go _ _ _ _ _ _ _ _ (mkF m 87 #[.val (.int k), .val (.ref b1), .val (.ref a), .unset, .unset, .unset] [])
      refine own_via ?_ fun _ kt => XS.aloadN X34.here hx rfl (hb hby at_87) rfl rfl kt
      show Go _ _ _ _ _ _ _ _ (mkF m 88 #[.val (.int k), .val (.ref b1), .val (.ref a), .unset, .unset, .unset] [(.ref a)])
      obtain ⟨cq39, kq39, q39a, q39b, q39c⟩ := isOf hZ e34 E
      obtain ⟨_, _, ⟨T39, L39, k39, n39⟩, -, X39, ⟨Lc39, hQ39, l39, y39, z39⟩, st39⟩ := X34.virtualBack hx (y := (⟨"com/example/kharon/kharon/Setting", "secret", "()Z"⟩ : MethodName)) (z := (⟨"com/example/kharon/kharon/Setting", "secret", "()Z"⟩ : MethodName)) hown (mvT hZ (hw _ (List.mem_of_getElem? (i := 27) rfl))) (mvT hZ (hw _ (List.mem_of_getElem? (i := 28) rfl))) (notFace_of_selects (args := #[]) (mvT hZ (hw _ (List.mem_of_getElem? (i := 30) rfl)))) (mvT hZ (hw _ (List.mem_of_getElem? (i := 30) rfl))) (mvT hZ (hw _ (List.mem_of_getElem? (i := 29) rfl))) (by decide) (backOf (W := 0) (rm_secret l Z a0 hw [] a (.ref r) h34 n0 Z0 rfl F) hZ (hw _ (List.mem_of_getElem? (i := 31) rfl)) (hw _ (List.mem_of_getElem? (i := 3) rfl)) (by decide) (by decide)) q39a q39c (g := (mkF m 88 #[.val (.int k), .val (.ref b1), .val (.ref a), .unset, .unset, .unset] [(.ref a)])) rfl (by rw [hml]; rfl) (Steps.refl _) (argsL := []) (rest := []) (lenOf pd0 rfl) rfl (by show 2 * 0 + _ ≤ _; exact Nat.le_of_eq rfl) (hb hby at_88) (fun _ _ => ⟨rfl, e34, (by decide : 1 + 0 ≤ _), (by decide : 11 + 0 ≤ _)⟩)
      dsimp only [Pt.U, Pt.locs, Pt.cells, Pt.slots] at X39 l39 y39 z39 st39 hQ39
      subst l39 y39 z39
      obtain ⟨rfl, Nq39, e39⟩ := hQ39
      have N39 := Fr.app N34 Nq39
      refine own_join ?_ st39
      show Go _ _ _ _ _ _ _ _ (mkF m 91 #[.val (.int k), .val (.ref b1), .val (.ref a), .unset, .unset, .unset] [(.int (0 : Int32))])
      refine own_via ?_ fun _ kt => XS.istoreN X39.here hx rfl (hb hby at_91) rfl (l' := #[.val (.int k), .val (.ref b1), .val (.ref a), .val (.int (0 : Int32)), .unset, .unset]) rfl kt
      show Go _ _ _ _ _ _ _ _ (mkF m 92 #[.val (.int k), .val (.ref b1), .val (.ref a), .val (.int (0 : Int32)), .unset, .unset] [])
      refine own_via ?_ fun _ kt => XS.iloadN X39.here hx rfl (hb hby at_92) rfl kt
      show Go _ _ _ _ _ _ _ _ (mkF m 93 #[.val (.int k), .val (.ref b1), .val (.ref a), .val (.int (0 : Int32)), .unset, .unset] [(.int (0 : Int32))])
      refine own_via ?_ fun _ kt => XS.aloadN X39.here hx rfl (hb hby at_93) rfl rfl kt
      show Go _ _ _ _ _ _ _ _ (mkF m 94 #[.val (.int k), .val (.ref b1), .val (.ref a), .val (.int (0 : Int32)), .unset, .unset] [(.ref a), (.int (0 : Int32))])
      obtain ⟨T40, X40, e40, st40⟩ := getS2 X39 hx hZ hown (host := "") (Or.inl (hw _ (List.mem_of_getElem? (i := 20) rfl))) Via.refl e39 (S_PASSWORD.ext O.2) (g := (mkF m 94 #[.val (.int k), .val (.ref b1), .val (.ref a), .val (.int (0 : Int32)), .unset, .unset] [(.ref a), (.int (0 : Int32))])) rfl (hb hby at_94)
      refine own_via ?_ st40
      show Go _ _ _ _ _ _ _ _ (mkF m 97 #[.val (.int k), .val (.ref b1), .val (.ref a), .val (.int (0 : Int32)), .unset, .unset] [(.ref a_PASSWORD), (.ref a), (.int (0 : Int32))])
      refine own_via ?_ fun _ kt => Jvm.RoadKit.acmp (g := (mkF m 97 #[.val (.int k), .val (.ref b1), .val (.ref a), .val (.int (0 : Int32)), .unset, .unset] [(.ref a_PASSWORD), (.ref a), (.int (0 : Int32))])) X40 hx rfl rfl rfl (pc0 := 97) (pc' := 104) (same := false) rfl (hb hby at_97) rfl (decide_eq_false fun q => (fun q => nomatch hiff.mp q) (Value.ref.inj q)) (by decide) (by decide) kt
      show Go _ _ _ _ _ _ _ _ (mkF m 104 #[.val (.int k), .val (.ref b1), .val (.ref a), .val (.int (0 : Int32)), .unset, .unset] [(.int (0 : Int32))])
      refine own_via ?_ fun _ kt => XS.iconst X40.here hx rfl (hb hby at_104) kt
      show Go _ _ _ _ _ _ _ _ (mkF m 105 #[.val (.int k), .val (.ref b1), .val (.ref a), .val (.int (0 : Int32)), .unset, .unset] [(.int (0 : Int32)), (.int (0 : Int32))])
      refine own_via ?_ fun _ kt => XS.icmpNo X40.here hx rfl (hb hby at_105) rfl (teq rfl).2 kt
      show Go _ _ _ _ _ _ _ _ (mkF m 108 #[.val (.int k), .val (.ref b1), .val (.ref a), .val (.int (0 : Int32)), .unset, .unset] [])
      refine own_via ?_ fun _ kt => XS.iconst X40.here hx rfl (hb hby at_108) kt
      show Go _ _ _ _ _ _ _ _ (mkF m 109 #[.val (.int k), .val (.ref b1), .val (.ref a), .val (.int (0 : Int32)), .unset, .unset] [(.int (1 : Int32))])
      refine own_via ?_ fun _ kt => XS.goto X40.here hx rfl (pc0 := 109) (pc' := 113) rfl (hb hby at_109) (by decide) (by decide) kt
      show Go _ _ _ _ _ _ _ _ (mkF m 113 #[.val (.int k), .val (.ref b1), .val (.ref a), .val (.int (0 : Int32)), .unset, .unset] [(.int (1 : Int32))])
      refine own_via ?_ fun _ kt => XS.istore X40.here hx rfl (hb hby at_113) rfl (l' := #[.val (.int k), .val (.ref b1), .val (.ref a), .val (.int (0 : Int32)), .val (.int (1 : Int32)), .unset]) rfl kt
      show Go _ _ _ _ _ _ _ _ (mkF m 115 #[.val (.int k), .val (.ref b1), .val (.ref a), .val (.int (0 : Int32)), .val (.int (1 : Int32)), .unset] [])
      refine own_via ?_ fun _ kt => XS.iloadN X40.here hx rfl (hb hby at_115) rfl kt
      show Go _ _ _ _ _ _ _ _ (mkF m 116 #[.val (.int k), .val (.ref b1), .val (.ref a), .val (.int (0 : Int32)), .val (.int (1 : Int32)), .unset] [(.int (0 : Int32))])
      refine own_via ?_ fun _ kt => XS.aloadN X40.here hx rfl (hb hby at_116) rfl rfl kt
      show Go _ _ _ _ _ _ _ _ (mkF m 117 #[.val (.int k), .val (.ref b1), .val (.ref a), .val (.int (0 : Int32)), .val (.int (1 : Int32)), .unset] [(.ref a), (.int (0 : Int32))])
      obtain ⟨cq41, kq41, q41a, q41b, q41c⟩ := isOf hZ e40 E
      obtain ⟨_, _, ⟨T41, L41, k41, n41⟩, -, X41, ⟨Lc41, hQ41, l41, y41, z41⟩, st41⟩ := X40.virtualBack hx (y := (⟨"com/example/kharon/kharon/Setting", "label", "()Ljava/lang/String;"⟩ : MethodName)) (z := (⟨"com/example/kharon/kharon/Setting", "label", "()Ljava/lang/String;"⟩ : MethodName)) hown (mvT hZ (hw _ (List.mem_of_getElem? (i := 34) rfl))) (mvT hZ (hw _ (List.mem_of_getElem? (i := 35) rfl))) (notFace_of_selects (args := #[]) (mvT hZ (hw _ (List.mem_of_getElem? (i := 37) rfl)))) (mvT hZ (hw _ (List.mem_of_getElem? (i := 37) rfl))) (mvT hZ (hw _ (List.mem_of_getElem? (i := 36) rfl))) (by decide) (backOf (W := 1) (rm_label l Z a0 hw [] a (.ref r) h34 n0 Z0 rfl F) hZ (hw _ (List.mem_of_getElem? (i := 38) rfl)) (hw _ (List.mem_of_getElem? (i := 3) rfl)) (by decide) (by decide)) q41a q41c (g := (mkF m 117 #[.val (.int k), .val (.ref b1), .val (.ref a), .val (.int (0 : Int32)), .val (.int (1 : Int32)), .unset] [(.ref a), (.int (0 : Int32))])) rfl (by rw [hml]; rfl) (Steps.refl _) (argsL := []) (rest := [(.int (0 : Int32))]) (lenOf pd1 rfl) rfl (by show 2 * 0 + _ ≤ _; exact Nat.le_of_eq rfl) (hb hby at_117) (fun _ _ => ⟨rfl, e40, (by decide : 1 + 0 ≤ _), (by decide : 11 + 0 ≤ _)⟩)
      dsimp only [Pt.U, Pt.locs, Pt.cells, Pt.slots] at X41 l41 y41 z41 st41 hQ41
      subst l41 y41 z41
      obtain ⟨rfl, Nq41, e41⟩ := hQ41
      have N41 := Fr.app N39 Nq41
      refine own_join ?_ st41
      show Go _ _ _ _ _ _ _ _ (mkF m 120 #[.val (.int k), .val (.ref b1), .val (.ref a), .val (.int (0 : Int32)), .val (.int (1 : Int32)), .unset] [(.ref r), (.int (0 : Int32))])
      refine own_via ?_ fun _ kt => XS.ifnonnullYes X41.here hx rfl (pc0 := 120) (pc' := 127) rfl (hb hby at_120) rfl (by decide) (by decide) kt
      show Go _ _ _ _ _ _ _ _ (mkF m 127 #[.val (.int k), .val (.ref b1), .val (.ref a), .val (.int (0 : Int32)), .val (.int (1 : Int32)), .unset] [(.int (0 : Int32))])
      refine own_via ?_ fun _ kt => XS.iconst X41.here hx rfl (hb hby at_127) kt
      show Go _ _ _ _ _ _ _ _ (mkF m 128 #[.val (.int k), .val (.ref b1), .val (.ref a), .val (.int (0 : Int32)), .val (.int (1 : Int32)), .unset] [(.int (0 : Int32)), (.int (0 : Int32))])
      refine own_via ?_ fun _ kt => XS.icmpNo X41.here hx rfl (hb hby at_128) rfl (teq rfl).2 kt
      show Go _ _ _ _ _ _ _ _ (mkF m 131 #[.val (.int k), .val (.ref b1), .val (.ref a), .val (.int (0 : Int32)), .val (.int (1 : Int32)), .unset] [])
      refine own_via ?_ fun _ kt => XS.iconst X41.here hx rfl (hb hby at_131) kt
      show Go _ _ _ _ _ _ _ _ (mkF m 132 #[.val (.int k), .val (.ref b1), .val (.ref a), .val (.int (0 : Int32)), .val (.int (1 : Int32)), .unset] [(.int (1 : Int32))])
      refine own_via ?_ fun _ kt => XS.goto X41.here hx rfl (pc0 := 132) (pc' := 136) rfl (hb hby at_132) (by decide) (by decide) kt
      show Go _ _ _ _ _ _ _ _ (mkF m 136 #[.val (.int k), .val (.ref b1), .val (.ref a), .val (.int (0 : Int32)), .val (.int (1 : Int32)), .unset] [(.int (1 : Int32))])
      refine own_via ?_ fun _ kt => XS.istore X41.here hx rfl (hb hby at_136) rfl (l' := #[.val (.int k), .val (.ref b1), .val (.ref a), .val (.int (0 : Int32)), .val (.int (1 : Int32)), .val (.int (1 : Int32))]) rfl kt
      show Go _ _ _ _ _ _ _ _ (mkF m 138 #[.val (.int k), .val (.ref b1), .val (.ref a), .val (.int (0 : Int32)), .val (.int (1 : Int32)), .val (.int (1 : Int32))] [])
      refine own_via ?_ fun _ kt => XS.iload X41.here hx rfl (hb hby at_138) rfl kt
      show Go _ _ _ _ _ _ _ _ (mkF m 140 #[.val (.int k), .val (.ref b1), .val (.ref a), .val (.int (0 : Int32)), .val (.int (1 : Int32)), .val (.int (1 : Int32))] [(.int (1 : Int32))])
      refine own_via ?_ fun _ kt => XS.ifNo X41.here hx rfl (hb hby at_140) rfl ((if0 _ _).trans (feq (by decide : ¬ ((1 : Int32) = (0 : Int32)))).1) kt
      show Go _ _ _ _ _ _ _ _ (mkF m 143 #[.val (.int k), .val (.ref b1), .val (.ref a), .val (.int (0 : Int32)), .val (.int (1 : Int32)), .val (.int (1 : Int32))] [])
      refine own_via ?_ fun _ kt => XS.iload X41.here hx rfl (hb hby at_143) rfl kt
      show Go _ _ _ _ _ _ _ _ (mkF m 145 #[.val (.int k), .val (.ref b1), .val (.ref a), .val (.int (0 : Int32)), .val (.int (1 : Int32)), .val (.int (1 : Int32))] [(.int (1 : Int32))])
      refine own_via ?_ fun _ kt => XS.ifNo X41.here hx rfl (hb hby at_145) rfl ((if0 _ _).trans (feq (by decide : ¬ ((1 : Int32) = (0 : Int32)))).1) kt
      show Go _ _ _ _ _ _ _ _ (mkF m 148 #[.val (.int k), .val (.ref b1), .val (.ref a), .val (.int (0 : Int32)), .val (.int (1 : Int32)), .val (.int (1 : Int32))] [])
      refine own_via ?_ fun _ kt => XS.iconst X41.here hx rfl (hb hby at_148) kt
      show Go _ _ _ _ _ _ _ _ (mkF m 149 #[.val (.int k), .val (.ref b1), .val (.ref a), .val (.int (0 : Int32)), .val (.int (1 : Int32)), .val (.int (1 : Int32))] [(.int (1 : Int32))])
      refine own_via ?_ fun _ kt => XS.goto X41.here hx rfl (pc0 := 149) (pc' := 153) rfl (hb hby at_149) (by decide) (by decide) kt
      show Go _ _ _ _ _ _ _ _ (mkF m 153 #[.val (.int k), .val (.ref b1), .val (.ref a), .val (.int (0 : Int32)), .val (.int (1 : Int32)), .val (.int (1 : Int32))] [(.int (1 : Int32))])
      exact own_retZ (z' := (1 : Int32)) X41 hx hret hlk (hb hby at_153) rfl (by decide) (by decide) (by rw [e41]; exact ⟨rfl, N41⟩)
  rcases i_cases hi with rfl | rfl | rfl | rfl | rfl | rfl | rfl | rfl | rfl | rfl | rfl
  · skip
    show Go _ _ _ _ _ _ _ _ (mkF m 85 #[.val (.int k), .val (.ref b1), .unset, .unset, .unset, .unset] [(.int (0 : Int32)), (.ref b1)])
    obtain ⟨cl42, Ar42, Aq42, AS42, AN42, AH42, AG42⟩ := V34
    have V34 : Arv Z h34 b1 k1 (.object "com/example/kharon/kharon/Setting") (11 : Int32) [(.ref a_CONTACT_POINTS), (.ref a_CASSANDRA_PORT), (.ref a_KEYSPACE), (.ref a_CONSISTENCY_LEVEL), (.ref a_DATA_CENTER), (.ref a_CLUSTER_NAME), (.ref a_AUTH_PROVIDER), (.ref a_USERNAME), (.ref a_PASSWORD), (.ref a_USE_SSL), (.ref a_SSL_PORT)] .null := ⟨cl42, Ar42, Aq42, AS42, AN42, AH42, AG42⟩
    have hin43 : ¬ ((0 : Int32) < 0 ∨ cl42.slots.size ≤ ((0 : Int32)).toNatClampNeg) := (inb_of AS42 ⟨by decide, by decide⟩)
    have hat43 : cl42.slots[((0 : Int32)).toNatClampNeg]? = some (.ref a_CONTACT_POINTS) := (AH42.at hin43 rfl)
    refine own_via ?_ fun _ kt => X34.aaload hx (j := (0 : Int32)) (v := (.ref a_CONTACT_POINTS)) (by rw [e34]; exact Ar42.1) (State.isArrayOf_alike hZ.alike Ar42.2.1) rfl Ar42.2.2 hin43 hat43 (g := (mkF m 85 #[.val (.int k), .val (.ref b1), .unset, .unset, .unset, .unset] [(.int (0 : Int32)), (.ref b1)])) rfl rfl (hb hby at_85) _ kt
    show Go _ _ _ _ _ _ _ _ (mkF m 86 #[.val (.int k), .val (.ref b1), .unset, .unset, .unset, .unset] [(.ref a_CONTACT_POINTS)])
    exact J a_CONTACT_POINTS (.ref r_CONTACT_POINTS) rfl (E_CONTACT_POINTS.ext O.2) (F_CONTACT_POINTS.ext O.2) ⟨fun q => absurd q ne_CONTACT_POINTS, fun q => nomatch q⟩
  · skip
    show Go _ _ _ _ _ _ _ _ (mkF m 85 #[.val (.int k), .val (.ref b1), .unset, .unset, .unset, .unset] [(.int (1 : Int32)), (.ref b1)])
    obtain ⟨cl44, Ar44, Aq44, AS44, AN44, AH44, AG44⟩ := V34
    have V34 : Arv Z h34 b1 k1 (.object "com/example/kharon/kharon/Setting") (11 : Int32) [(.ref a_CONTACT_POINTS), (.ref a_CASSANDRA_PORT), (.ref a_KEYSPACE), (.ref a_CONSISTENCY_LEVEL), (.ref a_DATA_CENTER), (.ref a_CLUSTER_NAME), (.ref a_AUTH_PROVIDER), (.ref a_USERNAME), (.ref a_PASSWORD), (.ref a_USE_SSL), (.ref a_SSL_PORT)] .null := ⟨cl44, Ar44, Aq44, AS44, AN44, AH44, AG44⟩
    have hin45 : ¬ ((1 : Int32) < 0 ∨ cl44.slots.size ≤ ((1 : Int32)).toNatClampNeg) := (inb_of AS44 ⟨by decide, by decide⟩)
    have hat45 : cl44.slots[((1 : Int32)).toNatClampNeg]? = some (.ref a_CASSANDRA_PORT) := (AH44.at hin45 rfl)
    refine own_via ?_ fun _ kt => X34.aaload hx (j := (1 : Int32)) (v := (.ref a_CASSANDRA_PORT)) (by rw [e34]; exact Ar44.1) (State.isArrayOf_alike hZ.alike Ar44.2.1) rfl Ar44.2.2 hin45 hat45 (g := (mkF m 85 #[.val (.int k), .val (.ref b1), .unset, .unset, .unset, .unset] [(.int (1 : Int32)), (.ref b1)])) rfl rfl (hb hby at_85) _ kt
    show Go _ _ _ _ _ _ _ _ (mkF m 86 #[.val (.int k), .val (.ref b1), .unset, .unset, .unset, .unset] [(.ref a_CASSANDRA_PORT)])
    exact J a_CASSANDRA_PORT (.ref r_CASSANDRA_PORT) rfl (E_CASSANDRA_PORT.ext O.2) (F_CASSANDRA_PORT.ext O.2) ⟨fun q => absurd q ne_CASSANDRA_PORT, fun q => nomatch q⟩
  · skip
    show Go _ _ _ _ _ _ _ _ (mkF m 85 #[.val (.int k), .val (.ref b1), .unset, .unset, .unset, .unset] [(.int (2 : Int32)), (.ref b1)])
    obtain ⟨cl46, Ar46, Aq46, AS46, AN46, AH46, AG46⟩ := V34
    have V34 : Arv Z h34 b1 k1 (.object "com/example/kharon/kharon/Setting") (11 : Int32) [(.ref a_CONTACT_POINTS), (.ref a_CASSANDRA_PORT), (.ref a_KEYSPACE), (.ref a_CONSISTENCY_LEVEL), (.ref a_DATA_CENTER), (.ref a_CLUSTER_NAME), (.ref a_AUTH_PROVIDER), (.ref a_USERNAME), (.ref a_PASSWORD), (.ref a_USE_SSL), (.ref a_SSL_PORT)] .null := ⟨cl46, Ar46, Aq46, AS46, AN46, AH46, AG46⟩
    have hin47 : ¬ ((2 : Int32) < 0 ∨ cl46.slots.size ≤ ((2 : Int32)).toNatClampNeg) := (inb_of AS46 ⟨by decide, by decide⟩)
    have hat47 : cl46.slots[((2 : Int32)).toNatClampNeg]? = some (.ref a_KEYSPACE) := (AH46.at hin47 rfl)
    refine own_via ?_ fun _ kt => X34.aaload hx (j := (2 : Int32)) (v := (.ref a_KEYSPACE)) (by rw [e34]; exact Ar46.1) (State.isArrayOf_alike hZ.alike Ar46.2.1) rfl Ar46.2.2 hin47 hat47 (g := (mkF m 85 #[.val (.int k), .val (.ref b1), .unset, .unset, .unset, .unset] [(.int (2 : Int32)), (.ref b1)])) rfl rfl (hb hby at_85) _ kt
    show Go _ _ _ _ _ _ _ _ (mkF m 86 #[.val (.int k), .val (.ref b1), .unset, .unset, .unset, .unset] [(.ref a_KEYSPACE)])
    exact J a_KEYSPACE (.ref r_KEYSPACE) rfl (E_KEYSPACE.ext O.2) (F_KEYSPACE.ext O.2) ⟨fun q => absurd q ne_KEYSPACE, fun q => nomatch q⟩
  · skip
    show Go _ _ _ _ _ _ _ _ (mkF m 85 #[.val (.int k), .val (.ref b1), .unset, .unset, .unset, .unset] [(.int (3 : Int32)), (.ref b1)])
    obtain ⟨cl48, Ar48, Aq48, AS48, AN48, AH48, AG48⟩ := V34
    have V34 : Arv Z h34 b1 k1 (.object "com/example/kharon/kharon/Setting") (11 : Int32) [(.ref a_CONTACT_POINTS), (.ref a_CASSANDRA_PORT), (.ref a_KEYSPACE), (.ref a_CONSISTENCY_LEVEL), (.ref a_DATA_CENTER), (.ref a_CLUSTER_NAME), (.ref a_AUTH_PROVIDER), (.ref a_USERNAME), (.ref a_PASSWORD), (.ref a_USE_SSL), (.ref a_SSL_PORT)] .null := ⟨cl48, Ar48, Aq48, AS48, AN48, AH48, AG48⟩
    have hin49 : ¬ ((3 : Int32) < 0 ∨ cl48.slots.size ≤ ((3 : Int32)).toNatClampNeg) := (inb_of AS48 ⟨by decide, by decide⟩)
    have hat49 : cl48.slots[((3 : Int32)).toNatClampNeg]? = some (.ref a_CONSISTENCY_LEVEL) := (AH48.at hin49 rfl)
    refine own_via ?_ fun _ kt => X34.aaload hx (j := (3 : Int32)) (v := (.ref a_CONSISTENCY_LEVEL)) (by rw [e34]; exact Ar48.1) (State.isArrayOf_alike hZ.alike Ar48.2.1) rfl Ar48.2.2 hin49 hat49 (g := (mkF m 85 #[.val (.int k), .val (.ref b1), .unset, .unset, .unset, .unset] [(.int (3 : Int32)), (.ref b1)])) rfl rfl (hb hby at_85) _ kt
    show Go _ _ _ _ _ _ _ _ (mkF m 86 #[.val (.int k), .val (.ref b1), .unset, .unset, .unset, .unset] [(.ref a_CONSISTENCY_LEVEL)])
    exact J a_CONSISTENCY_LEVEL (.ref r_CONSISTENCY_LEVEL) rfl (E_CONSISTENCY_LEVEL.ext O.2) (F_CONSISTENCY_LEVEL.ext O.2) ⟨fun q => absurd q ne_CONSISTENCY_LEVEL, fun q => nomatch q⟩
  · skip
    show Go _ _ _ _ _ _ _ _ (mkF m 85 #[.val (.int k), .val (.ref b1), .unset, .unset, .unset, .unset] [(.int (4 : Int32)), (.ref b1)])
    obtain ⟨cl50, Ar50, Aq50, AS50, AN50, AH50, AG50⟩ := V34
    have V34 : Arv Z h34 b1 k1 (.object "com/example/kharon/kharon/Setting") (11 : Int32) [(.ref a_CONTACT_POINTS), (.ref a_CASSANDRA_PORT), (.ref a_KEYSPACE), (.ref a_CONSISTENCY_LEVEL), (.ref a_DATA_CENTER), (.ref a_CLUSTER_NAME), (.ref a_AUTH_PROVIDER), (.ref a_USERNAME), (.ref a_PASSWORD), (.ref a_USE_SSL), (.ref a_SSL_PORT)] .null := ⟨cl50, Ar50, Aq50, AS50, AN50, AH50, AG50⟩
    have hin51 : ¬ ((4 : Int32) < 0 ∨ cl50.slots.size ≤ ((4 : Int32)).toNatClampNeg) := (inb_of AS50 ⟨by decide, by decide⟩)
    have hat51 : cl50.slots[((4 : Int32)).toNatClampNeg]? = some (.ref a_DATA_CENTER) := (AH50.at hin51 rfl)
    refine own_via ?_ fun _ kt => X34.aaload hx (j := (4 : Int32)) (v := (.ref a_DATA_CENTER)) (by rw [e34]; exact Ar50.1) (State.isArrayOf_alike hZ.alike Ar50.2.1) rfl Ar50.2.2 hin51 hat51 (g := (mkF m 85 #[.val (.int k), .val (.ref b1), .unset, .unset, .unset, .unset] [(.int (4 : Int32)), (.ref b1)])) rfl rfl (hb hby at_85) _ kt
    show Go _ _ _ _ _ _ _ _ (mkF m 86 #[.val (.int k), .val (.ref b1), .unset, .unset, .unset, .unset] [(.ref a_DATA_CENTER)])
    exact J a_DATA_CENTER (.ref r_DATA_CENTER) rfl (E_DATA_CENTER.ext O.2) (F_DATA_CENTER.ext O.2) ⟨fun q => absurd q ne_DATA_CENTER, fun q => nomatch q⟩
  · skip
    show Go _ _ _ _ _ _ _ _ (mkF m 85 #[.val (.int k), .val (.ref b1), .unset, .unset, .unset, .unset] [(.int (5 : Int32)), (.ref b1)])
    obtain ⟨cl52, Ar52, Aq52, AS52, AN52, AH52, AG52⟩ := V34
    have V34 : Arv Z h34 b1 k1 (.object "com/example/kharon/kharon/Setting") (11 : Int32) [(.ref a_CONTACT_POINTS), (.ref a_CASSANDRA_PORT), (.ref a_KEYSPACE), (.ref a_CONSISTENCY_LEVEL), (.ref a_DATA_CENTER), (.ref a_CLUSTER_NAME), (.ref a_AUTH_PROVIDER), (.ref a_USERNAME), (.ref a_PASSWORD), (.ref a_USE_SSL), (.ref a_SSL_PORT)] .null := ⟨cl52, Ar52, Aq52, AS52, AN52, AH52, AG52⟩
    have hin53 : ¬ ((5 : Int32) < 0 ∨ cl52.slots.size ≤ ((5 : Int32)).toNatClampNeg) := (inb_of AS52 ⟨by decide, by decide⟩)
    have hat53 : cl52.slots[((5 : Int32)).toNatClampNeg]? = some (.ref a_CLUSTER_NAME) := (AH52.at hin53 rfl)
    refine own_via ?_ fun _ kt => X34.aaload hx (j := (5 : Int32)) (v := (.ref a_CLUSTER_NAME)) (by rw [e34]; exact Ar52.1) (State.isArrayOf_alike hZ.alike Ar52.2.1) rfl Ar52.2.2 hin53 hat53 (g := (mkF m 85 #[.val (.int k), .val (.ref b1), .unset, .unset, .unset, .unset] [(.int (5 : Int32)), (.ref b1)])) rfl rfl (hb hby at_85) _ kt
    show Go _ _ _ _ _ _ _ _ (mkF m 86 #[.val (.int k), .val (.ref b1), .unset, .unset, .unset, .unset] [(.ref a_CLUSTER_NAME)])
    exact J a_CLUSTER_NAME (.ref r_CLUSTER_NAME) rfl (E_CLUSTER_NAME.ext O.2) (F_CLUSTER_NAME.ext O.2) ⟨fun q => absurd q ne_CLUSTER_NAME, fun q => nomatch q⟩
  · skip
    show Go _ _ _ _ _ _ _ _ (mkF m 85 #[.val (.int k), .val (.ref b1), .unset, .unset, .unset, .unset] [(.int (6 : Int32)), (.ref b1)])
    obtain ⟨cl54, Ar54, Aq54, AS54, AN54, AH54, AG54⟩ := V34
    have V34 : Arv Z h34 b1 k1 (.object "com/example/kharon/kharon/Setting") (11 : Int32) [(.ref a_CONTACT_POINTS), (.ref a_CASSANDRA_PORT), (.ref a_KEYSPACE), (.ref a_CONSISTENCY_LEVEL), (.ref a_DATA_CENTER), (.ref a_CLUSTER_NAME), (.ref a_AUTH_PROVIDER), (.ref a_USERNAME), (.ref a_PASSWORD), (.ref a_USE_SSL), (.ref a_SSL_PORT)] .null := ⟨cl54, Ar54, Aq54, AS54, AN54, AH54, AG54⟩
    have hin55 : ¬ ((6 : Int32) < 0 ∨ cl54.slots.size ≤ ((6 : Int32)).toNatClampNeg) := (inb_of AS54 ⟨by decide, by decide⟩)
    have hat55 : cl54.slots[((6 : Int32)).toNatClampNeg]? = some (.ref a_AUTH_PROVIDER) := (AH54.at hin55 rfl)
    refine own_via ?_ fun _ kt => X34.aaload hx (j := (6 : Int32)) (v := (.ref a_AUTH_PROVIDER)) (by rw [e34]; exact Ar54.1) (State.isArrayOf_alike hZ.alike Ar54.2.1) rfl Ar54.2.2 hin55 hat55 (g := (mkF m 85 #[.val (.int k), .val (.ref b1), .unset, .unset, .unset, .unset] [(.int (6 : Int32)), (.ref b1)])) rfl rfl (hb hby at_85) _ kt
    show Go _ _ _ _ _ _ _ _ (mkF m 86 #[.val (.int k), .val (.ref b1), .unset, .unset, .unset, .unset] [(.ref a_AUTH_PROVIDER)])
    exact J a_AUTH_PROVIDER (.ref r_AUTH_PROVIDER) rfl (E_AUTH_PROVIDER.ext O.2) (F_AUTH_PROVIDER.ext O.2) ⟨fun q => absurd q ne_AUTH_PROVIDER, fun q => nomatch q⟩
  · skip
    show Go _ _ _ _ _ _ _ _ (mkF m 85 #[.val (.int k), .val (.ref b1), .unset, .unset, .unset, .unset] [(.int (7 : Int32)), (.ref b1)])
    obtain ⟨cl56, Ar56, Aq56, AS56, AN56, AH56, AG56⟩ := V34
    have V34 : Arv Z h34 b1 k1 (.object "com/example/kharon/kharon/Setting") (11 : Int32) [(.ref a_CONTACT_POINTS), (.ref a_CASSANDRA_PORT), (.ref a_KEYSPACE), (.ref a_CONSISTENCY_LEVEL), (.ref a_DATA_CENTER), (.ref a_CLUSTER_NAME), (.ref a_AUTH_PROVIDER), (.ref a_USERNAME), (.ref a_PASSWORD), (.ref a_USE_SSL), (.ref a_SSL_PORT)] .null := ⟨cl56, Ar56, Aq56, AS56, AN56, AH56, AG56⟩
    have hin57 : ¬ ((7 : Int32) < 0 ∨ cl56.slots.size ≤ ((7 : Int32)).toNatClampNeg) := (inb_of AS56 ⟨by decide, by decide⟩)
    have hat57 : cl56.slots[((7 : Int32)).toNatClampNeg]? = some (.ref a_USERNAME) := (AH56.at hin57 rfl)
    refine own_via ?_ fun _ kt => X34.aaload hx (j := (7 : Int32)) (v := (.ref a_USERNAME)) (by rw [e34]; exact Ar56.1) (State.isArrayOf_alike hZ.alike Ar56.2.1) rfl Ar56.2.2 hin57 hat57 (g := (mkF m 85 #[.val (.int k), .val (.ref b1), .unset, .unset, .unset, .unset] [(.int (7 : Int32)), (.ref b1)])) rfl rfl (hb hby at_85) _ kt
    show Go _ _ _ _ _ _ _ _ (mkF m 86 #[.val (.int k), .val (.ref b1), .unset, .unset, .unset, .unset] [(.ref a_USERNAME)])
    exact J a_USERNAME (.ref r_USERNAME) rfl (E_USERNAME.ext O.2) (F_USERNAME.ext O.2) ⟨fun q => absurd q ne_USERNAME, fun q => nomatch q⟩
  · skip
    show Go _ _ _ _ _ _ _ _ (mkF m 85 #[.val (.int k), .val (.ref b1), .unset, .unset, .unset, .unset] [(.int (8 : Int32)), (.ref b1)])
    obtain ⟨cl58, Ar58, Aq58, AS58, AN58, AH58, AG58⟩ := V34
    have V34 : Arv Z h34 b1 k1 (.object "com/example/kharon/kharon/Setting") (11 : Int32) [(.ref a_CONTACT_POINTS), (.ref a_CASSANDRA_PORT), (.ref a_KEYSPACE), (.ref a_CONSISTENCY_LEVEL), (.ref a_DATA_CENTER), (.ref a_CLUSTER_NAME), (.ref a_AUTH_PROVIDER), (.ref a_USERNAME), (.ref a_PASSWORD), (.ref a_USE_SSL), (.ref a_SSL_PORT)] .null := ⟨cl58, Ar58, Aq58, AS58, AN58, AH58, AG58⟩
    have hin59 : ¬ ((8 : Int32) < 0 ∨ cl58.slots.size ≤ ((8 : Int32)).toNatClampNeg) := (inb_of AS58 ⟨by decide, by decide⟩)
    have hat59 : cl58.slots[((8 : Int32)).toNatClampNeg]? = some (.ref a_PASSWORD) := (AH58.at hin59 rfl)
    refine own_via ?_ fun _ kt => X34.aaload hx (j := (8 : Int32)) (v := (.ref a_PASSWORD)) (by rw [e34]; exact Ar58.1) (State.isArrayOf_alike hZ.alike Ar58.2.1) rfl Ar58.2.2 hin59 hat59 (g := (mkF m 85 #[.val (.int k), .val (.ref b1), .unset, .unset, .unset, .unset] [(.int (8 : Int32)), (.ref b1)])) rfl rfl (hb hby at_85) _ kt
    show Go _ _ _ _ _ _ _ _ (mkF m 86 #[.val (.int k), .val (.ref b1), .unset, .unset, .unset, .unset] [(.ref a_PASSWORD)])
    exact J a_PASSWORD .null rfl (E_PASSWORD.ext O.2) (F_PASSWORD.ext O.2) ⟨fun _ => rfl, fun _ => rfl⟩
  · skip
    show Go _ _ _ _ _ _ _ _ (mkF m 85 #[.val (.int k), .val (.ref b1), .unset, .unset, .unset, .unset] [(.int (9 : Int32)), (.ref b1)])
    obtain ⟨cl60, Ar60, Aq60, AS60, AN60, AH60, AG60⟩ := V34
    have V34 : Arv Z h34 b1 k1 (.object "com/example/kharon/kharon/Setting") (11 : Int32) [(.ref a_CONTACT_POINTS), (.ref a_CASSANDRA_PORT), (.ref a_KEYSPACE), (.ref a_CONSISTENCY_LEVEL), (.ref a_DATA_CENTER), (.ref a_CLUSTER_NAME), (.ref a_AUTH_PROVIDER), (.ref a_USERNAME), (.ref a_PASSWORD), (.ref a_USE_SSL), (.ref a_SSL_PORT)] .null := ⟨cl60, Ar60, Aq60, AS60, AN60, AH60, AG60⟩
    have hin61 : ¬ ((9 : Int32) < 0 ∨ cl60.slots.size ≤ ((9 : Int32)).toNatClampNeg) := (inb_of AS60 ⟨by decide, by decide⟩)
    have hat61 : cl60.slots[((9 : Int32)).toNatClampNeg]? = some (.ref a_USE_SSL) := (AH60.at hin61 rfl)
    refine own_via ?_ fun _ kt => X34.aaload hx (j := (9 : Int32)) (v := (.ref a_USE_SSL)) (by rw [e34]; exact Ar60.1) (State.isArrayOf_alike hZ.alike Ar60.2.1) rfl Ar60.2.2 hin61 hat61 (g := (mkF m 85 #[.val (.int k), .val (.ref b1), .unset, .unset, .unset, .unset] [(.int (9 : Int32)), (.ref b1)])) rfl rfl (hb hby at_85) _ kt
    show Go _ _ _ _ _ _ _ _ (mkF m 86 #[.val (.int k), .val (.ref b1), .unset, .unset, .unset, .unset] [(.ref a_USE_SSL)])
    exact J a_USE_SSL (.ref r_USE_SSL) rfl (E_USE_SSL.ext O.2) (F_USE_SSL.ext O.2) ⟨fun q => absurd q ne_USE_SSL, fun q => nomatch q⟩
  · skip
    show Go _ _ _ _ _ _ _ _ (mkF m 85 #[.val (.int k), .val (.ref b1), .unset, .unset, .unset, .unset] [(.int (10 : Int32)), (.ref b1)])
    obtain ⟨cl62, Ar62, Aq62, AS62, AN62, AH62, AG62⟩ := V34
    have V34 : Arv Z h34 b1 k1 (.object "com/example/kharon/kharon/Setting") (11 : Int32) [(.ref a_CONTACT_POINTS), (.ref a_CASSANDRA_PORT), (.ref a_KEYSPACE), (.ref a_CONSISTENCY_LEVEL), (.ref a_DATA_CENTER), (.ref a_CLUSTER_NAME), (.ref a_AUTH_PROVIDER), (.ref a_USERNAME), (.ref a_PASSWORD), (.ref a_USE_SSL), (.ref a_SSL_PORT)] .null := ⟨cl62, Ar62, Aq62, AS62, AN62, AH62, AG62⟩
    have hin63 : ¬ ((10 : Int32) < 0 ∨ cl62.slots.size ≤ ((10 : Int32)).toNatClampNeg) := (inb_of AS62 ⟨by decide, by decide⟩)
    have hat63 : cl62.slots[((10 : Int32)).toNatClampNeg]? = some (.ref a_SSL_PORT) := (AH62.at hin63 rfl)
    refine own_via ?_ fun _ kt => X34.aaload hx (j := (10 : Int32)) (v := (.ref a_SSL_PORT)) (by rw [e34]; exact Ar62.1) (State.isArrayOf_alike hZ.alike Ar62.2.1) rfl Ar62.2.2 hin63 hat63 (g := (mkF m 85 #[.val (.int k), .val (.ref b1), .unset, .unset, .unset, .unset] [(.int (10 : Int32)), (.ref b1)])) rfl rfl (hb hby at_85) _ kt
    show Go _ _ _ _ _ _ _ _ (mkF m 86 #[.val (.int k), .val (.ref b1), .unset, .unset, .unset, .unset] [(.ref a_SSL_PORT)])
    exact J a_SSL_PORT (.ref r_SSL_PORT) rfl (E_SSL_PORT.ext O.2) (F_SSL_PORT.ext O.2) ⟨fun q => absurd q ne_SSL_PORT, fun q => nomatch q⟩
set_option maxRecDepth 65536 in
set_option maxHeartbeats 40000000 in
theorem comes_1 {Post : Tables → Env → Array Value → State → Outcome → State → Prop} (hpost : ∀ tb e args s v u, (limb_1_1.after args s (.returned v) u = true ∧ limb_1_2.after args s (.returned v) u = true ∧ True) → FrameEnd s (.returned v) u (Jvm.fieldLocs frame_1_writes args s ++ Jvm.arrayLocs frame_1_arrays args s ++ Jvm.staticLocs frame_1_statics s) 16 128 → Post tb e args s (.returned v) u) :
    ArmFor flags0 classFile x code maxLocals ret World_1 tables_1 room_1 Calls_1 rest_1 Pre_1 Post := by
  intro l hfl _ _ p e ha hc hk s m args below hf hA hF happ hP
  obtain ⟨hcalls, hrest, hpre⟩ := hP
  obtain ⟨-, -, -, hnamed, -, -, -, hat⟩ := (Spec.applies_iff hf).mp happ
  obtain ⟨hg, hn⟩ := and_e (Cond.before_iff.mp (show (Jvm.Cond.and given_1 narrow_1).before args s = true from hpre))
  obtain ⟨ga1, gb1⟩ := and_e hg
  obtain ⟨ga2, gb2⟩ := and_e hn
  obtain ⟨ga3, gb3⟩ := and_e gb2
  obtain ⟨ga4, gb4⟩ := and_e gb3
  obtain ⟨ga5, gb5⟩ := and_e gb4
  obtain ⟨ga6, gb6⟩ := and_e gb5
  obtain ⟨ga7, gb7⟩ := and_e gb6
  obtain ⟨ga8, gb8⟩ := and_e gb7
  obtain ⟨ga9, gb9⟩ := and_e gb8
  obtain ⟨ga10, gb10⟩ := and_e gb9
  obtain ⟨ga11, gb11⟩ := and_e gb10
  obtain ⟨ga12, gb12⟩ := and_e gb11
  obtain ⟨ga13, gb13⟩ := and_e gb12
  obtain ⟨ga14, gb14⟩ := and_e gb13
  obtain ⟨ga15, gb15⟩ := and_e gb14
  obtain ⟨ga16, gb16⟩ := and_e gb15
  obtain ⟨ga17, gb17⟩ := and_e gb16
  obtain ⟨ga18, gb18⟩ := and_e gb17
  obtain ⟨ga19, gb19⟩ := and_e gb18
  obtain ⟨ga20, gb20⟩ := and_e gb19
  obtain ⟨ga21, gb21⟩ := and_e gb20
  obtain ⟨ga22, gb22⟩ := and_e gb21
  obtain ⟨ga23, gb23⟩ := and_e gb22
  obtain ⟨ga24, gb24⟩ := and_e gb23
  obtain ⟨ga25, gb25⟩ := and_e gb24
  obtain ⟨ga26, gb26⟩ := and_e gb25
  obtain ⟨ga27, gb27⟩ := and_e gb26
  obtain ⟨ga28, gb28⟩ := and_e gb27
  obtain ⟨ga29, gb29⟩ := and_e gb28
  obtain ⟨ga30, gb30⟩ := and_e gb29
  obtain ⟨ga31, gb31⟩ := and_e gb30
  obtain ⟨ga32, gb32⟩ := and_e gb31
  obtain ⟨ga33, gb33⟩ := and_e gb32
  obtain ⟨w0, rfl⟩ : ∃ w0 : Value, args = #[w0] := by
    have hs : args.size = 1 := by simpa [Cond.value, given_1] using ga1
    obtain ⟨L⟩ := args
    match L, hs with
    | [w0], _ => exact ⟨w0, rfl⟩
  have hw := fun d (hd : d ∈ tables_1) => atoms_spec (ws := Jvm.Cond.code x code maxLocals ret :: tables_1) hat d (List.mem_cons_of_mem _ hd)
  have hfit : Fit s := fun {y c} hc i hi => by
    obtain ⟨ha, rfl⟩ := Array.getElem?_eq_some_iff.mp hc
    have q := List.all_eq_true.mp ((Array.all_eq_true_iff_forall_mem.mp hF) _ (Array.getElem_mem ha)) i (List.mem_range.mpr hi)
    simpa [Array.getElem?_eq_getElem hi] using q
  obtain ⟨i0, ei0⟩ := is_v gb1
  obtain rfl : w0 = (.int i0) := Option.some.inj ei0
  obtain ⟨ga51, gb51⟩ := and_e hn
  obtain ⟨ga52, gb52⟩ := and_e gb51
  obtain ⟨ga53, gb53⟩ := and_e gb52
  obtain ⟨ga54, gb54⟩ := and_e gb53
  obtain ⟨ga55, gb55⟩ := and_e gb54
  obtain ⟨ga56, gb56⟩ := and_e gb55
  obtain ⟨ga57, gb57⟩ := and_e gb56
  obtain ⟨ga58, gb58⟩ := and_e gb57
  obtain ⟨ga59, gb59⟩ := and_e gb58
  obtain ⟨ga60, gb60⟩ := and_e gb59
  obtain ⟨ga61, gb61⟩ := and_e gb60
  obtain ⟨ga62, gb62⟩ := and_e gb61
  obtain ⟨ga63, gb63⟩ := and_e gb62
  obtain ⟨ga64, gb64⟩ := and_e gb63
  obtain ⟨ga65, gb65⟩ := and_e gb64
  obtain ⟨ga66, gb66⟩ := and_e gb65
  obtain ⟨ga67, gb67⟩ := and_e gb66
  obtain ⟨ga68, gb68⟩ := and_e gb67
  obtain ⟨ga69, gb69⟩ := and_e gb68
  obtain ⟨ga70, gb70⟩ := and_e gb69
  obtain ⟨ga71, gb71⟩ := and_e gb70
  obtain ⟨ga72, gb72⟩ := and_e gb71
  obtain ⟨ga73, gb73⟩ := and_e gb72
  obtain ⟨ga74, gb74⟩ := and_e gb73
  obtain ⟨ga75, gb75⟩ := and_e gb74
  obtain ⟨ga76, gb76⟩ := and_e gb75
  obtain ⟨ga77, gb77⟩ := and_e gb76
  obtain ⟨ga78, gb78⟩ := and_e gb77
  obtain ⟨ga79, gb79⟩ := and_e gb78
  obtain ⟨ga80, gb80⟩ := and_e gb79
  obtain ⟨ga81, gb81⟩ := and_e gb80
  obtain ⟨ga82, gb82⟩ := and_e gb81
  obtain ⟨a_CONTACT_POINTS, ev_CONTACT_POINTS⟩ := exa_v ga2
  have S_CONTACT_POINTS : Sta s s.heap "com/example/kharon/kharon/Setting" "CONTACT_POINTS" "Lcom/example/kharon/kharon/Setting;" (.ref a_CONTACT_POINTS) := Sta.start ev_CONTACT_POINTS (Or.inr ⟨(hw _ (List.mem_of_getElem? (i := 3) rfl)), (hw _ (List.mem_of_getElem? (i := 4) rfl))⟩)
  have E_CONTACT_POINTS : Exa s s.heap a_CONTACT_POINTS "com/example/kharon/kharon/Setting" := Exa.start ev_CONTACT_POINTS ga2
  obtain ⟨a_CASSANDRA_PORT, ev_CASSANDRA_PORT⟩ := exa_v ga3
  have S_CASSANDRA_PORT : Sta s s.heap "com/example/kharon/kharon/Setting" "CASSANDRA_PORT" "Lcom/example/kharon/kharon/Setting;" (.ref a_CASSANDRA_PORT) := Sta.start ev_CASSANDRA_PORT (Or.inr ⟨(hw _ (List.mem_of_getElem? (i := 3) rfl)), (hw _ (List.mem_of_getElem? (i := 7) rfl))⟩)
  have E_CASSANDRA_PORT : Exa s s.heap a_CASSANDRA_PORT "com/example/kharon/kharon/Setting" := Exa.start ev_CASSANDRA_PORT ga3
  obtain ⟨a_KEYSPACE, ev_KEYSPACE⟩ := exa_v ga4
  have S_KEYSPACE : Sta s s.heap "com/example/kharon/kharon/Setting" "KEYSPACE" "Lcom/example/kharon/kharon/Setting;" (.ref a_KEYSPACE) := Sta.start ev_KEYSPACE (Or.inr ⟨(hw _ (List.mem_of_getElem? (i := 3) rfl)), (hw _ (List.mem_of_getElem? (i := 9) rfl))⟩)
  have E_KEYSPACE : Exa s s.heap a_KEYSPACE "com/example/kharon/kharon/Setting" := Exa.start ev_KEYSPACE ga4
  obtain ⟨a_CONSISTENCY_LEVEL, ev_CONSISTENCY_LEVEL⟩ := exa_v ga5
  have S_CONSISTENCY_LEVEL : Sta s s.heap "com/example/kharon/kharon/Setting" "CONSISTENCY_LEVEL" "Lcom/example/kharon/kharon/Setting;" (.ref a_CONSISTENCY_LEVEL) := Sta.start ev_CONSISTENCY_LEVEL (Or.inr ⟨(hw _ (List.mem_of_getElem? (i := 3) rfl)), (hw _ (List.mem_of_getElem? (i := 11) rfl))⟩)
  have E_CONSISTENCY_LEVEL : Exa s s.heap a_CONSISTENCY_LEVEL "com/example/kharon/kharon/Setting" := Exa.start ev_CONSISTENCY_LEVEL ga5
  obtain ⟨a_DATA_CENTER, ev_DATA_CENTER⟩ := exa_v ga6
  have S_DATA_CENTER : Sta s s.heap "com/example/kharon/kharon/Setting" "DATA_CENTER" "Lcom/example/kharon/kharon/Setting;" (.ref a_DATA_CENTER) := Sta.start ev_DATA_CENTER (Or.inr ⟨(hw _ (List.mem_of_getElem? (i := 3) rfl)), (hw _ (List.mem_of_getElem? (i := 13) rfl))⟩)
  have E_DATA_CENTER : Exa s s.heap a_DATA_CENTER "com/example/kharon/kharon/Setting" := Exa.start ev_DATA_CENTER ga6
  obtain ⟨a_CLUSTER_NAME, ev_CLUSTER_NAME⟩ := exa_v ga7
  have S_CLUSTER_NAME : Sta s s.heap "com/example/kharon/kharon/Setting" "CLUSTER_NAME" "Lcom/example/kharon/kharon/Setting;" (.ref a_CLUSTER_NAME) := Sta.start ev_CLUSTER_NAME (Or.inr ⟨(hw _ (List.mem_of_getElem? (i := 3) rfl)), (hw _ (List.mem_of_getElem? (i := 15) rfl))⟩)
  have E_CLUSTER_NAME : Exa s s.heap a_CLUSTER_NAME "com/example/kharon/kharon/Setting" := Exa.start ev_CLUSTER_NAME ga7
  obtain ⟨a_AUTH_PROVIDER, ev_AUTH_PROVIDER⟩ := exa_v ga8
  have S_AUTH_PROVIDER : Sta s s.heap "com/example/kharon/kharon/Setting" "AUTH_PROVIDER" "Lcom/example/kharon/kharon/Setting;" (.ref a_AUTH_PROVIDER) := Sta.start ev_AUTH_PROVIDER (Or.inr ⟨(hw _ (List.mem_of_getElem? (i := 3) rfl)), (hw _ (List.mem_of_getElem? (i := 17) rfl))⟩)
  have E_AUTH_PROVIDER : Exa s s.heap a_AUTH_PROVIDER "com/example/kharon/kharon/Setting" := Exa.start ev_AUTH_PROVIDER ga8
  obtain ⟨a_USERNAME, ev_USERNAME⟩ := exa_v ga9
  have S_USERNAME : Sta s s.heap "com/example/kharon/kharon/Setting" "USERNAME" "Lcom/example/kharon/kharon/Setting;" (.ref a_USERNAME) := Sta.start ev_USERNAME (Or.inr ⟨(hw _ (List.mem_of_getElem? (i := 3) rfl)), (hw _ (List.mem_of_getElem? (i := 19) rfl))⟩)
  have E_USERNAME : Exa s s.heap a_USERNAME "com/example/kharon/kharon/Setting" := Exa.start ev_USERNAME ga9
  obtain ⟨a_PASSWORD, ev_PASSWORD⟩ := exa_v ga10
  have S_PASSWORD : Sta s s.heap "com/example/kharon/kharon/Setting" "PASSWORD" "Lcom/example/kharon/kharon/Setting;" (.ref a_PASSWORD) := Sta.start ev_PASSWORD (Or.inr ⟨(hw _ (List.mem_of_getElem? (i := 3) rfl)), (hw _ (List.mem_of_getElem? (i := 21) rfl))⟩)
  have E_PASSWORD : Exa s s.heap a_PASSWORD "com/example/kharon/kharon/Setting" := Exa.start ev_PASSWORD ga10
  obtain ⟨a_USE_SSL, ev_USE_SSL⟩ := exa_v ga11
  have S_USE_SSL : Sta s s.heap "com/example/kharon/kharon/Setting" "USE_SSL" "Lcom/example/kharon/kharon/Setting;" (.ref a_USE_SSL) := Sta.start ev_USE_SSL (Or.inr ⟨(hw _ (List.mem_of_getElem? (i := 3) rfl)), (hw _ (List.mem_of_getElem? (i := 23) rfl))⟩)
  have E_USE_SSL : Exa s s.heap a_USE_SSL "com/example/kharon/kharon/Setting" := Exa.start ev_USE_SSL ga11
  obtain ⟨a_SSL_PORT, ev_SSL_PORT⟩ := exa_v ga12
  have S_SSL_PORT : Sta s s.heap "com/example/kharon/kharon/Setting" "SSL_PORT" "Lcom/example/kharon/kharon/Setting;" (.ref a_SSL_PORT) := Sta.start ev_SSL_PORT (Or.inr ⟨(hw _ (List.mem_of_getElem? (i := 3) rfl)), (hw _ (List.mem_of_getElem? (i := 25) rfl))⟩)
  have E_SSL_PORT : Exa s s.heap a_SSL_PORT "com/example/kharon/kharon/Setting" := Exa.start ev_SSL_PORT ga12
  obtain ⟨a_CONTACT_POINTS, ev_CONTACT_POINTS⟩ := exa_v ga51
  have S_CONTACT_POINTS : Sta s s.heap "com/example/kharon/kharon/Setting" "CONTACT_POINTS" "Lcom/example/kharon/kharon/Setting;" (.ref a_CONTACT_POINTS) := Sta.start ev_CONTACT_POINTS (Or.inr ⟨(hw _ (List.mem_of_getElem? (i := 3) rfl)), (hw _ (List.mem_of_getElem? (i := 4) rfl))⟩)
  have E_CONTACT_POINTS : Exa s s.heap a_CONTACT_POINTS "com/example/kharon/kharon/Setting" := Exa.start ev_CONTACT_POINTS ga51
  obtain ⟨a_CASSANDRA_PORT, ev_CASSANDRA_PORT⟩ := exa_v ga52
  have S_CASSANDRA_PORT : Sta s s.heap "com/example/kharon/kharon/Setting" "CASSANDRA_PORT" "Lcom/example/kharon/kharon/Setting;" (.ref a_CASSANDRA_PORT) := Sta.start ev_CASSANDRA_PORT (Or.inr ⟨(hw _ (List.mem_of_getElem? (i := 3) rfl)), (hw _ (List.mem_of_getElem? (i := 7) rfl))⟩)
  have E_CASSANDRA_PORT : Exa s s.heap a_CASSANDRA_PORT "com/example/kharon/kharon/Setting" := Exa.start ev_CASSANDRA_PORT ga52
  obtain ⟨a_KEYSPACE, ev_KEYSPACE⟩ := exa_v ga53
  have S_KEYSPACE : Sta s s.heap "com/example/kharon/kharon/Setting" "KEYSPACE" "Lcom/example/kharon/kharon/Setting;" (.ref a_KEYSPACE) := Sta.start ev_KEYSPACE (Or.inr ⟨(hw _ (List.mem_of_getElem? (i := 3) rfl)), (hw _ (List.mem_of_getElem? (i := 9) rfl))⟩)
  have E_KEYSPACE : Exa s s.heap a_KEYSPACE "com/example/kharon/kharon/Setting" := Exa.start ev_KEYSPACE ga53
  obtain ⟨a_CONSISTENCY_LEVEL, ev_CONSISTENCY_LEVEL⟩ := exa_v ga54
  have S_CONSISTENCY_LEVEL : Sta s s.heap "com/example/kharon/kharon/Setting" "CONSISTENCY_LEVEL" "Lcom/example/kharon/kharon/Setting;" (.ref a_CONSISTENCY_LEVEL) := Sta.start ev_CONSISTENCY_LEVEL (Or.inr ⟨(hw _ (List.mem_of_getElem? (i := 3) rfl)), (hw _ (List.mem_of_getElem? (i := 11) rfl))⟩)
  have E_CONSISTENCY_LEVEL : Exa s s.heap a_CONSISTENCY_LEVEL "com/example/kharon/kharon/Setting" := Exa.start ev_CONSISTENCY_LEVEL ga54
  obtain ⟨a_DATA_CENTER, ev_DATA_CENTER⟩ := exa_v ga55
  have S_DATA_CENTER : Sta s s.heap "com/example/kharon/kharon/Setting" "DATA_CENTER" "Lcom/example/kharon/kharon/Setting;" (.ref a_DATA_CENTER) := Sta.start ev_DATA_CENTER (Or.inr ⟨(hw _ (List.mem_of_getElem? (i := 3) rfl)), (hw _ (List.mem_of_getElem? (i := 13) rfl))⟩)
  have E_DATA_CENTER : Exa s s.heap a_DATA_CENTER "com/example/kharon/kharon/Setting" := Exa.start ev_DATA_CENTER ga55
  obtain ⟨a_CLUSTER_NAME, ev_CLUSTER_NAME⟩ := exa_v ga56
  have S_CLUSTER_NAME : Sta s s.heap "com/example/kharon/kharon/Setting" "CLUSTER_NAME" "Lcom/example/kharon/kharon/Setting;" (.ref a_CLUSTER_NAME) := Sta.start ev_CLUSTER_NAME (Or.inr ⟨(hw _ (List.mem_of_getElem? (i := 3) rfl)), (hw _ (List.mem_of_getElem? (i := 15) rfl))⟩)
  have E_CLUSTER_NAME : Exa s s.heap a_CLUSTER_NAME "com/example/kharon/kharon/Setting" := Exa.start ev_CLUSTER_NAME ga56
  obtain ⟨a_AUTH_PROVIDER, ev_AUTH_PROVIDER⟩ := exa_v ga57
  have S_AUTH_PROVIDER : Sta s s.heap "com/example/kharon/kharon/Setting" "AUTH_PROVIDER" "Lcom/example/kharon/kharon/Setting;" (.ref a_AUTH_PROVIDER) := Sta.start ev_AUTH_PROVIDER (Or.inr ⟨(hw _ (List.mem_of_getElem? (i := 3) rfl)), (hw _ (List.mem_of_getElem? (i := 17) rfl))⟩)
  have E_AUTH_PROVIDER : Exa s s.heap a_AUTH_PROVIDER "com/example/kharon/kharon/Setting" := Exa.start ev_AUTH_PROVIDER ga57
  obtain ⟨a_USERNAME, ev_USERNAME⟩ := exa_v ga58
  have S_USERNAME : Sta s s.heap "com/example/kharon/kharon/Setting" "USERNAME" "Lcom/example/kharon/kharon/Setting;" (.ref a_USERNAME) := Sta.start ev_USERNAME (Or.inr ⟨(hw _ (List.mem_of_getElem? (i := 3) rfl)), (hw _ (List.mem_of_getElem? (i := 19) rfl))⟩)
  have E_USERNAME : Exa s s.heap a_USERNAME "com/example/kharon/kharon/Setting" := Exa.start ev_USERNAME ga58
  obtain ⟨a_PASSWORD, ev_PASSWORD⟩ := exa_v ga59
  have S_PASSWORD : Sta s s.heap "com/example/kharon/kharon/Setting" "PASSWORD" "Lcom/example/kharon/kharon/Setting;" (.ref a_PASSWORD) := Sta.start ev_PASSWORD (Or.inr ⟨(hw _ (List.mem_of_getElem? (i := 3) rfl)), (hw _ (List.mem_of_getElem? (i := 21) rfl))⟩)
  have E_PASSWORD : Exa s s.heap a_PASSWORD "com/example/kharon/kharon/Setting" := Exa.start ev_PASSWORD ga59
  obtain ⟨a_USE_SSL, ev_USE_SSL⟩ := exa_v ga60
  have S_USE_SSL : Sta s s.heap "com/example/kharon/kharon/Setting" "USE_SSL" "Lcom/example/kharon/kharon/Setting;" (.ref a_USE_SSL) := Sta.start ev_USE_SSL (Or.inr ⟨(hw _ (List.mem_of_getElem? (i := 3) rfl)), (hw _ (List.mem_of_getElem? (i := 23) rfl))⟩)
  have E_USE_SSL : Exa s s.heap a_USE_SSL "com/example/kharon/kharon/Setting" := Exa.start ev_USE_SSL ga60
  obtain ⟨a_SSL_PORT, ev_SSL_PORT⟩ := exa_v ga61
  have S_SSL_PORT : Sta s s.heap "com/example/kharon/kharon/Setting" "SSL_PORT" "Lcom/example/kharon/kharon/Setting;" (.ref a_SSL_PORT) := Sta.start ev_SSL_PORT (Or.inr ⟨(hw _ (List.mem_of_getElem? (i := 3) rfl)), (hw _ (List.mem_of_getElem? (i := 25) rfl))⟩)
  have E_SSL_PORT : Exa s s.heap a_SSL_PORT "com/example/kharon/kharon/Setting" := Exa.start ev_SSL_PORT ga61
  obtain ⟨r_CONTACT_POINTS, el_CONTACT_POINTS⟩ := exa_v ga13
  have F_CONTACT_POINTS : Fld s s.heap a_CONTACT_POINTS "com/example/kharon/kharon/Setting" "label" "Ljava/lang/String;" (.ref r_CONTACT_POINTS) := own_fldV ev_CONTACT_POINTS el_CONTACT_POINTS
  have O_CONTACT_POINTS : Fld s s.heap a_CONTACT_POINTS "java/lang/Enum" "ordinal" "I" (.int (0 : Int32)) := own_fldI ev_CONTACT_POINTS ga14
  have O_PASSWORD : Fld s s.heap a_PASSWORD "java/lang/Enum" "ordinal" "I" (.int (8 : Int32)) := own_fldI ev_PASSWORD ga15
  obtain ⟨r_CONSISTENCY_LEVEL, el_CONSISTENCY_LEVEL⟩ := exa_v ga16
  have F_CONSISTENCY_LEVEL : Fld s s.heap a_CONSISTENCY_LEVEL "com/example/kharon/kharon/Setting" "label" "Ljava/lang/String;" (.ref r_CONSISTENCY_LEVEL) := own_fldV ev_CONSISTENCY_LEVEL el_CONSISTENCY_LEVEL
  have O_CONSISTENCY_LEVEL : Fld s s.heap a_CONSISTENCY_LEVEL "java/lang/Enum" "ordinal" "I" (.int (3 : Int32)) := own_fldI ev_CONSISTENCY_LEVEL ga17
  obtain ⟨r_USERNAME, el_USERNAME⟩ := exa_v ga18
  have F_USERNAME : Fld s s.heap a_USERNAME "com/example/kharon/kharon/Setting" "label" "Ljava/lang/String;" (.ref r_USERNAME) := own_fldV ev_USERNAME el_USERNAME
  have O_USERNAME : Fld s s.heap a_USERNAME "java/lang/Enum" "ordinal" "I" (.int (7 : Int32)) := own_fldI ev_USERNAME ga19
  have F_PASSWORD : Fld s s.heap a_PASSWORD "com/example/kharon/kharon/Setting" "label" "Ljava/lang/String;" .null := own_fldV ev_PASSWORD (null_v ga20)
  have O_KEYSPACE : Fld s s.heap a_KEYSPACE "java/lang/Enum" "ordinal" "I" (.int (2 : Int32)) := own_fldI ev_KEYSPACE ga22
  obtain ⟨r_SSL_PORT, el_SSL_PORT⟩ := exa_v ga23
  have F_SSL_PORT : Fld s s.heap a_SSL_PORT "com/example/kharon/kharon/Setting" "label" "Ljava/lang/String;" (.ref r_SSL_PORT) := own_fldV ev_SSL_PORT el_SSL_PORT
  have O_SSL_PORT : Fld s s.heap a_SSL_PORT "java/lang/Enum" "ordinal" "I" (.int (10 : Int32)) := own_fldI ev_SSL_PORT ga24
  have O_CASSANDRA_PORT : Fld s s.heap a_CASSANDRA_PORT "java/lang/Enum" "ordinal" "I" (.int (1 : Int32)) := own_fldI ev_CASSANDRA_PORT ga26
  obtain ⟨r_USE_SSL, el_USE_SSL⟩ := exa_v ga27
  have F_USE_SSL : Fld s s.heap a_USE_SSL "com/example/kharon/kharon/Setting" "label" "Ljava/lang/String;" (.ref r_USE_SSL) := own_fldV ev_USE_SSL el_USE_SSL
  have O_USE_SSL : Fld s s.heap a_USE_SSL "java/lang/Enum" "ordinal" "I" (.int (9 : Int32)) := own_fldI ev_USE_SSL ga28
  have O_CLUSTER_NAME : Fld s s.heap a_CLUSTER_NAME "java/lang/Enum" "ordinal" "I" (.int (5 : Int32)) := own_fldI ev_CLUSTER_NAME ga30
  have O_AUTH_PROVIDER : Fld s s.heap a_AUTH_PROVIDER "java/lang/Enum" "ordinal" "I" (.int (6 : Int32)) := own_fldI ev_AUTH_PROVIDER ga32
  have O_DATA_CENTER : Fld s s.heap a_DATA_CENTER "java/lang/Enum" "ordinal" "I" (.int (4 : Int32)) := own_fldI ev_DATA_CENTER gb33
  obtain ⟨r_CONTACT_POINTS, el_CONTACT_POINTS⟩ := exa_v ga62
  have F_CONTACT_POINTS : Fld s s.heap a_CONTACT_POINTS "com/example/kharon/kharon/Setting" "label" "Ljava/lang/String;" (.ref r_CONTACT_POINTS) := own_fldV ev_CONTACT_POINTS el_CONTACT_POINTS
  have O_CONTACT_POINTS : Fld s s.heap a_CONTACT_POINTS "java/lang/Enum" "ordinal" "I" (.int (0 : Int32)) := own_fldI ev_CONTACT_POINTS ga63
  have O_PASSWORD : Fld s s.heap a_PASSWORD "java/lang/Enum" "ordinal" "I" (.int (8 : Int32)) := own_fldI ev_PASSWORD ga64
  obtain ⟨r_CONSISTENCY_LEVEL, el_CONSISTENCY_LEVEL⟩ := exa_v ga65
  have F_CONSISTENCY_LEVEL : Fld s s.heap a_CONSISTENCY_LEVEL "com/example/kharon/kharon/Setting" "label" "Ljava/lang/String;" (.ref r_CONSISTENCY_LEVEL) := own_fldV ev_CONSISTENCY_LEVEL el_CONSISTENCY_LEVEL
  have O_CONSISTENCY_LEVEL : Fld s s.heap a_CONSISTENCY_LEVEL "java/lang/Enum" "ordinal" "I" (.int (3 : Int32)) := own_fldI ev_CONSISTENCY_LEVEL ga66
  obtain ⟨r_USERNAME, el_USERNAME⟩ := exa_v ga67
  have F_USERNAME : Fld s s.heap a_USERNAME "com/example/kharon/kharon/Setting" "label" "Ljava/lang/String;" (.ref r_USERNAME) := own_fldV ev_USERNAME el_USERNAME
  have O_USERNAME : Fld s s.heap a_USERNAME "java/lang/Enum" "ordinal" "I" (.int (7 : Int32)) := own_fldI ev_USERNAME ga68
  have F_PASSWORD : Fld s s.heap a_PASSWORD "com/example/kharon/kharon/Setting" "label" "Ljava/lang/String;" .null := own_fldV ev_PASSWORD (null_v ga69)
  have O_KEYSPACE : Fld s s.heap a_KEYSPACE "java/lang/Enum" "ordinal" "I" (.int (2 : Int32)) := own_fldI ev_KEYSPACE ga71
  obtain ⟨r_SSL_PORT, el_SSL_PORT⟩ := exa_v ga72
  have F_SSL_PORT : Fld s s.heap a_SSL_PORT "com/example/kharon/kharon/Setting" "label" "Ljava/lang/String;" (.ref r_SSL_PORT) := own_fldV ev_SSL_PORT el_SSL_PORT
  have O_SSL_PORT : Fld s s.heap a_SSL_PORT "java/lang/Enum" "ordinal" "I" (.int (10 : Int32)) := own_fldI ev_SSL_PORT ga73
  have O_CASSANDRA_PORT : Fld s s.heap a_CASSANDRA_PORT "java/lang/Enum" "ordinal" "I" (.int (1 : Int32)) := own_fldI ev_CASSANDRA_PORT ga75
  obtain ⟨r_USE_SSL, el_USE_SSL⟩ := exa_v ga76
  have F_USE_SSL : Fld s s.heap a_USE_SSL "com/example/kharon/kharon/Setting" "label" "Ljava/lang/String;" (.ref r_USE_SSL) := own_fldV ev_USE_SSL el_USE_SSL
  have O_USE_SSL : Fld s s.heap a_USE_SSL "java/lang/Enum" "ordinal" "I" (.int (9 : Int32)) := own_fldI ev_USE_SSL ga77
  have O_CLUSTER_NAME : Fld s s.heap a_CLUSTER_NAME "java/lang/Enum" "ordinal" "I" (.int (5 : Int32)) := own_fldI ev_CLUSTER_NAME ga79
  have O_AUTH_PROVIDER : Fld s s.heap a_AUTH_PROVIDER "java/lang/Enum" "ordinal" "I" (.int (6 : Int32)) := own_fldI ev_AUTH_PROVIDER ga81
  have O_DATA_CENTER : Fld s s.heap a_DATA_CENTER "java/lang/Enum" "ordinal" "I" (.int (4 : Int32)) := own_fldI ev_DATA_CENTER gb82
  have F_KEYSPACE : Fld s s.heap a_KEYSPACE "com/example/kharon/kharon/Setting" "label" "Ljava/lang/String;" (.ref r_USERNAME) := own_fldV ev_KEYSPACE (own_eqR el_USERNAME ga21)
  have F_CASSANDRA_PORT : Fld s s.heap a_CASSANDRA_PORT "com/example/kharon/kharon/Setting" "label" "Ljava/lang/String;" (.ref r_SSL_PORT) := own_fldV ev_CASSANDRA_PORT (own_eqR el_SSL_PORT ga25)
  have F_CLUSTER_NAME : Fld s s.heap a_CLUSTER_NAME "com/example/kharon/kharon/Setting" "label" "Ljava/lang/String;" (.ref r_USERNAME) := own_fldV ev_CLUSTER_NAME (own_eqR el_USERNAME ga29)
  have F_AUTH_PROVIDER : Fld s s.heap a_AUTH_PROVIDER "com/example/kharon/kharon/Setting" "label" "Ljava/lang/String;" (.ref r_USERNAME) := own_fldV ev_AUTH_PROVIDER (own_eqR el_USERNAME ga31)
  have F_DATA_CENTER : Fld s s.heap a_DATA_CENTER "com/example/kharon/kharon/Setting" "label" "Ljava/lang/String;" (.ref r_USERNAME) := own_fldV ev_DATA_CENTER (own_eqR el_USERNAME ga33)
  have F_KEYSPACE : Fld s s.heap a_KEYSPACE "com/example/kharon/kharon/Setting" "label" "Ljava/lang/String;" (.ref r_USERNAME) := own_fldV ev_KEYSPACE (own_eqR el_USERNAME ga70)
  have F_CASSANDRA_PORT : Fld s s.heap a_CASSANDRA_PORT "com/example/kharon/kharon/Setting" "label" "Ljava/lang/String;" (.ref r_SSL_PORT) := own_fldV ev_CASSANDRA_PORT (own_eqR el_SSL_PORT ga74)
  have F_CLUSTER_NAME : Fld s s.heap a_CLUSTER_NAME "com/example/kharon/kharon/Setting" "label" "Ljava/lang/String;" (.ref r_USERNAME) := own_fldV ev_CLUSTER_NAME (own_eqR el_USERNAME ga78)
  have F_AUTH_PROVIDER : Fld s s.heap a_AUTH_PROVIDER "com/example/kharon/kharon/Setting" "label" "Ljava/lang/String;" (.ref r_USERNAME) := own_fldV ev_AUTH_PROVIDER (own_eqR el_USERNAME ga80)
  have F_DATA_CENTER : Fld s s.heap a_DATA_CENTER "com/example/kharon/kharon/Setting" "label" "Ljava/lang/String;" (.ref r_USERNAME) := own_fldV ev_DATA_CENTER (own_eqR el_USERNAME ga82)
  have hA : All s := ⟨a_PASSWORD, S_PASSWORD, E_PASSWORD, F_PASSWORD, ⟨a_CONTACT_POINTS, r_CONTACT_POINTS, S_CONTACT_POINTS, E_CONTACT_POINTS, F_CONTACT_POINTS, O_CONTACT_POINTS.ne O_PASSWORD (by decide)⟩, ⟨a_CASSANDRA_PORT, r_SSL_PORT, S_CASSANDRA_PORT, E_CASSANDRA_PORT, F_CASSANDRA_PORT, O_CASSANDRA_PORT.ne O_PASSWORD (by decide)⟩, ⟨a_KEYSPACE, r_USERNAME, S_KEYSPACE, E_KEYSPACE, F_KEYSPACE, O_KEYSPACE.ne O_PASSWORD (by decide)⟩, ⟨a_CONSISTENCY_LEVEL, r_CONSISTENCY_LEVEL, S_CONSISTENCY_LEVEL, E_CONSISTENCY_LEVEL, F_CONSISTENCY_LEVEL, O_CONSISTENCY_LEVEL.ne O_PASSWORD (by decide)⟩, ⟨a_DATA_CENTER, r_USERNAME, S_DATA_CENTER, E_DATA_CENTER, F_DATA_CENTER, O_DATA_CENTER.ne O_PASSWORD (by decide)⟩, ⟨a_CLUSTER_NAME, r_USERNAME, S_CLUSTER_NAME, E_CLUSTER_NAME, F_CLUSTER_NAME, O_CLUSTER_NAME.ne O_PASSWORD (by decide)⟩, ⟨a_AUTH_PROVIDER, r_USERNAME, S_AUTH_PROVIDER, E_AUTH_PROVIDER, F_AUTH_PROVIDER, O_AUTH_PROVIDER.ne O_PASSWORD (by decide)⟩, ⟨a_USERNAME, r_USERNAME, S_USERNAME, E_USERNAME, F_USERNAME, O_USERNAME.ne O_PASSWORD (by decide)⟩, ⟨a_USE_SSL, r_USE_SSL, S_USE_SSL, E_USE_SSL, F_USE_SSL, O_USE_SSL.ne O_PASSWORD (by decide)⟩, ⟨a_SSL_PORT, r_SSL_PORT, S_SSL_PORT, E_SSL_PORT, F_SSL_PORT, O_SSL_PORT.ne O_PASSWORD (by decide)⟩⟩
  obtain ⟨n, o, h1, h2, h3, _, L, rfl, ⟨rfl, N⟩, hq⟩ := rm_law l s _ hw tables_1 i0 s.heap s.heap.size (Nat.le_refl _) (Old.start s) hA p e ha hc hk s m _ below hf ((Spec.applies_iff_loose hf).mp happ).1 ⟨rfl, State.Warmed39.refl s, rfl⟩ trivial
  refine ⟨n, _, h1, h2, h3, hpost _ _ _ _ _ _ ⟨Cond.after_iff.mpr rfl, Cond.after_iff.mpr (eq_i res_at (Term.int_eval (1)) rfl), trivial⟩ ⟨hq.1, hq.2.1, (hq.2.2.sift fun y hy => Or.inr (N y hy)).mono (by decide) (by decide)⟩⟩
theorem main_1_1 : Claimed_1_1 := comes_1 fun _ _ _ _ _ _ h hF => ⟨h.1, hF⟩
theorem main_1_2 : Claimed_1_2 := comes_1 fun _ _ _ _ _ _ h hF => ⟨h.2.1, hF⟩
end Jvm.Pilot.@@N@@
namespace Jvm.Pilot.@@N@@
open Jvm Jvm.ClassFile Sem Op Lib Jvm.Free Jvm.Stand Jvm.Pilot.@@N@@.Jvm.D
/-! MADE BY PROGRAM (witnessworld.py) out of the Statement's table words and the real class files: 16 classes; the members and pool entries that the words name. The judged class is class 1, her method 1. -/
namespace start1
open Jvm.ClassFile
def u (s : String) : CpInfo := .utf8 (stringToUtf16 s)
/-- a pool by its gaps: so many unusable entries, then the entry; so many at the end -/
def gap : Nat → List CpInfo → List CpInfo
  | 0, r => r
  | n + 1, r => .unusable :: gap n r
def poolList (es : List (Nat × CpInfo)) (last : Nat) : List CpInfo := es.foldr (fun e r => gap e.1 (e.2 :: r)) (gap last [])
def pool (es : List (Nat × CpInfo)) (last : Nat) : Array CpInfo := ⟨poolList es last⟩
def fileOf (pool : Array CpInfo) (this : Nat) (attrs : Array Attribute := #[]) (ms : Array MethodInfo := #[]) (fl : Nat := 33) (sup : Nat := 0) (ifs : Array Nat := #[]) (fds : Array FieldInfo := #[]) : ClassFile where
  minorVersion := 0
  majorVersion := 65
  constantPool := pool
  accessFlags := fl
  thisClass := this
  superClass := sup
  interfaces := ifs
  fields := fds
  methods := ms
  attributes := attrs
def plain (name : String) (sup : Option ClassId) : Class where
  name := name
  kind := .ordinary
  loader := none
  accessFlags := 33
  super := sup
  interfaces := #[]
  cf := none
  fields := #[]
  methods := #[]
  instanceTypes := #[]
  staticTypes := #[]
  resolved := #[]
  callSites := []
  init := .initialized
  statics := none
  mirror := none

def pool0 : Array CpInfo := pool [(5, u "<init>"), (0, u "()V"), (1, .class_ 10), (1, u "java/lang/Object")] 113

def k0m0 : Method := { name := "<init>", desc := "()V", sig := { parameters := [], returnType := none }, accessFlags := 1, code := none }
/-- java/lang/Object -/
def k0 : Class := { plain "java/lang/Object" none with
  accessFlags := 33
  interfaces := #[]
  cf := some (fileOf pool0 8 #[] #[{ accessFlags := 1, nameIndex := 5, descriptorIndex := 6, attributes := #[] }] 33 0 #[] #[])
  fields := #[]
  methods := #[k0m0]
  instanceTypes := #[]
  staticTypes := #[]
  resolved := Array.replicate 124 none
  statics := none }

def pool1 : Array CpInfo := pool [(2, .class_ 4), (1, u "java/lang/Object"), (0, u "<init>"), (0, u "()V"), (0, .class_ 8), (0, u "com/example/kharon/kharon/Setting"), (0, .fieldref 7 10), (0, .nameAndType 11 12), (0, u "CONTACT_POINTS"), (0, u "Lcom/example/kharon/kharon/Setting;"), (0, .fieldref 7 14), (0, .nameAndType 15 12), (0, u "CASSANDRA_PORT"), (0, .fieldref 7 17), (0, .nameAndType 18 12), (0, u "KEYSPACE"), (0, .fieldref 7 20), (0, .nameAndType 21 12), (0, u "CONSISTENCY_LEVEL"), (0, .fieldref 7 23), (0, .nameAndType 24 12), (0, u "DATA_CENTER"), (0, .fieldref 7 26), (0, .nameAndType 27 12), (0, u "CLUSTER_NAME"), (0, .fieldref 7 29), (0, .nameAndType 30 12), (0, u "AUTH_PROVIDER"), (0, .fieldref 7 32), (0, .nameAndType 33 12), (0, u "USERNAME"), (0, .fieldref 7 35), (0, .nameAndType 36 12), (0, u "PASSWORD"), (0, .fieldref 7 38), (0, .nameAndType 39 12), (0, u "USE_SSL"), (0, .fieldref 7 41), (0, .nameAndType 42 12), (0, u "SSL_PORT"), (0, .integer 2147483647), (0, .methodref 7 45), (0, .nameAndType 46 47), (0, u "secret"), (0, u "()Z"), (0, .methodref 7 49), (0, .nameAndType 50 51), (0, u "label"), (0, u "()Ljava/lang/String;"), (0, .class_ 53), (0, u "com/example/kharon/kharon/SettingSecretPinLaw"), (2, u "law"), (0, u "(I)Z")] 5

def k1m0 : Method := { name := "<init>", desc := "()V", sig := { parameters := [], returnType := none }, accessFlags := 1, code := none }
def k1c1 : Code := { maxStack := 4, maxLocals := 6, code := code, exceptionTable := #[], attributes := #[] }
def k1m1 : Method := { name := "law", desc := "(I)Z", sig := { parameters := [.int], returnType := some .boolean }, accessFlags := 9, code := some k1c1 }
/-- com/example/kharon/kharon/SettingSecretPinLaw -/
def k1 : Class := { plain "com/example/kharon/kharon/SettingSecretPinLaw" (some 0) with
  accessFlags := 49
  interfaces := #[]
  cf := some (fileOf pool1 52 #[] #[{ accessFlags := 1, nameIndex := 5, descriptorIndex := 6, attributes := #[] }, { accessFlags := 9, nameIndex := 56, descriptorIndex := 57, attributes := #[] }] 49 2 #[] #[])
  fields := #[]
  methods := #[k1m0, k1m1]
  instanceTypes := #[]
  staticTypes := #[]
  resolved := Array.replicate 63 none
  statics := none }

def pool2 : Array CpInfo := pool [(1, .class_ 2), (0, u "java/lang/constant/Constable"), (0, .class_ 4), (0, u "java/lang/Object")] 6

/-- java/lang/constant/Constable -/
def k2 : Class := { plain "java/lang/constant/Constable" (some 0) with
  accessFlags := 1537
  interfaces := #[]
  cf := some (fileOf pool2 1 #[] #[] 1537 3 #[] #[])
  fields := #[]
  methods := #[]
  instanceTypes := #[]
  staticTypes := #[]
  resolved := Array.replicate 11 none
  statics := none }

def pool3 : Array CpInfo := pool [(1, .class_ 2), (0, u "java/lang/Comparable"), (0, .class_ 4), (0, u "java/lang/Object")] 7

/-- java/lang/Comparable -/
def k3 : Class := { plain "java/lang/Comparable" (some 0) with
  accessFlags := 1537
  interfaces := #[]
  cf := some (fileOf pool3 1 #[] #[] 1537 3 #[] #[])
  fields := #[]
  methods := #[]
  instanceTypes := #[]
  staticTypes := #[]
  resolved := Array.replicate 12 none
  statics := none }

def pool4 : Array CpInfo := pool [(1, .class_ 2), (0, u "java/io/Serializable"), (0, .class_ 4), (0, u "java/lang/Object")] 2

/-- java/io/Serializable -/
def k4 : Class := { plain "java/io/Serializable" (some 0) with
  accessFlags := 1537
  interfaces := #[]
  cf := some (fileOf pool4 1 #[] #[] 1537 3 #[] #[])
  fields := #[]
  methods := #[]
  instanceTypes := #[]
  staticTypes := #[]
  resolved := Array.replicate 7 none
  statics := none }

def pool5 : Array CpInfo := pool [(2, .class_ 4), (1, u "java/lang/Enum"), (0, u "name"), (0, u "Ljava/lang/String;"), (2, u "ordinal"), (0, u "I"), (1, .class_ 14), (1, u "java/lang/Object"), (4, u "hash"), (86, .class_ 108), (1, u "java/lang/Enum$EnumDesc"), (2, .class_ 112), (0, u "java/lang/constant/Constable"), (0, .class_ 114), (0, u "java/lang/Comparable"), (0, .class_ 116), (0, u "java/io/Serializable")] 87

/-- java/lang/Enum -/
def k5 : Class := { plain "java/lang/Enum" (some 0) with
  accessFlags := 1057
  interfaces := #[2, 3, 4]
  cf := some (fileOf pool5 2 #[.nestMembers #[106]] #[] 1057 12 #[111, 113, 115] #[{ accessFlags := 18, nameIndex := 5, descriptorIndex := 6, attributes := #[] }, { accessFlags := 18, nameIndex := 9, descriptorIndex := 10, attributes := #[] }, { accessFlags := 2, nameIndex := 19, descriptorIndex := 10, attributes := #[] }])
  fields := #[{ name := "name", type := (.object "java/lang/String"), accessFlags := 18, slot := 0, constantValue := 0 }, { name := "ordinal", type := .int, accessFlags := 18, slot := 1, constantValue := 0 }, { name := "hash", type := .int, accessFlags := 2, slot := 2, constantValue := 0 }]
  methods := #[]
  instanceTypes := #[(.object "java/lang/String"), .int, .int]
  staticTypes := #[]
  resolved := Array.replicate 204 none
  statics := none }

def pool6 : Array CpInfo := pool [(1, .class_ 2), (0, u "com/example/kharon/kharon/Setting"), (2, u "CONTACT_POINTS"), (0, u "Lcom/example/kharon/kharon/Setting;"), (2, u "CASSANDRA_PORT"), (2, u "KEYSPACE"), (2, u "CONSISTENCY_LEVEL"), (2, u "DATA_CENTER"), (2, u "CLUSTER_NAME"), (2, u "AUTH_PROVIDER"), (2, u "USERNAME"), (2, u "PASSWORD"), (2, u "USE_SSL"), (2, u "SSL_PORT"), (2, u "$VALUES"), (0, u "[Lcom/example/kharon/kharon/Setting;"), (6, .class_ 49), (1, u "java/lang/Enum"), (6, .fieldref 1 57), (0, .nameAndType 58 59), (0, u "label"), (0, u "Ljava/lang/String;"), (2, u "fallback"), (2, u "description"), (3, u "()Ljava/lang/String;"), (93, u "secret"), (0, u "()Z")] 21

def k6c0 : Code := { maxStack := 1, maxLocals := 1, code := prog_3_method_6_code, exceptionTable := #[], attributes := #[] }
def k6m0 : Method := { name := "secret", desc := "()Z", sig := { parameters := [], returnType := some .boolean }, accessFlags := 0, code := some k6c0 }
def k6c1 : Code := { maxStack := 1, maxLocals := 1, code := prog_3_method_7_code, exceptionTable := #[], attributes := #[] }
def k6m1 : Method := { name := "label", desc := "()Ljava/lang/String;", sig := { parameters := [], returnType := some (.object "java/lang/String") }, accessFlags := 0, code := some k6c1 }
/-- com/example/kharon/kharon/Setting -/
def k6 : Class := { plain "com/example/kharon/kharon/Setting" (some 5) with
  accessFlags := 16432
  interfaces := #[]
  cf := some (fileOf pool6 1 #[] #[{ accessFlags := 0, nameIndex := 163, descriptorIndex := 164, attributes := #[] }, { accessFlags := 0, nameIndex := 58, descriptorIndex := 69, attributes := #[] }] 16432 47 #[] #[{ accessFlags := 16409, nameIndex := 5, descriptorIndex := 6, attributes := #[] }, { accessFlags := 16409, nameIndex := 9, descriptorIndex := 6, attributes := #[] }, { accessFlags := 16409, nameIndex := 12, descriptorIndex := 6, attributes := #[] }, { accessFlags := 16409, nameIndex := 15, descriptorIndex := 6, attributes := #[] }, { accessFlags := 16409, nameIndex := 18, descriptorIndex := 6, attributes := #[] }, { accessFlags := 16409, nameIndex := 21, descriptorIndex := 6, attributes := #[] }, { accessFlags := 16409, nameIndex := 24, descriptorIndex := 6, attributes := #[] }, { accessFlags := 16409, nameIndex := 27, descriptorIndex := 6, attributes := #[] }, { accessFlags := 16409, nameIndex := 30, descriptorIndex := 6, attributes := #[] }, { accessFlags := 16409, nameIndex := 33, descriptorIndex := 6, attributes := #[] }, { accessFlags := 16409, nameIndex := 36, descriptorIndex := 6, attributes := #[] }, { accessFlags := 18, nameIndex := 58, descriptorIndex := 59, attributes := #[] }, { accessFlags := 18, nameIndex := 62, descriptorIndex := 59, attributes := #[] }, { accessFlags := 18, nameIndex := 65, descriptorIndex := 59, attributes := #[] }, { accessFlags := 4122, nameIndex := 39, descriptorIndex := 40, attributes := #[] }])
  fields := #[{ name := "CONTACT_POINTS", type := (.object "com/example/kharon/kharon/Setting"), accessFlags := 16409, slot := 0, constantValue := 0 }, { name := "CASSANDRA_PORT", type := (.object "com/example/kharon/kharon/Setting"), accessFlags := 16409, slot := 1, constantValue := 0 }, { name := "KEYSPACE", type := (.object "com/example/kharon/kharon/Setting"), accessFlags := 16409, slot := 2, constantValue := 0 }, { name := "CONSISTENCY_LEVEL", type := (.object "com/example/kharon/kharon/Setting"), accessFlags := 16409, slot := 3, constantValue := 0 }, { name := "DATA_CENTER", type := (.object "com/example/kharon/kharon/Setting"), accessFlags := 16409, slot := 4, constantValue := 0 }, { name := "CLUSTER_NAME", type := (.object "com/example/kharon/kharon/Setting"), accessFlags := 16409, slot := 5, constantValue := 0 }, { name := "AUTH_PROVIDER", type := (.object "com/example/kharon/kharon/Setting"), accessFlags := 16409, slot := 6, constantValue := 0 }, { name := "USERNAME", type := (.object "com/example/kharon/kharon/Setting"), accessFlags := 16409, slot := 7, constantValue := 0 }, { name := "PASSWORD", type := (.object "com/example/kharon/kharon/Setting"), accessFlags := 16409, slot := 8, constantValue := 0 }, { name := "USE_SSL", type := (.object "com/example/kharon/kharon/Setting"), accessFlags := 16409, slot := 9, constantValue := 0 }, { name := "SSL_PORT", type := (.object "com/example/kharon/kharon/Setting"), accessFlags := 16409, slot := 10, constantValue := 0 }, { name := "label", type := (.object "java/lang/String"), accessFlags := 18, slot := 3, constantValue := 0 }, { name := "fallback", type := (.object "java/lang/String"), accessFlags := 18, slot := 4, constantValue := 0 }, { name := "description", type := (.object "java/lang/String"), accessFlags := 18, slot := 5, constantValue := 0 }, { name := "$VALUES", type := (.array (.object "com/example/kharon/kharon/Setting")), accessFlags := 4122, slot := 11, constantValue := 0 }]
  methods := #[k6m0, k6m1]
  instanceTypes := #[(.object "java/lang/String"), .int, .int, (.object "java/lang/String"), (.object "java/lang/String"), (.object "java/lang/String")]
  staticTypes := #[(.object "com/example/kharon/kharon/Setting"), (.object "com/example/kharon/kharon/Setting"), (.object "com/example/kharon/kharon/Setting"), (.object "com/example/kharon/kharon/Setting"), (.object "com/example/kharon/kharon/Setting"), (.object "com/example/kharon/kharon/Setting"), (.object "com/example/kharon/kharon/Setting"), (.object "com/example/kharon/kharon/Setting"), (.object "com/example/kharon/kharon/Setting"), (.object "com/example/kharon/kharon/Setting"), (.object "com/example/kharon/kharon/Setting"), (.array (.object "com/example/kharon/kharon/Setting"))]
  resolved := Array.replicate 186 none
  statics := some 0 }

def pool7 : Array CpInfo := pool [(2, .class_ 4), (1, u "java/lang/CharSequence"), (42, .class_ 48), (0, u "java/lang/CharSequence$1CodePointIterator"), (10, .class_ 60), (0, u "java/lang/CharSequence$1CharIterator"), (5, .class_ 67), (0, u "java/lang/Object")] 63

/-- java/lang/CharSequence -/
def k7 : Class := { plain "java/lang/CharSequence" (some 0) with
  accessFlags := 1537
  interfaces := #[]
  cf := some (fileOf pool7 2 #[.nestMembers #[47, 59]] #[] 1537 66 #[] #[])
  fields := #[]
  methods := #[]
  instanceTypes := #[]
  staticTypes := #[]
  resolved := Array.replicate 131 none
  statics := none }

def pool8 : Array CpInfo := pool [(1, .class_ 2), (0, u "java/lang/constant/ConstantDesc"), (0, .class_ 4), (0, u "java/lang/Object")] 32

/-- java/lang/constant/ConstantDesc -/
def k8 : Class := { plain "java/lang/constant/ConstantDesc" (some 0) with
  accessFlags := 1537
  interfaces := #[]
  cf := some (fileOf pool8 1 #[] #[] 1537 3 #[] #[])
  fields := #[]
  methods := #[]
  instanceTypes := #[]
  staticTypes := #[]
  resolved := Array.replicate 37 none
  statics := none }

def pool9 : Array CpInfo := pool [(2, .class_ 4), (1, u "java/lang/Object"), (0, u "<init>"), (0, u "()V"), (3, .class_ 12), (1, u "java/lang/String"), (0, u "value"), (0, u "[B"), (2, u "coder"), (0, u "B"), (2, u "hash"), (0, u "I"), (2, u "hashIsZero"), (0, u "Z"), (13, u "COMPACT_STRINGS"), (534, .class_ 576), (0, u "java/lang/CharSequence"), (22, u "CASE_INSENSITIVE_ORDER"), (0, u "Ljava/util/Comparator;"), (500, u "serialPersistentFields"), (0, u "[Ljava/io/ObjectStreamField;"), (0, .class_ 1104), (0, u "java/lang/String$CaseInsensitiveComparator"), (1, .class_ 1107), (0, u "java/io/Serializable"), (0, .class_ 1109), (0, u "java/lang/Comparable"), (0, .class_ 1111), (0, u "java/lang/constant/Constable"), (0, .class_ 1113), (0, u "java/lang/constant/ConstantDesc"), (2, u "serialVersionUID"), (0, u "J"), (3, u "REPL"), (0, u "C"), (2, u "LATIN1"), (1, u "UTF16")] 323

def k9m0 : Method := { name := "<init>", desc := "()V", sig := { parameters := [], returnType := none }, accessFlags := 1, code := none }
/-- java/lang/String -/
def k9 : Class := { plain "java/lang/String" (some 0) with
  accessFlags := 49
  interfaces := #[4, 3, 7, 2, 8]
  cf := some (fileOf pool9 10 #[.nestMembers #[1103]] #[{ accessFlags := 1, nameIndex := 5, descriptorIndex := 6, attributes := #[] }] 49 2 #[1106, 1108, 575, 1110, 1112] #[{ accessFlags := 18, nameIndex := 13, descriptorIndex := 14, attributes := #[] }, { accessFlags := 18, nameIndex := 17, descriptorIndex := 18, attributes := #[] }, { accessFlags := 2, nameIndex := 21, descriptorIndex := 22, attributes := #[] }, { accessFlags := 2, nameIndex := 25, descriptorIndex := 26, attributes := #[] }, { accessFlags := 26, nameIndex := 1116, descriptorIndex := 1117, attributes := #[] }, { accessFlags := 24, nameIndex := 40, descriptorIndex := 26, attributes := #[] }, { accessFlags := 26, nameIndex := 1101, descriptorIndex := 1102, attributes := #[] }, { accessFlags := 26, nameIndex := 1121, descriptorIndex := 1122, attributes := #[] }, { accessFlags := 25, nameIndex := 599, descriptorIndex := 600, attributes := #[] }, { accessFlags := 24, nameIndex := 1125, descriptorIndex := 18, attributes := #[] }, { accessFlags := 24, nameIndex := 1127, descriptorIndex := 18, attributes := #[] }])
  fields := #[{ name := "value", type := (.array .byte), accessFlags := 18, slot := 0, constantValue := 0 }, { name := "coder", type := .byte, accessFlags := 18, slot := 1, constantValue := 0 }, { name := "hash", type := .int, accessFlags := 2, slot := 2, constantValue := 0 }, { name := "hashIsZero", type := .boolean, accessFlags := 2, slot := 3, constantValue := 0 }, { name := "serialVersionUID", type := .long, accessFlags := 26, slot := 0, constantValue := 0 }, { name := "COMPACT_STRINGS", type := .boolean, accessFlags := 24, slot := 1, constantValue := 0 }, { name := "serialPersistentFields", type := (.array (.object "java/io/ObjectStreamField")), accessFlags := 26, slot := 2, constantValue := 0 }, { name := "REPL", type := .char, accessFlags := 26, slot := 3, constantValue := 0 }, { name := "CASE_INSENSITIVE_ORDER", type := (.object "java/util/Comparator"), accessFlags := 25, slot := 4, constantValue := 0 }, { name := "LATIN1", type := .byte, accessFlags := 24, slot := 5, constantValue := 0 }, { name := "UTF16", type := .byte, accessFlags := 24, slot := 6, constantValue := 0 }]
  methods := #[k9m0]
  instanceTypes := #[(.array .byte), .byte, .int, .boolean]
  staticTypes := #[.long, .boolean, (.array (.object "java/io/ObjectStreamField")), .char, (.object "java/util/Comparator"), .byte, .byte]
  resolved := Array.replicate 1451 none
  statics := none }

def pool10 : Array CpInfo := pool [(1, u "java/lang/Cloneable"), (0, .class_ 1), (0, u "java/lang/Object"), (0, .class_ 3)] 3

/-- java/lang/Cloneable -/
def k10 : Class := { plain "java/lang/Cloneable" (some 0) with
  accessFlags := 1537
  interfaces := #[]
  cf := some (fileOf pool10 2 #[] #[] 1537 4 #[] #[])
  fields := #[]
  methods := #[]
  instanceTypes := #[]
  staticTypes := #[]
  resolved := Array.replicate 8 none
  statics := none }

/-- the primitive byte -/
def k11 : Class := { plain "byte" none with kind := .primitive 'B', accessFlags := 0x411 }
/-- [B -/
def k12 : Class := { plain "[B" (some 0) with kind := .array 11 .byte, interfaces := #[10, 4], accessFlags := 1041 }

/-- the primitive int -/
def k13 : Class := { plain "int" none with kind := .primitive 'I', accessFlags := 0x411 }
/-- [I -/
def k14 : Class := { plain "[I" (some 0) with kind := .array 13 .int, interfaces := #[10, 4], accessFlags := 1041 }

/-- [Lcom/example/kharon/kharon/Setting; -/
def k15 : Class := { plain "[Lcom/example/kharon/kharon/Setting;" (some 0) with kind := .array 6 (.object "com/example/kharon/kharon/Setting"), interfaces := #[10, 4], accessFlags := 1041 }

def heap : Heap := #[{ cls := 6, slots := #[.ref 6, .ref 7, .ref 8, .ref 9, .ref 10, .ref 11, .ref 12, .ref 13, .ref 14, .ref 15, .ref 16, .null], vm := .statics 6 },
  { cls := 9, slots := #[.null, .int 0, .int 0, .int 0], vm := .none },
  { cls := 9, slots := #[.null, .int 0, .int 0, .int 0], vm := .none },
  { cls := 9, slots := #[.null, .int 0, .int 0, .int 0], vm := .none },
  { cls := 9, slots := #[.null, .int 0, .int 0, .int 0], vm := .none },
  { cls := 9, slots := #[.null, .int 0, .int 0, .int 0], vm := .none },
  { cls := 6, slots := #[.null, .int 0, .int 0, .ref 1, .null, .null], vm := .none },
  { cls := 6, slots := #[.null, .int 1, .int 0, .ref 4, .null, .null], vm := .none },
  { cls := 6, slots := #[.null, .int 2, .int 0, .ref 3, .null, .null], vm := .none },
  { cls := 6, slots := #[.null, .int 3, .int 0, .ref 2, .null, .null], vm := .none },
  { cls := 6, slots := #[.null, .int 4, .int 0, .ref 3, .null, .null], vm := .none },
  { cls := 6, slots := #[.null, .int 5, .int 0, .ref 3, .null, .null], vm := .none },
  { cls := 6, slots := #[.null, .int 6, .int 0, .ref 3, .null, .null], vm := .none },
  { cls := 6, slots := #[.null, .int 7, .int 0, .ref 3, .null, .null], vm := .none },
  { cls := 6, slots := #[.null, .int 8, .int 0, .null, .null, .null], vm := .none },
  { cls := 6, slots := #[.null, .int 9, .int 0, .ref 5, .null, .null], vm := .none },
  { cls := 6, slots := #[.null, .int 10, .int 0, .ref 4, .null, .null], vm := .none }]
def classes : Array Class := #[k0, k1, k2, k3, k4, k5, k6, k7, k8, k9, k10, k11, k12, k13, k14, k15]
def interned : List (Array UInt16 × Addr) := []
def slotsUsed : Nat := 98
def theMethod : MethodId := ⟨1, 1⟩
def args0 : Array Value := #[.int 5]
def aboutOver (below : List Frame) : State where
  vm := { classes := classes, interned := interned.toArray }
  heap := heap
  slotsUsed := slotsUsed
  threads := #[{ frames := .invoking theMethod args0 :: below }]
def below0 : List Frame := [.native { method := ⟨0, 0⟩, args := #[] }]
def about1 : State := aboutOver below0
def p0 : Program := .bare "" "" ""
def e0 : Env := launch0.env 0 0 0
theorem w_frames : about1.frames = Frame.invoking theMethod args0 :: below0 := rfl
set_option maxRecDepth 65536 in
theorem w_args : argsFit about1.vm theMethod args0 = true := by decide +kernel
set_option maxRecDepth 65536 in
theorem w_heap : heapFits about1 = true := by decide +kernel
set_option maxRecDepth 65536 in
theorem w_runnable : about1.curStatus? = some .runnable := by decide +kernel
set_option maxRecDepth 65536 in
theorem w_alone : about1.alone = true := by decide +kernel
set_option maxRecDepth 65536 in
theorem w_named : about1.methodNamed? x = some theMethod := by decide +kernel
set_option maxRecDepth 65536 in
theorem w_hears : about1.hears theMethod below0 = true := by decide +kernel
set_option maxRecDepth 65536 in
theorem w_ripe : about1.ripe theMethod args0 below0 = true := by decide +kernel
theorem w_running : about1.status = .running := rfl
set_option maxRecDepth 65536 in
theorem w_room : about1.hasRoom e0.platform room_1 = true :=
  launch0.hasRoom_least _ room_1 (by decide +kernel) (by decide +kernel) (by decide +kernel) (by decide +kernel) (by decide +kernel) (by decide +kernel)
theorem allAtoms_all (ts : List Jvm.Cond) (a : Array Jvm.Value) (st : Jvm.State) : (allAtoms ts).before a st = ts.all (fun c => c.before a st) := by
  induction ts with
  | nil => rfl
  | cons c t ih =>
    show (Jvm.Cond.and c (allAtoms t)).before a st = _
    rw [Jvm.Cond.before_and, ih, List.all_cons]
def words1 : List Jvm.Cond := Jvm.Cond.code x code maxLocals ret :: tables_1
/-- a 'code' word, met by the world's own term for the bytes: nothing is compared byte by byte -/
theorem code_word {y : MethodName} {bytes : ByteArray} {mx : Nat} {rt : Option FieldType} {a : Array Value} {s : State} {m : MethodId} {meth : Method} {c : Code} (h1 : s.methodNamed? y = some m) (h2 : s.vm.method? m = some meth) (h3 : meth.code = some c) (h4 : c.code = bytes)
    (h5 : (c.maxLocals == mx && c.exceptionTable.isEmpty && decide (c.maxStack ≤ mostOperands) && decide (meth.sig.returnType = rt) && !meth.locks && decide (parseMethodDescriptor y.desc = some meth.sig)) = true) : (Jvm.Cond.code y bytes mx rt).before a s = true := by
  simp only [Bool.and_eq_true, beq_iff_eq, Bool.not_eq_true', decide_eq_true_eq] at h5
  obtain ⟨⟨⟨⟨⟨g1, g2⟩, g3⟩, g4⟩, g5⟩, g6⟩ := h5
  simp [Cond.before, Cond.holds, Cond.value, h1, h2, h3, h4, g1, g2, g3, g4, g5, g6]
def isCode : Jvm.Cond → Bool
  | .code _ _ _ _ => true
  | _ => false
theorem all_split {L : List Jvm.Cond} {P : Jvm.Cond → Bool} (h1 : L.all (fun c => isCode c || P c) = true) (h2 : ∀ c ∈ L.filter isCode, P c = true) : L.all P = true := by
  refine List.all_eq_true.mpr fun c hc => ?_
  have h := List.all_eq_true.mp h1 c hc
  rcases Bool.eq_false_or_eq_true (isCode c) with hi | hi
  · exact h2 c (List.mem_filter.mpr ⟨hc, hi⟩)
  · simpa [hi] using h
set_option maxRecDepth 65536 in
theorem w_c0 : (Jvm.Cond.code x code maxLocals ret).before args0 about1 = true := code_word (m := ⟨1, 1⟩) (meth := k1m1) (c := k1c1) (by decide +kernel) rfl rfl rfl (by decide +kernel)
set_option maxRecDepth 65536 in
theorem w_c1 : (Jvm.Cond.code ({ cls := "com/example/kharon/kharon/Setting", name := "secret", desc := "()Z" } : Jvm.MethodName) prog_3_method_6_code (1 : Nat) (Option.some Jvm.ClassFile.FieldType.boolean)).before args0 about1 = true := code_word (m := ⟨6, 0⟩) (meth := k6m0) (c := k6c0) (by decide +kernel) rfl rfl rfl (by decide +kernel)
set_option maxRecDepth 65536 in
theorem w_c2 : (Jvm.Cond.code ({ cls := "com/example/kharon/kharon/Setting", name := "label", desc := "()Ljava/lang/String;" } : Jvm.MethodName) prog_3_method_7_code (1 : Nat) (Option.some (Jvm.ClassFile.FieldType.object "java/lang/String"))).before args0 about1 = true := code_word (m := ⟨6, 1⟩) (meth := k6m1) (c := k6c1) (by decide +kernel) rfl rfl rfl (by decide +kernel)
def codes1 : List Jvm.Cond := [Jvm.Cond.code x code maxLocals ret, Jvm.Cond.code ({ cls := "com/example/kharon/kharon/Setting", name := "secret", desc := "()Z" } : Jvm.MethodName) prog_3_method_6_code (1 : Nat) (Option.some Jvm.ClassFile.FieldType.boolean), Jvm.Cond.code ({ cls := "com/example/kharon/kharon/Setting", name := "label", desc := "()Ljava/lang/String;" } : Jvm.MethodName) prog_3_method_7_code (1 : Nat) (Option.some (Jvm.ClassFile.FieldType.object "java/lang/String"))]
set_option maxRecDepth 65536 in
theorem codes_eq : words1.filter isCode = codes1 := rfl
theorem w_codes : ∀ c ∈ words1.filter isCode, c.before args0 about1 = true := by
  rw [codes_eq]
  intro c hc
  simp only [codes1, List.mem_cons, List.not_mem_nil, or_false] at hc
  rcases hc with rfl | rfl | rfl
  · exact w_c0
  · exact w_c1
  · exact w_c2
set_option maxRecDepth 65536 in
theorem w_t1 : (words1.take 24).all (fun c => isCode c || c.before args0 about1) = true := by decide +kernel
set_option maxRecDepth 65536 in
theorem w_t2 : (words1.drop 24).all (fun c => isCode c || c.before args0 about1) = true := by decide +kernel
theorem w_tables : (allAtoms (Jvm.Cond.code x code maxLocals ret :: tables_1)).before args0 about1 = true := by
  rw [allAtoms_all]
  show words1.all (fun c => c.before args0 about1) = true
  refine all_split ?_ w_codes
  rw [← List.take_append_drop 24 words1, List.all_append, w_t1, w_t2]
  rfl
set_option maxRecDepth 65536 in
theorem w_case : (Jvm.Cond.and given_1 narrow_1).before args0 about1 = true := by decide +kernel
theorem w_applies : (headSpec (Jvm.Cond.code x code maxLocals ret :: tables_1) room_1).applies x e0.platform about1 = true :=
  (Spec.applies_iff w_frames).mpr ⟨w_running, w_runnable, w_alone, w_named, w_hears, w_ripe, w_room, w_tables⟩
theorem atStart : AtStart classFile x code maxLocals ret World_1 tables_1 room_1 Calls_1 rest_1 Pre_1 launch0 p0 e0 about1 theMethod args0 below0 :=
  ⟨lists_1, trivial, launch0.admits_env _ _ _, launch0.least_env, fairChoices_fair.cas, fairChoices_fair.clock, w_frames, w_args, w_heap, w_applies, trivial, trivial, w_case⟩
end start1
theorem witness_1 : WitnessClaimed_1 := ⟨start1.p0, start1.e0, start1.about1, start1.theMethod, start1.args0, start1.below0, start1.atStart⟩
end Jvm.Pilot.@@N@@
