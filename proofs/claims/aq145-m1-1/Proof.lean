import JvmDerived
import JvmDerived.Pilot.@@N@@Statement
import JvmDerived.Pilot.@@N@@Code
set_option linter.unusedVariables false
set_option linter.unusedSimpArgs false
namespace Jvm.Pilot.@@N@@
open Jvm Jvm.ClassFile Sem Op Lib Jvm.Free Jvm.Stand Jvm.LawKit Jvm.RoadKit Bundle Jvm.Pilot.@@N@@.Jvm.D
section OwnLayer
variable {p : Program} {l : Launch} {e : Env} {R : Room} {s : State} {m : MethodId} {args : Array Value} {below : List Frame} {meth : Method} {c : Code} {T T' : State} {locs : List Loc} {cells slots : Nat} {K N : Nat} {Q : Option Value → Heap → List Loc → Prop}
/-- from the frame g over the state T the body comes to its end, and Q holds there -/
def Go (p : Program) (e : Env) (below : List Frame) (s : State) (K N : Nat) (Q : Option Value → Heap → List Loc → Prop) (T : State) (g : JFrame) : Prop :=
  ∃ s₂ o, Steps p.tables e below (T.setTop g) s₂ ∧ s₂.status = .running ∧ Ended s₂ below o ∧ ∃ v L, o = .returned v ∧ Q v s₂.heap L ∧ FrameEnd s o s₂ L K N
theorem own_via {g g' : JFrame} (k : Go p e below s K N Q T' g') (h : ∀ t, Steps p.tables e below (T'.setTop g') t → Steps p.tables e below (T.setTop g) t) : Go p e below s K N Q T g := by
  obtain ⟨a, b, h1, r⟩ := k; exact ⟨a, b, h _ h1, r⟩
theorem own_join {g g' : JFrame} (k : Go p e below s K N Q T' g') (h : Steps p.tables e below (T.setTop g) (T'.setTop g')) : Go p e below s K N Q T g := own_via k fun _ q => h.trans q
theorem own_cast {g g' : JFrame} (q : g = g') (k : Go p e below s K N Q T g') : Go p e below s K N Q T g := q ▸ k
theorem own_ret (X : Stand p l e R s m args below meth c T locs cells slots) (hx : p.tables.exec = Jvm.exec) {pc : Nat} {Ls : Array Slot} {w : Value} {t : FieldType} {i : Instr} {rest : List Value} (hret : meth.sig.returnType = some t) (hlocks : meth.locks = false) (hn : narrow t w = w)
    (hi : (i = .ireturn ∧ (t = .int ∨ t = .boolean ∨ t = .byte ∨ t = .char ∨ t = .short) ∧ ∃ z, w = .int z) ∨ (i = .lreturn ∧ t = .long ∧ ∃ z, w = .long z) ∨ (i = .dreturn ∧ t = .double ∧ ∃ z, w = .double z) ∨ (i = .freturn ∧ t = .float ∧ ∃ z, w = .float z) ∨ (i = .areturn ∧ t.isReference = true ∧ w.isRef = true))
    (hd : decode c.code pc = .ok (i, 1)) (hq : Q (some w) T.heap locs) (hk : cells ≤ K) (hs : slots ≤ N) : Go p e below s K N Q T (mkF m pc Ls (w :: rest)) := by
  obtain ⟨fs, hr, hrun, hended, hW, hsame⟩ := X.leave (v := some w) (fun h => by rw [hret] at h; cases h) (hlocks := hlocks)
  exact ⟨_, _, retOut X hx hret hn hi hd hr, hrun, hended, _, _, rfl, hq, ⟨_, rfl⟩, hW, hsame.mono hk hs⟩
theorem own_retI (X : Stand p l e R s m args below meth c T locs cells slots) (hx : p.tables.exec = Jvm.exec) {pc : Nat} {Ls : Array Slot} {z : Int32} {rest : List Value} (hret : meth.sig.returnType = some .int) (hlocks : meth.locks = false)
    (hd : decode c.code pc = .ok (.ireturn, 1)) (hk : cells ≤ K) (hs : slots ≤ N) (hq : Q (some (.int z)) T.heap locs) : Go p e below s K N Q T (mkF m pc Ls (.int z :: rest)) :=
  own_ret X hx hret hlocks rfl (Or.inl ⟨rfl, Or.inl rfl, _, rfl⟩) hd hq hk hs
theorem own_retJ (X : Stand p l e R s m args below meth c T locs cells slots) (hx : p.tables.exec = Jvm.exec) {pc : Nat} {Ls : Array Slot} {z : Int64} {rest : List Value} (hret : meth.sig.returnType = some .long) (hlocks : meth.locks = false)
    (hd : decode c.code pc = .ok (.lreturn, 1)) (hk : cells ≤ K) (hs : slots ≤ N) (hq : Q (some (.long z)) T.heap locs) : Go p e below s K N Q T (mkF m pc Ls (.long z :: rest)) :=
  own_ret X hx hret hlocks rfl (Or.inr (Or.inl ⟨rfl, rfl, _, rfl⟩)) hd hq hk hs
theorem own_retR (X : Stand p l e R s m args below meth c T locs cells slots) (hx : p.tables.exec = Jvm.exec) {pc : Nat} {Ls : Array Slot} {w : Value} {t : FieldType} {rest : List Value} (hret : meth.sig.returnType = some t) (hlocks : meth.locks = false) (ht : t.isReference = true) (hw : w.isRef = true)
    (hd : decode c.code pc = .ok (.areturn, 1)) (hk : cells ≤ K) (hs : slots ≤ N) (hq : Q (some w) T.heap locs) : Go p e below s K N Q T (mkF m pc Ls (w :: rest)) :=
  own_ret X hx hret hlocks (by rcases ref_cases hw with rfl | ⟨a, rfl⟩ <;> cases t <;> rfl) (Or.inr (Or.inr (Or.inr (Or.inr ⟨rfl, ht, hw⟩)))) hd hq hk hs
theorem own_retZ (X : Stand p l e R s m args below meth c T locs cells slots) (hx : p.tables.exec = Jvm.exec) {pc : Nat} {Ls : Array Slot} {z z' : Int32} {rest : List Value} (hret : meth.sig.returnType = some .boolean) (hlocks : meth.locks = false)
    (hd : decode c.code pc = .ok (.ireturn, 1)) (hz : nar .boolean z = z') (hk : cells ≤ K) (hs : slots ≤ N) (hq : Q (some (.int z')) T.heap locs) : Go p e below s K N Q T (mkF m pc Ls (.int z :: rest)) := by
  subst hz
  obtain ⟨fs, hr, hrun, hended, hW, hsame⟩ := X.leave (v := some (.int (nar .boolean z))) (fun h => by rw [hret] at h; cases h) (hlocks := hlocks)
  exact ⟨_, _, retN X hx (t := .boolean) hret (Or.inl rfl) hd hr, hrun, hended, _, _, rfl, hq, ⟨_, rfl⟩, hW, hsame.mono hk hs⟩
theorem own_retV (X : Stand p l e R s m args below meth c T locs cells slots) (hx : p.tables.exec = Jvm.exec) {pc : Nat} {Ls : Array Slot} (hret : meth.sig.returnType = none) (hlocks : meth.locks = false)
    (hd : decode c.code pc = .ok (.return_, 1)) (hk : cells ≤ K) (hs : slots ≤ N) (hq : Q none T.heap locs) : Go p e below s K N Q T (mkF m pc Ls []) := by
  obtain ⟨fs, hr, hrun, hended, hW, hsame⟩ := X.leave (v := none) (fun _ => rfl) (hlocks := hlocks)
  exact ⟨_, _, X.returnOut hx hret hd hr, hrun, hended, _, _, rfl, hq, ⟨_, rfl⟩, hW, hsame.mono hk hs⟩
/-- the int of a truth value -/
def bi (P : Prop) [Decidable P] : Int32 := if P then 1 else 0
theorem bi_t {P : Prop} [Decidable P] (h : P) : bi P = 1 := if_pos h
theorem bi_f {P : Prop} [Decidable P] (h : ¬ P) : bi P = 0 := if_neg h
theorem bi_0 {P : Prop} [Decidable P] : bi P = 0 ↔ ¬ P := by unfold bi; split <;> simp_all
theorem bi_1 {P : Prop} [Decidable P] : bi P = 1 ↔ P := by unfold bi; split <;> simp_all
theorem bi_nar {P : Prop} [Decidable P] : nar .boolean (bi P) = bi P := by unfold bi; split <;> rfl
theorem bi_iff {P P' : Prop} [Decidable P] [Decidable P'] (h : P ↔ P') : bi P = bi P' := by unfold bi; simp only [h]
theorem bi_eq {P P' : Prop} [Decidable P] [Decidable P'] : bi P = bi P' ↔ (P ↔ P') := by unfold bi; split <;> split <;> simp_all
end OwnLayer
section OwnWords
variable {args : Array Value} {s : State} {t : Term} {C n d : String} {x : Addr}
theorem own_fldV {v : Value} (ht : t.eval args s none [] s = some (.ref x)) (h : (Term.field t C n d).eval args s none [] s = some v) : Fld s s.heap x C n d v :=
  Fld.start ((fld_at (C := C) (n := n) (dd := d) ht).symm.trans h)
theorem own_fldI {z : Int32} (ht : t.eval args s none [] s = some (.ref x)) (h : (Cond.eq (.field t C n d) (.int z)).value args s none s [] = some true) : Fld s s.heap x C n d (.int z) := own_fldV ht (eqv_i rfl h)
theorem own_fldJ {z : Int64} (ht : t.eval args s none [] s = some (.ref x)) (h : (Cond.eq (.field t C n d) (.long z)).value args s none s [] = some true) : Fld s s.heap x C n d (.long z) := own_fldV ht (eqv_l rfl h)
end OwnWords
theorem own_narB (P : Prop) [Decidable P] : narrow .boolean (.int (bi P)) = .int (bi P) := by unfold bi; split <;> rfl
theorem own_fitB (P : Prop) [Decidable P] : fits .boolean (.int (bi P)) = true := by unfold bi; split <;> rfl
theorem own_narR {w : Value} {t : FieldType} (hw : w.isRef = true) : narrow t w = w := by rcases ref_cases hw with rfl | ⟨a, rfl⟩ <;> cases t <;> rfl
theorem own_eqR {args : Array Value} {s : State} {a b : Term} {r : Addr} (hb : b.eval args s none [] s = some (.ref r)) (h : (Cond.eq a b).value args s none s [] = some true) : a.eval args s none [] s = some (.ref r) := by
  cases ha : a.eval args s none [] s with
  | none => simp [Cond.value, ha] at h
  | some x => cases x <;> simp [Cond.value, ha, hb] at h ⊢; exact h
theorem pd0 : parseMethodDescriptor "(J)J" = some ⟨[.long], some .long⟩ := by decide +kernel
theorem pn0 : plainName "java/time/Duration" = true := by first | (simp [plainName, overriddenIn]; done) | decide +kernel
theorem pd1 : parseMethodDescriptor "(JJ)J" = some ⟨[.long, .long], some .long⟩ := by decide +kernel
theorem pn1 : plainName "com/example/dovecote/dovecote/standin/isds/Lockout" = true := by first | (simp [plainName, overriddenIn]; done) | decide +kernel
theorem pd2 : parseMethodDescriptor "()J" = some ⟨[], some .long⟩ := by decide +kernel
theorem pn2 : plainName "com/example/dovecote/dovecote/standin/isds/LockoutCountPinLaw" = true := by first | (simp [plainName, overriddenIn]; done) | decide +kernel
theorem pd3 : parseMethodDescriptor "(I)V" = some ⟨[.int], none⟩ := by decide +kernel
theorem pd4 : parseMethodDescriptor "(ZJ)V" = some ⟨[.boolean, .long], none⟩ := by decide +kernel
theorem pd5 : parseMethodDescriptor "(J)Z" = some ⟨[.long], some .boolean⟩ := by decide +kernel
def ab (x : Int64) : Int64 := if x < 0 then -x else x
def rf (f r : Int32) : Int32 := if f = 0 then 0 else r + 1
def kf (f lim r lk : Int32) : Int32 := if f = 0 then lk else if r + 1 < lim then lk else 1
def af (f lim r : Int32) (la t : Int64) : Int64 := if f = 0 then la else if r + 1 < lim then la else t
def lv (lk : Int32) (la q : Int64) : Int32 := if lk = 0 then 0 else if q - la < 3600000000000 then 1 else 0
theorem own_fe {Z : State} {h : Heap} {a : Addr} {C n d : String} {v w : Value} (e : w = v) (F : Fld Z h a C n d v) : Fld Z h a C n d w := e ▸ F
theorem kf_b {f lim r lk : Int32} (h : lk = 0 ∨ lk = 1) : kf f lim r lk = 0 ∨ kf f lim r lk = 1 := by
  unfold kf; split
  · exact h
  · split
    · exact h
    · exact Or.inr rfl
theorem d_abs_0 : decode jdk_29_method_61_code 0 = .ok (.lload_n 0, 1) := by decide +kernel
theorem d_abs_1 : decode jdk_29_method_61_code 1 = .ok (.lconst 0, 1) := by decide +kernel
theorem d_abs_2 : decode jdk_29_method_61_code 2 = .ok (.lcmp, 1) := by decide +kernel
theorem d_abs_3 : decode jdk_29_method_61_code 3 = .ok (.ifCond .ge 8, 3) := by decide +kernel
theorem d_abs_6 : decode jdk_29_method_61_code 6 = .ok (.lload_n 0, 1) := by decide +kernel
theorem d_abs_7 : decode jdk_29_method_61_code 7 = .ok (.lneg, 1) := by decide +kernel
theorem d_abs_8 : decode jdk_29_method_61_code 8 = .ok (.goto 4, 3) := by decide +kernel
theorem d_abs_11 : decode jdk_29_method_61_code 11 = .ok (.lload_n 0, 1) := by decide +kernel
theorem d_abs_12 : decode jdk_29_method_61_code 12 = .ok (.lreturn, 1) := by decide +kernel
def Q_abs (Z : State) (x : Int64) (h0 : Heap) (n0 : Nat) (v : Option Value) (h : Heap) (L : List Loc) : Prop := v = some (.long (ab x)) ∧ Fr n0 L ∧ h = h0
set_option maxRecDepth 65536 in
set_option maxHeartbeats 40000000 in
theorem rm_abs (l : Launch) (Z : State) (a0 : Array Value) (hw : ∀ d ∈ tables_1, d.before a0 Z = true) (ws : List Jvm.Cond) (x : Int64) (h0 : Heap) (n0 : Nat) (Z0 : n0 ≤ h0.size) :
    MetFree l (⟨"java/lang/Math", "abs", "(J)J"⟩ : MethodName) (head1 (Jvm.Cond.code (⟨"java/lang/Math", "abs", "(J)J"⟩ : MethodName) jdk_29_method_61_code 2 (some .long) :: ws) ({ frames := 0, cells := 0, slots := 0, locals := 0 } : Room)) (fun aa_ U => aa_ = #[(.long x)] ∧ Z.Warmed39 U.vm ∧ U.heap = h0) (fun _ _ _ _ _ => True) (fun _ UU_ oo_ UV_ => ∃ vv_ LL_, oo_ = .returned vv_ ∧ (Q_abs Z x h0 n0) vv_ UV_.heap LL_ ∧ FrameEnd UU_ oo_ UV_ LL_ ({ frames := 0, cells := 0, slots := 0, locals := 0 } : Room).cells ({ frames := 0, cells := 0, slots := 0, locals := 0 } : Room).slots) := by
  refine MetFree.of_bodySF (Jvm.Free.JP.mathPlain rfl (by decide +kernel)) hisR ?_
  intro p e s m args below meth c s₁ Bd hml0 hP hK
  obtain ⟨rfl, hZ, hh⟩ := hP
  have hx := Bd.exec
  have hby := Bd.bytes
  have hlk : meth.locks = false := BodyLoose.notSynchronized Bd
  have hret := Bd.returns
  have hml : c.maxLocals = 2 := hml0
  have hown : s.vm.findClass "java/lang/Math" = some m.cls := findClass_of_methodNamed Bd.named
  have hnm := (name_of_methodNamed Bd.named Bd.method).1
  have X0 : Stand p l e ({ frames := 0, cells := 0, slots := 0, locals := 0 } : Room) s m #[(.long x)] below meth c s₁ [] 0 0 := Stand.of_body Bd
  have e0 : s₁.heap = h0 := by rw [← hh, Bd.state]; rfl
  have N0 := Fr.nil n0
  show Go p e below s ({ frames := 0, cells := 0, slots := 0, locals := 0 } : Room).cells ({ frames := 0, cells := 0, slots := 0, locals := 0 } : Room).slots (Q_abs Z x h0 n0) s₁ (entryFrame m #[(.long x)] 2)
  refine own_cast (g' := mkF m 0 #[.val (.long x), .second] []) (by first | (simp [entryFrame, mkF, argsToLocals, Value.category]; done) | rfl) ?_
  show Go _ _ _ _ _ _ _ _ (mkF m 0 #[.val (.long x), .second] [])
  refine own_via ?_ fun _ kt => XS.lloadN X0.here hx rfl (hb hby d_abs_0) rfl kt
  show Go _ _ _ _ _ _ _ _ (mkF m 1 #[.val (.long x), .second] [(.long x)])
  refine own_via ?_ fun _ kt => XS.lconst X0.here hx rfl (hb hby d_abs_1) kt
  show Go _ _ _ _ _ _ _ _ (mkF m 2 #[.val (.long x), .second] [(.long (0 : Int64)), (.long x)])
  refine own_via ?_ fun _ kt => XS.lcmp X0.here hx rfl (hb hby d_abs_2) rfl kt
  show Go _ _ _ _ _ _ _ _ (mkF m 3 #[.val (.long x), .second] [(.int (lcmpW x (0 : Int64)))])
  by_cases hc1 : x < (0 : Int64)
  · skip
    refine own_via ?_ fun _ kt => XS.ifNo X0.here hx rfl (hb hby d_abs_3) rfl ((if0 _ _).trans (tlt ((lw_lt _ _).mpr hc1)).2.1) kt
    show Go _ _ _ _ _ _ _ _ (mkF m 6 #[.val (.long x), .second] [])
    refine own_via ?_ fun _ kt => XS.lloadN X0.here hx rfl (hb hby d_abs_6) rfl kt
    show Go _ _ _ _ _ _ _ _ (mkF m 7 #[.val (.long x), .second] [(.long x)])
    refine own_via ?_ fun _ kt => XS.lneg X0.here hx rfl (hb hby d_abs_7) rfl kt
    show Go _ _ _ _ _ _ _ _ (mkF m 8 #[.val (.long x), .second] [(.long (-x))])
    refine own_via ?_ fun _ kt => XS.goto X0.here hx rfl (pc0 := 8) (pc' := 12) rfl (hb hby d_abs_8) (by decide) (by decide) kt
    show Go _ _ _ _ _ _ _ _ (mkF m 12 #[.val (.long x), .second] [(.long (-x))])
    exact own_retJ X0 hx hret hlk (hb hby d_abs_12) (by decide) (by decide) (by rw [e0]; exact ⟨by rw [ab, if_pos hc1], N0, rfl⟩)
  · skip
    refine own_via ?_ fun _ kt => XS.ifYes X0.here hx rfl (pc0 := 3) (pc' := 11) rfl (hb hby d_abs_3) rfl ((if0 _ _).trans (flt (fun q => hc1 ((lw_lt _ _).mp q))).2.1) (by decide) (by decide) kt
    show Go _ _ _ _ _ _ _ _ (mkF m 11 #[.val (.long x), .second] [])
    refine own_via ?_ fun _ kt => XS.lloadN X0.here hx rfl (hb hby d_abs_11) rfl kt
    show Go _ _ _ _ _ _ _ _ (mkF m 12 #[.val (.long x), .second] [(.long x)])
    exact own_retJ X0 hx hret hlk (hb hby d_abs_12) (by decide) (by decide) (by rw [e0]; exact ⟨by rw [ab, if_neg hc1], N0, rfl⟩)
theorem d_mulX_0 : decode jdk_29_method_30_code 0 = .ok (.lload_n 0, 1) := by decide +kernel
theorem d_mulX_1 : decode jdk_29_method_30_code 1 = .ok (.lload_n 2, 1) := by decide +kernel
theorem d_mulX_2 : decode jdk_29_method_30_code 2 = .ok (.lmul, 1) := by decide +kernel
theorem d_mulX_3 : decode jdk_29_method_30_code 3 = .ok (.lstore 4, 2) := by decide +kernel
theorem d_mulX_5 : decode jdk_29_method_30_code 5 = .ok (.lload_n 0, 1) := by decide +kernel
theorem d_mulX_6 : decode jdk_29_method_30_code 6 = .ok (.invokestatic 122, 3) := by decide +kernel
theorem d_mulX_9 : decode jdk_29_method_30_code 9 = .ok (.lstore 6, 2) := by decide +kernel
theorem d_mulX_11 : decode jdk_29_method_30_code 11 = .ok (.lload_n 2, 1) := by decide +kernel
theorem d_mulX_12 : decode jdk_29_method_30_code 12 = .ok (.invokestatic 122, 3) := by decide +kernel
theorem d_mulX_15 : decode jdk_29_method_30_code 15 = .ok (.lstore 8, 2) := by decide +kernel
theorem d_mulX_17 : decode jdk_29_method_30_code 17 = .ok (.lload 6, 2) := by decide +kernel
theorem d_mulX_19 : decode jdk_29_method_30_code 19 = .ok (.lload 8, 2) := by decide +kernel
theorem d_mulX_21 : decode jdk_29_method_30_code 21 = .ok (.lor, 1) := by decide +kernel
theorem d_mulX_22 : decode jdk_29_method_30_code 22 = .ok (.bipush 31, 2) := by decide +kernel
theorem d_mulX_24 : decode jdk_29_method_30_code 24 = .ok (.lushr, 1) := by decide +kernel
theorem d_mulX_25 : decode jdk_29_method_30_code 25 = .ok (.lconst 0, 1) := by decide +kernel
theorem d_mulX_26 : decode jdk_29_method_30_code 26 = .ok (.lcmp, 1) := by decide +kernel
theorem d_mulX_27 : decode jdk_29_method_30_code 27 = .ok (.ifCond .eq 44, 3) := by decide +kernel
theorem d_mulX_71 : decode jdk_29_method_30_code 71 = .ok (.lload 4, 2) := by decide +kernel
theorem d_mulX_73 : decode jdk_29_method_30_code 73 = .ok (.lreturn, 1) := by decide +kernel
def Q_mulX (Z : State)  (h0 : Heap) (n0 : Nat) (v : Option Value) (h : Heap) (L : List Loc) : Prop := v = some (.long (3600000000000 : Int64)) ∧ Fr n0 L ∧ h = h0
set_option maxRecDepth 65536 in
set_option maxHeartbeats 40000000 in
theorem rm_mulX (l : Launch) (Z : State) (a0 : Array Value) (hw : ∀ d ∈ tables_1, d.before a0 Z = true) (ws : List Jvm.Cond)  (h0 : Heap) (n0 : Nat) (Z0 : n0 ≤ h0.size) :
    MetFree l (⟨"java/lang/Math", "multiplyExact", "(JJ)J"⟩ : MethodName) (head1 (Jvm.Cond.code (⟨"java/lang/Math", "multiplyExact", "(JJ)J"⟩ : MethodName) jdk_29_method_30_code 10 (some .long) :: ws) ({ frames := 1, cells := 0, slots := 0, locals := 20 } : Room)) (fun aa_ U => aa_ = #[(.long (3600 : Int64)), (.long (1000000000 : Int64))] ∧ Z.Warmed39 U.vm ∧ U.heap = h0) (fun _ _ _ _ _ => True) (fun _ UU_ oo_ UV_ => ∃ vv_ LL_, oo_ = .returned vv_ ∧ (Q_mulX Z  h0 n0) vv_ UV_.heap LL_ ∧ FrameEnd UU_ oo_ UV_ LL_ ({ frames := 1, cells := 0, slots := 0, locals := 20 } : Room).cells ({ frames := 1, cells := 0, slots := 0, locals := 20 } : Room).slots) := by
  refine MetFree.of_bodySF (Jvm.Free.JP.mathPlain rfl (by decide +kernel)) hisR ?_
  intro p e s m args below meth c s₁ Bd hml0 hP hK
  obtain ⟨rfl, hZ, hh⟩ := hP
  have hx := Bd.exec
  have hby := Bd.bytes
  have hlk : meth.locks = false := BodyLoose.notSynchronized Bd
  have hret := Bd.returns
  have hml : c.maxLocals = 10 := hml0
  have hown : s.vm.findClass "java/lang/Math" = some m.cls := findClass_of_methodNamed Bd.named
  have hnm := (name_of_methodNamed Bd.named Bd.method).1
  have X0 : Stand p l e ({ frames := 1, cells := 0, slots := 0, locals := 20 } : Room) s m #[(.long (3600 : Int64)), (.long (1000000000 : Int64))] below meth c s₁ [] 0 0 := Stand.of_body Bd
  have e0 : s₁.heap = h0 := by rw [← hh, Bd.state]; rfl
  have N0 := Fr.nil n0
  show Go p e below s ({ frames := 1, cells := 0, slots := 0, locals := 20 } : Room).cells ({ frames := 1, cells := 0, slots := 0, locals := 20 } : Room).slots (Q_mulX Z  h0 n0) s₁ (entryFrame m #[(.long (3600 : Int64)), (.long (1000000000 : Int64))] 10)
  refine own_cast (g' := mkF m 0 #[.val (.long (3600 : Int64)), .second, .val (.long (1000000000 : Int64)), .second, .unset, .unset, .unset, .unset, .unset, .unset] []) (by first | (simp [entryFrame, mkF, argsToLocals, Value.category]; done) | rfl) ?_
  show Go _ _ _ _ _ _ _ _ (mkF m 0 #[.val (.long (3600 : Int64)), .second, .val (.long (1000000000 : Int64)), .second, .unset, .unset, .unset, .unset, .unset, .unset] [])
  refine own_via ?_ fun _ kt => XS.lloadN X0.here hx rfl (hb hby d_mulX_0) rfl kt
  show Go _ _ _ _ _ _ _ _ (mkF m 1 #[.val (.long (3600 : Int64)), .second, .val (.long (1000000000 : Int64)), .second, .unset, .unset, .unset, .unset, .unset, .unset] [(.long (3600 : Int64))])
  refine own_via ?_ fun _ kt => XS.lloadN X0.here hx rfl (hb hby d_mulX_1) rfl kt
  show Go _ _ _ _ _ _ _ _ (mkF m 2 #[.val (.long (3600 : Int64)), .second, .val (.long (1000000000 : Int64)), .second, .unset, .unset, .unset, .unset, .unset, .unset] [(.long (1000000000 : Int64)), (.long (3600 : Int64))])
  refine own_via ?_ fun _ kt => XS.lmul X0.here hx rfl (hb hby d_mulX_2) rfl kt
  show Go _ _ _ _ _ _ _ _ (mkF m 3 #[.val (.long (3600 : Int64)), .second, .val (.long (1000000000 : Int64)), .second, .unset, .unset, .unset, .unset, .unset, .unset] [(.long ((3600 : Int64) * (1000000000 : Int64)))])
  rw [show ((3600 : Int64) * (1000000000 : Int64)) = (3600000000000 : Int64) from by decide]
  show Go _ _ _ _ _ _ _ _ (mkF m 3 #[.val (.long (3600 : Int64)), .second, .val (.long (1000000000 : Int64)), .second, .unset, .unset, .unset, .unset, .unset, .unset] [(.long (3600000000000 : Int64))])
  refine own_via ?_ fun _ kt => XS.lstore X0.here hx rfl (hb hby d_mulX_3) rfl (l' := #[.val (.long (3600 : Int64)), .second, .val (.long (1000000000 : Int64)), .second, .val (.long (3600000000000 : Int64)), .second, .unset, .unset, .unset, .unset]) rfl kt
  show Go _ _ _ _ _ _ _ _ (mkF m 5 #[.val (.long (3600 : Int64)), .second, .val (.long (1000000000 : Int64)), .second, .val (.long (3600000000000 : Int64)), .second, .unset, .unset, .unset, .unset] [])
  refine own_via ?_ fun _ kt => XS.lloadN X0.here hx rfl (hb hby d_mulX_5) rfl kt
  show Go _ _ _ _ _ _ _ _ (mkF m 6 #[.val (.long (3600 : Int64)), .second, .val (.long (1000000000 : Int64)), .second, .val (.long (3600000000000 : Int64)), .second, .unset, .unset, .unset, .unset] [(.long (3600 : Int64))])
  obtain ⟨_, _, ⟨T1, L1, k1, n1⟩, -, X1, ⟨Lc1, hQ1, l1, y1, z1⟩, st1⟩ := Jvm.LawKit.callS X0 hx (y := (⟨"java/lang/Math", "abs", "(J)J"⟩ : MethodName)) hown (mvT hZ (hw _ (List.mem_of_getElem? (i := 45) rfl))) (mvT hZ (hw _ (List.mem_of_getElem? (i := 46) rfl))) (mvT hZ (hw _ (List.mem_of_getElem? (i := 43) rfl))) (mvT hZ (hw _ (List.mem_of_getElem? (i := 47) rfl))) (by decide) (backOf (W := 0) (rm_abs l Z a0 hw [] (3600 : Int64) h0 n0 Z0) hZ (hw _ (List.mem_of_getElem? (i := 47) rfl)) (hw _ (List.mem_of_getElem? (i := 43) rfl)) (by decide) (by decide)) (g := (mkF m 6 #[.val (.long (3600 : Int64)), .second, .val (.long (1000000000 : Int64)), .second, .val (.long (3600000000000 : Int64)), .second, .unset, .unset, .unset, .unset] [(.long (3600 : Int64))])) rfl (by rw [hml]; rfl) (argsL := [(.long (3600 : Int64))]) (rest := []) (lenOf pd0 rfl) rfl (by show 2 * 0 + _ ≤ _; exact Nat.le_of_eq rfl) (hb hby d_mulX_6) (fun _ _ => ⟨rfl, e0, (by decide : 0 + 0 ≤ _), (by decide : 0 + 0 ≤ _)⟩)
  dsimp only [Pt.U, Pt.locs, Pt.cells, Pt.slots] at X1 l1 y1 z1 st1 hQ1
  subst l1 y1 z1
  obtain ⟨rfl, Nq1, e1⟩ := hQ1
  have N1 := Fr.app N0 Nq1
  refine own_via ?_ st1
  show Go _ _ _ _ _ _ _ _ (mkF m 9 #[.val (.long (3600 : Int64)), .second, .val (.long (1000000000 : Int64)), .second, .val (.long (3600000000000 : Int64)), .second, .unset, .unset, .unset, .unset] [(.long (ab (3600 : Int64)))])
  rw [show (ab (3600 : Int64)) = (3600 : Int64) from by decide]
  show Go _ _ _ _ _ _ _ _ (mkF m 9 #[.val (.long (3600 : Int64)), .second, .val (.long (1000000000 : Int64)), .second, .val (.long (3600000000000 : Int64)), .second, .unset, .unset, .unset, .unset] [(.long (3600 : Int64))])
  refine own_via ?_ fun _ kt => XS.lstore X1.here hx rfl (hb hby d_mulX_9) rfl (l' := #[.val (.long (3600 : Int64)), .second, .val (.long (1000000000 : Int64)), .second, .val (.long (3600000000000 : Int64)), .second, .val (.long (3600 : Int64)), .second, .unset, .unset]) rfl kt
  show Go _ _ _ _ _ _ _ _ (mkF m 11 #[.val (.long (3600 : Int64)), .second, .val (.long (1000000000 : Int64)), .second, .val (.long (3600000000000 : Int64)), .second, .val (.long (3600 : Int64)), .second, .unset, .unset] [])
  refine own_via ?_ fun _ kt => XS.lloadN X1.here hx rfl (hb hby d_mulX_11) rfl kt
  show Go _ _ _ _ _ _ _ _ (mkF m 12 #[.val (.long (3600 : Int64)), .second, .val (.long (1000000000 : Int64)), .second, .val (.long (3600000000000 : Int64)), .second, .val (.long (3600 : Int64)), .second, .unset, .unset] [(.long (1000000000 : Int64))])
  obtain ⟨_, _, ⟨T2, L2, k2, n2⟩, -, X2, ⟨Lc2, hQ2, l2, y2, z2⟩, st2⟩ := Jvm.LawKit.callS X1 hx (y := (⟨"java/lang/Math", "abs", "(J)J"⟩ : MethodName)) hown (mvT hZ (hw _ (List.mem_of_getElem? (i := 45) rfl))) (mvT hZ (hw _ (List.mem_of_getElem? (i := 46) rfl))) (mvT hZ (hw _ (List.mem_of_getElem? (i := 43) rfl))) (mvT hZ (hw _ (List.mem_of_getElem? (i := 47) rfl))) (by decide) (backOf (W := 0) (rm_abs l Z a0 hw [] (1000000000 : Int64) h0 n0 Z0) hZ (hw _ (List.mem_of_getElem? (i := 47) rfl)) (hw _ (List.mem_of_getElem? (i := 43) rfl)) (by decide) (by decide)) (g := (mkF m 12 #[.val (.long (3600 : Int64)), .second, .val (.long (1000000000 : Int64)), .second, .val (.long (3600000000000 : Int64)), .second, .val (.long (3600 : Int64)), .second, .unset, .unset] [(.long (1000000000 : Int64))])) rfl (by rw [hml]; rfl) (argsL := [(.long (1000000000 : Int64))]) (rest := []) (lenOf pd0 rfl) rfl (by show 2 * 0 + _ ≤ _; exact Nat.le_of_eq rfl) (hb hby d_mulX_12) (fun _ _ => ⟨rfl, e1, (by decide : 0 + 0 ≤ _), (by decide : 0 + 0 ≤ _)⟩)
  dsimp only [Pt.U, Pt.locs, Pt.cells, Pt.slots] at X2 l2 y2 z2 st2 hQ2
  subst l2 y2 z2
  obtain ⟨rfl, Nq2, e2⟩ := hQ2
  have N2 := Fr.app N1 Nq2
  refine own_via ?_ st2
  show Go _ _ _ _ _ _ _ _ (mkF m 15 #[.val (.long (3600 : Int64)), .second, .val (.long (1000000000 : Int64)), .second, .val (.long (3600000000000 : Int64)), .second, .val (.long (3600 : Int64)), .second, .unset, .unset] [(.long (ab (1000000000 : Int64)))])
  rw [show (ab (1000000000 : Int64)) = (1000000000 : Int64) from by decide]
  show Go _ _ _ _ _ _ _ _ (mkF m 15 #[.val (.long (3600 : Int64)), .second, .val (.long (1000000000 : Int64)), .second, .val (.long (3600000000000 : Int64)), .second, .val (.long (3600 : Int64)), .second, .unset, .unset] [(.long (1000000000 : Int64))])
  refine own_via ?_ fun _ kt => XS.lstore X2.here hx rfl (hb hby d_mulX_15) rfl (l' := #[.val (.long (3600 : Int64)), .second, .val (.long (1000000000 : Int64)), .second, .val (.long (3600000000000 : Int64)), .second, .val (.long (3600 : Int64)), .second, .val (.long (1000000000 : Int64)), .second]) rfl kt
  show Go _ _ _ _ _ _ _ _ (mkF m 17 #[.val (.long (3600 : Int64)), .second, .val (.long (1000000000 : Int64)), .second, .val (.long (3600000000000 : Int64)), .second, .val (.long (3600 : Int64)), .second, .val (.long (1000000000 : Int64)), .second] [])
  refine own_via ?_ fun _ kt => XS.lload X2.here hx rfl (hb hby d_mulX_17) rfl kt
  show Go _ _ _ _ _ _ _ _ (mkF m 19 #[.val (.long (3600 : Int64)), .second, .val (.long (1000000000 : Int64)), .second, .val (.long (3600000000000 : Int64)), .second, .val (.long (3600 : Int64)), .second, .val (.long (1000000000 : Int64)), .second] [(.long (3600 : Int64))])
  refine own_via ?_ fun _ kt => XS.lload X2.here hx rfl (hb hby d_mulX_19) rfl kt
  show Go _ _ _ _ _ _ _ _ (mkF m 21 #[.val (.long (3600 : Int64)), .second, .val (.long (1000000000 : Int64)), .second, .val (.long (3600000000000 : Int64)), .second, .val (.long (3600 : Int64)), .second, .val (.long (1000000000 : Int64)), .second] [(.long (1000000000 : Int64)), (.long (3600 : Int64))])
  refine own_via ?_ fun _ kt => XS.lor X2.here hx rfl (hb hby d_mulX_21) rfl kt
  show Go _ _ _ _ _ _ _ _ (mkF m 22 #[.val (.long (3600 : Int64)), .second, .val (.long (1000000000 : Int64)), .second, .val (.long (3600000000000 : Int64)), .second, .val (.long (3600 : Int64)), .second, .val (.long (1000000000 : Int64)), .second] [(.long ((3600 : Int64) ||| (1000000000 : Int64)))])
  rw [show ((3600 : Int64) ||| (1000000000 : Int64)) = (1000001040 : Int64) from by decide]
  show Go _ _ _ _ _ _ _ _ (mkF m 22 #[.val (.long (3600 : Int64)), .second, .val (.long (1000000000 : Int64)), .second, .val (.long (3600000000000 : Int64)), .second, .val (.long (3600 : Int64)), .second, .val (.long (1000000000 : Int64)), .second] [(.long (1000001040 : Int64))])
  refine own_via ?_ fun _ kt => XS.bipush X2.here hx rfl (hb hby d_mulX_22) kt
  show Go _ _ _ _ _ _ _ _ (mkF m 24 #[.val (.long (3600 : Int64)), .second, .val (.long (1000000000 : Int64)), .second, .val (.long (3600000000000 : Int64)), .second, .val (.long (3600 : Int64)), .second, .val (.long (1000000000 : Int64)), .second] [(.int (31 : Int32)), (.long (1000001040 : Int64))])
  refine own_via ?_ fun _ kt => XS.lushr X2.here hx rfl (hb hby d_mulX_24) rfl kt
  show Go _ _ _ _ _ _ _ _ (mkF m 25 #[.val (.long (3600 : Int64)), .second, .val (.long (1000000000 : Int64)), .second, .val (.long (3600000000000 : Int64)), .second, .val (.long (3600 : Int64)), .second, .val (.long (1000000000 : Int64)), .second] [(.long (((1000001040 : Int64).toUInt64 >>> ((31 : Int32) &&& 0x3f).toInt64.toUInt64).toInt64))])
  rw [show (((1000001040 : Int64).toUInt64 >>> ((31 : Int32) &&& 0x3f).toInt64.toUInt64).toInt64) = (0 : Int64) from by decide]
  show Go _ _ _ _ _ _ _ _ (mkF m 25 #[.val (.long (3600 : Int64)), .second, .val (.long (1000000000 : Int64)), .second, .val (.long (3600000000000 : Int64)), .second, .val (.long (3600 : Int64)), .second, .val (.long (1000000000 : Int64)), .second] [(.long (0 : Int64))])
  refine own_via ?_ fun _ kt => XS.lconst X2.here hx rfl (hb hby d_mulX_25) kt
  show Go _ _ _ _ _ _ _ _ (mkF m 26 #[.val (.long (3600 : Int64)), .second, .val (.long (1000000000 : Int64)), .second, .val (.long (3600000000000 : Int64)), .second, .val (.long (3600 : Int64)), .second, .val (.long (1000000000 : Int64)), .second] [(.long (0 : Int64)), (.long (0 : Int64))])
  refine own_via ?_ fun _ kt => XS.lcmp X2.here hx rfl (hb hby d_mulX_26) rfl kt
  show Go _ _ _ _ _ _ _ _ (mkF m 27 #[.val (.long (3600 : Int64)), .second, .val (.long (1000000000 : Int64)), .second, .val (.long (3600000000000 : Int64)), .second, .val (.long (3600 : Int64)), .second, .val (.long (1000000000 : Int64)), .second] [(.int (lcmpW (0 : Int64) (0 : Int64)))])
  refine own_via ?_ fun _ kt => XS.ifYes X2.here hx rfl (pc0 := 27) (pc' := 71) rfl (hb hby d_mulX_27) rfl ((if0 _ _).trans (teq ((lw_eq _ _).mpr rfl)).1) (by decide) (by decide) kt
  show Go _ _ _ _ _ _ _ _ (mkF m 71 #[.val (.long (3600 : Int64)), .second, .val (.long (1000000000 : Int64)), .second, .val (.long (3600000000000 : Int64)), .second, .val (.long (3600 : Int64)), .second, .val (.long (1000000000 : Int64)), .second] [])
  refine own_via ?_ fun _ kt => XS.lload X2.here hx rfl (hb hby d_mulX_71) rfl kt
  show Go _ _ _ _ _ _ _ _ (mkF m 73 #[.val (.long (3600 : Int64)), .second, .val (.long (1000000000 : Int64)), .second, .val (.long (3600000000000 : Int64)), .second, .val (.long (3600 : Int64)), .second, .val (.long (1000000000 : Int64)), .second] [(.long (3600000000000 : Int64))])
  exact own_retJ X2 hx hret hlk (hb hby d_mulX_73) (by decide) (by decide) (by rw [e2]; exact ⟨rfl, N2, rfl⟩)
theorem d_addX_0 : decode jdk_29_method_25_code 0 = .ok (.lload_n 0, 1) := by decide +kernel
theorem d_addX_1 : decode jdk_29_method_25_code 1 = .ok (.lload_n 2, 1) := by decide +kernel
theorem d_addX_2 : decode jdk_29_method_25_code 2 = .ok (.ladd, 1) := by decide +kernel
theorem d_addX_3 : decode jdk_29_method_25_code 3 = .ok (.lstore 4, 2) := by decide +kernel
theorem d_addX_5 : decode jdk_29_method_25_code 5 = .ok (.lload_n 0, 1) := by decide +kernel
theorem d_addX_6 : decode jdk_29_method_25_code 6 = .ok (.lload 4, 2) := by decide +kernel
theorem d_addX_8 : decode jdk_29_method_25_code 8 = .ok (.lxor, 1) := by decide +kernel
theorem d_addX_9 : decode jdk_29_method_25_code 9 = .ok (.lload_n 2, 1) := by decide +kernel
theorem d_addX_10 : decode jdk_29_method_25_code 10 = .ok (.lload 4, 2) := by decide +kernel
theorem d_addX_12 : decode jdk_29_method_25_code 12 = .ok (.lxor, 1) := by decide +kernel
theorem d_addX_13 : decode jdk_29_method_25_code 13 = .ok (.land, 1) := by decide +kernel
theorem d_addX_14 : decode jdk_29_method_25_code 14 = .ok (.lconst 0, 1) := by decide +kernel
theorem d_addX_15 : decode jdk_29_method_25_code 15 = .ok (.lcmp, 1) := by decide +kernel
theorem d_addX_16 : decode jdk_29_method_25_code 16 = .ok (.ifCond .ge 13, 3) := by decide +kernel
theorem d_addX_29 : decode jdk_29_method_25_code 29 = .ok (.lload 4, 2) := by decide +kernel
theorem d_addX_31 : decode jdk_29_method_25_code 31 = .ok (.lreturn, 1) := by decide +kernel
def Q_addX (Z : State)  (h0 : Heap) (n0 : Nat) (v : Option Value) (h : Heap) (L : List Loc) : Prop := v = some (.long (3600000000000 : Int64)) ∧ Fr n0 L ∧ h = h0
set_option maxRecDepth 65536 in
set_option maxHeartbeats 40000000 in
theorem rm_addX (l : Launch) (Z : State) (a0 : Array Value) (hw : ∀ d ∈ tables_1, d.before a0 Z = true) (ws : List Jvm.Cond)  (h0 : Heap) (n0 : Nat) (Z0 : n0 ≤ h0.size) :
    MetFree l (⟨"java/lang/Math", "addExact", "(JJ)J"⟩ : MethodName) (head1 (Jvm.Cond.code (⟨"java/lang/Math", "addExact", "(JJ)J"⟩ : MethodName) jdk_29_method_25_code 6 (some .long) :: ws) ({ frames := 0, cells := 0, slots := 0, locals := 0 } : Room)) (fun aa_ U => aa_ = #[(.long (3600000000000 : Int64)), (.long (0 : Int64))] ∧ Z.Warmed39 U.vm ∧ U.heap = h0) (fun _ _ _ _ _ => True) (fun _ UU_ oo_ UV_ => ∃ vv_ LL_, oo_ = .returned vv_ ∧ (Q_addX Z  h0 n0) vv_ UV_.heap LL_ ∧ FrameEnd UU_ oo_ UV_ LL_ ({ frames := 0, cells := 0, slots := 0, locals := 0 } : Room).cells ({ frames := 0, cells := 0, slots := 0, locals := 0 } : Room).slots) := by
  refine MetFree.of_bodySF (Jvm.Free.JP.mathPlain rfl (by decide +kernel)) hisR ?_
  intro p e s m args below meth c s₁ Bd hml0 hP hK
  obtain ⟨rfl, hZ, hh⟩ := hP
  have hx := Bd.exec
  have hby := Bd.bytes
  have hlk : meth.locks = false := BodyLoose.notSynchronized Bd
  have hret := Bd.returns
  have hml : c.maxLocals = 6 := hml0
  have hown : s.vm.findClass "java/lang/Math" = some m.cls := findClass_of_methodNamed Bd.named
  have hnm := (name_of_methodNamed Bd.named Bd.method).1
  have X0 : Stand p l e ({ frames := 0, cells := 0, slots := 0, locals := 0 } : Room) s m #[(.long (3600000000000 : Int64)), (.long (0 : Int64))] below meth c s₁ [] 0 0 := Stand.of_body Bd
  have e0 : s₁.heap = h0 := by rw [← hh, Bd.state]; rfl
  have N0 := Fr.nil n0
  show Go p e below s ({ frames := 0, cells := 0, slots := 0, locals := 0 } : Room).cells ({ frames := 0, cells := 0, slots := 0, locals := 0 } : Room).slots (Q_addX Z  h0 n0) s₁ (entryFrame m #[(.long (3600000000000 : Int64)), (.long (0 : Int64))] 6)
  refine own_cast (g' := mkF m 0 #[.val (.long (3600000000000 : Int64)), .second, .val (.long (0 : Int64)), .second, .unset, .unset] []) (by first | (simp [entryFrame, mkF, argsToLocals, Value.category]; done) | rfl) ?_
  show Go _ _ _ _ _ _ _ _ (mkF m 0 #[.val (.long (3600000000000 : Int64)), .second, .val (.long (0 : Int64)), .second, .unset, .unset] [])
  refine own_via ?_ fun _ kt => XS.lloadN X0.here hx rfl (hb hby d_addX_0) rfl kt
  show Go _ _ _ _ _ _ _ _ (mkF m 1 #[.val (.long (3600000000000 : Int64)), .second, .val (.long (0 : Int64)), .second, .unset, .unset] [(.long (3600000000000 : Int64))])
  refine own_via ?_ fun _ kt => XS.lloadN X0.here hx rfl (hb hby d_addX_1) rfl kt
  show Go _ _ _ _ _ _ _ _ (mkF m 2 #[.val (.long (3600000000000 : Int64)), .second, .val (.long (0 : Int64)), .second, .unset, .unset] [(.long (0 : Int64)), (.long (3600000000000 : Int64))])
  refine own_via ?_ fun _ kt => XS.ladd X0.here hx rfl (hb hby d_addX_2) rfl kt
  show Go _ _ _ _ _ _ _ _ (mkF m 3 #[.val (.long (3600000000000 : Int64)), .second, .val (.long (0 : Int64)), .second, .unset, .unset] [(.long ((3600000000000 : Int64) + (0 : Int64)))])
  rw [show ((3600000000000 : Int64) + (0 : Int64)) = (3600000000000 : Int64) from by decide]
  show Go _ _ _ _ _ _ _ _ (mkF m 3 #[.val (.long (3600000000000 : Int64)), .second, .val (.long (0 : Int64)), .second, .unset, .unset] [(.long (3600000000000 : Int64))])
  refine own_via ?_ fun _ kt => XS.lstore X0.here hx rfl (hb hby d_addX_3) rfl (l' := #[.val (.long (3600000000000 : Int64)), .second, .val (.long (0 : Int64)), .second, .val (.long (3600000000000 : Int64)), .second]) rfl kt
  show Go _ _ _ _ _ _ _ _ (mkF m 5 #[.val (.long (3600000000000 : Int64)), .second, .val (.long (0 : Int64)), .second, .val (.long (3600000000000 : Int64)), .second] [])
  refine own_via ?_ fun _ kt => XS.lloadN X0.here hx rfl (hb hby d_addX_5) rfl kt
  show Go _ _ _ _ _ _ _ _ (mkF m 6 #[.val (.long (3600000000000 : Int64)), .second, .val (.long (0 : Int64)), .second, .val (.long (3600000000000 : Int64)), .second] [(.long (3600000000000 : Int64))])
  refine own_via ?_ fun _ kt => XS.lload X0.here hx rfl (hb hby d_addX_6) rfl kt
  show Go _ _ _ _ _ _ _ _ (mkF m 8 #[.val (.long (3600000000000 : Int64)), .second, .val (.long (0 : Int64)), .second, .val (.long (3600000000000 : Int64)), .second] [(.long (3600000000000 : Int64)), (.long (3600000000000 : Int64))])
  refine own_via ?_ fun _ kt => XS.lxor X0.here hx rfl (hb hby d_addX_8) rfl kt
  show Go _ _ _ _ _ _ _ _ (mkF m 9 #[.val (.long (3600000000000 : Int64)), .second, .val (.long (0 : Int64)), .second, .val (.long (3600000000000 : Int64)), .second] [(.long ((3600000000000 : Int64) ^^^ (3600000000000 : Int64)))])
  rw [show ((3600000000000 : Int64) ^^^ (3600000000000 : Int64)) = (0 : Int64) from by decide]
  show Go _ _ _ _ _ _ _ _ (mkF m 9 #[.val (.long (3600000000000 : Int64)), .second, .val (.long (0 : Int64)), .second, .val (.long (3600000000000 : Int64)), .second] [(.long (0 : Int64))])
  refine own_via ?_ fun _ kt => XS.lloadN X0.here hx rfl (hb hby d_addX_9) rfl kt
  show Go _ _ _ _ _ _ _ _ (mkF m 10 #[.val (.long (3600000000000 : Int64)), .second, .val (.long (0 : Int64)), .second, .val (.long (3600000000000 : Int64)), .second] [(.long (0 : Int64)), (.long (0 : Int64))])
  refine own_via ?_ fun _ kt => XS.lload X0.here hx rfl (hb hby d_addX_10) rfl kt
  show Go _ _ _ _ _ _ _ _ (mkF m 12 #[.val (.long (3600000000000 : Int64)), .second, .val (.long (0 : Int64)), .second, .val (.long (3600000000000 : Int64)), .second] [(.long (3600000000000 : Int64)), (.long (0 : Int64)), (.long (0 : Int64))])
  refine own_via ?_ fun _ kt => XS.lxor X0.here hx rfl (hb hby d_addX_12) rfl kt
  show Go _ _ _ _ _ _ _ _ (mkF m 13 #[.val (.long (3600000000000 : Int64)), .second, .val (.long (0 : Int64)), .second, .val (.long (3600000000000 : Int64)), .second] [(.long ((0 : Int64) ^^^ (3600000000000 : Int64))), (.long (0 : Int64))])
  rw [show ((0 : Int64) ^^^ (3600000000000 : Int64)) = (3600000000000 : Int64) from by decide]
  show Go _ _ _ _ _ _ _ _ (mkF m 13 #[.val (.long (3600000000000 : Int64)), .second, .val (.long (0 : Int64)), .second, .val (.long (3600000000000 : Int64)), .second] [(.long (3600000000000 : Int64)), (.long (0 : Int64))])
  refine own_via ?_ fun _ kt => XS.land X0.here hx rfl (hb hby d_addX_13) rfl kt
  show Go _ _ _ _ _ _ _ _ (mkF m 14 #[.val (.long (3600000000000 : Int64)), .second, .val (.long (0 : Int64)), .second, .val (.long (3600000000000 : Int64)), .second] [(.long ((0 : Int64) &&& (3600000000000 : Int64)))])
  rw [show ((0 : Int64) &&& (3600000000000 : Int64)) = (0 : Int64) from by decide]
  show Go _ _ _ _ _ _ _ _ (mkF m 14 #[.val (.long (3600000000000 : Int64)), .second, .val (.long (0 : Int64)), .second, .val (.long (3600000000000 : Int64)), .second] [(.long (0 : Int64))])
  refine own_via ?_ fun _ kt => XS.lconst X0.here hx rfl (hb hby d_addX_14) kt
  show Go _ _ _ _ _ _ _ _ (mkF m 15 #[.val (.long (3600000000000 : Int64)), .second, .val (.long (0 : Int64)), .second, .val (.long (3600000000000 : Int64)), .second] [(.long (0 : Int64)), (.long (0 : Int64))])
  refine own_via ?_ fun _ kt => XS.lcmp X0.here hx rfl (hb hby d_addX_15) rfl kt
  show Go _ _ _ _ _ _ _ _ (mkF m 16 #[.val (.long (3600000000000 : Int64)), .second, .val (.long (0 : Int64)), .second, .val (.long (3600000000000 : Int64)), .second] [(.int (lcmpW (0 : Int64) (0 : Int64)))])
  refine own_via ?_ fun _ kt => XS.ifYes X0.here hx rfl (pc0 := 16) (pc' := 29) rfl (hb hby d_addX_16) rfl ((if0 _ _).trans (flt (fun q => (by decide : ¬ ((0 : Int64) < (0 : Int64))) ((lw_lt _ _).mp q))).2.1) (by decide) (by decide) kt
  show Go _ _ _ _ _ _ _ _ (mkF m 29 #[.val (.long (3600000000000 : Int64)), .second, .val (.long (0 : Int64)), .second, .val (.long (3600000000000 : Int64)), .second] [])
  refine own_via ?_ fun _ kt => XS.lload X0.here hx rfl (hb hby d_addX_29) rfl kt
  show Go _ _ _ _ _ _ _ _ (mkF m 31 #[.val (.long (3600000000000 : Int64)), .second, .val (.long (0 : Int64)), .second, .val (.long (3600000000000 : Int64)), .second] [(.long (3600000000000 : Int64))])
  exact own_retJ X0 hx hret hlk (hb hby d_addX_31) (by decide) (by decide) (by rw [e0]; exact ⟨rfl, N0, rfl⟩)
theorem d_nanos_0 : decode jdk_2316_method_58_code 0 = .ok (.aload_n 0, 1) := by decide +kernel
theorem d_nanos_1 : decode jdk_2316_method_58_code 1 = .ok (.getfield 221, 3) := by decide +kernel
theorem d_nanos_4 : decode jdk_2316_method_58_code 4 = .ok (.lstore_n 1, 1) := by decide +kernel
theorem d_nanos_5 : decode jdk_2316_method_58_code 5 = .ok (.aload_n 0, 1) := by decide +kernel
theorem d_nanos_6 : decode jdk_2316_method_58_code 6 = .ok (.getfield 224, 3) := by decide +kernel
theorem d_nanos_9 : decode jdk_2316_method_58_code 9 = .ok (.i2l, 1) := by decide +kernel
theorem d_nanos_10 : decode jdk_2316_method_58_code 10 = .ok (.lstore_n 3, 1) := by decide +kernel
theorem d_nanos_11 : decode jdk_2316_method_58_code 11 = .ok (.lload_n 1, 1) := by decide +kernel
theorem d_nanos_12 : decode jdk_2316_method_58_code 12 = .ok (.lconst 0, 1) := by decide +kernel
theorem d_nanos_13 : decode jdk_2316_method_58_code 13 = .ok (.lcmp, 1) := by decide +kernel
theorem d_nanos_14 : decode jdk_2316_method_58_code 14 = .ok (.ifCond .ge 13, 3) := by decide +kernel
theorem d_nanos_27 : decode jdk_2316_method_58_code 27 = .ok (.lload_n 1, 1) := by decide +kernel
theorem d_nanos_28 : decode jdk_2316_method_58_code 28 = .ok (.ldc2_w 16, 3) := by decide +kernel
theorem d_nanos_31 : decode jdk_2316_method_58_code 31 = .ok (.invokestatic 289, 3) := by decide +kernel
theorem d_nanos_34 : decode jdk_2316_method_58_code 34 = .ok (.lstore 5, 2) := by decide +kernel
theorem d_nanos_36 : decode jdk_2316_method_58_code 36 = .ok (.lload 5, 2) := by decide +kernel
theorem d_nanos_38 : decode jdk_2316_method_58_code 38 = .ok (.lload_n 3, 1) := by decide +kernel
theorem d_nanos_39 : decode jdk_2316_method_58_code 39 = .ok (.invokestatic 22, 3) := by decide +kernel
theorem d_nanos_42 : decode jdk_2316_method_58_code 42 = .ok (.lstore 5, 2) := by decide +kernel
theorem d_nanos_44 : decode jdk_2316_method_58_code 44 = .ok (.lload 5, 2) := by decide +kernel
theorem d_nanos_46 : decode jdk_2316_method_58_code 46 = .ok (.lreturn, 1) := by decide +kernel
def Q_nanos (Z : State) (a : Addr) (h0 : Heap) (n0 : Nat) (v : Option Value) (h : Heap) (L : List Loc) : Prop := v = some (.long (3600000000000 : Int64)) ∧ Fr n0 L ∧ h = h0
set_option maxRecDepth 65536 in
set_option maxHeartbeats 40000000 in
theorem rm_nanos (l : Launch) (Z : State) (a0 : Array Value) (hw : ∀ d ∈ tables_1, d.before a0 Z = true) (ws : List Jvm.Cond) (a : Addr) (h0 : Heap) (n0 : Nat) (Z0 : n0 ≤ h0.size) (Fs : Fld Z h0 a "java/time/Duration" "seconds" "J" (.long (3600 : Int64))) (Fn : Fld Z h0 a "java/time/Duration" "nanos" "I" (.int (0 : Int32))) :
    MetFree l (⟨"java/time/Duration", "toNanos", "()J"⟩ : MethodName) (head1 (Jvm.Cond.code (⟨"java/time/Duration", "toNanos", "()J"⟩ : MethodName) jdk_2316_method_58_code 7 (some .long) :: ws) ({ frames := 2, cells := 0, slots := 0, locals := 43 } : Room)) (fun aa_ U => aa_ = #[(.ref a)] ∧ Z.Warmed39 U.vm ∧ U.heap = h0) (fun _ _ _ _ _ => True) (fun _ UU_ oo_ UV_ => ∃ vv_ LL_, oo_ = .returned vv_ ∧ (Q_nanos Z a h0 n0) vv_ UV_.heap LL_ ∧ FrameEnd UU_ oo_ UV_ LL_ ({ frames := 2, cells := 0, slots := 0, locals := 43 } : Room).cells ({ frames := 2, cells := 0, slots := 0, locals := 43 } : Room).slots) := by
  refine MetFree.of_bodySF (plainFor_of_name pn0) hisR ?_
  intro p e s m args below meth c s₁ Bd hml0 hP hK
  obtain ⟨rfl, hZ, hh⟩ := hP
  have hx := Bd.exec
  have hby := Bd.bytes
  have hlk : meth.locks = false := BodyLoose.notSynchronized Bd
  have hret := Bd.returns
  have hml : c.maxLocals = 7 := hml0
  have hown : s.vm.findClass "java/time/Duration" = some m.cls := findClass_of_methodNamed Bd.named
  have hnm := (name_of_methodNamed Bd.named Bd.method).1
  have X0 : Stand p l e ({ frames := 2, cells := 0, slots := 0, locals := 43 } : Room) s m #[(.ref a)] below meth c s₁ [] 0 0 := Stand.of_body Bd
  have e0 : s₁.heap = h0 := by rw [← hh, Bd.state]; rfl
  have N0 := Fr.nil n0
  show Go p e below s ({ frames := 2, cells := 0, slots := 0, locals := 43 } : Room).cells ({ frames := 2, cells := 0, slots := 0, locals := 43 } : Room).slots (Q_nanos Z a h0 n0) s₁ (entryFrame m #[(.ref a)] 7)
  refine own_cast (g' := mkF m 0 #[.val (.ref a), .unset, .unset, .unset, .unset, .unset, .unset] []) (by first | (simp [entryFrame, mkF, argsToLocals, Value.category]; done) | rfl) ?_
  show Go _ _ _ _ _ _ _ _ (mkF m 0 #[.val (.ref a), .unset, .unset, .unset, .unset, .unset, .unset] [])
  refine own_via ?_ fun _ kt => XS.aloadN X0.here hx rfl (hb hby d_nanos_0) rfl rfl kt
  show Go _ _ _ _ _ _ _ _ (mkF m 1 #[.val (.ref a), .unset, .unset, .unset, .unset, .unset, .unset] [(.ref a)])
  obtain ⟨T1, X1, e1, st1⟩ := getF X0 hx hZ hown (host := "") (Or.inl (hw _ (List.mem_of_getElem? (i := 36) rfl))) Via.refl e0 Fs (g := (mkF m 1 #[.val (.ref a), .unset, .unset, .unset, .unset, .unset, .unset] [(.ref a)])) rfl rfl (hb hby d_nanos_1)
  refine own_via ?_ st1
  show Go _ _ _ _ _ _ _ _ (mkF m 4 #[.val (.ref a), .unset, .unset, .unset, .unset, .unset, .unset] [(.long (3600 : Int64))])
  refine own_via ?_ fun _ kt => XS.lstoreN X1.here hx rfl (hb hby d_nanos_4) rfl (l' := #[.val (.ref a), .val (.long (3600 : Int64)), .second, .unset, .unset, .unset, .unset]) rfl kt
  show Go _ _ _ _ _ _ _ _ (mkF m 5 #[.val (.ref a), .val (.long (3600 : Int64)), .second, .unset, .unset, .unset, .unset] [])
  refine own_via ?_ fun _ kt => XS.aloadN X1.here hx rfl (hb hby d_nanos_5) rfl rfl kt
  show Go _ _ _ _ _ _ _ _ (mkF m 6 #[.val (.ref a), .val (.long (3600 : Int64)), .second, .unset, .unset, .unset, .unset] [(.ref a)])
  obtain ⟨T2, X2, e2, st2⟩ := getF X1 hx hZ hown (host := "") (Or.inl (hw _ (List.mem_of_getElem? (i := 38) rfl))) Via.refl e1 Fn (g := (mkF m 6 #[.val (.ref a), .val (.long (3600 : Int64)), .second, .unset, .unset, .unset, .unset] [(.ref a)])) rfl rfl (hb hby d_nanos_6)
  refine own_via ?_ st2
  show Go _ _ _ _ _ _ _ _ (mkF m 9 #[.val (.ref a), .val (.long (3600 : Int64)), .second, .unset, .unset, .unset, .unset] [(.int (0 : Int32))])
  refine own_via ?_ fun _ kt => XS.i2l X2.here hx rfl (hb hby d_nanos_9) rfl kt
  show Go _ _ _ _ _ _ _ _ (mkF m 10 #[.val (.ref a), .val (.long (3600 : Int64)), .second, .unset, .unset, .unset, .unset] [(.long ((0 : Int32).toInt64))])
  rw [show ((0 : Int32).toInt64) = (0 : Int64) from by decide]
  show Go _ _ _ _ _ _ _ _ (mkF m 10 #[.val (.ref a), .val (.long (3600 : Int64)), .second, .unset, .unset, .unset, .unset] [(.long (0 : Int64))])
  refine own_via ?_ fun _ kt => XS.lstoreN X2.here hx rfl (hb hby d_nanos_10) rfl (l' := #[.val (.ref a), .val (.long (3600 : Int64)), .second, .val (.long (0 : Int64)), .second, .unset, .unset]) rfl kt
  show Go _ _ _ _ _ _ _ _ (mkF m 11 #[.val (.ref a), .val (.long (3600 : Int64)), .second, .val (.long (0 : Int64)), .second, .unset, .unset] [])
  refine own_via ?_ fun _ kt => XS.lloadN X2.here hx rfl (hb hby d_nanos_11) rfl kt
  show Go _ _ _ _ _ _ _ _ (mkF m 12 #[.val (.ref a), .val (.long (3600 : Int64)), .second, .val (.long (0 : Int64)), .second, .unset, .unset] [(.long (3600 : Int64))])
  refine own_via ?_ fun _ kt => XS.lconst X2.here hx rfl (hb hby d_nanos_12) kt
  show Go _ _ _ _ _ _ _ _ (mkF m 13 #[.val (.ref a), .val (.long (3600 : Int64)), .second, .val (.long (0 : Int64)), .second, .unset, .unset] [(.long (0 : Int64)), (.long (3600 : Int64))])
  refine own_via ?_ fun _ kt => XS.lcmp X2.here hx rfl (hb hby d_nanos_13) rfl kt
  show Go _ _ _ _ _ _ _ _ (mkF m 14 #[.val (.ref a), .val (.long (3600 : Int64)), .second, .val (.long (0 : Int64)), .second, .unset, .unset] [(.int (lcmpW (3600 : Int64) (0 : Int64)))])
  refine own_via ?_ fun _ kt => XS.ifYes X2.here hx rfl (pc0 := 14) (pc' := 27) rfl (hb hby d_nanos_14) rfl ((if0 _ _).trans (flt (fun q => (by decide : ¬ ((3600 : Int64) < (0 : Int64))) ((lw_lt _ _).mp q))).2.1) (by decide) (by decide) kt
  show Go _ _ _ _ _ _ _ _ (mkF m 27 #[.val (.ref a), .val (.long (3600 : Int64)), .second, .val (.long (0 : Int64)), .second, .unset, .unset] [])
  refine own_via ?_ fun _ kt => XS.lloadN X2.here hx rfl (hb hby d_nanos_27) rfl kt
  show Go _ _ _ _ _ _ _ _ (mkF m 28 #[.val (.ref a), .val (.long (3600 : Int64)), .second, .val (.long (0 : Int64)), .second, .unset, .unset] [(.long (3600 : Int64))])
  refine own_via ?_ fun _ kt => X2.ldc2Long hx hown (mvT hZ (hw _ (List.mem_of_getElem? (i := 40) rfl))) (g := (mkF m 28 #[.val (.ref a), .val (.long (3600 : Int64)), .second, .val (.long (0 : Int64)), .second, .unset, .unset] [(.long (3600 : Int64))])) rfl (hb hby d_nanos_28) _ kt
  show Go _ _ _ _ _ _ _ _ (mkF m 31 #[.val (.ref a), .val (.long (3600 : Int64)), .second, .val (.long (0 : Int64)), .second, .unset, .unset] [(.long (1000000000 : Int64)), (.long (3600 : Int64))])
  obtain ⟨_, _, ⟨T3, L3, k3, n3⟩, -, X3, ⟨Lc3, hQ3, l3, y3, z3⟩, st3⟩ := Jvm.LawKit.callS X2 hx (y := (⟨"java/lang/Math", "multiplyExact", "(JJ)J"⟩ : MethodName)) hown (mvT hZ (hw _ (List.mem_of_getElem? (i := 41) rfl))) (mvT hZ (hw _ (List.mem_of_getElem? (i := 42) rfl))) (mvT hZ (hw _ (List.mem_of_getElem? (i := 43) rfl))) (mvT hZ (hw _ (List.mem_of_getElem? (i := 44) rfl))) (by decide) (backOf (W := 0) (rm_mulX l Z a0 hw []  h0 n0 Z0) hZ (hw _ (List.mem_of_getElem? (i := 44) rfl)) (hw _ (List.mem_of_getElem? (i := 43) rfl)) (by decide) (by decide)) (g := (mkF m 31 #[.val (.ref a), .val (.long (3600 : Int64)), .second, .val (.long (0 : Int64)), .second, .unset, .unset] [(.long (1000000000 : Int64)), (.long (3600 : Int64))])) rfl (by rw [hml]; rfl) (argsL := [(.long (3600 : Int64)), (.long (1000000000 : Int64))]) (rest := []) (lenOf pd1 rfl) rfl (by show 2 * 0 + _ ≤ _; exact Nat.le_of_eq rfl) (hb hby d_nanos_31) (fun _ _ => ⟨rfl, e2, (by decide : 0 + 0 ≤ _), (by decide : 0 + 0 ≤ _)⟩)
  dsimp only [Pt.U, Pt.locs, Pt.cells, Pt.slots] at X3 l3 y3 z3 st3 hQ3
  subst l3 y3 z3
  obtain ⟨rfl, Nq3, e3⟩ := hQ3
  have N3 := Fr.app N0 Nq3
  refine own_via ?_ st3
  show Go _ _ _ _ _ _ _ _ (mkF m 34 #[.val (.ref a), .val (.long (3600 : Int64)), .second, .val (.long (0 : Int64)), .second, .unset, .unset] [(.long (3600000000000 : Int64))])
  refine own_via ?_ fun _ kt => XS.lstore X3.here hx rfl (hb hby d_nanos_34) rfl (l' := #[.val (.ref a), .val (.long (3600 : Int64)), .second, .val (.long (0 : Int64)), .second, .val (.long (3600000000000 : Int64)), .second]) rfl kt
  show Go _ _ _ _ _ _ _ _ (mkF m 36 #[.val (.ref a), .val (.long (3600 : Int64)), .second, .val (.long (0 : Int64)), .second, .val (.long (3600000000000 : Int64)), .second] [])
  refine own_via ?_ fun _ kt => XS.lload X3.here hx rfl (hb hby d_nanos_36) rfl kt
  show Go _ _ _ _ _ _ _ _ (mkF m 38 #[.val (.ref a), .val (.long (3600 : Int64)), .second, .val (.long (0 : Int64)), .second, .val (.long (3600000000000 : Int64)), .second] [(.long (3600000000000 : Int64))])
  refine own_via ?_ fun _ kt => XS.lloadN X3.here hx rfl (hb hby d_nanos_38) rfl kt
  show Go _ _ _ _ _ _ _ _ (mkF m 39 #[.val (.ref a), .val (.long (3600 : Int64)), .second, .val (.long (0 : Int64)), .second, .val (.long (3600000000000 : Int64)), .second] [(.long (0 : Int64)), (.long (3600000000000 : Int64))])
  obtain ⟨_, _, ⟨T4, L4, k4, n4⟩, -, X4, ⟨Lc4, hQ4, l4, y4, z4⟩, st4⟩ := Jvm.LawKit.callS X3 hx (y := (⟨"java/lang/Math", "addExact", "(JJ)J"⟩ : MethodName)) hown (mvT hZ (hw _ (List.mem_of_getElem? (i := 48) rfl))) (mvT hZ (hw _ (List.mem_of_getElem? (i := 49) rfl))) (mvT hZ (hw _ (List.mem_of_getElem? (i := 43) rfl))) (mvT hZ (hw _ (List.mem_of_getElem? (i := 50) rfl))) (by decide) (backOf (W := 0) (rm_addX l Z a0 hw []  h0 n0 Z0) hZ (hw _ (List.mem_of_getElem? (i := 50) rfl)) (hw _ (List.mem_of_getElem? (i := 43) rfl)) (by decide) (by decide)) (g := (mkF m 39 #[.val (.ref a), .val (.long (3600 : Int64)), .second, .val (.long (0 : Int64)), .second, .val (.long (3600000000000 : Int64)), .second] [(.long (0 : Int64)), (.long (3600000000000 : Int64))])) rfl (by rw [hml]; rfl) (argsL := [(.long (3600000000000 : Int64)), (.long (0 : Int64))]) (rest := []) (lenOf pd1 rfl) rfl (by show 2 * 0 + _ ≤ _; exact Nat.le_of_eq rfl) (hb hby d_nanos_39) (fun _ _ => ⟨rfl, e3, (by decide : 0 + 0 ≤ _), (by decide : 0 + 0 ≤ _)⟩)
  dsimp only [Pt.U, Pt.locs, Pt.cells, Pt.slots] at X4 l4 y4 z4 st4 hQ4
  subst l4 y4 z4
  obtain ⟨rfl, Nq4, e4⟩ := hQ4
  have N4 := Fr.app N3 Nq4
  refine own_via ?_ st4
  show Go _ _ _ _ _ _ _ _ (mkF m 42 #[.val (.ref a), .val (.long (3600 : Int64)), .second, .val (.long (0 : Int64)), .second, .val (.long (3600000000000 : Int64)), .second] [(.long (3600000000000 : Int64))])
  refine own_via ?_ fun _ kt => XS.lstore X4.here hx rfl (hb hby d_nanos_42) rfl (l' := #[.val (.ref a), .val (.long (3600 : Int64)), .second, .val (.long (0 : Int64)), .second, .val (.long (3600000000000 : Int64)), .second]) rfl kt
  show Go _ _ _ _ _ _ _ _ (mkF m 44 #[.val (.ref a), .val (.long (3600 : Int64)), .second, .val (.long (0 : Int64)), .second, .val (.long (3600000000000 : Int64)), .second] [])
  refine own_via ?_ fun _ kt => XS.lload X4.here hx rfl (hb hby d_nanos_44) rfl kt
  show Go _ _ _ _ _ _ _ _ (mkF m 46 #[.val (.ref a), .val (.long (3600 : Int64)), .second, .val (.long (0 : Int64)), .second, .val (.long (3600000000000 : Int64)), .second] [(.long (3600000000000 : Int64))])
  exact own_retJ X4 hx hret hlk (hb hby d_nanos_46) (by decide) (by decide) (by rw [e4]; exact ⟨rfl, N4, rfl⟩)
theorem d_init_0 : decode prog_65_method_1_code 0 = .ok (.aload_n 0, 1) := by decide +kernel
theorem d_init_1 : decode prog_65_method_1_code 1 = .ok (.invokespecial 1, 3) := by decide +kernel
theorem d_init_4 : decode prog_65_method_1_code 4 = .ok (.aload_n 0, 1) := by decide +kernel
theorem d_init_5 : decode prog_65_method_1_code 5 = .ok (.iload_n 1, 1) := by decide +kernel
theorem d_init_6 : decode prog_65_method_1_code 6 = .ok (.putfield 7, 3) := by decide +kernel
theorem d_init_9 : decode prog_65_method_1_code 9 = .ok (.return_, 1) := by decide +kernel
def Q_init (Z : State) (a : Addr) (lim : Int32) (h0 : Heap) (n0 : Nat) (v : Option Value) (h : Heap) (L : List Loc) : Prop := v = none ∧ Fr n0 L ∧ Keep h0 h [a] ∧ Exa Z h a "com/example/dovecote/dovecote/standin/isds/Lockout" ∧ Fld Z h a "com/example/dovecote/dovecote/standin/isds/Lockout" "limit" "I" (.int lim) ∧ Fld Z h a "com/example/dovecote/dovecote/standin/isds/Lockout" "refusals" "I" (.int (0 : Int32)) ∧ Fld Z h a "com/example/dovecote/dovecote/standin/isds/Lockout" "locked" "Z" (.int (0 : Int32)) ∧ Fld Z h a "com/example/dovecote/dovecote/standin/isds/Lockout" "lockedAt" "J" (.long (0 : Int64))
set_option maxRecDepth 65536 in
set_option maxHeartbeats 40000000 in
theorem rm_init (l : Launch) (Z : State) (a0 : Array Value) (hw : ∀ d ∈ tables_1, d.before a0 Z = true) (ws : List Jvm.Cond) (a : Addr) (lim : Int32) (h0 : Heap) (n0 : Nat) (Z0 : n0 ≤ h0.size) (g_a : n0 ≤ a) (E : Exa Z h0 a "com/example/dovecote/dovecote/standin/isds/Lockout") (Fl : Fld Z h0 a "com/example/dovecote/dovecote/standin/isds/Lockout" "limit" "I" (.int (0 : Int32))) (Fq : Fld Z h0 a "com/example/dovecote/dovecote/standin/isds/Lockout" "refusals" "I" (.int (0 : Int32))) (Fk : Fld Z h0 a "com/example/dovecote/dovecote/standin/isds/Lockout" "locked" "Z" (.int (0 : Int32))) (Fa : Fld Z h0 a "com/example/dovecote/dovecote/standin/isds/Lockout" "lockedAt" "J" (.long (0 : Int64))) :
    MetFree l (⟨"com/example/dovecote/dovecote/standin/isds/Lockout", "<init>", "(I)V"⟩ : MethodName) (head1 (Jvm.Cond.code (⟨"com/example/dovecote/dovecote/standin/isds/Lockout", "<init>", "(I)V"⟩ : MethodName) prog_65_method_1_code 2 none :: ws) ({ frames := 1, cells := 0, slots := 0, locals := 12 } : Room)) (fun aa_ U => aa_ = #[(.ref a), (.int lim)] ∧ Z.Warmed39 U.vm ∧ U.heap = h0) (fun _ _ _ _ _ => True) (fun _ UU_ oo_ UV_ => ∃ vv_ LL_, oo_ = .returned vv_ ∧ (Q_init Z a lim h0 n0) vv_ UV_.heap LL_ ∧ FrameEnd UU_ oo_ UV_ LL_ ({ frames := 1, cells := 0, slots := 0, locals := 12 } : Room).cells ({ frames := 1, cells := 0, slots := 0, locals := 12 } : Room).slots) := by
  refine MetFree.of_bodySF (plainFor_of_name pn1) hisR ?_
  intro p e s m args below meth c s₁ Bd hml0 hP hK
  obtain ⟨rfl, hZ, hh⟩ := hP
  have hx := Bd.exec
  have hby := Bd.bytes
  have hlk : meth.locks = false := BodyLoose.notSynchronized Bd
  have hret := Bd.returns
  have hml : c.maxLocals = 2 := hml0
  have hown : s.vm.findClass "com/example/dovecote/dovecote/standin/isds/Lockout" = some m.cls := findClass_of_methodNamed Bd.named
  have hnm := (name_of_methodNamed Bd.named Bd.method).1
  have X0 : Stand p l e ({ frames := 1, cells := 0, slots := 0, locals := 12 } : Room) s m #[(.ref a), (.int lim)] below meth c s₁ [] 0 0 := Stand.of_body Bd
  have e0 : s₁.heap = h0 := by rw [← hh, Bd.state]; rfl
  have N0 := Fr.nil n0
  show Go p e below s ({ frames := 1, cells := 0, slots := 0, locals := 12 } : Room).cells ({ frames := 1, cells := 0, slots := 0, locals := 12 } : Room).slots (Q_init Z a lim h0 n0) s₁ (entryFrame m #[(.ref a), (.int lim)] 2)
  refine own_cast (g' := mkF m 0 #[.val (.ref a), .val (.int lim)] []) (by first | (simp [entryFrame, mkF, argsToLocals, Value.category]; done) | rfl) ?_
  have K0 := Keep.refl h0 [a]
  show Go _ _ _ _ _ _ _ _ (mkF m 0 #[.val (.ref a), .val (.int lim)] [])
  refine own_via ?_ fun _ kt => XS.aloadN X0.here hx rfl (hb hby d_init_0) rfl rfl kt
  show Go _ _ _ _ _ _ _ _ (mkF m 1 #[.val (.ref a), .val (.int lim)] [(.ref a)])
  obtain ⟨T1, X1, e1, st1⟩ := initO X0 hx hZ hown (hw _ (List.mem_of_getElem? (i := 6) rfl)) (hw _ (List.mem_of_getElem? (i := 7) rfl)) (hw _ (List.mem_of_getElem? (i := 8) rfl)) e0 (g := (mkF m 1 #[.val (.ref a), .val (.int lim)] [(.ref a)])) rfl (by rw [hml]; rfl) rfl (hb hby d_init_1) (by decide) (W := 0) (by show 2 * 0 + _ ≤ _; exact Nat.le_of_eq rfl) (by decide)
  refine own_via ?_ st1
  show Go _ _ _ _ _ _ _ _ (mkF m 4 #[.val (.ref a), .val (.int lim)] [])
  refine own_via ?_ fun _ kt => XS.aloadN X1.here hx rfl (hb hby d_init_4) rfl rfl kt
  show Go _ _ _ _ _ _ _ _ (mkF m 5 #[.val (.ref a), .val (.int lim)] [(.ref a)])
  refine own_via ?_ fun _ kt => XS.iloadN X1.here hx rfl (hb hby d_init_5) rfl kt
  show Go _ _ _ _ _ _ _ _ (mkF m 6 #[.val (.ref a), .val (.int lim)] [(.int lim), (.ref a)])
  obtain ⟨T2, h2, X2, e2, W2, st2⟩ := putF X1 hx hZ hown (host := "") (Or.inl (hw _ (List.mem_of_getElem? (i := 9) rfl))) Via.refl e1 Fl E (Or.inr ⟨(hw _ (List.mem_of_getElem? (i := 10) rfl)), rfl, hnm⟩) (hw _ (List.mem_of_getElem? (i := 1) rfl)) (ty := .int) (by decide) rfl rfl (g := (mkF m 6 #[.val (.ref a), .val (.int lim)] [(.int lim), (.ref a)])) rfl rfl (hb hby d_init_6)
  have N2 := Fr.snoc X2 N0 g_a
  replace E := E.wr W2
  replace Fl := Fl.same W2
  replace Fq := Fq.other W2 (Or.inr (slot_ne (Or.inl (hw _ (List.mem_of_getElem? (i := 17) rfl))) (Or.inr (hw _ (List.mem_of_getElem? (i := 10) rfl))) (by decide) (t := .int) (t' := .int) (by decide) (by decide)))
  replace Fk := Fk.other W2 (Or.inr (slot_ne (Or.inl (hw _ (List.mem_of_getElem? (i := 24) rfl))) (Or.inr (hw _ (List.mem_of_getElem? (i := 10) rfl))) (by decide) (t := .boolean) (t' := .int) (by decide) (by decide)))
  replace Fa := Fa.other W2 (Or.inr (slot_ne (Or.inl (hw _ (List.mem_of_getElem? (i := 26) rfl))) (Or.inr (hw _ (List.mem_of_getElem? (i := 10) rfl))) (by decide) (t := .long) (t' := .int) (by decide) (by decide)))
  replace Z0 := Nat.le_trans Z0 (Keep.of_wr W2).1
  replace K0 := K0.wr W2 (Or.inl (List.mem_of_getElem? (i := 0) rfl))
  refine own_via ?_ st2
  show Go _ _ _ _ _ _ _ _ (mkF m 9 #[.val (.ref a), .val (.int lim)] [])
  exact own_retV X2 hx hret hlk (hb hby d_init_9) (by decide) (by decide) (by rw [e2]; exact ⟨rfl, N2, K0, E, Fl, Fq, Fk, Fa⟩)
theorem d_count_0 : decode prog_65_method_3_code 0 = .ok (.iload_n 1, 1) := by decide +kernel
theorem d_count_1 : decode prog_65_method_3_code 1 = .ok (.ifCond .ne 9, 3) := by decide +kernel
theorem d_count_4 : decode prog_65_method_3_code 4 = .ok (.aload_n 0, 1) := by decide +kernel
theorem d_count_5 : decode prog_65_method_3_code 5 = .ok (.iconst 0, 1) := by decide +kernel
theorem d_count_6 : decode prog_65_method_3_code 6 = .ok (.putfield 31, 3) := by decide +kernel
theorem d_count_9 : decode prog_65_method_3_code 9 = .ok (.return_, 1) := by decide +kernel
theorem d_count_10 : decode prog_65_method_3_code 10 = .ok (.aload_n 0, 1) := by decide +kernel
theorem d_count_11 : decode prog_65_method_3_code 11 = .ok (.dup, 1) := by decide +kernel
theorem d_count_12 : decode prog_65_method_3_code 12 = .ok (.getfield 31, 3) := by decide +kernel
theorem d_count_15 : decode prog_65_method_3_code 15 = .ok (.iconst 1, 1) := by decide +kernel
theorem d_count_16 : decode prog_65_method_3_code 16 = .ok (.iadd, 1) := by decide +kernel
theorem d_count_17 : decode prog_65_method_3_code 17 = .ok (.putfield 31, 3) := by decide +kernel
theorem d_count_20 : decode prog_65_method_3_code 20 = .ok (.aload_n 0, 1) := by decide +kernel
theorem d_count_21 : decode prog_65_method_3_code 21 = .ok (.getfield 31, 3) := by decide +kernel
theorem d_count_24 : decode prog_65_method_3_code 24 = .ok (.aload_n 0, 1) := by decide +kernel
theorem d_count_25 : decode prog_65_method_3_code 25 = .ok (.getfield 7, 3) := by decide +kernel
theorem d_count_28 : decode prog_65_method_3_code 28 = .ok (.if_icmp .lt 13, 3) := by decide +kernel
theorem d_count_31 : decode prog_65_method_3_code 31 = .ok (.aload_n 0, 1) := by decide +kernel
theorem d_count_32 : decode prog_65_method_3_code 32 = .ok (.iconst 1, 1) := by decide +kernel
theorem d_count_33 : decode prog_65_method_3_code 33 = .ok (.putfield 13, 3) := by decide +kernel
theorem d_count_36 : decode prog_65_method_3_code 36 = .ok (.aload_n 0, 1) := by decide +kernel
theorem d_count_37 : decode prog_65_method_3_code 37 = .ok (.lload_n 2, 1) := by decide +kernel
theorem d_count_38 : decode prog_65_method_3_code 38 = .ok (.putfield 17, 3) := by decide +kernel
theorem d_count_41 : decode prog_65_method_3_code 41 = .ok (.return_, 1) := by decide +kernel
def Q_count (Z : State) (a : Addr) (f : Int32) (t : Int64) (lim r lk : Int32) (la : Int64) (h0 : Heap) (n0 : Nat) (v : Option Value) (h : Heap) (L : List Loc) : Prop := v = none ∧ Fr n0 L ∧ Keep h0 h [a] ∧ Exa Z h a "com/example/dovecote/dovecote/standin/isds/Lockout" ∧ Fld Z h a "com/example/dovecote/dovecote/standin/isds/Lockout" "limit" "I" (.int lim) ∧ Fld Z h a "com/example/dovecote/dovecote/standin/isds/Lockout" "refusals" "I" (.int (rf f r)) ∧ Fld Z h a "com/example/dovecote/dovecote/standin/isds/Lockout" "locked" "Z" (.int (kf f lim r lk)) ∧ Fld Z h a "com/example/dovecote/dovecote/standin/isds/Lockout" "lockedAt" "J" (.long (af f lim r la t))
set_option maxRecDepth 65536 in
set_option maxHeartbeats 40000000 in
theorem rm_count (l : Launch) (Z : State) (a0 : Array Value) (hw : ∀ d ∈ tables_1, d.before a0 Z = true) (ws : List Jvm.Cond) (a : Addr) (f : Int32) (t : Int64) (lim r lk : Int32) (la : Int64) (h0 : Heap) (n0 : Nat) (Z0 : n0 ≤ h0.size) (g_a : n0 ≤ a) (E : Exa Z h0 a "com/example/dovecote/dovecote/standin/isds/Lockout") (Fl : Fld Z h0 a "com/example/dovecote/dovecote/standin/isds/Lockout" "limit" "I" (.int lim)) (Fq : Fld Z h0 a "com/example/dovecote/dovecote/standin/isds/Lockout" "refusals" "I" (.int r)) (Fk : Fld Z h0 a "com/example/dovecote/dovecote/standin/isds/Lockout" "locked" "Z" (.int lk)) (Fa : Fld Z h0 a "com/example/dovecote/dovecote/standin/isds/Lockout" "lockedAt" "J" (.long la)) :
    MetFree l (⟨"com/example/dovecote/dovecote/standin/isds/Lockout", "count", "(ZJ)V"⟩ : MethodName) (head1 (Jvm.Cond.code (⟨"com/example/dovecote/dovecote/standin/isds/Lockout", "count", "(ZJ)V"⟩ : MethodName) prog_65_method_3_code 4 none :: ws) ({ frames := 0, cells := 0, slots := 0, locals := 0 } : Room)) (fun aa_ U => aa_ = #[(.ref a), (.int f), (.long t)] ∧ Z.Warmed39 U.vm ∧ U.heap = h0) (fun _ _ _ _ _ => True) (fun _ UU_ oo_ UV_ => ∃ vv_ LL_, oo_ = .returned vv_ ∧ (Q_count Z a f t lim r lk la h0 n0) vv_ UV_.heap LL_ ∧ FrameEnd UU_ oo_ UV_ LL_ ({ frames := 0, cells := 0, slots := 0, locals := 0 } : Room).cells ({ frames := 0, cells := 0, slots := 0, locals := 0 } : Room).slots) := by
  refine MetFree.of_bodySF (plainFor_of_name pn1) hisR ?_
  intro p e s m args below meth c s₁ Bd hml0 hP hK
  obtain ⟨rfl, hZ, hh⟩ := hP
  have hx := Bd.exec
  have hby := Bd.bytes
  have hlk : meth.locks = false := BodyLoose.notSynchronized Bd
  have hret := Bd.returns
  have hml : c.maxLocals = 4 := hml0
  have hown : s.vm.findClass "com/example/dovecote/dovecote/standin/isds/Lockout" = some m.cls := findClass_of_methodNamed Bd.named
  have hnm := (name_of_methodNamed Bd.named Bd.method).1
  have X0 : Stand p l e ({ frames := 0, cells := 0, slots := 0, locals := 0 } : Room) s m #[(.ref a), (.int f), (.long t)] below meth c s₁ [] 0 0 := Stand.of_body Bd
  have e0 : s₁.heap = h0 := by rw [← hh, Bd.state]; rfl
  have N0 := Fr.nil n0
  show Go p e below s ({ frames := 0, cells := 0, slots := 0, locals := 0 } : Room).cells ({ frames := 0, cells := 0, slots := 0, locals := 0 } : Room).slots (Q_count Z a f t lim r lk la h0 n0) s₁ (entryFrame m #[(.ref a), (.int f), (.long t)] 4)
  refine own_cast (g' := mkF m 0 #[.val (.ref a), .val (.int f), .val (.long t), .second] []) (by first | (simp [entryFrame, mkF, argsToLocals, Value.category]; done) | rfl) ?_
  have K0 := Keep.refl h0 [a]
  show Go _ _ _ _ _ _ _ _ (mkF m 0 #[.val (.ref a), .val (.int f), .val (.long t), .second] [])
  refine own_via ?_ fun _ kt => XS.iloadN X0.here hx rfl (hb hby d_count_0) rfl kt
  show Go _ _ _ _ _ _ _ _ (mkF m 1 #[.val (.ref a), .val (.int f), .val (.long t), .second] [(.int f)])
  by_cases hc1 : f = (0 : Int32)
  · skip
    refine own_via ?_ fun _ kt => XS.ifNo X0.here hx rfl (hb hby d_count_1) rfl ((if0 _ _).trans (teq hc1).2) kt
    show Go _ _ _ _ _ _ _ _ (mkF m 4 #[.val (.ref a), .val (.int f), .val (.long t), .second] [])
    refine own_via ?_ fun _ kt => XS.aloadN X0.here hx rfl (hb hby d_count_4) rfl rfl kt
    show Go _ _ _ _ _ _ _ _ (mkF m 5 #[.val (.ref a), .val (.int f), .val (.long t), .second] [(.ref a)])
    refine own_via ?_ fun _ kt => XS.iconst X0.here hx rfl (hb hby d_count_5) kt
    show Go _ _ _ _ _ _ _ _ (mkF m 6 #[.val (.ref a), .val (.int f), .val (.long t), .second] [(.int (0 : Int32)), (.ref a)])
    obtain ⟨T2, h2, X2, e2, W2, st2⟩ := putF X0 hx hZ hown (host := "") (Or.inl (hw _ (List.mem_of_getElem? (i := 16) rfl))) Via.refl e0 Fq E (Or.inl (hw _ (List.mem_of_getElem? (i := 17) rfl))) (hw _ (List.mem_of_getElem? (i := 1) rfl)) (ty := .int) (by decide) rfl rfl (g := (mkF m 6 #[.val (.ref a), .val (.int f), .val (.long t), .second] [(.int (0 : Int32)), (.ref a)])) rfl rfl (hb hby d_count_6)
    have N2 := Fr.snoc X2 N0 g_a
    replace E := E.wr W2
    replace Fl := Fl.other W2 (Or.inr (slot_ne (Or.inr (hw _ (List.mem_of_getElem? (i := 10) rfl))) (Or.inl (hw _ (List.mem_of_getElem? (i := 17) rfl))) (by decide) (t := .int) (t' := .int) (by decide) (by decide)))
    replace Fq := Fq.same W2
    replace Fk := Fk.other W2 (Or.inr (slot_ne (Or.inl (hw _ (List.mem_of_getElem? (i := 24) rfl))) (Or.inl (hw _ (List.mem_of_getElem? (i := 17) rfl))) (by decide) (t := .boolean) (t' := .int) (by decide) (by decide)))
    replace Fa := Fa.other W2 (Or.inr (slot_ne (Or.inl (hw _ (List.mem_of_getElem? (i := 26) rfl))) (Or.inl (hw _ (List.mem_of_getElem? (i := 17) rfl))) (by decide) (t := .long) (t' := .int) (by decide) (by decide)))
    replace Z0 := Nat.le_trans Z0 (Keep.of_wr W2).1
    replace K0 := K0.wr W2 (Or.inl (List.mem_of_getElem? (i := 0) rfl))
    refine own_via ?_ st2
    show Go _ _ _ _ _ _ _ _ (mkF m 9 #[.val (.ref a), .val (.int f), .val (.long t), .second] [])
    exact own_retV X2 hx hret hlk (hb hby d_count_9) (by decide) (by decide) (by rw [e2]; exact ⟨rfl, N2, K0, E, Fl, (own_fe (by simp [rf, hc1]) Fq), (own_fe (by simp [kf, hc1]) Fk), (own_fe (by simp [af, hc1]) Fa)⟩)
  · skip
    refine own_via ?_ fun _ kt => XS.ifYes X0.here hx rfl (pc0 := 1) (pc' := 10) rfl (hb hby d_count_1) rfl ((if0 _ _).trans (feq hc1).2) (by decide) (by decide) kt
    show Go _ _ _ _ _ _ _ _ (mkF m 10 #[.val (.ref a), .val (.int f), .val (.long t), .second] [])
    refine own_via ?_ fun _ kt => XS.aloadN X0.here hx rfl (hb hby d_count_10) rfl rfl kt
    show Go _ _ _ _ _ _ _ _ (mkF m 11 #[.val (.ref a), .val (.int f), .val (.long t), .second] [(.ref a)])
    refine own_via ?_ fun _ kt => XS.dup X0.here hx rfl (hb hby d_count_11) rfl rfl kt
    show Go _ _ _ _ _ _ _ _ (mkF m 12 #[.val (.ref a), .val (.int f), .val (.long t), .second] [(.ref a), (.ref a)])
    obtain ⟨T3, X3, e3, st3⟩ := getF X0 hx hZ hown (host := "") (Or.inl (hw _ (List.mem_of_getElem? (i := 16) rfl))) Via.refl e0 Fq (g := (mkF m 12 #[.val (.ref a), .val (.int f), .val (.long t), .second] [(.ref a), (.ref a)])) rfl rfl (hb hby d_count_12)
    refine own_via ?_ st3
    show Go _ _ _ _ _ _ _ _ (mkF m 15 #[.val (.ref a), .val (.int f), .val (.long t), .second] [(.int r), (.ref a)])
    refine own_via ?_ fun _ kt => XS.iconst X3.here hx rfl (hb hby d_count_15) kt
    show Go _ _ _ _ _ _ _ _ (mkF m 16 #[.val (.ref a), .val (.int f), .val (.long t), .second] [(.int (1 : Int32)), (.int r), (.ref a)])
    refine own_via ?_ fun _ kt => XS.iadd X3.here hx rfl (hb hby d_count_16) rfl kt
    show Go _ _ _ _ _ _ _ _ (mkF m 17 #[.val (.ref a), .val (.int f), .val (.long t), .second] [(.int (r + (1 : Int32))), (.ref a)])
    obtain ⟨T4, h4, X4, e4, W4, st4⟩ := putF X3 hx hZ hown (host := "") (Or.inl (hw _ (List.mem_of_getElem? (i := 16) rfl))) Via.refl e3 Fq E (Or.inl (hw _ (List.mem_of_getElem? (i := 17) rfl))) (hw _ (List.mem_of_getElem? (i := 1) rfl)) (ty := .int) (by decide) rfl rfl (g := (mkF m 17 #[.val (.ref a), .val (.int f), .val (.long t), .second] [(.int (r + (1 : Int32))), (.ref a)])) rfl rfl (hb hby d_count_17)
    have N4 := Fr.snoc X4 N0 g_a
    replace E := E.wr W4
    replace Fl := Fl.other W4 (Or.inr (slot_ne (Or.inr (hw _ (List.mem_of_getElem? (i := 10) rfl))) (Or.inl (hw _ (List.mem_of_getElem? (i := 17) rfl))) (by decide) (t := .int) (t' := .int) (by decide) (by decide)))
    replace Fq := Fq.same W4
    replace Fk := Fk.other W4 (Or.inr (slot_ne (Or.inl (hw _ (List.mem_of_getElem? (i := 24) rfl))) (Or.inl (hw _ (List.mem_of_getElem? (i := 17) rfl))) (by decide) (t := .boolean) (t' := .int) (by decide) (by decide)))
    replace Fa := Fa.other W4 (Or.inr (slot_ne (Or.inl (hw _ (List.mem_of_getElem? (i := 26) rfl))) (Or.inl (hw _ (List.mem_of_getElem? (i := 17) rfl))) (by decide) (t := .long) (t' := .int) (by decide) (by decide)))
    replace Z0 := Nat.le_trans Z0 (Keep.of_wr W4).1
    replace K0 := K0.wr W4 (Or.inl (List.mem_of_getElem? (i := 0) rfl))
    refine own_via ?_ st4
    show Go _ _ _ _ _ _ _ _ (mkF m 20 #[.val (.ref a), .val (.int f), .val (.long t), .second] [])
    refine own_via ?_ fun _ kt => XS.aloadN X4.here hx rfl (hb hby d_count_20) rfl rfl kt
    show Go _ _ _ _ _ _ _ _ (mkF m 21 #[.val (.ref a), .val (.int f), .val (.long t), .second] [(.ref a)])
    obtain ⟨T5, X5, e5, st5⟩ := getF X4 hx hZ hown (host := "") (Or.inl (hw _ (List.mem_of_getElem? (i := 16) rfl))) Via.refl e4 Fq (g := (mkF m 21 #[.val (.ref a), .val (.int f), .val (.long t), .second] [(.ref a)])) rfl rfl (hb hby d_count_21)
    refine own_via ?_ st5
    show Go _ _ _ _ _ _ _ _ (mkF m 24 #[.val (.ref a), .val (.int f), .val (.long t), .second] [(.int (r + (1 : Int32)))])
    refine own_via ?_ fun _ kt => XS.aloadN X5.here hx rfl (hb hby d_count_24) rfl rfl kt
    show Go _ _ _ _ _ _ _ _ (mkF m 25 #[.val (.ref a), .val (.int f), .val (.long t), .second] [(.ref a), (.int (r + (1 : Int32)))])
    obtain ⟨T6, X6, e6, st6⟩ := getF X5 hx hZ hown (host := "") (Or.inl (hw _ (List.mem_of_getElem? (i := 9) rfl))) Via.refl e5 Fl (g := (mkF m 25 #[.val (.ref a), .val (.int f), .val (.long t), .second] [(.ref a), (.int (r + (1 : Int32)))])) rfl rfl (hb hby d_count_25)
    refine own_via ?_ st6
    show Go _ _ _ _ _ _ _ _ (mkF m 28 #[.val (.ref a), .val (.int f), .val (.long t), .second] [(.int lim), (.int (r + (1 : Int32)))])
    by_cases hc7 : (r + (1 : Int32)) < lim
    · skip
      refine own_via ?_ fun _ kt => XS.icmpYes X6.here hx rfl (pc0 := 28) (pc' := 41) rfl (hb hby d_count_28) rfl (tlt hc7).1 (by decide) (by decide) kt
      show Go _ _ _ _ _ _ _ _ (mkF m 41 #[.val (.ref a), .val (.int f), .val (.long t), .second] [])
      exact own_retV X6 hx hret hlk (hb hby d_count_41) (by decide) (by decide) (by rw [e6]; exact ⟨rfl, N4, K0, E, Fl, (own_fe (by simp [rf, hc1, hc7]) Fq), (own_fe (by simp [kf, hc1, hc7]) Fk), (own_fe (by simp [af, hc1, hc7]) Fa)⟩)
    · skip
      refine own_via ?_ fun _ kt => XS.icmpNo X6.here hx rfl (hb hby d_count_28) rfl (flt hc7).1 kt
      show Go _ _ _ _ _ _ _ _ (mkF m 31 #[.val (.ref a), .val (.int f), .val (.long t), .second] [])
      refine own_via ?_ fun _ kt => XS.aloadN X6.here hx rfl (hb hby d_count_31) rfl rfl kt
      show Go _ _ _ _ _ _ _ _ (mkF m 32 #[.val (.ref a), .val (.int f), .val (.long t), .second] [(.ref a)])
      refine own_via ?_ fun _ kt => XS.iconst X6.here hx rfl (hb hby d_count_32) kt
      show Go _ _ _ _ _ _ _ _ (mkF m 33 #[.val (.ref a), .val (.int f), .val (.long t), .second] [(.int (1 : Int32)), (.ref a)])
      obtain ⟨T8, h8, X8, e8, W8, st8⟩ := putFN X6 hx hZ hown (hw _ (List.mem_of_getElem? (i := 23) rfl)) Via.refl e6 Fk E (Or.inl (hw _ (List.mem_of_getElem? (i := 24) rfl))) (hw _ (List.mem_of_getElem? (i := 1) rfl)) (ty := .boolean) (v' := (.int (1 : Int32))) (by decide) rfl rfl (g := (mkF m 33 #[.val (.ref a), .val (.int f), .val (.long t), .second] [(.int (1 : Int32)), (.ref a)])) rfl rfl (hb hby d_count_33)
      have N8 := Fr.snoc X8 N4 g_a
      replace E := E.wr W8
      replace Fl := Fl.other W8 (Or.inr (slot_ne (Or.inr (hw _ (List.mem_of_getElem? (i := 10) rfl))) (Or.inl (hw _ (List.mem_of_getElem? (i := 24) rfl))) (by decide) (t := .int) (t' := .boolean) (by decide) (by decide)))
      replace Fq := Fq.other W8 (Or.inr (slot_ne (Or.inl (hw _ (List.mem_of_getElem? (i := 17) rfl))) (Or.inl (hw _ (List.mem_of_getElem? (i := 24) rfl))) (by decide) (t := .int) (t' := .boolean) (by decide) (by decide)))
      replace Fk := Fk.same W8
      replace Fa := Fa.other W8 (Or.inr (slot_ne (Or.inl (hw _ (List.mem_of_getElem? (i := 26) rfl))) (Or.inl (hw _ (List.mem_of_getElem? (i := 24) rfl))) (by decide) (t := .long) (t' := .boolean) (by decide) (by decide)))
      replace Z0 := Nat.le_trans Z0 (Keep.of_wr W8).1
      replace K0 := K0.wr W8 (Or.inl (List.mem_of_getElem? (i := 0) rfl))
      refine own_via ?_ st8
      show Go _ _ _ _ _ _ _ _ (mkF m 36 #[.val (.ref a), .val (.int f), .val (.long t), .second] [])
      refine own_via ?_ fun _ kt => XS.aloadN X8.here hx rfl (hb hby d_count_36) rfl rfl kt
      show Go _ _ _ _ _ _ _ _ (mkF m 37 #[.val (.ref a), .val (.int f), .val (.long t), .second] [(.ref a)])
      refine own_via ?_ fun _ kt => XS.lloadN X8.here hx rfl (hb hby d_count_37) rfl kt
      show Go _ _ _ _ _ _ _ _ (mkF m 38 #[.val (.ref a), .val (.int f), .val (.long t), .second] [(.long t), (.ref a)])
      obtain ⟨T9, h9, X9, e9, W9, st9⟩ := putF X8 hx hZ hown (host := "") (Or.inl (hw _ (List.mem_of_getElem? (i := 25) rfl))) Via.refl e8 Fa E (Or.inl (hw _ (List.mem_of_getElem? (i := 26) rfl))) (hw _ (List.mem_of_getElem? (i := 1) rfl)) (ty := .long) (by decide) rfl rfl (g := (mkF m 38 #[.val (.ref a), .val (.int f), .val (.long t), .second] [(.long t), (.ref a)])) rfl rfl (hb hby d_count_38)
      have N9 := Fr.snoc X9 N8 g_a
      replace E := E.wr W9
      replace Fl := Fl.other W9 (Or.inr (slot_ne (Or.inr (hw _ (List.mem_of_getElem? (i := 10) rfl))) (Or.inl (hw _ (List.mem_of_getElem? (i := 26) rfl))) (by decide) (t := .int) (t' := .long) (by decide) (by decide)))
      replace Fq := Fq.other W9 (Or.inr (slot_ne (Or.inl (hw _ (List.mem_of_getElem? (i := 17) rfl))) (Or.inl (hw _ (List.mem_of_getElem? (i := 26) rfl))) (by decide) (t := .int) (t' := .long) (by decide) (by decide)))
      replace Fk := Fk.other W9 (Or.inr (slot_ne (Or.inl (hw _ (List.mem_of_getElem? (i := 24) rfl))) (Or.inl (hw _ (List.mem_of_getElem? (i := 26) rfl))) (by decide) (t := .boolean) (t' := .long) (by decide) (by decide)))
      replace Fa := Fa.same W9
      replace Z0 := Nat.le_trans Z0 (Keep.of_wr W9).1
      replace K0 := K0.wr W9 (Or.inl (List.mem_of_getElem? (i := 0) rfl))
      refine own_via ?_ st9
      show Go _ _ _ _ _ _ _ _ (mkF m 41 #[.val (.ref a), .val (.int f), .val (.long t), .second] [])
      exact own_retV X9 hx hret hlk (hb hby d_count_41) (by decide) (by decide) (by rw [e9]; exact ⟨rfl, N9, K0, E, Fl, (own_fe (by simp [rf, hc1, hc7]) Fq), (own_fe (by simp [kf, hc1, hc7]) Fk), (own_fe (by simp [af, hc1, hc7]) Fa)⟩)
theorem d_locked_0 : decode prog_65_method_2_code 0 = .ok (.aload_n 0, 1) := by decide +kernel
theorem d_locked_1 : decode prog_65_method_2_code 1 = .ok (.getfield 13, 3) := by decide +kernel
theorem d_locked_4 : decode prog_65_method_2_code 4 = .ok (.ifCond .eq 29, 3) := by decide +kernel
theorem d_locked_7 : decode prog_65_method_2_code 7 = .ok (.lload_n 1, 1) := by decide +kernel
theorem d_locked_8 : decode prog_65_method_2_code 8 = .ok (.aload_n 0, 1) := by decide +kernel
theorem d_locked_9 : decode prog_65_method_2_code 9 = .ok (.getfield 17, 3) := by decide +kernel
theorem d_locked_12 : decode prog_65_method_2_code 12 = .ok (.lsub, 1) := by decide +kernel
theorem d_locked_13 : decode prog_65_method_2_code 13 = .ok (.getstatic 21, 3) := by decide +kernel
theorem d_locked_16 : decode prog_65_method_2_code 16 = .ok (.invokevirtual 25, 3) := by decide +kernel
theorem d_locked_19 : decode prog_65_method_2_code 19 = .ok (.lcmp, 1) := by decide +kernel
theorem d_locked_20 : decode prog_65_method_2_code 20 = .ok (.ifCond .lt 13, 3) := by decide +kernel
theorem d_locked_23 : decode prog_65_method_2_code 23 = .ok (.aload_n 0, 1) := by decide +kernel
theorem d_locked_24 : decode prog_65_method_2_code 24 = .ok (.iconst 0, 1) := by decide +kernel
theorem d_locked_25 : decode prog_65_method_2_code 25 = .ok (.putfield 13, 3) := by decide +kernel
theorem d_locked_28 : decode prog_65_method_2_code 28 = .ok (.aload_n 0, 1) := by decide +kernel
theorem d_locked_29 : decode prog_65_method_2_code 29 = .ok (.iconst 0, 1) := by decide +kernel
theorem d_locked_30 : decode prog_65_method_2_code 30 = .ok (.putfield 31, 3) := by decide +kernel
theorem d_locked_33 : decode prog_65_method_2_code 33 = .ok (.aload_n 0, 1) := by decide +kernel
theorem d_locked_34 : decode prog_65_method_2_code 34 = .ok (.getfield 13, 3) := by decide +kernel
theorem d_locked_37 : decode prog_65_method_2_code 37 = .ok (.ireturn, 1) := by decide +kernel
def Q_locked (Z : State) (a : Addr) (q : Int64) (lim r lk : Int32) (la : Int64) (ad : Addr) (h0 : Heap) (n0 : Nat) (v : Option Value) (h : Heap) (L : List Loc) : Prop := v = some (.int (lv lk la q)) ∧ Fr n0 L
set_option maxRecDepth 65536 in
set_option maxHeartbeats 40000000 in
theorem rm_locked (l : Launch) (Z : State) (a0 : Array Value) (hw : ∀ d ∈ tables_1, d.before a0 Z = true) (ws : List Jvm.Cond) (a : Addr) (q : Int64) (lim r lk : Int32) (la : Int64) (ad : Addr) (h0 : Heap) (n0 : Nat) (Z0 : n0 ≤ h0.size) (g_a : n0 ≤ a) (hlkb : lk = (0 : Int32) ∨ lk = (1 : Int32)) (E : Exa Z h0 a "com/example/dovecote/dovecote/standin/isds/Lockout") (Fl : Fld Z h0 a "com/example/dovecote/dovecote/standin/isds/Lockout" "limit" "I" (.int lim)) (Fq : Fld Z h0 a "com/example/dovecote/dovecote/standin/isds/Lockout" "refusals" "I" (.int r)) (Fk : Fld Z h0 a "com/example/dovecote/dovecote/standin/isds/Lockout" "locked" "Z" (.int lk)) (Fa : Fld Z h0 a "com/example/dovecote/dovecote/standin/isds/Lockout" "lockedAt" "J" (.long la)) (O : Old Z n0 h0) (S : Sta Z Z.heap "com/example/dovecote/dovecote/standin/isds/Lockout" "LOCK_TIME" "Ljava/time/Duration;" (.ref ad)) (Ed : Exa Z Z.heap ad "java/time/Duration") (Fs : Fld Z Z.heap ad "java/time/Duration" "seconds" "J" (.long (3600 : Int64))) (Fn : Fld Z Z.heap ad "java/time/Duration" "nanos" "I" (.int (0 : Int32))) :
    MetFree l (⟨"com/example/dovecote/dovecote/standin/isds/Lockout", "locked", "(J)Z"⟩ : MethodName) (head1 (Jvm.Cond.code (⟨"com/example/dovecote/dovecote/standin/isds/Lockout", "locked", "(J)Z"⟩ : MethodName) prog_65_method_2_code 3 (some .boolean) :: ws) ({ frames := 3, cells := 0, slots := 0, locals := 63 } : Room)) (fun aa_ U => aa_ = #[(.ref a), (.long q)] ∧ Z.Warmed39 U.vm ∧ U.heap = h0) (fun _ _ _ _ _ => True) (fun _ UU_ oo_ UV_ => ∃ vv_ LL_, oo_ = .returned vv_ ∧ (Q_locked Z a q lim r lk la ad h0 n0) vv_ UV_.heap LL_ ∧ FrameEnd UU_ oo_ UV_ LL_ ({ frames := 3, cells := 0, slots := 0, locals := 63 } : Room).cells ({ frames := 3, cells := 0, slots := 0, locals := 63 } : Room).slots) := by
  refine MetFree.of_bodySF (plainFor_of_name pn1) hisR ?_
  intro p e s m args below meth c s₁ Bd hml0 hP hK
  obtain ⟨rfl, hZ, hh⟩ := hP
  have hx := Bd.exec
  have hby := Bd.bytes
  have hlk : meth.locks = false := BodyLoose.notSynchronized Bd
  have hret := Bd.returns
  have hml : c.maxLocals = 3 := hml0
  have hown : s.vm.findClass "com/example/dovecote/dovecote/standin/isds/Lockout" = some m.cls := findClass_of_methodNamed Bd.named
  have hnm := (name_of_methodNamed Bd.named Bd.method).1
  have X0 : Stand p l e ({ frames := 3, cells := 0, slots := 0, locals := 63 } : Room) s m #[(.ref a), (.long q)] below meth c s₁ [] 0 0 := Stand.of_body Bd
  have e0 : s₁.heap = h0 := by rw [← hh, Bd.state]; rfl
  have N0 := Fr.nil n0
  show Go p e below s ({ frames := 3, cells := 0, slots := 0, locals := 63 } : Room).cells ({ frames := 3, cells := 0, slots := 0, locals := 63 } : Room).slots (Q_locked Z a q lim r lk la ad h0 n0) s₁ (entryFrame m #[(.ref a), (.long q)] 3)
  refine own_cast (g' := mkF m 0 #[.val (.ref a), .val (.long q), .second] []) (by first | (simp [entryFrame, mkF, argsToLocals, Value.category]; done) | rfl) ?_
  rcases hlkb with rfl | rfl
  · skip
    show Go _ _ _ _ _ _ _ _ (mkF m 0 #[.val (.ref a), .val (.long q), .second] [])
    refine own_via ?_ fun _ kt => XS.aloadN X0.here hx rfl (hb hby d_locked_0) rfl rfl kt
    show Go _ _ _ _ _ _ _ _ (mkF m 1 #[.val (.ref a), .val (.long q), .second] [(.ref a)])
    obtain ⟨T1, X1, e1, st1⟩ := getF X0 hx hZ hown (host := "") (Or.inl (hw _ (List.mem_of_getElem? (i := 23) rfl))) Via.refl e0 Fk (g := (mkF m 1 #[.val (.ref a), .val (.long q), .second] [(.ref a)])) rfl rfl (hb hby d_locked_1)
    refine own_via ?_ st1
    show Go _ _ _ _ _ _ _ _ (mkF m 4 #[.val (.ref a), .val (.long q), .second] [(.int (0 : Int32))])
    refine own_via ?_ fun _ kt => XS.ifYes X1.here hx rfl (pc0 := 4) (pc' := 33) rfl (hb hby d_locked_4) rfl ((if0 _ _).trans (teq rfl).1) (by decide) (by decide) kt
    show Go _ _ _ _ _ _ _ _ (mkF m 33 #[.val (.ref a), .val (.long q), .second] [])
    refine own_via ?_ fun _ kt => XS.aloadN X1.here hx rfl (hb hby d_locked_33) rfl rfl kt
    show Go _ _ _ _ _ _ _ _ (mkF m 34 #[.val (.ref a), .val (.long q), .second] [(.ref a)])
    obtain ⟨T2, X2, e2, st2⟩ := getF X1 hx hZ hown (host := "") (Or.inl (hw _ (List.mem_of_getElem? (i := 23) rfl))) Via.refl e1 Fk (g := (mkF m 34 #[.val (.ref a), .val (.long q), .second] [(.ref a)])) rfl rfl (hb hby d_locked_34)
    refine own_via ?_ st2
    show Go _ _ _ _ _ _ _ _ (mkF m 37 #[.val (.ref a), .val (.long q), .second] [(.int (0 : Int32))])
    exact own_retZ (z' := (0 : Int32)) X2 hx hret hlk (hb hby d_locked_37) rfl (by decide) (by decide) (by rw [e2]; exact ⟨by simp [lv], N0⟩)
  · skip
    show Go _ _ _ _ _ _ _ _ (mkF m 0 #[.val (.ref a), .val (.long q), .second] [])
    refine own_via ?_ fun _ kt => XS.aloadN X0.here hx rfl (hb hby d_locked_0) rfl rfl kt
    show Go _ _ _ _ _ _ _ _ (mkF m 1 #[.val (.ref a), .val (.long q), .second] [(.ref a)])
    obtain ⟨T3, X3, e3, st3⟩ := getF X0 hx hZ hown (host := "") (Or.inl (hw _ (List.mem_of_getElem? (i := 23) rfl))) Via.refl e0 Fk (g := (mkF m 1 #[.val (.ref a), .val (.long q), .second] [(.ref a)])) rfl rfl (hb hby d_locked_1)
    refine own_via ?_ st3
    show Go _ _ _ _ _ _ _ _ (mkF m 4 #[.val (.ref a), .val (.long q), .second] [(.int (1 : Int32))])
    refine own_via ?_ fun _ kt => XS.ifNo X3.here hx rfl (hb hby d_locked_4) rfl ((if0 _ _).trans (feq (by decide : ¬ ((1 : Int32) = (0 : Int32)))).1) kt
    show Go _ _ _ _ _ _ _ _ (mkF m 7 #[.val (.ref a), .val (.long q), .second] [])
    refine own_via ?_ fun _ kt => XS.lloadN X3.here hx rfl (hb hby d_locked_7) rfl kt
    show Go _ _ _ _ _ _ _ _ (mkF m 8 #[.val (.ref a), .val (.long q), .second] [(.long q)])
    refine own_via ?_ fun _ kt => XS.aloadN X3.here hx rfl (hb hby d_locked_8) rfl rfl kt
    show Go _ _ _ _ _ _ _ _ (mkF m 9 #[.val (.ref a), .val (.long q), .second] [(.ref a), (.long q)])
    obtain ⟨T4, X4, e4, st4⟩ := getF X3 hx hZ hown (host := "") (Or.inl (hw _ (List.mem_of_getElem? (i := 25) rfl))) Via.refl e3 Fa (g := (mkF m 9 #[.val (.ref a), .val (.long q), .second] [(.ref a), (.long q)])) rfl rfl (hb hby d_locked_9)
    refine own_via ?_ st4
    show Go _ _ _ _ _ _ _ _ (mkF m 12 #[.val (.ref a), .val (.long q), .second] [(.long la), (.long q)])
    refine own_via ?_ fun _ kt => XS.lsub X4.here hx rfl (hb hby d_locked_12) rfl kt
    show Go _ _ _ _ _ _ _ _ (mkF m 13 #[.val (.ref a), .val (.long q), .second] [(.long (q - la))])
    obtain ⟨T5, X5, e5, st5⟩ := getS2 X4 hx hZ hown (host := "") (Or.inl (hw _ (List.mem_of_getElem? (i := 28) rfl))) Via.refl e4 (S.ext O.2) (g := (mkF m 13 #[.val (.ref a), .val (.long q), .second] [(.long (q - la))])) rfl (hb hby d_locked_13)
    refine own_via ?_ st5
    show Go _ _ _ _ _ _ _ _ (mkF m 16 #[.val (.ref a), .val (.long q), .second] [(.ref ad), (.long (q - la))])
    obtain ⟨cq6, kq6, q6a, q6b, q6c⟩ := isOf hZ e5 (Ed.ext O.2)
    obtain ⟨_, _, ⟨T6, L6, k6, n6⟩, -, X6, ⟨Lc6, hQ6, l6, y6, z6⟩, st6⟩ := X5.virtualBack hx (y := (⟨"java/time/Duration", "toNanos", "()J"⟩ : MethodName)) (z := (⟨"java/time/Duration", "toNanos", "()J"⟩ : MethodName)) hown (mvT hZ (hw _ (List.mem_of_getElem? (i := 30) rfl))) (mvT hZ (hw _ (List.mem_of_getElem? (i := 31) rfl))) (notFace_of_selects (args := #[]) (mvT hZ (hw _ (List.mem_of_getElem? (i := 33) rfl)))) (mvT hZ (hw _ (List.mem_of_getElem? (i := 33) rfl))) (mvT hZ (hw _ (List.mem_of_getElem? (i := 32) rfl))) (by decide) (backOf (W := 2) (rm_nanos l Z a0 hw [] ad h0 n0 Z0 (Fs.ext O.2) (Fn.ext O.2)) hZ (hw _ (List.mem_of_getElem? (i := 35) rfl)) (hw _ (List.mem_of_getElem? (i := 34) rfl)) (by decide) (by decide)) q6a q6c (g := (mkF m 16 #[.val (.ref a), .val (.long q), .second] [(.ref ad), (.long (q - la))])) rfl (by rw [hml]; rfl) (Steps.refl _) (argsL := []) (rest := [(.long (q - la))]) (lenOf pd2 rfl) rfl (by show 2 * 0 + _ ≤ _; exact Nat.le_of_eq rfl) (hb hby d_locked_16) (fun _ _ => ⟨rfl, e5, (by decide : 0 + 0 ≤ _), (by decide : 0 + 0 ≤ _)⟩)
    dsimp only [Pt.U, Pt.locs, Pt.cells, Pt.slots] at X6 l6 y6 z6 st6 hQ6
    subst l6 y6 z6
    obtain ⟨rfl, Nq6, e6⟩ := hQ6
    have N6 := Fr.app N0 Nq6
    refine own_join ?_ st6
    show Go _ _ _ _ _ _ _ _ (mkF m 19 #[.val (.ref a), .val (.long q), .second] [(.long (3600000000000 : Int64)), (.long (q - la))])
    refine own_via ?_ fun _ kt => XS.lcmp X6.here hx rfl (hb hby d_locked_19) rfl kt
    show Go _ _ _ _ _ _ _ _ (mkF m 20 #[.val (.ref a), .val (.long q), .second] [(.int (lcmpW (q - la) (3600000000000 : Int64)))])
    by_cases hc7 : (q - la) < (3600000000000 : Int64)
    · skip
      refine own_via ?_ fun _ kt => XS.ifYes X6.here hx rfl (pc0 := 20) (pc' := 33) rfl (hb hby d_locked_20) rfl ((if0 _ _).trans (tlt ((lw_lt _ _).mpr hc7)).1) (by decide) (by decide) kt
      show Go _ _ _ _ _ _ _ _ (mkF m 33 #[.val (.ref a), .val (.long q), .second] [])
      refine own_via ?_ fun _ kt => XS.aloadN X6.here hx rfl (hb hby d_locked_33) rfl rfl kt
      show Go _ _ _ _ _ _ _ _ (mkF m 34 #[.val (.ref a), .val (.long q), .second] [(.ref a)])
      obtain ⟨T8, X8, e8, st8⟩ := getF X6 hx hZ hown (host := "") (Or.inl (hw _ (List.mem_of_getElem? (i := 23) rfl))) Via.refl e6 Fk (g := (mkF m 34 #[.val (.ref a), .val (.long q), .second] [(.ref a)])) rfl rfl (hb hby d_locked_34)
      refine own_via ?_ st8
      show Go _ _ _ _ _ _ _ _ (mkF m 37 #[.val (.ref a), .val (.long q), .second] [(.int (1 : Int32))])
      exact own_retZ (z' := (1 : Int32)) X8 hx hret hlk (hb hby d_locked_37) rfl (by decide) (by decide) (by rw [e8]; exact ⟨by simp [lv, hc7], N6⟩)
    · skip
      refine own_via ?_ fun _ kt => XS.ifNo X6.here hx rfl (hb hby d_locked_20) rfl ((if0 _ _).trans (flt (fun q => hc7 ((lw_lt _ _).mp q))).1) kt
      show Go _ _ _ _ _ _ _ _ (mkF m 23 #[.val (.ref a), .val (.long q), .second] [])
      refine own_via ?_ fun _ kt => XS.aloadN X6.here hx rfl (hb hby d_locked_23) rfl rfl kt
      show Go _ _ _ _ _ _ _ _ (mkF m 24 #[.val (.ref a), .val (.long q), .second] [(.ref a)])
      refine own_via ?_ fun _ kt => XS.iconst X6.here hx rfl (hb hby d_locked_24) kt
      show Go _ _ _ _ _ _ _ _ (mkF m 25 #[.val (.ref a), .val (.long q), .second] [(.int (0 : Int32)), (.ref a)])
      obtain ⟨T9, h9, X9, e9, W9, st9⟩ := putFN X6 hx hZ hown (hw _ (List.mem_of_getElem? (i := 23) rfl)) Via.refl e6 Fk E (Or.inl (hw _ (List.mem_of_getElem? (i := 24) rfl))) (hw _ (List.mem_of_getElem? (i := 1) rfl)) (ty := .boolean) (v' := (.int (0 : Int32))) (by decide) rfl rfl (g := (mkF m 25 #[.val (.ref a), .val (.long q), .second] [(.int (0 : Int32)), (.ref a)])) rfl rfl (hb hby d_locked_25)
      have N9 := Fr.snoc X9 N6 g_a
      replace E := E.wr W9
      replace Fl := Fl.other W9 (Or.inr (slot_ne (Or.inr (hw _ (List.mem_of_getElem? (i := 10) rfl))) (Or.inl (hw _ (List.mem_of_getElem? (i := 24) rfl))) (by decide) (t := .int) (t' := .boolean) (by decide) (by decide)))
      replace Fq := Fq.other W9 (Or.inr (slot_ne (Or.inl (hw _ (List.mem_of_getElem? (i := 17) rfl))) (Or.inl (hw _ (List.mem_of_getElem? (i := 24) rfl))) (by decide) (t := .int) (t' := .boolean) (by decide) (by decide)))
      replace Fk := Fk.same W9
      replace Fa := Fa.other W9 (Or.inr (slot_ne (Or.inl (hw _ (List.mem_of_getElem? (i := 26) rfl))) (Or.inl (hw _ (List.mem_of_getElem? (i := 24) rfl))) (by decide) (t := .long) (t' := .boolean) (by decide) (by decide)))
      replace Z0 := Nat.le_trans Z0 (Keep.of_wr W9).1
      replace O := O.wr W9 g_a
      refine own_via ?_ st9
      show Go _ _ _ _ _ _ _ _ (mkF m 28 #[.val (.ref a), .val (.long q), .second] [])
      refine own_via ?_ fun _ kt => XS.aloadN X9.here hx rfl (hb hby d_locked_28) rfl rfl kt
      show Go _ _ _ _ _ _ _ _ (mkF m 29 #[.val (.ref a), .val (.long q), .second] [(.ref a)])
      refine own_via ?_ fun _ kt => XS.iconst X9.here hx rfl (hb hby d_locked_29) kt
      show Go _ _ _ _ _ _ _ _ (mkF m 30 #[.val (.ref a), .val (.long q), .second] [(.int (0 : Int32)), (.ref a)])
      obtain ⟨T10, h10, X10, e10, W10, st10⟩ := putF X9 hx hZ hown (host := "") (Or.inl (hw _ (List.mem_of_getElem? (i := 16) rfl))) Via.refl e9 Fq E (Or.inl (hw _ (List.mem_of_getElem? (i := 17) rfl))) (hw _ (List.mem_of_getElem? (i := 1) rfl)) (ty := .int) (by decide) rfl rfl (g := (mkF m 30 #[.val (.ref a), .val (.long q), .second] [(.int (0 : Int32)), (.ref a)])) rfl rfl (hb hby d_locked_30)
      have N10 := Fr.snoc X10 N9 g_a
      replace E := E.wr W10
      replace Fl := Fl.other W10 (Or.inr (slot_ne (Or.inr (hw _ (List.mem_of_getElem? (i := 10) rfl))) (Or.inl (hw _ (List.mem_of_getElem? (i := 17) rfl))) (by decide) (t := .int) (t' := .int) (by decide) (by decide)))
      replace Fq := Fq.same W10
      replace Fk := Fk.other W10 (Or.inr (slot_ne (Or.inl (hw _ (List.mem_of_getElem? (i := 24) rfl))) (Or.inl (hw _ (List.mem_of_getElem? (i := 17) rfl))) (by decide) (t := .boolean) (t' := .int) (by decide) (by decide)))
      replace Fa := Fa.other W10 (Or.inr (slot_ne (Or.inl (hw _ (List.mem_of_getElem? (i := 26) rfl))) (Or.inl (hw _ (List.mem_of_getElem? (i := 17) rfl))) (by decide) (t := .long) (t' := .int) (by decide) (by decide)))
      replace Z0 := Nat.le_trans Z0 (Keep.of_wr W10).1
      replace O := O.wr W10 g_a
      refine own_via ?_ st10
      show Go _ _ _ _ _ _ _ _ (mkF m 33 #[.val (.ref a), .val (.long q), .second] [])
      refine own_via ?_ fun _ kt => XS.aloadN X10.here hx rfl (hb hby d_locked_33) rfl rfl kt
      show Go _ _ _ _ _ _ _ _ (mkF m 34 #[.val (.ref a), .val (.long q), .second] [(.ref a)])
      obtain ⟨T11, X11, e11, st11⟩ := getF X10 hx hZ hown (host := "") (Or.inl (hw _ (List.mem_of_getElem? (i := 23) rfl))) Via.refl e10 Fk (g := (mkF m 34 #[.val (.ref a), .val (.long q), .second] [(.ref a)])) rfl rfl (hb hby d_locked_34)
      refine own_via ?_ st11
      show Go _ _ _ _ _ _ _ _ (mkF m 37 #[.val (.ref a), .val (.long q), .second] [(.int (0 : Int32))])
      exact own_retZ (z' := (0 : Int32)) X11 hx hret hlk (hb hby d_locked_37) rfl (by decide) (by decide) (by rw [e11]; exact ⟨by simp [lv, hc7], N10⟩)
theorem lim_pos (flags : Int32) : (0 : Int32) < ((((flags.toUInt32 >>> ((4 : Int32) &&& 31).toUInt32).toInt32) &&& (7 : Int32)) + (1 : Int32)) := by
  generalize (flags.toUInt32 >>> ((4 : Int32) &&& 31).toUInt32).toInt32 = y
  have h1 := c_mask y 7 3 (by decide) (by decide)
  have h2 : ((y &&& (7 : Int32)) + (1 : Int32)).toInt = (y &&& (7 : Int32)).toInt + 1 := by
    rw [Int32.toInt_add]; show ((y &&& (7 : Int32)).toInt + 1).bmod (2 ^ 32) = _
    rw [h1]; apply Int.bmod_eq_of_le <;> omega
  rw [Int32.lt_iff_toInt_lt, h2, h1]; show (0 : Int) < _; omega
theorem b01 {P : Prop} [Decidable P] {f : Int32} (h : f = if P then (0 : Int32) else (1 : Int32)) : f = 0 ∨ f = 1 := by split at h <;> simp [h]
theorem back64 (a d : Int64) : a + d - a = d := by
  apply Int64.toInt_inj.mp
  have h1 := c_lsub (a + d) a
  have h2 := c_ladd a d
  have h3 := rng64 (a + d - a)
  have h4 := rng64 d
  omega
set_option maxHeartbeats 4000000 in
theorem fin {flags lim f0 f1 f2 f3 R1 R2 R3 R4 K1 K2 K3 K4 r0 r1 r2 r3 H0 H1 H2 H3 el ex : Int32} {t0 t1 t2 t3 dq A1 A2 A3 A4 at_ q : Int64} (hlim : (0 : Int32) < lim)
    (hf0 : f0 = (if (flags &&& (1 : Int32)) = (0 : Int32) then (0 : Int32) else (1 : Int32))) (hf1 : f1 = (if (flags &&& (2 : Int32)) = (0 : Int32) then (0 : Int32) else (1 : Int32))) (hf2 : f2 = (if (flags &&& (4 : Int32)) = (0 : Int32) then (0 : Int32) else (1 : Int32))) (hf3 : f3 = (if (flags &&& (8 : Int32)) = (0 : Int32) then (0 : Int32) else (1 : Int32)))
    (hR1 : R1 = rf f0 (0 : Int32)) (hK1 : K1 = kf f0 lim (0 : Int32) (0 : Int32)) (hA1 : A1 = af f0 lim (0 : Int32) (0 : Int64) t0)
    (hR2 : R2 = rf f1 R1) (hK2 : K2 = kf f1 lim R1 K1) (hA2 : A2 = af f1 lim R1 A1 t1)
    (hR3 : R3 = rf f2 R2) (hK3 : K3 = kf f2 lim R2 K2) (hA3 : A3 = af f2 lim R2 A2 t2)
    (hR4 : R4 = rf f3 R3) (hK4 : K4 = kf f3 lim R3 K3) (hA4 : A4 = af f3 lim R3 A3 t3)
    (hr0 : r0 = (if f0 = (0 : Int32) then (0 : Int32) else (1 : Int32))) (hr1 : r1 = (if f1 = (0 : Int32) then (0 : Int32) else (r0 + (1 : Int32)))) (hr2 : r2 = (if f2 = (0 : Int32) then (0 : Int32) else (r1 + (1 : Int32)))) (hr3 : r3 = (if f3 = (0 : Int32) then (0 : Int32) else (r2 + (1 : Int32))))
    (hH0 : H0 = (if r0 < lim then (0 : Int32) else (1 : Int32))) (hH1 : H1 = (if r1 < lim then (0 : Int32) else (1 : Int32))) (hH2 : H2 = (if r2 < lim then (0 : Int32) else (1 : Int32))) (hH3 : H3 = (if r3 < lim then (0 : Int32) else (1 : Int32)))
    (hel : el = (if H0 = (0 : Int32) then (if H1 = (0 : Int32) then (if H2 = (0 : Int32) then (if H3 = (0 : Int32) then (0 : Int32) else (1 : Int32)) else (1 : Int32)) else (1 : Int32)) else (1 : Int32)))
    (hat : at_ = (if H3 = (0 : Int32) then (if H2 = (0 : Int32) then (if H1 = (0 : Int32) then t0 else t1) else t2) else t3)) (hq : q = at_ + dq)
    (hex : ex = (if el = (0 : Int32) then (0 : Int32) else (if dq < (3600000000000 : Int64) then (1 : Int32) else (0 : Int32)))) : lv K4 A4 q = ex := by
  have hx := back64
  rcases b01 hf0 with e0 | e0 <;> rcases b01 hf1 with e1 | e1 <;> rcases b01 hf2 with e2 | e2 <;> rcases b01 hf3 with e3 | e3 <;>
    (clear hf0 hf1 hf2 hf3
     subst e0 e1 e2 e3
     subst hex hel hq hat
     subst hK4 hA4 hK3 hA3 hK2 hA2 hK1 hA1 hR4 hR3 hR2 hR1
     subst hH0 hH1 hH2 hH3
     subst hr3 hr2 hr1 hr0
     simp only [rf, kf, af, lv, hlim, if_true, if_false, Int32.reduceAdd, ite_self, reduceIte]
     try (by_cases c1 : (1 : Int32) < lim <;> by_cases c2 : (2 : Int32) < lim <;> by_cases c3 : (3 : Int32) < lim <;> by_cases c4 : (4 : Int32) < lim <;> simp [c1, c2, c3, c4, hx]))
def Q_law (Z : State) (flags : Int32) (t0 t1 t2 t3 dq : Int64) (ad : Addr) (h0 : Heap) (n0 : Nat) (v : Option Value) (h : Heap) (L : List Loc) : Prop := v = some (.int 1) ∧ Fr n0 L
set_option maxRecDepth 65536 in
set_option maxHeartbeats 40000000 in
theorem rm_law (l : Launch) (Z : State) (a0 : Array Value) (hw : ∀ d ∈ tables_1, d.before a0 Z = true) (ws : List Jvm.Cond) (flags : Int32) (t0 t1 t2 t3 dq : Int64) (ad : Addr) (h0 : Heap) (n0 : Nat) (Z0 : n0 ≤ h0.size) (O : Old Z n0 h0) (S : Sta Z Z.heap "com/example/dovecote/dovecote/standin/isds/Lockout" "LOCK_TIME" "Ljava/time/Duration;" (.ref ad)) (Ed : Exa Z Z.heap ad "java/time/Duration") (Fs : Fld Z Z.heap ad "java/time/Duration" "seconds" "J" (.long (3600 : Int64))) (Fn : Fld Z Z.heap ad "java/time/Duration" "nanos" "I" (.int (0 : Int32))) :
    MetFree l x (head1 (Jvm.Cond.code x code maxLocals ret :: ws) room_1) (fun aa_ U => aa_ = #[(.int flags), (.long t0), (.long t1), (.long t2), (.long t3), (.long dq)] ∧ Z.Warmed39 U.vm ∧ U.heap = h0) (fun _ _ _ _ _ => True) (fun _ UU_ oo_ UV_ => ∃ vv_ LL_, oo_ = .returned vv_ ∧ (Q_law Z flags t0 t1 t2 t3 dq ad h0 n0) vv_ UV_.heap LL_ ∧ FrameEnd UU_ oo_ UV_ LL_ room_1.cells room_1.slots) := by
  refine MetFree.of_bodySF (plainFor_of_name pn2) hisR ?_
  intro p e s m args below meth c s₁ Bd hml0 hP hK
  obtain ⟨rfl, hZ, hh⟩ := hP
  have hx := Bd.exec
  have hby := Bd.bytes
  have hlk : meth.locks = false := BodyLoose.notSynchronized Bd
  have hret := Bd.returns
  have hml : c.maxLocals = 31 := hml0
  have hown : s.vm.findClass "com/example/dovecote/dovecote/standin/isds/LockoutCountPinLaw" = some m.cls := findClass_of_methodNamed Bd.named
  have hnm := (name_of_methodNamed Bd.named Bd.method).1
  have X0 : Stand p l e room_1 s m #[(.int flags), (.long t0), (.long t1), (.long t2), (.long t3), (.long dq)] below meth c s₁ [] 0 0 := Stand.of_body Bd
  have e0 : s₁.heap = h0 := by rw [← hh, Bd.state]; rfl
  have N0 := Fr.nil n0
  show Go p e below s room_1.cells room_1.slots (Q_law Z flags t0 t1 t2 t3 dq ad h0 n0) s₁ (entryFrame m #[(.int flags), (.long t0), (.long t1), (.long t2), (.long t3), (.long dq)] maxLocals)
  refine own_cast (g' := mkF m 0 #[.val (.int flags), .val (.long t0), .second, .val (.long t1), .second, .val (.long t2), .second, .val (.long t3), .second, .val (.long dq), .second, .unset, .unset, .unset, .unset, .unset, .unset, .unset, .unset, .unset, .unset, .unset, .unset, .unset, .unset, .unset, .unset, .unset, .unset, .unset, .unset] []) (by first | (simp [entryFrame, mkF, argsToLocals, Value.category, maxLocals]; done) | rfl) ?_
  show Go _ _ _ _ _ _ _ _ (mkF m 0 #[.val (.int flags), .val (.long t0), .second, .val (.long t1), .second, .val (.long t2), .second, .val (.long t3), .second, .val (.long dq), .second, .unset, .unset, .unset, .unset, .unset, .unset, .unset, .unset, .unset, .unset, .unset, .unset, .unset, .unset, .unset, .unset, .unset, .unset, .unset, .unset] [])
  refine own_via ?_ fun _ kt => XS.iloadN X0.here hx rfl (hb hby at_0) rfl kt
  show Go _ _ _ _ _ _ _ _ (mkF m 1 #[.val (.int flags), .val (.long t0), .second, .val (.long t1), .second, .val (.long t2), .second, .val (.long t3), .second, .val (.long dq), .second, .unset, .unset, .unset, .unset, .unset, .unset, .unset, .unset, .unset, .unset, .unset, .unset, .unset, .unset, .unset, .unset, .unset, .unset, .unset, .unset] [(.int flags)])
  refine own_via ?_ fun _ kt => XS.iconst X0.here hx rfl (hb hby at_1) kt
  show Go _ _ _ _ _ _ _ _ (mkF m 2 #[.val (.int flags), .val (.long t0), .second, .val (.long t1), .second, .val (.long t2), .second, .val (.long t3), .second, .val (.long dq), .second, .unset, .unset, .unset, .unset, .unset, .unset, .unset, .unset, .unset, .unset, .unset, .unset, .unset, .unset, .unset, .unset, .unset, .unset, .unset, .unset] [(.int (4 : Int32)), (.int flags)])
  refine own_via ?_ fun _ kt => XS.iushr X0.here hx rfl (hb hby at_2) rfl kt
  show Go _ _ _ _ _ _ _ _ (mkF m 3 #[.val (.int flags), .val (.long t0), .second, .val (.long t1), .second, .val (.long t2), .second, .val (.long t3), .second, .val (.long dq), .second, .unset, .unset, .unset, .unset, .unset, .unset, .unset, .unset, .unset, .unset, .unset, .unset, .unset, .unset, .unset, .unset, .unset, .unset, .unset, .unset] [(.int ((flags.toUInt32 >>> ((4 : Int32) &&& 31).toUInt32).toInt32))])
  refine own_via ?_ fun _ kt => XS.bipush X0.here hx rfl (hb hby at_3) kt
  show Go _ _ _ _ _ _ _ _ (mkF m 5 #[.val (.int flags), .val (.long t0), .second, .val (.long t1), .second, .val (.long t2), .second, .val (.long t3), .second, .val (.long dq), .second, .unset, .unset, .unset, .unset, .unset, .unset, .unset, .unset, .unset, .unset, .unset, .unset, .unset, .unset, .unset, .unset, .unset, .unset, .unset, .unset] [(.int (7 : Int32)), (.int ((flags.toUInt32 >>> ((4 : Int32) &&& 31).toUInt32).toInt32))])
  refine own_via ?_ fun _ kt => XS.iand X0.here hx rfl (hb hby at_5) rfl kt
  show Go _ _ _ _ _ _ _ _ (mkF m 6 #[.val (.int flags), .val (.long t0), .second, .val (.long t1), .second, .val (.long t2), .second, .val (.long t3), .second, .val (.long dq), .second, .unset, .unset, .unset, .unset, .unset, .unset, .unset, .unset, .unset, .unset, .unset, .unset, .unset, .unset, .unset, .unset, .unset, .unset, .unset, .unset] [(.int (((flags.toUInt32 >>> ((4 : Int32) &&& 31).toUInt32).toInt32) &&& (7 : Int32)))])
  refine own_via ?_ fun _ kt => XS.iconst X0.here hx rfl (hb hby at_6) kt
  show Go _ _ _ _ _ _ _ _ (mkF m 7 #[.val (.int flags), .val (.long t0), .second, .val (.long t1), .second, .val (.long t2), .second, .val (.long t3), .second, .val (.long dq), .second, .unset, .unset, .unset, .unset, .unset, .unset, .unset, .unset, .unset, .unset, .unset, .unset, .unset, .unset, .unset, .unset, .unset, .unset, .unset, .unset] [(.int (1 : Int32)), (.int (((flags.toUInt32 >>> ((4 : Int32) &&& 31).toUInt32).toInt32) &&& (7 : Int32)))])
  refine own_via ?_ fun _ kt => XS.iadd X0.here hx rfl (hb hby at_7) rfl kt
  show Go _ _ _ _ _ _ _ _ (mkF m 8 #[.val (.int flags), .val (.long t0), .second, .val (.long t1), .second, .val (.long t2), .second, .val (.long t3), .second, .val (.long dq), .second, .unset, .unset, .unset, .unset, .unset, .unset, .unset, .unset, .unset, .unset, .unset, .unset, .unset, .unset, .unset, .unset, .unset, .unset, .unset, .unset] [(.int ((((flags.toUInt32 >>> ((4 : Int32) &&& 31).toUInt32).toInt32) &&& (7 : Int32)) + (1 : Int32)))])
  refine own_via ?_ fun _ kt => XS.istore X0.here hx rfl (hb hby at_8) rfl (l' := #[.val (.int flags), .val (.long t0), .second, .val (.long t1), .second, .val (.long t2), .second, .val (.long t3), .second, .val (.long dq), .second, .val (.int ((((flags.toUInt32 >>> ((4 : Int32) &&& 31).toUInt32).toInt32) &&& (7 : Int32)) + (1 : Int32))), .unset, .unset, .unset, .unset, .unset, .unset, .unset, .unset, .unset, .unset, .unset, .unset, .unset, .unset, .unset, .unset, .unset, .unset, .unset]) rfl kt
  have hlim := lim_pos flags
  show Go _ _ _ _ _ _ _ _ (mkF m 10 #[.val (.int flags), .val (.long t0), .second, .val (.long t1), .second, .val (.long t2), .second, .val (.long t3), .second, .val (.long dq), .second, .val (.int ((((flags.toUInt32 >>> ((4 : Int32) &&& 31).toUInt32).toInt32) &&& (7 : Int32)) + (1 : Int32))), .unset, .unset, .unset, .unset, .unset, .unset, .unset, .unset, .unset, .unset, .unset, .unset, .unset, .unset, .unset, .unset, .unset, .unset, .unset] [])
  generalize hn_lim : ((((flags.toUInt32 >>> ((4 : Int32) &&& 31).toUInt32).toInt32) &&& (7 : Int32)) + (1 : Int32)) = lim
  rw [hn_lim] at hlim
  show Go _ _ _ _ _ _ _ _ (mkF m 10 #[.val (.int flags), .val (.long t0), .second, .val (.long t1), .second, .val (.long t2), .second, .val (.long t3), .second, .val (.long dq), .second, .val (.int lim), .unset, .unset, .unset, .unset, .unset, .unset, .unset, .unset, .unset, .unset, .unset, .unset, .unset, .unset, .unset, .unset, .unset, .unset, .unset] [])
  refine own_via ?_ fun _ kt => XS.iloadN X0.here hx rfl (hb hby at_10) rfl kt
  show Go _ _ _ _ _ _ _ _ (mkF m 11 #[.val (.int flags), .val (.long t0), .second, .val (.long t1), .second, .val (.long t2), .second, .val (.long t3), .second, .val (.long dq), .second, .val (.int lim), .unset, .unset, .unset, .unset, .unset, .unset, .unset, .unset, .unset, .unset, .unset, .unset, .unset, .unset, .unset, .unset, .unset, .unset, .unset] [(.int flags)])
  refine own_via ?_ fun _ kt => XS.iconst X0.here hx rfl (hb hby at_11) kt
  show Go _ _ _ _ _ _ _ _ (mkF m 12 #[.val (.int flags), .val (.long t0), .second, .val (.long t1), .second, .val (.long t2), .second, .val (.long t3), .second, .val (.long dq), .second, .val (.int lim), .unset, .unset, .unset, .unset, .unset, .unset, .unset, .unset, .unset, .unset, .unset, .unset, .unset, .unset, .unset, .unset, .unset, .unset, .unset] [(.int (1 : Int32)), (.int flags)])
  refine own_via ?_ fun _ kt => XS.iand X0.here hx rfl (hb hby at_12) rfl kt
  have J1 : ∀ (f0 : Int32), f0 = (if (flags &&& (1 : Int32)) = (0 : Int32) then (0 : Int32) else (1 : Int32)) → Go p e below s room_1.cells room_1.slots (Q_law Z flags t0 t1 t2 t3 dq ad h0 n0) s₁ (mkF m 21 #[.val (.int flags), .val (.long t0), .second, .val (.long t1), .second, .val (.long t2), .second, .val (.long t3), .second, .val (.long dq), .second, .val (.int lim), .unset, .unset, .unset, .unset, .unset, .unset, .unset, .unset, .unset, .unset, .unset, .unset, .unset, .unset, .unset, .unset, .unset, .unset, .unset] [(.int f0)]) := by
    intro f0 hf0
    show Go _ _ _ _ _ _ _ _ (mkF m 21 #[.val (.int flags), .val (.long t0), .second, .val (.long t1), .second, .val (.long t2), .second, .val (.long t3), .second, .val (.long dq), .second, .val (.int lim), .unset, .unset, .unset, .unset, .unset, .unset, .unset, .unset, .unset, .unset, .unset, .unset, .unset, .unset, .unset, .unset, .unset, .unset, .unset] [(.int f0)])
    refine own_via ?_ fun _ kt => XS.istore X0.here hx rfl (hb hby at_21) rfl (l' := #[.val (.int flags), .val (.long t0), .second, .val (.long t1), .second, .val (.long t2), .second, .val (.long t3), .second, .val (.long dq), .second, .val (.int lim), .val (.int f0), .unset, .unset, .unset, .unset, .unset, .unset, .unset, .unset, .unset, .unset, .unset, .unset, .unset, .unset, .unset, .unset, .unset, .unset]) rfl kt
    show Go _ _ _ _ _ _ _ _ (mkF m 23 #[.val (.int flags), .val (.long t0), .second, .val (.long t1), .second, .val (.long t2), .second, .val (.long t3), .second, .val (.long dq), .second, .val (.int lim), .val (.int f0), .unset, .unset, .unset, .unset, .unset, .unset, .unset, .unset, .unset, .unset, .unset, .unset, .unset, .unset, .unset, .unset, .unset, .unset] [])
    refine own_via ?_ fun _ kt => XS.iloadN X0.here hx rfl (hb hby at_23) rfl kt
    show Go _ _ _ _ _ _ _ _ (mkF m 24 #[.val (.int flags), .val (.long t0), .second, .val (.long t1), .second, .val (.long t2), .second, .val (.long t3), .second, .val (.long dq), .second, .val (.int lim), .val (.int f0), .unset, .unset, .unset, .unset, .unset, .unset, .unset, .unset, .unset, .unset, .unset, .unset, .unset, .unset, .unset, .unset, .unset, .unset] [(.int flags)])
    refine own_via ?_ fun _ kt => XS.iconst X0.here hx rfl (hb hby at_24) kt
    show Go _ _ _ _ _ _ _ _ (mkF m 25 #[.val (.int flags), .val (.long t0), .second, .val (.long t1), .second, .val (.long t2), .second, .val (.long t3), .second, .val (.long dq), .second, .val (.int lim), .val (.int f0), .unset, .unset, .unset, .unset, .unset, .unset, .unset, .unset, .unset, .unset, .unset, .unset, .unset, .unset, .unset, .unset, .unset, .unset] [(.int (2 : Int32)), (.int flags)])
    refine own_via ?_ fun _ kt => XS.iand X0.here hx rfl (hb hby at_25) rfl kt
    have J2 : ∀ (f1 : Int32), f1 = (if (flags &&& (2 : Int32)) = (0 : Int32) then (0 : Int32) else (1 : Int32)) → Go p e below s room_1.cells room_1.slots (Q_law Z flags t0 t1 t2 t3 dq ad h0 n0) s₁ (mkF m 34 #[.val (.int flags), .val (.long t0), .second, .val (.long t1), .second, .val (.long t2), .second, .val (.long t3), .second, .val (.long dq), .second, .val (.int lim), .val (.int f0), .unset, .unset, .unset, .unset, .unset, .unset, .unset, .unset, .unset, .unset, .unset, .unset, .unset, .unset, .unset, .unset, .unset, .unset] [(.int f1)]) := by
      intro f1 hf1
      show Go _ _ _ _ _ _ _ _ (mkF m 34 #[.val (.int flags), .val (.long t0), .second, .val (.long t1), .second, .val (.long t2), .second, .val (.long t3), .second, .val (.long dq), .second, .val (.int lim), .val (.int f0), .unset, .unset, .unset, .unset, .unset, .unset, .unset, .unset, .unset, .unset, .unset, .unset, .unset, .unset, .unset, .unset, .unset, .unset] [(.int f1)])
      refine own_via ?_ fun _ kt => XS.istore X0.here hx rfl (hb hby at_34) rfl (l' := #[.val (.int flags), .val (.long t0), .second, .val (.long t1), .second, .val (.long t2), .second, .val (.long t3), .second, .val (.long dq), .second, .val (.int lim), .val (.int f0), .val (.int f1), .unset, .unset, .unset, .unset, .unset, .unset, .unset, .unset, .unset, .unset, .unset, .unset, .unset, .unset, .unset, .unset, .unset]) rfl kt
      show Go _ _ _ _ _ _ _ _ (mkF m 36 #[.val (.int flags), .val (.long t0), .second, .val (.long t1), .second, .val (.long t2), .second, .val (.long t3), .second, .val (.long dq), .second, .val (.int lim), .val (.int f0), .val (.int f1), .unset, .unset, .unset, .unset, .unset, .unset, .unset, .unset, .unset, .unset, .unset, .unset, .unset, .unset, .unset, .unset, .unset] [])
      refine own_via ?_ fun _ kt => XS.iloadN X0.here hx rfl (hb hby at_36) rfl kt
      show Go _ _ _ _ _ _ _ _ (mkF m 37 #[.val (.int flags), .val (.long t0), .second, .val (.long t1), .second, .val (.long t2), .second, .val (.long t3), .second, .val (.long dq), .second, .val (.int lim), .val (.int f0), .val (.int f1), .unset, .unset, .unset, .unset, .unset, .unset, .unset, .unset, .unset, .unset, .unset, .unset, .unset, .unset, .unset, .unset, .unset] [(.int flags)])
      refine own_via ?_ fun _ kt => XS.iconst X0.here hx rfl (hb hby at_37) kt
      show Go _ _ _ _ _ _ _ _ (mkF m 38 #[.val (.int flags), .val (.long t0), .second, .val (.long t1), .second, .val (.long t2), .second, .val (.long t3), .second, .val (.long dq), .second, .val (.int lim), .val (.int f0), .val (.int f1), .unset, .unset, .unset, .unset, .unset, .unset, .unset, .unset, .unset, .unset, .unset, .unset, .unset, .unset, .unset, .unset, .unset] [(.int (4 : Int32)), (.int flags)])
      refine own_via ?_ fun _ kt => XS.iand X0.here hx rfl (hb hby at_38) rfl kt
      have J3 : ∀ (f2 : Int32), f2 = (if (flags &&& (4 : Int32)) = (0 : Int32) then (0 : Int32) else (1 : Int32)) → Go p e below s room_1.cells room_1.slots (Q_law Z flags t0 t1 t2 t3 dq ad h0 n0) s₁ (mkF m 47 #[.val (.int flags), .val (.long t0), .second, .val (.long t1), .second, .val (.long t2), .second, .val (.long t3), .second, .val (.long dq), .second, .val (.int lim), .val (.int f0), .val (.int f1), .unset, .unset, .unset, .unset, .unset, .unset, .unset, .unset, .unset, .unset, .unset, .unset, .unset, .unset, .unset, .unset, .unset] [(.int f2)]) := by
        intro f2 hf2
        show Go _ _ _ _ _ _ _ _ (mkF m 47 #[.val (.int flags), .val (.long t0), .second, .val (.long t1), .second, .val (.long t2), .second, .val (.long t3), .second, .val (.long dq), .second, .val (.int lim), .val (.int f0), .val (.int f1), .unset, .unset, .unset, .unset, .unset, .unset, .unset, .unset, .unset, .unset, .unset, .unset, .unset, .unset, .unset, .unset, .unset] [(.int f2)])
        refine own_via ?_ fun _ kt => XS.istore X0.here hx rfl (hb hby at_47) rfl (l' := #[.val (.int flags), .val (.long t0), .second, .val (.long t1), .second, .val (.long t2), .second, .val (.long t3), .second, .val (.long dq), .second, .val (.int lim), .val (.int f0), .val (.int f1), .val (.int f2), .unset, .unset, .unset, .unset, .unset, .unset, .unset, .unset, .unset, .unset, .unset, .unset, .unset, .unset, .unset, .unset]) rfl kt
        show Go _ _ _ _ _ _ _ _ (mkF m 49 #[.val (.int flags), .val (.long t0), .second, .val (.long t1), .second, .val (.long t2), .second, .val (.long t3), .second, .val (.long dq), .second, .val (.int lim), .val (.int f0), .val (.int f1), .val (.int f2), .unset, .unset, .unset, .unset, .unset, .unset, .unset, .unset, .unset, .unset, .unset, .unset, .unset, .unset, .unset, .unset] [])
        refine own_via ?_ fun _ kt => XS.iloadN X0.here hx rfl (hb hby at_49) rfl kt
        show Go _ _ _ _ _ _ _ _ (mkF m 50 #[.val (.int flags), .val (.long t0), .second, .val (.long t1), .second, .val (.long t2), .second, .val (.long t3), .second, .val (.long dq), .second, .val (.int lim), .val (.int f0), .val (.int f1), .val (.int f2), .unset, .unset, .unset, .unset, .unset, .unset, .unset, .unset, .unset, .unset, .unset, .unset, .unset, .unset, .unset, .unset] [(.int flags)])
        refine own_via ?_ fun _ kt => XS.bipush X0.here hx rfl (hb hby at_50) kt
        show Go _ _ _ _ _ _ _ _ (mkF m 52 #[.val (.int flags), .val (.long t0), .second, .val (.long t1), .second, .val (.long t2), .second, .val (.long t3), .second, .val (.long dq), .second, .val (.int lim), .val (.int f0), .val (.int f1), .val (.int f2), .unset, .unset, .unset, .unset, .unset, .unset, .unset, .unset, .unset, .unset, .unset, .unset, .unset, .unset, .unset, .unset] [(.int (8 : Int32)), (.int flags)])
        refine own_via ?_ fun _ kt => XS.iand X0.here hx rfl (hb hby at_52) rfl kt
        have J4 : ∀ (f3 : Int32), f3 = (if (flags &&& (8 : Int32)) = (0 : Int32) then (0 : Int32) else (1 : Int32)) → Go p e below s room_1.cells room_1.slots (Q_law Z flags t0 t1 t2 t3 dq ad h0 n0) s₁ (mkF m 61 #[.val (.int flags), .val (.long t0), .second, .val (.long t1), .second, .val (.long t2), .second, .val (.long t3), .second, .val (.long dq), .second, .val (.int lim), .val (.int f0), .val (.int f1), .val (.int f2), .unset, .unset, .unset, .unset, .unset, .unset, .unset, .unset, .unset, .unset, .unset, .unset, .unset, .unset, .unset, .unset] [(.int f3)]) := by
          intro f3 hf3
          show Go _ _ _ _ _ _ _ _ (mkF m 61 #[.val (.int flags), .val (.long t0), .second, .val (.long t1), .second, .val (.long t2), .second, .val (.long t3), .second, .val (.long dq), .second, .val (.int lim), .val (.int f0), .val (.int f1), .val (.int f2), .unset, .unset, .unset, .unset, .unset, .unset, .unset, .unset, .unset, .unset, .unset, .unset, .unset, .unset, .unset, .unset] [(.int f3)])
          refine own_via ?_ fun _ kt => XS.istore X0.here hx rfl (hb hby at_61) rfl (l' := #[.val (.int flags), .val (.long t0), .second, .val (.long t1), .second, .val (.long t2), .second, .val (.long t3), .second, .val (.long dq), .second, .val (.int lim), .val (.int f0), .val (.int f1), .val (.int f2), .val (.int f3), .unset, .unset, .unset, .unset, .unset, .unset, .unset, .unset, .unset, .unset, .unset, .unset, .unset, .unset, .unset]) rfl kt
          show Go _ _ _ _ _ _ _ _ (mkF m 63 #[.val (.int flags), .val (.long t0), .second, .val (.long t1), .second, .val (.long t2), .second, .val (.long t3), .second, .val (.long dq), .second, .val (.int lim), .val (.int f0), .val (.int f1), .val (.int f2), .val (.int f3), .unset, .unset, .unset, .unset, .unset, .unset, .unset, .unset, .unset, .unset, .unset, .unset, .unset, .unset, .unset] [])
          obtain ⟨T5, h5, X5, e5, E5, A5, D5, -, st5⟩ := newO X0 hx hZ hown (hw _ (List.mem_of_getElem? (i := 0) rfl)) (hw _ (List.mem_of_getElem? (i := 1) rfl)) (hw _ (List.mem_of_getElem? (i := 2) rfl)) e0 (g := (mkF m 63 #[.val (.int flags), .val (.long t0), .second, .val (.long t1), .second, .val (.long t2), .second, .val (.long t3), .second, .val (.long dq), .second, .val (.int lim), .val (.int f0), .val (.int f1), .val (.int f2), .val (.int f3), .unset, .unset, .unset, .unset, .unset, .unset, .unset, .unset, .unset, .unset, .unset, .unset, .unset, .unset, .unset] [])) rfl (hb hby at_63) (by decide) (by decide)
          obtain ⟨b5, g5⟩ : ∃ z, z = h0.size := ⟨_, rfl⟩
          rw [← g5] at A5 D5 st5
          have g_b5 : n0 ≤ b5 := by rw [g5]; exact Z0
          replace Z0 := Nat.le_trans Z0 E5.1
          replace O := O.ext E5
          have F_limit_b5 : Fld Z h5 b5 "com/example/dovecote/dovecote/standin/isds/Lockout" "limit" "I" (.int (0 : Int32)) := D5 (Or.inr (hw _ (List.mem_of_getElem? (i := 10) rfl))) (ty := .int) (by decide)
          have F_refusals_b5 : Fld Z h5 b5 "com/example/dovecote/dovecote/standin/isds/Lockout" "refusals" "I" (.int (0 : Int32)) := D5 (Or.inl (hw _ (List.mem_of_getElem? (i := 17) rfl))) (ty := .int) (by decide)
          have F_locked_b5 : Fld Z h5 b5 "com/example/dovecote/dovecote/standin/isds/Lockout" "locked" "Z" (.int (0 : Int32)) := D5 (Or.inl (hw _ (List.mem_of_getElem? (i := 24) rfl))) (ty := .boolean) (by decide)
          have F_lockedAt_b5 : Fld Z h5 b5 "com/example/dovecote/dovecote/standin/isds/Lockout" "lockedAt" "J" (.long (0 : Int64)) := D5 (Or.inl (hw _ (List.mem_of_getElem? (i := 26) rfl))) (ty := .long) (by decide)
          refine own_via ?_ st5
          show Go _ _ _ _ _ _ _ _ (mkF m 66 #[.val (.int flags), .val (.long t0), .second, .val (.long t1), .second, .val (.long t2), .second, .val (.long t3), .second, .val (.long dq), .second, .val (.int lim), .val (.int f0), .val (.int f1), .val (.int f2), .val (.int f3), .unset, .unset, .unset, .unset, .unset, .unset, .unset, .unset, .unset, .unset, .unset, .unset, .unset, .unset, .unset] [(.ref b5)])
          refine own_via ?_ fun _ kt => XS.dup X5.here hx rfl (hb hby at_66) rfl rfl kt
          show Go _ _ _ _ _ _ _ _ (mkF m 67 #[.val (.int flags), .val (.long t0), .second, .val (.long t1), .second, .val (.long t2), .second, .val (.long t3), .second, .val (.long dq), .second, .val (.int lim), .val (.int f0), .val (.int f1), .val (.int f2), .val (.int f3), .unset, .unset, .unset, .unset, .unset, .unset, .unset, .unset, .unset, .unset, .unset, .unset, .unset, .unset, .unset] [(.ref b5), (.ref b5)])
          refine own_via ?_ fun _ kt => XS.iload X5.here hx rfl (hb hby at_67) rfl kt
          show Go _ _ _ _ _ _ _ _ (mkF m 69 #[.val (.int flags), .val (.long t0), .second, .val (.long t1), .second, .val (.long t2), .second, .val (.long t3), .second, .val (.long dq), .second, .val (.int lim), .val (.int f0), .val (.int f1), .val (.int f2), .val (.int f3), .unset, .unset, .unset, .unset, .unset, .unset, .unset, .unset, .unset, .unset, .unset, .unset, .unset, .unset, .unset] [(.int lim), (.ref b5), (.ref b5)])
          obtain ⟨_, _, ⟨T6, L6, k6, n6⟩, -, X6, ⟨Lc6, hQ6, l6, y6, z6⟩, st6⟩ := X5.specialBack hx (y := (⟨"com/example/dovecote/dovecote/standin/isds/Lockout", "<init>", "(I)V"⟩ : MethodName)) rfl hown (mvT hZ (hw _ (List.mem_of_getElem? (i := 3) rfl))) (mvT hZ (hw _ (List.mem_of_getElem? (i := 4) rfl))) (mvT hZ (hw _ (List.mem_of_getElem? (i := 5) rfl))) (by decide) (backOf (W := 1) (rm_init l Z a0 hw [] b5 lim h5 n0 Z0 g_b5 A5 F_limit_b5 F_refusals_b5 F_locked_b5 F_lockedAt_b5) hZ (hw _ (List.mem_of_getElem? (i := 5) rfl)) (hw _ (List.mem_of_getElem? (i := 2) rfl)) (by decide) (by decide)) (g := (mkF m 69 #[.val (.int flags), .val (.long t0), .second, .val (.long t1), .second, .val (.long t2), .second, .val (.long t3), .second, .val (.long dq), .second, .val (.int lim), .val (.int f0), .val (.int f1), .val (.int f2), .val (.int f3), .unset, .unset, .unset, .unset, .unset, .unset, .unset, .unset, .unset, .unset, .unset, .unset, .unset, .unset, .unset] [(.int lim), (.ref b5), (.ref b5)])) rfl (by rw [hml]; rfl) (Steps.refl _) (a := b5) (argsL := [(.int lim)]) (rest := [(.ref b5)]) (lenOf pd3 rfl) rfl (by show 2 * 0 + _ ≤ _; exact Nat.le_of_eq rfl) (hb hby at_69) (fun _ _ => ⟨rfl, e5, (by decide : 1 + 0 ≤ _), (by decide : 4 + 0 ≤ _)⟩)
          dsimp only [Pt.U, Pt.locs, Pt.cells, Pt.slots] at X6 l6 y6 z6 st6 hQ6
          subst l6 y6 z6
          obtain ⟨h6, e6⟩ : ∃ z, T6.heap = z := ⟨_, rfl⟩
          rw [e6] at hQ6
          obtain ⟨rfl, Nq6, Kq6, p6_E, p6_Fl, p6_Fq, p6_Fk, p6_Fa⟩ := hQ6
          have N6 := Fr.app N0 Nq6
          replace Z0 := Nat.le_trans Z0 Kq6.1
          replace O := O.keep Kq6 (allS g_b5 all0)
          refine own_join ?_ st6
          show Go _ _ _ _ _ _ _ _ (mkF m 72 #[.val (.int flags), .val (.long t0), .second, .val (.long t1), .second, .val (.long t2), .second, .val (.long t3), .second, .val (.long dq), .second, .val (.int lim), .val (.int f0), .val (.int f1), .val (.int f2), .val (.int f3), .unset, .unset, .unset, .unset, .unset, .unset, .unset, .unset, .unset, .unset, .unset, .unset, .unset, .unset, .unset] [(.ref b5)])
          refine own_via ?_ fun _ kt => XS.astore X6.here hx rfl (hb hby at_72) rfl rfl (l' := #[.val (.int flags), .val (.long t0), .second, .val (.long t1), .second, .val (.long t2), .second, .val (.long t3), .second, .val (.long dq), .second, .val (.int lim), .val (.int f0), .val (.int f1), .val (.int f2), .val (.int f3), .val (.ref b5), .unset, .unset, .unset, .unset, .unset, .unset, .unset, .unset, .unset, .unset, .unset, .unset, .unset, .unset]) rfl kt
          show Go _ _ _ _ _ _ _ _ (mkF m 74 #[.val (.int flags), .val (.long t0), .second, .val (.long t1), .second, .val (.long t2), .second, .val (.long t3), .second, .val (.long dq), .second, .val (.int lim), .val (.int f0), .val (.int f1), .val (.int f2), .val (.int f3), .val (.ref b5), .unset, .unset, .unset, .unset, .unset, .unset, .unset, .unset, .unset, .unset, .unset, .unset, .unset, .unset] [])
          refine own_via ?_ fun _ kt => XS.aload X6.here hx rfl (hb hby at_74) rfl rfl kt
          show Go _ _ _ _ _ _ _ _ (mkF m 76 #[.val (.int flags), .val (.long t0), .second, .val (.long t1), .second, .val (.long t2), .second, .val (.long t3), .second, .val (.long dq), .second, .val (.int lim), .val (.int f0), .val (.int f1), .val (.int f2), .val (.int f3), .val (.ref b5), .unset, .unset, .unset, .unset, .unset, .unset, .unset, .unset, .unset, .unset, .unset, .unset, .unset, .unset] [(.ref b5)])
          refine own_via ?_ fun _ kt => XS.iload X6.here hx rfl (hb hby at_76) rfl kt
          show Go _ _ _ _ _ _ _ _ (mkF m 78 #[.val (.int flags), .val (.long t0), .second, .val (.long t1), .second, .val (.long t2), .second, .val (.long t3), .second, .val (.long dq), .second, .val (.int lim), .val (.int f0), .val (.int f1), .val (.int f2), .val (.int f3), .val (.ref b5), .unset, .unset, .unset, .unset, .unset, .unset, .unset, .unset, .unset, .unset, .unset, .unset, .unset, .unset] [(.int f0), (.ref b5)])
          refine own_via ?_ fun _ kt => XS.lloadN X6.here hx rfl (hb hby at_78) rfl kt
          show Go _ _ _ _ _ _ _ _ (mkF m 79 #[.val (.int flags), .val (.long t0), .second, .val (.long t1), .second, .val (.long t2), .second, .val (.long t3), .second, .val (.long dq), .second, .val (.int lim), .val (.int f0), .val (.int f1), .val (.int f2), .val (.int f3), .val (.ref b5), .unset, .unset, .unset, .unset, .unset, .unset, .unset, .unset, .unset, .unset, .unset, .unset, .unset, .unset] [(.long t0), (.int f0), (.ref b5)])
          obtain ⟨cq7, kq7, q7a, q7b, q7c⟩ := isOf hZ e6 p6_E
          obtain ⟨_, _, ⟨T7, L7, k7, n7⟩, -, X7, ⟨Lc7, hQ7, l7, y7, z7⟩, st7⟩ := X6.virtualBack hx (y := (⟨"com/example/dovecote/dovecote/standin/isds/Lockout", "count", "(ZJ)V"⟩ : MethodName)) (z := (⟨"com/example/dovecote/dovecote/standin/isds/Lockout", "count", "(ZJ)V"⟩ : MethodName)) hown (mvT hZ (hw _ (List.mem_of_getElem? (i := 11) rfl))) (mvT hZ (hw _ (List.mem_of_getElem? (i := 12) rfl))) (notFace_of_selects (args := #[]) (mvT hZ (hw _ (List.mem_of_getElem? (i := 14) rfl)))) (mvT hZ (hw _ (List.mem_of_getElem? (i := 14) rfl))) (mvT hZ (hw _ (List.mem_of_getElem? (i := 13) rfl))) (by decide) (backOf (W := 0) (rm_count l Z a0 hw [] b5 f0 t0 lim (0 : Int32) (0 : Int32) (0 : Int64) h6 n0 Z0 g_b5 p6_E p6_Fl p6_Fq p6_Fk p6_Fa) hZ (hw _ (List.mem_of_getElem? (i := 15) rfl)) (hw _ (List.mem_of_getElem? (i := 2) rfl)) (by decide) (by decide)) q7a q7c (g := (mkF m 79 #[.val (.int flags), .val (.long t0), .second, .val (.long t1), .second, .val (.long t2), .second, .val (.long t3), .second, .val (.long dq), .second, .val (.int lim), .val (.int f0), .val (.int f1), .val (.int f2), .val (.int f3), .val (.ref b5), .unset, .unset, .unset, .unset, .unset, .unset, .unset, .unset, .unset, .unset, .unset, .unset, .unset, .unset] [(.long t0), (.int f0), (.ref b5)])) rfl (by rw [hml]; rfl) (Steps.refl _) (argsL := [(.int f0), (.long t0)]) (rest := []) (lenOf pd4 rfl) rfl (by show 2 * 0 + _ ≤ _; exact Nat.le_of_eq rfl) (hb hby at_79) (fun _ _ => ⟨rfl, e6, (by decide : 1 + 0 ≤ _), (by decide : 4 + 0 ≤ _)⟩)
          dsimp only [Pt.U, Pt.locs, Pt.cells, Pt.slots] at X7 l7 y7 z7 st7 hQ7
          subst l7 y7 z7
          obtain ⟨h7, e7⟩ : ∃ z, T7.heap = z := ⟨_, rfl⟩
          rw [e7] at hQ7
          obtain ⟨rfl, Nq7, Kq7, p7_E, p7_Fl, p7_Fq, p7_Fk, p7_Fa⟩ := hQ7
          have N7 := Fr.app N6 Nq7
          replace Z0 := Nat.le_trans Z0 Kq7.1
          replace O := O.keep Kq7 (allS g_b5 all0)
          obtain ⟨R1, hR1⟩ : ∃ z, z = (rf f0 (0 : Int32)) := ⟨_, rfl⟩
          rw [← hR1] at p7_Fq
          obtain ⟨K1, hK1⟩ : ∃ z, z = (kf f0 lim (0 : Int32) (0 : Int32)) := ⟨_, rfl⟩
          rw [← hK1] at p7_Fk
          obtain ⟨A1, hA1⟩ : ∃ z, z = (af f0 lim (0 : Int32) (0 : Int64) t0) := ⟨_, rfl⟩
          rw [← hA1] at p7_Fa
          refine own_join ?_ st7
          show Go _ _ _ _ _ _ _ _ (mkF m 82 #[.val (.int flags), .val (.long t0), .second, .val (.long t1), .second, .val (.long t2), .second, .val (.long t3), .second, .val (.long dq), .second, .val (.int lim), .val (.int f0), .val (.int f1), .val (.int f2), .val (.int f3), .val (.ref b5), .unset, .unset, .unset, .unset, .unset, .unset, .unset, .unset, .unset, .unset, .unset, .unset, .unset, .unset] [])
          refine own_via ?_ fun _ kt => XS.aload X7.here hx rfl (hb hby at_82) rfl rfl kt
          show Go _ _ _ _ _ _ _ _ (mkF m 84 #[.val (.int flags), .val (.long t0), .second, .val (.long t1), .second, .val (.long t2), .second, .val (.long t3), .second, .val (.long dq), .second, .val (.int lim), .val (.int f0), .val (.int f1), .val (.int f2), .val (.int f3), .val (.ref b5), .unset, .unset, .unset, .unset, .unset, .unset, .unset, .unset, .unset, .unset, .unset, .unset, .unset, .unset] [(.ref b5)])
          refine own_via ?_ fun _ kt => XS.iload X7.here hx rfl (hb hby at_84) rfl kt
          show Go _ _ _ _ _ _ _ _ (mkF m 86 #[.val (.int flags), .val (.long t0), .second, .val (.long t1), .second, .val (.long t2), .second, .val (.long t3), .second, .val (.long dq), .second, .val (.int lim), .val (.int f0), .val (.int f1), .val (.int f2), .val (.int f3), .val (.ref b5), .unset, .unset, .unset, .unset, .unset, .unset, .unset, .unset, .unset, .unset, .unset, .unset, .unset, .unset] [(.int f1), (.ref b5)])
          refine own_via ?_ fun _ kt => XS.lloadN X7.here hx rfl (hb hby at_86) rfl kt
          show Go _ _ _ _ _ _ _ _ (mkF m 87 #[.val (.int flags), .val (.long t0), .second, .val (.long t1), .second, .val (.long t2), .second, .val (.long t3), .second, .val (.long dq), .second, .val (.int lim), .val (.int f0), .val (.int f1), .val (.int f2), .val (.int f3), .val (.ref b5), .unset, .unset, .unset, .unset, .unset, .unset, .unset, .unset, .unset, .unset, .unset, .unset, .unset, .unset] [(.long t1), (.int f1), (.ref b5)])
          obtain ⟨cq8, kq8, q8a, q8b, q8c⟩ := isOf hZ e7 p7_E
          obtain ⟨_, _, ⟨T8, L8, k8, n8⟩, -, X8, ⟨Lc8, hQ8, l8, y8, z8⟩, st8⟩ := X7.virtualBack hx (y := (⟨"com/example/dovecote/dovecote/standin/isds/Lockout", "count", "(ZJ)V"⟩ : MethodName)) (z := (⟨"com/example/dovecote/dovecote/standin/isds/Lockout", "count", "(ZJ)V"⟩ : MethodName)) hown (mvT hZ (hw _ (List.mem_of_getElem? (i := 11) rfl))) (mvT hZ (hw _ (List.mem_of_getElem? (i := 12) rfl))) (notFace_of_selects (args := #[]) (mvT hZ (hw _ (List.mem_of_getElem? (i := 14) rfl)))) (mvT hZ (hw _ (List.mem_of_getElem? (i := 14) rfl))) (mvT hZ (hw _ (List.mem_of_getElem? (i := 13) rfl))) (by decide) (backOf (W := 0) (rm_count l Z a0 hw [] b5 f1 t1 lim R1 K1 A1 h7 n0 Z0 g_b5 p7_E p7_Fl p7_Fq p7_Fk p7_Fa) hZ (hw _ (List.mem_of_getElem? (i := 15) rfl)) (hw _ (List.mem_of_getElem? (i := 2) rfl)) (by decide) (by decide)) q8a q8c (g := (mkF m 87 #[.val (.int flags), .val (.long t0), .second, .val (.long t1), .second, .val (.long t2), .second, .val (.long t3), .second, .val (.long dq), .second, .val (.int lim), .val (.int f0), .val (.int f1), .val (.int f2), .val (.int f3), .val (.ref b5), .unset, .unset, .unset, .unset, .unset, .unset, .unset, .unset, .unset, .unset, .unset, .unset, .unset, .unset] [(.long t1), (.int f1), (.ref b5)])) rfl (by rw [hml]; rfl) (Steps.refl _) (argsL := [(.int f1), (.long t1)]) (rest := []) (lenOf pd4 rfl) rfl (by show 2 * 0 + _ ≤ _; exact Nat.le_of_eq rfl) (hb hby at_87) (fun _ _ => ⟨rfl, e7, (by decide : 1 + 0 ≤ _), (by decide : 4 + 0 ≤ _)⟩)
          dsimp only [Pt.U, Pt.locs, Pt.cells, Pt.slots] at X8 l8 y8 z8 st8 hQ8
          subst l8 y8 z8
          obtain ⟨h8, e8⟩ : ∃ z, T8.heap = z := ⟨_, rfl⟩
          rw [e8] at hQ8
          obtain ⟨rfl, Nq8, Kq8, p8_E, p8_Fl, p8_Fq, p8_Fk, p8_Fa⟩ := hQ8
          have N8 := Fr.app N7 Nq8
          replace Z0 := Nat.le_trans Z0 Kq8.1
          replace O := O.keep Kq8 (allS g_b5 all0)
          obtain ⟨R2, hR2⟩ : ∃ z, z = (rf f1 R1) := ⟨_, rfl⟩
          rw [← hR2] at p8_Fq
          obtain ⟨K2, hK2⟩ : ∃ z, z = (kf f1 lim R1 K1) := ⟨_, rfl⟩
          rw [← hK2] at p8_Fk
          obtain ⟨A2, hA2⟩ : ∃ z, z = (af f1 lim R1 A1 t1) := ⟨_, rfl⟩
          rw [← hA2] at p8_Fa
          refine own_join ?_ st8
          show Go _ _ _ _ _ _ _ _ (mkF m 90 #[.val (.int flags), .val (.long t0), .second, .val (.long t1), .second, .val (.long t2), .second, .val (.long t3), .second, .val (.long dq), .second, .val (.int lim), .val (.int f0), .val (.int f1), .val (.int f2), .val (.int f3), .val (.ref b5), .unset, .unset, .unset, .unset, .unset, .unset, .unset, .unset, .unset, .unset, .unset, .unset, .unset, .unset] [])
          refine own_via ?_ fun _ kt => XS.aload X8.here hx rfl (hb hby at_90) rfl rfl kt
          show Go _ _ _ _ _ _ _ _ (mkF m 92 #[.val (.int flags), .val (.long t0), .second, .val (.long t1), .second, .val (.long t2), .second, .val (.long t3), .second, .val (.long dq), .second, .val (.int lim), .val (.int f0), .val (.int f1), .val (.int f2), .val (.int f3), .val (.ref b5), .unset, .unset, .unset, .unset, .unset, .unset, .unset, .unset, .unset, .unset, .unset, .unset, .unset, .unset] [(.ref b5)])
          refine own_via ?_ fun _ kt => XS.iload X8.here hx rfl (hb hby at_92) rfl kt
          show Go _ _ _ _ _ _ _ _ (mkF m 94 #[.val (.int flags), .val (.long t0), .second, .val (.long t1), .second, .val (.long t2), .second, .val (.long t3), .second, .val (.long dq), .second, .val (.int lim), .val (.int f0), .val (.int f1), .val (.int f2), .val (.int f3), .val (.ref b5), .unset, .unset, .unset, .unset, .unset, .unset, .unset, .unset, .unset, .unset, .unset, .unset, .unset, .unset] [(.int f2), (.ref b5)])
          refine own_via ?_ fun _ kt => XS.lload X8.here hx rfl (hb hby at_94) rfl kt
          show Go _ _ _ _ _ _ _ _ (mkF m 96 #[.val (.int flags), .val (.long t0), .second, .val (.long t1), .second, .val (.long t2), .second, .val (.long t3), .second, .val (.long dq), .second, .val (.int lim), .val (.int f0), .val (.int f1), .val (.int f2), .val (.int f3), .val (.ref b5), .unset, .unset, .unset, .unset, .unset, .unset, .unset, .unset, .unset, .unset, .unset, .unset, .unset, .unset] [(.long t2), (.int f2), (.ref b5)])
          obtain ⟨cq9, kq9, q9a, q9b, q9c⟩ := isOf hZ e8 p8_E
          obtain ⟨_, _, ⟨T9, L9, k9, n9⟩, -, X9, ⟨Lc9, hQ9, l9, y9, z9⟩, st9⟩ := X8.virtualBack hx (y := (⟨"com/example/dovecote/dovecote/standin/isds/Lockout", "count", "(ZJ)V"⟩ : MethodName)) (z := (⟨"com/example/dovecote/dovecote/standin/isds/Lockout", "count", "(ZJ)V"⟩ : MethodName)) hown (mvT hZ (hw _ (List.mem_of_getElem? (i := 11) rfl))) (mvT hZ (hw _ (List.mem_of_getElem? (i := 12) rfl))) (notFace_of_selects (args := #[]) (mvT hZ (hw _ (List.mem_of_getElem? (i := 14) rfl)))) (mvT hZ (hw _ (List.mem_of_getElem? (i := 14) rfl))) (mvT hZ (hw _ (List.mem_of_getElem? (i := 13) rfl))) (by decide) (backOf (W := 0) (rm_count l Z a0 hw [] b5 f2 t2 lim R2 K2 A2 h8 n0 Z0 g_b5 p8_E p8_Fl p8_Fq p8_Fk p8_Fa) hZ (hw _ (List.mem_of_getElem? (i := 15) rfl)) (hw _ (List.mem_of_getElem? (i := 2) rfl)) (by decide) (by decide)) q9a q9c (g := (mkF m 96 #[.val (.int flags), .val (.long t0), .second, .val (.long t1), .second, .val (.long t2), .second, .val (.long t3), .second, .val (.long dq), .second, .val (.int lim), .val (.int f0), .val (.int f1), .val (.int f2), .val (.int f3), .val (.ref b5), .unset, .unset, .unset, .unset, .unset, .unset, .unset, .unset, .unset, .unset, .unset, .unset, .unset, .unset] [(.long t2), (.int f2), (.ref b5)])) rfl (by rw [hml]; rfl) (Steps.refl _) (argsL := [(.int f2), (.long t2)]) (rest := []) (lenOf pd4 rfl) rfl (by show 2 * 0 + _ ≤ _; exact Nat.le_of_eq rfl) (hb hby at_96) (fun _ _ => ⟨rfl, e8, (by decide : 1 + 0 ≤ _), (by decide : 4 + 0 ≤ _)⟩)
          dsimp only [Pt.U, Pt.locs, Pt.cells, Pt.slots] at X9 l9 y9 z9 st9 hQ9
          subst l9 y9 z9
          obtain ⟨h9, e9⟩ : ∃ z, T9.heap = z := ⟨_, rfl⟩
          rw [e9] at hQ9
          obtain ⟨rfl, Nq9, Kq9, p9_E, p9_Fl, p9_Fq, p9_Fk, p9_Fa⟩ := hQ9
          have N9 := Fr.app N8 Nq9
          replace Z0 := Nat.le_trans Z0 Kq9.1
          replace O := O.keep Kq9 (allS g_b5 all0)
          obtain ⟨R3, hR3⟩ : ∃ z, z = (rf f2 R2) := ⟨_, rfl⟩
          rw [← hR3] at p9_Fq
          obtain ⟨K3, hK3⟩ : ∃ z, z = (kf f2 lim R2 K2) := ⟨_, rfl⟩
          rw [← hK3] at p9_Fk
          obtain ⟨A3, hA3⟩ : ∃ z, z = (af f2 lim R2 A2 t2) := ⟨_, rfl⟩
          rw [← hA3] at p9_Fa
          refine own_join ?_ st9
          show Go _ _ _ _ _ _ _ _ (mkF m 99 #[.val (.int flags), .val (.long t0), .second, .val (.long t1), .second, .val (.long t2), .second, .val (.long t3), .second, .val (.long dq), .second, .val (.int lim), .val (.int f0), .val (.int f1), .val (.int f2), .val (.int f3), .val (.ref b5), .unset, .unset, .unset, .unset, .unset, .unset, .unset, .unset, .unset, .unset, .unset, .unset, .unset, .unset] [])
          refine own_via ?_ fun _ kt => XS.aload X9.here hx rfl (hb hby at_99) rfl rfl kt
          show Go _ _ _ _ _ _ _ _ (mkF m 101 #[.val (.int flags), .val (.long t0), .second, .val (.long t1), .second, .val (.long t2), .second, .val (.long t3), .second, .val (.long dq), .second, .val (.int lim), .val (.int f0), .val (.int f1), .val (.int f2), .val (.int f3), .val (.ref b5), .unset, .unset, .unset, .unset, .unset, .unset, .unset, .unset, .unset, .unset, .unset, .unset, .unset, .unset] [(.ref b5)])
          refine own_via ?_ fun _ kt => XS.iload X9.here hx rfl (hb hby at_101) rfl kt
          show Go _ _ _ _ _ _ _ _ (mkF m 103 #[.val (.int flags), .val (.long t0), .second, .val (.long t1), .second, .val (.long t2), .second, .val (.long t3), .second, .val (.long dq), .second, .val (.int lim), .val (.int f0), .val (.int f1), .val (.int f2), .val (.int f3), .val (.ref b5), .unset, .unset, .unset, .unset, .unset, .unset, .unset, .unset, .unset, .unset, .unset, .unset, .unset, .unset] [(.int f3), (.ref b5)])
          refine own_via ?_ fun _ kt => XS.lload X9.here hx rfl (hb hby at_103) rfl kt
          show Go _ _ _ _ _ _ _ _ (mkF m 105 #[.val (.int flags), .val (.long t0), .second, .val (.long t1), .second, .val (.long t2), .second, .val (.long t3), .second, .val (.long dq), .second, .val (.int lim), .val (.int f0), .val (.int f1), .val (.int f2), .val (.int f3), .val (.ref b5), .unset, .unset, .unset, .unset, .unset, .unset, .unset, .unset, .unset, .unset, .unset, .unset, .unset, .unset] [(.long t3), (.int f3), (.ref b5)])
          obtain ⟨cq10, kq10, q10a, q10b, q10c⟩ := isOf hZ e9 p9_E
          obtain ⟨_, _, ⟨T10, L10, k10, n10⟩, -, X10, ⟨Lc10, hQ10, l10, y10, z10⟩, st10⟩ := X9.virtualBack hx (y := (⟨"com/example/dovecote/dovecote/standin/isds/Lockout", "count", "(ZJ)V"⟩ : MethodName)) (z := (⟨"com/example/dovecote/dovecote/standin/isds/Lockout", "count", "(ZJ)V"⟩ : MethodName)) hown (mvT hZ (hw _ (List.mem_of_getElem? (i := 11) rfl))) (mvT hZ (hw _ (List.mem_of_getElem? (i := 12) rfl))) (notFace_of_selects (args := #[]) (mvT hZ (hw _ (List.mem_of_getElem? (i := 14) rfl)))) (mvT hZ (hw _ (List.mem_of_getElem? (i := 14) rfl))) (mvT hZ (hw _ (List.mem_of_getElem? (i := 13) rfl))) (by decide) (backOf (W := 0) (rm_count l Z a0 hw [] b5 f3 t3 lim R3 K3 A3 h9 n0 Z0 g_b5 p9_E p9_Fl p9_Fq p9_Fk p9_Fa) hZ (hw _ (List.mem_of_getElem? (i := 15) rfl)) (hw _ (List.mem_of_getElem? (i := 2) rfl)) (by decide) (by decide)) q10a q10c (g := (mkF m 105 #[.val (.int flags), .val (.long t0), .second, .val (.long t1), .second, .val (.long t2), .second, .val (.long t3), .second, .val (.long dq), .second, .val (.int lim), .val (.int f0), .val (.int f1), .val (.int f2), .val (.int f3), .val (.ref b5), .unset, .unset, .unset, .unset, .unset, .unset, .unset, .unset, .unset, .unset, .unset, .unset, .unset, .unset] [(.long t3), (.int f3), (.ref b5)])) rfl (by rw [hml]; rfl) (Steps.refl _) (argsL := [(.int f3), (.long t3)]) (rest := []) (lenOf pd4 rfl) rfl (by show 2 * 0 + _ ≤ _; exact Nat.le_of_eq rfl) (hb hby at_105) (fun _ _ => ⟨rfl, e9, (by decide : 1 + 0 ≤ _), (by decide : 4 + 0 ≤ _)⟩)
          dsimp only [Pt.U, Pt.locs, Pt.cells, Pt.slots] at X10 l10 y10 z10 st10 hQ10
          subst l10 y10 z10
          obtain ⟨h10, e10⟩ : ∃ z, T10.heap = z := ⟨_, rfl⟩
          rw [e10] at hQ10
          obtain ⟨rfl, Nq10, Kq10, p10_E, p10_Fl, p10_Fq, p10_Fk, p10_Fa⟩ := hQ10
          have N10 := Fr.app N9 Nq10
          replace Z0 := Nat.le_trans Z0 Kq10.1
          replace O := O.keep Kq10 (allS g_b5 all0)
          obtain ⟨R4, hR4⟩ : ∃ z, z = (rf f3 R3) := ⟨_, rfl⟩
          rw [← hR4] at p10_Fq
          obtain ⟨K4, hK4⟩ : ∃ z, z = (kf f3 lim R3 K3) := ⟨_, rfl⟩
          rw [← hK4] at p10_Fk
          obtain ⟨A4, hA4⟩ : ∃ z, z = (af f3 lim R3 A3 t3) := ⟨_, rfl⟩
          rw [← hA4] at p10_Fa
          refine own_join ?_ st10
          show Go _ _ _ _ _ _ _ _ (mkF m 108 #[.val (.int flags), .val (.long t0), .second, .val (.long t1), .second, .val (.long t2), .second, .val (.long t3), .second, .val (.long dq), .second, .val (.int lim), .val (.int f0), .val (.int f1), .val (.int f2), .val (.int f3), .val (.ref b5), .unset, .unset, .unset, .unset, .unset, .unset, .unset, .unset, .unset, .unset, .unset, .unset, .unset, .unset] [])
          refine own_via ?_ fun _ kt => XS.iload X10.here hx rfl (hb hby at_108) rfl kt
          have J11 : ∀ (r0 : Int32), r0 = (if f0 = (0 : Int32) then (0 : Int32) else (1 : Int32)) → Go p e below s room_1.cells room_1.slots (Q_law Z flags t0 t1 t2 t3 dq ad h0 n0) T10 (mkF m 118 #[.val (.int flags), .val (.long t0), .second, .val (.long t1), .second, .val (.long t2), .second, .val (.long t3), .second, .val (.long dq), .second, .val (.int lim), .val (.int f0), .val (.int f1), .val (.int f2), .val (.int f3), .val (.ref b5), .unset, .unset, .unset, .unset, .unset, .unset, .unset, .unset, .unset, .unset, .unset, .unset, .unset, .unset] [(.int r0)]) := by
            intro r0 hr0
            show Go _ _ _ _ _ _ _ _ (mkF m 118 #[.val (.int flags), .val (.long t0), .second, .val (.long t1), .second, .val (.long t2), .second, .val (.long t3), .second, .val (.long dq), .second, .val (.int lim), .val (.int f0), .val (.int f1), .val (.int f2), .val (.int f3), .val (.ref b5), .unset, .unset, .unset, .unset, .unset, .unset, .unset, .unset, .unset, .unset, .unset, .unset, .unset, .unset] [(.int r0)])
            refine own_via ?_ fun _ kt => XS.istore X10.here hx rfl (hb hby at_118) rfl (l' := #[.val (.int flags), .val (.long t0), .second, .val (.long t1), .second, .val (.long t2), .second, .val (.long t3), .second, .val (.long dq), .second, .val (.int lim), .val (.int f0), .val (.int f1), .val (.int f2), .val (.int f3), .val (.ref b5), .val (.int r0), .unset, .unset, .unset, .unset, .unset, .unset, .unset, .unset, .unset, .unset, .unset, .unset, .unset]) rfl kt
            show Go _ _ _ _ _ _ _ _ (mkF m 120 #[.val (.int flags), .val (.long t0), .second, .val (.long t1), .second, .val (.long t2), .second, .val (.long t3), .second, .val (.long dq), .second, .val (.int lim), .val (.int f0), .val (.int f1), .val (.int f2), .val (.int f3), .val (.ref b5), .val (.int r0), .unset, .unset, .unset, .unset, .unset, .unset, .unset, .unset, .unset, .unset, .unset, .unset, .unset] [])
            refine own_via ?_ fun _ kt => XS.iload X10.here hx rfl (hb hby at_120) rfl kt
            have J12 : ∀ (r1 : Int32), r1 = (if f1 = (0 : Int32) then (0 : Int32) else (r0 + (1 : Int32))) → Go p e below s room_1.cells room_1.slots (Q_law Z flags t0 t1 t2 t3 dq ad h0 n0) T10 (mkF m 133 #[.val (.int flags), .val (.long t0), .second, .val (.long t1), .second, .val (.long t2), .second, .val (.long t3), .second, .val (.long dq), .second, .val (.int lim), .val (.int f0), .val (.int f1), .val (.int f2), .val (.int f3), .val (.ref b5), .val (.int r0), .unset, .unset, .unset, .unset, .unset, .unset, .unset, .unset, .unset, .unset, .unset, .unset, .unset] [(.int r1)]) := by
              intro r1 hr1
              show Go _ _ _ _ _ _ _ _ (mkF m 133 #[.val (.int flags), .val (.long t0), .second, .val (.long t1), .second, .val (.long t2), .second, .val (.long t3), .second, .val (.long dq), .second, .val (.int lim), .val (.int f0), .val (.int f1), .val (.int f2), .val (.int f3), .val (.ref b5), .val (.int r0), .unset, .unset, .unset, .unset, .unset, .unset, .unset, .unset, .unset, .unset, .unset, .unset, .unset] [(.int r1)])
              refine own_via ?_ fun _ kt => XS.istore X10.here hx rfl (hb hby at_133) rfl (l' := #[.val (.int flags), .val (.long t0), .second, .val (.long t1), .second, .val (.long t2), .second, .val (.long t3), .second, .val (.long dq), .second, .val (.int lim), .val (.int f0), .val (.int f1), .val (.int f2), .val (.int f3), .val (.ref b5), .val (.int r0), .val (.int r1), .unset, .unset, .unset, .unset, .unset, .unset, .unset, .unset, .unset, .unset, .unset, .unset]) rfl kt
              show Go _ _ _ _ _ _ _ _ (mkF m 135 #[.val (.int flags), .val (.long t0), .second, .val (.long t1), .second, .val (.long t2), .second, .val (.long t3), .second, .val (.long dq), .second, .val (.int lim), .val (.int f0), .val (.int f1), .val (.int f2), .val (.int f3), .val (.ref b5), .val (.int r0), .val (.int r1), .unset, .unset, .unset, .unset, .unset, .unset, .unset, .unset, .unset, .unset, .unset, .unset] [])
              refine own_via ?_ fun _ kt => XS.iload X10.here hx rfl (hb hby at_135) rfl kt
              have J13 : ∀ (r2 : Int32), r2 = (if f2 = (0 : Int32) then (0 : Int32) else (r1 + (1 : Int32))) → Go p e below s room_1.cells room_1.slots (Q_law Z flags t0 t1 t2 t3 dq ad h0 n0) T10 (mkF m 148 #[.val (.int flags), .val (.long t0), .second, .val (.long t1), .second, .val (.long t2), .second, .val (.long t3), .second, .val (.long dq), .second, .val (.int lim), .val (.int f0), .val (.int f1), .val (.int f2), .val (.int f3), .val (.ref b5), .val (.int r0), .val (.int r1), .unset, .unset, .unset, .unset, .unset, .unset, .unset, .unset, .unset, .unset, .unset, .unset] [(.int r2)]) := by
                intro r2 hr2
                show Go _ _ _ _ _ _ _ _ (mkF m 148 #[.val (.int flags), .val (.long t0), .second, .val (.long t1), .second, .val (.long t2), .second, .val (.long t3), .second, .val (.long dq), .second, .val (.int lim), .val (.int f0), .val (.int f1), .val (.int f2), .val (.int f3), .val (.ref b5), .val (.int r0), .val (.int r1), .unset, .unset, .unset, .unset, .unset, .unset, .unset, .unset, .unset, .unset, .unset, .unset] [(.int r2)])
                refine own_via ?_ fun _ kt => XS.istore X10.here hx rfl (hb hby at_148) rfl (l' := #[.val (.int flags), .val (.long t0), .second, .val (.long t1), .second, .val (.long t2), .second, .val (.long t3), .second, .val (.long dq), .second, .val (.int lim), .val (.int f0), .val (.int f1), .val (.int f2), .val (.int f3), .val (.ref b5), .val (.int r0), .val (.int r1), .val (.int r2), .unset, .unset, .unset, .unset, .unset, .unset, .unset, .unset, .unset, .unset, .unset]) rfl kt
                show Go _ _ _ _ _ _ _ _ (mkF m 150 #[.val (.int flags), .val (.long t0), .second, .val (.long t1), .second, .val (.long t2), .second, .val (.long t3), .second, .val (.long dq), .second, .val (.int lim), .val (.int f0), .val (.int f1), .val (.int f2), .val (.int f3), .val (.ref b5), .val (.int r0), .val (.int r1), .val (.int r2), .unset, .unset, .unset, .unset, .unset, .unset, .unset, .unset, .unset, .unset, .unset] [])
                refine own_via ?_ fun _ kt => XS.iload X10.here hx rfl (hb hby at_150) rfl kt
                have J14 : ∀ (r3 : Int32), r3 = (if f3 = (0 : Int32) then (0 : Int32) else (r2 + (1 : Int32))) → Go p e below s room_1.cells room_1.slots (Q_law Z flags t0 t1 t2 t3 dq ad h0 n0) T10 (mkF m 163 #[.val (.int flags), .val (.long t0), .second, .val (.long t1), .second, .val (.long t2), .second, .val (.long t3), .second, .val (.long dq), .second, .val (.int lim), .val (.int f0), .val (.int f1), .val (.int f2), .val (.int f3), .val (.ref b5), .val (.int r0), .val (.int r1), .val (.int r2), .unset, .unset, .unset, .unset, .unset, .unset, .unset, .unset, .unset, .unset, .unset] [(.int r3)]) := by
                  intro r3 hr3
                  show Go _ _ _ _ _ _ _ _ (mkF m 163 #[.val (.int flags), .val (.long t0), .second, .val (.long t1), .second, .val (.long t2), .second, .val (.long t3), .second, .val (.long dq), .second, .val (.int lim), .val (.int f0), .val (.int f1), .val (.int f2), .val (.int f3), .val (.ref b5), .val (.int r0), .val (.int r1), .val (.int r2), .unset, .unset, .unset, .unset, .unset, .unset, .unset, .unset, .unset, .unset, .unset] [(.int r3)])
                  refine own_via ?_ fun _ kt => XS.istore X10.here hx rfl (hb hby at_163) rfl (l' := #[.val (.int flags), .val (.long t0), .second, .val (.long t1), .second, .val (.long t2), .second, .val (.long t3), .second, .val (.long dq), .second, .val (.int lim), .val (.int f0), .val (.int f1), .val (.int f2), .val (.int f3), .val (.ref b5), .val (.int r0), .val (.int r1), .val (.int r2), .val (.int r3), .unset, .unset, .unset, .unset, .unset, .unset, .unset, .unset, .unset, .unset]) rfl kt
                  show Go _ _ _ _ _ _ _ _ (mkF m 165 #[.val (.int flags), .val (.long t0), .second, .val (.long t1), .second, .val (.long t2), .second, .val (.long t3), .second, .val (.long dq), .second, .val (.int lim), .val (.int f0), .val (.int f1), .val (.int f2), .val (.int f3), .val (.ref b5), .val (.int r0), .val (.int r1), .val (.int r2), .val (.int r3), .unset, .unset, .unset, .unset, .unset, .unset, .unset, .unset, .unset, .unset] [])
                  refine own_via ?_ fun _ kt => XS.iload X10.here hx rfl (hb hby at_165) rfl kt
                  show Go _ _ _ _ _ _ _ _ (mkF m 167 #[.val (.int flags), .val (.long t0), .second, .val (.long t1), .second, .val (.long t2), .second, .val (.long t3), .second, .val (.long dq), .second, .val (.int lim), .val (.int f0), .val (.int f1), .val (.int f2), .val (.int f3), .val (.ref b5), .val (.int r0), .val (.int r1), .val (.int r2), .val (.int r3), .unset, .unset, .unset, .unset, .unset, .unset, .unset, .unset, .unset, .unset] [(.int r0)])
                  refine own_via ?_ fun _ kt => XS.iload X10.here hx rfl (hb hby at_167) rfl kt
                  have J15 : ∀ (H0 : Int32), H0 = (if r0 < lim then (0 : Int32) else (1 : Int32)) → Go p e below s room_1.cells room_1.slots (Q_law Z flags t0 t1 t2 t3 dq ad h0 n0) T10 (mkF m 177 #[.val (.int flags), .val (.long t0), .second, .val (.long t1), .second, .val (.long t2), .second, .val (.long t3), .second, .val (.long dq), .second, .val (.int lim), .val (.int f0), .val (.int f1), .val (.int f2), .val (.int f3), .val (.ref b5), .val (.int r0), .val (.int r1), .val (.int r2), .val (.int r3), .unset, .unset, .unset, .unset, .unset, .unset, .unset, .unset, .unset, .unset] [(.int H0)]) := by
                    intro H0 hH0
                    show Go _ _ _ _ _ _ _ _ (mkF m 177 #[.val (.int flags), .val (.long t0), .second, .val (.long t1), .second, .val (.long t2), .second, .val (.long t3), .second, .val (.long dq), .second, .val (.int lim), .val (.int f0), .val (.int f1), .val (.int f2), .val (.int f3), .val (.ref b5), .val (.int r0), .val (.int r1), .val (.int r2), .val (.int r3), .unset, .unset, .unset, .unset, .unset, .unset, .unset, .unset, .unset, .unset] [(.int H0)])
                    refine own_via ?_ fun _ kt => XS.istore X10.here hx rfl (hb hby at_177) rfl (l' := #[.val (.int flags), .val (.long t0), .second, .val (.long t1), .second, .val (.long t2), .second, .val (.long t3), .second, .val (.long dq), .second, .val (.int lim), .val (.int f0), .val (.int f1), .val (.int f2), .val (.int f3), .val (.ref b5), .val (.int r0), .val (.int r1), .val (.int r2), .val (.int r3), .val (.int H0), .unset, .unset, .unset, .unset, .unset, .unset, .unset, .unset, .unset]) rfl kt
                    show Go _ _ _ _ _ _ _ _ (mkF m 179 #[.val (.int flags), .val (.long t0), .second, .val (.long t1), .second, .val (.long t2), .second, .val (.long t3), .second, .val (.long dq), .second, .val (.int lim), .val (.int f0), .val (.int f1), .val (.int f2), .val (.int f3), .val (.ref b5), .val (.int r0), .val (.int r1), .val (.int r2), .val (.int r3), .val (.int H0), .unset, .unset, .unset, .unset, .unset, .unset, .unset, .unset, .unset] [])
                    refine own_via ?_ fun _ kt => XS.iload X10.here hx rfl (hb hby at_179) rfl kt
                    show Go _ _ _ _ _ _ _ _ (mkF m 181 #[.val (.int flags), .val (.long t0), .second, .val (.long t1), .second, .val (.long t2), .second, .val (.long t3), .second, .val (.long dq), .second, .val (.int lim), .val (.int f0), .val (.int f1), .val (.int f2), .val (.int f3), .val (.ref b5), .val (.int r0), .val (.int r1), .val (.int r2), .val (.int r3), .val (.int H0), .unset, .unset, .unset, .unset, .unset, .unset, .unset, .unset, .unset] [(.int r1)])
                    refine own_via ?_ fun _ kt => XS.iload X10.here hx rfl (hb hby at_181) rfl kt
                    have J16 : ∀ (H1 : Int32), H1 = (if r1 < lim then (0 : Int32) else (1 : Int32)) → Go p e below s room_1.cells room_1.slots (Q_law Z flags t0 t1 t2 t3 dq ad h0 n0) T10 (mkF m 191 #[.val (.int flags), .val (.long t0), .second, .val (.long t1), .second, .val (.long t2), .second, .val (.long t3), .second, .val (.long dq), .second, .val (.int lim), .val (.int f0), .val (.int f1), .val (.int f2), .val (.int f3), .val (.ref b5), .val (.int r0), .val (.int r1), .val (.int r2), .val (.int r3), .val (.int H0), .unset, .unset, .unset, .unset, .unset, .unset, .unset, .unset, .unset] [(.int H1)]) := by
                      intro H1 hH1
                      show Go _ _ _ _ _ _ _ _ (mkF m 191 #[.val (.int flags), .val (.long t0), .second, .val (.long t1), .second, .val (.long t2), .second, .val (.long t3), .second, .val (.long dq), .second, .val (.int lim), .val (.int f0), .val (.int f1), .val (.int f2), .val (.int f3), .val (.ref b5), .val (.int r0), .val (.int r1), .val (.int r2), .val (.int r3), .val (.int H0), .unset, .unset, .unset, .unset, .unset, .unset, .unset, .unset, .unset] [(.int H1)])
                      refine own_via ?_ fun _ kt => XS.istore X10.here hx rfl (hb hby at_191) rfl (l' := #[.val (.int flags), .val (.long t0), .second, .val (.long t1), .second, .val (.long t2), .second, .val (.long t3), .second, .val (.long dq), .second, .val (.int lim), .val (.int f0), .val (.int f1), .val (.int f2), .val (.int f3), .val (.ref b5), .val (.int r0), .val (.int r1), .val (.int r2), .val (.int r3), .val (.int H0), .val (.int H1), .unset, .unset, .unset, .unset, .unset, .unset, .unset, .unset]) rfl kt
                      show Go _ _ _ _ _ _ _ _ (mkF m 193 #[.val (.int flags), .val (.long t0), .second, .val (.long t1), .second, .val (.long t2), .second, .val (.long t3), .second, .val (.long dq), .second, .val (.int lim), .val (.int f0), .val (.int f1), .val (.int f2), .val (.int f3), .val (.ref b5), .val (.int r0), .val (.int r1), .val (.int r2), .val (.int r3), .val (.int H0), .val (.int H1), .unset, .unset, .unset, .unset, .unset, .unset, .unset, .unset] [])
                      refine own_via ?_ fun _ kt => XS.iload X10.here hx rfl (hb hby at_193) rfl kt
                      show Go _ _ _ _ _ _ _ _ (mkF m 195 #[.val (.int flags), .val (.long t0), .second, .val (.long t1), .second, .val (.long t2), .second, .val (.long t3), .second, .val (.long dq), .second, .val (.int lim), .val (.int f0), .val (.int f1), .val (.int f2), .val (.int f3), .val (.ref b5), .val (.int r0), .val (.int r1), .val (.int r2), .val (.int r3), .val (.int H0), .val (.int H1), .unset, .unset, .unset, .unset, .unset, .unset, .unset, .unset] [(.int r2)])
                      refine own_via ?_ fun _ kt => XS.iload X10.here hx rfl (hb hby at_195) rfl kt
                      have J17 : ∀ (H2 : Int32), H2 = (if r2 < lim then (0 : Int32) else (1 : Int32)) → Go p e below s room_1.cells room_1.slots (Q_law Z flags t0 t1 t2 t3 dq ad h0 n0) T10 (mkF m 205 #[.val (.int flags), .val (.long t0), .second, .val (.long t1), .second, .val (.long t2), .second, .val (.long t3), .second, .val (.long dq), .second, .val (.int lim), .val (.int f0), .val (.int f1), .val (.int f2), .val (.int f3), .val (.ref b5), .val (.int r0), .val (.int r1), .val (.int r2), .val (.int r3), .val (.int H0), .val (.int H1), .unset, .unset, .unset, .unset, .unset, .unset, .unset, .unset] [(.int H2)]) := by
                        intro H2 hH2
                        show Go _ _ _ _ _ _ _ _ (mkF m 205 #[.val (.int flags), .val (.long t0), .second, .val (.long t1), .second, .val (.long t2), .second, .val (.long t3), .second, .val (.long dq), .second, .val (.int lim), .val (.int f0), .val (.int f1), .val (.int f2), .val (.int f3), .val (.ref b5), .val (.int r0), .val (.int r1), .val (.int r2), .val (.int r3), .val (.int H0), .val (.int H1), .unset, .unset, .unset, .unset, .unset, .unset, .unset, .unset] [(.int H2)])
                        refine own_via ?_ fun _ kt => XS.istore X10.here hx rfl (hb hby at_205) rfl (l' := #[.val (.int flags), .val (.long t0), .second, .val (.long t1), .second, .val (.long t2), .second, .val (.long t3), .second, .val (.long dq), .second, .val (.int lim), .val (.int f0), .val (.int f1), .val (.int f2), .val (.int f3), .val (.ref b5), .val (.int r0), .val (.int r1), .val (.int r2), .val (.int r3), .val (.int H0), .val (.int H1), .val (.int H2), .unset, .unset, .unset, .unset, .unset, .unset, .unset]) rfl kt
                        show Go _ _ _ _ _ _ _ _ (mkF m 207 #[.val (.int flags), .val (.long t0), .second, .val (.long t1), .second, .val (.long t2), .second, .val (.long t3), .second, .val (.long dq), .second, .val (.int lim), .val (.int f0), .val (.int f1), .val (.int f2), .val (.int f3), .val (.ref b5), .val (.int r0), .val (.int r1), .val (.int r2), .val (.int r3), .val (.int H0), .val (.int H1), .val (.int H2), .unset, .unset, .unset, .unset, .unset, .unset, .unset] [])
                        refine own_via ?_ fun _ kt => XS.iload X10.here hx rfl (hb hby at_207) rfl kt
                        show Go _ _ _ _ _ _ _ _ (mkF m 209 #[.val (.int flags), .val (.long t0), .second, .val (.long t1), .second, .val (.long t2), .second, .val (.long t3), .second, .val (.long dq), .second, .val (.int lim), .val (.int f0), .val (.int f1), .val (.int f2), .val (.int f3), .val (.ref b5), .val (.int r0), .val (.int r1), .val (.int r2), .val (.int r3), .val (.int H0), .val (.int H1), .val (.int H2), .unset, .unset, .unset, .unset, .unset, .unset, .unset] [(.int r3)])
                        refine own_via ?_ fun _ kt => XS.iload X10.here hx rfl (hb hby at_209) rfl kt
                        have J18 : ∀ (H3 : Int32), H3 = (if r3 < lim then (0 : Int32) else (1 : Int32)) → Go p e below s room_1.cells room_1.slots (Q_law Z flags t0 t1 t2 t3 dq ad h0 n0) T10 (mkF m 219 #[.val (.int flags), .val (.long t0), .second, .val (.long t1), .second, .val (.long t2), .second, .val (.long t3), .second, .val (.long dq), .second, .val (.int lim), .val (.int f0), .val (.int f1), .val (.int f2), .val (.int f3), .val (.ref b5), .val (.int r0), .val (.int r1), .val (.int r2), .val (.int r3), .val (.int H0), .val (.int H1), .val (.int H2), .unset, .unset, .unset, .unset, .unset, .unset, .unset] [(.int H3)]) := by
                          intro H3 hH3
                          show Go _ _ _ _ _ _ _ _ (mkF m 219 #[.val (.int flags), .val (.long t0), .second, .val (.long t1), .second, .val (.long t2), .second, .val (.long t3), .second, .val (.long dq), .second, .val (.int lim), .val (.int f0), .val (.int f1), .val (.int f2), .val (.int f3), .val (.ref b5), .val (.int r0), .val (.int r1), .val (.int r2), .val (.int r3), .val (.int H0), .val (.int H1), .val (.int H2), .unset, .unset, .unset, .unset, .unset, .unset, .unset] [(.int H3)])
                          refine own_via ?_ fun _ kt => XS.istore X10.here hx rfl (hb hby at_219) rfl (l' := #[.val (.int flags), .val (.long t0), .second, .val (.long t1), .second, .val (.long t2), .second, .val (.long t3), .second, .val (.long dq), .second, .val (.int lim), .val (.int f0), .val (.int f1), .val (.int f2), .val (.int f3), .val (.ref b5), .val (.int r0), .val (.int r1), .val (.int r2), .val (.int r3), .val (.int H0), .val (.int H1), .val (.int H2), .val (.int H3), .unset, .unset, .unset, .unset, .unset, .unset]) rfl kt
                          show Go _ _ _ _ _ _ _ _ (mkF m 221 #[.val (.int flags), .val (.long t0), .second, .val (.long t1), .second, .val (.long t2), .second, .val (.long t3), .second, .val (.long dq), .second, .val (.int lim), .val (.int f0), .val (.int f1), .val (.int f2), .val (.int f3), .val (.ref b5), .val (.int r0), .val (.int r1), .val (.int r2), .val (.int r3), .val (.int H0), .val (.int H1), .val (.int H2), .val (.int H3), .unset, .unset, .unset, .unset, .unset, .unset] [])
                          refine own_via ?_ fun _ kt => XS.iload X10.here hx rfl (hb hby at_221) rfl kt
                          have J19 : ∀ (el : Int32), el = (if H0 = (0 : Int32) then (if H1 = (0 : Int32) then (if H2 = (0 : Int32) then (if H3 = (0 : Int32) then (0 : Int32) else (1 : Int32)) else (1 : Int32)) else (1 : Int32)) else (1 : Int32)) → Go p e below s room_1.cells room_1.slots (Q_law Z flags t0 t1 t2 t3 dq ad h0 n0) T10 (mkF m 246 #[.val (.int flags), .val (.long t0), .second, .val (.long t1), .second, .val (.long t2), .second, .val (.long t3), .second, .val (.long dq), .second, .val (.int lim), .val (.int f0), .val (.int f1), .val (.int f2), .val (.int f3), .val (.ref b5), .val (.int r0), .val (.int r1), .val (.int r2), .val (.int r3), .val (.int H0), .val (.int H1), .val (.int H2), .val (.int H3), .unset, .unset, .unset, .unset, .unset, .unset] [(.int el)]) := by
                            intro el hel
                            show Go _ _ _ _ _ _ _ _ (mkF m 246 #[.val (.int flags), .val (.long t0), .second, .val (.long t1), .second, .val (.long t2), .second, .val (.long t3), .second, .val (.long dq), .second, .val (.int lim), .val (.int f0), .val (.int f1), .val (.int f2), .val (.int f3), .val (.ref b5), .val (.int r0), .val (.int r1), .val (.int r2), .val (.int r3), .val (.int H0), .val (.int H1), .val (.int H2), .val (.int H3), .unset, .unset, .unset, .unset, .unset, .unset] [(.int el)])
                            refine own_via ?_ fun _ kt => XS.istore X10.here hx rfl (hb hby at_246) rfl (l' := #[.val (.int flags), .val (.long t0), .second, .val (.long t1), .second, .val (.long t2), .second, .val (.long t3), .second, .val (.long dq), .second, .val (.int lim), .val (.int f0), .val (.int f1), .val (.int f2), .val (.int f3), .val (.ref b5), .val (.int r0), .val (.int r1), .val (.int r2), .val (.int r3), .val (.int H0), .val (.int H1), .val (.int H2), .val (.int H3), .val (.int el), .unset, .unset, .unset, .unset, .unset]) rfl kt
                            show Go _ _ _ _ _ _ _ _ (mkF m 248 #[.val (.int flags), .val (.long t0), .second, .val (.long t1), .second, .val (.long t2), .second, .val (.long t3), .second, .val (.long dq), .second, .val (.int lim), .val (.int f0), .val (.int f1), .val (.int f2), .val (.int f3), .val (.ref b5), .val (.int r0), .val (.int r1), .val (.int r2), .val (.int r3), .val (.int H0), .val (.int H1), .val (.int H2), .val (.int H3), .val (.int el), .unset, .unset, .unset, .unset, .unset] [])
                            refine own_via ?_ fun _ kt => XS.iload X10.here hx rfl (hb hby at_248) rfl kt
                            have J20 : ∀ (aw : Int64), aw = (if H3 = (0 : Int32) then (if H2 = (0 : Int32) then (if H1 = (0 : Int32) then t0 else t1) else t2) else t3) → Go p e below s room_1.cells room_1.slots (Q_law Z flags t0 t1 t2 t3 dq ad h0 n0) T10 (mkF m 278 #[.val (.int flags), .val (.long t0), .second, .val (.long t1), .second, .val (.long t2), .second, .val (.long t3), .second, .val (.long dq), .second, .val (.int lim), .val (.int f0), .val (.int f1), .val (.int f2), .val (.int f3), .val (.ref b5), .val (.int r0), .val (.int r1), .val (.int r2), .val (.int r3), .val (.int H0), .val (.int H1), .val (.int H2), .val (.int H3), .val (.int el), .unset, .unset, .unset, .unset, .unset] [(.long aw)]) := by
                              intro aw haw
                              show Go _ _ _ _ _ _ _ _ (mkF m 278 #[.val (.int flags), .val (.long t0), .second, .val (.long t1), .second, .val (.long t2), .second, .val (.long t3), .second, .val (.long dq), .second, .val (.int lim), .val (.int f0), .val (.int f1), .val (.int f2), .val (.int f3), .val (.ref b5), .val (.int r0), .val (.int r1), .val (.int r2), .val (.int r3), .val (.int H0), .val (.int H1), .val (.int H2), .val (.int H3), .val (.int el), .unset, .unset, .unset, .unset, .unset] [(.long aw)])
                              refine own_via ?_ fun _ kt => XS.lstore X10.here hx rfl (hb hby at_278) rfl (l' := #[.val (.int flags), .val (.long t0), .second, .val (.long t1), .second, .val (.long t2), .second, .val (.long t3), .second, .val (.long dq), .second, .val (.int lim), .val (.int f0), .val (.int f1), .val (.int f2), .val (.int f3), .val (.ref b5), .val (.int r0), .val (.int r1), .val (.int r2), .val (.int r3), .val (.int H0), .val (.int H1), .val (.int H2), .val (.int H3), .val (.int el), .val (.long aw), .second, .unset, .unset, .unset]) rfl kt
                              show Go _ _ _ _ _ _ _ _ (mkF m 280 #[.val (.int flags), .val (.long t0), .second, .val (.long t1), .second, .val (.long t2), .second, .val (.long t3), .second, .val (.long dq), .second, .val (.int lim), .val (.int f0), .val (.int f1), .val (.int f2), .val (.int f3), .val (.ref b5), .val (.int r0), .val (.int r1), .val (.int r2), .val (.int r3), .val (.int H0), .val (.int H1), .val (.int H2), .val (.int H3), .val (.int el), .val (.long aw), .second, .unset, .unset, .unset] [])
                              refine own_via ?_ fun _ kt => XS.lload X10.here hx rfl (hb hby at_280) rfl kt
                              show Go _ _ _ _ _ _ _ _ (mkF m 282 #[.val (.int flags), .val (.long t0), .second, .val (.long t1), .second, .val (.long t2), .second, .val (.long t3), .second, .val (.long dq), .second, .val (.int lim), .val (.int f0), .val (.int f1), .val (.int f2), .val (.int f3), .val (.ref b5), .val (.int r0), .val (.int r1), .val (.int r2), .val (.int r3), .val (.int H0), .val (.int H1), .val (.int H2), .val (.int H3), .val (.int el), .val (.long aw), .second, .unset, .unset, .unset] [(.long aw)])
                              refine own_via ?_ fun _ kt => XS.lload X10.here hx rfl (hb hby at_282) rfl kt
                              show Go _ _ _ _ _ _ _ _ (mkF m 284 #[.val (.int flags), .val (.long t0), .second, .val (.long t1), .second, .val (.long t2), .second, .val (.long t3), .second, .val (.long dq), .second, .val (.int lim), .val (.int f0), .val (.int f1), .val (.int f2), .val (.int f3), .val (.ref b5), .val (.int r0), .val (.int r1), .val (.int r2), .val (.int r3), .val (.int H0), .val (.int H1), .val (.int H2), .val (.int H3), .val (.int el), .val (.long aw), .second, .unset, .unset, .unset] [(.long dq), (.long aw)])
                              refine own_via ?_ fun _ kt => XS.ladd X10.here hx rfl (hb hby at_284) rfl kt
                              show Go _ _ _ _ _ _ _ _ (mkF m 285 #[.val (.int flags), .val (.long t0), .second, .val (.long t1), .second, .val (.long t2), .second, .val (.long t3), .second, .val (.long dq), .second, .val (.int lim), .val (.int f0), .val (.int f1), .val (.int f2), .val (.int f3), .val (.ref b5), .val (.int r0), .val (.int r1), .val (.int r2), .val (.int r3), .val (.int H0), .val (.int H1), .val (.int H2), .val (.int H3), .val (.int el), .val (.long aw), .second, .unset, .unset, .unset] [(.long (aw + dq))])
                              refine own_via ?_ fun _ kt => XS.lstore X10.here hx rfl (hb hby at_285) rfl (l' := #[.val (.int flags), .val (.long t0), .second, .val (.long t1), .second, .val (.long t2), .second, .val (.long t3), .second, .val (.long dq), .second, .val (.int lim), .val (.int f0), .val (.int f1), .val (.int f2), .val (.int f3), .val (.ref b5), .val (.int r0), .val (.int r1), .val (.int r2), .val (.int r3), .val (.int H0), .val (.int H1), .val (.int H2), .val (.int H3), .val (.int el), .val (.long aw), .second, .val (.long (aw + dq)), .second, .unset]) rfl kt
                              show Go _ _ _ _ _ _ _ _ (mkF m 287 #[.val (.int flags), .val (.long t0), .second, .val (.long t1), .second, .val (.long t2), .second, .val (.long t3), .second, .val (.long dq), .second, .val (.int lim), .val (.int f0), .val (.int f1), .val (.int f2), .val (.int f3), .val (.ref b5), .val (.int r0), .val (.int r1), .val (.int r2), .val (.int r3), .val (.int H0), .val (.int H1), .val (.int H2), .val (.int H3), .val (.int el), .val (.long aw), .second, .val (.long (aw + dq)), .second, .unset] [])
                              generalize hn_q : (aw + dq) = q
                              show Go _ _ _ _ _ _ _ _ (mkF m 287 #[.val (.int flags), .val (.long t0), .second, .val (.long t1), .second, .val (.long t2), .second, .val (.long t3), .second, .val (.long dq), .second, .val (.int lim), .val (.int f0), .val (.int f1), .val (.int f2), .val (.int f3), .val (.ref b5), .val (.int r0), .val (.int r1), .val (.int r2), .val (.int r3), .val (.int H0), .val (.int H1), .val (.int H2), .val (.int H3), .val (.int el), .val (.long aw), .second, .val (.long q), .second, .unset] [])
                              refine own_via ?_ fun _ kt => XS.iload X10.here hx rfl (hb hby at_287) rfl kt
                              have J21 : ∀ (ex : Int32), ex = (if el = (0 : Int32) then (0 : Int32) else (if dq < (3600000000000 : Int64) then (1 : Int32) else (0 : Int32))) → Go p e below s room_1.cells room_1.slots (Q_law Z flags t0 t1 t2 t3 dq ad h0 n0) T10 (mkF m 306 #[.val (.int flags), .val (.long t0), .second, .val (.long t1), .second, .val (.long t2), .second, .val (.long t3), .second, .val (.long dq), .second, .val (.int lim), .val (.int f0), .val (.int f1), .val (.int f2), .val (.int f3), .val (.ref b5), .val (.int r0), .val (.int r1), .val (.int r2), .val (.int r3), .val (.int H0), .val (.int H1), .val (.int H2), .val (.int H3), .val (.int el), .val (.long aw), .second, .val (.long q), .second, .unset] [(.int ex)]) := by
                                intro ex hex
                                show Go _ _ _ _ _ _ _ _ (mkF m 306 #[.val (.int flags), .val (.long t0), .second, .val (.long t1), .second, .val (.long t2), .second, .val (.long t3), .second, .val (.long dq), .second, .val (.int lim), .val (.int f0), .val (.int f1), .val (.int f2), .val (.int f3), .val (.ref b5), .val (.int r0), .val (.int r1), .val (.int r2), .val (.int r3), .val (.int H0), .val (.int H1), .val (.int H2), .val (.int H3), .val (.int el), .val (.long aw), .second, .val (.long q), .second, .unset] [(.int ex)])
                                refine own_via ?_ fun _ kt => XS.istore X10.here hx rfl (hb hby at_306) rfl (l' := #[.val (.int flags), .val (.long t0), .second, .val (.long t1), .second, .val (.long t2), .second, .val (.long t3), .second, .val (.long dq), .second, .val (.int lim), .val (.int f0), .val (.int f1), .val (.int f2), .val (.int f3), .val (.ref b5), .val (.int r0), .val (.int r1), .val (.int r2), .val (.int r3), .val (.int H0), .val (.int H1), .val (.int H2), .val (.int H3), .val (.int el), .val (.long aw), .second, .val (.long q), .second, .val (.int ex)]) rfl kt
                                have hKb : K4 = (0 : Int32) ∨ K4 = (1 : Int32) := by rw [hK4]; exact kf_b (by rw [hK3]; exact kf_b (by rw [hK2]; exact kf_b (by rw [hK1]; exact kf_b (Or.inl rfl))))
                                have hfin : (lv K4 A4 q) = ex := fin hlim hf0 hf1 hf2 hf3 hR1 hK1 hA1 hR2 hK2 hA2 hR3 hK3 hA3 hR4 hK4 hA4 hr0 hr1 hr2 hr3 hH0 hH1 hH2 hH3 hel haw hn_q.symm hex
                                show Go _ _ _ _ _ _ _ _ (mkF m 308 #[.val (.int flags), .val (.long t0), .second, .val (.long t1), .second, .val (.long t2), .second, .val (.long t3), .second, .val (.long dq), .second, .val (.int lim), .val (.int f0), .val (.int f1), .val (.int f2), .val (.int f3), .val (.ref b5), .val (.int r0), .val (.int r1), .val (.int r2), .val (.int r3), .val (.int H0), .val (.int H1), .val (.int H2), .val (.int H3), .val (.int el), .val (.long aw), .second, .val (.long q), .second, .val (.int ex)] [])
                                refine own_via ?_ fun _ kt => XS.aload X10.here hx rfl (hb hby at_308) rfl rfl kt
                                show Go _ _ _ _ _ _ _ _ (mkF m 310 #[.val (.int flags), .val (.long t0), .second, .val (.long t1), .second, .val (.long t2), .second, .val (.long t3), .second, .val (.long dq), .second, .val (.int lim), .val (.int f0), .val (.int f1), .val (.int f2), .val (.int f3), .val (.ref b5), .val (.int r0), .val (.int r1), .val (.int r2), .val (.int r3), .val (.int H0), .val (.int H1), .val (.int H2), .val (.int H3), .val (.int el), .val (.long aw), .second, .val (.long q), .second, .val (.int ex)] [(.ref b5)])
                                refine own_via ?_ fun _ kt => XS.lload X10.here hx rfl (hb hby at_310) rfl kt
                                show Go _ _ _ _ _ _ _ _ (mkF m 312 #[.val (.int flags), .val (.long t0), .second, .val (.long t1), .second, .val (.long t2), .second, .val (.long t3), .second, .val (.long dq), .second, .val (.int lim), .val (.int f0), .val (.int f1), .val (.int f2), .val (.int f3), .val (.ref b5), .val (.int r0), .val (.int r1), .val (.int r2), .val (.int r3), .val (.int H0), .val (.int H1), .val (.int H2), .val (.int H3), .val (.int el), .val (.long aw), .second, .val (.long q), .second, .val (.int ex)] [(.long q), (.ref b5)])
                                obtain ⟨cq22, kq22, q22a, q22b, q22c⟩ := isOf hZ e10 p10_E
                                obtain ⟨_, _, ⟨T22, L22, k22, n22⟩, -, X22, ⟨Lc22, hQ22, l22, y22, z22⟩, st22⟩ := X10.virtualBack hx (y := (⟨"com/example/dovecote/dovecote/standin/isds/Lockout", "locked", "(J)Z"⟩ : MethodName)) (z := (⟨"com/example/dovecote/dovecote/standin/isds/Lockout", "locked", "(J)Z"⟩ : MethodName)) hown (mvT hZ (hw _ (List.mem_of_getElem? (i := 18) rfl))) (mvT hZ (hw _ (List.mem_of_getElem? (i := 19) rfl))) (notFace_of_selects (args := #[]) (mvT hZ (hw _ (List.mem_of_getElem? (i := 21) rfl)))) (mvT hZ (hw _ (List.mem_of_getElem? (i := 21) rfl))) (mvT hZ (hw _ (List.mem_of_getElem? (i := 20) rfl))) (by decide) (backOf (W := 0) (rm_locked l Z a0 hw [] b5 q lim R4 K4 A4 ad h10 n0 Z0 g_b5 hKb p10_E p10_Fl p10_Fq p10_Fk p10_Fa O S Ed Fs Fn) hZ (hw _ (List.mem_of_getElem? (i := 22) rfl)) (hw _ (List.mem_of_getElem? (i := 2) rfl)) (by decide) (by decide)) q22a q22c (g := (mkF m 312 #[.val (.int flags), .val (.long t0), .second, .val (.long t1), .second, .val (.long t2), .second, .val (.long t3), .second, .val (.long dq), .second, .val (.int lim), .val (.int f0), .val (.int f1), .val (.int f2), .val (.int f3), .val (.ref b5), .val (.int r0), .val (.int r1), .val (.int r2), .val (.int r3), .val (.int H0), .val (.int H1), .val (.int H2), .val (.int H3), .val (.int el), .val (.long aw), .second, .val (.long q), .second, .val (.int ex)] [(.long q), (.ref b5)])) rfl (by rw [hml]; rfl) (Steps.refl _) (argsL := [(.long q)]) (rest := []) (lenOf pd5 rfl) rfl (by show 2 * 0 + _ ≤ _; exact Nat.le_of_eq rfl) (hb hby at_312) (fun _ _ => ⟨rfl, e10, (by decide : 1 + 0 ≤ _), (by decide : 4 + 0 ≤ _)⟩)
                                dsimp only [Pt.U, Pt.locs, Pt.cells, Pt.slots] at X22 l22 y22 z22 st22 hQ22
                                subst l22 y22 z22
                                obtain ⟨h22, e22⟩ : ∃ z, T22.heap = z := ⟨_, rfl⟩
                                obtain ⟨rfl, Nq22⟩ := hQ22
                                have N22 := Fr.app N10 Nq22
                                refine own_join ?_ st22
                                show Go _ _ _ _ _ _ _ _ (mkF m 315 #[.val (.int flags), .val (.long t0), .second, .val (.long t1), .second, .val (.long t2), .second, .val (.long t3), .second, .val (.long dq), .second, .val (.int lim), .val (.int f0), .val (.int f1), .val (.int f2), .val (.int f3), .val (.ref b5), .val (.int r0), .val (.int r1), .val (.int r2), .val (.int r3), .val (.int H0), .val (.int H1), .val (.int H2), .val (.int H3), .val (.int el), .val (.long aw), .second, .val (.long q), .second, .val (.int ex)] [(.int (lv K4 A4 q))])
                                refine own_via ?_ fun _ kt => XS.iload X22.here hx rfl (hb hby at_315) rfl kt
                                show Go _ _ _ _ _ _ _ _ (mkF m 317 #[.val (.int flags), .val (.long t0), .second, .val (.long t1), .second, .val (.long t2), .second, .val (.long t3), .second, .val (.long dq), .second, .val (.int lim), .val (.int f0), .val (.int f1), .val (.int f2), .val (.int f3), .val (.ref b5), .val (.int r0), .val (.int r1), .val (.int r2), .val (.int r3), .val (.int H0), .val (.int H1), .val (.int H2), .val (.int H3), .val (.int el), .val (.long aw), .second, .val (.long q), .second, .val (.int ex)] [(.int ex), (.int (lv K4 A4 q))])
                                refine own_via ?_ fun _ kt => XS.icmpNo X22.here hx rfl (hb hby at_317) rfl (teq hfin).2 kt
                                show Go _ _ _ _ _ _ _ _ (mkF m 320 #[.val (.int flags), .val (.long t0), .second, .val (.long t1), .second, .val (.long t2), .second, .val (.long t3), .second, .val (.long dq), .second, .val (.int lim), .val (.int f0), .val (.int f1), .val (.int f2), .val (.int f3), .val (.ref b5), .val (.int r0), .val (.int r1), .val (.int r2), .val (.int r3), .val (.int H0), .val (.int H1), .val (.int H2), .val (.int H3), .val (.int el), .val (.long aw), .second, .val (.long q), .second, .val (.int ex)] [])
                                refine own_via ?_ fun _ kt => XS.iconst X22.here hx rfl (hb hby at_320) kt
                                show Go _ _ _ _ _ _ _ _ (mkF m 321 #[.val (.int flags), .val (.long t0), .second, .val (.long t1), .second, .val (.long t2), .second, .val (.long t3), .second, .val (.long dq), .second, .val (.int lim), .val (.int f0), .val (.int f1), .val (.int f2), .val (.int f3), .val (.ref b5), .val (.int r0), .val (.int r1), .val (.int r2), .val (.int r3), .val (.int H0), .val (.int H1), .val (.int H2), .val (.int H3), .val (.int el), .val (.long aw), .second, .val (.long q), .second, .val (.int ex)] [(.int (1 : Int32))])
                                refine own_via ?_ fun _ kt => XS.goto X22.here hx rfl (pc0 := 321) (pc' := 325) rfl (hb hby at_321) (by decide) (by decide) kt
                                show Go _ _ _ _ _ _ _ _ (mkF m 325 #[.val (.int flags), .val (.long t0), .second, .val (.long t1), .second, .val (.long t2), .second, .val (.long t3), .second, .val (.long dq), .second, .val (.int lim), .val (.int f0), .val (.int f1), .val (.int f2), .val (.int f3), .val (.ref b5), .val (.int r0), .val (.int r1), .val (.int r2), .val (.int r3), .val (.int H0), .val (.int H1), .val (.int H2), .val (.int H3), .val (.int el), .val (.long aw), .second, .val (.long q), .second, .val (.int ex)] [(.int (1 : Int32))])
                                exact own_retZ (z' := (1 : Int32)) X22 hx hret hlk (hb hby at_325) rfl (by decide) (by decide) (by rw [e22]; exact ⟨rfl, N22⟩)
                              show Go _ _ _ _ _ _ _ _ (mkF m 289 #[.val (.int flags), .val (.long t0), .second, .val (.long t1), .second, .val (.long t2), .second, .val (.long t3), .second, .val (.long dq), .second, .val (.int lim), .val (.int f0), .val (.int f1), .val (.int f2), .val (.int f3), .val (.ref b5), .val (.int r0), .val (.int r1), .val (.int r2), .val (.int r3), .val (.int H0), .val (.int H1), .val (.int H2), .val (.int H3), .val (.int el), .val (.long aw), .second, .val (.long q), .second, .unset] [(.int el)])
                              by_cases hc23 : el = (0 : Int32)
                              · skip
                                refine own_via ?_ fun _ kt => XS.ifYes X10.here hx rfl (pc0 := 289) (pc' := 305) rfl (hb hby at_289) rfl ((if0 _ _).trans (teq hc23).1) (by decide) (by decide) kt
                                show Go _ _ _ _ _ _ _ _ (mkF m 305 #[.val (.int flags), .val (.long t0), .second, .val (.long t1), .second, .val (.long t2), .second, .val (.long t3), .second, .val (.long dq), .second, .val (.int lim), .val (.int f0), .val (.int f1), .val (.int f2), .val (.int f3), .val (.ref b5), .val (.int r0), .val (.int r1), .val (.int r2), .val (.int r3), .val (.int H0), .val (.int H1), .val (.int H2), .val (.int H3), .val (.int el), .val (.long aw), .second, .val (.long q), .second, .unset] [])
                                refine own_via ?_ fun _ kt => XS.iconst X10.here hx rfl (hb hby at_305) kt
                                show Go _ _ _ _ _ _ _ _ (mkF m 306 #[.val (.int flags), .val (.long t0), .second, .val (.long t1), .second, .val (.long t2), .second, .val (.long t3), .second, .val (.long dq), .second, .val (.int lim), .val (.int f0), .val (.int f1), .val (.int f2), .val (.int f3), .val (.ref b5), .val (.int r0), .val (.int r1), .val (.int r2), .val (.int r3), .val (.int H0), .val (.int H1), .val (.int H2), .val (.int H3), .val (.int el), .val (.long aw), .second, .val (.long q), .second, .unset] [(.int (0 : Int32))])
                                exact J21 _ (by rw [if_pos hc23])
                              · skip
                                refine own_via ?_ fun _ kt => XS.ifNo X10.here hx rfl (hb hby at_289) rfl ((if0 _ _).trans (feq hc23).1) kt
                                show Go _ _ _ _ _ _ _ _ (mkF m 292 #[.val (.int flags), .val (.long t0), .second, .val (.long t1), .second, .val (.long t2), .second, .val (.long t3), .second, .val (.long dq), .second, .val (.int lim), .val (.int f0), .val (.int f1), .val (.int f2), .val (.int f3), .val (.ref b5), .val (.int r0), .val (.int r1), .val (.int r2), .val (.int r3), .val (.int H0), .val (.int H1), .val (.int H2), .val (.int H3), .val (.int el), .val (.long aw), .second, .val (.long q), .second, .unset] [])
                                refine own_via ?_ fun _ kt => XS.lload X10.here hx rfl (hb hby at_292) rfl kt
                                show Go _ _ _ _ _ _ _ _ (mkF m 294 #[.val (.int flags), .val (.long t0), .second, .val (.long t1), .second, .val (.long t2), .second, .val (.long t3), .second, .val (.long dq), .second, .val (.int lim), .val (.int f0), .val (.int f1), .val (.int f2), .val (.int f3), .val (.ref b5), .val (.int r0), .val (.int r1), .val (.int r2), .val (.int r3), .val (.int H0), .val (.int H1), .val (.int H2), .val (.int H3), .val (.int el), .val (.long aw), .second, .val (.long q), .second, .unset] [(.long dq)])
                                refine own_via ?_ fun _ kt => X10.ldc2Long hx hown (mvT hZ (hw _ (List.mem_of_getElem? (i := 27) rfl))) (g := (mkF m 294 #[.val (.int flags), .val (.long t0), .second, .val (.long t1), .second, .val (.long t2), .second, .val (.long t3), .second, .val (.long dq), .second, .val (.int lim), .val (.int f0), .val (.int f1), .val (.int f2), .val (.int f3), .val (.ref b5), .val (.int r0), .val (.int r1), .val (.int r2), .val (.int r3), .val (.int H0), .val (.int H1), .val (.int H2), .val (.int H3), .val (.int el), .val (.long aw), .second, .val (.long q), .second, .unset] [(.long dq)])) rfl (hb hby at_294) _ kt
                                show Go _ _ _ _ _ _ _ _ (mkF m 297 #[.val (.int flags), .val (.long t0), .second, .val (.long t1), .second, .val (.long t2), .second, .val (.long t3), .second, .val (.long dq), .second, .val (.int lim), .val (.int f0), .val (.int f1), .val (.int f2), .val (.int f3), .val (.ref b5), .val (.int r0), .val (.int r1), .val (.int r2), .val (.int r3), .val (.int H0), .val (.int H1), .val (.int H2), .val (.int H3), .val (.int el), .val (.long aw), .second, .val (.long q), .second, .unset] [(.long (3600000000000 : Int64)), (.long dq)])
                                refine own_via ?_ fun _ kt => XS.lcmp X10.here hx rfl (hb hby at_297) rfl kt
                                show Go _ _ _ _ _ _ _ _ (mkF m 298 #[.val (.int flags), .val (.long t0), .second, .val (.long t1), .second, .val (.long t2), .second, .val (.long t3), .second, .val (.long dq), .second, .val (.int lim), .val (.int f0), .val (.int f1), .val (.int f2), .val (.int f3), .val (.ref b5), .val (.int r0), .val (.int r1), .val (.int r2), .val (.int r3), .val (.int H0), .val (.int H1), .val (.int H2), .val (.int H3), .val (.int el), .val (.long aw), .second, .val (.long q), .second, .unset] [(.int (lcmpW dq (3600000000000 : Int64)))])
                                by_cases hc24 : dq < (3600000000000 : Int64)
                                · skip
                                  refine own_via ?_ fun _ kt => XS.ifNo X10.here hx rfl (hb hby at_298) rfl ((if0 _ _).trans (tlt ((lw_lt _ _).mpr hc24)).2.1) kt
                                  show Go _ _ _ _ _ _ _ _ (mkF m 301 #[.val (.int flags), .val (.long t0), .second, .val (.long t1), .second, .val (.long t2), .second, .val (.long t3), .second, .val (.long dq), .second, .val (.int lim), .val (.int f0), .val (.int f1), .val (.int f2), .val (.int f3), .val (.ref b5), .val (.int r0), .val (.int r1), .val (.int r2), .val (.int r3), .val (.int H0), .val (.int H1), .val (.int H2), .val (.int H3), .val (.int el), .val (.long aw), .second, .val (.long q), .second, .unset] [])
                                  refine own_via ?_ fun _ kt => XS.iconst X10.here hx rfl (hb hby at_301) kt
                                  show Go _ _ _ _ _ _ _ _ (mkF m 302 #[.val (.int flags), .val (.long t0), .second, .val (.long t1), .second, .val (.long t2), .second, .val (.long t3), .second, .val (.long dq), .second, .val (.int lim), .val (.int f0), .val (.int f1), .val (.int f2), .val (.int f3), .val (.ref b5), .val (.int r0), .val (.int r1), .val (.int r2), .val (.int r3), .val (.int H0), .val (.int H1), .val (.int H2), .val (.int H3), .val (.int el), .val (.long aw), .second, .val (.long q), .second, .unset] [(.int (1 : Int32))])
                                  refine own_via ?_ fun _ kt => XS.goto X10.here hx rfl (pc0 := 302) (pc' := 306) rfl (hb hby at_302) (by decide) (by decide) kt
                                  show Go _ _ _ _ _ _ _ _ (mkF m 306 #[.val (.int flags), .val (.long t0), .second, .val (.long t1), .second, .val (.long t2), .second, .val (.long t3), .second, .val (.long dq), .second, .val (.int lim), .val (.int f0), .val (.int f1), .val (.int f2), .val (.int f3), .val (.ref b5), .val (.int r0), .val (.int r1), .val (.int r2), .val (.int r3), .val (.int H0), .val (.int H1), .val (.int H2), .val (.int H3), .val (.int el), .val (.long aw), .second, .val (.long q), .second, .unset] [(.int (1 : Int32))])
                                  exact J21 _ (by rw [if_neg hc23, if_pos hc24])
                                · skip
                                  refine own_via ?_ fun _ kt => XS.ifYes X10.here hx rfl (pc0 := 298) (pc' := 305) rfl (hb hby at_298) rfl ((if0 _ _).trans (flt (fun q => hc24 ((lw_lt _ _).mp q))).2.1) (by decide) (by decide) kt
                                  show Go _ _ _ _ _ _ _ _ (mkF m 305 #[.val (.int flags), .val (.long t0), .second, .val (.long t1), .second, .val (.long t2), .second, .val (.long t3), .second, .val (.long dq), .second, .val (.int lim), .val (.int f0), .val (.int f1), .val (.int f2), .val (.int f3), .val (.ref b5), .val (.int r0), .val (.int r1), .val (.int r2), .val (.int r3), .val (.int H0), .val (.int H1), .val (.int H2), .val (.int H3), .val (.int el), .val (.long aw), .second, .val (.long q), .second, .unset] [])
                                  refine own_via ?_ fun _ kt => XS.iconst X10.here hx rfl (hb hby at_305) kt
                                  show Go _ _ _ _ _ _ _ _ (mkF m 306 #[.val (.int flags), .val (.long t0), .second, .val (.long t1), .second, .val (.long t2), .second, .val (.long t3), .second, .val (.long dq), .second, .val (.int lim), .val (.int f0), .val (.int f1), .val (.int f2), .val (.int f3), .val (.ref b5), .val (.int r0), .val (.int r1), .val (.int r2), .val (.int r3), .val (.int H0), .val (.int H1), .val (.int H2), .val (.int H3), .val (.int el), .val (.long aw), .second, .val (.long q), .second, .unset] [(.int (0 : Int32))])
                                  exact J21 _ (by rw [if_neg hc23, if_neg hc24])
                            show Go _ _ _ _ _ _ _ _ (mkF m 250 #[.val (.int flags), .val (.long t0), .second, .val (.long t1), .second, .val (.long t2), .second, .val (.long t3), .second, .val (.long dq), .second, .val (.int lim), .val (.int f0), .val (.int f1), .val (.int f2), .val (.int f3), .val (.ref b5), .val (.int r0), .val (.int r1), .val (.int r2), .val (.int r3), .val (.int H0), .val (.int H1), .val (.int H2), .val (.int H3), .val (.int el), .unset, .unset, .unset, .unset, .unset] [(.int H3)])
                            by_cases hc25 : H3 = (0 : Int32)
                            · skip
                              refine own_via ?_ fun _ kt => XS.ifYes X10.here hx rfl (pc0 := 250) (pc' := 258) rfl (hb hby at_250) rfl ((if0 _ _).trans (teq hc25).1) (by decide) (by decide) kt
                              show Go _ _ _ _ _ _ _ _ (mkF m 258 #[.val (.int flags), .val (.long t0), .second, .val (.long t1), .second, .val (.long t2), .second, .val (.long t3), .second, .val (.long dq), .second, .val (.int lim), .val (.int f0), .val (.int f1), .val (.int f2), .val (.int f3), .val (.ref b5), .val (.int r0), .val (.int r1), .val (.int r2), .val (.int r3), .val (.int H0), .val (.int H1), .val (.int H2), .val (.int H3), .val (.int el), .unset, .unset, .unset, .unset, .unset] [])
                              refine own_via ?_ fun _ kt => XS.iload X10.here hx rfl (hb hby at_258) rfl kt
                              show Go _ _ _ _ _ _ _ _ (mkF m 260 #[.val (.int flags), .val (.long t0), .second, .val (.long t1), .second, .val (.long t2), .second, .val (.long t3), .second, .val (.long dq), .second, .val (.int lim), .val (.int f0), .val (.int f1), .val (.int f2), .val (.int f3), .val (.ref b5), .val (.int r0), .val (.int r1), .val (.int r2), .val (.int r3), .val (.int H0), .val (.int H1), .val (.int H2), .val (.int H3), .val (.int el), .unset, .unset, .unset, .unset, .unset] [(.int H2)])
                              by_cases hc26 : H2 = (0 : Int32)
                              · skip
                                refine own_via ?_ fun _ kt => XS.ifYes X10.here hx rfl (pc0 := 260) (pc' := 268) rfl (hb hby at_260) rfl ((if0 _ _).trans (teq hc26).1) (by decide) (by decide) kt
                                show Go _ _ _ _ _ _ _ _ (mkF m 268 #[.val (.int flags), .val (.long t0), .second, .val (.long t1), .second, .val (.long t2), .second, .val (.long t3), .second, .val (.long dq), .second, .val (.int lim), .val (.int f0), .val (.int f1), .val (.int f2), .val (.int f3), .val (.ref b5), .val (.int r0), .val (.int r1), .val (.int r2), .val (.int r3), .val (.int H0), .val (.int H1), .val (.int H2), .val (.int H3), .val (.int el), .unset, .unset, .unset, .unset, .unset] [])
                                refine own_via ?_ fun _ kt => XS.iload X10.here hx rfl (hb hby at_268) rfl kt
                                show Go _ _ _ _ _ _ _ _ (mkF m 270 #[.val (.int flags), .val (.long t0), .second, .val (.long t1), .second, .val (.long t2), .second, .val (.long t3), .second, .val (.long dq), .second, .val (.int lim), .val (.int f0), .val (.int f1), .val (.int f2), .val (.int f3), .val (.ref b5), .val (.int r0), .val (.int r1), .val (.int r2), .val (.int r3), .val (.int H0), .val (.int H1), .val (.int H2), .val (.int H3), .val (.int el), .unset, .unset, .unset, .unset, .unset] [(.int H1)])
                                by_cases hc27 : H1 = (0 : Int32)
                                · skip
                                  refine own_via ?_ fun _ kt => XS.ifYes X10.here hx rfl (pc0 := 270) (pc' := 277) rfl (hb hby at_270) rfl ((if0 _ _).trans (teq hc27).1) (by decide) (by decide) kt
                                  show Go _ _ _ _ _ _ _ _ (mkF m 277 #[.val (.int flags), .val (.long t0), .second, .val (.long t1), .second, .val (.long t2), .second, .val (.long t3), .second, .val (.long dq), .second, .val (.int lim), .val (.int f0), .val (.int f1), .val (.int f2), .val (.int f3), .val (.ref b5), .val (.int r0), .val (.int r1), .val (.int r2), .val (.int r3), .val (.int H0), .val (.int H1), .val (.int H2), .val (.int H3), .val (.int el), .unset, .unset, .unset, .unset, .unset] [])
                                  refine own_via ?_ fun _ kt => XS.lloadN X10.here hx rfl (hb hby at_277) rfl kt
                                  show Go _ _ _ _ _ _ _ _ (mkF m 278 #[.val (.int flags), .val (.long t0), .second, .val (.long t1), .second, .val (.long t2), .second, .val (.long t3), .second, .val (.long dq), .second, .val (.int lim), .val (.int f0), .val (.int f1), .val (.int f2), .val (.int f3), .val (.ref b5), .val (.int r0), .val (.int r1), .val (.int r2), .val (.int r3), .val (.int H0), .val (.int H1), .val (.int H2), .val (.int H3), .val (.int el), .unset, .unset, .unset, .unset, .unset] [(.long t0)])
                                  exact J20 _ (by rw [if_pos hc25, if_pos hc26, if_pos hc27])
                                · skip
                                  refine own_via ?_ fun _ kt => XS.ifNo X10.here hx rfl (hb hby at_270) rfl ((if0 _ _).trans (feq hc27).1) kt
                                  show Go _ _ _ _ _ _ _ _ (mkF m 273 #[.val (.int flags), .val (.long t0), .second, .val (.long t1), .second, .val (.long t2), .second, .val (.long t3), .second, .val (.long dq), .second, .val (.int lim), .val (.int f0), .val (.int f1), .val (.int f2), .val (.int f3), .val (.ref b5), .val (.int r0), .val (.int r1), .val (.int r2), .val (.int r3), .val (.int H0), .val (.int H1), .val (.int H2), .val (.int H3), .val (.int el), .unset, .unset, .unset, .unset, .unset] [])
                                  refine own_via ?_ fun _ kt => XS.lloadN X10.here hx rfl (hb hby at_273) rfl kt
                                  show Go _ _ _ _ _ _ _ _ (mkF m 274 #[.val (.int flags), .val (.long t0), .second, .val (.long t1), .second, .val (.long t2), .second, .val (.long t3), .second, .val (.long dq), .second, .val (.int lim), .val (.int f0), .val (.int f1), .val (.int f2), .val (.int f3), .val (.ref b5), .val (.int r0), .val (.int r1), .val (.int r2), .val (.int r3), .val (.int H0), .val (.int H1), .val (.int H2), .val (.int H3), .val (.int el), .unset, .unset, .unset, .unset, .unset] [(.long t1)])
                                  refine own_via ?_ fun _ kt => XS.goto X10.here hx rfl (pc0 := 274) (pc' := 278) rfl (hb hby at_274) (by decide) (by decide) kt
                                  show Go _ _ _ _ _ _ _ _ (mkF m 278 #[.val (.int flags), .val (.long t0), .second, .val (.long t1), .second, .val (.long t2), .second, .val (.long t3), .second, .val (.long dq), .second, .val (.int lim), .val (.int f0), .val (.int f1), .val (.int f2), .val (.int f3), .val (.ref b5), .val (.int r0), .val (.int r1), .val (.int r2), .val (.int r3), .val (.int H0), .val (.int H1), .val (.int H2), .val (.int H3), .val (.int el), .unset, .unset, .unset, .unset, .unset] [(.long t1)])
                                  exact J20 _ (by rw [if_pos hc25, if_pos hc26, if_neg hc27])
                              · skip
                                refine own_via ?_ fun _ kt => XS.ifNo X10.here hx rfl (hb hby at_260) rfl ((if0 _ _).trans (feq hc26).1) kt
                                show Go _ _ _ _ _ _ _ _ (mkF m 263 #[.val (.int flags), .val (.long t0), .second, .val (.long t1), .second, .val (.long t2), .second, .val (.long t3), .second, .val (.long dq), .second, .val (.int lim), .val (.int f0), .val (.int f1), .val (.int f2), .val (.int f3), .val (.ref b5), .val (.int r0), .val (.int r1), .val (.int r2), .val (.int r3), .val (.int H0), .val (.int H1), .val (.int H2), .val (.int H3), .val (.int el), .unset, .unset, .unset, .unset, .unset] [])
                                refine own_via ?_ fun _ kt => XS.lload X10.here hx rfl (hb hby at_263) rfl kt
                                show Go _ _ _ _ _ _ _ _ (mkF m 265 #[.val (.int flags), .val (.long t0), .second, .val (.long t1), .second, .val (.long t2), .second, .val (.long t3), .second, .val (.long dq), .second, .val (.int lim), .val (.int f0), .val (.int f1), .val (.int f2), .val (.int f3), .val (.ref b5), .val (.int r0), .val (.int r1), .val (.int r2), .val (.int r3), .val (.int H0), .val (.int H1), .val (.int H2), .val (.int H3), .val (.int el), .unset, .unset, .unset, .unset, .unset] [(.long t2)])
                                refine own_via ?_ fun _ kt => XS.goto X10.here hx rfl (pc0 := 265) (pc' := 278) rfl (hb hby at_265) (by decide) (by decide) kt
                                show Go _ _ _ _ _ _ _ _ (mkF m 278 #[.val (.int flags), .val (.long t0), .second, .val (.long t1), .second, .val (.long t2), .second, .val (.long t3), .second, .val (.long dq), .second, .val (.int lim), .val (.int f0), .val (.int f1), .val (.int f2), .val (.int f3), .val (.ref b5), .val (.int r0), .val (.int r1), .val (.int r2), .val (.int r3), .val (.int H0), .val (.int H1), .val (.int H2), .val (.int H3), .val (.int el), .unset, .unset, .unset, .unset, .unset] [(.long t2)])
                                exact J20 _ (by rw [if_pos hc25, if_neg hc26])
                            · skip
                              refine own_via ?_ fun _ kt => XS.ifNo X10.here hx rfl (hb hby at_250) rfl ((if0 _ _).trans (feq hc25).1) kt
                              show Go _ _ _ _ _ _ _ _ (mkF m 253 #[.val (.int flags), .val (.long t0), .second, .val (.long t1), .second, .val (.long t2), .second, .val (.long t3), .second, .val (.long dq), .second, .val (.int lim), .val (.int f0), .val (.int f1), .val (.int f2), .val (.int f3), .val (.ref b5), .val (.int r0), .val (.int r1), .val (.int r2), .val (.int r3), .val (.int H0), .val (.int H1), .val (.int H2), .val (.int H3), .val (.int el), .unset, .unset, .unset, .unset, .unset] [])
                              refine own_via ?_ fun _ kt => XS.lload X10.here hx rfl (hb hby at_253) rfl kt
                              show Go _ _ _ _ _ _ _ _ (mkF m 255 #[.val (.int flags), .val (.long t0), .second, .val (.long t1), .second, .val (.long t2), .second, .val (.long t3), .second, .val (.long dq), .second, .val (.int lim), .val (.int f0), .val (.int f1), .val (.int f2), .val (.int f3), .val (.ref b5), .val (.int r0), .val (.int r1), .val (.int r2), .val (.int r3), .val (.int H0), .val (.int H1), .val (.int H2), .val (.int H3), .val (.int el), .unset, .unset, .unset, .unset, .unset] [(.long t3)])
                              refine own_via ?_ fun _ kt => XS.goto X10.here hx rfl (pc0 := 255) (pc' := 278) rfl (hb hby at_255) (by decide) (by decide) kt
                              show Go _ _ _ _ _ _ _ _ (mkF m 278 #[.val (.int flags), .val (.long t0), .second, .val (.long t1), .second, .val (.long t2), .second, .val (.long t3), .second, .val (.long dq), .second, .val (.int lim), .val (.int f0), .val (.int f1), .val (.int f2), .val (.int f3), .val (.ref b5), .val (.int r0), .val (.int r1), .val (.int r2), .val (.int r3), .val (.int H0), .val (.int H1), .val (.int H2), .val (.int H3), .val (.int el), .unset, .unset, .unset, .unset, .unset] [(.long t3)])
                              exact J20 _ (by rw [if_neg hc25])
                          show Go _ _ _ _ _ _ _ _ (mkF m 223 #[.val (.int flags), .val (.long t0), .second, .val (.long t1), .second, .val (.long t2), .second, .val (.long t3), .second, .val (.long dq), .second, .val (.int lim), .val (.int f0), .val (.int f1), .val (.int f2), .val (.int f3), .val (.ref b5), .val (.int r0), .val (.int r1), .val (.int r2), .val (.int r3), .val (.int H0), .val (.int H1), .val (.int H2), .val (.int H3), .unset, .unset, .unset, .unset, .unset, .unset] [(.int H0)])
                          by_cases hc28 : H0 = (0 : Int32)
                          · skip
                            refine own_via ?_ fun _ kt => XS.ifNo X10.here hx rfl (hb hby at_223) rfl ((if0 _ _).trans (teq hc28).2) kt
                            show Go _ _ _ _ _ _ _ _ (mkF m 226 #[.val (.int flags), .val (.long t0), .second, .val (.long t1), .second, .val (.long t2), .second, .val (.long t3), .second, .val (.long dq), .second, .val (.int lim), .val (.int f0), .val (.int f1), .val (.int f2), .val (.int f3), .val (.ref b5), .val (.int r0), .val (.int r1), .val (.int r2), .val (.int r3), .val (.int H0), .val (.int H1), .val (.int H2), .val (.int H3), .unset, .unset, .unset, .unset, .unset, .unset] [])
                            refine own_via ?_ fun _ kt => XS.iload X10.here hx rfl (hb hby at_226) rfl kt
                            show Go _ _ _ _ _ _ _ _ (mkF m 228 #[.val (.int flags), .val (.long t0), .second, .val (.long t1), .second, .val (.long t2), .second, .val (.long t3), .second, .val (.long dq), .second, .val (.int lim), .val (.int f0), .val (.int f1), .val (.int f2), .val (.int f3), .val (.ref b5), .val (.int r0), .val (.int r1), .val (.int r2), .val (.int r3), .val (.int H0), .val (.int H1), .val (.int H2), .val (.int H3), .unset, .unset, .unset, .unset, .unset, .unset] [(.int H1)])
                            by_cases hc29 : H1 = (0 : Int32)
                            · skip
                              refine own_via ?_ fun _ kt => XS.ifNo X10.here hx rfl (hb hby at_228) rfl ((if0 _ _).trans (teq hc29).2) kt
                              show Go _ _ _ _ _ _ _ _ (mkF m 231 #[.val (.int flags), .val (.long t0), .second, .val (.long t1), .second, .val (.long t2), .second, .val (.long t3), .second, .val (.long dq), .second, .val (.int lim), .val (.int f0), .val (.int f1), .val (.int f2), .val (.int f3), .val (.ref b5), .val (.int r0), .val (.int r1), .val (.int r2), .val (.int r3), .val (.int H0), .val (.int H1), .val (.int H2), .val (.int H3), .unset, .unset, .unset, .unset, .unset, .unset] [])
                              refine own_via ?_ fun _ kt => XS.iload X10.here hx rfl (hb hby at_231) rfl kt
                              show Go _ _ _ _ _ _ _ _ (mkF m 233 #[.val (.int flags), .val (.long t0), .second, .val (.long t1), .second, .val (.long t2), .second, .val (.long t3), .second, .val (.long dq), .second, .val (.int lim), .val (.int f0), .val (.int f1), .val (.int f2), .val (.int f3), .val (.ref b5), .val (.int r0), .val (.int r1), .val (.int r2), .val (.int r3), .val (.int H0), .val (.int H1), .val (.int H2), .val (.int H3), .unset, .unset, .unset, .unset, .unset, .unset] [(.int H2)])
                              by_cases hc30 : H2 = (0 : Int32)
                              · skip
                                refine own_via ?_ fun _ kt => XS.ifNo X10.here hx rfl (hb hby at_233) rfl ((if0 _ _).trans (teq hc30).2) kt
                                show Go _ _ _ _ _ _ _ _ (mkF m 236 #[.val (.int flags), .val (.long t0), .second, .val (.long t1), .second, .val (.long t2), .second, .val (.long t3), .second, .val (.long dq), .second, .val (.int lim), .val (.int f0), .val (.int f1), .val (.int f2), .val (.int f3), .val (.ref b5), .val (.int r0), .val (.int r1), .val (.int r2), .val (.int r3), .val (.int H0), .val (.int H1), .val (.int H2), .val (.int H3), .unset, .unset, .unset, .unset, .unset, .unset] [])
                                refine own_via ?_ fun _ kt => XS.iload X10.here hx rfl (hb hby at_236) rfl kt
                                show Go _ _ _ _ _ _ _ _ (mkF m 238 #[.val (.int flags), .val (.long t0), .second, .val (.long t1), .second, .val (.long t2), .second, .val (.long t3), .second, .val (.long dq), .second, .val (.int lim), .val (.int f0), .val (.int f1), .val (.int f2), .val (.int f3), .val (.ref b5), .val (.int r0), .val (.int r1), .val (.int r2), .val (.int r3), .val (.int H0), .val (.int H1), .val (.int H2), .val (.int H3), .unset, .unset, .unset, .unset, .unset, .unset] [(.int H3)])
                                by_cases hc31 : H3 = (0 : Int32)
                                · skip
                                  refine own_via ?_ fun _ kt => XS.ifYes X10.here hx rfl (pc0 := 238) (pc' := 245) rfl (hb hby at_238) rfl ((if0 _ _).trans (teq hc31).1) (by decide) (by decide) kt
                                  show Go _ _ _ _ _ _ _ _ (mkF m 245 #[.val (.int flags), .val (.long t0), .second, .val (.long t1), .second, .val (.long t2), .second, .val (.long t3), .second, .val (.long dq), .second, .val (.int lim), .val (.int f0), .val (.int f1), .val (.int f2), .val (.int f3), .val (.ref b5), .val (.int r0), .val (.int r1), .val (.int r2), .val (.int r3), .val (.int H0), .val (.int H1), .val (.int H2), .val (.int H3), .unset, .unset, .unset, .unset, .unset, .unset] [])
                                  refine own_via ?_ fun _ kt => XS.iconst X10.here hx rfl (hb hby at_245) kt
                                  show Go _ _ _ _ _ _ _ _ (mkF m 246 #[.val (.int flags), .val (.long t0), .second, .val (.long t1), .second, .val (.long t2), .second, .val (.long t3), .second, .val (.long dq), .second, .val (.int lim), .val (.int f0), .val (.int f1), .val (.int f2), .val (.int f3), .val (.ref b5), .val (.int r0), .val (.int r1), .val (.int r2), .val (.int r3), .val (.int H0), .val (.int H1), .val (.int H2), .val (.int H3), .unset, .unset, .unset, .unset, .unset, .unset] [(.int (0 : Int32))])
                                  exact J19 _ (by rw [if_pos hc28, if_pos hc29, if_pos hc30, if_pos hc31])
                                · skip
                                  refine own_via ?_ fun _ kt => XS.ifNo X10.here hx rfl (hb hby at_238) rfl ((if0 _ _).trans (feq hc31).1) kt
                                  show Go _ _ _ _ _ _ _ _ (mkF m 241 #[.val (.int flags), .val (.long t0), .second, .val (.long t1), .second, .val (.long t2), .second, .val (.long t3), .second, .val (.long dq), .second, .val (.int lim), .val (.int f0), .val (.int f1), .val (.int f2), .val (.int f3), .val (.ref b5), .val (.int r0), .val (.int r1), .val (.int r2), .val (.int r3), .val (.int H0), .val (.int H1), .val (.int H2), .val (.int H3), .unset, .unset, .unset, .unset, .unset, .unset] [])
                                  refine own_via ?_ fun _ kt => XS.iconst X10.here hx rfl (hb hby at_241) kt
                                  show Go _ _ _ _ _ _ _ _ (mkF m 242 #[.val (.int flags), .val (.long t0), .second, .val (.long t1), .second, .val (.long t2), .second, .val (.long t3), .second, .val (.long dq), .second, .val (.int lim), .val (.int f0), .val (.int f1), .val (.int f2), .val (.int f3), .val (.ref b5), .val (.int r0), .val (.int r1), .val (.int r2), .val (.int r3), .val (.int H0), .val (.int H1), .val (.int H2), .val (.int H3), .unset, .unset, .unset, .unset, .unset, .unset] [(.int (1 : Int32))])
                                  refine own_via ?_ fun _ kt => XS.goto X10.here hx rfl (pc0 := 242) (pc' := 246) rfl (hb hby at_242) (by decide) (by decide) kt
                                  show Go _ _ _ _ _ _ _ _ (mkF m 246 #[.val (.int flags), .val (.long t0), .second, .val (.long t1), .second, .val (.long t2), .second, .val (.long t3), .second, .val (.long dq), .second, .val (.int lim), .val (.int f0), .val (.int f1), .val (.int f2), .val (.int f3), .val (.ref b5), .val (.int r0), .val (.int r1), .val (.int r2), .val (.int r3), .val (.int H0), .val (.int H1), .val (.int H2), .val (.int H3), .unset, .unset, .unset, .unset, .unset, .unset] [(.int (1 : Int32))])
                                  exact J19 _ (by rw [if_pos hc28, if_pos hc29, if_pos hc30, if_neg hc31])
                              · skip
                                refine own_via ?_ fun _ kt => XS.ifYes X10.here hx rfl (pc0 := 233) (pc' := 241) rfl (hb hby at_233) rfl ((if0 _ _).trans (feq hc30).2) (by decide) (by decide) kt
                                show Go _ _ _ _ _ _ _ _ (mkF m 241 #[.val (.int flags), .val (.long t0), .second, .val (.long t1), .second, .val (.long t2), .second, .val (.long t3), .second, .val (.long dq), .second, .val (.int lim), .val (.int f0), .val (.int f1), .val (.int f2), .val (.int f3), .val (.ref b5), .val (.int r0), .val (.int r1), .val (.int r2), .val (.int r3), .val (.int H0), .val (.int H1), .val (.int H2), .val (.int H3), .unset, .unset, .unset, .unset, .unset, .unset] [])
                                refine own_via ?_ fun _ kt => XS.iconst X10.here hx rfl (hb hby at_241) kt
                                show Go _ _ _ _ _ _ _ _ (mkF m 242 #[.val (.int flags), .val (.long t0), .second, .val (.long t1), .second, .val (.long t2), .second, .val (.long t3), .second, .val (.long dq), .second, .val (.int lim), .val (.int f0), .val (.int f1), .val (.int f2), .val (.int f3), .val (.ref b5), .val (.int r0), .val (.int r1), .val (.int r2), .val (.int r3), .val (.int H0), .val (.int H1), .val (.int H2), .val (.int H3), .unset, .unset, .unset, .unset, .unset, .unset] [(.int (1 : Int32))])
                                refine own_via ?_ fun _ kt => XS.goto X10.here hx rfl (pc0 := 242) (pc' := 246) rfl (hb hby at_242) (by decide) (by decide) kt
                                show Go _ _ _ _ _ _ _ _ (mkF m 246 #[.val (.int flags), .val (.long t0), .second, .val (.long t1), .second, .val (.long t2), .second, .val (.long t3), .second, .val (.long dq), .second, .val (.int lim), .val (.int f0), .val (.int f1), .val (.int f2), .val (.int f3), .val (.ref b5), .val (.int r0), .val (.int r1), .val (.int r2), .val (.int r3), .val (.int H0), .val (.int H1), .val (.int H2), .val (.int H3), .unset, .unset, .unset, .unset, .unset, .unset] [(.int (1 : Int32))])
                                exact J19 _ (by rw [if_pos hc28, if_pos hc29, if_neg hc30])
                            · skip
                              refine own_via ?_ fun _ kt => XS.ifYes X10.here hx rfl (pc0 := 228) (pc' := 241) rfl (hb hby at_228) rfl ((if0 _ _).trans (feq hc29).2) (by decide) (by decide) kt
                              show Go _ _ _ _ _ _ _ _ (mkF m 241 #[.val (.int flags), .val (.long t0), .second, .val (.long t1), .second, .val (.long t2), .second, .val (.long t3), .second, .val (.long dq), .second, .val (.int lim), .val (.int f0), .val (.int f1), .val (.int f2), .val (.int f3), .val (.ref b5), .val (.int r0), .val (.int r1), .val (.int r2), .val (.int r3), .val (.int H0), .val (.int H1), .val (.int H2), .val (.int H3), .unset, .unset, .unset, .unset, .unset, .unset] [])
                              refine own_via ?_ fun _ kt => XS.iconst X10.here hx rfl (hb hby at_241) kt
                              show Go _ _ _ _ _ _ _ _ (mkF m 242 #[.val (.int flags), .val (.long t0), .second, .val (.long t1), .second, .val (.long t2), .second, .val (.long t3), .second, .val (.long dq), .second, .val (.int lim), .val (.int f0), .val (.int f1), .val (.int f2), .val (.int f3), .val (.ref b5), .val (.int r0), .val (.int r1), .val (.int r2), .val (.int r3), .val (.int H0), .val (.int H1), .val (.int H2), .val (.int H3), .unset, .unset, .unset, .unset, .unset, .unset] [(.int (1 : Int32))])
                              refine own_via ?_ fun _ kt => XS.goto X10.here hx rfl (pc0 := 242) (pc' := 246) rfl (hb hby at_242) (by decide) (by decide) kt
                              show Go _ _ _ _ _ _ _ _ (mkF m 246 #[.val (.int flags), .val (.long t0), .second, .val (.long t1), .second, .val (.long t2), .second, .val (.long t3), .second, .val (.long dq), .second, .val (.int lim), .val (.int f0), .val (.int f1), .val (.int f2), .val (.int f3), .val (.ref b5), .val (.int r0), .val (.int r1), .val (.int r2), .val (.int r3), .val (.int H0), .val (.int H1), .val (.int H2), .val (.int H3), .unset, .unset, .unset, .unset, .unset, .unset] [(.int (1 : Int32))])
                              exact J19 _ (by rw [if_pos hc28, if_neg hc29])
                          · skip
                            refine own_via ?_ fun _ kt => XS.ifYes X10.here hx rfl (pc0 := 223) (pc' := 241) rfl (hb hby at_223) rfl ((if0 _ _).trans (feq hc28).2) (by decide) (by decide) kt
                            show Go _ _ _ _ _ _ _ _ (mkF m 241 #[.val (.int flags), .val (.long t0), .second, .val (.long t1), .second, .val (.long t2), .second, .val (.long t3), .second, .val (.long dq), .second, .val (.int lim), .val (.int f0), .val (.int f1), .val (.int f2), .val (.int f3), .val (.ref b5), .val (.int r0), .val (.int r1), .val (.int r2), .val (.int r3), .val (.int H0), .val (.int H1), .val (.int H2), .val (.int H3), .unset, .unset, .unset, .unset, .unset, .unset] [])
                            refine own_via ?_ fun _ kt => XS.iconst X10.here hx rfl (hb hby at_241) kt
                            show Go _ _ _ _ _ _ _ _ (mkF m 242 #[.val (.int flags), .val (.long t0), .second, .val (.long t1), .second, .val (.long t2), .second, .val (.long t3), .second, .val (.long dq), .second, .val (.int lim), .val (.int f0), .val (.int f1), .val (.int f2), .val (.int f3), .val (.ref b5), .val (.int r0), .val (.int r1), .val (.int r2), .val (.int r3), .val (.int H0), .val (.int H1), .val (.int H2), .val (.int H3), .unset, .unset, .unset, .unset, .unset, .unset] [(.int (1 : Int32))])
                            refine own_via ?_ fun _ kt => XS.goto X10.here hx rfl (pc0 := 242) (pc' := 246) rfl (hb hby at_242) (by decide) (by decide) kt
                            show Go _ _ _ _ _ _ _ _ (mkF m 246 #[.val (.int flags), .val (.long t0), .second, .val (.long t1), .second, .val (.long t2), .second, .val (.long t3), .second, .val (.long dq), .second, .val (.int lim), .val (.int f0), .val (.int f1), .val (.int f2), .val (.int f3), .val (.ref b5), .val (.int r0), .val (.int r1), .val (.int r2), .val (.int r3), .val (.int H0), .val (.int H1), .val (.int H2), .val (.int H3), .unset, .unset, .unset, .unset, .unset, .unset] [(.int (1 : Int32))])
                            exact J19 _ (by rw [if_neg hc28])
                        show Go _ _ _ _ _ _ _ _ (mkF m 211 #[.val (.int flags), .val (.long t0), .second, .val (.long t1), .second, .val (.long t2), .second, .val (.long t3), .second, .val (.long dq), .second, .val (.int lim), .val (.int f0), .val (.int f1), .val (.int f2), .val (.int f3), .val (.ref b5), .val (.int r0), .val (.int r1), .val (.int r2), .val (.int r3), .val (.int H0), .val (.int H1), .val (.int H2), .unset, .unset, .unset, .unset, .unset, .unset, .unset] [(.int lim), (.int r3)])
                        by_cases hc32 : r3 < lim
                        · skip
                          refine own_via ?_ fun _ kt => XS.icmpYes X10.here hx rfl (pc0 := 211) (pc' := 218) rfl (hb hby at_211) rfl (tlt hc32).1 (by decide) (by decide) kt
                          show Go _ _ _ _ _ _ _ _ (mkF m 218 #[.val (.int flags), .val (.long t0), .second, .val (.long t1), .second, .val (.long t2), .second, .val (.long t3), .second, .val (.long dq), .second, .val (.int lim), .val (.int f0), .val (.int f1), .val (.int f2), .val (.int f3), .val (.ref b5), .val (.int r0), .val (.int r1), .val (.int r2), .val (.int r3), .val (.int H0), .val (.int H1), .val (.int H2), .unset, .unset, .unset, .unset, .unset, .unset, .unset] [])
                          refine own_via ?_ fun _ kt => XS.iconst X10.here hx rfl (hb hby at_218) kt
                          show Go _ _ _ _ _ _ _ _ (mkF m 219 #[.val (.int flags), .val (.long t0), .second, .val (.long t1), .second, .val (.long t2), .second, .val (.long t3), .second, .val (.long dq), .second, .val (.int lim), .val (.int f0), .val (.int f1), .val (.int f2), .val (.int f3), .val (.ref b5), .val (.int r0), .val (.int r1), .val (.int r2), .val (.int r3), .val (.int H0), .val (.int H1), .val (.int H2), .unset, .unset, .unset, .unset, .unset, .unset, .unset] [(.int (0 : Int32))])
                          exact J18 _ (by rw [if_pos hc32])
                        · skip
                          refine own_via ?_ fun _ kt => XS.icmpNo X10.here hx rfl (hb hby at_211) rfl (flt hc32).1 kt
                          show Go _ _ _ _ _ _ _ _ (mkF m 214 #[.val (.int flags), .val (.long t0), .second, .val (.long t1), .second, .val (.long t2), .second, .val (.long t3), .second, .val (.long dq), .second, .val (.int lim), .val (.int f0), .val (.int f1), .val (.int f2), .val (.int f3), .val (.ref b5), .val (.int r0), .val (.int r1), .val (.int r2), .val (.int r3), .val (.int H0), .val (.int H1), .val (.int H2), .unset, .unset, .unset, .unset, .unset, .unset, .unset] [])
                          refine own_via ?_ fun _ kt => XS.iconst X10.here hx rfl (hb hby at_214) kt
                          show Go _ _ _ _ _ _ _ _ (mkF m 215 #[.val (.int flags), .val (.long t0), .second, .val (.long t1), .second, .val (.long t2), .second, .val (.long t3), .second, .val (.long dq), .second, .val (.int lim), .val (.int f0), .val (.int f1), .val (.int f2), .val (.int f3), .val (.ref b5), .val (.int r0), .val (.int r1), .val (.int r2), .val (.int r3), .val (.int H0), .val (.int H1), .val (.int H2), .unset, .unset, .unset, .unset, .unset, .unset, .unset] [(.int (1 : Int32))])
                          refine own_via ?_ fun _ kt => XS.goto X10.here hx rfl (pc0 := 215) (pc' := 219) rfl (hb hby at_215) (by decide) (by decide) kt
                          show Go _ _ _ _ _ _ _ _ (mkF m 219 #[.val (.int flags), .val (.long t0), .second, .val (.long t1), .second, .val (.long t2), .second, .val (.long t3), .second, .val (.long dq), .second, .val (.int lim), .val (.int f0), .val (.int f1), .val (.int f2), .val (.int f3), .val (.ref b5), .val (.int r0), .val (.int r1), .val (.int r2), .val (.int r3), .val (.int H0), .val (.int H1), .val (.int H2), .unset, .unset, .unset, .unset, .unset, .unset, .unset] [(.int (1 : Int32))])
                          exact J18 _ (by rw [if_neg hc32])
                      show Go _ _ _ _ _ _ _ _ (mkF m 197 #[.val (.int flags), .val (.long t0), .second, .val (.long t1), .second, .val (.long t2), .second, .val (.long t3), .second, .val (.long dq), .second, .val (.int lim), .val (.int f0), .val (.int f1), .val (.int f2), .val (.int f3), .val (.ref b5), .val (.int r0), .val (.int r1), .val (.int r2), .val (.int r3), .val (.int H0), .val (.int H1), .unset, .unset, .unset, .unset, .unset, .unset, .unset, .unset] [(.int lim), (.int r2)])
                      by_cases hc33 : r2 < lim
                      · skip
                        refine own_via ?_ fun _ kt => XS.icmpYes X10.here hx rfl (pc0 := 197) (pc' := 204) rfl (hb hby at_197) rfl (tlt hc33).1 (by decide) (by decide) kt
                        show Go _ _ _ _ _ _ _ _ (mkF m 204 #[.val (.int flags), .val (.long t0), .second, .val (.long t1), .second, .val (.long t2), .second, .val (.long t3), .second, .val (.long dq), .second, .val (.int lim), .val (.int f0), .val (.int f1), .val (.int f2), .val (.int f3), .val (.ref b5), .val (.int r0), .val (.int r1), .val (.int r2), .val (.int r3), .val (.int H0), .val (.int H1), .unset, .unset, .unset, .unset, .unset, .unset, .unset, .unset] [])
                        refine own_via ?_ fun _ kt => XS.iconst X10.here hx rfl (hb hby at_204) kt
                        show Go _ _ _ _ _ _ _ _ (mkF m 205 #[.val (.int flags), .val (.long t0), .second, .val (.long t1), .second, .val (.long t2), .second, .val (.long t3), .second, .val (.long dq), .second, .val (.int lim), .val (.int f0), .val (.int f1), .val (.int f2), .val (.int f3), .val (.ref b5), .val (.int r0), .val (.int r1), .val (.int r2), .val (.int r3), .val (.int H0), .val (.int H1), .unset, .unset, .unset, .unset, .unset, .unset, .unset, .unset] [(.int (0 : Int32))])
                        exact J17 _ (by rw [if_pos hc33])
                      · skip
                        refine own_via ?_ fun _ kt => XS.icmpNo X10.here hx rfl (hb hby at_197) rfl (flt hc33).1 kt
                        show Go _ _ _ _ _ _ _ _ (mkF m 200 #[.val (.int flags), .val (.long t0), .second, .val (.long t1), .second, .val (.long t2), .second, .val (.long t3), .second, .val (.long dq), .second, .val (.int lim), .val (.int f0), .val (.int f1), .val (.int f2), .val (.int f3), .val (.ref b5), .val (.int r0), .val (.int r1), .val (.int r2), .val (.int r3), .val (.int H0), .val (.int H1), .unset, .unset, .unset, .unset, .unset, .unset, .unset, .unset] [])
                        refine own_via ?_ fun _ kt => XS.iconst X10.here hx rfl (hb hby at_200) kt
                        show Go _ _ _ _ _ _ _ _ (mkF m 201 #[.val (.int flags), .val (.long t0), .second, .val (.long t1), .second, .val (.long t2), .second, .val (.long t3), .second, .val (.long dq), .second, .val (.int lim), .val (.int f0), .val (.int f1), .val (.int f2), .val (.int f3), .val (.ref b5), .val (.int r0), .val (.int r1), .val (.int r2), .val (.int r3), .val (.int H0), .val (.int H1), .unset, .unset, .unset, .unset, .unset, .unset, .unset, .unset] [(.int (1 : Int32))])
                        refine own_via ?_ fun _ kt => XS.goto X10.here hx rfl (pc0 := 201) (pc' := 205) rfl (hb hby at_201) (by decide) (by decide) kt
                        show Go _ _ _ _ _ _ _ _ (mkF m 205 #[.val (.int flags), .val (.long t0), .second, .val (.long t1), .second, .val (.long t2), .second, .val (.long t3), .second, .val (.long dq), .second, .val (.int lim), .val (.int f0), .val (.int f1), .val (.int f2), .val (.int f3), .val (.ref b5), .val (.int r0), .val (.int r1), .val (.int r2), .val (.int r3), .val (.int H0), .val (.int H1), .unset, .unset, .unset, .unset, .unset, .unset, .unset, .unset] [(.int (1 : Int32))])
                        exact J17 _ (by rw [if_neg hc33])
                    show Go _ _ _ _ _ _ _ _ (mkF m 183 #[.val (.int flags), .val (.long t0), .second, .val (.long t1), .second, .val (.long t2), .second, .val (.long t3), .second, .val (.long dq), .second, .val (.int lim), .val (.int f0), .val (.int f1), .val (.int f2), .val (.int f3), .val (.ref b5), .val (.int r0), .val (.int r1), .val (.int r2), .val (.int r3), .val (.int H0), .unset, .unset, .unset, .unset, .unset, .unset, .unset, .unset, .unset] [(.int lim), (.int r1)])
                    by_cases hc34 : r1 < lim
                    · skip
                      refine own_via ?_ fun _ kt => XS.icmpYes X10.here hx rfl (pc0 := 183) (pc' := 190) rfl (hb hby at_183) rfl (tlt hc34).1 (by decide) (by decide) kt
                      show Go _ _ _ _ _ _ _ _ (mkF m 190 #[.val (.int flags), .val (.long t0), .second, .val (.long t1), .second, .val (.long t2), .second, .val (.long t3), .second, .val (.long dq), .second, .val (.int lim), .val (.int f0), .val (.int f1), .val (.int f2), .val (.int f3), .val (.ref b5), .val (.int r0), .val (.int r1), .val (.int r2), .val (.int r3), .val (.int H0), .unset, .unset, .unset, .unset, .unset, .unset, .unset, .unset, .unset] [])
                      refine own_via ?_ fun _ kt => XS.iconst X10.here hx rfl (hb hby at_190) kt
                      show Go _ _ _ _ _ _ _ _ (mkF m 191 #[.val (.int flags), .val (.long t0), .second, .val (.long t1), .second, .val (.long t2), .second, .val (.long t3), .second, .val (.long dq), .second, .val (.int lim), .val (.int f0), .val (.int f1), .val (.int f2), .val (.int f3), .val (.ref b5), .val (.int r0), .val (.int r1), .val (.int r2), .val (.int r3), .val (.int H0), .unset, .unset, .unset, .unset, .unset, .unset, .unset, .unset, .unset] [(.int (0 : Int32))])
                      exact J16 _ (by rw [if_pos hc34])
                    · skip
                      refine own_via ?_ fun _ kt => XS.icmpNo X10.here hx rfl (hb hby at_183) rfl (flt hc34).1 kt
                      show Go _ _ _ _ _ _ _ _ (mkF m 186 #[.val (.int flags), .val (.long t0), .second, .val (.long t1), .second, .val (.long t2), .second, .val (.long t3), .second, .val (.long dq), .second, .val (.int lim), .val (.int f0), .val (.int f1), .val (.int f2), .val (.int f3), .val (.ref b5), .val (.int r0), .val (.int r1), .val (.int r2), .val (.int r3), .val (.int H0), .unset, .unset, .unset, .unset, .unset, .unset, .unset, .unset, .unset] [])
                      refine own_via ?_ fun _ kt => XS.iconst X10.here hx rfl (hb hby at_186) kt
                      show Go _ _ _ _ _ _ _ _ (mkF m 187 #[.val (.int flags), .val (.long t0), .second, .val (.long t1), .second, .val (.long t2), .second, .val (.long t3), .second, .val (.long dq), .second, .val (.int lim), .val (.int f0), .val (.int f1), .val (.int f2), .val (.int f3), .val (.ref b5), .val (.int r0), .val (.int r1), .val (.int r2), .val (.int r3), .val (.int H0), .unset, .unset, .unset, .unset, .unset, .unset, .unset, .unset, .unset] [(.int (1 : Int32))])
                      refine own_via ?_ fun _ kt => XS.goto X10.here hx rfl (pc0 := 187) (pc' := 191) rfl (hb hby at_187) (by decide) (by decide) kt
                      show Go _ _ _ _ _ _ _ _ (mkF m 191 #[.val (.int flags), .val (.long t0), .second, .val (.long t1), .second, .val (.long t2), .second, .val (.long t3), .second, .val (.long dq), .second, .val (.int lim), .val (.int f0), .val (.int f1), .val (.int f2), .val (.int f3), .val (.ref b5), .val (.int r0), .val (.int r1), .val (.int r2), .val (.int r3), .val (.int H0), .unset, .unset, .unset, .unset, .unset, .unset, .unset, .unset, .unset] [(.int (1 : Int32))])
                      exact J16 _ (by rw [if_neg hc34])
                  show Go _ _ _ _ _ _ _ _ (mkF m 169 #[.val (.int flags), .val (.long t0), .second, .val (.long t1), .second, .val (.long t2), .second, .val (.long t3), .second, .val (.long dq), .second, .val (.int lim), .val (.int f0), .val (.int f1), .val (.int f2), .val (.int f3), .val (.ref b5), .val (.int r0), .val (.int r1), .val (.int r2), .val (.int r3), .unset, .unset, .unset, .unset, .unset, .unset, .unset, .unset, .unset, .unset] [(.int lim), (.int r0)])
                  by_cases hc35 : r0 < lim
                  · skip
                    refine own_via ?_ fun _ kt => XS.icmpYes X10.here hx rfl (pc0 := 169) (pc' := 176) rfl (hb hby at_169) rfl (tlt hc35).1 (by decide) (by decide) kt
                    show Go _ _ _ _ _ _ _ _ (mkF m 176 #[.val (.int flags), .val (.long t0), .second, .val (.long t1), .second, .val (.long t2), .second, .val (.long t3), .second, .val (.long dq), .second, .val (.int lim), .val (.int f0), .val (.int f1), .val (.int f2), .val (.int f3), .val (.ref b5), .val (.int r0), .val (.int r1), .val (.int r2), .val (.int r3), .unset, .unset, .unset, .unset, .unset, .unset, .unset, .unset, .unset, .unset] [])
                    refine own_via ?_ fun _ kt => XS.iconst X10.here hx rfl (hb hby at_176) kt
                    show Go _ _ _ _ _ _ _ _ (mkF m 177 #[.val (.int flags), .val (.long t0), .second, .val (.long t1), .second, .val (.long t2), .second, .val (.long t3), .second, .val (.long dq), .second, .val (.int lim), .val (.int f0), .val (.int f1), .val (.int f2), .val (.int f3), .val (.ref b5), .val (.int r0), .val (.int r1), .val (.int r2), .val (.int r3), .unset, .unset, .unset, .unset, .unset, .unset, .unset, .unset, .unset, .unset] [(.int (0 : Int32))])
                    exact J15 _ (by rw [if_pos hc35])
                  · skip
                    refine own_via ?_ fun _ kt => XS.icmpNo X10.here hx rfl (hb hby at_169) rfl (flt hc35).1 kt
                    show Go _ _ _ _ _ _ _ _ (mkF m 172 #[.val (.int flags), .val (.long t0), .second, .val (.long t1), .second, .val (.long t2), .second, .val (.long t3), .second, .val (.long dq), .second, .val (.int lim), .val (.int f0), .val (.int f1), .val (.int f2), .val (.int f3), .val (.ref b5), .val (.int r0), .val (.int r1), .val (.int r2), .val (.int r3), .unset, .unset, .unset, .unset, .unset, .unset, .unset, .unset, .unset, .unset] [])
                    refine own_via ?_ fun _ kt => XS.iconst X10.here hx rfl (hb hby at_172) kt
                    show Go _ _ _ _ _ _ _ _ (mkF m 173 #[.val (.int flags), .val (.long t0), .second, .val (.long t1), .second, .val (.long t2), .second, .val (.long t3), .second, .val (.long dq), .second, .val (.int lim), .val (.int f0), .val (.int f1), .val (.int f2), .val (.int f3), .val (.ref b5), .val (.int r0), .val (.int r1), .val (.int r2), .val (.int r3), .unset, .unset, .unset, .unset, .unset, .unset, .unset, .unset, .unset, .unset] [(.int (1 : Int32))])
                    refine own_via ?_ fun _ kt => XS.goto X10.here hx rfl (pc0 := 173) (pc' := 177) rfl (hb hby at_173) (by decide) (by decide) kt
                    show Go _ _ _ _ _ _ _ _ (mkF m 177 #[.val (.int flags), .val (.long t0), .second, .val (.long t1), .second, .val (.long t2), .second, .val (.long t3), .second, .val (.long dq), .second, .val (.int lim), .val (.int f0), .val (.int f1), .val (.int f2), .val (.int f3), .val (.ref b5), .val (.int r0), .val (.int r1), .val (.int r2), .val (.int r3), .unset, .unset, .unset, .unset, .unset, .unset, .unset, .unset, .unset, .unset] [(.int (1 : Int32))])
                    exact J15 _ (by rw [if_neg hc35])
                show Go _ _ _ _ _ _ _ _ (mkF m 152 #[.val (.int flags), .val (.long t0), .second, .val (.long t1), .second, .val (.long t2), .second, .val (.long t3), .second, .val (.long dq), .second, .val (.int lim), .val (.int f0), .val (.int f1), .val (.int f2), .val (.int f3), .val (.ref b5), .val (.int r0), .val (.int r1), .val (.int r2), .unset, .unset, .unset, .unset, .unset, .unset, .unset, .unset, .unset, .unset, .unset] [(.int f3)])
                by_cases hc36 : f3 = (0 : Int32)
                · skip
                  refine own_via ?_ fun _ kt => XS.ifYes X10.here hx rfl (pc0 := 152) (pc' := 162) rfl (hb hby at_152) rfl ((if0 _ _).trans (teq hc36).1) (by decide) (by decide) kt
                  show Go _ _ _ _ _ _ _ _ (mkF m 162 #[.val (.int flags), .val (.long t0), .second, .val (.long t1), .second, .val (.long t2), .second, .val (.long t3), .second, .val (.long dq), .second, .val (.int lim), .val (.int f0), .val (.int f1), .val (.int f2), .val (.int f3), .val (.ref b5), .val (.int r0), .val (.int r1), .val (.int r2), .unset, .unset, .unset, .unset, .unset, .unset, .unset, .unset, .unset, .unset, .unset] [])
                  refine own_via ?_ fun _ kt => XS.iconst X10.here hx rfl (hb hby at_162) kt
                  show Go _ _ _ _ _ _ _ _ (mkF m 163 #[.val (.int flags), .val (.long t0), .second, .val (.long t1), .second, .val (.long t2), .second, .val (.long t3), .second, .val (.long dq), .second, .val (.int lim), .val (.int f0), .val (.int f1), .val (.int f2), .val (.int f3), .val (.ref b5), .val (.int r0), .val (.int r1), .val (.int r2), .unset, .unset, .unset, .unset, .unset, .unset, .unset, .unset, .unset, .unset, .unset] [(.int (0 : Int32))])
                  exact J14 _ (by rw [if_pos hc36])
                · skip
                  refine own_via ?_ fun _ kt => XS.ifNo X10.here hx rfl (hb hby at_152) rfl ((if0 _ _).trans (feq hc36).1) kt
                  show Go _ _ _ _ _ _ _ _ (mkF m 155 #[.val (.int flags), .val (.long t0), .second, .val (.long t1), .second, .val (.long t2), .second, .val (.long t3), .second, .val (.long dq), .second, .val (.int lim), .val (.int f0), .val (.int f1), .val (.int f2), .val (.int f3), .val (.ref b5), .val (.int r0), .val (.int r1), .val (.int r2), .unset, .unset, .unset, .unset, .unset, .unset, .unset, .unset, .unset, .unset, .unset] [])
                  refine own_via ?_ fun _ kt => XS.iload X10.here hx rfl (hb hby at_155) rfl kt
                  show Go _ _ _ _ _ _ _ _ (mkF m 157 #[.val (.int flags), .val (.long t0), .second, .val (.long t1), .second, .val (.long t2), .second, .val (.long t3), .second, .val (.long dq), .second, .val (.int lim), .val (.int f0), .val (.int f1), .val (.int f2), .val (.int f3), .val (.ref b5), .val (.int r0), .val (.int r1), .val (.int r2), .unset, .unset, .unset, .unset, .unset, .unset, .unset, .unset, .unset, .unset, .unset] [(.int r2)])
                  refine own_via ?_ fun _ kt => XS.iconst X10.here hx rfl (hb hby at_157) kt
                  show Go _ _ _ _ _ _ _ _ (mkF m 158 #[.val (.int flags), .val (.long t0), .second, .val (.long t1), .second, .val (.long t2), .second, .val (.long t3), .second, .val (.long dq), .second, .val (.int lim), .val (.int f0), .val (.int f1), .val (.int f2), .val (.int f3), .val (.ref b5), .val (.int r0), .val (.int r1), .val (.int r2), .unset, .unset, .unset, .unset, .unset, .unset, .unset, .unset, .unset, .unset, .unset] [(.int (1 : Int32)), (.int r2)])
                  refine own_via ?_ fun _ kt => XS.iadd X10.here hx rfl (hb hby at_158) rfl kt
                  show Go _ _ _ _ _ _ _ _ (mkF m 159 #[.val (.int flags), .val (.long t0), .second, .val (.long t1), .second, .val (.long t2), .second, .val (.long t3), .second, .val (.long dq), .second, .val (.int lim), .val (.int f0), .val (.int f1), .val (.int f2), .val (.int f3), .val (.ref b5), .val (.int r0), .val (.int r1), .val (.int r2), .unset, .unset, .unset, .unset, .unset, .unset, .unset, .unset, .unset, .unset, .unset] [(.int (r2 + (1 : Int32)))])
                  refine own_via ?_ fun _ kt => XS.goto X10.here hx rfl (pc0 := 159) (pc' := 163) rfl (hb hby at_159) (by decide) (by decide) kt
                  show Go _ _ _ _ _ _ _ _ (mkF m 163 #[.val (.int flags), .val (.long t0), .second, .val (.long t1), .second, .val (.long t2), .second, .val (.long t3), .second, .val (.long dq), .second, .val (.int lim), .val (.int f0), .val (.int f1), .val (.int f2), .val (.int f3), .val (.ref b5), .val (.int r0), .val (.int r1), .val (.int r2), .unset, .unset, .unset, .unset, .unset, .unset, .unset, .unset, .unset, .unset, .unset] [(.int (r2 + (1 : Int32)))])
                  exact J14 _ (by rw [if_neg hc36])
              show Go _ _ _ _ _ _ _ _ (mkF m 137 #[.val (.int flags), .val (.long t0), .second, .val (.long t1), .second, .val (.long t2), .second, .val (.long t3), .second, .val (.long dq), .second, .val (.int lim), .val (.int f0), .val (.int f1), .val (.int f2), .val (.int f3), .val (.ref b5), .val (.int r0), .val (.int r1), .unset, .unset, .unset, .unset, .unset, .unset, .unset, .unset, .unset, .unset, .unset, .unset] [(.int f2)])
              by_cases hc37 : f2 = (0 : Int32)
              · skip
                refine own_via ?_ fun _ kt => XS.ifYes X10.here hx rfl (pc0 := 137) (pc' := 147) rfl (hb hby at_137) rfl ((if0 _ _).trans (teq hc37).1) (by decide) (by decide) kt
                show Go _ _ _ _ _ _ _ _ (mkF m 147 #[.val (.int flags), .val (.long t0), .second, .val (.long t1), .second, .val (.long t2), .second, .val (.long t3), .second, .val (.long dq), .second, .val (.int lim), .val (.int f0), .val (.int f1), .val (.int f2), .val (.int f3), .val (.ref b5), .val (.int r0), .val (.int r1), .unset, .unset, .unset, .unset, .unset, .unset, .unset, .unset, .unset, .unset, .unset, .unset] [])
                refine own_via ?_ fun _ kt => XS.iconst X10.here hx rfl (hb hby at_147) kt
                show Go _ _ _ _ _ _ _ _ (mkF m 148 #[.val (.int flags), .val (.long t0), .second, .val (.long t1), .second, .val (.long t2), .second, .val (.long t3), .second, .val (.long dq), .second, .val (.int lim), .val (.int f0), .val (.int f1), .val (.int f2), .val (.int f3), .val (.ref b5), .val (.int r0), .val (.int r1), .unset, .unset, .unset, .unset, .unset, .unset, .unset, .unset, .unset, .unset, .unset, .unset] [(.int (0 : Int32))])
                exact J13 _ (by rw [if_pos hc37])
              · skip
                refine own_via ?_ fun _ kt => XS.ifNo X10.here hx rfl (hb hby at_137) rfl ((if0 _ _).trans (feq hc37).1) kt
                show Go _ _ _ _ _ _ _ _ (mkF m 140 #[.val (.int flags), .val (.long t0), .second, .val (.long t1), .second, .val (.long t2), .second, .val (.long t3), .second, .val (.long dq), .second, .val (.int lim), .val (.int f0), .val (.int f1), .val (.int f2), .val (.int f3), .val (.ref b5), .val (.int r0), .val (.int r1), .unset, .unset, .unset, .unset, .unset, .unset, .unset, .unset, .unset, .unset, .unset, .unset] [])
                refine own_via ?_ fun _ kt => XS.iload X10.here hx rfl (hb hby at_140) rfl kt
                show Go _ _ _ _ _ _ _ _ (mkF m 142 #[.val (.int flags), .val (.long t0), .second, .val (.long t1), .second, .val (.long t2), .second, .val (.long t3), .second, .val (.long dq), .second, .val (.int lim), .val (.int f0), .val (.int f1), .val (.int f2), .val (.int f3), .val (.ref b5), .val (.int r0), .val (.int r1), .unset, .unset, .unset, .unset, .unset, .unset, .unset, .unset, .unset, .unset, .unset, .unset] [(.int r1)])
                refine own_via ?_ fun _ kt => XS.iconst X10.here hx rfl (hb hby at_142) kt
                show Go _ _ _ _ _ _ _ _ (mkF m 143 #[.val (.int flags), .val (.long t0), .second, .val (.long t1), .second, .val (.long t2), .second, .val (.long t3), .second, .val (.long dq), .second, .val (.int lim), .val (.int f0), .val (.int f1), .val (.int f2), .val (.int f3), .val (.ref b5), .val (.int r0), .val (.int r1), .unset, .unset, .unset, .unset, .unset, .unset, .unset, .unset, .unset, .unset, .unset, .unset] [(.int (1 : Int32)), (.int r1)])
                refine own_via ?_ fun _ kt => XS.iadd X10.here hx rfl (hb hby at_143) rfl kt
                show Go _ _ _ _ _ _ _ _ (mkF m 144 #[.val (.int flags), .val (.long t0), .second, .val (.long t1), .second, .val (.long t2), .second, .val (.long t3), .second, .val (.long dq), .second, .val (.int lim), .val (.int f0), .val (.int f1), .val (.int f2), .val (.int f3), .val (.ref b5), .val (.int r0), .val (.int r1), .unset, .unset, .unset, .unset, .unset, .unset, .unset, .unset, .unset, .unset, .unset, .unset] [(.int (r1 + (1 : Int32)))])
                refine own_via ?_ fun _ kt => XS.goto X10.here hx rfl (pc0 := 144) (pc' := 148) rfl (hb hby at_144) (by decide) (by decide) kt
                show Go _ _ _ _ _ _ _ _ (mkF m 148 #[.val (.int flags), .val (.long t0), .second, .val (.long t1), .second, .val (.long t2), .second, .val (.long t3), .second, .val (.long dq), .second, .val (.int lim), .val (.int f0), .val (.int f1), .val (.int f2), .val (.int f3), .val (.ref b5), .val (.int r0), .val (.int r1), .unset, .unset, .unset, .unset, .unset, .unset, .unset, .unset, .unset, .unset, .unset, .unset] [(.int (r1 + (1 : Int32)))])
                exact J13 _ (by rw [if_neg hc37])
            show Go _ _ _ _ _ _ _ _ (mkF m 122 #[.val (.int flags), .val (.long t0), .second, .val (.long t1), .second, .val (.long t2), .second, .val (.long t3), .second, .val (.long dq), .second, .val (.int lim), .val (.int f0), .val (.int f1), .val (.int f2), .val (.int f3), .val (.ref b5), .val (.int r0), .unset, .unset, .unset, .unset, .unset, .unset, .unset, .unset, .unset, .unset, .unset, .unset, .unset] [(.int f1)])
            by_cases hc38 : f1 = (0 : Int32)
            · skip
              refine own_via ?_ fun _ kt => XS.ifYes X10.here hx rfl (pc0 := 122) (pc' := 132) rfl (hb hby at_122) rfl ((if0 _ _).trans (teq hc38).1) (by decide) (by decide) kt
              show Go _ _ _ _ _ _ _ _ (mkF m 132 #[.val (.int flags), .val (.long t0), .second, .val (.long t1), .second, .val (.long t2), .second, .val (.long t3), .second, .val (.long dq), .second, .val (.int lim), .val (.int f0), .val (.int f1), .val (.int f2), .val (.int f3), .val (.ref b5), .val (.int r0), .unset, .unset, .unset, .unset, .unset, .unset, .unset, .unset, .unset, .unset, .unset, .unset, .unset] [])
              refine own_via ?_ fun _ kt => XS.iconst X10.here hx rfl (hb hby at_132) kt
              show Go _ _ _ _ _ _ _ _ (mkF m 133 #[.val (.int flags), .val (.long t0), .second, .val (.long t1), .second, .val (.long t2), .second, .val (.long t3), .second, .val (.long dq), .second, .val (.int lim), .val (.int f0), .val (.int f1), .val (.int f2), .val (.int f3), .val (.ref b5), .val (.int r0), .unset, .unset, .unset, .unset, .unset, .unset, .unset, .unset, .unset, .unset, .unset, .unset, .unset] [(.int (0 : Int32))])
              exact J12 _ (by rw [if_pos hc38])
            · skip
              refine own_via ?_ fun _ kt => XS.ifNo X10.here hx rfl (hb hby at_122) rfl ((if0 _ _).trans (feq hc38).1) kt
              show Go _ _ _ _ _ _ _ _ (mkF m 125 #[.val (.int flags), .val (.long t0), .second, .val (.long t1), .second, .val (.long t2), .second, .val (.long t3), .second, .val (.long dq), .second, .val (.int lim), .val (.int f0), .val (.int f1), .val (.int f2), .val (.int f3), .val (.ref b5), .val (.int r0), .unset, .unset, .unset, .unset, .unset, .unset, .unset, .unset, .unset, .unset, .unset, .unset, .unset] [])
              refine own_via ?_ fun _ kt => XS.iload X10.here hx rfl (hb hby at_125) rfl kt
              show Go _ _ _ _ _ _ _ _ (mkF m 127 #[.val (.int flags), .val (.long t0), .second, .val (.long t1), .second, .val (.long t2), .second, .val (.long t3), .second, .val (.long dq), .second, .val (.int lim), .val (.int f0), .val (.int f1), .val (.int f2), .val (.int f3), .val (.ref b5), .val (.int r0), .unset, .unset, .unset, .unset, .unset, .unset, .unset, .unset, .unset, .unset, .unset, .unset, .unset] [(.int r0)])
              refine own_via ?_ fun _ kt => XS.iconst X10.here hx rfl (hb hby at_127) kt
              show Go _ _ _ _ _ _ _ _ (mkF m 128 #[.val (.int flags), .val (.long t0), .second, .val (.long t1), .second, .val (.long t2), .second, .val (.long t3), .second, .val (.long dq), .second, .val (.int lim), .val (.int f0), .val (.int f1), .val (.int f2), .val (.int f3), .val (.ref b5), .val (.int r0), .unset, .unset, .unset, .unset, .unset, .unset, .unset, .unset, .unset, .unset, .unset, .unset, .unset] [(.int (1 : Int32)), (.int r0)])
              refine own_via ?_ fun _ kt => XS.iadd X10.here hx rfl (hb hby at_128) rfl kt
              show Go _ _ _ _ _ _ _ _ (mkF m 129 #[.val (.int flags), .val (.long t0), .second, .val (.long t1), .second, .val (.long t2), .second, .val (.long t3), .second, .val (.long dq), .second, .val (.int lim), .val (.int f0), .val (.int f1), .val (.int f2), .val (.int f3), .val (.ref b5), .val (.int r0), .unset, .unset, .unset, .unset, .unset, .unset, .unset, .unset, .unset, .unset, .unset, .unset, .unset] [(.int (r0 + (1 : Int32)))])
              refine own_via ?_ fun _ kt => XS.goto X10.here hx rfl (pc0 := 129) (pc' := 133) rfl (hb hby at_129) (by decide) (by decide) kt
              show Go _ _ _ _ _ _ _ _ (mkF m 133 #[.val (.int flags), .val (.long t0), .second, .val (.long t1), .second, .val (.long t2), .second, .val (.long t3), .second, .val (.long dq), .second, .val (.int lim), .val (.int f0), .val (.int f1), .val (.int f2), .val (.int f3), .val (.ref b5), .val (.int r0), .unset, .unset, .unset, .unset, .unset, .unset, .unset, .unset, .unset, .unset, .unset, .unset, .unset] [(.int (r0 + (1 : Int32)))])
              exact J12 _ (by rw [if_neg hc38])
          show Go _ _ _ _ _ _ _ _ (mkF m 110 #[.val (.int flags), .val (.long t0), .second, .val (.long t1), .second, .val (.long t2), .second, .val (.long t3), .second, .val (.long dq), .second, .val (.int lim), .val (.int f0), .val (.int f1), .val (.int f2), .val (.int f3), .val (.ref b5), .unset, .unset, .unset, .unset, .unset, .unset, .unset, .unset, .unset, .unset, .unset, .unset, .unset, .unset] [(.int f0)])
          by_cases hc39 : f0 = (0 : Int32)
          · skip
            refine own_via ?_ fun _ kt => XS.ifYes X10.here hx rfl (pc0 := 110) (pc' := 117) rfl (hb hby at_110) rfl ((if0 _ _).trans (teq hc39).1) (by decide) (by decide) kt
            show Go _ _ _ _ _ _ _ _ (mkF m 117 #[.val (.int flags), .val (.long t0), .second, .val (.long t1), .second, .val (.long t2), .second, .val (.long t3), .second, .val (.long dq), .second, .val (.int lim), .val (.int f0), .val (.int f1), .val (.int f2), .val (.int f3), .val (.ref b5), .unset, .unset, .unset, .unset, .unset, .unset, .unset, .unset, .unset, .unset, .unset, .unset, .unset, .unset] [])
            refine own_via ?_ fun _ kt => XS.iconst X10.here hx rfl (hb hby at_117) kt
            show Go _ _ _ _ _ _ _ _ (mkF m 118 #[.val (.int flags), .val (.long t0), .second, .val (.long t1), .second, .val (.long t2), .second, .val (.long t3), .second, .val (.long dq), .second, .val (.int lim), .val (.int f0), .val (.int f1), .val (.int f2), .val (.int f3), .val (.ref b5), .unset, .unset, .unset, .unset, .unset, .unset, .unset, .unset, .unset, .unset, .unset, .unset, .unset, .unset] [(.int (0 : Int32))])
            exact J11 _ (by rw [if_pos hc39])
          · skip
            refine own_via ?_ fun _ kt => XS.ifNo X10.here hx rfl (hb hby at_110) rfl ((if0 _ _).trans (feq hc39).1) kt
            show Go _ _ _ _ _ _ _ _ (mkF m 113 #[.val (.int flags), .val (.long t0), .second, .val (.long t1), .second, .val (.long t2), .second, .val (.long t3), .second, .val (.long dq), .second, .val (.int lim), .val (.int f0), .val (.int f1), .val (.int f2), .val (.int f3), .val (.ref b5), .unset, .unset, .unset, .unset, .unset, .unset, .unset, .unset, .unset, .unset, .unset, .unset, .unset, .unset] [])
            refine own_via ?_ fun _ kt => XS.iconst X10.here hx rfl (hb hby at_113) kt
            show Go _ _ _ _ _ _ _ _ (mkF m 114 #[.val (.int flags), .val (.long t0), .second, .val (.long t1), .second, .val (.long t2), .second, .val (.long t3), .second, .val (.long dq), .second, .val (.int lim), .val (.int f0), .val (.int f1), .val (.int f2), .val (.int f3), .val (.ref b5), .unset, .unset, .unset, .unset, .unset, .unset, .unset, .unset, .unset, .unset, .unset, .unset, .unset, .unset] [(.int (1 : Int32))])
            refine own_via ?_ fun _ kt => XS.goto X10.here hx rfl (pc0 := 114) (pc' := 118) rfl (hb hby at_114) (by decide) (by decide) kt
            show Go _ _ _ _ _ _ _ _ (mkF m 118 #[.val (.int flags), .val (.long t0), .second, .val (.long t1), .second, .val (.long t2), .second, .val (.long t3), .second, .val (.long dq), .second, .val (.int lim), .val (.int f0), .val (.int f1), .val (.int f2), .val (.int f3), .val (.ref b5), .unset, .unset, .unset, .unset, .unset, .unset, .unset, .unset, .unset, .unset, .unset, .unset, .unset, .unset] [(.int (1 : Int32))])
            exact J11 _ (by rw [if_neg hc39])
        show Go _ _ _ _ _ _ _ _ (mkF m 53 #[.val (.int flags), .val (.long t0), .second, .val (.long t1), .second, .val (.long t2), .second, .val (.long t3), .second, .val (.long dq), .second, .val (.int lim), .val (.int f0), .val (.int f1), .val (.int f2), .unset, .unset, .unset, .unset, .unset, .unset, .unset, .unset, .unset, .unset, .unset, .unset, .unset, .unset, .unset, .unset] [(.int (flags &&& (8 : Int32)))])
        by_cases hc40 : (flags &&& (8 : Int32)) = (0 : Int32)
        · skip
          refine own_via ?_ fun _ kt => XS.ifYes X0.here hx rfl (pc0 := 53) (pc' := 60) rfl (hb hby at_53) rfl ((if0 _ _).trans (teq hc40).1) (by decide) (by decide) kt
          show Go _ _ _ _ _ _ _ _ (mkF m 60 #[.val (.int flags), .val (.long t0), .second, .val (.long t1), .second, .val (.long t2), .second, .val (.long t3), .second, .val (.long dq), .second, .val (.int lim), .val (.int f0), .val (.int f1), .val (.int f2), .unset, .unset, .unset, .unset, .unset, .unset, .unset, .unset, .unset, .unset, .unset, .unset, .unset, .unset, .unset, .unset] [])
          refine own_via ?_ fun _ kt => XS.iconst X0.here hx rfl (hb hby at_60) kt
          show Go _ _ _ _ _ _ _ _ (mkF m 61 #[.val (.int flags), .val (.long t0), .second, .val (.long t1), .second, .val (.long t2), .second, .val (.long t3), .second, .val (.long dq), .second, .val (.int lim), .val (.int f0), .val (.int f1), .val (.int f2), .unset, .unset, .unset, .unset, .unset, .unset, .unset, .unset, .unset, .unset, .unset, .unset, .unset, .unset, .unset, .unset] [(.int (0 : Int32))])
          exact J4 _ (by rw [if_pos hc40])
        · skip
          refine own_via ?_ fun _ kt => XS.ifNo X0.here hx rfl (hb hby at_53) rfl ((if0 _ _).trans (feq hc40).1) kt
          show Go _ _ _ _ _ _ _ _ (mkF m 56 #[.val (.int flags), .val (.long t0), .second, .val (.long t1), .second, .val (.long t2), .second, .val (.long t3), .second, .val (.long dq), .second, .val (.int lim), .val (.int f0), .val (.int f1), .val (.int f2), .unset, .unset, .unset, .unset, .unset, .unset, .unset, .unset, .unset, .unset, .unset, .unset, .unset, .unset, .unset, .unset] [])
          refine own_via ?_ fun _ kt => XS.iconst X0.here hx rfl (hb hby at_56) kt
          show Go _ _ _ _ _ _ _ _ (mkF m 57 #[.val (.int flags), .val (.long t0), .second, .val (.long t1), .second, .val (.long t2), .second, .val (.long t3), .second, .val (.long dq), .second, .val (.int lim), .val (.int f0), .val (.int f1), .val (.int f2), .unset, .unset, .unset, .unset, .unset, .unset, .unset, .unset, .unset, .unset, .unset, .unset, .unset, .unset, .unset, .unset] [(.int (1 : Int32))])
          refine own_via ?_ fun _ kt => XS.goto X0.here hx rfl (pc0 := 57) (pc' := 61) rfl (hb hby at_57) (by decide) (by decide) kt
          show Go _ _ _ _ _ _ _ _ (mkF m 61 #[.val (.int flags), .val (.long t0), .second, .val (.long t1), .second, .val (.long t2), .second, .val (.long t3), .second, .val (.long dq), .second, .val (.int lim), .val (.int f0), .val (.int f1), .val (.int f2), .unset, .unset, .unset, .unset, .unset, .unset, .unset, .unset, .unset, .unset, .unset, .unset, .unset, .unset, .unset, .unset] [(.int (1 : Int32))])
          exact J4 _ (by rw [if_neg hc40])
      show Go _ _ _ _ _ _ _ _ (mkF m 39 #[.val (.int flags), .val (.long t0), .second, .val (.long t1), .second, .val (.long t2), .second, .val (.long t3), .second, .val (.long dq), .second, .val (.int lim), .val (.int f0), .val (.int f1), .unset, .unset, .unset, .unset, .unset, .unset, .unset, .unset, .unset, .unset, .unset, .unset, .unset, .unset, .unset, .unset, .unset] [(.int (flags &&& (4 : Int32)))])
      by_cases hc41 : (flags &&& (4 : Int32)) = (0 : Int32)
      · skip
        refine own_via ?_ fun _ kt => XS.ifYes X0.here hx rfl (pc0 := 39) (pc' := 46) rfl (hb hby at_39) rfl ((if0 _ _).trans (teq hc41).1) (by decide) (by decide) kt
        show Go _ _ _ _ _ _ _ _ (mkF m 46 #[.val (.int flags), .val (.long t0), .second, .val (.long t1), .second, .val (.long t2), .second, .val (.long t3), .second, .val (.long dq), .second, .val (.int lim), .val (.int f0), .val (.int f1), .unset, .unset, .unset, .unset, .unset, .unset, .unset, .unset, .unset, .unset, .unset, .unset, .unset, .unset, .unset, .unset, .unset] [])
        refine own_via ?_ fun _ kt => XS.iconst X0.here hx rfl (hb hby at_46) kt
        show Go _ _ _ _ _ _ _ _ (mkF m 47 #[.val (.int flags), .val (.long t0), .second, .val (.long t1), .second, .val (.long t2), .second, .val (.long t3), .second, .val (.long dq), .second, .val (.int lim), .val (.int f0), .val (.int f1), .unset, .unset, .unset, .unset, .unset, .unset, .unset, .unset, .unset, .unset, .unset, .unset, .unset, .unset, .unset, .unset, .unset] [(.int (0 : Int32))])
        exact J3 _ (by rw [if_pos hc41])
      · skip
        refine own_via ?_ fun _ kt => XS.ifNo X0.here hx rfl (hb hby at_39) rfl ((if0 _ _).trans (feq hc41).1) kt
        show Go _ _ _ _ _ _ _ _ (mkF m 42 #[.val (.int flags), .val (.long t0), .second, .val (.long t1), .second, .val (.long t2), .second, .val (.long t3), .second, .val (.long dq), .second, .val (.int lim), .val (.int f0), .val (.int f1), .unset, .unset, .unset, .unset, .unset, .unset, .unset, .unset, .unset, .unset, .unset, .unset, .unset, .unset, .unset, .unset, .unset] [])
        refine own_via ?_ fun _ kt => XS.iconst X0.here hx rfl (hb hby at_42) kt
        show Go _ _ _ _ _ _ _ _ (mkF m 43 #[.val (.int flags), .val (.long t0), .second, .val (.long t1), .second, .val (.long t2), .second, .val (.long t3), .second, .val (.long dq), .second, .val (.int lim), .val (.int f0), .val (.int f1), .unset, .unset, .unset, .unset, .unset, .unset, .unset, .unset, .unset, .unset, .unset, .unset, .unset, .unset, .unset, .unset, .unset] [(.int (1 : Int32))])
        refine own_via ?_ fun _ kt => XS.goto X0.here hx rfl (pc0 := 43) (pc' := 47) rfl (hb hby at_43) (by decide) (by decide) kt
        show Go _ _ _ _ _ _ _ _ (mkF m 47 #[.val (.int flags), .val (.long t0), .second, .val (.long t1), .second, .val (.long t2), .second, .val (.long t3), .second, .val (.long dq), .second, .val (.int lim), .val (.int f0), .val (.int f1), .unset, .unset, .unset, .unset, .unset, .unset, .unset, .unset, .unset, .unset, .unset, .unset, .unset, .unset, .unset, .unset, .unset] [(.int (1 : Int32))])
        exact J3 _ (by rw [if_neg hc41])
    show Go _ _ _ _ _ _ _ _ (mkF m 26 #[.val (.int flags), .val (.long t0), .second, .val (.long t1), .second, .val (.long t2), .second, .val (.long t3), .second, .val (.long dq), .second, .val (.int lim), .val (.int f0), .unset, .unset, .unset, .unset, .unset, .unset, .unset, .unset, .unset, .unset, .unset, .unset, .unset, .unset, .unset, .unset, .unset, .unset] [(.int (flags &&& (2 : Int32)))])
    by_cases hc42 : (flags &&& (2 : Int32)) = (0 : Int32)
    · skip
      refine own_via ?_ fun _ kt => XS.ifYes X0.here hx rfl (pc0 := 26) (pc' := 33) rfl (hb hby at_26) rfl ((if0 _ _).trans (teq hc42).1) (by decide) (by decide) kt
      show Go _ _ _ _ _ _ _ _ (mkF m 33 #[.val (.int flags), .val (.long t0), .second, .val (.long t1), .second, .val (.long t2), .second, .val (.long t3), .second, .val (.long dq), .second, .val (.int lim), .val (.int f0), .unset, .unset, .unset, .unset, .unset, .unset, .unset, .unset, .unset, .unset, .unset, .unset, .unset, .unset, .unset, .unset, .unset, .unset] [])
      refine own_via ?_ fun _ kt => XS.iconst X0.here hx rfl (hb hby at_33) kt
      show Go _ _ _ _ _ _ _ _ (mkF m 34 #[.val (.int flags), .val (.long t0), .second, .val (.long t1), .second, .val (.long t2), .second, .val (.long t3), .second, .val (.long dq), .second, .val (.int lim), .val (.int f0), .unset, .unset, .unset, .unset, .unset, .unset, .unset, .unset, .unset, .unset, .unset, .unset, .unset, .unset, .unset, .unset, .unset, .unset] [(.int (0 : Int32))])
      exact J2 _ (by rw [if_pos hc42])
    · skip
      refine own_via ?_ fun _ kt => XS.ifNo X0.here hx rfl (hb hby at_26) rfl ((if0 _ _).trans (feq hc42).1) kt
      show Go _ _ _ _ _ _ _ _ (mkF m 29 #[.val (.int flags), .val (.long t0), .second, .val (.long t1), .second, .val (.long t2), .second, .val (.long t3), .second, .val (.long dq), .second, .val (.int lim), .val (.int f0), .unset, .unset, .unset, .unset, .unset, .unset, .unset, .unset, .unset, .unset, .unset, .unset, .unset, .unset, .unset, .unset, .unset, .unset] [])
      refine own_via ?_ fun _ kt => XS.iconst X0.here hx rfl (hb hby at_29) kt
      show Go _ _ _ _ _ _ _ _ (mkF m 30 #[.val (.int flags), .val (.long t0), .second, .val (.long t1), .second, .val (.long t2), .second, .val (.long t3), .second, .val (.long dq), .second, .val (.int lim), .val (.int f0), .unset, .unset, .unset, .unset, .unset, .unset, .unset, .unset, .unset, .unset, .unset, .unset, .unset, .unset, .unset, .unset, .unset, .unset] [(.int (1 : Int32))])
      refine own_via ?_ fun _ kt => XS.goto X0.here hx rfl (pc0 := 30) (pc' := 34) rfl (hb hby at_30) (by decide) (by decide) kt
      show Go _ _ _ _ _ _ _ _ (mkF m 34 #[.val (.int flags), .val (.long t0), .second, .val (.long t1), .second, .val (.long t2), .second, .val (.long t3), .second, .val (.long dq), .second, .val (.int lim), .val (.int f0), .unset, .unset, .unset, .unset, .unset, .unset, .unset, .unset, .unset, .unset, .unset, .unset, .unset, .unset, .unset, .unset, .unset, .unset] [(.int (1 : Int32))])
      exact J2 _ (by rw [if_neg hc42])
  show Go _ _ _ _ _ _ _ _ (mkF m 13 #[.val (.int flags), .val (.long t0), .second, .val (.long t1), .second, .val (.long t2), .second, .val (.long t3), .second, .val (.long dq), .second, .val (.int lim), .unset, .unset, .unset, .unset, .unset, .unset, .unset, .unset, .unset, .unset, .unset, .unset, .unset, .unset, .unset, .unset, .unset, .unset, .unset] [(.int (flags &&& (1 : Int32)))])
  by_cases hc43 : (flags &&& (1 : Int32)) = (0 : Int32)
  · skip
    refine own_via ?_ fun _ kt => XS.ifYes X0.here hx rfl (pc0 := 13) (pc' := 20) rfl (hb hby at_13) rfl ((if0 _ _).trans (teq hc43).1) (by decide) (by decide) kt
    show Go _ _ _ _ _ _ _ _ (mkF m 20 #[.val (.int flags), .val (.long t0), .second, .val (.long t1), .second, .val (.long t2), .second, .val (.long t3), .second, .val (.long dq), .second, .val (.int lim), .unset, .unset, .unset, .unset, .unset, .unset, .unset, .unset, .unset, .unset, .unset, .unset, .unset, .unset, .unset, .unset, .unset, .unset, .unset] [])
    refine own_via ?_ fun _ kt => XS.iconst X0.here hx rfl (hb hby at_20) kt
    show Go _ _ _ _ _ _ _ _ (mkF m 21 #[.val (.int flags), .val (.long t0), .second, .val (.long t1), .second, .val (.long t2), .second, .val (.long t3), .second, .val (.long dq), .second, .val (.int lim), .unset, .unset, .unset, .unset, .unset, .unset, .unset, .unset, .unset, .unset, .unset, .unset, .unset, .unset, .unset, .unset, .unset, .unset, .unset] [(.int (0 : Int32))])
    exact J1 _ (by rw [if_pos hc43])
  · skip
    refine own_via ?_ fun _ kt => XS.ifNo X0.here hx rfl (hb hby at_13) rfl ((if0 _ _).trans (feq hc43).1) kt
    show Go _ _ _ _ _ _ _ _ (mkF m 16 #[.val (.int flags), .val (.long t0), .second, .val (.long t1), .second, .val (.long t2), .second, .val (.long t3), .second, .val (.long dq), .second, .val (.int lim), .unset, .unset, .unset, .unset, .unset, .unset, .unset, .unset, .unset, .unset, .unset, .unset, .unset, .unset, .unset, .unset, .unset, .unset, .unset] [])
    refine own_via ?_ fun _ kt => XS.iconst X0.here hx rfl (hb hby at_16) kt
    show Go _ _ _ _ _ _ _ _ (mkF m 17 #[.val (.int flags), .val (.long t0), .second, .val (.long t1), .second, .val (.long t2), .second, .val (.long t3), .second, .val (.long dq), .second, .val (.int lim), .unset, .unset, .unset, .unset, .unset, .unset, .unset, .unset, .unset, .unset, .unset, .unset, .unset, .unset, .unset, .unset, .unset, .unset, .unset] [(.int (1 : Int32))])
    refine own_via ?_ fun _ kt => XS.goto X0.here hx rfl (pc0 := 17) (pc' := 21) rfl (hb hby at_17) (by decide) (by decide) kt
    show Go _ _ _ _ _ _ _ _ (mkF m 21 #[.val (.int flags), .val (.long t0), .second, .val (.long t1), .second, .val (.long t2), .second, .val (.long t3), .second, .val (.long dq), .second, .val (.int lim), .unset, .unset, .unset, .unset, .unset, .unset, .unset, .unset, .unset, .unset, .unset, .unset, .unset, .unset, .unset, .unset, .unset, .unset, .unset] [(.int (1 : Int32))])
    exact J1 _ (by rw [if_neg hc43])
set_option maxRecDepth 65536 in
set_option maxHeartbeats 40000000 in
theorem comes_1 {Post : Tables → Env → Array Value → State → Outcome → State → Prop} (hpost : ∀ tb e args s v u, (limb_1_1.after args s (.returned v) u = true ∧ limb_1_2.after args s (.returned v) u = true ∧ True) → FrameEnd s (.returned v) u (Jvm.fieldLocs frame_1_writes args s ++ Jvm.arrayLocs frame_1_arrays args s ++ Jvm.staticLocs frame_1_statics s) 16 128 → Post tb e args s (.returned v) u) :
    ArmFor flags0 classFile x code maxLocals ret World_1 tables_1 room_1 Calls_1 rest_1 Pre_1 Post := by
  intro l hfl _ _ p e ha hc hk s m args below hf hA hF happ hP
  obtain ⟨hcalls, hrest, hpre⟩ := hP
  obtain ⟨-, -, -, hnamed, -, -, -, hat⟩ := (Spec.applies_iff hf).mp happ
  obtain ⟨hg, hn⟩ := and_e (Cond.before_iff.mp (show (Jvm.Cond.and given_1 narrow_1).before args s = true from hpre))
  obtain ⟨ga1, gb1⟩ := and_e hg
  obtain ⟨ga2, gb2⟩ := and_e gb1
  obtain ⟨ga3, gb3⟩ := and_e gb2
  obtain ⟨ga4, gb4⟩ := and_e gb3
  obtain ⟨ga5, gb5⟩ := and_e gb4
  obtain ⟨ga6, gb6⟩ := and_e gb5
  obtain ⟨ga7, gb7⟩ := and_e hn
  obtain ⟨ga8, gb8⟩ := and_e gb7
  obtain ⟨w0, w1, w2, w3, w4, w5, rfl⟩ : ∃ w0 w1 w2 w3 w4 w5 : Value, args = #[w0, w1, w2, w3, w4, w5] := by
    have hs : args.size = 6 := by simpa [Cond.value, given_1] using ga1
    obtain ⟨L⟩ := args
    match L, hs with
    | [w0, w1, w2, w3, w4, w5], _ => exact ⟨w0, w1, w2, w3, w4, w5, rfl⟩
  have hw := fun d (hd : d ∈ tables_1) => atoms_spec (ws := Jvm.Cond.code x code maxLocals ret :: tables_1) hat d (List.mem_cons_of_mem _ hd)
  have hfit : Fit s := fun {y c} hc i hi => by
    obtain ⟨ha, rfl⟩ := Array.getElem?_eq_some_iff.mp hc
    have q := List.all_eq_true.mp ((Array.all_eq_true_iff_forall_mem.mp hF) _ (Array.getElem_mem ha)) i (List.mem_range.mpr hi)
    simpa [Array.getElem?_eq_getElem hi] using q
  obtain ⟨i0, ei0⟩ := is_v ga2
  obtain rfl : w0 = (.int i0) := Option.some.inj ei0
  obtain ⟨i1, ei1⟩ := isL_v ga3
  obtain rfl : w1 = (.long i1) := Option.some.inj ei1
  obtain ⟨i2, ei2⟩ := isL_v ga4
  obtain rfl : w2 = (.long i2) := Option.some.inj ei2
  obtain ⟨i3, ei3⟩ := isL_v ga5
  obtain rfl : w3 = (.long i3) := Option.some.inj ei3
  obtain ⟨i4, ei4⟩ := isL_v ga6
  obtain rfl : w4 = (.long i4) := Option.some.inj ei4
  obtain ⟨i5, ei5⟩ := isL_v gb6
  obtain rfl : w5 = (.long i5) := Option.some.inj ei5
  obtain ⟨ga51, gb51⟩ := and_e hn
  obtain ⟨ga52, gb52⟩ := and_e gb51
  obtain ⟨a_LOCK_TIME, ev_LOCK_TIME⟩ := exa_v ga7
  have S_LOCK_TIME : Sta s s.heap "com/example/dovecote/dovecote/standin/isds/Lockout" "LOCK_TIME" "Ljava/time/Duration;" (.ref a_LOCK_TIME) := Sta.start ev_LOCK_TIME (Or.inr ⟨(hw _ (List.mem_of_getElem? (i := 2) rfl)), (hw _ (List.mem_of_getElem? (i := 29) rfl))⟩)
  have E_LOCK_TIME : Exa s s.heap a_LOCK_TIME "java/time/Duration" := Exa.start ev_LOCK_TIME ga7
  obtain ⟨a_LOCK_TIME, ev_LOCK_TIME⟩ := exa_v ga51
  have S_LOCK_TIME : Sta s s.heap "com/example/dovecote/dovecote/standin/isds/Lockout" "LOCK_TIME" "Ljava/time/Duration;" (.ref a_LOCK_TIME) := Sta.start ev_LOCK_TIME (Or.inr ⟨(hw _ (List.mem_of_getElem? (i := 2) rfl)), (hw _ (List.mem_of_getElem? (i := 29) rfl))⟩)
  have E_LOCK_TIME : Exa s s.heap a_LOCK_TIME "java/time/Duration" := Exa.start ev_LOCK_TIME ga51
  have Fs : Fld s s.heap a_LOCK_TIME "java/time/Duration" "seconds" "J" (.long (3600 : Int64)) := own_fldJ ev_LOCK_TIME ga8
  have Fn : Fld s s.heap a_LOCK_TIME "java/time/Duration" "nanos" "I" (.int (0 : Int32)) := own_fldI ev_LOCK_TIME gb8
  have Fs : Fld s s.heap a_LOCK_TIME "java/time/Duration" "seconds" "J" (.long (3600 : Int64)) := own_fldJ ev_LOCK_TIME ga52
  have Fn : Fld s s.heap a_LOCK_TIME "java/time/Duration" "nanos" "I" (.int (0 : Int32)) := own_fldI ev_LOCK_TIME gb52
  obtain ⟨n, o, h1, h2, h3, _, L, rfl, ⟨rfl, N⟩, hq⟩ := rm_law l s _ hw tables_1 i0 i1 i2 i3 i4 i5 a_LOCK_TIME s.heap s.heap.size (Nat.le_refl _) (Old.start s) S_LOCK_TIME E_LOCK_TIME Fs Fn p e ha hc hk s m _ below hf ((Spec.applies_iff_loose hf).mp happ).1 ⟨rfl, State.Warmed39.refl s, rfl⟩ trivial
  refine ⟨n, _, h1, h2, h3, hpost _ _ _ _ _ _ ⟨Cond.after_iff.mpr rfl, Cond.after_iff.mpr (eq_i res_at (Term.int_eval (1)) rfl), trivial⟩ ⟨hq.1, hq.2.1, (hq.2.2.sift fun y hy => Or.inr (N y hy)).mono (by decide) (by decide)⟩⟩
theorem main_1_1 : Claimed_1_1 := comes_1 fun _ _ _ _ _ _ h hF => ⟨h.1, hF⟩
theorem main_1_2 : Claimed_1_2 := comes_1 fun _ _ _ _ _ _ h hF => ⟨h.2.1, hF⟩
end Jvm.Pilot.@@N@@
namespace Jvm.Pilot.@@N@@
open Jvm Jvm.ClassFile Sem Op Lib Jvm.Free Jvm.Stand Jvm.Pilot.@@N@@.Jvm.D
/-! MADE BY PROGRAM (witnessworld.py) out of the Statement's table words and the real class files: 13 classes; the members and pool entries that the words name. The judged class is class 1, her method 1. -/
namespace start1
open Jvm.ClassFile
def u (s : String) : CpInfo := .utf8 (stringToUtf16 s)
/-- a pool by its gaps: so many unusable entries, then the entry; so many at the end -/
def gap : Nat → List CpInfo → List CpInfo
  | 0, r => r
  | n + 1, r => .unusable :: gap n r
def poolList (es : List (Nat × CpInfo)) (last : Nat) : List CpInfo := es.foldr (fun e r => gap e.1 (e.2 :: r)) (gap last [])
def pool (es : List (Nat × CpInfo)) (last : Nat) : Array CpInfo := ⟨poolList es last⟩
def fileOf (pool : Array CpInfo) (this : Nat) (attrs : Array Attribute := #[]) (ms : Array MethodInfo := #[]) (fl : Nat := 33) (sup : Nat := 0) (ifs : Array Nat := #[]) (fds : Array FieldInfo := #[]) : ClassFile where
  minorVersion := 0
  majorVersion := 65
  constantPool := pool
  accessFlags := fl
  thisClass := this
  superClass := sup
  interfaces := ifs
  fields := fds
  methods := ms
  attributes := attrs
def plain (name : String) (sup : Option ClassId) : Class where
  name := name
  kind := .ordinary
  loader := none
  accessFlags := 33
  super := sup
  interfaces := #[]
  cf := none
  fields := #[]
  methods := #[]
  instanceTypes := #[]
  staticTypes := #[]
  resolved := #[]
  callSites := []
  init := .initialized
  statics := none
  mirror := none

def pool0 : Array CpInfo := pool [(5, u "<init>"), (0, u "()V"), (1, .class_ 10), (1, u "java/lang/Object")] 113

def k0c0 : Code := { maxStack := 0, maxLocals := 1, code := object_method_1_code, exceptionTable := #[], attributes := #[] }
def k0m0 : Method := { name := "<init>", desc := "()V", sig := { parameters := [], returnType := none }, accessFlags := 1, code := some k0c0 }
/-- java/lang/Object -/
def k0 : Class := { plain "java/lang/Object" none with
  accessFlags := 33
  interfaces := #[]
  cf := some (fileOf pool0 8 #[] #[{ accessFlags := 1, nameIndex := 5, descriptorIndex := 6, attributes := #[] }] 33 0 #[] #[])
  fields := #[]
  methods := #[k0m0]
  instanceTypes := #[]
  staticTypes := #[]
  resolved := Array.replicate 124 none
  statics := none }

def pool1 : Array CpInfo := pool [(2, .class_ 4), (1, u "java/lang/Object"), (0, u "<init>"), (0, u "()V"), (0, .class_ 8), (0, u "com/example/dovecote/dovecote/standin/isds/Lockout"), (0, .methodref 7 10), (0, .nameAndType 5 11), (0, u "(I)V"), (0, .methodref 7 13), (0, .nameAndType 14 15), (0, u "count"), (0, u "(ZJ)V"), (0, .long 3600000000000), (1, .methodref 7 19), (0, .nameAndType 20 21), (0, u "locked"), (0, u "(J)Z"), (0, .class_ 23), (0, u "com/example/dovecote/dovecote/standin/isds/LockoutCountPinLaw"), (2, u "law"), (0, u "(IJJJJJ)Z")] 3

def k1m0 : Method := { name := "<init>", desc := "()V", sig := { parameters := [], returnType := none }, accessFlags := 1, code := none }
def k1c1 : Code := { maxStack := 4, maxLocals := 31, code := code, exceptionTable := #[], attributes := #[] }
def k1m1 : Method := { name := "law", desc := "(IJJJJJ)Z", sig := { parameters := [.int, .long, .long, .long, .long, .long], returnType := some .boolean }, accessFlags := 9, code := some k1c1 }
/-- com/example/dovecote/dovecote/standin/isds/LockoutCountPinLaw -/
def k1 : Class := { plain "com/example/dovecote/dovecote/standin/isds/LockoutCountPinLaw" (some 0) with
  accessFlags := 49
  interfaces := #[]
  cf := some (fileOf pool1 22 #[] #[{ accessFlags := 1, nameIndex := 5, descriptorIndex := 6, attributes := #[] }, { accessFlags := 9, nameIndex := 26, descriptorIndex := 27, attributes := #[] }] 49 2 #[] #[])
  fields := #[]
  methods := #[k1m0, k1m1]
  instanceTypes := #[]
  staticTypes := #[]
  resolved := Array.replicate 31 none
  statics := none }

def pool2 : Array CpInfo := pool [(1, .methodref 2 3), (0, .class_ 4), (0, .nameAndType 5 6), (0, u "java/lang/Object"), (0, u "<init>"), (0, u "()V"), (0, .fieldref 8 9), (0, .class_ 10), (0, .nameAndType 11 12), (0, u "com/example/dovecote/dovecote/standin/isds/Lockout"), (0, u "limit"), (0, u "I"), (0, .fieldref 8 14), (0, .nameAndType 15 16), (0, u "locked"), (0, u "Z"), (0, .fieldref 8 18), (0, .nameAndType 19 20), (0, u "lockedAt"), (0, u "J"), (0, .fieldref 8 22), (0, .nameAndType 23 24), (0, u "LOCK_TIME"), (0, u "Ljava/time/Duration;"), (0, .methodref 26 27), (0, .class_ 28), (0, .nameAndType 29 30), (0, u "java/time/Duration"), (0, u "toNanos"), (0, u "()J"), (0, .fieldref 8 32), (0, .nameAndType 33 12), (0, u "refusals"), (6, u "(I)V"), (2, u "(J)Z"), (1, u "count"), (0, u "(ZJ)V")] 3

def k2c0 : Code := { maxStack := 2, maxLocals := 2, code := prog_65_method_1_code, exceptionTable := #[], attributes := #[] }
def k2m0 : Method := { name := "<init>", desc := "(I)V", sig := { parameters := [.int], returnType := none }, accessFlags := 0, code := some k2c0 }
def k2c1 : Code := { maxStack := 4, maxLocals := 3, code := prog_65_method_2_code, exceptionTable := #[], attributes := #[] }
def k2m1 : Method := { name := "locked", desc := "(J)Z", sig := { parameters := [.long], returnType := some .boolean }, accessFlags := 0, code := some k2c1 }
def k2c2 : Code := { maxStack := 3, maxLocals := 4, code := prog_65_method_3_code, exceptionTable := #[], attributes := #[] }
def k2m2 : Method := { name := "count", desc := "(ZJ)V", sig := { parameters := [.boolean, .long], returnType := none }, accessFlags := 0, code := some k2c2 }
/-- com/example/dovecote/dovecote/standin/isds/Lockout -/
def k2 : Class := { plain "com/example/dovecote/dovecote/standin/isds/Lockout" (some 0) with
  accessFlags := 48
  interfaces := #[]
  cf := some (fileOf pool2 8 #[] #[{ accessFlags := 0, nameIndex := 5, descriptorIndex := 40, attributes := #[] }, { accessFlags := 0, nameIndex := 15, descriptorIndex := 43, attributes := #[] }, { accessFlags := 0, nameIndex := 45, descriptorIndex := 46, attributes := #[] }] 48 2 #[] #[{ accessFlags := 24, nameIndex := 23, descriptorIndex := 24, attributes := #[] }, { accessFlags := 18, nameIndex := 11, descriptorIndex := 12, attributes := #[] }, { accessFlags := 2, nameIndex := 33, descriptorIndex := 12, attributes := #[] }, { accessFlags := 2, nameIndex := 15, descriptorIndex := 16, attributes := #[] }, { accessFlags := 2, nameIndex := 19, descriptorIndex := 20, attributes := #[] }])
  fields := #[{ name := "LOCK_TIME", type := (.object "java/time/Duration"), accessFlags := 24, slot := 0, constantValue := 0 }, { name := "limit", type := .int, accessFlags := 18, slot := 0, constantValue := 0 }, { name := "refusals", type := .int, accessFlags := 2, slot := 1, constantValue := 0 }, { name := "locked", type := .boolean, accessFlags := 2, slot := 2, constantValue := 0 }, { name := "lockedAt", type := .long, accessFlags := 2, slot := 3, constantValue := 0 }]
  methods := #[k2m0, k2m1, k2m2]
  instanceTypes := #[.int, .int, .boolean, .long]
  staticTypes := #[(.object "java/time/Duration")]
  resolved := Array.replicate 50 none
  statics := some 0 }

def pool3 : Array CpInfo := pool [(1, .class_ 2), (0, u "java/time/temporal/TemporalAmount"), (0, .class_ 4), (0, u "java/lang/Object")] 11

/-- java/time/temporal/TemporalAmount -/
def k3 : Class := { plain "java/time/temporal/TemporalAmount" (some 0) with
  accessFlags := 1537
  interfaces := #[]
  cf := some (fileOf pool3 1 #[] #[] 1537 3 #[] #[])
  fields := #[]
  methods := #[]
  instanceTypes := #[]
  staticTypes := #[]
  resolved := Array.replicate 16 none
  statics := none }

def pool4 : Array CpInfo := pool [(1, .class_ 2), (0, u "java/lang/Comparable"), (0, .class_ 4), (0, u "java/lang/Object")] 7

/-- java/lang/Comparable -/
def k4 : Class := { plain "java/lang/Comparable" (some 0) with
  accessFlags := 1537
  interfaces := #[]
  cf := some (fileOf pool4 1 #[] #[] 1537 3 #[] #[])
  fields := #[]
  methods := #[]
  instanceTypes := #[]
  staticTypes := #[]
  resolved := Array.replicate 12 none
  statics := none }

def pool5 : Array CpInfo := pool [(1, .class_ 2), (0, u "java/io/Serializable"), (0, .class_ 4), (0, u "java/lang/Object")] 2

/-- java/io/Serializable -/
def k5 : Class := { plain "java/io/Serializable" (some 0) with
  accessFlags := 1537
  interfaces := #[]
  cf := some (fileOf pool5 1 #[] #[] 1537 3 #[] #[])
  fields := #[]
  methods := #[]
  instanceTypes := #[]
  staticTypes := #[]
  resolved := Array.replicate 7 none
  statics := none }

def pool6 : Array CpInfo := pool [(5, .class_ 7), (1, u "java/lang/Math"), (0, u "multiplyExact"), (2, .class_ 13), (1, u "java/time/Duration"), (2, .long 1000000000), (4, u "(JJ)J"), (0, .methodref 5 23), (0, .nameAndType 24 21), (0, u "addExact"), (9, u "ZERO"), (0, u "Ljava/time/Duration;"), (13, .class_ 51), (1, u "java/time/temporal/TemporalAmount"), (27, .class_ 81), (1, u "java/time/Duration$Lazy"), (35, u "seconds"), (101, .class_ 220), (0, u "java/lang/Object"), (0, .fieldref 11 222), (0, .nameAndType 117 223), (0, u "J"), (0, .fieldref 11 225), (0, .nameAndType 226 227), (0, u "nanos"), (0, u "I"), (11, .class_ 241), (1, u "java/time/Duration$DurationUnits"), (9, u "()J"), (17, .class_ 271), (1, u "java/time/Duration$1"), (17, .methodref 5 290), (0, .nameAndType 8 21), (72, u "BI_NANOS_PER_SECOND"), (0, u "Ljava/math/BigInteger;"), (46, u "toNanos"), (73, .class_ 486), (0, u "java/lang/Comparable"), (0, .class_ 488), (0, u "java/io/Serializable"), (0, u "serialVersionUID")] 166

def k6c0 : Code := { maxStack := 4, maxLocals := 7, code := jdk_2316_method_58_code, exceptionTable := #[], attributes := #[] }
def k6m0 : Method := { name := "toNanos", desc := "()J", sig := { parameters := [], returnType := some .long }, accessFlags := 1, code := some k6c0 }
/-- java/time/Duration -/
def k6 : Class := { plain "java/time/Duration" (some 0) with
  accessFlags := 49
  interfaces := #[3, 4, 5]
  cf := some (fileOf pool6 11 #[.nestMembers #[269, 239, 79]] #[{ accessFlags := 1, nameIndex := 411, descriptorIndex := 251, attributes := #[] }] 49 219 #[49, 485, 487] #[{ accessFlags := 25, nameIndex := 34, descriptorIndex := 35, attributes := #[] }, { accessFlags := 26, nameIndex := 489, descriptorIndex := 223, attributes := #[] }, { accessFlags := 26, nameIndex := 363, descriptorIndex := 364, attributes := #[] }, { accessFlags := 18, nameIndex := 117, descriptorIndex := 223, attributes := #[] }, { accessFlags := 18, nameIndex := 226, descriptorIndex := 227, attributes := #[] }])
  fields := #[{ name := "ZERO", type := (.object "java/time/Duration"), accessFlags := 25, slot := 0, constantValue := 0 }, { name := "serialVersionUID", type := .long, accessFlags := 26, slot := 1, constantValue := 0 }, { name := "BI_NANOS_PER_SECOND", type := (.object "java/math/BigInteger"), accessFlags := 26, slot := 2, constantValue := 0 }, { name := "seconds", type := .long, accessFlags := 18, slot := 0, constantValue := 0 }, { name := "nanos", type := .int, accessFlags := 18, slot := 1, constantValue := 0 }]
  methods := #[k6m0]
  instanceTypes := #[.long, .int]
  staticTypes := #[(.object "java/time/Duration"), .long, (.object "java/math/BigInteger")]
  resolved := Array.replicate 656 none
  statics := none }

def pool7 : Array CpInfo := pool [(1, .class_ 2), (0, u "java/lang/Math"), (1, .class_ 6), (1, u "java/lang/Object"), (0, u "<init>"), (0, u "()V"), (89, .class_ 100), (1, u "java/lang/Math$RandomNumberGeneratorHolder"), (19, u "multiplyExact"), (0, u "(JJ)J"), (0, .methodref 1 123), (0, .nameAndType 124 125), (0, u "abs"), (0, u "(J)J"), (46, u "negativeZeroFloatBits"), (0, u "J"), (2, u "negativeZeroDoubleBits"), (68, u "$assertionsDisabled"), (0, u "Z"), (91, u "twoToTheDoubleScaleDown"), (0, u "D"), (4, u "twoToTheDoubleScaleUp"), (9, u "E"), (3, u "PI"), (2, u "TAU"), (2, u "DEGREES_TO_RADIANS"), (0, u "RADIANS_TO_DEGREES"), (27, u "addExact")] 66

def k7m0 : Method := { name := "<init>", desc := "()V", sig := { parameters := [], returnType := none }, accessFlags := 2, code := none }
def k7c1 : Code := { maxStack := 6, maxLocals := 6, code := jdk_29_method_25_code, exceptionTable := #[], attributes := #[] }
def k7m1 : Method := { name := "addExact", desc := "(JJ)J", sig := { parameters := [.long, .long], returnType := some .long }, accessFlags := 9, code := some k7c1 }
def k7c2 : Code := { maxStack := 4, maxLocals := 10, code := jdk_29_method_30_code, exceptionTable := #[], attributes := #[] }
def k7m2 : Method := { name := "multiplyExact", desc := "(JJ)J", sig := { parameters := [.long, .long], returnType := some .long }, accessFlags := 9, code := some k7c2 }
def k7c3 : Code := { maxStack := 4, maxLocals := 2, code := jdk_29_method_61_code, exceptionTable := #[], attributes := #[] }
def k7m3 : Method := { name := "abs", desc := "(J)J", sig := { parameters := [.long], returnType := some .long }, accessFlags := 9, code := some k7c3 }
/-- java/lang/Math -/
def k7 : Class := { plain "java/lang/Math" (some 0) with
  accessFlags := 49
  interfaces := #[]
  cf := some (fileOf pool7 1 #[.nestMembers #[98]] #[{ accessFlags := 2, nameIndex := 7, descriptorIndex := 8, attributes := #[] }, { accessFlags := 9, nameIndex := 393, descriptorIndex := 121, attributes := #[] }, { accessFlags := 9, nameIndex := 120, descriptorIndex := 121, attributes := #[] }, { accessFlags := 9, nameIndex := 124, descriptorIndex := 125, attributes := #[] }] 49 4 #[] #[{ accessFlags := 25, nameIndex := 354, descriptorIndex := 339, attributes := #[] }, { accessFlags := 25, nameIndex := 358, descriptorIndex := 339, attributes := #[] }, { accessFlags := 25, nameIndex := 361, descriptorIndex := 339, attributes := #[] }, { accessFlags := 26, nameIndex := 364, descriptorIndex := 339, attributes := #[] }, { accessFlags := 26, nameIndex := 365, descriptorIndex := 339, attributes := #[] }, { accessFlags := 26, nameIndex := 172, descriptorIndex := 173, attributes := #[] }, { accessFlags := 26, nameIndex := 176, descriptorIndex := 173, attributes := #[] }, { accessFlags := 8, nameIndex := 344, descriptorIndex := 339, attributes := #[] }, { accessFlags := 8, nameIndex := 338, descriptorIndex := 339, attributes := #[] }, { accessFlags := 4120, nameIndex := 245, descriptorIndex := 246, attributes := #[] }])
  fields := #[{ name := "E", type := .double, accessFlags := 25, slot := 0, constantValue := 0 }, { name := "PI", type := .double, accessFlags := 25, slot := 1, constantValue := 0 }, { name := "TAU", type := .double, accessFlags := 25, slot := 2, constantValue := 0 }, { name := "DEGREES_TO_RADIANS", type := .double, accessFlags := 26, slot := 3, constantValue := 0 }, { name := "RADIANS_TO_DEGREES", type := .double, accessFlags := 26, slot := 4, constantValue := 0 }, { name := "negativeZeroFloatBits", type := .long, accessFlags := 26, slot := 5, constantValue := 0 }, { name := "negativeZeroDoubleBits", type := .long, accessFlags := 26, slot := 6, constantValue := 0 }, { name := "twoToTheDoubleScaleUp", type := .double, accessFlags := 8, slot := 7, constantValue := 0 }, { name := "twoToTheDoubleScaleDown", type := .double, accessFlags := 8, slot := 8, constantValue := 0 }, { name := "$assertionsDisabled", type := .boolean, accessFlags := 4120, slot := 9, constantValue := 0 }]
  methods := #[k7m0, k7m1, k7m2, k7m3]
  instanceTypes := #[]
  staticTypes := #[.double, .double, .double, .double, .double, .long, .long, .double, .double, .boolean]
  resolved := Array.replicate 460 none
  statics := none }

def pool8 : Array CpInfo := pool [(1, u "java/lang/Cloneable"), (0, .class_ 1), (0, u "java/lang/Object"), (0, .class_ 3)] 3

/-- java/lang/Cloneable -/
def k8 : Class := { plain "java/lang/Cloneable" (some 0) with
  accessFlags := 1537
  interfaces := #[]
  cf := some (fileOf pool8 2 #[] #[] 1537 4 #[] #[])
  fields := #[]
  methods := #[]
  instanceTypes := #[]
  staticTypes := #[]
  resolved := Array.replicate 8 none
  statics := none }

/-- the primitive byte -/
def k9 : Class := { plain "byte" none with kind := .primitive 'B', accessFlags := 0x411 }
/-- [B -/
def k10 : Class := { plain "[B" (some 0) with kind := .array 9 .byte, interfaces := #[8, 5], accessFlags := 1041 }

/-- the primitive int -/
def k11 : Class := { plain "int" none with kind := .primitive 'I', accessFlags := 0x411 }
/-- [I -/
def k12 : Class := { plain "[I" (some 0) with kind := .array 11 .int, interfaces := #[8, 5], accessFlags := 1041 }

def heap : Heap := #[{ cls := 2, slots := #[.ref 1], vm := .statics 2 },
  { cls := 6, slots := #[.long 3600, .int 0], vm := .none }]
def classes : Array Class := #[k0, k1, k2, k3, k4, k5, k6, k7, k8, k9, k10, k11, k12]
def interned : List (Array UInt16 × Addr) := []
def slotsUsed : Nat := 3
def theMethod : MethodId := ⟨1, 1⟩
def args0 : Array Value := #[.int 21, .long 5, .long 5, .long 5, .long 5, .long 5]
def aboutOver (below : List Frame) : State where
  vm := { classes := classes, interned := interned.toArray }
  heap := heap
  slotsUsed := slotsUsed
  threads := #[{ frames := .invoking theMethod args0 :: below }]
def below0 : List Frame := [.native { method := ⟨0, 0⟩, args := #[] }]
def about1 : State := aboutOver below0
def p0 : Program := .bare "" "" ""
def e0 : Env := launch0.env 0 0 0
theorem w_frames : about1.frames = Frame.invoking theMethod args0 :: below0 := rfl
set_option maxRecDepth 65536 in
theorem w_args : argsFit about1.vm theMethod args0 = true := by decide +kernel
set_option maxRecDepth 65536 in
theorem w_heap : heapFits about1 = true := by decide +kernel
set_option maxRecDepth 65536 in
theorem w_runnable : about1.curStatus? = some .runnable := by decide +kernel
set_option maxRecDepth 65536 in
theorem w_alone : about1.alone = true := by decide +kernel
set_option maxRecDepth 65536 in
theorem w_named : about1.methodNamed? x = some theMethod := by decide +kernel
set_option maxRecDepth 65536 in
theorem w_hears : about1.hears theMethod below0 = true := by decide +kernel
set_option maxRecDepth 65536 in
theorem w_ripe : about1.ripe theMethod args0 below0 = true := by decide +kernel
theorem w_running : about1.status = .running := rfl
set_option maxRecDepth 65536 in
theorem w_room : about1.hasRoom e0.platform room_1 = true :=
  launch0.hasRoom_least _ room_1 (by decide +kernel) (by decide +kernel) (by decide +kernel) (by decide +kernel) (by decide +kernel) (by decide +kernel)
theorem allAtoms_all (ts : List Jvm.Cond) (a : Array Jvm.Value) (st : Jvm.State) : (allAtoms ts).before a st = ts.all (fun c => c.before a st) := by
  induction ts with
  | nil => rfl
  | cons c t ih =>
    show (Jvm.Cond.and c (allAtoms t)).before a st = _
    rw [Jvm.Cond.before_and, ih, List.all_cons]
def words1 : List Jvm.Cond := Jvm.Cond.code x code maxLocals ret :: tables_1
/-- a 'code' word, met by the world's own term for the bytes: nothing is compared byte by byte -/
theorem code_word {y : MethodName} {bytes : ByteArray} {mx : Nat} {rt : Option FieldType} {a : Array Value} {s : State} {m : MethodId} {meth : Method} {c : Code} (h1 : s.methodNamed? y = some m) (h2 : s.vm.method? m = some meth) (h3 : meth.code = some c) (h4 : c.code = bytes)
    (h5 : (c.maxLocals == mx && c.exceptionTable.isEmpty && decide (c.maxStack ≤ mostOperands) && decide (meth.sig.returnType = rt) && !meth.locks && decide (parseMethodDescriptor y.desc = some meth.sig)) = true) : (Jvm.Cond.code y bytes mx rt).before a s = true := by
  simp only [Bool.and_eq_true, beq_iff_eq, Bool.not_eq_true', decide_eq_true_eq] at h5
  obtain ⟨⟨⟨⟨⟨g1, g2⟩, g3⟩, g4⟩, g5⟩, g6⟩ := h5
  simp [Cond.before, Cond.holds, Cond.value, h1, h2, h3, h4, g1, g2, g3, g4, g5, g6]
def isCode : Jvm.Cond → Bool
  | .code _ _ _ _ => true
  | _ => false
theorem all_split {L : List Jvm.Cond} {P : Jvm.Cond → Bool} (h1 : L.all (fun c => isCode c || P c) = true) (h2 : ∀ c ∈ L.filter isCode, P c = true) : L.all P = true := by
  refine List.all_eq_true.mpr fun c hc => ?_
  have h := List.all_eq_true.mp h1 c hc
  rcases Bool.eq_false_or_eq_true (isCode c) with hi | hi
  · exact h2 c (List.mem_filter.mpr ⟨hc, hi⟩)
  · simpa [hi] using h
set_option maxRecDepth 65536 in
theorem w_c0 : (Jvm.Cond.code x code maxLocals ret).before args0 about1 = true := code_word (m := ⟨1, 1⟩) (meth := k1m1) (c := k1c1) (by decide +kernel) rfl rfl rfl (by decide +kernel)
set_option maxRecDepth 65536 in
theorem w_c1 : (Jvm.Cond.code ({ cls := "com/example/dovecote/dovecote/standin/isds/Lockout", name := "<init>", desc := "(I)V" } : Jvm.MethodName) prog_65_method_1_code (2 : Nat) (Option.none : Option Jvm.ClassFile.FieldType)).before args0 about1 = true := code_word (m := ⟨2, 0⟩) (meth := k2m0) (c := k2c0) (by decide +kernel) rfl rfl rfl (by decide +kernel)
set_option maxRecDepth 65536 in
theorem w_c2 : (Jvm.Cond.code ({ cls := "java/lang/Object", name := "<init>", desc := "()V" } : Jvm.MethodName) object_method_1_code (1 : Nat) (Option.none : Option Jvm.ClassFile.FieldType)).before args0 about1 = true := code_word (m := ⟨0, 0⟩) (meth := k0m0) (c := k0c0) (by decide +kernel) rfl rfl rfl (by decide +kernel)
set_option maxRecDepth 65536 in
theorem w_c3 : (Jvm.Cond.code ({ cls := "com/example/dovecote/dovecote/standin/isds/Lockout", name := "count", desc := "(ZJ)V" } : Jvm.MethodName) prog_65_method_3_code (4 : Nat) (Option.none : Option Jvm.ClassFile.FieldType)).before args0 about1 = true := code_word (m := ⟨2, 2⟩) (meth := k2m2) (c := k2c2) (by decide +kernel) rfl rfl rfl (by decide +kernel)
set_option maxRecDepth 65536 in
theorem w_c4 : (Jvm.Cond.code ({ cls := "com/example/dovecote/dovecote/standin/isds/Lockout", name := "locked", desc := "(J)Z" } : Jvm.MethodName) prog_65_method_2_code (3 : Nat) (Option.some Jvm.ClassFile.FieldType.boolean)).before args0 about1 = true := code_word (m := ⟨2, 1⟩) (meth := k2m1) (c := k2c1) (by decide +kernel) rfl rfl rfl (by decide +kernel)
set_option maxRecDepth 65536 in
theorem w_c5 : (Jvm.Cond.code ({ cls := "java/time/Duration", name := "toNanos", desc := "()J" } : Jvm.MethodName) jdk_2316_method_58_code (7 : Nat) (Option.some Jvm.ClassFile.FieldType.long)).before args0 about1 = true := code_word (m := ⟨6, 0⟩) (meth := k6m0) (c := k6c0) (by decide +kernel) rfl rfl rfl (by decide +kernel)
set_option maxRecDepth 65536 in
theorem w_c6 : (Jvm.Cond.code ({ cls := "java/lang/Math", name := "multiplyExact", desc := "(JJ)J" } : Jvm.MethodName) jdk_29_method_30_code (10 : Nat) (Option.some Jvm.ClassFile.FieldType.long)).before args0 about1 = true := code_word (m := ⟨7, 2⟩) (meth := k7m2) (c := k7c2) (by decide +kernel) rfl rfl rfl (by decide +kernel)
set_option maxRecDepth 65536 in
theorem w_c7 : (Jvm.Cond.code ({ cls := "java/lang/Math", name := "abs", desc := "(J)J" } : Jvm.MethodName) jdk_29_method_61_code (2 : Nat) (Option.some Jvm.ClassFile.FieldType.long)).before args0 about1 = true := code_word (m := ⟨7, 3⟩) (meth := k7m3) (c := k7c3) (by decide +kernel) rfl rfl rfl (by decide +kernel)
set_option maxRecDepth 65536 in
theorem w_c8 : (Jvm.Cond.code ({ cls := "java/lang/Math", name := "addExact", desc := "(JJ)J" } : Jvm.MethodName) jdk_29_method_25_code (6 : Nat) (Option.some Jvm.ClassFile.FieldType.long)).before args0 about1 = true := code_word (m := ⟨7, 1⟩) (meth := k7m1) (c := k7c1) (by decide +kernel) rfl rfl rfl (by decide +kernel)
def codes1 : List Jvm.Cond := [Jvm.Cond.code x code maxLocals ret, Jvm.Cond.code ({ cls := "com/example/dovecote/dovecote/standin/isds/Lockout", name := "<init>", desc := "(I)V" } : Jvm.MethodName) prog_65_method_1_code (2 : Nat) (Option.none : Option Jvm.ClassFile.FieldType), Jvm.Cond.code ({ cls := "java/lang/Object", name := "<init>", desc := "()V" } : Jvm.MethodName) object_method_1_code (1 : Nat) (Option.none : Option Jvm.ClassFile.FieldType), Jvm.Cond.code ({ cls := "com/example/dovecote/dovecote/standin/isds/Lockout", name := "count", desc := "(ZJ)V" } : Jvm.MethodName) prog_65_method_3_code (4 : Nat) (Option.none : Option Jvm.ClassFile.FieldType), Jvm.Cond.code ({ cls := "com/example/dovecote/dovecote/standin/isds/Lockout", name := "locked", desc := "(J)Z" } : Jvm.MethodName) prog_65_method_2_code (3 : Nat) (Option.some Jvm.ClassFile.FieldType.boolean), Jvm.Cond.code ({ cls := "java/time/Duration", name := "toNanos", desc := "()J" } : Jvm.MethodName) jdk_2316_method_58_code (7 : Nat) (Option.some Jvm.ClassFile.FieldType.long), Jvm.Cond.code ({ cls := "java/lang/Math", name := "multiplyExact", desc := "(JJ)J" } : Jvm.MethodName) jdk_29_method_30_code (10 : Nat) (Option.some Jvm.ClassFile.FieldType.long), Jvm.Cond.code ({ cls := "java/lang/Math", name := "abs", desc := "(J)J" } : Jvm.MethodName) jdk_29_method_61_code (2 : Nat) (Option.some Jvm.ClassFile.FieldType.long), Jvm.Cond.code ({ cls := "java/lang/Math", name := "addExact", desc := "(JJ)J" } : Jvm.MethodName) jdk_29_method_25_code (6 : Nat) (Option.some Jvm.ClassFile.FieldType.long)]
set_option maxRecDepth 65536 in
theorem codes_eq : words1.filter isCode = codes1 := rfl
theorem w_codes : ∀ c ∈ words1.filter isCode, c.before args0 about1 = true := by
  rw [codes_eq]
  intro c hc
  simp only [codes1, List.mem_cons, List.not_mem_nil, or_false] at hc
  rcases hc with rfl | rfl | rfl | rfl | rfl | rfl | rfl | rfl | rfl
  · exact w_c0
  · exact w_c1
  · exact w_c2
  · exact w_c3
  · exact w_c4
  · exact w_c5
  · exact w_c6
  · exact w_c7
  · exact w_c8
set_option maxRecDepth 65536 in
theorem w_t1 : (words1.take 24).all (fun c => isCode c || c.before args0 about1) = true := by decide +kernel
set_option maxRecDepth 65536 in
theorem w_t2 : ((words1.drop 24).take 24).all (fun c => isCode c || c.before args0 about1) = true := by decide +kernel
set_option maxRecDepth 65536 in
theorem w_t3 : ((words1.drop 24).drop 24).all (fun c => isCode c || c.before args0 about1) = true := by decide +kernel
theorem w_tables : (allAtoms (Jvm.Cond.code x code maxLocals ret :: tables_1)).before args0 about1 = true := by
  rw [allAtoms_all]
  show words1.all (fun c => c.before args0 about1) = true
  refine all_split ?_ w_codes
  rw [← List.take_append_drop 24 words1, List.all_append, w_t1, ← List.take_append_drop 24 (words1.drop 24), List.all_append, w_t2, w_t3]
  rfl
set_option maxRecDepth 65536 in
theorem w_case : (Jvm.Cond.and given_1 narrow_1).before args0 about1 = true := by decide +kernel
theorem w_applies : (headSpec (Jvm.Cond.code x code maxLocals ret :: tables_1) room_1).applies x e0.platform about1 = true :=
  (Spec.applies_iff w_frames).mpr ⟨w_running, w_runnable, w_alone, w_named, w_hears, w_ripe, w_room, w_tables⟩
theorem atStart : AtStart classFile x code maxLocals ret World_1 tables_1 room_1 Calls_1 rest_1 Pre_1 launch0 p0 e0 about1 theMethod args0 below0 :=
  ⟨lists_1, trivial, launch0.admits_env _ _ _, launch0.least_env, fairChoices_fair.cas, fairChoices_fair.clock, w_frames, w_args, w_heap, w_applies, trivial, trivial, w_case⟩
end start1
theorem witness_1 : WitnessClaimed_1 := ⟨start1.p0, start1.e0, start1.about1, start1.theMethod, start1.args0, start1.below0, start1.atStart⟩
end Jvm.Pilot.@@N@@
