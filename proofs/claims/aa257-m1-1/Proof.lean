import JvmDerived
import JvmDerived.Pilot.@@N@@Statement
import JvmDerived.Pilot.@@N@@Code
set_option linter.unusedVariables false
set_option linter.unusedSimpArgs false
@@BLOCK:NumsL.lean.txt@@
namespace Jvm.Pilot.@@N@@
open Jvm Jvm.ClassFile Sem Op Lib Jvm.Free Jvm.Stand Jvm.LawKit Jvm.RoadKit Bundle Jvm.Pilot.@@N@@.Jvm.D

section OwnKit
variable {p : Program} {l : Launch} {e : Env} {R : Room} {s : State} {m : MethodId} {args : Array Value} {below : List Frame} {meth : Method} {c : Code} {T : State} {locs : List Loc} {cells slots : Nat}
def own_Go (p : Program) (e : Env) (below : List Frame) (s : State) (Q : Option Value → Heap → List Loc → Prop) (rc rs : Nat) (T : State) (g : JFrame) : Prop :=
  ∃ s₂ o, Steps p.tables e below (T.setTop g) s₂ ∧ s₂.status = .running ∧ Ended s₂ below o ∧ ∃ v L, o = .returned v ∧ Q v s₂.heap L ∧ FrameEnd s o s₂ L rc rs
variable {Q : Option Value → Heap → List Loc → Prop} {rc rs : Nat} {T' : State} {g g' : JFrame}
theorem own_step (st : ∀ target, Steps p.tables e below (T'.setTop g') target → Steps p.tables e below (T.setTop g) target) (k : own_Go p e below s Q rc rs T' g') : own_Go p e below s Q rc rs T g := by
  obtain ⟨s₂, o, h1, h2⟩ := k
  exact ⟨s₂, o, st _ h1, h2⟩
theorem own_tr (st : Steps p.tables e below (T.setTop g) (T'.setTop g')) (k : own_Go p e below s Q rc rs T' g') : own_Go p e below s Q rc rs T g := by
  obtain ⟨s₂, o, h1, h2⟩ := k
  exact ⟨s₂, o, st.trans h1, h2⟩
theorem own_cast (q : g = g') (k : own_Go p e below s Q rc rs T g') : own_Go p e below s Q rc rs T g := q ▸ k
theorem own_done (X : Stand p l e R s m args below meth c T locs cells slots) {v : Option Value} (hv : meth.sig.returnType = none → v = none) (hlk : meth.locks = false)
    (st : ∀ fs, (∀ (f : JFrame) (acts : List Action), f.method = m → f.locked = none → f.entered = [] → (doReturn e (T.setTop f) acts v).1 = T.setFrames fs) → Steps p.tables e below (T.setTop g) (T.setFrames fs))
    (hQ : Q v T.heap locs) (hc : cells ≤ rc) (hs : slots ≤ rs) : own_Go p e below s Q rc rs T g := by
  obtain ⟨fs, hr, hrun, hended, hW, hsame⟩ := X.leave (v := v) hv hlk
  exact ⟨_, _, st fs hr, hrun, hended, v, locs, rfl, hQ, ⟨_, rfl⟩, hW, hsame.mono hc hs⟩
theorem own_rN (X : Stand p l e R s m args below meth c T locs cells slots) (hx : p.tables.exec = Jvm.exec) (hlk : meth.locks = false) {t : FieldType} (hret : meth.sig.returnType = some t) (ht : t = .boolean ∨ t = .byte ∨ t = .char ∨ t = .short) {pc : Nat} {Ls : Array Slot} {z : Int32} {rest : List Value}
    (hd : decode c.code pc = .ok (.ireturn, 1)) (hQ : Q (some (.int (nar t z))) T.heap locs) (hc : cells ≤ rc) (hs : slots ≤ rs) : own_Go p e below s Q rc rs T (mkF m pc Ls (.int z :: rest)) :=
  own_done X (fun h => by rw [hret] at h; cases h) hlk (fun fs hr => retN X hx hret ht hd hr) hQ hc hs
theorem own_rI (X : Stand p l e R s m args below meth c T locs cells slots) (hx : p.tables.exec = Jvm.exec) (hlk : meth.locks = false) (hret : meth.sig.returnType = some .int) {pc : Nat} {Ls : Array Slot} {z : Int32} {rest : List Value}
    (hd : decode c.code pc = .ok (.ireturn, 1)) (hQ : Q (some (.int z)) T.heap locs) (hc : cells ≤ rc) (hs : slots ≤ rs) : own_Go p e below s Q rc rs T (mkF m pc Ls (.int z :: rest)) :=
  own_done X (fun h => by rw [hret] at h; cases h) hlk (fun fs hr => retOut X hx hret rfl (Or.inl ⟨rfl, Or.inl rfl, _, rfl⟩) hd hr) hQ hc hs
theorem own_rJ (X : Stand p l e R s m args below meth c T locs cells slots) (hx : p.tables.exec = Jvm.exec) (hlk : meth.locks = false) (hret : meth.sig.returnType = some .long) {pc : Nat} {Ls : Array Slot} {z : Int64} {rest : List Value}
    (hd : decode c.code pc = .ok (.lreturn, 1)) (hQ : Q (some (.long z)) T.heap locs) (hc : cells ≤ rc) (hs : slots ≤ rs) : own_Go p e below s Q rc rs T (mkF m pc Ls (.long z :: rest)) :=
  own_done X (fun h => by rw [hret] at h; cases h) hlk (fun fs hr => retOut X hx hret rfl (Or.inr (Or.inl ⟨rfl, rfl, _, rfl⟩)) hd hr) hQ hc hs
theorem own_narA {t : FieldType} {w : Value} (ht : t.isReference = true) (hw : w.isRef = true) : narrow t w = w := by cases t <;> cases w <;> first | rfl | cases ht | cases hw
theorem own_rA (X : Stand p l e R s m args below meth c T locs cells slots) (hx : p.tables.exec = Jvm.exec) (hlk : meth.locks = false) {t : FieldType} (hret : meth.sig.returnType = some t) (ht : t.isReference = true) {pc : Nat} {Ls : Array Slot} {w : Value} {rest : List Value} (hw : w.isRef = true)
    (hd : decode c.code pc = .ok (.areturn, 1)) (hQ : Q (some w) T.heap locs) (hc : cells ≤ rc) (hs : slots ≤ rs) : own_Go p e below s Q rc rs T (mkF m pc Ls (w :: rest)) :=
  own_done X (fun h => by rw [hret] at h; cases h) hlk (fun fs hr => retOut X hx hret (own_narA ht hw) (Or.inr (Or.inr (Or.inr (Or.inr ⟨rfl, ht, hw⟩)))) hd hr) hQ hc hs
theorem own_rV (X : Stand p l e R s m args below meth c T locs cells slots) (hx : p.tables.exec = Jvm.exec) (hlk : meth.locks = false) (hret : meth.sig.returnType = none) {pc : Nat} {Ls : Array Slot}
    (hd : decode c.code pc = .ok (.return_, 1)) (hQ : Q none T.heap locs) (hc : cells ≤ rc) (hs : slots ≤ rs) : own_Go p e below s Q rc rs T (mkF m pc Ls []) :=
  own_done X (fun _ => rfl) hlk (fun fs hr => X.returnOut hx hret hd hr) hQ hc hs
end OwnKit

section OwnKit2
variable {p : Program} {l : Launch} {e : Env} {R : Room} {s : State} {m : MethodId} {args : Array Value} {below : List Frame} {meth : Method} {c : Code} {T : State} {locs : List Loc} {cells slots : Nat}
theorem own_s (T' : State) (g' : JFrame) {Q : Option Value → Heap → List Loc → Prop} {rc rs : Nat} {g : JFrame} (st : ∀ target, Steps p.tables e below (T'.setTop g') target → Steps p.tables e below (T.setTop g) target) (k : own_Go p e below s Q rc rs T' g') : own_Go p e below s Q rc rs T g := own_step st k
end OwnKit2
abbrev u_ : Slot := .unset
abbrev s_ : Slot := .second
abbrev own_j (x : Int64) : Slot := .val (.long x)
theorem own_b32 (x : Int32) : B53 x.toInt64 := by
  have h1 := x.toInt_lt
  have h2 := x.le_toInt
  unfold B53
  rw [c_i2l]
  constructor <;> omega
theorem own_bs (x y : Int32) : B53 (x.toInt64 + y.toInt64) := by
  have h1 := x.toInt_lt
  have h2 := x.le_toInt
  have h3 := y.toInt_lt
  have h4 := y.le_toInt
  unfold B53
  rw [Jvm.Kit.i64_add (by rw [c_i2l, c_i2l]; omega) (by rw [c_i2l, c_i2l]; omega), c_i2l, c_i2l]
  constructor <;> omega
def own_16 (x : Int32) : Prop := 0 ≤ x.toInt ∧ x.toInt < 65536
theorem own_m16 (x : Int32) : own_16 (x &&& (65535 : Int32)) := by
  have h : (x &&& (65535 : Int32)).toInt = x.toInt % 2 ^ 16 := Jvm.Kit.i32_mask x 65535 (k := 16) (by decide) (by decide)
  unfold own_16
  rw [h]
  omega
theorem own_s16 (x : Int32) : own_16 ((x.toUInt32 >>> (16 : UInt32)).toInt32) := by
  have e : (x.toUInt32 >>> (16 : UInt32)).toNat < 2 ^ 16 := by
    rw [UInt32.toNat_shiftRight]
    show x.toUInt32.toNat >>> 16 < 2 ^ 16
    have := x.toUInt32.toNat_lt
    rw [Nat.shiftRight_eq_div_pow]
    omega
  have a1 : ((x.toUInt32 >>> (16 : UInt32)).toInt32).toInt = (x.toUInt32 >>> (16 : UInt32)).toBitVec.toInt := rfl
  have a2 : (x.toUInt32 >>> (16 : UInt32)).toNat = (x.toUInt32 >>> (16 : UInt32)).toBitVec.toNat := rfl
  unfold own_16
  rw [a1, BitVec.toInt_eq_toNat_cond]
  rw [a2] at e
  split <;> omega
theorem own_sum {x y : Int32} (hx : own_16 x) (hy : own_16 y) : x.toInt64 + y.toInt64 = (x + y).toInt64 := by
  obtain ⟨h1, h2⟩ := hx
  obtain ⟨h3, h4⟩ := hy
  rw [← Int64.toInt_inj, Jvm.Kit.i64_add (by rw [c_i2l, c_i2l]; omega) (by rw [c_i2l, c_i2l]; omega), c_i2l, c_i2l, c_i2l, Jvm.Kit.i32_add (by omega) (by omega)]
def Q_cti (Z : State) (ob : Addr) (u0 : Value) (u1 : Value) (u2 : Value) (u3 : Value) (u4 : Value) (u5 : Value) (h0 : Heap) (n0 : Nat) (v : Option Value) (h : Heap) (L : List Loc) : Prop := ∃ (b0 : Addr) (b1 : Addr) (b2 : Addr) (b3 : Addr) (b4 : Addr) (b5 : Addr) (q0 : ClassId) (q1 : ClassId) (q2 : ClassId) (q3 : ClassId) (q4 : ClassId) (q5 : ClassId), v = none ∧ Fr n0 L ∧ Keep h0 h [ob] ∧ h0.size ≤ b0 ∧ h0.size ≤ b1 ∧ h0.size ≤ b2 ∧ h0.size ≤ b3 ∧ h0.size ≤ b4 ∧ h0.size ≤ b5 ∧ ob ≠ b0 ∧ ob ≠ b1 ∧ ob ≠ b2 ∧ ob ≠ b3 ∧ ob ≠ b4 ∧ ob ≠ b5 ∧ b0 ≠ b1 ∧ b0 ≠ b2 ∧ b0 ≠ b3 ∧ b0 ≠ b4 ∧ b0 ≠ b5 ∧ b1 ≠ b2 ∧ b1 ≠ b3 ∧ b1 ≠ b4 ∧ b1 ≠ b5 ∧ b2 ≠ b3 ∧ b2 ≠ b4 ∧ b2 ≠ b5 ∧ b3 ≠ b4 ∧ b3 ≠ b5 ∧ b4 ≠ b5 ∧ Fld Z h ob "com/example/rostr/rostr/simulation/SimulatedCentre$Counts" "offered" "[J" (.ref b0) ∧ Fld Z h ob "com/example/rostr/rostr/simulation/SimulatedCentre$Counts" "abandoned" "[J" (.ref b1) ∧ Fld Z h ob "com/example/rostr/rostr/simulation/SimulatedCentre$Counts" "abandonedEarly" "[J" (.ref b2) ∧ Fld Z h ob "com/example/rostr/rostr/simulation/SimulatedCentre$Counts" "answered" "[J" (.ref b3) ∧ Fld Z h ob "com/example/rostr/rostr/simulation/SimulatedCentre$Counts" "answeredInTime" "[J" (.ref b4) ∧ Fld Z h ob "com/example/rostr/rostr/simulation/SimulatedCentre$Counts" "waitHours" "[D" (.ref b5) ∧ Arv Z h b0 q0 .long (2 : Int32) [(.long (0 : Int64)), (.long (0 : Int64))] (.long (0 : Int64)) ∧ Arv Z h b1 q1 .long (2 : Int32) [(.long (0 : Int64)), (.long (0 : Int64))] (.long (0 : Int64)) ∧ Arv Z h b2 q2 .long (2 : Int32) [(.long (0 : Int64)), (.long (0 : Int64))] (.long (0 : Int64)) ∧ Arv Z h b3 q3 .long (2 : Int32) [(.long (0 : Int64)), (.long (0 : Int64))] (.long (0 : Int64)) ∧ Arv Z h b4 q4 .long (2 : Int32) [(.long (0 : Int64)), (.long (0 : Int64))] (.long (0 : Int64)) ∧ Arv Z h b5 q5 .double (2 : Int32) [(.double (FP.l2d 0)), (.double (FP.l2d 0))] (.double (FP.l2d 0))
theorem ef_rm_cti (m : MethodId) (x0 : Addr) (x1 : Int32) : entryFrame m #[(.ref x0), (.int x1)] 2 = mkF m 0 #[.val (.ref x0), .val (.int x1)] [] := by first | (simp [entryFrame, mkF, argsToLocals, Value.category]; done) | rfl | (simp [entryFrame, mkF, argsToLocals, Value.category] <;> rfl)
theorem pn_0 : plainName "com/example/rostr/rostr/simulation/SimulatedCentre$Counts" = true := by first | (simp [plainName, overriddenIn]; done) | decide +kernel
theorem d1_0 : decode prog_32_method_1_code 0 = .ok (.aload_n 0, 1) := by decide +kernel
theorem d1_1 : decode prog_32_method_1_code 1 = .ok (.invokespecial 1, 3) := by decide +kernel
theorem d1_4 : decode prog_32_method_1_code 4 = .ok (.aload_n 0, 1) := by decide +kernel
theorem d1_5 : decode prog_32_method_1_code 5 = .ok (.iload_n 1, 1) := by decide +kernel
theorem d1_6 : decode prog_32_method_1_code 6 = .ok (.newarray .long, 2) := by decide +kernel
theorem d1_8 : decode prog_32_method_1_code 8 = .ok (.putfield 7, 3) := by decide +kernel
theorem d1_11 : decode prog_32_method_1_code 11 = .ok (.aload_n 0, 1) := by decide +kernel
theorem d1_12 : decode prog_32_method_1_code 12 = .ok (.iload_n 1, 1) := by decide +kernel
theorem d1_13 : decode prog_32_method_1_code 13 = .ok (.newarray .long, 2) := by decide +kernel
theorem d1_15 : decode prog_32_method_1_code 15 = .ok (.putfield 13, 3) := by decide +kernel
theorem d1_18 : decode prog_32_method_1_code 18 = .ok (.aload_n 0, 1) := by decide +kernel
theorem d1_19 : decode prog_32_method_1_code 19 = .ok (.iload_n 1, 1) := by decide +kernel
theorem d1_20 : decode prog_32_method_1_code 20 = .ok (.newarray .long, 2) := by decide +kernel
theorem d1_22 : decode prog_32_method_1_code 22 = .ok (.putfield 16, 3) := by decide +kernel
theorem d1_25 : decode prog_32_method_1_code 25 = .ok (.aload_n 0, 1) := by decide +kernel
theorem d1_26 : decode prog_32_method_1_code 26 = .ok (.iload_n 1, 1) := by decide +kernel
theorem d1_27 : decode prog_32_method_1_code 27 = .ok (.newarray .long, 2) := by decide +kernel
theorem d1_29 : decode prog_32_method_1_code 29 = .ok (.putfield 19, 3) := by decide +kernel
theorem d1_32 : decode prog_32_method_1_code 32 = .ok (.aload_n 0, 1) := by decide +kernel
theorem d1_33 : decode prog_32_method_1_code 33 = .ok (.iload_n 1, 1) := by decide +kernel
theorem d1_34 : decode prog_32_method_1_code 34 = .ok (.newarray .long, 2) := by decide +kernel
theorem d1_36 : decode prog_32_method_1_code 36 = .ok (.putfield 22, 3) := by decide +kernel
theorem d1_39 : decode prog_32_method_1_code 39 = .ok (.aload_n 0, 1) := by decide +kernel
theorem d1_40 : decode prog_32_method_1_code 40 = .ok (.iload_n 1, 1) := by decide +kernel
theorem d1_41 : decode prog_32_method_1_code 41 = .ok (.newarray .double, 2) := by decide +kernel
theorem d1_43 : decode prog_32_method_1_code 43 = .ok (.putfield 25, 3) := by decide +kernel
theorem d1_46 : decode prog_32_method_1_code 46 = .ok (.return_, 1) := by decide +kernel
set_option maxRecDepth 65536 in
set_option maxHeartbeats 40000000 in
theorem rm_cti (l : Launch) (Z : State) (a0 : Array Value) (hw : ∀ d ∈ tables_1, d.before a0 Z = true) (ws : List Jvm.Cond) (ob : Addr) (u0 : Value) (u1 : Value) (u2 : Value) (u3 : Value) (u4 : Value) (u5 : Value) (h0 : Heap) (n0 : Nat) (Z0 : n0 ≤ h0.size) (F_0 : Exa Z h0 ob "com/example/rostr/rostr/simulation/SimulatedCentre$Counts") (F_1 : Fld Z h0 ob "com/example/rostr/rostr/simulation/SimulatedCentre$Counts" "offered" "[J" u0) (F_2 : Fld Z h0 ob "com/example/rostr/rostr/simulation/SimulatedCentre$Counts" "abandoned" "[J" u1) (F_3 : Fld Z h0 ob "com/example/rostr/rostr/simulation/SimulatedCentre$Counts" "abandonedEarly" "[J" u2) (F_4 : Fld Z h0 ob "com/example/rostr/rostr/simulation/SimulatedCentre$Counts" "answered" "[J" u3) (F_5 : Fld Z h0 ob "com/example/rostr/rostr/simulation/SimulatedCentre$Counts" "answeredInTime" "[J" u4) (F_6 : Fld Z h0 ob "com/example/rostr/rostr/simulation/SimulatedCentre$Counts" "waitHours" "[D" u5) (o_ob : n0 ≤ ob) :
    MetFree l (⟨"com/example/rostr/rostr/simulation/SimulatedCentre$Counts", "<init>", "(I)V"⟩ : MethodName) (head1 (Jvm.Cond.code (⟨"com/example/rostr/rostr/simulation/SimulatedCentre$Counts", "<init>", "(I)V"⟩ : MethodName) prog_32_method_1_code 2 none :: ws) ({ frames := 1, cells := 6, slots := 12, locals := 12 } : Room)) (fun a U => a = #[(.ref ob), (.int (2 : Int32))] ∧ Z.Warmed39 U.vm ∧ U.heap = h0) (fun _ _ _ _ _ => True) (fun _ U o U' => ∃ v L, o = .returned v ∧ (Q_cti Z ob u0 u1 u2 u3 u4 u5 h0 n0) v U'.heap L ∧ FrameEnd U o U' L ({ frames := 1, cells := 6, slots := 12, locals := 12 } : Room).cells ({ frames := 1, cells := 6, slots := 12, locals := 12 } : Room).slots) := by
  refine MetFree.of_bodySF (plainFor_of_name pn_0) hisR ?_
  intro p e s m args below meth c s₁ Bd hml0 hP hK
  obtain ⟨rfl, hZ, hh⟩ := hP
  have hx := Bd.exec
  have hby := Bd.bytes
  have hW := fun i d (h : tables_1[i]? = some d) => hw d (List.mem_of_getElem? h)
  have hlk : meth.locks = false := BodyLoose.notSynchronized Bd
  have hml : c.maxLocals = 2 := hml0
  have hown : s.vm.findClass "com/example/rostr/rostr/simulation/SimulatedCentre$Counts" = some m.cls := findClass_of_methodNamed Bd.named
  have hnm := (name_of_methodNamed Bd.named Bd.method).1
  have X0 : Stand p l e ({ frames := 1, cells := 6, slots := 12, locals := 12 } : Room) s m #[(.ref ob), (.int (2 : Int32))] below meth c s₁ [] 0 0 := Stand.of_body Bd
  have e0 : s₁.heap = h0 := by rw [← hh, Bd.state]; rfl
  have N0 := Fr.nil n0
  show own_Go p e below s (Q_cti Z ob u0 u1 u2 u3 u4 u5 h0 n0) ({ frames := 1, cells := 6, slots := 12, locals := 12 } : Room).cells ({ frames := 1, cells := 6, slots := 12, locals := 12 } : Room).slots s₁ (entryFrame m #[(.ref ob), (.int (2 : Int32))] 2)
  refine own_cast (g' := (mkF m 0 #[rv ob, iv 2] [])) (ef_rm_cti m ob (2 : Int32)) ?_
  have K0 : Keep h0 h0 [ob] := Keep.refl _ _
  refine own_s s₁ (mkF m 1 #[rv ob, iv 2] [.ref ob]) (fun t k => XS.aloadN X0.here hx rfl (hb hby d1_0) rfl rfl k) ?_
  obtain ⟨T1, X1, e1, st1⟩ := initO X0 hx hZ hown (hW 6 _ rfl) (hW 7 _ rfl) (hW 8 _ rfl) e0 (g := (mkF m 1 #[rv ob, iv 2] [.ref ob])) rfl (by rw [hml]; rfl) rfl (hb hby d1_1) (by decide) (W := 0) (by show 2 * 0 + _ ≤ _; exact Nat.le_of_eq rfl) (by decide)
  refine own_s T1 (mkF m 4 #[rv ob, iv 2] []) st1 ?_
  refine own_s T1 (mkF m 5 #[rv ob, iv 2] [.ref ob]) (fun t k => XS.aloadN X1.here hx rfl (hb hby d1_4) rfl rfl k) ?_
  refine own_s T1 (mkF m 6 #[rv ob, iv 2] [.int 2, .ref ob]) (fun t k => XS.iloadN X1.here hx rfl (hb hby d1_5) rfl k) ?_
  obtain ⟨T2, h2, k2, X2, e2, E2, A2, st2⟩ := newP X1 hx hZ (hW 9 _ rfl) e1 (g := (mkF m 6 #[rv ob, iv 2] [.int 2, .ref ob])) rfl (hb hby d1_6) rfl (by decide) (cap := 2) (by decide) (by decide) (by decide : 0 + 1 ≤ _) (by decide : 0 + 2 ≤ _)
  obtain ⟨ad2, g_ad2⟩ : ∃ z, z = h0.size := ⟨_, rfl⟩
  rw [← g_ad2] at A2 st2
  have g3 := F_0.ext E2
  have g4 := F_1.ext E2
  have g5 := F_2.ext E2
  have g6 := F_3.ext E2
  have g7 := F_4.ext E2
  have g8 := F_5.ext E2
  have g9 := F_6.ext E2
  have ne2_1 : ob ≠ ad2 := Nat.ne_of_lt (by rw [g_ad2]; exact F_0.lt)
  have o2 : n0 ≤ ad2 := (Nat.le_trans Z0 (Nat.le_of_eq g_ad2.symm))
  have Z2 : n0 ≤ h2.size := (Nat.le_trans Z0 E2.1)
  have f2 : h0.size ≤ ad2 := by rw [g_ad2]; exact K0.1
  have K10 : Keep h0 h2 [ob] := K0.ext E2
  have V2 : Arv Z h2 ad2 k2 .long (2 : Int32) [(.long (0 : Int64)), (.long (0 : Int64))] (.long (0 : Int64)) := (Arv.new A2 (by decide)).pad (pad_rep [] (.long (0 : Int64)) 2)
  refine own_s T2 (mkF m 8 #[rv ob, iv 2] [.ref ad2, .ref ob]) st2 ?_
  obtain ⟨T11, h11, X11, e11, W11, st11⟩ := putF X2 hx hZ hown (host := "") (Or.inl (hW 10 _ rfl)) Via.refl e2 g4 g3 (Or.inr ⟨(hW 11 _ rfl), rfl, hnm⟩) (hW 1 _ rfl) (ty := .array .long) (by decide) rfl rfl (g := (mkF m 8 #[rv ob, iv 2] [.ref ad2, .ref ob])) rfl rfl (hb hby d1_8)
  have g12 := g3.wr W11
  have g13 : Fld Z h11 ob "com/example/rostr/rostr/simulation/SimulatedCentre$Counts" "offered" "[J" (.ref ad2) := g4.same W11
  have g14 := g5.other W11 (Or.inr (slot_ne (Or.inr (hW 13 _ rfl)) (Or.inr (hW 11 _ rfl)) (by decide) (t := .array .long) (t' := .array .long) (by decide) (by decide)))
  have g15 := g6.other W11 (Or.inr (slot_ne (Or.inr (hW 15 _ rfl)) (Or.inr (hW 11 _ rfl)) (by decide) (t := .array .long) (t' := .array .long) (by decide) (by decide)))
  have g16 := g7.other W11 (Or.inr (slot_ne (Or.inr (hW 17 _ rfl)) (Or.inr (hW 11 _ rfl)) (by decide) (t := .array .long) (t' := .array .long) (by decide) (by decide)))
  have g17 := g8.other W11 (Or.inr (slot_ne (Or.inr (hW 19 _ rfl)) (Or.inr (hW 11 _ rfl)) (by decide) (t := .array .long) (t' := .array .long) (by decide) (by decide)))
  have g18 := g9.other W11 (Or.inr (slot_ne (Or.inr (hW 22 _ rfl)) (Or.inr (hW 11 _ rfl)) (by decide) (t := .array .double) (t' := .array .long) (by decide) (by decide)))
  have g19 := V2.other W11 (Ne.symm ne2_1)
  have K20 : Keep h0 h11 [ob] := K10.wr W11 (Or.inl (List.mem_of_getElem? (i := 0) rfl))
  have N11 := Fr.snoc X11 N0 o_ob
  have Z11 : n0 ≤ h11.size := (Nat.le_trans Z2 (Nat.le_of_eq W11.size.symm))
  refine own_s T11 (mkF m 11 #[rv ob, iv 2] []) st11 ?_
  refine own_s T11 (mkF m 12 #[rv ob, iv 2] [.ref ob]) (fun t k => XS.aloadN X11.here hx rfl (hb hby d1_11) rfl rfl k) ?_
  refine own_s T11 (mkF m 13 #[rv ob, iv 2] [.int 2, .ref ob]) (fun t k => XS.iloadN X11.here hx rfl (hb hby d1_12) rfl k) ?_
  obtain ⟨T21, h21, k21, X21, e21, E21, A21, st21⟩ := newP X11 hx hZ (hW 9 _ rfl) e11 (g := (mkF m 13 #[rv ob, iv 2] [.int 2, .ref ob])) rfl (hb hby d1_13) rfl (by decide) (cap := 2) (by decide) (by decide) (by decide : 1 + 1 ≤ _) (by decide : 2 + 2 ≤ _)
  obtain ⟨ad21, g_ad21⟩ : ∃ z, z = h11.size := ⟨_, rfl⟩
  rw [← g_ad21] at A21 st21
  have g22 := g12.ext E21
  have g23 := g13.ext E21
  have g24 := g14.ext E21
  have g25 := g15.ext E21
  have g26 := g16.ext E21
  have g27 := g17.ext E21
  have g28 := g18.ext E21
  have g29 := g19.ext E21
  have ne21_1 : ob ≠ ad21 := Nat.ne_of_lt (by rw [g_ad21]; exact g12.lt)
  have ne21_2 : ad2 ≠ ad21 := Nat.ne_of_lt (by rw [g_ad21]; exact g19.lt)
  have o21 : n0 ≤ ad21 := (Nat.le_trans Z11 (Nat.le_of_eq g_ad21.symm))
  have Z21 : n0 ≤ h21.size := (Nat.le_trans Z11 E21.1)
  have f21 : h0.size ≤ ad21 := by rw [g_ad21]; exact K20.1
  have K30 : Keep h0 h21 [ob] := K20.ext E21
  have V21 : Arv Z h21 ad21 k21 .long (2 : Int32) [(.long (0 : Int64)), (.long (0 : Int64))] (.long (0 : Int64)) := (Arv.new A21 (by decide)).pad (pad_rep [] (.long (0 : Int64)) 2)
  refine own_s T21 (mkF m 15 #[rv ob, iv 2] [.ref ad21, .ref ob]) st21 ?_
  obtain ⟨T31, h31, X31, e31, W31, st31⟩ := putF X21 hx hZ hown (host := "") (Or.inl (hW 12 _ rfl)) Via.refl e21 g24 g22 (Or.inr ⟨(hW 13 _ rfl), rfl, hnm⟩) (hW 1 _ rfl) (ty := .array .long) (by decide) rfl rfl (g := (mkF m 15 #[rv ob, iv 2] [.ref ad21, .ref ob])) rfl rfl (hb hby d1_15)
  have g32 := g22.wr W31
  have g33 := g23.other W31 (Or.inr (slot_ne (Or.inr (hW 11 _ rfl)) (Or.inr (hW 13 _ rfl)) (by decide) (t := .array .long) (t' := .array .long) (by decide) (by decide)))
  have g34 : Fld Z h31 ob "com/example/rostr/rostr/simulation/SimulatedCentre$Counts" "abandoned" "[J" (.ref ad21) := g24.same W31
  have g35 := g25.other W31 (Or.inr (slot_ne (Or.inr (hW 15 _ rfl)) (Or.inr (hW 13 _ rfl)) (by decide) (t := .array .long) (t' := .array .long) (by decide) (by decide)))
  have g36 := g26.other W31 (Or.inr (slot_ne (Or.inr (hW 17 _ rfl)) (Or.inr (hW 13 _ rfl)) (by decide) (t := .array .long) (t' := .array .long) (by decide) (by decide)))
  have g37 := g27.other W31 (Or.inr (slot_ne (Or.inr (hW 19 _ rfl)) (Or.inr (hW 13 _ rfl)) (by decide) (t := .array .long) (t' := .array .long) (by decide) (by decide)))
  have g38 := g28.other W31 (Or.inr (slot_ne (Or.inr (hW 22 _ rfl)) (Or.inr (hW 13 _ rfl)) (by decide) (t := .array .double) (t' := .array .long) (by decide) (by decide)))
  have g39 := g29.other W31 (Ne.symm ne2_1)
  have g40 := V21.other W31 (Ne.symm ne21_1)
  have K41 : Keep h0 h31 [ob] := K30.wr W31 (Or.inl (List.mem_of_getElem? (i := 0) rfl))
  have N31 := Fr.snoc X31 N11 o_ob
  have Z31 : n0 ≤ h31.size := (Nat.le_trans Z21 (Nat.le_of_eq W31.size.symm))
  refine own_s T31 (mkF m 18 #[rv ob, iv 2] []) st31 ?_
  refine own_s T31 (mkF m 19 #[rv ob, iv 2] [.ref ob]) (fun t k => XS.aloadN X31.here hx rfl (hb hby d1_18) rfl rfl k) ?_
  refine own_s T31 (mkF m 20 #[rv ob, iv 2] [.int 2, .ref ob]) (fun t k => XS.iloadN X31.here hx rfl (hb hby d1_19) rfl k) ?_
  obtain ⟨T42, h42, k42, X42, e42, E42, A42, st42⟩ := newP X31 hx hZ (hW 9 _ rfl) e31 (g := (mkF m 20 #[rv ob, iv 2] [.int 2, .ref ob])) rfl (hb hby d1_20) rfl (by decide) (cap := 2) (by decide) (by decide) (by decide : 2 + 1 ≤ _) (by decide : 4 + 2 ≤ _)
  obtain ⟨ad42, g_ad42⟩ : ∃ z, z = h31.size := ⟨_, rfl⟩
  rw [← g_ad42] at A42 st42
  have g43 := g32.ext E42
  have g44 := g33.ext E42
  have g45 := g34.ext E42
  have g46 := g35.ext E42
  have g47 := g36.ext E42
  have g48 := g37.ext E42
  have g49 := g38.ext E42
  have g50 := g39.ext E42
  have g51 := g40.ext E42
  have ne42_1 : ob ≠ ad42 := Nat.ne_of_lt (by rw [g_ad42]; exact g32.lt)
  have ne42_2 : ad2 ≠ ad42 := Nat.ne_of_lt (by rw [g_ad42]; exact g39.lt)
  have ne42_3 : ad21 ≠ ad42 := Nat.ne_of_lt (by rw [g_ad42]; exact g40.lt)
  have o42 : n0 ≤ ad42 := (Nat.le_trans Z31 (Nat.le_of_eq g_ad42.symm))
  have Z42 : n0 ≤ h42.size := (Nat.le_trans Z31 E42.1)
  have f42 : h0.size ≤ ad42 := by rw [g_ad42]; exact K41.1
  have K52 : Keep h0 h42 [ob] := K41.ext E42
  have V42 : Arv Z h42 ad42 k42 .long (2 : Int32) [(.long (0 : Int64)), (.long (0 : Int64))] (.long (0 : Int64)) := (Arv.new A42 (by decide)).pad (pad_rep [] (.long (0 : Int64)) 2)
  refine own_s T42 (mkF m 22 #[rv ob, iv 2] [.ref ad42, .ref ob]) st42 ?_
  obtain ⟨T53, h53, X53, e53, W53, st53⟩ := putF X42 hx hZ hown (host := "") (Or.inl (hW 14 _ rfl)) Via.refl e42 g46 g43 (Or.inr ⟨(hW 15 _ rfl), rfl, hnm⟩) (hW 1 _ rfl) (ty := .array .long) (by decide) rfl rfl (g := (mkF m 22 #[rv ob, iv 2] [.ref ad42, .ref ob])) rfl rfl (hb hby d1_22)
  have g54 := g43.wr W53
  have g55 := g44.other W53 (Or.inr (slot_ne (Or.inr (hW 11 _ rfl)) (Or.inr (hW 15 _ rfl)) (by decide) (t := .array .long) (t' := .array .long) (by decide) (by decide)))
  have g56 := g45.other W53 (Or.inr (slot_ne (Or.inr (hW 13 _ rfl)) (Or.inr (hW 15 _ rfl)) (by decide) (t := .array .long) (t' := .array .long) (by decide) (by decide)))
  have g57 : Fld Z h53 ob "com/example/rostr/rostr/simulation/SimulatedCentre$Counts" "abandonedEarly" "[J" (.ref ad42) := g46.same W53
  have g58 := g47.other W53 (Or.inr (slot_ne (Or.inr (hW 17 _ rfl)) (Or.inr (hW 15 _ rfl)) (by decide) (t := .array .long) (t' := .array .long) (by decide) (by decide)))
  have g59 := g48.other W53 (Or.inr (slot_ne (Or.inr (hW 19 _ rfl)) (Or.inr (hW 15 _ rfl)) (by decide) (t := .array .long) (t' := .array .long) (by decide) (by decide)))
  have g60 := g49.other W53 (Or.inr (slot_ne (Or.inr (hW 22 _ rfl)) (Or.inr (hW 15 _ rfl)) (by decide) (t := .array .double) (t' := .array .long) (by decide) (by decide)))
  have g61 := g50.other W53 (Ne.symm ne2_1)
  have g62 := g51.other W53 (Ne.symm ne21_1)
  have g63 := V42.other W53 (Ne.symm ne42_1)
  have K64 : Keep h0 h53 [ob] := K52.wr W53 (Or.inl (List.mem_of_getElem? (i := 0) rfl))
  have N53 := Fr.snoc X53 N31 o_ob
  have Z53 : n0 ≤ h53.size := (Nat.le_trans Z42 (Nat.le_of_eq W53.size.symm))
  refine own_s T53 (mkF m 25 #[rv ob, iv 2] []) st53 ?_
  refine own_s T53 (mkF m 26 #[rv ob, iv 2] [.ref ob]) (fun t k => XS.aloadN X53.here hx rfl (hb hby d1_25) rfl rfl k) ?_
  refine own_s T53 (mkF m 27 #[rv ob, iv 2] [.int 2, .ref ob]) (fun t k => XS.iloadN X53.here hx rfl (hb hby d1_26) rfl k) ?_
  obtain ⟨T65, h65, k65, X65, e65, E65, A65, st65⟩ := newP X53 hx hZ (hW 9 _ rfl) e53 (g := (mkF m 27 #[rv ob, iv 2] [.int 2, .ref ob])) rfl (hb hby d1_27) rfl (by decide) (cap := 2) (by decide) (by decide) (by decide : 3 + 1 ≤ _) (by decide : 6 + 2 ≤ _)
  obtain ⟨ad65, g_ad65⟩ : ∃ z, z = h53.size := ⟨_, rfl⟩
  rw [← g_ad65] at A65 st65
  have g66 := g54.ext E65
  have g67 := g55.ext E65
  have g68 := g56.ext E65
  have g69 := g57.ext E65
  have g70 := g58.ext E65
  have g71 := g59.ext E65
  have g72 := g60.ext E65
  have g73 := g61.ext E65
  have g74 := g62.ext E65
  have g75 := g63.ext E65
  have ne65_1 : ob ≠ ad65 := Nat.ne_of_lt (by rw [g_ad65]; exact g54.lt)
  have ne65_2 : ad2 ≠ ad65 := Nat.ne_of_lt (by rw [g_ad65]; exact g61.lt)
  have ne65_3 : ad21 ≠ ad65 := Nat.ne_of_lt (by rw [g_ad65]; exact g62.lt)
  have ne65_4 : ad42 ≠ ad65 := Nat.ne_of_lt (by rw [g_ad65]; exact g63.lt)
  have o65 : n0 ≤ ad65 := (Nat.le_trans Z53 (Nat.le_of_eq g_ad65.symm))
  have Z65 : n0 ≤ h65.size := (Nat.le_trans Z53 E65.1)
  have f65 : h0.size ≤ ad65 := by rw [g_ad65]; exact K64.1
  have K76 : Keep h0 h65 [ob] := K64.ext E65
  have V65 : Arv Z h65 ad65 k65 .long (2 : Int32) [(.long (0 : Int64)), (.long (0 : Int64))] (.long (0 : Int64)) := (Arv.new A65 (by decide)).pad (pad_rep [] (.long (0 : Int64)) 2)
  refine own_s T65 (mkF m 29 #[rv ob, iv 2] [.ref ad65, .ref ob]) st65 ?_
  obtain ⟨T77, h77, X77, e77, W77, st77⟩ := putF X65 hx hZ hown (host := "") (Or.inl (hW 16 _ rfl)) Via.refl e65 g70 g66 (Or.inr ⟨(hW 17 _ rfl), rfl, hnm⟩) (hW 1 _ rfl) (ty := .array .long) (by decide) rfl rfl (g := (mkF m 29 #[rv ob, iv 2] [.ref ad65, .ref ob])) rfl rfl (hb hby d1_29)
  have g78 := g66.wr W77
  have g79 := g67.other W77 (Or.inr (slot_ne (Or.inr (hW 11 _ rfl)) (Or.inr (hW 17 _ rfl)) (by decide) (t := .array .long) (t' := .array .long) (by decide) (by decide)))
  have g80 := g68.other W77 (Or.inr (slot_ne (Or.inr (hW 13 _ rfl)) (Or.inr (hW 17 _ rfl)) (by decide) (t := .array .long) (t' := .array .long) (by decide) (by decide)))
  have g81 := g69.other W77 (Or.inr (slot_ne (Or.inr (hW 15 _ rfl)) (Or.inr (hW 17 _ rfl)) (by decide) (t := .array .long) (t' := .array .long) (by decide) (by decide)))
  have g82 : Fld Z h77 ob "com/example/rostr/rostr/simulation/SimulatedCentre$Counts" "answered" "[J" (.ref ad65) := g70.same W77
  have g83 := g71.other W77 (Or.inr (slot_ne (Or.inr (hW 19 _ rfl)) (Or.inr (hW 17 _ rfl)) (by decide) (t := .array .long) (t' := .array .long) (by decide) (by decide)))
  have g84 := g72.other W77 (Or.inr (slot_ne (Or.inr (hW 22 _ rfl)) (Or.inr (hW 17 _ rfl)) (by decide) (t := .array .double) (t' := .array .long) (by decide) (by decide)))
  have g85 := g73.other W77 (Ne.symm ne2_1)
  have g86 := g74.other W77 (Ne.symm ne21_1)
  have g87 := g75.other W77 (Ne.symm ne42_1)
  have g88 := V65.other W77 (Ne.symm ne65_1)
  have K89 : Keep h0 h77 [ob] := K76.wr W77 (Or.inl (List.mem_of_getElem? (i := 0) rfl))
  have N77 := Fr.snoc X77 N53 o_ob
  have Z77 : n0 ≤ h77.size := (Nat.le_trans Z65 (Nat.le_of_eq W77.size.symm))
  refine own_s T77 (mkF m 32 #[rv ob, iv 2] []) st77 ?_
  refine own_s T77 (mkF m 33 #[rv ob, iv 2] [.ref ob]) (fun t k => XS.aloadN X77.here hx rfl (hb hby d1_32) rfl rfl k) ?_
  refine own_s T77 (mkF m 34 #[rv ob, iv 2] [.int 2, .ref ob]) (fun t k => XS.iloadN X77.here hx rfl (hb hby d1_33) rfl k) ?_
  obtain ⟨T90, h90, k90, X90, e90, E90, A90, st90⟩ := newP X77 hx hZ (hW 9 _ rfl) e77 (g := (mkF m 34 #[rv ob, iv 2] [.int 2, .ref ob])) rfl (hb hby d1_34) rfl (by decide) (cap := 2) (by decide) (by decide) (by decide : 4 + 1 ≤ _) (by decide : 8 + 2 ≤ _)
  obtain ⟨ad90, g_ad90⟩ : ∃ z, z = h77.size := ⟨_, rfl⟩
  rw [← g_ad90] at A90 st90
  have g91 := g78.ext E90
  have g92 := g79.ext E90
  have g93 := g80.ext E90
  have g94 := g81.ext E90
  have g95 := g82.ext E90
  have g96 := g83.ext E90
  have g97 := g84.ext E90
  have g98 := g85.ext E90
  have g99 := g86.ext E90
  have g100 := g87.ext E90
  have g101 := g88.ext E90
  have ne90_1 : ob ≠ ad90 := Nat.ne_of_lt (by rw [g_ad90]; exact g78.lt)
  have ne90_2 : ad2 ≠ ad90 := Nat.ne_of_lt (by rw [g_ad90]; exact g85.lt)
  have ne90_3 : ad21 ≠ ad90 := Nat.ne_of_lt (by rw [g_ad90]; exact g86.lt)
  have ne90_4 : ad42 ≠ ad90 := Nat.ne_of_lt (by rw [g_ad90]; exact g87.lt)
  have ne90_5 : ad65 ≠ ad90 := Nat.ne_of_lt (by rw [g_ad90]; exact g88.lt)
  have o90 : n0 ≤ ad90 := (Nat.le_trans Z77 (Nat.le_of_eq g_ad90.symm))
  have Z90 : n0 ≤ h90.size := (Nat.le_trans Z77 E90.1)
  have f90 : h0.size ≤ ad90 := by rw [g_ad90]; exact K89.1
  have K102 : Keep h0 h90 [ob] := K89.ext E90
  have V90 : Arv Z h90 ad90 k90 .long (2 : Int32) [(.long (0 : Int64)), (.long (0 : Int64))] (.long (0 : Int64)) := (Arv.new A90 (by decide)).pad (pad_rep [] (.long (0 : Int64)) 2)
  refine own_s T90 (mkF m 36 #[rv ob, iv 2] [.ref ad90, .ref ob]) st90 ?_
  obtain ⟨T103, h103, X103, e103, W103, st103⟩ := putF X90 hx hZ hown (host := "") (Or.inl (hW 18 _ rfl)) Via.refl e90 g96 g91 (Or.inr ⟨(hW 19 _ rfl), rfl, hnm⟩) (hW 1 _ rfl) (ty := .array .long) (by decide) rfl rfl (g := (mkF m 36 #[rv ob, iv 2] [.ref ad90, .ref ob])) rfl rfl (hb hby d1_36)
  have g104 := g91.wr W103
  have g105 := g92.other W103 (Or.inr (slot_ne (Or.inr (hW 11 _ rfl)) (Or.inr (hW 19 _ rfl)) (by decide) (t := .array .long) (t' := .array .long) (by decide) (by decide)))
  have g106 := g93.other W103 (Or.inr (slot_ne (Or.inr (hW 13 _ rfl)) (Or.inr (hW 19 _ rfl)) (by decide) (t := .array .long) (t' := .array .long) (by decide) (by decide)))
  have g107 := g94.other W103 (Or.inr (slot_ne (Or.inr (hW 15 _ rfl)) (Or.inr (hW 19 _ rfl)) (by decide) (t := .array .long) (t' := .array .long) (by decide) (by decide)))
  have g108 := g95.other W103 (Or.inr (slot_ne (Or.inr (hW 17 _ rfl)) (Or.inr (hW 19 _ rfl)) (by decide) (t := .array .long) (t' := .array .long) (by decide) (by decide)))
  have g109 : Fld Z h103 ob "com/example/rostr/rostr/simulation/SimulatedCentre$Counts" "answeredInTime" "[J" (.ref ad90) := g96.same W103
  have g110 := g97.other W103 (Or.inr (slot_ne (Or.inr (hW 22 _ rfl)) (Or.inr (hW 19 _ rfl)) (by decide) (t := .array .double) (t' := .array .long) (by decide) (by decide)))
  have g111 := g98.other W103 (Ne.symm ne2_1)
  have g112 := g99.other W103 (Ne.symm ne21_1)
  have g113 := g100.other W103 (Ne.symm ne42_1)
  have g114 := g101.other W103 (Ne.symm ne65_1)
  have g115 := V90.other W103 (Ne.symm ne90_1)
  have K116 : Keep h0 h103 [ob] := K102.wr W103 (Or.inl (List.mem_of_getElem? (i := 0) rfl))
  have N103 := Fr.snoc X103 N77 o_ob
  have Z103 : n0 ≤ h103.size := (Nat.le_trans Z90 (Nat.le_of_eq W103.size.symm))
  refine own_s T103 (mkF m 39 #[rv ob, iv 2] []) st103 ?_
  refine own_s T103 (mkF m 40 #[rv ob, iv 2] [.ref ob]) (fun t k => XS.aloadN X103.here hx rfl (hb hby d1_39) rfl rfl k) ?_
  refine own_s T103 (mkF m 41 #[rv ob, iv 2] [.int 2, .ref ob]) (fun t k => XS.iloadN X103.here hx rfl (hb hby d1_40) rfl k) ?_
  obtain ⟨T117, h117, k117, X117, e117, E117, A117, st117⟩ := newP X103 hx hZ (hW 20 _ rfl) e103 (g := (mkF m 41 #[rv ob, iv 2] [.int 2, .ref ob])) rfl (hb hby d1_41) rfl (by decide) (cap := 2) (by decide) (by decide) (by decide : 5 + 1 ≤ _) (by decide : 10 + 2 ≤ _)
  obtain ⟨ad117, g_ad117⟩ : ∃ z, z = h103.size := ⟨_, rfl⟩
  rw [← g_ad117] at A117 st117
  have g118 := g104.ext E117
  have g119 := g105.ext E117
  have g120 := g106.ext E117
  have g121 := g107.ext E117
  have g122 := g108.ext E117
  have g123 := g109.ext E117
  have g124 := g110.ext E117
  have g125 := g111.ext E117
  have g126 := g112.ext E117
  have g127 := g113.ext E117
  have g128 := g114.ext E117
  have g129 := g115.ext E117
  have ne117_1 : ob ≠ ad117 := Nat.ne_of_lt (by rw [g_ad117]; exact g104.lt)
  have ne117_2 : ad2 ≠ ad117 := Nat.ne_of_lt (by rw [g_ad117]; exact g111.lt)
  have ne117_3 : ad21 ≠ ad117 := Nat.ne_of_lt (by rw [g_ad117]; exact g112.lt)
  have ne117_4 : ad42 ≠ ad117 := Nat.ne_of_lt (by rw [g_ad117]; exact g113.lt)
  have ne117_5 : ad65 ≠ ad117 := Nat.ne_of_lt (by rw [g_ad117]; exact g114.lt)
  have ne117_6 : ad90 ≠ ad117 := Nat.ne_of_lt (by rw [g_ad117]; exact g115.lt)
  have o117 : n0 ≤ ad117 := (Nat.le_trans Z103 (Nat.le_of_eq g_ad117.symm))
  have Z117 : n0 ≤ h117.size := (Nat.le_trans Z103 E117.1)
  have f117 : h0.size ≤ ad117 := by rw [g_ad117]; exact K116.1
  have K130 : Keep h0 h117 [ob] := K116.ext E117
  have V117 : Arv Z h117 ad117 k117 .double (2 : Int32) [(.double (FP.l2d 0)), (.double (FP.l2d 0))] (.double (FP.l2d 0)) := (Arv.newD A117 (by decide)).pad (pad_rep [] (.double (FP.l2d 0)) 2)
  refine own_s T117 (mkF m 43 #[rv ob, iv 2] [.ref ad117, .ref ob]) st117 ?_
  obtain ⟨T131, h131, X131, e131, W131, st131⟩ := putF X117 hx hZ hown (host := "") (Or.inl (hW 21 _ rfl)) Via.refl e117 g124 g118 (Or.inr ⟨(hW 22 _ rfl), rfl, hnm⟩) (hW 1 _ rfl) (ty := .array .double) (by decide) rfl rfl (g := (mkF m 43 #[rv ob, iv 2] [.ref ad117, .ref ob])) rfl rfl (hb hby d1_43)
  have g132 := g118.wr W131
  have g133 := g119.other W131 (Or.inr (slot_ne (Or.inr (hW 11 _ rfl)) (Or.inr (hW 22 _ rfl)) (by decide) (t := .array .long) (t' := .array .double) (by decide) (by decide)))
  have g134 := g120.other W131 (Or.inr (slot_ne (Or.inr (hW 13 _ rfl)) (Or.inr (hW 22 _ rfl)) (by decide) (t := .array .long) (t' := .array .double) (by decide) (by decide)))
  have g135 := g121.other W131 (Or.inr (slot_ne (Or.inr (hW 15 _ rfl)) (Or.inr (hW 22 _ rfl)) (by decide) (t := .array .long) (t' := .array .double) (by decide) (by decide)))
  have g136 := g122.other W131 (Or.inr (slot_ne (Or.inr (hW 17 _ rfl)) (Or.inr (hW 22 _ rfl)) (by decide) (t := .array .long) (t' := .array .double) (by decide) (by decide)))
  have g137 := g123.other W131 (Or.inr (slot_ne (Or.inr (hW 19 _ rfl)) (Or.inr (hW 22 _ rfl)) (by decide) (t := .array .long) (t' := .array .double) (by decide) (by decide)))
  have g138 : Fld Z h131 ob "com/example/rostr/rostr/simulation/SimulatedCentre$Counts" "waitHours" "[D" (.ref ad117) := g124.same W131
  have g139 := g125.other W131 (Ne.symm ne2_1)
  have g140 := g126.other W131 (Ne.symm ne21_1)
  have g141 := g127.other W131 (Ne.symm ne42_1)
  have g142 := g128.other W131 (Ne.symm ne65_1)
  have g143 := g129.other W131 (Ne.symm ne90_1)
  have g144 := V117.other W131 (Ne.symm ne117_1)
  have K145 : Keep h0 h131 [ob] := K130.wr W131 (Or.inl (List.mem_of_getElem? (i := 0) rfl))
  have N131 := Fr.snoc X131 N103 o_ob
  have Z131 : n0 ≤ h131.size := (Nat.le_trans Z117 (Nat.le_of_eq W131.size.symm))
  refine own_s T131 (mkF m 46 #[rv ob, iv 2] []) st131 ?_
  refine own_rV X131 hx hlk Bd.returns (hb hby d1_46) ?_ (by decide) (by decide)
  rw [e131]
  exact ⟨ad2, ad21, ad42, ad65, ad90, ad117, k2, k21, k42, k65, k90, k117, rfl, N131, K145, f2, f21, f42, f65, f90, f117, ne2_1, ne21_1, ne42_1, ne65_1, ne90_1, ne117_1, ne21_2, ne42_2, ne65_2, ne90_2, ne117_2, ne42_3, ne65_3, ne90_3, ne117_3, ne65_4, ne90_4, ne117_4, ne90_5, ne117_5, ne117_6, g133, g134, g135, g136, g137, g138, g139, g140, g141, g142, g143, g144⟩
def Q_add (Z : State) (ob : Addr) (oc : Addr) (ma0 : Addr) (ma1 : Addr) (ma2 : Addr) (ma3 : Addr) (ma4 : Addr) (ma5 : Addr) (oa0 : Addr) (oa1 : Addr) (oa2 : Addr) (oa3 : Addr) (oa4 : Addr) (oa5 : Addr) (mk0 : ClassId) (mk1 : ClassId) (mk2 : ClassId) (mk3 : ClassId) (mk4 : ClassId) (mk5 : ClassId) (ok0 : ClassId) (ok1 : ClassId) (ok2 : ClassId) (ok3 : ClassId) (ok4 : ClassId) (ok5 : ClassId) (x00 : Int64) (x01 : Int64) (x10 : Int64) (x11 : Int64) (x20 : Int64) (x21 : Int64) (x30 : Int64) (x31 : Int64) (x40 : Int64) (x41 : Int64) (x50 : Int64) (x51 : Int64) (y00 : Int64) (y01 : Int64) (y10 : Int64) (y11 : Int64) (y20 : Int64) (y21 : Int64) (y30 : Int64) (y31 : Int64) (y40 : Int64) (y41 : Int64) (y50 : Int64) (y51 : Int64) (h0 : Heap) (n0 : Nat) (v : Option Value) (h : Heap) (L : List Loc) : Prop := v = none ∧ Fr n0 L ∧ Keep h0 h [ma0, ma1, ma2, ma3, ma4, ma5] ∧ Arv Z h ma0 mk0 .long (2 : Int32) [(.long (x00 + y00)), (.long (x01 + y01))] (.long (0 : Int64)) ∧ Arv Z h ma1 mk1 .long (2 : Int32) [(.long (x10 + y10)), (.long (x11 + y11))] (.long (0 : Int64)) ∧ Arv Z h ma2 mk2 .long (2 : Int32) [(.long (x20 + y20)), (.long (x21 + y21))] (.long (0 : Int64)) ∧ Arv Z h ma3 mk3 .long (2 : Int32) [(.long (x30 + y30)), (.long (x31 + y31))] (.long (0 : Int64)) ∧ Arv Z h ma4 mk4 .long (2 : Int32) [(.long (x40 + y40)), (.long (x41 + y41))] (.long (0 : Int64)) ∧ Arv Z h ma5 mk5 .double (2 : Int32) [(.double (FP.l2d (x50 + y50))), (.double (FP.l2d (x51 + y51)))] (.double (FP.l2d 0))
theorem ef_rm_add (m : MethodId) (x0 : Addr) (x1 : Addr) : entryFrame m #[(.ref x0), (.ref x1)] 3 = mkF m 0 #[.val (.ref x0), .val (.ref x1), .unset] [] := by first | (simp [entryFrame, mkF, argsToLocals, Value.category]; done) | rfl | (simp [entryFrame, mkF, argsToLocals, Value.category] <;> rfl)
theorem d3_0 : decode prog_32_method_2_code 0 = .ok (.iconst 0, 1) := by decide +kernel
theorem d3_1 : decode prog_32_method_2_code 1 = .ok (.istore_n 2, 1) := by decide +kernel
theorem d3_2 : decode prog_32_method_2_code 2 = .ok (.iload_n 2, 1) := by decide +kernel
theorem d3_3 : decode prog_32_method_2_code 3 = .ok (.aload_n 0, 1) := by decide +kernel
theorem d3_4 : decode prog_32_method_2_code 4 = .ok (.getfield 7, 3) := by decide +kernel
theorem d3_7 : decode prog_32_method_2_code 7 = .ok (.arraylength, 1) := by decide +kernel
theorem d3_8 : decode prog_32_method_2_code 8 = .ok (.if_icmp .ge 99, 3) := by decide +kernel
theorem d3_11 : decode prog_32_method_2_code 11 = .ok (.aload_n 0, 1) := by decide +kernel
theorem d3_12 : decode prog_32_method_2_code 12 = .ok (.getfield 7, 3) := by decide +kernel
theorem d3_15 : decode prog_32_method_2_code 15 = .ok (.iload_n 2, 1) := by decide +kernel
theorem d3_16 : decode prog_32_method_2_code 16 = .ok (.dup2, 1) := by decide +kernel
theorem d3_17 : decode prog_32_method_2_code 17 = .ok (.laload, 1) := by decide +kernel
theorem d3_18 : decode prog_32_method_2_code 18 = .ok (.aload_n 1, 1) := by decide +kernel
theorem d3_19 : decode prog_32_method_2_code 19 = .ok (.getfield 7, 3) := by decide +kernel
theorem d3_22 : decode prog_32_method_2_code 22 = .ok (.iload_n 2, 1) := by decide +kernel
theorem d3_23 : decode prog_32_method_2_code 23 = .ok (.laload, 1) := by decide +kernel
theorem d3_24 : decode prog_32_method_2_code 24 = .ok (.ladd, 1) := by decide +kernel
theorem d3_25 : decode prog_32_method_2_code 25 = .ok (.lastore, 1) := by decide +kernel
theorem d3_26 : decode prog_32_method_2_code 26 = .ok (.aload_n 0, 1) := by decide +kernel
theorem d3_27 : decode prog_32_method_2_code 27 = .ok (.getfield 13, 3) := by decide +kernel
theorem d3_30 : decode prog_32_method_2_code 30 = .ok (.iload_n 2, 1) := by decide +kernel
theorem d3_31 : decode prog_32_method_2_code 31 = .ok (.dup2, 1) := by decide +kernel
theorem d3_32 : decode prog_32_method_2_code 32 = .ok (.laload, 1) := by decide +kernel
theorem d3_33 : decode prog_32_method_2_code 33 = .ok (.aload_n 1, 1) := by decide +kernel
theorem d3_34 : decode prog_32_method_2_code 34 = .ok (.getfield 13, 3) := by decide +kernel
theorem d3_37 : decode prog_32_method_2_code 37 = .ok (.iload_n 2, 1) := by decide +kernel
theorem d3_38 : decode prog_32_method_2_code 38 = .ok (.laload, 1) := by decide +kernel
theorem d3_39 : decode prog_32_method_2_code 39 = .ok (.ladd, 1) := by decide +kernel
theorem d3_40 : decode prog_32_method_2_code 40 = .ok (.lastore, 1) := by decide +kernel
theorem d3_41 : decode prog_32_method_2_code 41 = .ok (.aload_n 0, 1) := by decide +kernel
theorem d3_42 : decode prog_32_method_2_code 42 = .ok (.getfield 16, 3) := by decide +kernel
theorem d3_45 : decode prog_32_method_2_code 45 = .ok (.iload_n 2, 1) := by decide +kernel
theorem d3_46 : decode prog_32_method_2_code 46 = .ok (.dup2, 1) := by decide +kernel
theorem d3_47 : decode prog_32_method_2_code 47 = .ok (.laload, 1) := by decide +kernel
theorem d3_48 : decode prog_32_method_2_code 48 = .ok (.aload_n 1, 1) := by decide +kernel
theorem d3_49 : decode prog_32_method_2_code 49 = .ok (.getfield 16, 3) := by decide +kernel
theorem d3_52 : decode prog_32_method_2_code 52 = .ok (.iload_n 2, 1) := by decide +kernel
theorem d3_53 : decode prog_32_method_2_code 53 = .ok (.laload, 1) := by decide +kernel
theorem d3_54 : decode prog_32_method_2_code 54 = .ok (.ladd, 1) := by decide +kernel
theorem d3_55 : decode prog_32_method_2_code 55 = .ok (.lastore, 1) := by decide +kernel
theorem d3_56 : decode prog_32_method_2_code 56 = .ok (.aload_n 0, 1) := by decide +kernel
theorem d3_57 : decode prog_32_method_2_code 57 = .ok (.getfield 19, 3) := by decide +kernel
theorem d3_60 : decode prog_32_method_2_code 60 = .ok (.iload_n 2, 1) := by decide +kernel
theorem d3_61 : decode prog_32_method_2_code 61 = .ok (.dup2, 1) := by decide +kernel
theorem d3_62 : decode prog_32_method_2_code 62 = .ok (.laload, 1) := by decide +kernel
theorem d3_63 : decode prog_32_method_2_code 63 = .ok (.aload_n 1, 1) := by decide +kernel
theorem d3_64 : decode prog_32_method_2_code 64 = .ok (.getfield 19, 3) := by decide +kernel
theorem d3_67 : decode prog_32_method_2_code 67 = .ok (.iload_n 2, 1) := by decide +kernel
theorem d3_68 : decode prog_32_method_2_code 68 = .ok (.laload, 1) := by decide +kernel
theorem d3_69 : decode prog_32_method_2_code 69 = .ok (.ladd, 1) := by decide +kernel
theorem d3_70 : decode prog_32_method_2_code 70 = .ok (.lastore, 1) := by decide +kernel
theorem d3_71 : decode prog_32_method_2_code 71 = .ok (.aload_n 0, 1) := by decide +kernel
theorem d3_72 : decode prog_32_method_2_code 72 = .ok (.getfield 22, 3) := by decide +kernel
theorem d3_75 : decode prog_32_method_2_code 75 = .ok (.iload_n 2, 1) := by decide +kernel
theorem d3_76 : decode prog_32_method_2_code 76 = .ok (.dup2, 1) := by decide +kernel
theorem d3_77 : decode prog_32_method_2_code 77 = .ok (.laload, 1) := by decide +kernel
theorem d3_78 : decode prog_32_method_2_code 78 = .ok (.aload_n 1, 1) := by decide +kernel
theorem d3_79 : decode prog_32_method_2_code 79 = .ok (.getfield 22, 3) := by decide +kernel
theorem d3_82 : decode prog_32_method_2_code 82 = .ok (.iload_n 2, 1) := by decide +kernel
theorem d3_83 : decode prog_32_method_2_code 83 = .ok (.laload, 1) := by decide +kernel
theorem d3_84 : decode prog_32_method_2_code 84 = .ok (.ladd, 1) := by decide +kernel
theorem d3_85 : decode prog_32_method_2_code 85 = .ok (.lastore, 1) := by decide +kernel
theorem d3_86 : decode prog_32_method_2_code 86 = .ok (.aload_n 0, 1) := by decide +kernel
theorem d3_87 : decode prog_32_method_2_code 87 = .ok (.getfield 25, 3) := by decide +kernel
theorem d3_90 : decode prog_32_method_2_code 90 = .ok (.iload_n 2, 1) := by decide +kernel
theorem d3_91 : decode prog_32_method_2_code 91 = .ok (.dup2, 1) := by decide +kernel
theorem d3_92 : decode prog_32_method_2_code 92 = .ok (.daload, 1) := by decide +kernel
theorem d3_93 : decode prog_32_method_2_code 93 = .ok (.aload_n 1, 1) := by decide +kernel
theorem d3_94 : decode prog_32_method_2_code 94 = .ok (.getfield 25, 3) := by decide +kernel
theorem d3_97 : decode prog_32_method_2_code 97 = .ok (.iload_n 2, 1) := by decide +kernel
theorem d3_98 : decode prog_32_method_2_code 98 = .ok (.daload, 1) := by decide +kernel
theorem d3_99 : decode prog_32_method_2_code 99 = .ok (.dadd, 1) := by decide +kernel
theorem d3_100 : decode prog_32_method_2_code 100 = .ok (.dastore, 1) := by decide +kernel
theorem d3_101 : decode prog_32_method_2_code 101 = .ok (.iinc 2 1, 3) := by decide +kernel
theorem d3_104 : decode prog_32_method_2_code 104 = .ok (.goto (-102), 3) := by decide +kernel
theorem d3_107 : decode prog_32_method_2_code 107 = .ok (.return_, 1) := by decide +kernel
set_option maxRecDepth 65536 in
set_option maxHeartbeats 40000000 in
theorem rm_add (l : Launch) (Z : State) (a0 : Array Value) (hw : ∀ d ∈ tables_1, d.before a0 Z = true) (ws : List Jvm.Cond) (ob : Addr) (oc : Addr) (ma0 : Addr) (ma1 : Addr) (ma2 : Addr) (ma3 : Addr) (ma4 : Addr) (ma5 : Addr) (oa0 : Addr) (oa1 : Addr) (oa2 : Addr) (oa3 : Addr) (oa4 : Addr) (oa5 : Addr) (mk0 : ClassId) (mk1 : ClassId) (mk2 : ClassId) (mk3 : ClassId) (mk4 : ClassId) (mk5 : ClassId) (ok0 : ClassId) (ok1 : ClassId) (ok2 : ClassId) (ok3 : ClassId) (ok4 : ClassId) (ok5 : ClassId) (x00 : Int64) (x01 : Int64) (x10 : Int64) (x11 : Int64) (x20 : Int64) (x21 : Int64) (x30 : Int64) (x31 : Int64) (x40 : Int64) (x41 : Int64) (x50 : Int64) (x51 : Int64) (y00 : Int64) (y01 : Int64) (y10 : Int64) (y11 : Int64) (y20 : Int64) (y21 : Int64) (y30 : Int64) (y31 : Int64) (y40 : Int64) (y41 : Int64) (y50 : Int64) (y51 : Int64) (h0 : Heap) (n0 : Nat) (Z0 : n0 ≤ h0.size) (F_0 : Fld Z h0 ob "com/example/rostr/rostr/simulation/SimulatedCentre$Counts" "offered" "[J" (.ref ma0)) (F_1 : Fld Z h0 ob "com/example/rostr/rostr/simulation/SimulatedCentre$Counts" "abandoned" "[J" (.ref ma1)) (F_2 : Fld Z h0 ob "com/example/rostr/rostr/simulation/SimulatedCentre$Counts" "abandonedEarly" "[J" (.ref ma2)) (F_3 : Fld Z h0 ob "com/example/rostr/rostr/simulation/SimulatedCentre$Counts" "answered" "[J" (.ref ma3)) (F_4 : Fld Z h0 ob "com/example/rostr/rostr/simulation/SimulatedCentre$Counts" "answeredInTime" "[J" (.ref ma4)) (F_5 : Fld Z h0 ob "com/example/rostr/rostr/simulation/SimulatedCentre$Counts" "waitHours" "[D" (.ref ma5)) (F_6 : Fld Z h0 oc "com/example/rostr/rostr/simulation/SimulatedCentre$Counts" "offered" "[J" (.ref oa0)) (F_7 : Fld Z h0 oc "com/example/rostr/rostr/simulation/SimulatedCentre$Counts" "abandoned" "[J" (.ref oa1)) (F_8 : Fld Z h0 oc "com/example/rostr/rostr/simulation/SimulatedCentre$Counts" "abandonedEarly" "[J" (.ref oa2)) (F_9 : Fld Z h0 oc "com/example/rostr/rostr/simulation/SimulatedCentre$Counts" "answered" "[J" (.ref oa3)) (F_10 : Fld Z h0 oc "com/example/rostr/rostr/simulation/SimulatedCentre$Counts" "answeredInTime" "[J" (.ref oa4)) (F_11 : Fld Z h0 oc "com/example/rostr/rostr/simulation/SimulatedCentre$Counts" "waitHours" "[D" (.ref oa5)) (F_12 : Arv Z h0 ma0 mk0 .long (2 : Int32) [(.long x00), (.long x01)] (.long (0 : Int64))) (F_13 : Arv Z h0 ma1 mk1 .long (2 : Int32) [(.long x10), (.long x11)] (.long (0 : Int64))) (F_14 : Arv Z h0 ma2 mk2 .long (2 : Int32) [(.long x20), (.long x21)] (.long (0 : Int64))) (F_15 : Arv Z h0 ma3 mk3 .long (2 : Int32) [(.long x30), (.long x31)] (.long (0 : Int64))) (F_16 : Arv Z h0 ma4 mk4 .long (2 : Int32) [(.long x40), (.long x41)] (.long (0 : Int64))) (F_17 : Arv Z h0 ma5 mk5 .double (2 : Int32) [(.double (FP.l2d x50)), (.double (FP.l2d x51))] (.double (FP.l2d 0))) (F_18 : Arv Z h0 oa0 ok0 .long (2 : Int32) [(.long y00), (.long y01)] (.long (0 : Int64))) (F_19 : Arv Z h0 oa1 ok1 .long (2 : Int32) [(.long y10), (.long y11)] (.long (0 : Int64))) (F_20 : Arv Z h0 oa2 ok2 .long (2 : Int32) [(.long y20), (.long y21)] (.long (0 : Int64))) (F_21 : Arv Z h0 oa3 ok3 .long (2 : Int32) [(.long y30), (.long y31)] (.long (0 : Int64))) (F_22 : Arv Z h0 oa4 ok4 .long (2 : Int32) [(.long y40), (.long y41)] (.long (0 : Int64))) (F_23 : Arv Z h0 oa5 ok5 .double (2 : Int32) [(.double (FP.l2d y50)), (.double (FP.l2d y51))] (.double (FP.l2d 0))) (o_ma0 : n0 ≤ ma0) (o_ma1 : n0 ≤ ma1) (o_ma2 : n0 ≤ ma2) (o_ma3 : n0 ≤ ma3) (o_ma4 : n0 ≤ ma4) (o_ma5 : n0 ≤ ma5) (n_ma0_ma1 : ma0 ≠ ma1) (n_ma0_ma2 : ma0 ≠ ma2) (n_ma0_ma3 : ma0 ≠ ma3) (n_ma0_ma4 : ma0 ≠ ma4) (n_ma0_ma5 : ma0 ≠ ma5) (n_ma1_ma2 : ma1 ≠ ma2) (n_ma1_ma3 : ma1 ≠ ma3) (n_ma1_ma4 : ma1 ≠ ma4) (n_ma1_ma5 : ma1 ≠ ma5) (n_ma2_ma3 : ma2 ≠ ma3) (n_ma2_ma4 : ma2 ≠ ma4) (n_ma2_ma5 : ma2 ≠ ma5) (n_ma3_ma4 : ma3 ≠ ma4) (n_ma3_ma5 : ma3 ≠ ma5) (n_ma4_ma5 : ma4 ≠ ma5) (n_ma0_oa0 : ma0 ≠ oa0) (n_ma0_oa1 : ma0 ≠ oa1) (n_ma0_oa2 : ma0 ≠ oa2) (n_ma0_oa3 : ma0 ≠ oa3) (n_ma0_oa4 : ma0 ≠ oa4) (n_ma0_oa5 : ma0 ≠ oa5) (n_ma1_oa0 : ma1 ≠ oa0) (n_ma1_oa1 : ma1 ≠ oa1) (n_ma1_oa2 : ma1 ≠ oa2) (n_ma1_oa3 : ma1 ≠ oa3) (n_ma1_oa4 : ma1 ≠ oa4) (n_ma1_oa5 : ma1 ≠ oa5) (n_ma2_oa0 : ma2 ≠ oa0) (n_ma2_oa1 : ma2 ≠ oa1) (n_ma2_oa2 : ma2 ≠ oa2) (n_ma2_oa3 : ma2 ≠ oa3) (n_ma2_oa4 : ma2 ≠ oa4) (n_ma2_oa5 : ma2 ≠ oa5) (n_ma3_oa0 : ma3 ≠ oa0) (n_ma3_oa1 : ma3 ≠ oa1) (n_ma3_oa2 : ma3 ≠ oa2) (n_ma3_oa3 : ma3 ≠ oa3) (n_ma3_oa4 : ma3 ≠ oa4) (n_ma3_oa5 : ma3 ≠ oa5) (n_ma4_oa0 : ma4 ≠ oa0) (n_ma4_oa1 : ma4 ≠ oa1) (n_ma4_oa2 : ma4 ≠ oa2) (n_ma4_oa3 : ma4 ≠ oa3) (n_ma4_oa4 : ma4 ≠ oa4) (n_ma4_oa5 : ma4 ≠ oa5) (n_ma5_oa0 : ma5 ≠ oa0) (n_ma5_oa1 : ma5 ≠ oa1) (n_ma5_oa2 : ma5 ≠ oa2) (n_ma5_oa3 : ma5 ≠ oa3) (n_ma5_oa4 : ma5 ≠ oa4) (n_ma5_oa5 : ma5 ≠ oa5) (n_ob_ma0 : ob ≠ ma0) (n_ob_ma1 : ob ≠ ma1) (n_ob_ma2 : ob ≠ ma2) (n_ob_ma3 : ob ≠ ma3) (n_ob_ma4 : ob ≠ ma4) (n_ob_ma5 : ob ≠ ma5) (n_oc_ma0 : oc ≠ ma0) (n_oc_ma1 : oc ≠ ma1) (n_oc_ma2 : oc ≠ ma2) (n_oc_ma3 : oc ≠ ma3) (n_oc_ma4 : oc ≠ ma4) (n_oc_ma5 : oc ≠ ma5) (hb_x50 : B53 x50) (hb_x51 : B53 x51) (hb_y50 : B53 y50) (hb_y51 : B53 y51) :
    MetFree l (⟨"com/example/rostr/rostr/simulation/SimulatedCentre$Counts", "add", "(Lcom/example/rostr/rostr/simulation/SimulatedCentre$Counts;)V"⟩ : MethodName) (head1 (Jvm.Cond.code (⟨"com/example/rostr/rostr/simulation/SimulatedCentre$Counts", "add", "(Lcom/example/rostr/rostr/simulation/SimulatedCentre$Counts;)V"⟩ : MethodName) prog_32_method_2_code 3 none :: ws) ({ frames := 0, cells := 0, slots := 0, locals := 0 } : Room)) (fun a U => a = #[(.ref ob), (.ref oc)] ∧ Z.Warmed39 U.vm ∧ U.heap = h0) (fun _ _ _ _ _ => True) (fun _ U o U' => ∃ v L, o = .returned v ∧ (Q_add Z ob oc ma0 ma1 ma2 ma3 ma4 ma5 oa0 oa1 oa2 oa3 oa4 oa5 mk0 mk1 mk2 mk3 mk4 mk5 ok0 ok1 ok2 ok3 ok4 ok5 x00 x01 x10 x11 x20 x21 x30 x31 x40 x41 x50 x51 y00 y01 y10 y11 y20 y21 y30 y31 y40 y41 y50 y51 h0 n0) v U'.heap L ∧ FrameEnd U o U' L ({ frames := 0, cells := 0, slots := 0, locals := 0 } : Room).cells ({ frames := 0, cells := 0, slots := 0, locals := 0 } : Room).slots) := by
  refine MetFree.of_bodySF (plainFor_of_name pn_0) hisR ?_
  intro p e s m args below meth c s₁ Bd hml0 hP hK
  obtain ⟨rfl, hZ, hh⟩ := hP
  have hx := Bd.exec
  have hby := Bd.bytes
  have hW := fun i d (h : tables_1[i]? = some d) => hw d (List.mem_of_getElem? h)
  have hlk : meth.locks = false := BodyLoose.notSynchronized Bd
  have hml : c.maxLocals = 3 := hml0
  have hown : s.vm.findClass "com/example/rostr/rostr/simulation/SimulatedCentre$Counts" = some m.cls := findClass_of_methodNamed Bd.named
  have hnm := (name_of_methodNamed Bd.named Bd.method).1
  have X0 : Stand p l e ({ frames := 0, cells := 0, slots := 0, locals := 0 } : Room) s m #[(.ref ob), (.ref oc)] below meth c s₁ [] 0 0 := Stand.of_body Bd
  have e0 : s₁.heap = h0 := by rw [← hh, Bd.state]; rfl
  have N0 := Fr.nil n0
  show own_Go p e below s (Q_add Z ob oc ma0 ma1 ma2 ma3 ma4 ma5 oa0 oa1 oa2 oa3 oa4 oa5 mk0 mk1 mk2 mk3 mk4 mk5 ok0 ok1 ok2 ok3 ok4 ok5 x00 x01 x10 x11 x20 x21 x30 x31 x40 x41 x50 x51 y00 y01 y10 y11 y20 y21 y30 y31 y40 y41 y50 y51 h0 n0) ({ frames := 0, cells := 0, slots := 0, locals := 0 } : Room).cells ({ frames := 0, cells := 0, slots := 0, locals := 0 } : Room).slots s₁ (entryFrame m #[(.ref ob), (.ref oc)] 3)
  refine own_cast (g' := (mkF m 0 #[rv ob, rv oc, u_] [])) (ef_rm_add m ob oc) ?_
  have K0 : Keep h0 h0 [ma0, ma1, ma2, ma3, ma4, ma5] := Keep.refl _ _
  refine own_s s₁ (mkF m 1 #[rv ob, rv oc, u_] [.int 0]) (fun t k => XS.iconst X0.here hx rfl (hb hby d3_0) k) ?_
  refine own_s s₁ (mkF m 2 #[rv ob, rv oc, iv 0] []) (fun t k => XS.istoreN X0.here hx rfl (hb hby d3_1) rfl (l' := #[rv ob, rv oc, iv 0]) rfl k) ?_
  refine own_s s₁ (mkF m 3 #[rv ob, rv oc, iv 0] [.int 0]) (fun t k => XS.iloadN X0.here hx rfl (hb hby d3_2) rfl k) ?_
  refine own_s s₁ (mkF m 4 #[rv ob, rv oc, iv 0] [.ref ob, .int 0]) (fun t k => XS.aloadN X0.here hx rfl (hb hby d3_3) rfl rfl k) ?_
  obtain ⟨T1, X1, e1, st1⟩ := getF X0 hx hZ hown (host := "") (Or.inl (hW 10 _ rfl)) Via.refl e0 F_0 (g := (mkF m 4 #[rv ob, rv oc, iv 0] [.ref ob, .int 0])) rfl rfl (hb hby d3_4)
  refine own_s T1 (mkF m 7 #[rv ob, rv oc, iv 0] [.ref ma0, .int 0]) st1 ?_
  obtain ⟨cl2, Ar2, qa2, S2, M2, H2, U2⟩ := id F_12
  have ln2 := len_of S2 M2
  refine own_s T1 (mkF m 8 #[rv ob, rv oc, iv 0] [.int 2, .int 0]) (fun t k => X1.arraylength hx (cell := cl2) (by rw [e1]; exact Ar2.1) (State.isArrayOf_alike hZ.alike Ar2.2.1) (g := (mkF m 7 #[rv ob, rv oc, iv 0] [.ref ma0, .int 0])) rfl rfl (hb hby d3_7) t (by rw [ln2]; exact k)) ?_
  refine own_s T1 (mkF m 11 #[rv ob, rv oc, iv 0] []) (fun t k => XS.icmpNo X1.here hx rfl (hb hby d3_8) rfl (tlt (by decide : ((0 : Int32) < (2 : Int32)))).2.1 k) ?_
  refine own_s T1 (mkF m 12 #[rv ob, rv oc, iv 0] [.ref ob]) (fun t k => XS.aloadN X1.here hx rfl (hb hby d3_11) rfl rfl k) ?_
  obtain ⟨T3, X3, e3, st3⟩ := getF X1 hx hZ hown (host := "") (Or.inl (hW 10 _ rfl)) Via.refl e1 F_0 (g := (mkF m 12 #[rv ob, rv oc, iv 0] [.ref ob])) rfl rfl (hb hby d3_12)
  refine own_s T3 (mkF m 15 #[rv ob, rv oc, iv 0] [.ref ma0]) st3 ?_
  refine own_s T3 (mkF m 16 #[rv ob, rv oc, iv 0] [.int 0, .ref ma0]) (fun t k => XS.iloadN X3.here hx rfl (hb hby d3_15) rfl k) ?_
  refine own_s T3 (mkF m 17 #[rv ob, rv oc, iv 0] [.int 0, .ref ma0, .int 0, .ref ma0]) (fun t k => XT.dup2 X3.here hx rfl (hb hby d3_16) rfl rfl rfl k) ?_
  obtain ⟨cl4, Ar4, qa4, S4, M4, H4, U4⟩ := id F_12
  have hi4 := inb_of S4 (j := (0 : Int32)) ⟨by decide, by decide⟩
  have hat4 := H4.at hi4 (v := (.long x00)) rfl
  refine own_s T3 (mkF m 18 #[rv ob, rv oc, iv 0] [.long x00, .int 0, .ref ma0]) (fun t k => X3.laload hx (j := (0 : Int32)) (v := (.long x00)) (by rw [e3]; exact Ar4.1) (State.isArrayOf_alike hZ.alike Ar4.2.1) Ar4.2.2 hi4 hat4 (g := (mkF m 17 #[rv ob, rv oc, iv 0] [.int 0, .ref ma0, .int 0, .ref ma0])) rfl rfl (hb hby d3_17) t k) ?_
  refine own_s T3 (mkF m 19 #[rv ob, rv oc, iv 0] [.ref oc, .long x00, .int 0, .ref ma0]) (fun t k => XS.aloadN X3.here hx rfl (hb hby d3_18) rfl rfl k) ?_
  obtain ⟨T5, X5, e5, st5⟩ := getF X3 hx hZ hown (host := "") (Or.inl (hW 10 _ rfl)) Via.refl e3 F_6 (g := (mkF m 19 #[rv ob, rv oc, iv 0] [.ref oc, .long x00, .int 0, .ref ma0])) rfl rfl (hb hby d3_19)
  refine own_s T5 (mkF m 22 #[rv ob, rv oc, iv 0] [.ref oa0, .long x00, .int 0, .ref ma0]) st5 ?_
  refine own_s T5 (mkF m 23 #[rv ob, rv oc, iv 0] [.int 0, .ref oa0, .long x00, .int 0, .ref ma0]) (fun t k => XS.iloadN X5.here hx rfl (hb hby d3_22) rfl k) ?_
  obtain ⟨cl6, Ar6, qa6, S6, M6, H6, U6⟩ := id F_18
  have hi6 := inb_of S6 (j := (0 : Int32)) ⟨by decide, by decide⟩
  have hat6 := H6.at hi6 (v := (.long y00)) rfl
  refine own_s T5 (mkF m 24 #[rv ob, rv oc, iv 0] [.long y00, .long x00, .int 0, .ref ma0]) (fun t k => X5.laload hx (j := (0 : Int32)) (v := (.long y00)) (by rw [e5]; exact Ar6.1) (State.isArrayOf_alike hZ.alike Ar6.2.1) Ar6.2.2 hi6 hat6 (g := (mkF m 23 #[rv ob, rv oc, iv 0] [.int 0, .ref oa0, .long x00, .int 0, .ref ma0])) rfl rfl (hb hby d3_23) t k) ?_
  refine own_s T5 (mkF m 25 #[rv ob, rv oc, iv 0] [.long (x00 + y00), .int 0, .ref ma0]) (fun t k => XS.ladd X5.here hx rfl (hb hby d3_24) rfl k) ?_
  obtain ⟨cl7, Ar7, qa7, S7, M7, H7, U7⟩ := id F_12
  obtain ⟨T7, h7, X7, e7, W7, st7⟩ := stJ X5 hx hZ e5 Ar7 (j := (0 : Int32)) (inb_of S7 ⟨by decide, by decide⟩) (g := (mkF m 25 #[rv ob, rv oc, iv 0] [.long (x00 + y00), .int 0, .ref ma0])) rfl rfl (hb hby d3_25)
  have g8 := F_0.other W7 (Or.inl n_ob_ma0)
  have g9 := F_1.other W7 (Or.inl n_ob_ma0)
  have g10 := F_2.other W7 (Or.inl n_ob_ma0)
  have g11 := F_3.other W7 (Or.inl n_ob_ma0)
  have g12 := F_4.other W7 (Or.inl n_ob_ma0)
  have g13 := F_5.other W7 (Or.inl n_ob_ma0)
  have g14 := F_6.other W7 (Or.inl n_oc_ma0)
  have g15 := F_7.other W7 (Or.inl n_oc_ma0)
  have g16 := F_8.other W7 (Or.inl n_oc_ma0)
  have g17 := F_9.other W7 (Or.inl n_oc_ma0)
  have g18 := F_10.other W7 (Or.inl n_oc_ma0)
  have g19 := F_11.other W7 (Or.inl n_oc_ma0)
  have g20 : Arv Z h7 ma0 mk0 .long (2 : Int32) [(.long (x00 + y00)), (.long x01)] (.long (0 : Int64)) := Arv.set Ar7 qa7 S7 M7 H7 U7 rfl W7 0 rfl (Nat.le_of_ble_eq_true rfl)
  have g21 := F_13.other W7 (Ne.symm n_ma0_ma1)
  have g22 := F_14.other W7 (Ne.symm n_ma0_ma2)
  have g23 := F_15.other W7 (Ne.symm n_ma0_ma3)
  have g24 := F_16.other W7 (Ne.symm n_ma0_ma4)
  have g25 := F_17.other W7 (Ne.symm n_ma0_ma5)
  have g26 := F_18.other W7 (Ne.symm n_ma0_oa0)
  have g27 := F_19.other W7 (Ne.symm n_ma0_oa1)
  have g28 := F_20.other W7 (Ne.symm n_ma0_oa2)
  have g29 := F_21.other W7 (Ne.symm n_ma0_oa3)
  have g30 := F_22.other W7 (Ne.symm n_ma0_oa4)
  have g31 := F_23.other W7 (Ne.symm n_ma0_oa5)
  have K32 : Keep h0 h7 [ma0, ma1, ma2, ma3, ma4, ma5] := K0.wr W7 (Or.inl (List.mem_of_getElem? (i := 0) rfl))
  have N7 := Fr.snoc X7 N0 o_ma0
  have Z7 : n0 ≤ h7.size := (Nat.le_trans Z0 (Nat.le_of_eq W7.size.symm))
  refine own_s T7 (mkF m 26 #[rv ob, rv oc, iv 0] []) st7 ?_
  refine own_s T7 (mkF m 27 #[rv ob, rv oc, iv 0] [.ref ob]) (fun t k => XS.aloadN X7.here hx rfl (hb hby d3_26) rfl rfl k) ?_
  obtain ⟨T33, X33, e33, st33⟩ := getF X7 hx hZ hown (host := "") (Or.inl (hW 12 _ rfl)) Via.refl e7 g9 (g := (mkF m 27 #[rv ob, rv oc, iv 0] [.ref ob])) rfl rfl (hb hby d3_27)
  refine own_s T33 (mkF m 30 #[rv ob, rv oc, iv 0] [.ref ma1]) st33 ?_
  refine own_s T33 (mkF m 31 #[rv ob, rv oc, iv 0] [.int 0, .ref ma1]) (fun t k => XS.iloadN X33.here hx rfl (hb hby d3_30) rfl k) ?_
  refine own_s T33 (mkF m 32 #[rv ob, rv oc, iv 0] [.int 0, .ref ma1, .int 0, .ref ma1]) (fun t k => XT.dup2 X33.here hx rfl (hb hby d3_31) rfl rfl rfl k) ?_
  obtain ⟨cl34, Ar34, qa34, S34, M34, H34, U34⟩ := id g21
  have hi34 := inb_of S34 (j := (0 : Int32)) ⟨by decide, by decide⟩
  have hat34 := H34.at hi34 (v := (.long x10)) rfl
  refine own_s T33 (mkF m 33 #[rv ob, rv oc, iv 0] [.long x10, .int 0, .ref ma1]) (fun t k => X33.laload hx (j := (0 : Int32)) (v := (.long x10)) (by rw [e33]; exact Ar34.1) (State.isArrayOf_alike hZ.alike Ar34.2.1) Ar34.2.2 hi34 hat34 (g := (mkF m 32 #[rv ob, rv oc, iv 0] [.int 0, .ref ma1, .int 0, .ref ma1])) rfl rfl (hb hby d3_32) t k) ?_
  refine own_s T33 (mkF m 34 #[rv ob, rv oc, iv 0] [.ref oc, .long x10, .int 0, .ref ma1]) (fun t k => XS.aloadN X33.here hx rfl (hb hby d3_33) rfl rfl k) ?_
  obtain ⟨T35, X35, e35, st35⟩ := getF X33 hx hZ hown (host := "") (Or.inl (hW 12 _ rfl)) Via.refl e33 g15 (g := (mkF m 34 #[rv ob, rv oc, iv 0] [.ref oc, .long x10, .int 0, .ref ma1])) rfl rfl (hb hby d3_34)
  refine own_s T35 (mkF m 37 #[rv ob, rv oc, iv 0] [.ref oa1, .long x10, .int 0, .ref ma1]) st35 ?_
  refine own_s T35 (mkF m 38 #[rv ob, rv oc, iv 0] [.int 0, .ref oa1, .long x10, .int 0, .ref ma1]) (fun t k => XS.iloadN X35.here hx rfl (hb hby d3_37) rfl k) ?_
  obtain ⟨cl36, Ar36, qa36, S36, M36, H36, U36⟩ := id g27
  have hi36 := inb_of S36 (j := (0 : Int32)) ⟨by decide, by decide⟩
  have hat36 := H36.at hi36 (v := (.long y10)) rfl
  refine own_s T35 (mkF m 39 #[rv ob, rv oc, iv 0] [.long y10, .long x10, .int 0, .ref ma1]) (fun t k => X35.laload hx (j := (0 : Int32)) (v := (.long y10)) (by rw [e35]; exact Ar36.1) (State.isArrayOf_alike hZ.alike Ar36.2.1) Ar36.2.2 hi36 hat36 (g := (mkF m 38 #[rv ob, rv oc, iv 0] [.int 0, .ref oa1, .long x10, .int 0, .ref ma1])) rfl rfl (hb hby d3_38) t k) ?_
  refine own_s T35 (mkF m 40 #[rv ob, rv oc, iv 0] [.long (x10 + y10), .int 0, .ref ma1]) (fun t k => XS.ladd X35.here hx rfl (hb hby d3_39) rfl k) ?_
  obtain ⟨cl37, Ar37, qa37, S37, M37, H37, U37⟩ := id g21
  obtain ⟨T37, h37, X37, e37, W37, st37⟩ := stJ X35 hx hZ e35 Ar37 (j := (0 : Int32)) (inb_of S37 ⟨by decide, by decide⟩) (g := (mkF m 40 #[rv ob, rv oc, iv 0] [.long (x10 + y10), .int 0, .ref ma1])) rfl rfl (hb hby d3_40)
  have g38 := g8.other W37 (Or.inl n_ob_ma1)
  have g39 := g9.other W37 (Or.inl n_ob_ma1)
  have g40 := g10.other W37 (Or.inl n_ob_ma1)
  have g41 := g11.other W37 (Or.inl n_ob_ma1)
  have g42 := g12.other W37 (Or.inl n_ob_ma1)
  have g43 := g13.other W37 (Or.inl n_ob_ma1)
  have g44 := g14.other W37 (Or.inl n_oc_ma1)
  have g45 := g15.other W37 (Or.inl n_oc_ma1)
  have g46 := g16.other W37 (Or.inl n_oc_ma1)
  have g47 := g17.other W37 (Or.inl n_oc_ma1)
  have g48 := g18.other W37 (Or.inl n_oc_ma1)
  have g49 := g19.other W37 (Or.inl n_oc_ma1)
  have g50 := g20.other W37 n_ma0_ma1
  have g51 : Arv Z h37 ma1 mk1 .long (2 : Int32) [(.long (x10 + y10)), (.long x11)] (.long (0 : Int64)) := Arv.set Ar37 qa37 S37 M37 H37 U37 rfl W37 0 rfl (Nat.le_of_ble_eq_true rfl)
  have g52 := g22.other W37 (Ne.symm n_ma1_ma2)
  have g53 := g23.other W37 (Ne.symm n_ma1_ma3)
  have g54 := g24.other W37 (Ne.symm n_ma1_ma4)
  have g55 := g25.other W37 (Ne.symm n_ma1_ma5)
  have g56 := g26.other W37 (Ne.symm n_ma1_oa0)
  have g57 := g27.other W37 (Ne.symm n_ma1_oa1)
  have g58 := g28.other W37 (Ne.symm n_ma1_oa2)
  have g59 := g29.other W37 (Ne.symm n_ma1_oa3)
  have g60 := g30.other W37 (Ne.symm n_ma1_oa4)
  have g61 := g31.other W37 (Ne.symm n_ma1_oa5)
  have K62 : Keep h0 h37 [ma0, ma1, ma2, ma3, ma4, ma5] := K32.wr W37 (Or.inl (List.mem_of_getElem? (i := 1) rfl))
  have N37 := Fr.snoc X37 N7 o_ma1
  have Z37 : n0 ≤ h37.size := (Nat.le_trans Z7 (Nat.le_of_eq W37.size.symm))
  refine own_s T37 (mkF m 41 #[rv ob, rv oc, iv 0] []) st37 ?_
  refine own_s T37 (mkF m 42 #[rv ob, rv oc, iv 0] [.ref ob]) (fun t k => XS.aloadN X37.here hx rfl (hb hby d3_41) rfl rfl k) ?_
  obtain ⟨T63, X63, e63, st63⟩ := getF X37 hx hZ hown (host := "") (Or.inl (hW 14 _ rfl)) Via.refl e37 g40 (g := (mkF m 42 #[rv ob, rv oc, iv 0] [.ref ob])) rfl rfl (hb hby d3_42)
  refine own_s T63 (mkF m 45 #[rv ob, rv oc, iv 0] [.ref ma2]) st63 ?_
  refine own_s T63 (mkF m 46 #[rv ob, rv oc, iv 0] [.int 0, .ref ma2]) (fun t k => XS.iloadN X63.here hx rfl (hb hby d3_45) rfl k) ?_
  refine own_s T63 (mkF m 47 #[rv ob, rv oc, iv 0] [.int 0, .ref ma2, .int 0, .ref ma2]) (fun t k => XT.dup2 X63.here hx rfl (hb hby d3_46) rfl rfl rfl k) ?_
  obtain ⟨cl64, Ar64, qa64, S64, M64, H64, U64⟩ := id g52
  have hi64 := inb_of S64 (j := (0 : Int32)) ⟨by decide, by decide⟩
  have hat64 := H64.at hi64 (v := (.long x20)) rfl
  refine own_s T63 (mkF m 48 #[rv ob, rv oc, iv 0] [.long x20, .int 0, .ref ma2]) (fun t k => X63.laload hx (j := (0 : Int32)) (v := (.long x20)) (by rw [e63]; exact Ar64.1) (State.isArrayOf_alike hZ.alike Ar64.2.1) Ar64.2.2 hi64 hat64 (g := (mkF m 47 #[rv ob, rv oc, iv 0] [.int 0, .ref ma2, .int 0, .ref ma2])) rfl rfl (hb hby d3_47) t k) ?_
  refine own_s T63 (mkF m 49 #[rv ob, rv oc, iv 0] [.ref oc, .long x20, .int 0, .ref ma2]) (fun t k => XS.aloadN X63.here hx rfl (hb hby d3_48) rfl rfl k) ?_
  obtain ⟨T65, X65, e65, st65⟩ := getF X63 hx hZ hown (host := "") (Or.inl (hW 14 _ rfl)) Via.refl e63 g46 (g := (mkF m 49 #[rv ob, rv oc, iv 0] [.ref oc, .long x20, .int 0, .ref ma2])) rfl rfl (hb hby d3_49)
  refine own_s T65 (mkF m 52 #[rv ob, rv oc, iv 0] [.ref oa2, .long x20, .int 0, .ref ma2]) st65 ?_
  refine own_s T65 (mkF m 53 #[rv ob, rv oc, iv 0] [.int 0, .ref oa2, .long x20, .int 0, .ref ma2]) (fun t k => XS.iloadN X65.here hx rfl (hb hby d3_52) rfl k) ?_
  obtain ⟨cl66, Ar66, qa66, S66, M66, H66, U66⟩ := id g58
  have hi66 := inb_of S66 (j := (0 : Int32)) ⟨by decide, by decide⟩
  have hat66 := H66.at hi66 (v := (.long y20)) rfl
  refine own_s T65 (mkF m 54 #[rv ob, rv oc, iv 0] [.long y20, .long x20, .int 0, .ref ma2]) (fun t k => X65.laload hx (j := (0 : Int32)) (v := (.long y20)) (by rw [e65]; exact Ar66.1) (State.isArrayOf_alike hZ.alike Ar66.2.1) Ar66.2.2 hi66 hat66 (g := (mkF m 53 #[rv ob, rv oc, iv 0] [.int 0, .ref oa2, .long x20, .int 0, .ref ma2])) rfl rfl (hb hby d3_53) t k) ?_
  refine own_s T65 (mkF m 55 #[rv ob, rv oc, iv 0] [.long (x20 + y20), .int 0, .ref ma2]) (fun t k => XS.ladd X65.here hx rfl (hb hby d3_54) rfl k) ?_
  obtain ⟨cl67, Ar67, qa67, S67, M67, H67, U67⟩ := id g52
  obtain ⟨T67, h67, X67, e67, W67, st67⟩ := stJ X65 hx hZ e65 Ar67 (j := (0 : Int32)) (inb_of S67 ⟨by decide, by decide⟩) (g := (mkF m 55 #[rv ob, rv oc, iv 0] [.long (x20 + y20), .int 0, .ref ma2])) rfl rfl (hb hby d3_55)
  have g68 := g38.other W67 (Or.inl n_ob_ma2)
  have g69 := g39.other W67 (Or.inl n_ob_ma2)
  have g70 := g40.other W67 (Or.inl n_ob_ma2)
  have g71 := g41.other W67 (Or.inl n_ob_ma2)
  have g72 := g42.other W67 (Or.inl n_ob_ma2)
  have g73 := g43.other W67 (Or.inl n_ob_ma2)
  have g74 := g44.other W67 (Or.inl n_oc_ma2)
  have g75 := g45.other W67 (Or.inl n_oc_ma2)
  have g76 := g46.other W67 (Or.inl n_oc_ma2)
  have g77 := g47.other W67 (Or.inl n_oc_ma2)
  have g78 := g48.other W67 (Or.inl n_oc_ma2)
  have g79 := g49.other W67 (Or.inl n_oc_ma2)
  have g80 := g50.other W67 n_ma0_ma2
  have g81 := g51.other W67 n_ma1_ma2
  have g82 : Arv Z h67 ma2 mk2 .long (2 : Int32) [(.long (x20 + y20)), (.long x21)] (.long (0 : Int64)) := Arv.set Ar67 qa67 S67 M67 H67 U67 rfl W67 0 rfl (Nat.le_of_ble_eq_true rfl)
  have g83 := g53.other W67 (Ne.symm n_ma2_ma3)
  have g84 := g54.other W67 (Ne.symm n_ma2_ma4)
  have g85 := g55.other W67 (Ne.symm n_ma2_ma5)
  have g86 := g56.other W67 (Ne.symm n_ma2_oa0)
  have g87 := g57.other W67 (Ne.symm n_ma2_oa1)
  have g88 := g58.other W67 (Ne.symm n_ma2_oa2)
  have g89 := g59.other W67 (Ne.symm n_ma2_oa3)
  have g90 := g60.other W67 (Ne.symm n_ma2_oa4)
  have g91 := g61.other W67 (Ne.symm n_ma2_oa5)
  have K92 : Keep h0 h67 [ma0, ma1, ma2, ma3, ma4, ma5] := K62.wr W67 (Or.inl (List.mem_of_getElem? (i := 2) rfl))
  have N67 := Fr.snoc X67 N37 o_ma2
  have Z67 : n0 ≤ h67.size := (Nat.le_trans Z37 (Nat.le_of_eq W67.size.symm))
  refine own_s T67 (mkF m 56 #[rv ob, rv oc, iv 0] []) st67 ?_
  refine own_s T67 (mkF m 57 #[rv ob, rv oc, iv 0] [.ref ob]) (fun t k => XS.aloadN X67.here hx rfl (hb hby d3_56) rfl rfl k) ?_
  obtain ⟨T93, X93, e93, st93⟩ := getF X67 hx hZ hown (host := "") (Or.inl (hW 16 _ rfl)) Via.refl e67 g71 (g := (mkF m 57 #[rv ob, rv oc, iv 0] [.ref ob])) rfl rfl (hb hby d3_57)
  refine own_s T93 (mkF m 60 #[rv ob, rv oc, iv 0] [.ref ma3]) st93 ?_
  refine own_s T93 (mkF m 61 #[rv ob, rv oc, iv 0] [.int 0, .ref ma3]) (fun t k => XS.iloadN X93.here hx rfl (hb hby d3_60) rfl k) ?_
  refine own_s T93 (mkF m 62 #[rv ob, rv oc, iv 0] [.int 0, .ref ma3, .int 0, .ref ma3]) (fun t k => XT.dup2 X93.here hx rfl (hb hby d3_61) rfl rfl rfl k) ?_
  obtain ⟨cl94, Ar94, qa94, S94, M94, H94, U94⟩ := id g83
  have hi94 := inb_of S94 (j := (0 : Int32)) ⟨by decide, by decide⟩
  have hat94 := H94.at hi94 (v := (.long x30)) rfl
  refine own_s T93 (mkF m 63 #[rv ob, rv oc, iv 0] [.long x30, .int 0, .ref ma3]) (fun t k => X93.laload hx (j := (0 : Int32)) (v := (.long x30)) (by rw [e93]; exact Ar94.1) (State.isArrayOf_alike hZ.alike Ar94.2.1) Ar94.2.2 hi94 hat94 (g := (mkF m 62 #[rv ob, rv oc, iv 0] [.int 0, .ref ma3, .int 0, .ref ma3])) rfl rfl (hb hby d3_62) t k) ?_
  refine own_s T93 (mkF m 64 #[rv ob, rv oc, iv 0] [.ref oc, .long x30, .int 0, .ref ma3]) (fun t k => XS.aloadN X93.here hx rfl (hb hby d3_63) rfl rfl k) ?_
  obtain ⟨T95, X95, e95, st95⟩ := getF X93 hx hZ hown (host := "") (Or.inl (hW 16 _ rfl)) Via.refl e93 g77 (g := (mkF m 64 #[rv ob, rv oc, iv 0] [.ref oc, .long x30, .int 0, .ref ma3])) rfl rfl (hb hby d3_64)
  refine own_s T95 (mkF m 67 #[rv ob, rv oc, iv 0] [.ref oa3, .long x30, .int 0, .ref ma3]) st95 ?_
  refine own_s T95 (mkF m 68 #[rv ob, rv oc, iv 0] [.int 0, .ref oa3, .long x30, .int 0, .ref ma3]) (fun t k => XS.iloadN X95.here hx rfl (hb hby d3_67) rfl k) ?_
  obtain ⟨cl96, Ar96, qa96, S96, M96, H96, U96⟩ := id g89
  have hi96 := inb_of S96 (j := (0 : Int32)) ⟨by decide, by decide⟩
  have hat96 := H96.at hi96 (v := (.long y30)) rfl
  refine own_s T95 (mkF m 69 #[rv ob, rv oc, iv 0] [.long y30, .long x30, .int 0, .ref ma3]) (fun t k => X95.laload hx (j := (0 : Int32)) (v := (.long y30)) (by rw [e95]; exact Ar96.1) (State.isArrayOf_alike hZ.alike Ar96.2.1) Ar96.2.2 hi96 hat96 (g := (mkF m 68 #[rv ob, rv oc, iv 0] [.int 0, .ref oa3, .long x30, .int 0, .ref ma3])) rfl rfl (hb hby d3_68) t k) ?_
  refine own_s T95 (mkF m 70 #[rv ob, rv oc, iv 0] [.long (x30 + y30), .int 0, .ref ma3]) (fun t k => XS.ladd X95.here hx rfl (hb hby d3_69) rfl k) ?_
  obtain ⟨cl97, Ar97, qa97, S97, M97, H97, U97⟩ := id g83
  obtain ⟨T97, h97, X97, e97, W97, st97⟩ := stJ X95 hx hZ e95 Ar97 (j := (0 : Int32)) (inb_of S97 ⟨by decide, by decide⟩) (g := (mkF m 70 #[rv ob, rv oc, iv 0] [.long (x30 + y30), .int 0, .ref ma3])) rfl rfl (hb hby d3_70)
  have g98 := g68.other W97 (Or.inl n_ob_ma3)
  have g99 := g69.other W97 (Or.inl n_ob_ma3)
  have g100 := g70.other W97 (Or.inl n_ob_ma3)
  have g101 := g71.other W97 (Or.inl n_ob_ma3)
  have g102 := g72.other W97 (Or.inl n_ob_ma3)
  have g103 := g73.other W97 (Or.inl n_ob_ma3)
  have g104 := g74.other W97 (Or.inl n_oc_ma3)
  have g105 := g75.other W97 (Or.inl n_oc_ma3)
  have g106 := g76.other W97 (Or.inl n_oc_ma3)
  have g107 := g77.other W97 (Or.inl n_oc_ma3)
  have g108 := g78.other W97 (Or.inl n_oc_ma3)
  have g109 := g79.other W97 (Or.inl n_oc_ma3)
  have g110 := g80.other W97 n_ma0_ma3
  have g111 := g81.other W97 n_ma1_ma3
  have g112 := g82.other W97 n_ma2_ma3
  have g113 : Arv Z h97 ma3 mk3 .long (2 : Int32) [(.long (x30 + y30)), (.long x31)] (.long (0 : Int64)) := Arv.set Ar97 qa97 S97 M97 H97 U97 rfl W97 0 rfl (Nat.le_of_ble_eq_true rfl)
  have g114 := g84.other W97 (Ne.symm n_ma3_ma4)
  have g115 := g85.other W97 (Ne.symm n_ma3_ma5)
  have g116 := g86.other W97 (Ne.symm n_ma3_oa0)
  have g117 := g87.other W97 (Ne.symm n_ma3_oa1)
  have g118 := g88.other W97 (Ne.symm n_ma3_oa2)
  have g119 := g89.other W97 (Ne.symm n_ma3_oa3)
  have g120 := g90.other W97 (Ne.symm n_ma3_oa4)
  have g121 := g91.other W97 (Ne.symm n_ma3_oa5)
  have K122 : Keep h0 h97 [ma0, ma1, ma2, ma3, ma4, ma5] := K92.wr W97 (Or.inl (List.mem_of_getElem? (i := 3) rfl))
  have N97 := Fr.snoc X97 N67 o_ma3
  have Z97 : n0 ≤ h97.size := (Nat.le_trans Z67 (Nat.le_of_eq W97.size.symm))
  refine own_s T97 (mkF m 71 #[rv ob, rv oc, iv 0] []) st97 ?_
  refine own_s T97 (mkF m 72 #[rv ob, rv oc, iv 0] [.ref ob]) (fun t k => XS.aloadN X97.here hx rfl (hb hby d3_71) rfl rfl k) ?_
  obtain ⟨T123, X123, e123, st123⟩ := getF X97 hx hZ hown (host := "") (Or.inl (hW 18 _ rfl)) Via.refl e97 g102 (g := (mkF m 72 #[rv ob, rv oc, iv 0] [.ref ob])) rfl rfl (hb hby d3_72)
  refine own_s T123 (mkF m 75 #[rv ob, rv oc, iv 0] [.ref ma4]) st123 ?_
  refine own_s T123 (mkF m 76 #[rv ob, rv oc, iv 0] [.int 0, .ref ma4]) (fun t k => XS.iloadN X123.here hx rfl (hb hby d3_75) rfl k) ?_
  refine own_s T123 (mkF m 77 #[rv ob, rv oc, iv 0] [.int 0, .ref ma4, .int 0, .ref ma4]) (fun t k => XT.dup2 X123.here hx rfl (hb hby d3_76) rfl rfl rfl k) ?_
  obtain ⟨cl124, Ar124, qa124, S124, M124, H124, U124⟩ := id g114
  have hi124 := inb_of S124 (j := (0 : Int32)) ⟨by decide, by decide⟩
  have hat124 := H124.at hi124 (v := (.long x40)) rfl
  refine own_s T123 (mkF m 78 #[rv ob, rv oc, iv 0] [.long x40, .int 0, .ref ma4]) (fun t k => X123.laload hx (j := (0 : Int32)) (v := (.long x40)) (by rw [e123]; exact Ar124.1) (State.isArrayOf_alike hZ.alike Ar124.2.1) Ar124.2.2 hi124 hat124 (g := (mkF m 77 #[rv ob, rv oc, iv 0] [.int 0, .ref ma4, .int 0, .ref ma4])) rfl rfl (hb hby d3_77) t k) ?_
  refine own_s T123 (mkF m 79 #[rv ob, rv oc, iv 0] [.ref oc, .long x40, .int 0, .ref ma4]) (fun t k => XS.aloadN X123.here hx rfl (hb hby d3_78) rfl rfl k) ?_
  obtain ⟨T125, X125, e125, st125⟩ := getF X123 hx hZ hown (host := "") (Or.inl (hW 18 _ rfl)) Via.refl e123 g108 (g := (mkF m 79 #[rv ob, rv oc, iv 0] [.ref oc, .long x40, .int 0, .ref ma4])) rfl rfl (hb hby d3_79)
  refine own_s T125 (mkF m 82 #[rv ob, rv oc, iv 0] [.ref oa4, .long x40, .int 0, .ref ma4]) st125 ?_
  refine own_s T125 (mkF m 83 #[rv ob, rv oc, iv 0] [.int 0, .ref oa4, .long x40, .int 0, .ref ma4]) (fun t k => XS.iloadN X125.here hx rfl (hb hby d3_82) rfl k) ?_
  obtain ⟨cl126, Ar126, qa126, S126, M126, H126, U126⟩ := id g120
  have hi126 := inb_of S126 (j := (0 : Int32)) ⟨by decide, by decide⟩
  have hat126 := H126.at hi126 (v := (.long y40)) rfl
  refine own_s T125 (mkF m 84 #[rv ob, rv oc, iv 0] [.long y40, .long x40, .int 0, .ref ma4]) (fun t k => X125.laload hx (j := (0 : Int32)) (v := (.long y40)) (by rw [e125]; exact Ar126.1) (State.isArrayOf_alike hZ.alike Ar126.2.1) Ar126.2.2 hi126 hat126 (g := (mkF m 83 #[rv ob, rv oc, iv 0] [.int 0, .ref oa4, .long x40, .int 0, .ref ma4])) rfl rfl (hb hby d3_83) t k) ?_
  refine own_s T125 (mkF m 85 #[rv ob, rv oc, iv 0] [.long (x40 + y40), .int 0, .ref ma4]) (fun t k => XS.ladd X125.here hx rfl (hb hby d3_84) rfl k) ?_
  obtain ⟨cl127, Ar127, qa127, S127, M127, H127, U127⟩ := id g114
  obtain ⟨T127, h127, X127, e127, W127, st127⟩ := stJ X125 hx hZ e125 Ar127 (j := (0 : Int32)) (inb_of S127 ⟨by decide, by decide⟩) (g := (mkF m 85 #[rv ob, rv oc, iv 0] [.long (x40 + y40), .int 0, .ref ma4])) rfl rfl (hb hby d3_85)
  have g128 := g98.other W127 (Or.inl n_ob_ma4)
  have g129 := g99.other W127 (Or.inl n_ob_ma4)
  have g130 := g100.other W127 (Or.inl n_ob_ma4)
  have g131 := g101.other W127 (Or.inl n_ob_ma4)
  have g132 := g102.other W127 (Or.inl n_ob_ma4)
  have g133 := g103.other W127 (Or.inl n_ob_ma4)
  have g134 := g104.other W127 (Or.inl n_oc_ma4)
  have g135 := g105.other W127 (Or.inl n_oc_ma4)
  have g136 := g106.other W127 (Or.inl n_oc_ma4)
  have g137 := g107.other W127 (Or.inl n_oc_ma4)
  have g138 := g108.other W127 (Or.inl n_oc_ma4)
  have g139 := g109.other W127 (Or.inl n_oc_ma4)
  have g140 := g110.other W127 n_ma0_ma4
  have g141 := g111.other W127 n_ma1_ma4
  have g142 := g112.other W127 n_ma2_ma4
  have g143 := g113.other W127 n_ma3_ma4
  have g144 : Arv Z h127 ma4 mk4 .long (2 : Int32) [(.long (x40 + y40)), (.long x41)] (.long (0 : Int64)) := Arv.set Ar127 qa127 S127 M127 H127 U127 rfl W127 0 rfl (Nat.le_of_ble_eq_true rfl)
  have g145 := g115.other W127 (Ne.symm n_ma4_ma5)
  have g146 := g116.other W127 (Ne.symm n_ma4_oa0)
  have g147 := g117.other W127 (Ne.symm n_ma4_oa1)
  have g148 := g118.other W127 (Ne.symm n_ma4_oa2)
  have g149 := g119.other W127 (Ne.symm n_ma4_oa3)
  have g150 := g120.other W127 (Ne.symm n_ma4_oa4)
  have g151 := g121.other W127 (Ne.symm n_ma4_oa5)
  have K152 : Keep h0 h127 [ma0, ma1, ma2, ma3, ma4, ma5] := K122.wr W127 (Or.inl (List.mem_of_getElem? (i := 4) rfl))
  have N127 := Fr.snoc X127 N97 o_ma4
  have Z127 : n0 ≤ h127.size := (Nat.le_trans Z97 (Nat.le_of_eq W127.size.symm))
  refine own_s T127 (mkF m 86 #[rv ob, rv oc, iv 0] []) st127 ?_
  refine own_s T127 (mkF m 87 #[rv ob, rv oc, iv 0] [.ref ob]) (fun t k => XS.aloadN X127.here hx rfl (hb hby d3_86) rfl rfl k) ?_
  obtain ⟨T153, X153, e153, st153⟩ := getF X127 hx hZ hown (host := "") (Or.inl (hW 21 _ rfl)) Via.refl e127 g133 (g := (mkF m 87 #[rv ob, rv oc, iv 0] [.ref ob])) rfl rfl (hb hby d3_87)
  refine own_s T153 (mkF m 90 #[rv ob, rv oc, iv 0] [.ref ma5]) st153 ?_
  refine own_s T153 (mkF m 91 #[rv ob, rv oc, iv 0] [.int 0, .ref ma5]) (fun t k => XS.iloadN X153.here hx rfl (hb hby d3_90) rfl k) ?_
  refine own_s T153 (mkF m 92 #[rv ob, rv oc, iv 0] [.int 0, .ref ma5, .int 0, .ref ma5]) (fun t k => XT.dup2 X153.here hx rfl (hb hby d3_91) rfl rfl rfl k) ?_
  obtain ⟨cl154, Ar154, qa154, S154, M154, H154, U154⟩ := id g145
  have hi154 := inb_of S154 (j := (0 : Int32)) ⟨by decide, by decide⟩
  have hat154 := H154.at hi154 (v := (.double (FP.l2d x50))) rfl
  refine own_s T153 (mkF m 93 #[rv ob, rv oc, iv 0] [(.double (FP.l2d x50)), .int 0, .ref ma5]) (fun t k => X153.daload hx (j := (0 : Int32)) (v := (.double (FP.l2d x50))) (by rw [e153]; exact Ar154.1) (State.isArrayOf_alike hZ.alike Ar154.2.1) Ar154.2.2 hi154 hat154 (g := (mkF m 92 #[rv ob, rv oc, iv 0] [.int 0, .ref ma5, .int 0, .ref ma5])) rfl rfl (hb hby d3_92) t k) ?_
  refine own_s T153 (mkF m 94 #[rv ob, rv oc, iv 0] [.ref oc, (.double (FP.l2d x50)), .int 0, .ref ma5]) (fun t k => XS.aloadN X153.here hx rfl (hb hby d3_93) rfl rfl k) ?_
  obtain ⟨T155, X155, e155, st155⟩ := getF X153 hx hZ hown (host := "") (Or.inl (hW 21 _ rfl)) Via.refl e153 g139 (g := (mkF m 94 #[rv ob, rv oc, iv 0] [.ref oc, (.double (FP.l2d x50)), .int 0, .ref ma5])) rfl rfl (hb hby d3_94)
  refine own_s T155 (mkF m 97 #[rv ob, rv oc, iv 0] [.ref oa5, (.double (FP.l2d x50)), .int 0, .ref ma5]) st155 ?_
  refine own_s T155 (mkF m 98 #[rv ob, rv oc, iv 0] [.int 0, .ref oa5, (.double (FP.l2d x50)), .int 0, .ref ma5]) (fun t k => XS.iloadN X155.here hx rfl (hb hby d3_97) rfl k) ?_
  obtain ⟨cl156, Ar156, qa156, S156, M156, H156, U156⟩ := id g151
  have hi156 := inb_of S156 (j := (0 : Int32)) ⟨by decide, by decide⟩
  have hat156 := H156.at hi156 (v := (.double (FP.l2d y50))) rfl
  refine own_s T155 (mkF m 99 #[rv ob, rv oc, iv 0] [(.double (FP.l2d y50)), (.double (FP.l2d x50)), .int 0, .ref ma5]) (fun t k => X155.daload hx (j := (0 : Int32)) (v := (.double (FP.l2d y50))) (by rw [e155]; exact Ar156.1) (State.isArrayOf_alike hZ.alike Ar156.2.1) Ar156.2.2 hi156 hat156 (g := (mkF m 98 #[rv ob, rv oc, iv 0] [.int 0, .ref oa5, (.double (FP.l2d x50)), .int 0, .ref ma5])) rfl rfl (hb hby d3_98) t k) ?_
  refine own_s T155 (mkF m 100 #[rv ob, rv oc, iv 0] [(.double (FP.l2d (x50 + y50))), .int 0, .ref ma5]) (fun t k => XS.daddS X155.here hx rfl (hb hby d3_99) rfl (nn_w (dadd_w hb_x50 hb_y50)) (dadd_w hb_x50 hb_y50) k) ?_
  obtain ⟨cl157, Ar157, qa157, S157, M157, H157, U157⟩ := id g145
  obtain ⟨T157, h157, X157, e157, W157, st157⟩ := stD X155 hx hZ e155 Ar157 (j := (0 : Int32)) (inb_of S157 ⟨by decide, by decide⟩) (g := (mkF m 100 #[rv ob, rv oc, iv 0] [(.double (FP.l2d (x50 + y50))), .int 0, .ref ma5])) rfl rfl (hb hby d3_100)
  have g158 := g128.other W157 (Or.inl n_ob_ma5)
  have g159 := g129.other W157 (Or.inl n_ob_ma5)
  have g160 := g130.other W157 (Or.inl n_ob_ma5)
  have g161 := g131.other W157 (Or.inl n_ob_ma5)
  have g162 := g132.other W157 (Or.inl n_ob_ma5)
  have g163 := g133.other W157 (Or.inl n_ob_ma5)
  have g164 := g134.other W157 (Or.inl n_oc_ma5)
  have g165 := g135.other W157 (Or.inl n_oc_ma5)
  have g166 := g136.other W157 (Or.inl n_oc_ma5)
  have g167 := g137.other W157 (Or.inl n_oc_ma5)
  have g168 := g138.other W157 (Or.inl n_oc_ma5)
  have g169 := g139.other W157 (Or.inl n_oc_ma5)
  have g170 := g140.other W157 n_ma0_ma5
  have g171 := g141.other W157 n_ma1_ma5
  have g172 := g142.other W157 n_ma2_ma5
  have g173 := g143.other W157 n_ma3_ma5
  have g174 := g144.other W157 n_ma4_ma5
  have g175 : Arv Z h157 ma5 mk5 .double (2 : Int32) [(.double (FP.l2d (x50 + y50))), (.double (FP.l2d x51))] (.double (FP.l2d 0)) := Arv.set Ar157 qa157 S157 M157 H157 U157 rfl W157 0 rfl (Nat.le_of_ble_eq_true rfl)
  have g176 := g146.other W157 (Ne.symm n_ma5_oa0)
  have g177 := g147.other W157 (Ne.symm n_ma5_oa1)
  have g178 := g148.other W157 (Ne.symm n_ma5_oa2)
  have g179 := g149.other W157 (Ne.symm n_ma5_oa3)
  have g180 := g150.other W157 (Ne.symm n_ma5_oa4)
  have g181 := g151.other W157 (Ne.symm n_ma5_oa5)
  have K182 : Keep h0 h157 [ma0, ma1, ma2, ma3, ma4, ma5] := K152.wr W157 (Or.inl (List.mem_of_getElem? (i := 5) rfl))
  have N157 := Fr.snoc X157 N127 o_ma5
  have Z157 : n0 ≤ h157.size := (Nat.le_trans Z127 (Nat.le_of_eq W157.size.symm))
  refine own_s T157 (mkF m 101 #[rv ob, rv oc, iv 0] []) st157 ?_
  refine own_s T157 (mkF m 104 #[rv ob, rv oc, iv 1] []) (fun t k => XS.iinc X157.here hx rfl (hb hby d3_101) rfl (l' := #[rv ob, rv oc, iv 1]) rfl k) ?_
  refine own_s T157 (mkF m 2 #[rv ob, rv oc, iv 1] []) (fun t k => XS.goto X157.here hx rfl (pc0 := 104) (pc' := 2) rfl (hb hby d3_104) (by decide) (by decide) k) ?_
  refine own_s T157 (mkF m 3 #[rv ob, rv oc, iv 1] [.int 1]) (fun t k => XS.iloadN X157.here hx rfl (hb hby d3_2) rfl k) ?_
  refine own_s T157 (mkF m 4 #[rv ob, rv oc, iv 1] [.ref ob, .int 1]) (fun t k => XS.aloadN X157.here hx rfl (hb hby d3_3) rfl rfl k) ?_
  obtain ⟨T183, X183, e183, st183⟩ := getF X157 hx hZ hown (host := "") (Or.inl (hW 10 _ rfl)) Via.refl e157 g158 (g := (mkF m 4 #[rv ob, rv oc, iv 1] [.ref ob, .int 1])) rfl rfl (hb hby d3_4)
  refine own_s T183 (mkF m 7 #[rv ob, rv oc, iv 1] [.ref ma0, .int 1]) st183 ?_
  obtain ⟨cl184, Ar184, qa184, S184, M184, H184, U184⟩ := id g170
  have ln184 := len_of S184 M184
  refine own_s T183 (mkF m 8 #[rv ob, rv oc, iv 1] [.int 2, .int 1]) (fun t k => X183.arraylength hx (cell := cl184) (by rw [e183]; exact Ar184.1) (State.isArrayOf_alike hZ.alike Ar184.2.1) (g := (mkF m 7 #[rv ob, rv oc, iv 1] [.ref ma0, .int 1])) rfl rfl (hb hby d3_7) t (by rw [ln184]; exact k)) ?_
  refine own_s T183 (mkF m 11 #[rv ob, rv oc, iv 1] []) (fun t k => XS.icmpNo X183.here hx rfl (hb hby d3_8) rfl (tlt (by decide : ((1 : Int32) < (2 : Int32)))).2.1 k) ?_
  refine own_s T183 (mkF m 12 #[rv ob, rv oc, iv 1] [.ref ob]) (fun t k => XS.aloadN X183.here hx rfl (hb hby d3_11) rfl rfl k) ?_
  obtain ⟨T185, X185, e185, st185⟩ := getF X183 hx hZ hown (host := "") (Or.inl (hW 10 _ rfl)) Via.refl e183 g158 (g := (mkF m 12 #[rv ob, rv oc, iv 1] [.ref ob])) rfl rfl (hb hby d3_12)
  refine own_s T185 (mkF m 15 #[rv ob, rv oc, iv 1] [.ref ma0]) st185 ?_
  refine own_s T185 (mkF m 16 #[rv ob, rv oc, iv 1] [.int 1, .ref ma0]) (fun t k => XS.iloadN X185.here hx rfl (hb hby d3_15) rfl k) ?_
  refine own_s T185 (mkF m 17 #[rv ob, rv oc, iv 1] [.int 1, .ref ma0, .int 1, .ref ma0]) (fun t k => XT.dup2 X185.here hx rfl (hb hby d3_16) rfl rfl rfl k) ?_
  obtain ⟨cl186, Ar186, qa186, S186, M186, H186, U186⟩ := id g170
  have hi186 := inb_of S186 (j := (1 : Int32)) ⟨by decide, by decide⟩
  have hat186 := H186.at hi186 (v := (.long x01)) rfl
  refine own_s T185 (mkF m 18 #[rv ob, rv oc, iv 1] [.long x01, .int 1, .ref ma0]) (fun t k => X185.laload hx (j := (1 : Int32)) (v := (.long x01)) (by rw [e185]; exact Ar186.1) (State.isArrayOf_alike hZ.alike Ar186.2.1) Ar186.2.2 hi186 hat186 (g := (mkF m 17 #[rv ob, rv oc, iv 1] [.int 1, .ref ma0, .int 1, .ref ma0])) rfl rfl (hb hby d3_17) t k) ?_
  refine own_s T185 (mkF m 19 #[rv ob, rv oc, iv 1] [.ref oc, .long x01, .int 1, .ref ma0]) (fun t k => XS.aloadN X185.here hx rfl (hb hby d3_18) rfl rfl k) ?_
  obtain ⟨T187, X187, e187, st187⟩ := getF X185 hx hZ hown (host := "") (Or.inl (hW 10 _ rfl)) Via.refl e185 g164 (g := (mkF m 19 #[rv ob, rv oc, iv 1] [.ref oc, .long x01, .int 1, .ref ma0])) rfl rfl (hb hby d3_19)
  refine own_s T187 (mkF m 22 #[rv ob, rv oc, iv 1] [.ref oa0, .long x01, .int 1, .ref ma0]) st187 ?_
  refine own_s T187 (mkF m 23 #[rv ob, rv oc, iv 1] [.int 1, .ref oa0, .long x01, .int 1, .ref ma0]) (fun t k => XS.iloadN X187.here hx rfl (hb hby d3_22) rfl k) ?_
  obtain ⟨cl188, Ar188, qa188, S188, M188, H188, U188⟩ := id g176
  have hi188 := inb_of S188 (j := (1 : Int32)) ⟨by decide, by decide⟩
  have hat188 := H188.at hi188 (v := (.long y01)) rfl
  refine own_s T187 (mkF m 24 #[rv ob, rv oc, iv 1] [.long y01, .long x01, .int 1, .ref ma0]) (fun t k => X187.laload hx (j := (1 : Int32)) (v := (.long y01)) (by rw [e187]; exact Ar188.1) (State.isArrayOf_alike hZ.alike Ar188.2.1) Ar188.2.2 hi188 hat188 (g := (mkF m 23 #[rv ob, rv oc, iv 1] [.int 1, .ref oa0, .long x01, .int 1, .ref ma0])) rfl rfl (hb hby d3_23) t k) ?_
  refine own_s T187 (mkF m 25 #[rv ob, rv oc, iv 1] [.long (x01 + y01), .int 1, .ref ma0]) (fun t k => XS.ladd X187.here hx rfl (hb hby d3_24) rfl k) ?_
  obtain ⟨cl189, Ar189, qa189, S189, M189, H189, U189⟩ := id g170
  obtain ⟨T189, h189, X189, e189, W189, st189⟩ := stJ X187 hx hZ e187 Ar189 (j := (1 : Int32)) (inb_of S189 ⟨by decide, by decide⟩) (g := (mkF m 25 #[rv ob, rv oc, iv 1] [.long (x01 + y01), .int 1, .ref ma0])) rfl rfl (hb hby d3_25)
  have g190 := g158.other W189 (Or.inl n_ob_ma0)
  have g191 := g159.other W189 (Or.inl n_ob_ma0)
  have g192 := g160.other W189 (Or.inl n_ob_ma0)
  have g193 := g161.other W189 (Or.inl n_ob_ma0)
  have g194 := g162.other W189 (Or.inl n_ob_ma0)
  have g195 := g163.other W189 (Or.inl n_ob_ma0)
  have g196 := g164.other W189 (Or.inl n_oc_ma0)
  have g197 := g165.other W189 (Or.inl n_oc_ma0)
  have g198 := g166.other W189 (Or.inl n_oc_ma0)
  have g199 := g167.other W189 (Or.inl n_oc_ma0)
  have g200 := g168.other W189 (Or.inl n_oc_ma0)
  have g201 := g169.other W189 (Or.inl n_oc_ma0)
  have g202 : Arv Z h189 ma0 mk0 .long (2 : Int32) [(.long (x00 + y00)), (.long (x01 + y01))] (.long (0 : Int64)) := Arv.set Ar189 qa189 S189 M189 H189 U189 rfl W189 1 rfl (Nat.le_of_ble_eq_true rfl)
  have g203 := g171.other W189 (Ne.symm n_ma0_ma1)
  have g204 := g172.other W189 (Ne.symm n_ma0_ma2)
  have g205 := g173.other W189 (Ne.symm n_ma0_ma3)
  have g206 := g174.other W189 (Ne.symm n_ma0_ma4)
  have g207 := g175.other W189 (Ne.symm n_ma0_ma5)
  have g208 := g176.other W189 (Ne.symm n_ma0_oa0)
  have g209 := g177.other W189 (Ne.symm n_ma0_oa1)
  have g210 := g178.other W189 (Ne.symm n_ma0_oa2)
  have g211 := g179.other W189 (Ne.symm n_ma0_oa3)
  have g212 := g180.other W189 (Ne.symm n_ma0_oa4)
  have g213 := g181.other W189 (Ne.symm n_ma0_oa5)
  have K214 : Keep h0 h189 [ma0, ma1, ma2, ma3, ma4, ma5] := K182.wr W189 (Or.inl (List.mem_of_getElem? (i := 0) rfl))
  have N189 := Fr.snoc X189 N157 o_ma0
  have Z189 : n0 ≤ h189.size := (Nat.le_trans Z157 (Nat.le_of_eq W189.size.symm))
  refine own_s T189 (mkF m 26 #[rv ob, rv oc, iv 1] []) st189 ?_
  refine own_s T189 (mkF m 27 #[rv ob, rv oc, iv 1] [.ref ob]) (fun t k => XS.aloadN X189.here hx rfl (hb hby d3_26) rfl rfl k) ?_
  obtain ⟨T215, X215, e215, st215⟩ := getF X189 hx hZ hown (host := "") (Or.inl (hW 12 _ rfl)) Via.refl e189 g191 (g := (mkF m 27 #[rv ob, rv oc, iv 1] [.ref ob])) rfl rfl (hb hby d3_27)
  refine own_s T215 (mkF m 30 #[rv ob, rv oc, iv 1] [.ref ma1]) st215 ?_
  refine own_s T215 (mkF m 31 #[rv ob, rv oc, iv 1] [.int 1, .ref ma1]) (fun t k => XS.iloadN X215.here hx rfl (hb hby d3_30) rfl k) ?_
  refine own_s T215 (mkF m 32 #[rv ob, rv oc, iv 1] [.int 1, .ref ma1, .int 1, .ref ma1]) (fun t k => XT.dup2 X215.here hx rfl (hb hby d3_31) rfl rfl rfl k) ?_
  obtain ⟨cl216, Ar216, qa216, S216, M216, H216, U216⟩ := id g203
  have hi216 := inb_of S216 (j := (1 : Int32)) ⟨by decide, by decide⟩
  have hat216 := H216.at hi216 (v := (.long x11)) rfl
  refine own_s T215 (mkF m 33 #[rv ob, rv oc, iv 1] [.long x11, .int 1, .ref ma1]) (fun t k => X215.laload hx (j := (1 : Int32)) (v := (.long x11)) (by rw [e215]; exact Ar216.1) (State.isArrayOf_alike hZ.alike Ar216.2.1) Ar216.2.2 hi216 hat216 (g := (mkF m 32 #[rv ob, rv oc, iv 1] [.int 1, .ref ma1, .int 1, .ref ma1])) rfl rfl (hb hby d3_32) t k) ?_
  refine own_s T215 (mkF m 34 #[rv ob, rv oc, iv 1] [.ref oc, .long x11, .int 1, .ref ma1]) (fun t k => XS.aloadN X215.here hx rfl (hb hby d3_33) rfl rfl k) ?_
  obtain ⟨T217, X217, e217, st217⟩ := getF X215 hx hZ hown (host := "") (Or.inl (hW 12 _ rfl)) Via.refl e215 g197 (g := (mkF m 34 #[rv ob, rv oc, iv 1] [.ref oc, .long x11, .int 1, .ref ma1])) rfl rfl (hb hby d3_34)
  refine own_s T217 (mkF m 37 #[rv ob, rv oc, iv 1] [.ref oa1, .long x11, .int 1, .ref ma1]) st217 ?_
  refine own_s T217 (mkF m 38 #[rv ob, rv oc, iv 1] [.int 1, .ref oa1, .long x11, .int 1, .ref ma1]) (fun t k => XS.iloadN X217.here hx rfl (hb hby d3_37) rfl k) ?_
  obtain ⟨cl218, Ar218, qa218, S218, M218, H218, U218⟩ := id g209
  have hi218 := inb_of S218 (j := (1 : Int32)) ⟨by decide, by decide⟩
  have hat218 := H218.at hi218 (v := (.long y11)) rfl
  refine own_s T217 (mkF m 39 #[rv ob, rv oc, iv 1] [.long y11, .long x11, .int 1, .ref ma1]) (fun t k => X217.laload hx (j := (1 : Int32)) (v := (.long y11)) (by rw [e217]; exact Ar218.1) (State.isArrayOf_alike hZ.alike Ar218.2.1) Ar218.2.2 hi218 hat218 (g := (mkF m 38 #[rv ob, rv oc, iv 1] [.int 1, .ref oa1, .long x11, .int 1, .ref ma1])) rfl rfl (hb hby d3_38) t k) ?_
  refine own_s T217 (mkF m 40 #[rv ob, rv oc, iv 1] [.long (x11 + y11), .int 1, .ref ma1]) (fun t k => XS.ladd X217.here hx rfl (hb hby d3_39) rfl k) ?_
  obtain ⟨cl219, Ar219, qa219, S219, M219, H219, U219⟩ := id g203
  obtain ⟨T219, h219, X219, e219, W219, st219⟩ := stJ X217 hx hZ e217 Ar219 (j := (1 : Int32)) (inb_of S219 ⟨by decide, by decide⟩) (g := (mkF m 40 #[rv ob, rv oc, iv 1] [.long (x11 + y11), .int 1, .ref ma1])) rfl rfl (hb hby d3_40)
  have g220 := g190.other W219 (Or.inl n_ob_ma1)
  have g221 := g191.other W219 (Or.inl n_ob_ma1)
  have g222 := g192.other W219 (Or.inl n_ob_ma1)
  have g223 := g193.other W219 (Or.inl n_ob_ma1)
  have g224 := g194.other W219 (Or.inl n_ob_ma1)
  have g225 := g195.other W219 (Or.inl n_ob_ma1)
  have g226 := g196.other W219 (Or.inl n_oc_ma1)
  have g227 := g197.other W219 (Or.inl n_oc_ma1)
  have g228 := g198.other W219 (Or.inl n_oc_ma1)
  have g229 := g199.other W219 (Or.inl n_oc_ma1)
  have g230 := g200.other W219 (Or.inl n_oc_ma1)
  have g231 := g201.other W219 (Or.inl n_oc_ma1)
  have g232 := g202.other W219 n_ma0_ma1
  have g233 : Arv Z h219 ma1 mk1 .long (2 : Int32) [(.long (x10 + y10)), (.long (x11 + y11))] (.long (0 : Int64)) := Arv.set Ar219 qa219 S219 M219 H219 U219 rfl W219 1 rfl (Nat.le_of_ble_eq_true rfl)
  have g234 := g204.other W219 (Ne.symm n_ma1_ma2)
  have g235 := g205.other W219 (Ne.symm n_ma1_ma3)
  have g236 := g206.other W219 (Ne.symm n_ma1_ma4)
  have g237 := g207.other W219 (Ne.symm n_ma1_ma5)
  have g238 := g208.other W219 (Ne.symm n_ma1_oa0)
  have g239 := g209.other W219 (Ne.symm n_ma1_oa1)
  have g240 := g210.other W219 (Ne.symm n_ma1_oa2)
  have g241 := g211.other W219 (Ne.symm n_ma1_oa3)
  have g242 := g212.other W219 (Ne.symm n_ma1_oa4)
  have g243 := g213.other W219 (Ne.symm n_ma1_oa5)
  have K244 : Keep h0 h219 [ma0, ma1, ma2, ma3, ma4, ma5] := K214.wr W219 (Or.inl (List.mem_of_getElem? (i := 1) rfl))
  have N219 := Fr.snoc X219 N189 o_ma1
  have Z219 : n0 ≤ h219.size := (Nat.le_trans Z189 (Nat.le_of_eq W219.size.symm))
  refine own_s T219 (mkF m 41 #[rv ob, rv oc, iv 1] []) st219 ?_
  refine own_s T219 (mkF m 42 #[rv ob, rv oc, iv 1] [.ref ob]) (fun t k => XS.aloadN X219.here hx rfl (hb hby d3_41) rfl rfl k) ?_
  obtain ⟨T245, X245, e245, st245⟩ := getF X219 hx hZ hown (host := "") (Or.inl (hW 14 _ rfl)) Via.refl e219 g222 (g := (mkF m 42 #[rv ob, rv oc, iv 1] [.ref ob])) rfl rfl (hb hby d3_42)
  refine own_s T245 (mkF m 45 #[rv ob, rv oc, iv 1] [.ref ma2]) st245 ?_
  refine own_s T245 (mkF m 46 #[rv ob, rv oc, iv 1] [.int 1, .ref ma2]) (fun t k => XS.iloadN X245.here hx rfl (hb hby d3_45) rfl k) ?_
  refine own_s T245 (mkF m 47 #[rv ob, rv oc, iv 1] [.int 1, .ref ma2, .int 1, .ref ma2]) (fun t k => XT.dup2 X245.here hx rfl (hb hby d3_46) rfl rfl rfl k) ?_
  obtain ⟨cl246, Ar246, qa246, S246, M246, H246, U246⟩ := id g234
  have hi246 := inb_of S246 (j := (1 : Int32)) ⟨by decide, by decide⟩
  have hat246 := H246.at hi246 (v := (.long x21)) rfl
  refine own_s T245 (mkF m 48 #[rv ob, rv oc, iv 1] [.long x21, .int 1, .ref ma2]) (fun t k => X245.laload hx (j := (1 : Int32)) (v := (.long x21)) (by rw [e245]; exact Ar246.1) (State.isArrayOf_alike hZ.alike Ar246.2.1) Ar246.2.2 hi246 hat246 (g := (mkF m 47 #[rv ob, rv oc, iv 1] [.int 1, .ref ma2, .int 1, .ref ma2])) rfl rfl (hb hby d3_47) t k) ?_
  refine own_s T245 (mkF m 49 #[rv ob, rv oc, iv 1] [.ref oc, .long x21, .int 1, .ref ma2]) (fun t k => XS.aloadN X245.here hx rfl (hb hby d3_48) rfl rfl k) ?_
  obtain ⟨T247, X247, e247, st247⟩ := getF X245 hx hZ hown (host := "") (Or.inl (hW 14 _ rfl)) Via.refl e245 g228 (g := (mkF m 49 #[rv ob, rv oc, iv 1] [.ref oc, .long x21, .int 1, .ref ma2])) rfl rfl (hb hby d3_49)
  refine own_s T247 (mkF m 52 #[rv ob, rv oc, iv 1] [.ref oa2, .long x21, .int 1, .ref ma2]) st247 ?_
  refine own_s T247 (mkF m 53 #[rv ob, rv oc, iv 1] [.int 1, .ref oa2, .long x21, .int 1, .ref ma2]) (fun t k => XS.iloadN X247.here hx rfl (hb hby d3_52) rfl k) ?_
  obtain ⟨cl248, Ar248, qa248, S248, M248, H248, U248⟩ := id g240
  have hi248 := inb_of S248 (j := (1 : Int32)) ⟨by decide, by decide⟩
  have hat248 := H248.at hi248 (v := (.long y21)) rfl
  refine own_s T247 (mkF m 54 #[rv ob, rv oc, iv 1] [.long y21, .long x21, .int 1, .ref ma2]) (fun t k => X247.laload hx (j := (1 : Int32)) (v := (.long y21)) (by rw [e247]; exact Ar248.1) (State.isArrayOf_alike hZ.alike Ar248.2.1) Ar248.2.2 hi248 hat248 (g := (mkF m 53 #[rv ob, rv oc, iv 1] [.int 1, .ref oa2, .long x21, .int 1, .ref ma2])) rfl rfl (hb hby d3_53) t k) ?_
  refine own_s T247 (mkF m 55 #[rv ob, rv oc, iv 1] [.long (x21 + y21), .int 1, .ref ma2]) (fun t k => XS.ladd X247.here hx rfl (hb hby d3_54) rfl k) ?_
  obtain ⟨cl249, Ar249, qa249, S249, M249, H249, U249⟩ := id g234
  obtain ⟨T249, h249, X249, e249, W249, st249⟩ := stJ X247 hx hZ e247 Ar249 (j := (1 : Int32)) (inb_of S249 ⟨by decide, by decide⟩) (g := (mkF m 55 #[rv ob, rv oc, iv 1] [.long (x21 + y21), .int 1, .ref ma2])) rfl rfl (hb hby d3_55)
  have g250 := g220.other W249 (Or.inl n_ob_ma2)
  have g251 := g221.other W249 (Or.inl n_ob_ma2)
  have g252 := g222.other W249 (Or.inl n_ob_ma2)
  have g253 := g223.other W249 (Or.inl n_ob_ma2)
  have g254 := g224.other W249 (Or.inl n_ob_ma2)
  have g255 := g225.other W249 (Or.inl n_ob_ma2)
  have g256 := g226.other W249 (Or.inl n_oc_ma2)
  have g257 := g227.other W249 (Or.inl n_oc_ma2)
  have g258 := g228.other W249 (Or.inl n_oc_ma2)
  have g259 := g229.other W249 (Or.inl n_oc_ma2)
  have g260 := g230.other W249 (Or.inl n_oc_ma2)
  have g261 := g231.other W249 (Or.inl n_oc_ma2)
  have g262 := g232.other W249 n_ma0_ma2
  have g263 := g233.other W249 n_ma1_ma2
  have g264 : Arv Z h249 ma2 mk2 .long (2 : Int32) [(.long (x20 + y20)), (.long (x21 + y21))] (.long (0 : Int64)) := Arv.set Ar249 qa249 S249 M249 H249 U249 rfl W249 1 rfl (Nat.le_of_ble_eq_true rfl)
  have g265 := g235.other W249 (Ne.symm n_ma2_ma3)
  have g266 := g236.other W249 (Ne.symm n_ma2_ma4)
  have g267 := g237.other W249 (Ne.symm n_ma2_ma5)
  have g268 := g238.other W249 (Ne.symm n_ma2_oa0)
  have g269 := g239.other W249 (Ne.symm n_ma2_oa1)
  have g270 := g240.other W249 (Ne.symm n_ma2_oa2)
  have g271 := g241.other W249 (Ne.symm n_ma2_oa3)
  have g272 := g242.other W249 (Ne.symm n_ma2_oa4)
  have g273 := g243.other W249 (Ne.symm n_ma2_oa5)
  have K274 : Keep h0 h249 [ma0, ma1, ma2, ma3, ma4, ma5] := K244.wr W249 (Or.inl (List.mem_of_getElem? (i := 2) rfl))
  have N249 := Fr.snoc X249 N219 o_ma2
  have Z249 : n0 ≤ h249.size := (Nat.le_trans Z219 (Nat.le_of_eq W249.size.symm))
  refine own_s T249 (mkF m 56 #[rv ob, rv oc, iv 1] []) st249 ?_
  refine own_s T249 (mkF m 57 #[rv ob, rv oc, iv 1] [.ref ob]) (fun t k => XS.aloadN X249.here hx rfl (hb hby d3_56) rfl rfl k) ?_
  obtain ⟨T275, X275, e275, st275⟩ := getF X249 hx hZ hown (host := "") (Or.inl (hW 16 _ rfl)) Via.refl e249 g253 (g := (mkF m 57 #[rv ob, rv oc, iv 1] [.ref ob])) rfl rfl (hb hby d3_57)
  refine own_s T275 (mkF m 60 #[rv ob, rv oc, iv 1] [.ref ma3]) st275 ?_
  refine own_s T275 (mkF m 61 #[rv ob, rv oc, iv 1] [.int 1, .ref ma3]) (fun t k => XS.iloadN X275.here hx rfl (hb hby d3_60) rfl k) ?_
  refine own_s T275 (mkF m 62 #[rv ob, rv oc, iv 1] [.int 1, .ref ma3, .int 1, .ref ma3]) (fun t k => XT.dup2 X275.here hx rfl (hb hby d3_61) rfl rfl rfl k) ?_
  obtain ⟨cl276, Ar276, qa276, S276, M276, H276, U276⟩ := id g265
  have hi276 := inb_of S276 (j := (1 : Int32)) ⟨by decide, by decide⟩
  have hat276 := H276.at hi276 (v := (.long x31)) rfl
  refine own_s T275 (mkF m 63 #[rv ob, rv oc, iv 1] [.long x31, .int 1, .ref ma3]) (fun t k => X275.laload hx (j := (1 : Int32)) (v := (.long x31)) (by rw [e275]; exact Ar276.1) (State.isArrayOf_alike hZ.alike Ar276.2.1) Ar276.2.2 hi276 hat276 (g := (mkF m 62 #[rv ob, rv oc, iv 1] [.int 1, .ref ma3, .int 1, .ref ma3])) rfl rfl (hb hby d3_62) t k) ?_
  refine own_s T275 (mkF m 64 #[rv ob, rv oc, iv 1] [.ref oc, .long x31, .int 1, .ref ma3]) (fun t k => XS.aloadN X275.here hx rfl (hb hby d3_63) rfl rfl k) ?_
  obtain ⟨T277, X277, e277, st277⟩ := getF X275 hx hZ hown (host := "") (Or.inl (hW 16 _ rfl)) Via.refl e275 g259 (g := (mkF m 64 #[rv ob, rv oc, iv 1] [.ref oc, .long x31, .int 1, .ref ma3])) rfl rfl (hb hby d3_64)
  refine own_s T277 (mkF m 67 #[rv ob, rv oc, iv 1] [.ref oa3, .long x31, .int 1, .ref ma3]) st277 ?_
  refine own_s T277 (mkF m 68 #[rv ob, rv oc, iv 1] [.int 1, .ref oa3, .long x31, .int 1, .ref ma3]) (fun t k => XS.iloadN X277.here hx rfl (hb hby d3_67) rfl k) ?_
  obtain ⟨cl278, Ar278, qa278, S278, M278, H278, U278⟩ := id g271
  have hi278 := inb_of S278 (j := (1 : Int32)) ⟨by decide, by decide⟩
  have hat278 := H278.at hi278 (v := (.long y31)) rfl
  refine own_s T277 (mkF m 69 #[rv ob, rv oc, iv 1] [.long y31, .long x31, .int 1, .ref ma3]) (fun t k => X277.laload hx (j := (1 : Int32)) (v := (.long y31)) (by rw [e277]; exact Ar278.1) (State.isArrayOf_alike hZ.alike Ar278.2.1) Ar278.2.2 hi278 hat278 (g := (mkF m 68 #[rv ob, rv oc, iv 1] [.int 1, .ref oa3, .long x31, .int 1, .ref ma3])) rfl rfl (hb hby d3_68) t k) ?_
  refine own_s T277 (mkF m 70 #[rv ob, rv oc, iv 1] [.long (x31 + y31), .int 1, .ref ma3]) (fun t k => XS.ladd X277.here hx rfl (hb hby d3_69) rfl k) ?_
  obtain ⟨cl279, Ar279, qa279, S279, M279, H279, U279⟩ := id g265
  obtain ⟨T279, h279, X279, e279, W279, st279⟩ := stJ X277 hx hZ e277 Ar279 (j := (1 : Int32)) (inb_of S279 ⟨by decide, by decide⟩) (g := (mkF m 70 #[rv ob, rv oc, iv 1] [.long (x31 + y31), .int 1, .ref ma3])) rfl rfl (hb hby d3_70)
  have g280 := g250.other W279 (Or.inl n_ob_ma3)
  have g281 := g251.other W279 (Or.inl n_ob_ma3)
  have g282 := g252.other W279 (Or.inl n_ob_ma3)
  have g283 := g253.other W279 (Or.inl n_ob_ma3)
  have g284 := g254.other W279 (Or.inl n_ob_ma3)
  have g285 := g255.other W279 (Or.inl n_ob_ma3)
  have g286 := g256.other W279 (Or.inl n_oc_ma3)
  have g287 := g257.other W279 (Or.inl n_oc_ma3)
  have g288 := g258.other W279 (Or.inl n_oc_ma3)
  have g289 := g259.other W279 (Or.inl n_oc_ma3)
  have g290 := g260.other W279 (Or.inl n_oc_ma3)
  have g291 := g261.other W279 (Or.inl n_oc_ma3)
  have g292 := g262.other W279 n_ma0_ma3
  have g293 := g263.other W279 n_ma1_ma3
  have g294 := g264.other W279 n_ma2_ma3
  have g295 : Arv Z h279 ma3 mk3 .long (2 : Int32) [(.long (x30 + y30)), (.long (x31 + y31))] (.long (0 : Int64)) := Arv.set Ar279 qa279 S279 M279 H279 U279 rfl W279 1 rfl (Nat.le_of_ble_eq_true rfl)
  have g296 := g266.other W279 (Ne.symm n_ma3_ma4)
  have g297 := g267.other W279 (Ne.symm n_ma3_ma5)
  have g298 := g268.other W279 (Ne.symm n_ma3_oa0)
  have g299 := g269.other W279 (Ne.symm n_ma3_oa1)
  have g300 := g270.other W279 (Ne.symm n_ma3_oa2)
  have g301 := g271.other W279 (Ne.symm n_ma3_oa3)
  have g302 := g272.other W279 (Ne.symm n_ma3_oa4)
  have g303 := g273.other W279 (Ne.symm n_ma3_oa5)
  have K304 : Keep h0 h279 [ma0, ma1, ma2, ma3, ma4, ma5] := K274.wr W279 (Or.inl (List.mem_of_getElem? (i := 3) rfl))
  have N279 := Fr.snoc X279 N249 o_ma3
  have Z279 : n0 ≤ h279.size := (Nat.le_trans Z249 (Nat.le_of_eq W279.size.symm))
  refine own_s T279 (mkF m 71 #[rv ob, rv oc, iv 1] []) st279 ?_
  refine own_s T279 (mkF m 72 #[rv ob, rv oc, iv 1] [.ref ob]) (fun t k => XS.aloadN X279.here hx rfl (hb hby d3_71) rfl rfl k) ?_
  obtain ⟨T305, X305, e305, st305⟩ := getF X279 hx hZ hown (host := "") (Or.inl (hW 18 _ rfl)) Via.refl e279 g284 (g := (mkF m 72 #[rv ob, rv oc, iv 1] [.ref ob])) rfl rfl (hb hby d3_72)
  refine own_s T305 (mkF m 75 #[rv ob, rv oc, iv 1] [.ref ma4]) st305 ?_
  refine own_s T305 (mkF m 76 #[rv ob, rv oc, iv 1] [.int 1, .ref ma4]) (fun t k => XS.iloadN X305.here hx rfl (hb hby d3_75) rfl k) ?_
  refine own_s T305 (mkF m 77 #[rv ob, rv oc, iv 1] [.int 1, .ref ma4, .int 1, .ref ma4]) (fun t k => XT.dup2 X305.here hx rfl (hb hby d3_76) rfl rfl rfl k) ?_
  obtain ⟨cl306, Ar306, qa306, S306, M306, H306, U306⟩ := id g296
  have hi306 := inb_of S306 (j := (1 : Int32)) ⟨by decide, by decide⟩
  have hat306 := H306.at hi306 (v := (.long x41)) rfl
  refine own_s T305 (mkF m 78 #[rv ob, rv oc, iv 1] [.long x41, .int 1, .ref ma4]) (fun t k => X305.laload hx (j := (1 : Int32)) (v := (.long x41)) (by rw [e305]; exact Ar306.1) (State.isArrayOf_alike hZ.alike Ar306.2.1) Ar306.2.2 hi306 hat306 (g := (mkF m 77 #[rv ob, rv oc, iv 1] [.int 1, .ref ma4, .int 1, .ref ma4])) rfl rfl (hb hby d3_77) t k) ?_
  refine own_s T305 (mkF m 79 #[rv ob, rv oc, iv 1] [.ref oc, .long x41, .int 1, .ref ma4]) (fun t k => XS.aloadN X305.here hx rfl (hb hby d3_78) rfl rfl k) ?_
  obtain ⟨T307, X307, e307, st307⟩ := getF X305 hx hZ hown (host := "") (Or.inl (hW 18 _ rfl)) Via.refl e305 g290 (g := (mkF m 79 #[rv ob, rv oc, iv 1] [.ref oc, .long x41, .int 1, .ref ma4])) rfl rfl (hb hby d3_79)
  refine own_s T307 (mkF m 82 #[rv ob, rv oc, iv 1] [.ref oa4, .long x41, .int 1, .ref ma4]) st307 ?_
  refine own_s T307 (mkF m 83 #[rv ob, rv oc, iv 1] [.int 1, .ref oa4, .long x41, .int 1, .ref ma4]) (fun t k => XS.iloadN X307.here hx rfl (hb hby d3_82) rfl k) ?_
  obtain ⟨cl308, Ar308, qa308, S308, M308, H308, U308⟩ := id g302
  have hi308 := inb_of S308 (j := (1 : Int32)) ⟨by decide, by decide⟩
  have hat308 := H308.at hi308 (v := (.long y41)) rfl
  refine own_s T307 (mkF m 84 #[rv ob, rv oc, iv 1] [.long y41, .long x41, .int 1, .ref ma4]) (fun t k => X307.laload hx (j := (1 : Int32)) (v := (.long y41)) (by rw [e307]; exact Ar308.1) (State.isArrayOf_alike hZ.alike Ar308.2.1) Ar308.2.2 hi308 hat308 (g := (mkF m 83 #[rv ob, rv oc, iv 1] [.int 1, .ref oa4, .long x41, .int 1, .ref ma4])) rfl rfl (hb hby d3_83) t k) ?_
  refine own_s T307 (mkF m 85 #[rv ob, rv oc, iv 1] [.long (x41 + y41), .int 1, .ref ma4]) (fun t k => XS.ladd X307.here hx rfl (hb hby d3_84) rfl k) ?_
  obtain ⟨cl309, Ar309, qa309, S309, M309, H309, U309⟩ := id g296
  obtain ⟨T309, h309, X309, e309, W309, st309⟩ := stJ X307 hx hZ e307 Ar309 (j := (1 : Int32)) (inb_of S309 ⟨by decide, by decide⟩) (g := (mkF m 85 #[rv ob, rv oc, iv 1] [.long (x41 + y41), .int 1, .ref ma4])) rfl rfl (hb hby d3_85)
  have g310 := g280.other W309 (Or.inl n_ob_ma4)
  have g311 := g281.other W309 (Or.inl n_ob_ma4)
  have g312 := g282.other W309 (Or.inl n_ob_ma4)
  have g313 := g283.other W309 (Or.inl n_ob_ma4)
  have g314 := g284.other W309 (Or.inl n_ob_ma4)
  have g315 := g285.other W309 (Or.inl n_ob_ma4)
  have g316 := g286.other W309 (Or.inl n_oc_ma4)
  have g317 := g287.other W309 (Or.inl n_oc_ma4)
  have g318 := g288.other W309 (Or.inl n_oc_ma4)
  have g319 := g289.other W309 (Or.inl n_oc_ma4)
  have g320 := g290.other W309 (Or.inl n_oc_ma4)
  have g321 := g291.other W309 (Or.inl n_oc_ma4)
  have g322 := g292.other W309 n_ma0_ma4
  have g323 := g293.other W309 n_ma1_ma4
  have g324 := g294.other W309 n_ma2_ma4
  have g325 := g295.other W309 n_ma3_ma4
  have g326 : Arv Z h309 ma4 mk4 .long (2 : Int32) [(.long (x40 + y40)), (.long (x41 + y41))] (.long (0 : Int64)) := Arv.set Ar309 qa309 S309 M309 H309 U309 rfl W309 1 rfl (Nat.le_of_ble_eq_true rfl)
  have g327 := g297.other W309 (Ne.symm n_ma4_ma5)
  have g328 := g298.other W309 (Ne.symm n_ma4_oa0)
  have g329 := g299.other W309 (Ne.symm n_ma4_oa1)
  have g330 := g300.other W309 (Ne.symm n_ma4_oa2)
  have g331 := g301.other W309 (Ne.symm n_ma4_oa3)
  have g332 := g302.other W309 (Ne.symm n_ma4_oa4)
  have g333 := g303.other W309 (Ne.symm n_ma4_oa5)
  have K334 : Keep h0 h309 [ma0, ma1, ma2, ma3, ma4, ma5] := K304.wr W309 (Or.inl (List.mem_of_getElem? (i := 4) rfl))
  have N309 := Fr.snoc X309 N279 o_ma4
  have Z309 : n0 ≤ h309.size := (Nat.le_trans Z279 (Nat.le_of_eq W309.size.symm))
  refine own_s T309 (mkF m 86 #[rv ob, rv oc, iv 1] []) st309 ?_
  refine own_s T309 (mkF m 87 #[rv ob, rv oc, iv 1] [.ref ob]) (fun t k => XS.aloadN X309.here hx rfl (hb hby d3_86) rfl rfl k) ?_
  obtain ⟨T335, X335, e335, st335⟩ := getF X309 hx hZ hown (host := "") (Or.inl (hW 21 _ rfl)) Via.refl e309 g315 (g := (mkF m 87 #[rv ob, rv oc, iv 1] [.ref ob])) rfl rfl (hb hby d3_87)
  refine own_s T335 (mkF m 90 #[rv ob, rv oc, iv 1] [.ref ma5]) st335 ?_
  refine own_s T335 (mkF m 91 #[rv ob, rv oc, iv 1] [.int 1, .ref ma5]) (fun t k => XS.iloadN X335.here hx rfl (hb hby d3_90) rfl k) ?_
  refine own_s T335 (mkF m 92 #[rv ob, rv oc, iv 1] [.int 1, .ref ma5, .int 1, .ref ma5]) (fun t k => XT.dup2 X335.here hx rfl (hb hby d3_91) rfl rfl rfl k) ?_
  obtain ⟨cl336, Ar336, qa336, S336, M336, H336, U336⟩ := id g327
  have hi336 := inb_of S336 (j := (1 : Int32)) ⟨by decide, by decide⟩
  have hat336 := H336.at hi336 (v := (.double (FP.l2d x51))) rfl
  refine own_s T335 (mkF m 93 #[rv ob, rv oc, iv 1] [(.double (FP.l2d x51)), .int 1, .ref ma5]) (fun t k => X335.daload hx (j := (1 : Int32)) (v := (.double (FP.l2d x51))) (by rw [e335]; exact Ar336.1) (State.isArrayOf_alike hZ.alike Ar336.2.1) Ar336.2.2 hi336 hat336 (g := (mkF m 92 #[rv ob, rv oc, iv 1] [.int 1, .ref ma5, .int 1, .ref ma5])) rfl rfl (hb hby d3_92) t k) ?_
  refine own_s T335 (mkF m 94 #[rv ob, rv oc, iv 1] [.ref oc, (.double (FP.l2d x51)), .int 1, .ref ma5]) (fun t k => XS.aloadN X335.here hx rfl (hb hby d3_93) rfl rfl k) ?_
  obtain ⟨T337, X337, e337, st337⟩ := getF X335 hx hZ hown (host := "") (Or.inl (hW 21 _ rfl)) Via.refl e335 g321 (g := (mkF m 94 #[rv ob, rv oc, iv 1] [.ref oc, (.double (FP.l2d x51)), .int 1, .ref ma5])) rfl rfl (hb hby d3_94)
  refine own_s T337 (mkF m 97 #[rv ob, rv oc, iv 1] [.ref oa5, (.double (FP.l2d x51)), .int 1, .ref ma5]) st337 ?_
  refine own_s T337 (mkF m 98 #[rv ob, rv oc, iv 1] [.int 1, .ref oa5, (.double (FP.l2d x51)), .int 1, .ref ma5]) (fun t k => XS.iloadN X337.here hx rfl (hb hby d3_97) rfl k) ?_
  obtain ⟨cl338, Ar338, qa338, S338, M338, H338, U338⟩ := id g333
  have hi338 := inb_of S338 (j := (1 : Int32)) ⟨by decide, by decide⟩
  have hat338 := H338.at hi338 (v := (.double (FP.l2d y51))) rfl
  refine own_s T337 (mkF m 99 #[rv ob, rv oc, iv 1] [(.double (FP.l2d y51)), (.double (FP.l2d x51)), .int 1, .ref ma5]) (fun t k => X337.daload hx (j := (1 : Int32)) (v := (.double (FP.l2d y51))) (by rw [e337]; exact Ar338.1) (State.isArrayOf_alike hZ.alike Ar338.2.1) Ar338.2.2 hi338 hat338 (g := (mkF m 98 #[rv ob, rv oc, iv 1] [.int 1, .ref oa5, (.double (FP.l2d x51)), .int 1, .ref ma5])) rfl rfl (hb hby d3_98) t k) ?_
  refine own_s T337 (mkF m 100 #[rv ob, rv oc, iv 1] [(.double (FP.l2d (x51 + y51))), .int 1, .ref ma5]) (fun t k => XS.daddS X337.here hx rfl (hb hby d3_99) rfl (nn_w (dadd_w hb_x51 hb_y51)) (dadd_w hb_x51 hb_y51) k) ?_
  obtain ⟨cl339, Ar339, qa339, S339, M339, H339, U339⟩ := id g327
  obtain ⟨T339, h339, X339, e339, W339, st339⟩ := stD X337 hx hZ e337 Ar339 (j := (1 : Int32)) (inb_of S339 ⟨by decide, by decide⟩) (g := (mkF m 100 #[rv ob, rv oc, iv 1] [(.double (FP.l2d (x51 + y51))), .int 1, .ref ma5])) rfl rfl (hb hby d3_100)
  have g340 := g310.other W339 (Or.inl n_ob_ma5)
  have g341 := g311.other W339 (Or.inl n_ob_ma5)
  have g342 := g312.other W339 (Or.inl n_ob_ma5)
  have g343 := g313.other W339 (Or.inl n_ob_ma5)
  have g344 := g314.other W339 (Or.inl n_ob_ma5)
  have g345 := g315.other W339 (Or.inl n_ob_ma5)
  have g346 := g316.other W339 (Or.inl n_oc_ma5)
  have g347 := g317.other W339 (Or.inl n_oc_ma5)
  have g348 := g318.other W339 (Or.inl n_oc_ma5)
  have g349 := g319.other W339 (Or.inl n_oc_ma5)
  have g350 := g320.other W339 (Or.inl n_oc_ma5)
  have g351 := g321.other W339 (Or.inl n_oc_ma5)
  have g352 := g322.other W339 n_ma0_ma5
  have g353 := g323.other W339 n_ma1_ma5
  have g354 := g324.other W339 n_ma2_ma5
  have g355 := g325.other W339 n_ma3_ma5
  have g356 := g326.other W339 n_ma4_ma5
  have g357 : Arv Z h339 ma5 mk5 .double (2 : Int32) [(.double (FP.l2d (x50 + y50))), (.double (FP.l2d (x51 + y51)))] (.double (FP.l2d 0)) := Arv.set Ar339 qa339 S339 M339 H339 U339 rfl W339 1 rfl (Nat.le_of_ble_eq_true rfl)
  have g358 := g328.other W339 (Ne.symm n_ma5_oa0)
  have g359 := g329.other W339 (Ne.symm n_ma5_oa1)
  have g360 := g330.other W339 (Ne.symm n_ma5_oa2)
  have g361 := g331.other W339 (Ne.symm n_ma5_oa3)
  have g362 := g332.other W339 (Ne.symm n_ma5_oa4)
  have g363 := g333.other W339 (Ne.symm n_ma5_oa5)
  have K364 : Keep h0 h339 [ma0, ma1, ma2, ma3, ma4, ma5] := K334.wr W339 (Or.inl (List.mem_of_getElem? (i := 5) rfl))
  have N339 := Fr.snoc X339 N309 o_ma5
  have Z339 : n0 ≤ h339.size := (Nat.le_trans Z309 (Nat.le_of_eq W339.size.symm))
  refine own_s T339 (mkF m 101 #[rv ob, rv oc, iv 1] []) st339 ?_
  refine own_s T339 (mkF m 104 #[rv ob, rv oc, iv 2] []) (fun t k => XS.iinc X339.here hx rfl (hb hby d3_101) rfl (l' := #[rv ob, rv oc, iv 2]) rfl k) ?_
  refine own_s T339 (mkF m 2 #[rv ob, rv oc, iv 2] []) (fun t k => XS.goto X339.here hx rfl (pc0 := 104) (pc' := 2) rfl (hb hby d3_104) (by decide) (by decide) k) ?_
  refine own_s T339 (mkF m 3 #[rv ob, rv oc, iv 2] [.int 2]) (fun t k => XS.iloadN X339.here hx rfl (hb hby d3_2) rfl k) ?_
  refine own_s T339 (mkF m 4 #[rv ob, rv oc, iv 2] [.ref ob, .int 2]) (fun t k => XS.aloadN X339.here hx rfl (hb hby d3_3) rfl rfl k) ?_
  obtain ⟨T365, X365, e365, st365⟩ := getF X339 hx hZ hown (host := "") (Or.inl (hW 10 _ rfl)) Via.refl e339 g340 (g := (mkF m 4 #[rv ob, rv oc, iv 2] [.ref ob, .int 2])) rfl rfl (hb hby d3_4)
  refine own_s T365 (mkF m 7 #[rv ob, rv oc, iv 2] [.ref ma0, .int 2]) st365 ?_
  obtain ⟨cl366, Ar366, qa366, S366, M366, H366, U366⟩ := id g352
  have ln366 := len_of S366 M366
  refine own_s T365 (mkF m 8 #[rv ob, rv oc, iv 2] [.int 2, .int 2]) (fun t k => X365.arraylength hx (cell := cl366) (by rw [e365]; exact Ar366.1) (State.isArrayOf_alike hZ.alike Ar366.2.1) (g := (mkF m 7 #[rv ob, rv oc, iv 2] [.ref ma0, .int 2])) rfl rfl (hb hby d3_7) t (by rw [ln366]; exact k)) ?_
  refine own_s T365 (mkF m 107 #[rv ob, rv oc, iv 2] []) (fun t k => XS.icmpYes X365.here hx rfl (pc0 := 8) (pc' := 107) rfl (hb hby d3_8) rfl (flt (by decide : ¬ ((2 : Int32) < (2 : Int32)))).2.1 (by decide) (by decide) k) ?_
  refine own_rV X365 hx hlk Bd.returns (hb hby d3_107) ?_ (by decide) (by decide)
  rw [e365]
  exact ⟨rfl, N339, K364, g352, g353, g354, g355, g356, g357⟩
def Q_law (n0 : Nat) (v : Option Value) (h : Heap) (L : List Loc) : Prop := v = some (.int 1) ∧ Fr n0 L
theorem ef_rm_law (m : MethodId) (x0 : Int64) (x1 : Int64) (x2 : Int64) (x3 : Int64) (x4 : Int32) (x5 : Int32) : entryFrame m #[(.long x0), (.long x1), (.long x2), (.long x3), (.int x4), (.int x5)] maxLocals = mkF m 0 #[.val (.long x0), .second, .val (.long x1), .second, .val (.long x2), .second, .val (.long x3), .second, .val (.int x4), .val (.int x5), .unset, .unset, .unset, .unset, .unset, .unset, .unset, .unset] [] := by first | (simp [entryFrame, mkF, argsToLocals, Value.category, maxLocals]; done) | rfl | (simp [entryFrame, mkF, argsToLocals, Value.category, maxLocals] <;> rfl)
theorem pn_1 : plainName "com/example/rostr/rostr/simulation/CountsAddPinLaw" = true := by first | (simp [plainName, overriddenIn]; done) | decide +kernel
theorem pd_0 : parseMethodDescriptor "(I)V" = some ⟨[.int], none⟩ := by decide +kernel
theorem pd_1 : parseMethodDescriptor "(Lcom/example/rostr/rostr/simulation/SimulatedCentre$Counts;)V" = some ⟨[.object "com/example/rostr/rostr/simulation/SimulatedCentre$Counts"], none⟩ := by decide +kernel
set_option maxRecDepth 65536 in
set_option maxHeartbeats 40000000 in
theorem rm_law (l : Launch) (Z : State) (a0 : Array Value) (hw : ∀ d ∈ tables_1, d.before a0 Z = true) (ws : List Jvm.Cond) (p0 : Int64) (p1 : Int64) (p2 : Int64) (p3 : Int64) (p4 : Int32) (p5 : Int32) (h0 : Heap) (n0 : Nat) (Z0 : n0 ≤ h0.size)  :
    MetFree l x (head1 (Jvm.Cond.code x code maxLocals ret :: ws) room_1) (fun a U => a = #[(.long p0), (.long p1), (.long p2), (.long p3), (.int p4), (.int p5)] ∧ Z.Warmed39 U.vm ∧ U.heap = h0) (fun _ _ _ _ _ => True) (fun _ U o U' => ∃ v L, o = .returned v ∧ (Q_law n0) v U'.heap L ∧ FrameEnd U o U' L 40 192) := by
  refine MetFree.of_bodySF (plainFor_of_name pn_1) hisR ?_
  intro p e s m args below meth c s₁ Bd hml0 hP hK
  obtain ⟨rfl, hZ, hh⟩ := hP
  have hx := Bd.exec
  have hby := Bd.bytes
  have hW := fun i d (h : tables_1[i]? = some d) => hw d (List.mem_of_getElem? h)
  have hlk : meth.locks = false := BodyLoose.notSynchronized Bd
  have hml : c.maxLocals = 18 := hml0
  have hown : s.vm.findClass "com/example/rostr/rostr/simulation/CountsAddPinLaw" = some m.cls := findClass_of_methodNamed Bd.named
  have hnm := (name_of_methodNamed Bd.named Bd.method).1
  have X0 : Stand p l e room_1 s m #[(.long p0), (.long p1), (.long p2), (.long p3), (.int p4), (.int p5)] below meth c s₁ [] 0 0 := Stand.of_body Bd
  have e0 : s₁.heap = h0 := by rw [← hh, Bd.state]; rfl
  have N0 := Fr.nil n0
  show own_Go p e below s (Q_law n0) 40 192 s₁ (entryFrame m #[(.long p0), (.long p1), (.long p2), (.long p3), (.int p4), (.int p5)] maxLocals)
  refine own_cast (g' := (mkF m 0 #[own_j p0, s_, own_j p1, s_, own_j p2, s_, own_j p3, s_, iv p4, iv p5, u_, u_, u_, u_, u_, u_, u_, u_] [])) (ef_rm_law m p0 p1 p2 p3 p4 p5) ?_
  obtain ⟨T1, h1, X1, e1, E1, A1, D1, -, st1⟩ := newO X0 hx hZ hown (hW 0 _ rfl) (hW 1 _ rfl) (hW 2 _ rfl) e0 (g := (mkF m 0 #[own_j p0, s_, own_j p1, s_, own_j p2, s_, own_j p3, s_, iv p4, iv p5, u_, u_, u_, u_, u_, u_, u_, u_] [])) rfl (hb hby at_0) (by decide : 0 + 1 ≤ _) (by decide : 0 + 6 ≤ _)
  obtain ⟨ad1, g_ad1⟩ : ∃ z, z = h0.size := ⟨_, rfl⟩
  rw [← g_ad1] at A1 D1 st1
  have o1 : n0 ≤ ad1 := (Nat.le_trans Z0 (Nat.le_of_eq g_ad1.symm))
  have Z1 : n0 ≤ h1.size := (Nat.le_trans Z0 E1.1)
  have g2 : Fld Z h1 ad1 "com/example/rostr/rostr/simulation/SimulatedCentre$Counts" "offered" "[J" .null := D1 (Or.inr (hW 11 _ rfl)) (ty := .array .long) (by decide)
  have g3 : Fld Z h1 ad1 "com/example/rostr/rostr/simulation/SimulatedCentre$Counts" "abandoned" "[J" .null := D1 (Or.inr (hW 13 _ rfl)) (ty := .array .long) (by decide)
  have g4 : Fld Z h1 ad1 "com/example/rostr/rostr/simulation/SimulatedCentre$Counts" "abandonedEarly" "[J" .null := D1 (Or.inr (hW 15 _ rfl)) (ty := .array .long) (by decide)
  have g5 : Fld Z h1 ad1 "com/example/rostr/rostr/simulation/SimulatedCentre$Counts" "answered" "[J" .null := D1 (Or.inr (hW 17 _ rfl)) (ty := .array .long) (by decide)
  have g6 : Fld Z h1 ad1 "com/example/rostr/rostr/simulation/SimulatedCentre$Counts" "answeredInTime" "[J" .null := D1 (Or.inr (hW 19 _ rfl)) (ty := .array .long) (by decide)
  have g7 : Fld Z h1 ad1 "com/example/rostr/rostr/simulation/SimulatedCentre$Counts" "waitHours" "[D" .null := D1 (Or.inr (hW 22 _ rfl)) (ty := .array .double) (by decide)
  refine own_s T1 (mkF m 3 #[own_j p0, s_, own_j p1, s_, own_j p2, s_, own_j p3, s_, iv p4, iv p5, u_, u_, u_, u_, u_, u_, u_, u_] [.ref ad1]) st1 ?_
  refine own_s T1 (mkF m 4 #[own_j p0, s_, own_j p1, s_, own_j p2, s_, own_j p3, s_, iv p4, iv p5, u_, u_, u_, u_, u_, u_, u_, u_] [.ref ad1, .ref ad1]) (fun t k => XS.dup X1.here hx rfl (hb hby at_3) rfl rfl k) ?_
  refine own_s T1 (mkF m 5 #[own_j p0, s_, own_j p1, s_, own_j p2, s_, own_j p3, s_, iv p4, iv p5, u_, u_, u_, u_, u_, u_, u_, u_] [.int 2, .ref ad1, .ref ad1]) (fun t k => XS.iconst X1.here hx rfl (hb hby at_4) k) ?_
  obtain ⟨_, _, ⟨T22, L22, k22, n22⟩, -, X22, ⟨Lc22, hQ22, lq22, yq22, zq22⟩, st22⟩ := X1.specialBack hx (y := (⟨"com/example/rostr/rostr/simulation/SimulatedCentre$Counts", "<init>", "(I)V"⟩ : MethodName)) rfl hown (mvT hZ (hW 3 _ rfl)) (mvT hZ (hW 4 _ rfl)) (mvT hZ (hW 5 _ rfl)) (by decide) (backOf (W := 1) (rm_cti l Z a0 hw [] ad1 .null .null .null .null .null .null h1 n0 Z1 A1 g2 g3 g4 g5 g6 g7 o1) hZ (hW 5 _ rfl) (hW 2 _ rfl) (by decide) (by decide)) (g := (mkF m 5 #[own_j p0, s_, own_j p1, s_, own_j p2, s_, own_j p3, s_, iv p4, iv p5, u_, u_, u_, u_, u_, u_, u_, u_] [.int 2, .ref ad1, .ref ad1])) rfl (by rw [hml]; rfl) (Steps.refl _) (a := ad1) (argsL := [(.int (2 : Int32))]) (rest := [(.ref ad1)]) (lenOf pd_0 rfl) rfl (by show 2 * 0 + _ ≤ _; exact Nat.le_of_eq rfl) (hb hby at_5) (fun _ _ => ⟨rfl, e1, (by decide : 1 + 6 ≤ _), (by decide : 6 + 12 ≤ _)⟩)
  dsimp only [Pt.U, Pt.locs, Pt.cells, Pt.slots] at X22 lq22 yq22 zq22 st22 hQ22
  rw [lq22, yq22, zq22] at X22
  clear lq22 yq22 zq22
  obtain ⟨b0_8, b1_8, b2_8, b3_8, b4_8, b5_8, q0_8, q1_8, q2_8, q3_8, q4_8, q5_8, rfl, Nq22, K9, fz_b0_8, fz_b1_8, fz_b2_8, fz_b3_8, fz_b4_8, fz_b5_8, nz_ad1_b0_8, nz_ad1_b1_8, nz_ad1_b2_8, nz_ad1_b3_8, nz_ad1_b4_8, nz_ad1_b5_8, nz_b0_8_b1_8, nz_b0_8_b2_8, nz_b0_8_b3_8, nz_b0_8_b4_8, nz_b0_8_b5_8, nz_b1_8_b2_8, nz_b1_8_b3_8, nz_b1_8_b4_8, nz_b1_8_b5_8, nz_b2_8_b3_8, nz_b2_8_b4_8, nz_b2_8_b5_8, nz_b3_8_b4_8, nz_b3_8_b5_8, nz_b4_8_b5_8, g10, g11, g12, g13, g14, g15, g16, g17, g18, g19, g20, g21⟩ := hQ22
  have N22 := Fr.app N0 Nq22
  have oz_b0_8 : n0 ≤ b0_8 := Nat.le_trans Z1 fz_b0_8
  have nz_ad1_b0_8 : ad1 ≠ b0_8 := Nat.ne_of_lt (Nat.lt_of_lt_of_le A1.lt fz_b0_8)
  have oz_b1_8 : n0 ≤ b1_8 := Nat.le_trans Z1 fz_b1_8
  have nz_ad1_b1_8 : ad1 ≠ b1_8 := Nat.ne_of_lt (Nat.lt_of_lt_of_le A1.lt fz_b1_8)
  have oz_b2_8 : n0 ≤ b2_8 := Nat.le_trans Z1 fz_b2_8
  have nz_ad1_b2_8 : ad1 ≠ b2_8 := Nat.ne_of_lt (Nat.lt_of_lt_of_le A1.lt fz_b2_8)
  have oz_b3_8 : n0 ≤ b3_8 := Nat.le_trans Z1 fz_b3_8
  have nz_ad1_b3_8 : ad1 ≠ b3_8 := Nat.ne_of_lt (Nat.lt_of_lt_of_le A1.lt fz_b3_8)
  have oz_b4_8 : n0 ≤ b4_8 := Nat.le_trans Z1 fz_b4_8
  have nz_ad1_b4_8 : ad1 ≠ b4_8 := Nat.ne_of_lt (Nat.lt_of_lt_of_le A1.lt fz_b4_8)
  have oz_b5_8 : n0 ≤ b5_8 := Nat.le_trans Z1 fz_b5_8
  have nz_ad1_b5_8 : ad1 ≠ b5_8 := Nat.ne_of_lt (Nat.lt_of_lt_of_le A1.lt fz_b5_8)
  have g23 := A1.keep K9
  have Z9 : n0 ≤ T22.heap.size := (Nat.le_trans Z1 K9.1)
  refine own_tr (T' := T22) (g' := (mkF m 8 #[own_j p0, s_, own_j p1, s_, own_j p2, s_, own_j p3, s_, iv p4, iv p5, u_, u_, u_, u_, u_, u_, u_, u_] [.ref ad1])) st22 ?_
  refine own_s T22 (mkF m 10 #[own_j p0, s_, own_j p1, s_, own_j p2, s_, own_j p3, s_, iv p4, iv p5, rv ad1, u_, u_, u_, u_, u_, u_, u_] []) (fun t k => XS.astore X22.here hx rfl (hb hby at_8) rfl rfl (l' := #[own_j p0, s_, own_j p1, s_, own_j p2, s_, own_j p3, s_, iv p4, iv p5, rv ad1, u_, u_, u_, u_, u_, u_, u_]) rfl k) ?_
  obtain ⟨T24, h24, X24, e24, E24, A24, D24, -, st24⟩ := newO X22 hx hZ hown (hW 0 _ rfl) (hW 1 _ rfl) (hW 2 _ rfl) rfl (g := (mkF m 10 #[own_j p0, s_, own_j p1, s_, own_j p2, s_, own_j p3, s_, iv p4, iv p5, rv ad1, u_, u_, u_, u_, u_, u_, u_] [])) rfl (hb hby at_10) (by decide : 7 + 1 ≤ _) (by decide : 18 + 6 ≤ _)
  obtain ⟨ad24, g_ad24⟩ : ∃ z, z = T22.heap.size := ⟨_, rfl⟩
  rw [← g_ad24] at A24 D24 st24
  have g25 := g23.ext E24
  have g26 := g10.ext E24
  have g27 := g11.ext E24
  have g28 := g12.ext E24
  have g29 := g13.ext E24
  have g30 := g14.ext E24
  have g31 := g15.ext E24
  have g32 := g16.ext E24
  have g33 := g17.ext E24
  have g34 := g18.ext E24
  have g35 := g19.ext E24
  have g36 := g20.ext E24
  have g37 := g21.ext E24
  have ne24_1 : ad1 ≠ ad24 := Nat.ne_of_lt (by rw [g_ad24]; exact g23.lt)
  have ne24_2 : b0_8 ≠ ad24 := Nat.ne_of_lt (by rw [g_ad24]; exact g16.lt)
  have ne24_3 : b1_8 ≠ ad24 := Nat.ne_of_lt (by rw [g_ad24]; exact g17.lt)
  have ne24_4 : b2_8 ≠ ad24 := Nat.ne_of_lt (by rw [g_ad24]; exact g18.lt)
  have ne24_5 : b3_8 ≠ ad24 := Nat.ne_of_lt (by rw [g_ad24]; exact g19.lt)
  have ne24_6 : b4_8 ≠ ad24 := Nat.ne_of_lt (by rw [g_ad24]; exact g20.lt)
  have ne24_7 : b5_8 ≠ ad24 := Nat.ne_of_lt (by rw [g_ad24]; exact g21.lt)
  have o24 : n0 ≤ ad24 := (Nat.le_trans Z9 (Nat.le_of_eq g_ad24.symm))
  have Z24 : n0 ≤ h24.size := (Nat.le_trans Z9 E24.1)
  have g38 : Fld Z h24 ad24 "com/example/rostr/rostr/simulation/SimulatedCentre$Counts" "offered" "[J" .null := D24 (Or.inr (hW 11 _ rfl)) (ty := .array .long) (by decide)
  have g39 : Fld Z h24 ad24 "com/example/rostr/rostr/simulation/SimulatedCentre$Counts" "abandoned" "[J" .null := D24 (Or.inr (hW 13 _ rfl)) (ty := .array .long) (by decide)
  have g40 : Fld Z h24 ad24 "com/example/rostr/rostr/simulation/SimulatedCentre$Counts" "abandonedEarly" "[J" .null := D24 (Or.inr (hW 15 _ rfl)) (ty := .array .long) (by decide)
  have g41 : Fld Z h24 ad24 "com/example/rostr/rostr/simulation/SimulatedCentre$Counts" "answered" "[J" .null := D24 (Or.inr (hW 17 _ rfl)) (ty := .array .long) (by decide)
  have g42 : Fld Z h24 ad24 "com/example/rostr/rostr/simulation/SimulatedCentre$Counts" "answeredInTime" "[J" .null := D24 (Or.inr (hW 19 _ rfl)) (ty := .array .long) (by decide)
  have g43 : Fld Z h24 ad24 "com/example/rostr/rostr/simulation/SimulatedCentre$Counts" "waitHours" "[D" .null := D24 (Or.inr (hW 22 _ rfl)) (ty := .array .double) (by decide)
  refine own_s T24 (mkF m 13 #[own_j p0, s_, own_j p1, s_, own_j p2, s_, own_j p3, s_, iv p4, iv p5, rv ad1, u_, u_, u_, u_, u_, u_, u_] [.ref ad24]) st24 ?_
  refine own_s T24 (mkF m 14 #[own_j p0, s_, own_j p1, s_, own_j p2, s_, own_j p3, s_, iv p4, iv p5, rv ad1, u_, u_, u_, u_, u_, u_, u_] [.ref ad24, .ref ad24]) (fun t k => XS.dup X24.here hx rfl (hb hby at_13) rfl rfl k) ?_
  refine own_s T24 (mkF m 15 #[own_j p0, s_, own_j p1, s_, own_j p2, s_, own_j p3, s_, iv p4, iv p5, rv ad1, u_, u_, u_, u_, u_, u_, u_] [.int 2, .ref ad24, .ref ad24]) (fun t k => XS.iconst X24.here hx rfl (hb hby at_14) k) ?_
  obtain ⟨_, _, ⟨T58, L58, k58, n58⟩, -, X58, ⟨Lc58, hQ58, lq58, yq58, zq58⟩, st58⟩ := X24.specialBack hx (y := (⟨"com/example/rostr/rostr/simulation/SimulatedCentre$Counts", "<init>", "(I)V"⟩ : MethodName)) rfl hown (mvT hZ (hW 3 _ rfl)) (mvT hZ (hW 4 _ rfl)) (mvT hZ (hW 5 _ rfl)) (by decide) (backOf (W := 1) (rm_cti l Z a0 hw [] ad24 .null .null .null .null .null .null h24 n0 Z24 A24 g38 g39 g40 g41 g42 g43 o24) hZ (hW 5 _ rfl) (hW 2 _ rfl) (by decide) (by decide)) (g := (mkF m 15 #[own_j p0, s_, own_j p1, s_, own_j p2, s_, own_j p3, s_, iv p4, iv p5, rv ad1, u_, u_, u_, u_, u_, u_, u_] [.int 2, .ref ad24, .ref ad24])) rfl (by rw [hml]; rfl) (Steps.refl _) (a := ad24) (argsL := [(.int (2 : Int32))]) (rest := [(.ref ad24)]) (lenOf pd_0 rfl) rfl (by show 2 * 0 + _ ≤ _; exact Nat.le_of_eq rfl) (hb hby at_15) (fun _ _ => ⟨rfl, e24, (by decide : 8 + 6 ≤ _), (by decide : 24 + 12 ≤ _)⟩)
  dsimp only [Pt.U, Pt.locs, Pt.cells, Pt.slots] at X58 lq58 yq58 zq58 st58 hQ58
  rw [lq58, yq58, zq58] at X58
  clear lq58 yq58 zq58
  obtain ⟨b0_44, b1_44, b2_44, b3_44, b4_44, b5_44, q0_44, q1_44, q2_44, q3_44, q4_44, q5_44, rfl, Nq58, K45, fz_b0_44, fz_b1_44, fz_b2_44, fz_b3_44, fz_b4_44, fz_b5_44, nz_ad24_b0_44, nz_ad24_b1_44, nz_ad24_b2_44, nz_ad24_b3_44, nz_ad24_b4_44, nz_ad24_b5_44, nz_b0_44_b1_44, nz_b0_44_b2_44, nz_b0_44_b3_44, nz_b0_44_b4_44, nz_b0_44_b5_44, nz_b1_44_b2_44, nz_b1_44_b3_44, nz_b1_44_b4_44, nz_b1_44_b5_44, nz_b2_44_b3_44, nz_b2_44_b4_44, nz_b2_44_b5_44, nz_b3_44_b4_44, nz_b3_44_b5_44, nz_b4_44_b5_44, g46, g47, g48, g49, g50, g51, g52, g53, g54, g55, g56, g57⟩ := hQ58
  have N58 := Fr.app N22 Nq58
  have oz_b0_44 : n0 ≤ b0_44 := Nat.le_trans Z24 fz_b0_44
  have nz_ad1_b0_44 : ad1 ≠ b0_44 := Nat.ne_of_lt (Nat.lt_of_lt_of_le g25.lt fz_b0_44)
  have nz_b0_8_b0_44 : b0_8 ≠ b0_44 := Nat.ne_of_lt (Nat.lt_of_lt_of_le g32.lt fz_b0_44)
  have nz_b1_8_b0_44 : b1_8 ≠ b0_44 := Nat.ne_of_lt (Nat.lt_of_lt_of_le g33.lt fz_b0_44)
  have nz_b2_8_b0_44 : b2_8 ≠ b0_44 := Nat.ne_of_lt (Nat.lt_of_lt_of_le g34.lt fz_b0_44)
  have nz_b3_8_b0_44 : b3_8 ≠ b0_44 := Nat.ne_of_lt (Nat.lt_of_lt_of_le g35.lt fz_b0_44)
  have nz_b4_8_b0_44 : b4_8 ≠ b0_44 := Nat.ne_of_lt (Nat.lt_of_lt_of_le g36.lt fz_b0_44)
  have nz_b5_8_b0_44 : b5_8 ≠ b0_44 := Nat.ne_of_lt (Nat.lt_of_lt_of_le g37.lt fz_b0_44)
  have nz_ad24_b0_44 : ad24 ≠ b0_44 := Nat.ne_of_lt (Nat.lt_of_lt_of_le A24.lt fz_b0_44)
  have oz_b1_44 : n0 ≤ b1_44 := Nat.le_trans Z24 fz_b1_44
  have nz_ad1_b1_44 : ad1 ≠ b1_44 := Nat.ne_of_lt (Nat.lt_of_lt_of_le g25.lt fz_b1_44)
  have nz_b0_8_b1_44 : b0_8 ≠ b1_44 := Nat.ne_of_lt (Nat.lt_of_lt_of_le g32.lt fz_b1_44)
  have nz_b1_8_b1_44 : b1_8 ≠ b1_44 := Nat.ne_of_lt (Nat.lt_of_lt_of_le g33.lt fz_b1_44)
  have nz_b2_8_b1_44 : b2_8 ≠ b1_44 := Nat.ne_of_lt (Nat.lt_of_lt_of_le g34.lt fz_b1_44)
  have nz_b3_8_b1_44 : b3_8 ≠ b1_44 := Nat.ne_of_lt (Nat.lt_of_lt_of_le g35.lt fz_b1_44)
  have nz_b4_8_b1_44 : b4_8 ≠ b1_44 := Nat.ne_of_lt (Nat.lt_of_lt_of_le g36.lt fz_b1_44)
  have nz_b5_8_b1_44 : b5_8 ≠ b1_44 := Nat.ne_of_lt (Nat.lt_of_lt_of_le g37.lt fz_b1_44)
  have nz_ad24_b1_44 : ad24 ≠ b1_44 := Nat.ne_of_lt (Nat.lt_of_lt_of_le A24.lt fz_b1_44)
  have oz_b2_44 : n0 ≤ b2_44 := Nat.le_trans Z24 fz_b2_44
  have nz_ad1_b2_44 : ad1 ≠ b2_44 := Nat.ne_of_lt (Nat.lt_of_lt_of_le g25.lt fz_b2_44)
  have nz_b0_8_b2_44 : b0_8 ≠ b2_44 := Nat.ne_of_lt (Nat.lt_of_lt_of_le g32.lt fz_b2_44)
  have nz_b1_8_b2_44 : b1_8 ≠ b2_44 := Nat.ne_of_lt (Nat.lt_of_lt_of_le g33.lt fz_b2_44)
  have nz_b2_8_b2_44 : b2_8 ≠ b2_44 := Nat.ne_of_lt (Nat.lt_of_lt_of_le g34.lt fz_b2_44)
  have nz_b3_8_b2_44 : b3_8 ≠ b2_44 := Nat.ne_of_lt (Nat.lt_of_lt_of_le g35.lt fz_b2_44)
  have nz_b4_8_b2_44 : b4_8 ≠ b2_44 := Nat.ne_of_lt (Nat.lt_of_lt_of_le g36.lt fz_b2_44)
  have nz_b5_8_b2_44 : b5_8 ≠ b2_44 := Nat.ne_of_lt (Nat.lt_of_lt_of_le g37.lt fz_b2_44)
  have nz_ad24_b2_44 : ad24 ≠ b2_44 := Nat.ne_of_lt (Nat.lt_of_lt_of_le A24.lt fz_b2_44)
  have oz_b3_44 : n0 ≤ b3_44 := Nat.le_trans Z24 fz_b3_44
  have nz_ad1_b3_44 : ad1 ≠ b3_44 := Nat.ne_of_lt (Nat.lt_of_lt_of_le g25.lt fz_b3_44)
  have nz_b0_8_b3_44 : b0_8 ≠ b3_44 := Nat.ne_of_lt (Nat.lt_of_lt_of_le g32.lt fz_b3_44)
  have nz_b1_8_b3_44 : b1_8 ≠ b3_44 := Nat.ne_of_lt (Nat.lt_of_lt_of_le g33.lt fz_b3_44)
  have nz_b2_8_b3_44 : b2_8 ≠ b3_44 := Nat.ne_of_lt (Nat.lt_of_lt_of_le g34.lt fz_b3_44)
  have nz_b3_8_b3_44 : b3_8 ≠ b3_44 := Nat.ne_of_lt (Nat.lt_of_lt_of_le g35.lt fz_b3_44)
  have nz_b4_8_b3_44 : b4_8 ≠ b3_44 := Nat.ne_of_lt (Nat.lt_of_lt_of_le g36.lt fz_b3_44)
  have nz_b5_8_b3_44 : b5_8 ≠ b3_44 := Nat.ne_of_lt (Nat.lt_of_lt_of_le g37.lt fz_b3_44)
  have nz_ad24_b3_44 : ad24 ≠ b3_44 := Nat.ne_of_lt (Nat.lt_of_lt_of_le A24.lt fz_b3_44)
  have oz_b4_44 : n0 ≤ b4_44 := Nat.le_trans Z24 fz_b4_44
  have nz_ad1_b4_44 : ad1 ≠ b4_44 := Nat.ne_of_lt (Nat.lt_of_lt_of_le g25.lt fz_b4_44)
  have nz_b0_8_b4_44 : b0_8 ≠ b4_44 := Nat.ne_of_lt (Nat.lt_of_lt_of_le g32.lt fz_b4_44)
  have nz_b1_8_b4_44 : b1_8 ≠ b4_44 := Nat.ne_of_lt (Nat.lt_of_lt_of_le g33.lt fz_b4_44)
  have nz_b2_8_b4_44 : b2_8 ≠ b4_44 := Nat.ne_of_lt (Nat.lt_of_lt_of_le g34.lt fz_b4_44)
  have nz_b3_8_b4_44 : b3_8 ≠ b4_44 := Nat.ne_of_lt (Nat.lt_of_lt_of_le g35.lt fz_b4_44)
  have nz_b4_8_b4_44 : b4_8 ≠ b4_44 := Nat.ne_of_lt (Nat.lt_of_lt_of_le g36.lt fz_b4_44)
  have nz_b5_8_b4_44 : b5_8 ≠ b4_44 := Nat.ne_of_lt (Nat.lt_of_lt_of_le g37.lt fz_b4_44)
  have nz_ad24_b4_44 : ad24 ≠ b4_44 := Nat.ne_of_lt (Nat.lt_of_lt_of_le A24.lt fz_b4_44)
  have oz_b5_44 : n0 ≤ b5_44 := Nat.le_trans Z24 fz_b5_44
  have nz_ad1_b5_44 : ad1 ≠ b5_44 := Nat.ne_of_lt (Nat.lt_of_lt_of_le g25.lt fz_b5_44)
  have nz_b0_8_b5_44 : b0_8 ≠ b5_44 := Nat.ne_of_lt (Nat.lt_of_lt_of_le g32.lt fz_b5_44)
  have nz_b1_8_b5_44 : b1_8 ≠ b5_44 := Nat.ne_of_lt (Nat.lt_of_lt_of_le g33.lt fz_b5_44)
  have nz_b2_8_b5_44 : b2_8 ≠ b5_44 := Nat.ne_of_lt (Nat.lt_of_lt_of_le g34.lt fz_b5_44)
  have nz_b3_8_b5_44 : b3_8 ≠ b5_44 := Nat.ne_of_lt (Nat.lt_of_lt_of_le g35.lt fz_b5_44)
  have nz_b4_8_b5_44 : b4_8 ≠ b5_44 := Nat.ne_of_lt (Nat.lt_of_lt_of_le g36.lt fz_b5_44)
  have nz_b5_8_b5_44 : b5_8 ≠ b5_44 := Nat.ne_of_lt (Nat.lt_of_lt_of_le g37.lt fz_b5_44)
  have nz_ad24_b5_44 : ad24 ≠ b5_44 := Nat.ne_of_lt (Nat.lt_of_lt_of_le A24.lt fz_b5_44)
  have g59 := g25.keep K45
  have g60 := g26.keep K45 (ninS ne24_1 nin0)
  have g61 := g27.keep K45 (ninS ne24_1 nin0)
  have g62 := g28.keep K45 (ninS ne24_1 nin0)
  have g63 := g29.keep K45 (ninS ne24_1 nin0)
  have g64 := g30.keep K45 (ninS ne24_1 nin0)
  have g65 := g31.keep K45 (ninS ne24_1 nin0)
  have g66 := g32.keep K45 (ninS ne24_2 nin0)
  have g67 := g33.keep K45 (ninS ne24_3 nin0)
  have g68 := g34.keep K45 (ninS ne24_4 nin0)
  have g69 := g35.keep K45 (ninS ne24_5 nin0)
  have g70 := g36.keep K45 (ninS ne24_6 nin0)
  have g71 := g37.keep K45 (ninS ne24_7 nin0)
  have g72 := A24.keep K45
  have Z45 : n0 ≤ T58.heap.size := (Nat.le_trans Z24 K45.1)
  refine own_tr (T' := T58) (g' := (mkF m 18 #[own_j p0, s_, own_j p1, s_, own_j p2, s_, own_j p3, s_, iv p4, iv p5, rv ad1, u_, u_, u_, u_, u_, u_, u_] [.ref ad24])) st58 ?_
  refine own_s T58 (mkF m 20 #[own_j p0, s_, own_j p1, s_, own_j p2, s_, own_j p3, s_, iv p4, iv p5, rv ad1, rv ad24, u_, u_, u_, u_, u_, u_] []) (fun t k => XS.astore X58.here hx rfl (hb hby at_18) rfl rfl (l' := #[own_j p0, s_, own_j p1, s_, own_j p2, s_, own_j p3, s_, iv p4, iv p5, rv ad1, rv ad24, u_, u_, u_, u_, u_, u_]) rfl k) ?_
  refine own_s T58 (mkF m 22 #[own_j p0, s_, own_j p1, s_, own_j p2, s_, own_j p3, s_, iv p4, iv p5, rv ad1, rv ad24, u_, u_, u_, u_, u_, u_] [.int p4]) (fun t k => XS.iload X58.here hx rfl (hb hby at_20) rfl k) ?_
  refine own_s T58 (mkF m 24 #[own_j p0, s_, own_j p1, s_, own_j p2, s_, own_j p3, s_, iv p4, iv p5, rv ad1, rv ad24, u_, u_, u_, u_, u_, u_] [.int 65535, .int p4]) (X58.ldcInt hx hown (mvT hZ (hW 23 _ rfl)) (g := (mkF m 22 #[own_j p0, s_, own_j p1, s_, own_j p2, s_, own_j p3, s_, iv p4, iv p5, rv ad1, rv ad24, u_, u_, u_, u_, u_, u_] [.int p4])) rfl (hb hby at_22)) ?_
  refine own_s T58 (mkF m 25 #[own_j p0, s_, own_j p1, s_, own_j p2, s_, own_j p3, s_, iv p4, iv p5, rv ad1, rv ad24, u_, u_, u_, u_, u_, u_] [.int (p4 &&& (65535 : Int32))]) (fun t k => XS.iand X58.here hx rfl (hb hby at_24) rfl k) ?_
  generalize hd_w0 : (p4 &&& (65535 : Int32)) = w0
  refine own_s T58 (mkF m 27 #[own_j p0, s_, own_j p1, s_, own_j p2, s_, own_j p3, s_, iv p4, iv p5, rv ad1, rv ad24, iv w0, u_, u_, u_, u_, u_] []) (fun t k => XS.istore X58.here hx rfl (hb hby at_25) rfl (l' := #[own_j p0, s_, own_j p1, s_, own_j p2, s_, own_j p3, s_, iv p4, iv p5, rv ad1, rv ad24, iv w0, u_, u_, u_, u_, u_]) rfl k) ?_
  refine own_s T58 (mkF m 29 #[own_j p0, s_, own_j p1, s_, own_j p2, s_, own_j p3, s_, iv p4, iv p5, rv ad1, rv ad24, iv w0, u_, u_, u_, u_, u_] [.int p4]) (fun t k => XS.iload X58.here hx rfl (hb hby at_27) rfl k) ?_
  refine own_s T58 (mkF m 31 #[own_j p0, s_, own_j p1, s_, own_j p2, s_, own_j p3, s_, iv p4, iv p5, rv ad1, rv ad24, iv w0, u_, u_, u_, u_, u_] [.int 16, .int p4]) (fun t k => XS.bipush X58.here hx rfl (hb hby at_29) k) ?_
  refine own_s T58 (mkF m 32 #[own_j p0, s_, own_j p1, s_, own_j p2, s_, own_j p3, s_, iv p4, iv p5, rv ad1, rv ad24, iv w0, u_, u_, u_, u_, u_] [.int ((p4.toUInt32 >>> (16 : UInt32)).toInt32)]) (fun t k => XS.iushr X58.here hx rfl (hb hby at_31) rfl k) ?_
  generalize hd_w1 : ((p4.toUInt32 >>> (16 : UInt32)).toInt32) = w1
  refine own_s T58 (mkF m 34 #[own_j p0, s_, own_j p1, s_, own_j p2, s_, own_j p3, s_, iv p4, iv p5, rv ad1, rv ad24, iv w0, iv w1, u_, u_, u_, u_] []) (fun t k => XS.istore X58.here hx rfl (hb hby at_32) rfl (l' := #[own_j p0, s_, own_j p1, s_, own_j p2, s_, own_j p3, s_, iv p4, iv p5, rv ad1, rv ad24, iv w0, iv w1, u_, u_, u_, u_]) rfl k) ?_
  refine own_s T58 (mkF m 36 #[own_j p0, s_, own_j p1, s_, own_j p2, s_, own_j p3, s_, iv p4, iv p5, rv ad1, rv ad24, iv w0, iv w1, u_, u_, u_, u_] [.int p5]) (fun t k => XS.iload X58.here hx rfl (hb hby at_34) rfl k) ?_
  refine own_s T58 (mkF m 38 #[own_j p0, s_, own_j p1, s_, own_j p2, s_, own_j p3, s_, iv p4, iv p5, rv ad1, rv ad24, iv w0, iv w1, u_, u_, u_, u_] [.int 65535, .int p5]) (X58.ldcInt hx hown (mvT hZ (hW 23 _ rfl)) (g := (mkF m 36 #[own_j p0, s_, own_j p1, s_, own_j p2, s_, own_j p3, s_, iv p4, iv p5, rv ad1, rv ad24, iv w0, iv w1, u_, u_, u_, u_] [.int p5])) rfl (hb hby at_36)) ?_
  refine own_s T58 (mkF m 39 #[own_j p0, s_, own_j p1, s_, own_j p2, s_, own_j p3, s_, iv p4, iv p5, rv ad1, rv ad24, iv w0, iv w1, u_, u_, u_, u_] [.int (p5 &&& (65535 : Int32))]) (fun t k => XS.iand X58.here hx rfl (hb hby at_38) rfl k) ?_
  generalize hd_z0 : (p5 &&& (65535 : Int32)) = z0
  refine own_s T58 (mkF m 41 #[own_j p0, s_, own_j p1, s_, own_j p2, s_, own_j p3, s_, iv p4, iv p5, rv ad1, rv ad24, iv w0, iv w1, iv z0, u_, u_, u_] []) (fun t k => XS.istore X58.here hx rfl (hb hby at_39) rfl (l' := #[own_j p0, s_, own_j p1, s_, own_j p2, s_, own_j p3, s_, iv p4, iv p5, rv ad1, rv ad24, iv w0, iv w1, iv z0, u_, u_, u_]) rfl k) ?_
  refine own_s T58 (mkF m 43 #[own_j p0, s_, own_j p1, s_, own_j p2, s_, own_j p3, s_, iv p4, iv p5, rv ad1, rv ad24, iv w0, iv w1, iv z0, u_, u_, u_] [.int p5]) (fun t k => XS.iload X58.here hx rfl (hb hby at_41) rfl k) ?_
  refine own_s T58 (mkF m 45 #[own_j p0, s_, own_j p1, s_, own_j p2, s_, own_j p3, s_, iv p4, iv p5, rv ad1, rv ad24, iv w0, iv w1, iv z0, u_, u_, u_] [.int 16, .int p5]) (fun t k => XS.bipush X58.here hx rfl (hb hby at_43) k) ?_
  refine own_s T58 (mkF m 46 #[own_j p0, s_, own_j p1, s_, own_j p2, s_, own_j p3, s_, iv p4, iv p5, rv ad1, rv ad24, iv w0, iv w1, iv z0, u_, u_, u_] [.int ((p5.toUInt32 >>> (16 : UInt32)).toInt32)]) (fun t k => XS.iushr X58.here hx rfl (hb hby at_45) rfl k) ?_
  generalize hd_z1 : ((p5.toUInt32 >>> (16 : UInt32)).toInt32) = z1
  refine own_s T58 (mkF m 48 #[own_j p0, s_, own_j p1, s_, own_j p2, s_, own_j p3, s_, iv p4, iv p5, rv ad1, rv ad24, iv w0, iv w1, iv z0, iv z1, u_, u_] []) (fun t k => XS.istore X58.here hx rfl (hb hby at_46) rfl (l' := #[own_j p0, s_, own_j p1, s_, own_j p2, s_, own_j p3, s_, iv p4, iv p5, rv ad1, rv ad24, iv w0, iv w1, iv z0, iv z1, u_, u_]) rfl k) ?_
  have hw0 : own_16 w0 := by rw [← hd_w0]; exact own_m16 p4
  have hw1 : own_16 w1 := by rw [← hd_w1]; exact own_s16 p4
  have hz0 : own_16 z0 := by rw [← hd_z0]; exact own_m16 p5
  have hz1 : own_16 z1 := by rw [← hd_z1]; exact own_s16 p5
  clear hd_w0 hd_w1 hd_z0 hd_z1
  refine own_s T58 (mkF m 50 #[own_j p0, s_, own_j p1, s_, own_j p2, s_, own_j p3, s_, iv p4, iv p5, rv ad1, rv ad24, iv w0, iv w1, iv z0, iv z1, u_, u_] [.ref ad1]) (fun t k => XS.aload X58.here hx rfl (hb hby at_48) rfl rfl k) ?_
  obtain ⟨T73, X73, e73, st73⟩ := getF X58 hx hZ hown (host := "") (Or.inl (hW 24 _ rfl)) Via.refl rfl g60 (g := (mkF m 50 #[own_j p0, s_, own_j p1, s_, own_j p2, s_, own_j p3, s_, iv p4, iv p5, rv ad1, rv ad24, iv w0, iv w1, iv z0, iv z1, u_, u_] [.ref ad1])) rfl rfl (hb hby at_50)
  refine own_s T73 (mkF m 53 #[own_j p0, s_, own_j p1, s_, own_j p2, s_, own_j p3, s_, iv p4, iv p5, rv ad1, rv ad24, iv w0, iv w1, iv z0, iv z1, u_, u_] [.ref b0_8]) st73 ?_
  refine own_s T73 (mkF m 54 #[own_j p0, s_, own_j p1, s_, own_j p2, s_, own_j p3, s_, iv p4, iv p5, rv ad1, rv ad24, iv w0, iv w1, iv z0, iv z1, u_, u_] [.int 0, .ref b0_8]) (fun t k => XS.iconst X73.here hx rfl (hb hby at_53) k) ?_
  refine own_s T73 (mkF m 55 #[own_j p0, s_, own_j p1, s_, own_j p2, s_, own_j p3, s_, iv p4, iv p5, rv ad1, rv ad24, iv w0, iv w1, iv z0, iv z1, u_, u_] [.long p0, .int 0, .ref b0_8]) (fun t k => XS.lloadN X73.here hx rfl (hb hby at_54) rfl k) ?_
  obtain ⟨cl74, Ar74, qa74, S74, M74, H74, U74⟩ := id g66
  obtain ⟨T74, h74, X74, e74, W74, st74⟩ := stJ X73 hx hZ e73 Ar74 (j := (0 : Int32)) (inb_of S74 ⟨by decide, by decide⟩) (g := (mkF m 55 #[own_j p0, s_, own_j p1, s_, own_j p2, s_, own_j p3, s_, iv p4, iv p5, rv ad1, rv ad24, iv w0, iv w1, iv z0, iv z1, u_, u_] [.long p0, .int 0, .ref b0_8])) rfl rfl (hb hby at_55)
  have g75 := g59.wr W74
  have g76 := g60.other W74 (Or.inl nz_ad1_b0_8)
  have g77 := g61.other W74 (Or.inl nz_ad1_b0_8)
  have g78 := g62.other W74 (Or.inl nz_ad1_b0_8)
  have g79 := g63.other W74 (Or.inl nz_ad1_b0_8)
  have g80 := g64.other W74 (Or.inl nz_ad1_b0_8)
  have g81 := g65.other W74 (Or.inl nz_ad1_b0_8)
  have g82 : Arv Z h74 b0_8 q0_8 .long (2 : Int32) [(.long p0), (.long (0 : Int64))] (.long (0 : Int64)) := Arv.set Ar74 qa74 S74 M74 H74 U74 rfl W74 0 rfl (Nat.le_of_ble_eq_true rfl)
  have g83 := g67.other W74 (Ne.symm nz_b0_8_b1_8)
  have g84 := g68.other W74 (Ne.symm nz_b0_8_b2_8)
  have g85 := g69.other W74 (Ne.symm nz_b0_8_b3_8)
  have g86 := g70.other W74 (Ne.symm nz_b0_8_b4_8)
  have g87 := g71.other W74 (Ne.symm nz_b0_8_b5_8)
  have g88 := g72.wr W74
  have g89 := g46.other W74 (Or.inl (Ne.symm ne24_2))
  have g90 := g47.other W74 (Or.inl (Ne.symm ne24_2))
  have g91 := g48.other W74 (Or.inl (Ne.symm ne24_2))
  have g92 := g49.other W74 (Or.inl (Ne.symm ne24_2))
  have g93 := g50.other W74 (Or.inl (Ne.symm ne24_2))
  have g94 := g51.other W74 (Or.inl (Ne.symm ne24_2))
  have g95 := g52.other W74 (Ne.symm nz_b0_8_b0_44)
  have g96 := g53.other W74 (Ne.symm nz_b0_8_b1_44)
  have g97 := g54.other W74 (Ne.symm nz_b0_8_b2_44)
  have g98 := g55.other W74 (Ne.symm nz_b0_8_b3_44)
  have g99 := g56.other W74 (Ne.symm nz_b0_8_b4_44)
  have g100 := g57.other W74 (Ne.symm nz_b0_8_b5_44)
  have N74 := Fr.snoc X74 N58 oz_b0_8
  have Z74 : n0 ≤ h74.size := (Nat.le_trans Z45 (Nat.le_of_eq W74.size.symm))
  refine own_s T74 (mkF m 56 #[own_j p0, s_, own_j p1, s_, own_j p2, s_, own_j p3, s_, iv p4, iv p5, rv ad1, rv ad24, iv w0, iv w1, iv z0, iv z1, u_, u_] []) st74 ?_
  refine own_s T74 (mkF m 58 #[own_j p0, s_, own_j p1, s_, own_j p2, s_, own_j p3, s_, iv p4, iv p5, rv ad1, rv ad24, iv w0, iv w1, iv z0, iv z1, u_, u_] [.ref ad1]) (fun t k => XS.aload X74.here hx rfl (hb hby at_56) rfl rfl k) ?_
  obtain ⟨T101, X101, e101, st101⟩ := getF X74 hx hZ hown (host := "") (Or.inl (hW 24 _ rfl)) Via.refl e74 g76 (g := (mkF m 58 #[own_j p0, s_, own_j p1, s_, own_j p2, s_, own_j p3, s_, iv p4, iv p5, rv ad1, rv ad24, iv w0, iv w1, iv z0, iv z1, u_, u_] [.ref ad1])) rfl rfl (hb hby at_58)
  refine own_s T101 (mkF m 61 #[own_j p0, s_, own_j p1, s_, own_j p2, s_, own_j p3, s_, iv p4, iv p5, rv ad1, rv ad24, iv w0, iv w1, iv z0, iv z1, u_, u_] [.ref b0_8]) st101 ?_
  refine own_s T101 (mkF m 62 #[own_j p0, s_, own_j p1, s_, own_j p2, s_, own_j p3, s_, iv p4, iv p5, rv ad1, rv ad24, iv w0, iv w1, iv z0, iv z1, u_, u_] [.int 1, .ref b0_8]) (fun t k => XS.iconst X101.here hx rfl (hb hby at_61) k) ?_
  refine own_s T101 (mkF m 63 #[own_j p0, s_, own_j p1, s_, own_j p2, s_, own_j p3, s_, iv p4, iv p5, rv ad1, rv ad24, iv w0, iv w1, iv z0, iv z1, u_, u_] [.long p1, .int 1, .ref b0_8]) (fun t k => XS.lloadN X101.here hx rfl (hb hby at_62) rfl k) ?_
  obtain ⟨cl102, Ar102, qa102, S102, M102, H102, U102⟩ := id g82
  obtain ⟨T102, h102, X102, e102, W102, st102⟩ := stJ X101 hx hZ e101 Ar102 (j := (1 : Int32)) (inb_of S102 ⟨by decide, by decide⟩) (g := (mkF m 63 #[own_j p0, s_, own_j p1, s_, own_j p2, s_, own_j p3, s_, iv p4, iv p5, rv ad1, rv ad24, iv w0, iv w1, iv z0, iv z1, u_, u_] [.long p1, .int 1, .ref b0_8])) rfl rfl (hb hby at_63)
  have g103 := g75.wr W102
  have g104 := g76.other W102 (Or.inl nz_ad1_b0_8)
  have g105 := g77.other W102 (Or.inl nz_ad1_b0_8)
  have g106 := g78.other W102 (Or.inl nz_ad1_b0_8)
  have g107 := g79.other W102 (Or.inl nz_ad1_b0_8)
  have g108 := g80.other W102 (Or.inl nz_ad1_b0_8)
  have g109 := g81.other W102 (Or.inl nz_ad1_b0_8)
  have g110 : Arv Z h102 b0_8 q0_8 .long (2 : Int32) [(.long p0), (.long p1)] (.long (0 : Int64)) := Arv.set Ar102 qa102 S102 M102 H102 U102 rfl W102 1 rfl (Nat.le_of_ble_eq_true rfl)
  have g111 := g83.other W102 (Ne.symm nz_b0_8_b1_8)
  have g112 := g84.other W102 (Ne.symm nz_b0_8_b2_8)
  have g113 := g85.other W102 (Ne.symm nz_b0_8_b3_8)
  have g114 := g86.other W102 (Ne.symm nz_b0_8_b4_8)
  have g115 := g87.other W102 (Ne.symm nz_b0_8_b5_8)
  have g116 := g88.wr W102
  have g117 := g89.other W102 (Or.inl (Ne.symm ne24_2))
  have g118 := g90.other W102 (Or.inl (Ne.symm ne24_2))
  have g119 := g91.other W102 (Or.inl (Ne.symm ne24_2))
  have g120 := g92.other W102 (Or.inl (Ne.symm ne24_2))
  have g121 := g93.other W102 (Or.inl (Ne.symm ne24_2))
  have g122 := g94.other W102 (Or.inl (Ne.symm ne24_2))
  have g123 := g95.other W102 (Ne.symm nz_b0_8_b0_44)
  have g124 := g96.other W102 (Ne.symm nz_b0_8_b1_44)
  have g125 := g97.other W102 (Ne.symm nz_b0_8_b2_44)
  have g126 := g98.other W102 (Ne.symm nz_b0_8_b3_44)
  have g127 := g99.other W102 (Ne.symm nz_b0_8_b4_44)
  have g128 := g100.other W102 (Ne.symm nz_b0_8_b5_44)
  have N102 := Fr.snoc X102 N74 oz_b0_8
  have Z102 : n0 ≤ h102.size := (Nat.le_trans Z74 (Nat.le_of_eq W102.size.symm))
  refine own_s T102 (mkF m 64 #[own_j p0, s_, own_j p1, s_, own_j p2, s_, own_j p3, s_, iv p4, iv p5, rv ad1, rv ad24, iv w0, iv w1, iv z0, iv z1, u_, u_] []) st102 ?_
  refine own_s T102 (mkF m 66 #[own_j p0, s_, own_j p1, s_, own_j p2, s_, own_j p3, s_, iv p4, iv p5, rv ad1, rv ad24, iv w0, iv w1, iv z0, iv z1, u_, u_] [.ref ad1]) (fun t k => XS.aload X102.here hx rfl (hb hby at_64) rfl rfl k) ?_
  obtain ⟨T129, X129, e129, st129⟩ := getF X102 hx hZ hown (host := "") (Or.inl (hW 25 _ rfl)) Via.refl e102 g105 (g := (mkF m 66 #[own_j p0, s_, own_j p1, s_, own_j p2, s_, own_j p3, s_, iv p4, iv p5, rv ad1, rv ad24, iv w0, iv w1, iv z0, iv z1, u_, u_] [.ref ad1])) rfl rfl (hb hby at_66)
  refine own_s T129 (mkF m 69 #[own_j p0, s_, own_j p1, s_, own_j p2, s_, own_j p3, s_, iv p4, iv p5, rv ad1, rv ad24, iv w0, iv w1, iv z0, iv z1, u_, u_] [.ref b1_8]) st129 ?_
  refine own_s T129 (mkF m 70 #[own_j p0, s_, own_j p1, s_, own_j p2, s_, own_j p3, s_, iv p4, iv p5, rv ad1, rv ad24, iv w0, iv w1, iv z0, iv z1, u_, u_] [.int 0, .ref b1_8]) (fun t k => XS.iconst X129.here hx rfl (hb hby at_69) k) ?_
  refine own_s T129 (mkF m 71 #[own_j p0, s_, own_j p1, s_, own_j p2, s_, own_j p3, s_, iv p4, iv p5, rv ad1, rv ad24, iv w0, iv w1, iv z0, iv z1, u_, u_] [.long p1, .int 0, .ref b1_8]) (fun t k => XS.lloadN X129.here hx rfl (hb hby at_70) rfl k) ?_
  obtain ⟨cl130, Ar130, qa130, S130, M130, H130, U130⟩ := id g111
  obtain ⟨T130, h130, X130, e130, W130, st130⟩ := stJ X129 hx hZ e129 Ar130 (j := (0 : Int32)) (inb_of S130 ⟨by decide, by decide⟩) (g := (mkF m 71 #[own_j p0, s_, own_j p1, s_, own_j p2, s_, own_j p3, s_, iv p4, iv p5, rv ad1, rv ad24, iv w0, iv w1, iv z0, iv z1, u_, u_] [.long p1, .int 0, .ref b1_8])) rfl rfl (hb hby at_71)
  have g131 := g103.wr W130
  have g132 := g104.other W130 (Or.inl nz_ad1_b1_8)
  have g133 := g105.other W130 (Or.inl nz_ad1_b1_8)
  have g134 := g106.other W130 (Or.inl nz_ad1_b1_8)
  have g135 := g107.other W130 (Or.inl nz_ad1_b1_8)
  have g136 := g108.other W130 (Or.inl nz_ad1_b1_8)
  have g137 := g109.other W130 (Or.inl nz_ad1_b1_8)
  have g138 := g110.other W130 nz_b0_8_b1_8
  have g139 : Arv Z h130 b1_8 q1_8 .long (2 : Int32) [(.long p1), (.long (0 : Int64))] (.long (0 : Int64)) := Arv.set Ar130 qa130 S130 M130 H130 U130 rfl W130 0 rfl (Nat.le_of_ble_eq_true rfl)
  have g140 := g112.other W130 (Ne.symm nz_b1_8_b2_8)
  have g141 := g113.other W130 (Ne.symm nz_b1_8_b3_8)
  have g142 := g114.other W130 (Ne.symm nz_b1_8_b4_8)
  have g143 := g115.other W130 (Ne.symm nz_b1_8_b5_8)
  have g144 := g116.wr W130
  have g145 := g117.other W130 (Or.inl (Ne.symm ne24_3))
  have g146 := g118.other W130 (Or.inl (Ne.symm ne24_3))
  have g147 := g119.other W130 (Or.inl (Ne.symm ne24_3))
  have g148 := g120.other W130 (Or.inl (Ne.symm ne24_3))
  have g149 := g121.other W130 (Or.inl (Ne.symm ne24_3))
  have g150 := g122.other W130 (Or.inl (Ne.symm ne24_3))
  have g151 := g123.other W130 (Ne.symm nz_b1_8_b0_44)
  have g152 := g124.other W130 (Ne.symm nz_b1_8_b1_44)
  have g153 := g125.other W130 (Ne.symm nz_b1_8_b2_44)
  have g154 := g126.other W130 (Ne.symm nz_b1_8_b3_44)
  have g155 := g127.other W130 (Ne.symm nz_b1_8_b4_44)
  have g156 := g128.other W130 (Ne.symm nz_b1_8_b5_44)
  have N130 := Fr.snoc X130 N102 oz_b1_8
  have Z130 : n0 ≤ h130.size := (Nat.le_trans Z102 (Nat.le_of_eq W130.size.symm))
  refine own_s T130 (mkF m 72 #[own_j p0, s_, own_j p1, s_, own_j p2, s_, own_j p3, s_, iv p4, iv p5, rv ad1, rv ad24, iv w0, iv w1, iv z0, iv z1, u_, u_] []) st130 ?_
  refine own_s T130 (mkF m 74 #[own_j p0, s_, own_j p1, s_, own_j p2, s_, own_j p3, s_, iv p4, iv p5, rv ad1, rv ad24, iv w0, iv w1, iv z0, iv z1, u_, u_] [.ref ad1]) (fun t k => XS.aload X130.here hx rfl (hb hby at_72) rfl rfl k) ?_
  obtain ⟨T157, X157, e157, st157⟩ := getF X130 hx hZ hown (host := "") (Or.inl (hW 25 _ rfl)) Via.refl e130 g133 (g := (mkF m 74 #[own_j p0, s_, own_j p1, s_, own_j p2, s_, own_j p3, s_, iv p4, iv p5, rv ad1, rv ad24, iv w0, iv w1, iv z0, iv z1, u_, u_] [.ref ad1])) rfl rfl (hb hby at_74)
  refine own_s T157 (mkF m 77 #[own_j p0, s_, own_j p1, s_, own_j p2, s_, own_j p3, s_, iv p4, iv p5, rv ad1, rv ad24, iv w0, iv w1, iv z0, iv z1, u_, u_] [.ref b1_8]) st157 ?_
  refine own_s T157 (mkF m 78 #[own_j p0, s_, own_j p1, s_, own_j p2, s_, own_j p3, s_, iv p4, iv p5, rv ad1, rv ad24, iv w0, iv w1, iv z0, iv z1, u_, u_] [.int 1, .ref b1_8]) (fun t k => XS.iconst X157.here hx rfl (hb hby at_77) k) ?_
  refine own_s T157 (mkF m 80 #[own_j p0, s_, own_j p1, s_, own_j p2, s_, own_j p3, s_, iv p4, iv p5, rv ad1, rv ad24, iv w0, iv w1, iv z0, iv z1, u_, u_] [.long p2, .int 1, .ref b1_8]) (fun t k => XS.lload X157.here hx rfl (hb hby at_78) rfl k) ?_
  obtain ⟨cl158, Ar158, qa158, S158, M158, H158, U158⟩ := id g139
  obtain ⟨T158, h158, X158, e158, W158, st158⟩ := stJ X157 hx hZ e157 Ar158 (j := (1 : Int32)) (inb_of S158 ⟨by decide, by decide⟩) (g := (mkF m 80 #[own_j p0, s_, own_j p1, s_, own_j p2, s_, own_j p3, s_, iv p4, iv p5, rv ad1, rv ad24, iv w0, iv w1, iv z0, iv z1, u_, u_] [.long p2, .int 1, .ref b1_8])) rfl rfl (hb hby at_80)
  have g159 := g131.wr W158
  have g160 := g132.other W158 (Or.inl nz_ad1_b1_8)
  have g161 := g133.other W158 (Or.inl nz_ad1_b1_8)
  have g162 := g134.other W158 (Or.inl nz_ad1_b1_8)
  have g163 := g135.other W158 (Or.inl nz_ad1_b1_8)
  have g164 := g136.other W158 (Or.inl nz_ad1_b1_8)
  have g165 := g137.other W158 (Or.inl nz_ad1_b1_8)
  have g166 := g138.other W158 nz_b0_8_b1_8
  have g167 : Arv Z h158 b1_8 q1_8 .long (2 : Int32) [(.long p1), (.long p2)] (.long (0 : Int64)) := Arv.set Ar158 qa158 S158 M158 H158 U158 rfl W158 1 rfl (Nat.le_of_ble_eq_true rfl)
  have g168 := g140.other W158 (Ne.symm nz_b1_8_b2_8)
  have g169 := g141.other W158 (Ne.symm nz_b1_8_b3_8)
  have g170 := g142.other W158 (Ne.symm nz_b1_8_b4_8)
  have g171 := g143.other W158 (Ne.symm nz_b1_8_b5_8)
  have g172 := g144.wr W158
  have g173 := g145.other W158 (Or.inl (Ne.symm ne24_3))
  have g174 := g146.other W158 (Or.inl (Ne.symm ne24_3))
  have g175 := g147.other W158 (Or.inl (Ne.symm ne24_3))
  have g176 := g148.other W158 (Or.inl (Ne.symm ne24_3))
  have g177 := g149.other W158 (Or.inl (Ne.symm ne24_3))
  have g178 := g150.other W158 (Or.inl (Ne.symm ne24_3))
  have g179 := g151.other W158 (Ne.symm nz_b1_8_b0_44)
  have g180 := g152.other W158 (Ne.symm nz_b1_8_b1_44)
  have g181 := g153.other W158 (Ne.symm nz_b1_8_b2_44)
  have g182 := g154.other W158 (Ne.symm nz_b1_8_b3_44)
  have g183 := g155.other W158 (Ne.symm nz_b1_8_b4_44)
  have g184 := g156.other W158 (Ne.symm nz_b1_8_b5_44)
  have N158 := Fr.snoc X158 N130 oz_b1_8
  have Z158 : n0 ≤ h158.size := (Nat.le_trans Z130 (Nat.le_of_eq W158.size.symm))
  refine own_s T158 (mkF m 81 #[own_j p0, s_, own_j p1, s_, own_j p2, s_, own_j p3, s_, iv p4, iv p5, rv ad1, rv ad24, iv w0, iv w1, iv z0, iv z1, u_, u_] []) st158 ?_
  refine own_s T158 (mkF m 83 #[own_j p0, s_, own_j p1, s_, own_j p2, s_, own_j p3, s_, iv p4, iv p5, rv ad1, rv ad24, iv w0, iv w1, iv z0, iv z1, u_, u_] [.ref ad1]) (fun t k => XS.aload X158.here hx rfl (hb hby at_81) rfl rfl k) ?_
  obtain ⟨T185, X185, e185, st185⟩ := getF X158 hx hZ hown (host := "") (Or.inl (hW 26 _ rfl)) Via.refl e158 g162 (g := (mkF m 83 #[own_j p0, s_, own_j p1, s_, own_j p2, s_, own_j p3, s_, iv p4, iv p5, rv ad1, rv ad24, iv w0, iv w1, iv z0, iv z1, u_, u_] [.ref ad1])) rfl rfl (hb hby at_83)
  refine own_s T185 (mkF m 86 #[own_j p0, s_, own_j p1, s_, own_j p2, s_, own_j p3, s_, iv p4, iv p5, rv ad1, rv ad24, iv w0, iv w1, iv z0, iv z1, u_, u_] [.ref b2_8]) st185 ?_
  refine own_s T185 (mkF m 87 #[own_j p0, s_, own_j p1, s_, own_j p2, s_, own_j p3, s_, iv p4, iv p5, rv ad1, rv ad24, iv w0, iv w1, iv z0, iv z1, u_, u_] [.int 0, .ref b2_8]) (fun t k => XS.iconst X185.here hx rfl (hb hby at_86) k) ?_
  refine own_s T185 (mkF m 89 #[own_j p0, s_, own_j p1, s_, own_j p2, s_, own_j p3, s_, iv p4, iv p5, rv ad1, rv ad24, iv w0, iv w1, iv z0, iv z1, u_, u_] [.long p2, .int 0, .ref b2_8]) (fun t k => XS.lload X185.here hx rfl (hb hby at_87) rfl k) ?_
  obtain ⟨cl186, Ar186, qa186, S186, M186, H186, U186⟩ := id g168
  obtain ⟨T186, h186, X186, e186, W186, st186⟩ := stJ X185 hx hZ e185 Ar186 (j := (0 : Int32)) (inb_of S186 ⟨by decide, by decide⟩) (g := (mkF m 89 #[own_j p0, s_, own_j p1, s_, own_j p2, s_, own_j p3, s_, iv p4, iv p5, rv ad1, rv ad24, iv w0, iv w1, iv z0, iv z1, u_, u_] [.long p2, .int 0, .ref b2_8])) rfl rfl (hb hby at_89)
  have g187 := g159.wr W186
  have g188 := g160.other W186 (Or.inl nz_ad1_b2_8)
  have g189 := g161.other W186 (Or.inl nz_ad1_b2_8)
  have g190 := g162.other W186 (Or.inl nz_ad1_b2_8)
  have g191 := g163.other W186 (Or.inl nz_ad1_b2_8)
  have g192 := g164.other W186 (Or.inl nz_ad1_b2_8)
  have g193 := g165.other W186 (Or.inl nz_ad1_b2_8)
  have g194 := g166.other W186 nz_b0_8_b2_8
  have g195 := g167.other W186 nz_b1_8_b2_8
  have g196 : Arv Z h186 b2_8 q2_8 .long (2 : Int32) [(.long p2), (.long (0 : Int64))] (.long (0 : Int64)) := Arv.set Ar186 qa186 S186 M186 H186 U186 rfl W186 0 rfl (Nat.le_of_ble_eq_true rfl)
  have g197 := g169.other W186 (Ne.symm nz_b2_8_b3_8)
  have g198 := g170.other W186 (Ne.symm nz_b2_8_b4_8)
  have g199 := g171.other W186 (Ne.symm nz_b2_8_b5_8)
  have g200 := g172.wr W186
  have g201 := g173.other W186 (Or.inl (Ne.symm ne24_4))
  have g202 := g174.other W186 (Or.inl (Ne.symm ne24_4))
  have g203 := g175.other W186 (Or.inl (Ne.symm ne24_4))
  have g204 := g176.other W186 (Or.inl (Ne.symm ne24_4))
  have g205 := g177.other W186 (Or.inl (Ne.symm ne24_4))
  have g206 := g178.other W186 (Or.inl (Ne.symm ne24_4))
  have g207 := g179.other W186 (Ne.symm nz_b2_8_b0_44)
  have g208 := g180.other W186 (Ne.symm nz_b2_8_b1_44)
  have g209 := g181.other W186 (Ne.symm nz_b2_8_b2_44)
  have g210 := g182.other W186 (Ne.symm nz_b2_8_b3_44)
  have g211 := g183.other W186 (Ne.symm nz_b2_8_b4_44)
  have g212 := g184.other W186 (Ne.symm nz_b2_8_b5_44)
  have N186 := Fr.snoc X186 N158 oz_b2_8
  have Z186 : n0 ≤ h186.size := (Nat.le_trans Z158 (Nat.le_of_eq W186.size.symm))
  refine own_s T186 (mkF m 90 #[own_j p0, s_, own_j p1, s_, own_j p2, s_, own_j p3, s_, iv p4, iv p5, rv ad1, rv ad24, iv w0, iv w1, iv z0, iv z1, u_, u_] []) st186 ?_
  refine own_s T186 (mkF m 92 #[own_j p0, s_, own_j p1, s_, own_j p2, s_, own_j p3, s_, iv p4, iv p5, rv ad1, rv ad24, iv w0, iv w1, iv z0, iv z1, u_, u_] [.ref ad1]) (fun t k => XS.aload X186.here hx rfl (hb hby at_90) rfl rfl k) ?_
  obtain ⟨T213, X213, e213, st213⟩ := getF X186 hx hZ hown (host := "") (Or.inl (hW 26 _ rfl)) Via.refl e186 g190 (g := (mkF m 92 #[own_j p0, s_, own_j p1, s_, own_j p2, s_, own_j p3, s_, iv p4, iv p5, rv ad1, rv ad24, iv w0, iv w1, iv z0, iv z1, u_, u_] [.ref ad1])) rfl rfl (hb hby at_92)
  refine own_s T213 (mkF m 95 #[own_j p0, s_, own_j p1, s_, own_j p2, s_, own_j p3, s_, iv p4, iv p5, rv ad1, rv ad24, iv w0, iv w1, iv z0, iv z1, u_, u_] [.ref b2_8]) st213 ?_
  refine own_s T213 (mkF m 96 #[own_j p0, s_, own_j p1, s_, own_j p2, s_, own_j p3, s_, iv p4, iv p5, rv ad1, rv ad24, iv w0, iv w1, iv z0, iv z1, u_, u_] [.int 1, .ref b2_8]) (fun t k => XS.iconst X213.here hx rfl (hb hby at_95) k) ?_
  refine own_s T213 (mkF m 98 #[own_j p0, s_, own_j p1, s_, own_j p2, s_, own_j p3, s_, iv p4, iv p5, rv ad1, rv ad24, iv w0, iv w1, iv z0, iv z1, u_, u_] [.long p3, .int 1, .ref b2_8]) (fun t k => XS.lload X213.here hx rfl (hb hby at_96) rfl k) ?_
  obtain ⟨cl214, Ar214, qa214, S214, M214, H214, U214⟩ := id g196
  obtain ⟨T214, h214, X214, e214, W214, st214⟩ := stJ X213 hx hZ e213 Ar214 (j := (1 : Int32)) (inb_of S214 ⟨by decide, by decide⟩) (g := (mkF m 98 #[own_j p0, s_, own_j p1, s_, own_j p2, s_, own_j p3, s_, iv p4, iv p5, rv ad1, rv ad24, iv w0, iv w1, iv z0, iv z1, u_, u_] [.long p3, .int 1, .ref b2_8])) rfl rfl (hb hby at_98)
  have g215 := g187.wr W214
  have g216 := g188.other W214 (Or.inl nz_ad1_b2_8)
  have g217 := g189.other W214 (Or.inl nz_ad1_b2_8)
  have g218 := g190.other W214 (Or.inl nz_ad1_b2_8)
  have g219 := g191.other W214 (Or.inl nz_ad1_b2_8)
  have g220 := g192.other W214 (Or.inl nz_ad1_b2_8)
  have g221 := g193.other W214 (Or.inl nz_ad1_b2_8)
  have g222 := g194.other W214 nz_b0_8_b2_8
  have g223 := g195.other W214 nz_b1_8_b2_8
  have g224 : Arv Z h214 b2_8 q2_8 .long (2 : Int32) [(.long p2), (.long p3)] (.long (0 : Int64)) := Arv.set Ar214 qa214 S214 M214 H214 U214 rfl W214 1 rfl (Nat.le_of_ble_eq_true rfl)
  have g225 := g197.other W214 (Ne.symm nz_b2_8_b3_8)
  have g226 := g198.other W214 (Ne.symm nz_b2_8_b4_8)
  have g227 := g199.other W214 (Ne.symm nz_b2_8_b5_8)
  have g228 := g200.wr W214
  have g229 := g201.other W214 (Or.inl (Ne.symm ne24_4))
  have g230 := g202.other W214 (Or.inl (Ne.symm ne24_4))
  have g231 := g203.other W214 (Or.inl (Ne.symm ne24_4))
  have g232 := g204.other W214 (Or.inl (Ne.symm ne24_4))
  have g233 := g205.other W214 (Or.inl (Ne.symm ne24_4))
  have g234 := g206.other W214 (Or.inl (Ne.symm ne24_4))
  have g235 := g207.other W214 (Ne.symm nz_b2_8_b0_44)
  have g236 := g208.other W214 (Ne.symm nz_b2_8_b1_44)
  have g237 := g209.other W214 (Ne.symm nz_b2_8_b2_44)
  have g238 := g210.other W214 (Ne.symm nz_b2_8_b3_44)
  have g239 := g211.other W214 (Ne.symm nz_b2_8_b4_44)
  have g240 := g212.other W214 (Ne.symm nz_b2_8_b5_44)
  have N214 := Fr.snoc X214 N186 oz_b2_8
  have Z214 : n0 ≤ h214.size := (Nat.le_trans Z186 (Nat.le_of_eq W214.size.symm))
  refine own_s T214 (mkF m 99 #[own_j p0, s_, own_j p1, s_, own_j p2, s_, own_j p3, s_, iv p4, iv p5, rv ad1, rv ad24, iv w0, iv w1, iv z0, iv z1, u_, u_] []) st214 ?_
  refine own_s T214 (mkF m 101 #[own_j p0, s_, own_j p1, s_, own_j p2, s_, own_j p3, s_, iv p4, iv p5, rv ad1, rv ad24, iv w0, iv w1, iv z0, iv z1, u_, u_] [.ref ad1]) (fun t k => XS.aload X214.here hx rfl (hb hby at_99) rfl rfl k) ?_
  obtain ⟨T241, X241, e241, st241⟩ := getF X214 hx hZ hown (host := "") (Or.inl (hW 27 _ rfl)) Via.refl e214 g219 (g := (mkF m 101 #[own_j p0, s_, own_j p1, s_, own_j p2, s_, own_j p3, s_, iv p4, iv p5, rv ad1, rv ad24, iv w0, iv w1, iv z0, iv z1, u_, u_] [.ref ad1])) rfl rfl (hb hby at_101)
  refine own_s T241 (mkF m 104 #[own_j p0, s_, own_j p1, s_, own_j p2, s_, own_j p3, s_, iv p4, iv p5, rv ad1, rv ad24, iv w0, iv w1, iv z0, iv z1, u_, u_] [.ref b3_8]) st241 ?_
  refine own_s T241 (mkF m 105 #[own_j p0, s_, own_j p1, s_, own_j p2, s_, own_j p3, s_, iv p4, iv p5, rv ad1, rv ad24, iv w0, iv w1, iv z0, iv z1, u_, u_] [.int 0, .ref b3_8]) (fun t k => XS.iconst X241.here hx rfl (hb hby at_104) k) ?_
  refine own_s T241 (mkF m 107 #[own_j p0, s_, own_j p1, s_, own_j p2, s_, own_j p3, s_, iv p4, iv p5, rv ad1, rv ad24, iv w0, iv w1, iv z0, iv z1, u_, u_] [.long p3, .int 0, .ref b3_8]) (fun t k => XS.lload X241.here hx rfl (hb hby at_105) rfl k) ?_
  obtain ⟨cl242, Ar242, qa242, S242, M242, H242, U242⟩ := id g225
  obtain ⟨T242, h242, X242, e242, W242, st242⟩ := stJ X241 hx hZ e241 Ar242 (j := (0 : Int32)) (inb_of S242 ⟨by decide, by decide⟩) (g := (mkF m 107 #[own_j p0, s_, own_j p1, s_, own_j p2, s_, own_j p3, s_, iv p4, iv p5, rv ad1, rv ad24, iv w0, iv w1, iv z0, iv z1, u_, u_] [.long p3, .int 0, .ref b3_8])) rfl rfl (hb hby at_107)
  have g243 := g215.wr W242
  have g244 := g216.other W242 (Or.inl nz_ad1_b3_8)
  have g245 := g217.other W242 (Or.inl nz_ad1_b3_8)
  have g246 := g218.other W242 (Or.inl nz_ad1_b3_8)
  have g247 := g219.other W242 (Or.inl nz_ad1_b3_8)
  have g248 := g220.other W242 (Or.inl nz_ad1_b3_8)
  have g249 := g221.other W242 (Or.inl nz_ad1_b3_8)
  have g250 := g222.other W242 nz_b0_8_b3_8
  have g251 := g223.other W242 nz_b1_8_b3_8
  have g252 := g224.other W242 nz_b2_8_b3_8
  have g253 : Arv Z h242 b3_8 q3_8 .long (2 : Int32) [(.long p3), (.long (0 : Int64))] (.long (0 : Int64)) := Arv.set Ar242 qa242 S242 M242 H242 U242 rfl W242 0 rfl (Nat.le_of_ble_eq_true rfl)
  have g254 := g226.other W242 (Ne.symm nz_b3_8_b4_8)
  have g255 := g227.other W242 (Ne.symm nz_b3_8_b5_8)
  have g256 := g228.wr W242
  have g257 := g229.other W242 (Or.inl (Ne.symm ne24_5))
  have g258 := g230.other W242 (Or.inl (Ne.symm ne24_5))
  have g259 := g231.other W242 (Or.inl (Ne.symm ne24_5))
  have g260 := g232.other W242 (Or.inl (Ne.symm ne24_5))
  have g261 := g233.other W242 (Or.inl (Ne.symm ne24_5))
  have g262 := g234.other W242 (Or.inl (Ne.symm ne24_5))
  have g263 := g235.other W242 (Ne.symm nz_b3_8_b0_44)
  have g264 := g236.other W242 (Ne.symm nz_b3_8_b1_44)
  have g265 := g237.other W242 (Ne.symm nz_b3_8_b2_44)
  have g266 := g238.other W242 (Ne.symm nz_b3_8_b3_44)
  have g267 := g239.other W242 (Ne.symm nz_b3_8_b4_44)
  have g268 := g240.other W242 (Ne.symm nz_b3_8_b5_44)
  have N242 := Fr.snoc X242 N214 oz_b3_8
  have Z242 : n0 ≤ h242.size := (Nat.le_trans Z214 (Nat.le_of_eq W242.size.symm))
  refine own_s T242 (mkF m 108 #[own_j p0, s_, own_j p1, s_, own_j p2, s_, own_j p3, s_, iv p4, iv p5, rv ad1, rv ad24, iv w0, iv w1, iv z0, iv z1, u_, u_] []) st242 ?_
  refine own_s T242 (mkF m 110 #[own_j p0, s_, own_j p1, s_, own_j p2, s_, own_j p3, s_, iv p4, iv p5, rv ad1, rv ad24, iv w0, iv w1, iv z0, iv z1, u_, u_] [.ref ad1]) (fun t k => XS.aload X242.here hx rfl (hb hby at_108) rfl rfl k) ?_
  obtain ⟨T269, X269, e269, st269⟩ := getF X242 hx hZ hown (host := "") (Or.inl (hW 27 _ rfl)) Via.refl e242 g247 (g := (mkF m 110 #[own_j p0, s_, own_j p1, s_, own_j p2, s_, own_j p3, s_, iv p4, iv p5, rv ad1, rv ad24, iv w0, iv w1, iv z0, iv z1, u_, u_] [.ref ad1])) rfl rfl (hb hby at_110)
  refine own_s T269 (mkF m 113 #[own_j p0, s_, own_j p1, s_, own_j p2, s_, own_j p3, s_, iv p4, iv p5, rv ad1, rv ad24, iv w0, iv w1, iv z0, iv z1, u_, u_] [.ref b3_8]) st269 ?_
  refine own_s T269 (mkF m 114 #[own_j p0, s_, own_j p1, s_, own_j p2, s_, own_j p3, s_, iv p4, iv p5, rv ad1, rv ad24, iv w0, iv w1, iv z0, iv z1, u_, u_] [.int 1, .ref b3_8]) (fun t k => XS.iconst X269.here hx rfl (hb hby at_113) k) ?_
  refine own_s T269 (mkF m 115 #[own_j p0, s_, own_j p1, s_, own_j p2, s_, own_j p3, s_, iv p4, iv p5, rv ad1, rv ad24, iv w0, iv w1, iv z0, iv z1, u_, u_] [.long p0, .int 1, .ref b3_8]) (fun t k => XS.lloadN X269.here hx rfl (hb hby at_114) rfl k) ?_
  refine own_s T269 (mkF m 116 #[own_j p0, s_, own_j p1, s_, own_j p2, s_, own_j p3, s_, iv p4, iv p5, rv ad1, rv ad24, iv w0, iv w1, iv z0, iv z1, u_, u_] [.long p1, .long p0, .int 1, .ref b3_8]) (fun t k => XS.lloadN X269.here hx rfl (hb hby at_115) rfl k) ?_
  refine own_s T269 (mkF m 117 #[own_j p0, s_, own_j p1, s_, own_j p2, s_, own_j p3, s_, iv p4, iv p5, rv ad1, rv ad24, iv w0, iv w1, iv z0, iv z1, u_, u_] [.long (p0 ^^^ p1), .int 1, .ref b3_8]) (fun t k => XS.lxor X269.here hx rfl (hb hby at_116) rfl k) ?_
  obtain ⟨cl270, Ar270, qa270, S270, M270, H270, U270⟩ := id g253
  obtain ⟨T270, h270, X270, e270, W270, st270⟩ := stJ X269 hx hZ e269 Ar270 (j := (1 : Int32)) (inb_of S270 ⟨by decide, by decide⟩) (g := (mkF m 117 #[own_j p0, s_, own_j p1, s_, own_j p2, s_, own_j p3, s_, iv p4, iv p5, rv ad1, rv ad24, iv w0, iv w1, iv z0, iv z1, u_, u_] [.long (p0 ^^^ p1), .int 1, .ref b3_8])) rfl rfl (hb hby at_117)
  have g271 := g243.wr W270
  have g272 := g244.other W270 (Or.inl nz_ad1_b3_8)
  have g273 := g245.other W270 (Or.inl nz_ad1_b3_8)
  have g274 := g246.other W270 (Or.inl nz_ad1_b3_8)
  have g275 := g247.other W270 (Or.inl nz_ad1_b3_8)
  have g276 := g248.other W270 (Or.inl nz_ad1_b3_8)
  have g277 := g249.other W270 (Or.inl nz_ad1_b3_8)
  have g278 := g250.other W270 nz_b0_8_b3_8
  have g279 := g251.other W270 nz_b1_8_b3_8
  have g280 := g252.other W270 nz_b2_8_b3_8
  have g281 : Arv Z h270 b3_8 q3_8 .long (2 : Int32) [(.long p3), (.long (p0 ^^^ p1))] (.long (0 : Int64)) := Arv.set Ar270 qa270 S270 M270 H270 U270 rfl W270 1 rfl (Nat.le_of_ble_eq_true rfl)
  have g282 := g254.other W270 (Ne.symm nz_b3_8_b4_8)
  have g283 := g255.other W270 (Ne.symm nz_b3_8_b5_8)
  have g284 := g256.wr W270
  have g285 := g257.other W270 (Or.inl (Ne.symm ne24_5))
  have g286 := g258.other W270 (Or.inl (Ne.symm ne24_5))
  have g287 := g259.other W270 (Or.inl (Ne.symm ne24_5))
  have g288 := g260.other W270 (Or.inl (Ne.symm ne24_5))
  have g289 := g261.other W270 (Or.inl (Ne.symm ne24_5))
  have g290 := g262.other W270 (Or.inl (Ne.symm ne24_5))
  have g291 := g263.other W270 (Ne.symm nz_b3_8_b0_44)
  have g292 := g264.other W270 (Ne.symm nz_b3_8_b1_44)
  have g293 := g265.other W270 (Ne.symm nz_b3_8_b2_44)
  have g294 := g266.other W270 (Ne.symm nz_b3_8_b3_44)
  have g295 := g267.other W270 (Ne.symm nz_b3_8_b4_44)
  have g296 := g268.other W270 (Ne.symm nz_b3_8_b5_44)
  have N270 := Fr.snoc X270 N242 oz_b3_8
  have Z270 : n0 ≤ h270.size := (Nat.le_trans Z242 (Nat.le_of_eq W270.size.symm))
  refine own_s T270 (mkF m 118 #[own_j p0, s_, own_j p1, s_, own_j p2, s_, own_j p3, s_, iv p4, iv p5, rv ad1, rv ad24, iv w0, iv w1, iv z0, iv z1, u_, u_] []) st270 ?_
  refine own_s T270 (mkF m 120 #[own_j p0, s_, own_j p1, s_, own_j p2, s_, own_j p3, s_, iv p4, iv p5, rv ad1, rv ad24, iv w0, iv w1, iv z0, iv z1, u_, u_] [.ref ad1]) (fun t k => XS.aload X270.here hx rfl (hb hby at_118) rfl rfl k) ?_
  obtain ⟨T297, X297, e297, st297⟩ := getF X270 hx hZ hown (host := "") (Or.inl (hW 28 _ rfl)) Via.refl e270 g276 (g := (mkF m 120 #[own_j p0, s_, own_j p1, s_, own_j p2, s_, own_j p3, s_, iv p4, iv p5, rv ad1, rv ad24, iv w0, iv w1, iv z0, iv z1, u_, u_] [.ref ad1])) rfl rfl (hb hby at_120)
  refine own_s T297 (mkF m 123 #[own_j p0, s_, own_j p1, s_, own_j p2, s_, own_j p3, s_, iv p4, iv p5, rv ad1, rv ad24, iv w0, iv w1, iv z0, iv z1, u_, u_] [.ref b4_8]) st297 ?_
  refine own_s T297 (mkF m 124 #[own_j p0, s_, own_j p1, s_, own_j p2, s_, own_j p3, s_, iv p4, iv p5, rv ad1, rv ad24, iv w0, iv w1, iv z0, iv z1, u_, u_] [.int 0, .ref b4_8]) (fun t k => XS.iconst X297.here hx rfl (hb hby at_123) k) ?_
  refine own_s T297 (mkF m 125 #[own_j p0, s_, own_j p1, s_, own_j p2, s_, own_j p3, s_, iv p4, iv p5, rv ad1, rv ad24, iv w0, iv w1, iv z0, iv z1, u_, u_] [.long p0, .int 0, .ref b4_8]) (fun t k => XS.lloadN X297.here hx rfl (hb hby at_124) rfl k) ?_
  refine own_s T297 (mkF m 127 #[own_j p0, s_, own_j p1, s_, own_j p2, s_, own_j p3, s_, iv p4, iv p5, rv ad1, rv ad24, iv w0, iv w1, iv z0, iv z1, u_, u_] [.long p2, .long p0, .int 0, .ref b4_8]) (fun t k => XS.lload X297.here hx rfl (hb hby at_125) rfl k) ?_
  refine own_s T297 (mkF m 128 #[own_j p0, s_, own_j p1, s_, own_j p2, s_, own_j p3, s_, iv p4, iv p5, rv ad1, rv ad24, iv w0, iv w1, iv z0, iv z1, u_, u_] [.long (p0 + p2), .int 0, .ref b4_8]) (fun t k => XS.ladd X297.here hx rfl (hb hby at_127) rfl k) ?_
  obtain ⟨cl298, Ar298, qa298, S298, M298, H298, U298⟩ := id g282
  obtain ⟨T298, h298, X298, e298, W298, st298⟩ := stJ X297 hx hZ e297 Ar298 (j := (0 : Int32)) (inb_of S298 ⟨by decide, by decide⟩) (g := (mkF m 128 #[own_j p0, s_, own_j p1, s_, own_j p2, s_, own_j p3, s_, iv p4, iv p5, rv ad1, rv ad24, iv w0, iv w1, iv z0, iv z1, u_, u_] [.long (p0 + p2), .int 0, .ref b4_8])) rfl rfl (hb hby at_128)
  have g299 := g271.wr W298
  have g300 := g272.other W298 (Or.inl nz_ad1_b4_8)
  have g301 := g273.other W298 (Or.inl nz_ad1_b4_8)
  have g302 := g274.other W298 (Or.inl nz_ad1_b4_8)
  have g303 := g275.other W298 (Or.inl nz_ad1_b4_8)
  have g304 := g276.other W298 (Or.inl nz_ad1_b4_8)
  have g305 := g277.other W298 (Or.inl nz_ad1_b4_8)
  have g306 := g278.other W298 nz_b0_8_b4_8
  have g307 := g279.other W298 nz_b1_8_b4_8
  have g308 := g280.other W298 nz_b2_8_b4_8
  have g309 := g281.other W298 nz_b3_8_b4_8
  have g310 : Arv Z h298 b4_8 q4_8 .long (2 : Int32) [(.long (p0 + p2)), (.long (0 : Int64))] (.long (0 : Int64)) := Arv.set Ar298 qa298 S298 M298 H298 U298 rfl W298 0 rfl (Nat.le_of_ble_eq_true rfl)
  have g311 := g283.other W298 (Ne.symm nz_b4_8_b5_8)
  have g312 := g284.wr W298
  have g313 := g285.other W298 (Or.inl (Ne.symm ne24_6))
  have g314 := g286.other W298 (Or.inl (Ne.symm ne24_6))
  have g315 := g287.other W298 (Or.inl (Ne.symm ne24_6))
  have g316 := g288.other W298 (Or.inl (Ne.symm ne24_6))
  have g317 := g289.other W298 (Or.inl (Ne.symm ne24_6))
  have g318 := g290.other W298 (Or.inl (Ne.symm ne24_6))
  have g319 := g291.other W298 (Ne.symm nz_b4_8_b0_44)
  have g320 := g292.other W298 (Ne.symm nz_b4_8_b1_44)
  have g321 := g293.other W298 (Ne.symm nz_b4_8_b2_44)
  have g322 := g294.other W298 (Ne.symm nz_b4_8_b3_44)
  have g323 := g295.other W298 (Ne.symm nz_b4_8_b4_44)
  have g324 := g296.other W298 (Ne.symm nz_b4_8_b5_44)
  have N298 := Fr.snoc X298 N270 oz_b4_8
  have Z298 : n0 ≤ h298.size := (Nat.le_trans Z270 (Nat.le_of_eq W298.size.symm))
  refine own_s T298 (mkF m 129 #[own_j p0, s_, own_j p1, s_, own_j p2, s_, own_j p3, s_, iv p4, iv p5, rv ad1, rv ad24, iv w0, iv w1, iv z0, iv z1, u_, u_] []) st298 ?_
  refine own_s T298 (mkF m 131 #[own_j p0, s_, own_j p1, s_, own_j p2, s_, own_j p3, s_, iv p4, iv p5, rv ad1, rv ad24, iv w0, iv w1, iv z0, iv z1, u_, u_] [.ref ad1]) (fun t k => XS.aload X298.here hx rfl (hb hby at_129) rfl rfl k) ?_
  obtain ⟨T325, X325, e325, st325⟩ := getF X298 hx hZ hown (host := "") (Or.inl (hW 28 _ rfl)) Via.refl e298 g304 (g := (mkF m 131 #[own_j p0, s_, own_j p1, s_, own_j p2, s_, own_j p3, s_, iv p4, iv p5, rv ad1, rv ad24, iv w0, iv w1, iv z0, iv z1, u_, u_] [.ref ad1])) rfl rfl (hb hby at_131)
  refine own_s T325 (mkF m 134 #[own_j p0, s_, own_j p1, s_, own_j p2, s_, own_j p3, s_, iv p4, iv p5, rv ad1, rv ad24, iv w0, iv w1, iv z0, iv z1, u_, u_] [.ref b4_8]) st325 ?_
  refine own_s T325 (mkF m 135 #[own_j p0, s_, own_j p1, s_, own_j p2, s_, own_j p3, s_, iv p4, iv p5, rv ad1, rv ad24, iv w0, iv w1, iv z0, iv z1, u_, u_] [.int 1, .ref b4_8]) (fun t k => XS.iconst X325.here hx rfl (hb hby at_134) k) ?_
  refine own_s T325 (mkF m 136 #[own_j p0, s_, own_j p1, s_, own_j p2, s_, own_j p3, s_, iv p4, iv p5, rv ad1, rv ad24, iv w0, iv w1, iv z0, iv z1, u_, u_] [.long p1, .int 1, .ref b4_8]) (fun t k => XS.lloadN X325.here hx rfl (hb hby at_135) rfl k) ?_
  refine own_s T325 (mkF m 138 #[own_j p0, s_, own_j p1, s_, own_j p2, s_, own_j p3, s_, iv p4, iv p5, rv ad1, rv ad24, iv w0, iv w1, iv z0, iv z1, u_, u_] [.long p3, .long p1, .int 1, .ref b4_8]) (fun t k => XS.lload X325.here hx rfl (hb hby at_136) rfl k) ?_
  refine own_s T325 (mkF m 139 #[own_j p0, s_, own_j p1, s_, own_j p2, s_, own_j p3, s_, iv p4, iv p5, rv ad1, rv ad24, iv w0, iv w1, iv z0, iv z1, u_, u_] [.long (p1 - p3), .int 1, .ref b4_8]) (fun t k => XS.lsub X325.here hx rfl (hb hby at_138) rfl k) ?_
  obtain ⟨cl326, Ar326, qa326, S326, M326, H326, U326⟩ := id g310
  obtain ⟨T326, h326, X326, e326, W326, st326⟩ := stJ X325 hx hZ e325 Ar326 (j := (1 : Int32)) (inb_of S326 ⟨by decide, by decide⟩) (g := (mkF m 139 #[own_j p0, s_, own_j p1, s_, own_j p2, s_, own_j p3, s_, iv p4, iv p5, rv ad1, rv ad24, iv w0, iv w1, iv z0, iv z1, u_, u_] [.long (p1 - p3), .int 1, .ref b4_8])) rfl rfl (hb hby at_139)
  have g327 := g299.wr W326
  have g328 := g300.other W326 (Or.inl nz_ad1_b4_8)
  have g329 := g301.other W326 (Or.inl nz_ad1_b4_8)
  have g330 := g302.other W326 (Or.inl nz_ad1_b4_8)
  have g331 := g303.other W326 (Or.inl nz_ad1_b4_8)
  have g332 := g304.other W326 (Or.inl nz_ad1_b4_8)
  have g333 := g305.other W326 (Or.inl nz_ad1_b4_8)
  have g334 := g306.other W326 nz_b0_8_b4_8
  have g335 := g307.other W326 nz_b1_8_b4_8
  have g336 := g308.other W326 nz_b2_8_b4_8
  have g337 := g309.other W326 nz_b3_8_b4_8
  have g338 : Arv Z h326 b4_8 q4_8 .long (2 : Int32) [(.long (p0 + p2)), (.long (p1 - p3))] (.long (0 : Int64)) := Arv.set Ar326 qa326 S326 M326 H326 U326 rfl W326 1 rfl (Nat.le_of_ble_eq_true rfl)
  have g339 := g311.other W326 (Ne.symm nz_b4_8_b5_8)
  have g340 := g312.wr W326
  have g341 := g313.other W326 (Or.inl (Ne.symm ne24_6))
  have g342 := g314.other W326 (Or.inl (Ne.symm ne24_6))
  have g343 := g315.other W326 (Or.inl (Ne.symm ne24_6))
  have g344 := g316.other W326 (Or.inl (Ne.symm ne24_6))
  have g345 := g317.other W326 (Or.inl (Ne.symm ne24_6))
  have g346 := g318.other W326 (Or.inl (Ne.symm ne24_6))
  have g347 := g319.other W326 (Ne.symm nz_b4_8_b0_44)
  have g348 := g320.other W326 (Ne.symm nz_b4_8_b1_44)
  have g349 := g321.other W326 (Ne.symm nz_b4_8_b2_44)
  have g350 := g322.other W326 (Ne.symm nz_b4_8_b3_44)
  have g351 := g323.other W326 (Ne.symm nz_b4_8_b4_44)
  have g352 := g324.other W326 (Ne.symm nz_b4_8_b5_44)
  have N326 := Fr.snoc X326 N298 oz_b4_8
  have Z326 : n0 ≤ h326.size := (Nat.le_trans Z298 (Nat.le_of_eq W326.size.symm))
  refine own_s T326 (mkF m 140 #[own_j p0, s_, own_j p1, s_, own_j p2, s_, own_j p3, s_, iv p4, iv p5, rv ad1, rv ad24, iv w0, iv w1, iv z0, iv z1, u_, u_] []) st326 ?_
  refine own_s T326 (mkF m 142 #[own_j p0, s_, own_j p1, s_, own_j p2, s_, own_j p3, s_, iv p4, iv p5, rv ad1, rv ad24, iv w0, iv w1, iv z0, iv z1, u_, u_] [.ref ad1]) (fun t k => XS.aload X326.here hx rfl (hb hby at_140) rfl rfl k) ?_
  obtain ⟨T353, X353, e353, st353⟩ := getF X326 hx hZ hown (host := "") (Or.inl (hW 29 _ rfl)) Via.refl e326 g333 (g := (mkF m 142 #[own_j p0, s_, own_j p1, s_, own_j p2, s_, own_j p3, s_, iv p4, iv p5, rv ad1, rv ad24, iv w0, iv w1, iv z0, iv z1, u_, u_] [.ref ad1])) rfl rfl (hb hby at_142)
  refine own_s T353 (mkF m 145 #[own_j p0, s_, own_j p1, s_, own_j p2, s_, own_j p3, s_, iv p4, iv p5, rv ad1, rv ad24, iv w0, iv w1, iv z0, iv z1, u_, u_] [.ref b5_8]) st353 ?_
  refine own_s T353 (mkF m 146 #[own_j p0, s_, own_j p1, s_, own_j p2, s_, own_j p3, s_, iv p4, iv p5, rv ad1, rv ad24, iv w0, iv w1, iv z0, iv z1, u_, u_] [.int 0, .ref b5_8]) (fun t k => XS.iconst X353.here hx rfl (hb hby at_145) k) ?_
  refine own_s T353 (mkF m 148 #[own_j p0, s_, own_j p1, s_, own_j p2, s_, own_j p3, s_, iv p4, iv p5, rv ad1, rv ad24, iv w0, iv w1, iv z0, iv z1, u_, u_] [.int w0, .int 0, .ref b5_8]) (fun t k => XS.iload X353.here hx rfl (hb hby at_146) rfl k) ?_
  refine own_s T353 (mkF m 149 #[own_j p0, s_, own_j p1, s_, own_j p2, s_, own_j p3, s_, iv p4, iv p5, rv ad1, rv ad24, iv w0, iv w1, iv z0, iv z1, u_, u_] [(.double (FP.l2d w0.toInt64)), .int 0, .ref b5_8]) (fun t k => XS.i2dS X353.here hx rfl (hb hby at_148) rfl (i2d_w _) k) ?_
  obtain ⟨cl354, Ar354, qa354, S354, M354, H354, U354⟩ := id g339
  obtain ⟨T354, h354, X354, e354, W354, st354⟩ := stD X353 hx hZ e353 Ar354 (j := (0 : Int32)) (inb_of S354 ⟨by decide, by decide⟩) (g := (mkF m 149 #[own_j p0, s_, own_j p1, s_, own_j p2, s_, own_j p3, s_, iv p4, iv p5, rv ad1, rv ad24, iv w0, iv w1, iv z0, iv z1, u_, u_] [(.double (FP.l2d w0.toInt64)), .int 0, .ref b5_8])) rfl rfl (hb hby at_149)
  have g355 := g327.wr W354
  have g356 := g328.other W354 (Or.inl nz_ad1_b5_8)
  have g357 := g329.other W354 (Or.inl nz_ad1_b5_8)
  have g358 := g330.other W354 (Or.inl nz_ad1_b5_8)
  have g359 := g331.other W354 (Or.inl nz_ad1_b5_8)
  have g360 := g332.other W354 (Or.inl nz_ad1_b5_8)
  have g361 := g333.other W354 (Or.inl nz_ad1_b5_8)
  have g362 := g334.other W354 nz_b0_8_b5_8
  have g363 := g335.other W354 nz_b1_8_b5_8
  have g364 := g336.other W354 nz_b2_8_b5_8
  have g365 := g337.other W354 nz_b3_8_b5_8
  have g366 := g338.other W354 nz_b4_8_b5_8
  have g367 : Arv Z h354 b5_8 q5_8 .double (2 : Int32) [(.double (FP.l2d w0.toInt64)), (.double (FP.l2d 0))] (.double (FP.l2d 0)) := Arv.set Ar354 qa354 S354 M354 H354 U354 rfl W354 0 rfl (Nat.le_of_ble_eq_true rfl)
  have g368 := g340.wr W354
  have g369 := g341.other W354 (Or.inl (Ne.symm ne24_7))
  have g370 := g342.other W354 (Or.inl (Ne.symm ne24_7))
  have g371 := g343.other W354 (Or.inl (Ne.symm ne24_7))
  have g372 := g344.other W354 (Or.inl (Ne.symm ne24_7))
  have g373 := g345.other W354 (Or.inl (Ne.symm ne24_7))
  have g374 := g346.other W354 (Or.inl (Ne.symm ne24_7))
  have g375 := g347.other W354 (Ne.symm nz_b5_8_b0_44)
  have g376 := g348.other W354 (Ne.symm nz_b5_8_b1_44)
  have g377 := g349.other W354 (Ne.symm nz_b5_8_b2_44)
  have g378 := g350.other W354 (Ne.symm nz_b5_8_b3_44)
  have g379 := g351.other W354 (Ne.symm nz_b5_8_b4_44)
  have g380 := g352.other W354 (Ne.symm nz_b5_8_b5_44)
  have N354 := Fr.snoc X354 N326 oz_b5_8
  have Z354 : n0 ≤ h354.size := (Nat.le_trans Z326 (Nat.le_of_eq W354.size.symm))
  refine own_s T354 (mkF m 150 #[own_j p0, s_, own_j p1, s_, own_j p2, s_, own_j p3, s_, iv p4, iv p5, rv ad1, rv ad24, iv w0, iv w1, iv z0, iv z1, u_, u_] []) st354 ?_
  refine own_s T354 (mkF m 152 #[own_j p0, s_, own_j p1, s_, own_j p2, s_, own_j p3, s_, iv p4, iv p5, rv ad1, rv ad24, iv w0, iv w1, iv z0, iv z1, u_, u_] [.ref ad1]) (fun t k => XS.aload X354.here hx rfl (hb hby at_150) rfl rfl k) ?_
  obtain ⟨T381, X381, e381, st381⟩ := getF X354 hx hZ hown (host := "") (Or.inl (hW 29 _ rfl)) Via.refl e354 g361 (g := (mkF m 152 #[own_j p0, s_, own_j p1, s_, own_j p2, s_, own_j p3, s_, iv p4, iv p5, rv ad1, rv ad24, iv w0, iv w1, iv z0, iv z1, u_, u_] [.ref ad1])) rfl rfl (hb hby at_152)
  refine own_s T381 (mkF m 155 #[own_j p0, s_, own_j p1, s_, own_j p2, s_, own_j p3, s_, iv p4, iv p5, rv ad1, rv ad24, iv w0, iv w1, iv z0, iv z1, u_, u_] [.ref b5_8]) st381 ?_
  refine own_s T381 (mkF m 156 #[own_j p0, s_, own_j p1, s_, own_j p2, s_, own_j p3, s_, iv p4, iv p5, rv ad1, rv ad24, iv w0, iv w1, iv z0, iv z1, u_, u_] [.int 1, .ref b5_8]) (fun t k => XS.iconst X381.here hx rfl (hb hby at_155) k) ?_
  refine own_s T381 (mkF m 158 #[own_j p0, s_, own_j p1, s_, own_j p2, s_, own_j p3, s_, iv p4, iv p5, rv ad1, rv ad24, iv w0, iv w1, iv z0, iv z1, u_, u_] [.int w1, .int 1, .ref b5_8]) (fun t k => XS.iload X381.here hx rfl (hb hby at_156) rfl k) ?_
  refine own_s T381 (mkF m 159 #[own_j p0, s_, own_j p1, s_, own_j p2, s_, own_j p3, s_, iv p4, iv p5, rv ad1, rv ad24, iv w0, iv w1, iv z0, iv z1, u_, u_] [(.double (FP.l2d w1.toInt64)), .int 1, .ref b5_8]) (fun t k => XS.i2dS X381.here hx rfl (hb hby at_158) rfl (i2d_w _) k) ?_
  obtain ⟨cl382, Ar382, qa382, S382, M382, H382, U382⟩ := id g367
  obtain ⟨T382, h382, X382, e382, W382, st382⟩ := stD X381 hx hZ e381 Ar382 (j := (1 : Int32)) (inb_of S382 ⟨by decide, by decide⟩) (g := (mkF m 159 #[own_j p0, s_, own_j p1, s_, own_j p2, s_, own_j p3, s_, iv p4, iv p5, rv ad1, rv ad24, iv w0, iv w1, iv z0, iv z1, u_, u_] [(.double (FP.l2d w1.toInt64)), .int 1, .ref b5_8])) rfl rfl (hb hby at_159)
  have g383 := g355.wr W382
  have g384 := g356.other W382 (Or.inl nz_ad1_b5_8)
  have g385 := g357.other W382 (Or.inl nz_ad1_b5_8)
  have g386 := g358.other W382 (Or.inl nz_ad1_b5_8)
  have g387 := g359.other W382 (Or.inl nz_ad1_b5_8)
  have g388 := g360.other W382 (Or.inl nz_ad1_b5_8)
  have g389 := g361.other W382 (Or.inl nz_ad1_b5_8)
  have g390 := g362.other W382 nz_b0_8_b5_8
  have g391 := g363.other W382 nz_b1_8_b5_8
  have g392 := g364.other W382 nz_b2_8_b5_8
  have g393 := g365.other W382 nz_b3_8_b5_8
  have g394 := g366.other W382 nz_b4_8_b5_8
  have g395 : Arv Z h382 b5_8 q5_8 .double (2 : Int32) [(.double (FP.l2d w0.toInt64)), (.double (FP.l2d w1.toInt64))] (.double (FP.l2d 0)) := Arv.set Ar382 qa382 S382 M382 H382 U382 rfl W382 1 rfl (Nat.le_of_ble_eq_true rfl)
  have g396 := g368.wr W382
  have g397 := g369.other W382 (Or.inl (Ne.symm ne24_7))
  have g398 := g370.other W382 (Or.inl (Ne.symm ne24_7))
  have g399 := g371.other W382 (Or.inl (Ne.symm ne24_7))
  have g400 := g372.other W382 (Or.inl (Ne.symm ne24_7))
  have g401 := g373.other W382 (Or.inl (Ne.symm ne24_7))
  have g402 := g374.other W382 (Or.inl (Ne.symm ne24_7))
  have g403 := g375.other W382 (Ne.symm nz_b5_8_b0_44)
  have g404 := g376.other W382 (Ne.symm nz_b5_8_b1_44)
  have g405 := g377.other W382 (Ne.symm nz_b5_8_b2_44)
  have g406 := g378.other W382 (Ne.symm nz_b5_8_b3_44)
  have g407 := g379.other W382 (Ne.symm nz_b5_8_b4_44)
  have g408 := g380.other W382 (Ne.symm nz_b5_8_b5_44)
  have N382 := Fr.snoc X382 N354 oz_b5_8
  have Z382 : n0 ≤ h382.size := (Nat.le_trans Z354 (Nat.le_of_eq W382.size.symm))
  refine own_s T382 (mkF m 160 #[own_j p0, s_, own_j p1, s_, own_j p2, s_, own_j p3, s_, iv p4, iv p5, rv ad1, rv ad24, iv w0, iv w1, iv z0, iv z1, u_, u_] []) st382 ?_
  refine own_s T382 (mkF m 162 #[own_j p0, s_, own_j p1, s_, own_j p2, s_, own_j p3, s_, iv p4, iv p5, rv ad1, rv ad24, iv w0, iv w1, iv z0, iv z1, u_, u_] [.ref ad24]) (fun t k => XS.aload X382.here hx rfl (hb hby at_160) rfl rfl k) ?_
  obtain ⟨T409, X409, e409, st409⟩ := getF X382 hx hZ hown (host := "") (Or.inl (hW 24 _ rfl)) Via.refl e382 g397 (g := (mkF m 162 #[own_j p0, s_, own_j p1, s_, own_j p2, s_, own_j p3, s_, iv p4, iv p5, rv ad1, rv ad24, iv w0, iv w1, iv z0, iv z1, u_, u_] [.ref ad24])) rfl rfl (hb hby at_162)
  refine own_s T409 (mkF m 165 #[own_j p0, s_, own_j p1, s_, own_j p2, s_, own_j p3, s_, iv p4, iv p5, rv ad1, rv ad24, iv w0, iv w1, iv z0, iv z1, u_, u_] [.ref b0_44]) st409 ?_
  refine own_s T409 (mkF m 166 #[own_j p0, s_, own_j p1, s_, own_j p2, s_, own_j p3, s_, iv p4, iv p5, rv ad1, rv ad24, iv w0, iv w1, iv z0, iv z1, u_, u_] [.int 0, .ref b0_44]) (fun t k => XS.iconst X409.here hx rfl (hb hby at_165) k) ?_
  refine own_s T409 (mkF m 168 #[own_j p0, s_, own_j p1, s_, own_j p2, s_, own_j p3, s_, iv p4, iv p5, rv ad1, rv ad24, iv w0, iv w1, iv z0, iv z1, u_, u_] [.long p3, .int 0, .ref b0_44]) (fun t k => XS.lload X409.here hx rfl (hb hby at_166) rfl k) ?_
  obtain ⟨cl410, Ar410, qa410, S410, M410, H410, U410⟩ := id g403
  obtain ⟨T410, h410, X410, e410, W410, st410⟩ := stJ X409 hx hZ e409 Ar410 (j := (0 : Int32)) (inb_of S410 ⟨by decide, by decide⟩) (g := (mkF m 168 #[own_j p0, s_, own_j p1, s_, own_j p2, s_, own_j p3, s_, iv p4, iv p5, rv ad1, rv ad24, iv w0, iv w1, iv z0, iv z1, u_, u_] [.long p3, .int 0, .ref b0_44])) rfl rfl (hb hby at_168)
  have g411 := g383.wr W410
  have g412 := g384.other W410 (Or.inl nz_ad1_b0_44)
  have g413 := g385.other W410 (Or.inl nz_ad1_b0_44)
  have g414 := g386.other W410 (Or.inl nz_ad1_b0_44)
  have g415 := g387.other W410 (Or.inl nz_ad1_b0_44)
  have g416 := g388.other W410 (Or.inl nz_ad1_b0_44)
  have g417 := g389.other W410 (Or.inl nz_ad1_b0_44)
  have g418 := g390.other W410 nz_b0_8_b0_44
  have g419 := g391.other W410 nz_b1_8_b0_44
  have g420 := g392.other W410 nz_b2_8_b0_44
  have g421 := g393.other W410 nz_b3_8_b0_44
  have g422 := g394.other W410 nz_b4_8_b0_44
  have g423 := g395.other W410 nz_b5_8_b0_44
  have g424 := g396.wr W410
  have g425 := g397.other W410 (Or.inl nz_ad24_b0_44)
  have g426 := g398.other W410 (Or.inl nz_ad24_b0_44)
  have g427 := g399.other W410 (Or.inl nz_ad24_b0_44)
  have g428 := g400.other W410 (Or.inl nz_ad24_b0_44)
  have g429 := g401.other W410 (Or.inl nz_ad24_b0_44)
  have g430 := g402.other W410 (Or.inl nz_ad24_b0_44)
  have g431 : Arv Z h410 b0_44 q0_44 .long (2 : Int32) [(.long p3), (.long (0 : Int64))] (.long (0 : Int64)) := Arv.set Ar410 qa410 S410 M410 H410 U410 rfl W410 0 rfl (Nat.le_of_ble_eq_true rfl)
  have g432 := g404.other W410 (Ne.symm nz_b0_44_b1_44)
  have g433 := g405.other W410 (Ne.symm nz_b0_44_b2_44)
  have g434 := g406.other W410 (Ne.symm nz_b0_44_b3_44)
  have g435 := g407.other W410 (Ne.symm nz_b0_44_b4_44)
  have g436 := g408.other W410 (Ne.symm nz_b0_44_b5_44)
  have N410 := Fr.snoc X410 N382 oz_b0_44
  have Z410 : n0 ≤ h410.size := (Nat.le_trans Z382 (Nat.le_of_eq W410.size.symm))
  refine own_s T410 (mkF m 169 #[own_j p0, s_, own_j p1, s_, own_j p2, s_, own_j p3, s_, iv p4, iv p5, rv ad1, rv ad24, iv w0, iv w1, iv z0, iv z1, u_, u_] []) st410 ?_
  refine own_s T410 (mkF m 171 #[own_j p0, s_, own_j p1, s_, own_j p2, s_, own_j p3, s_, iv p4, iv p5, rv ad1, rv ad24, iv w0, iv w1, iv z0, iv z1, u_, u_] [.ref ad24]) (fun t k => XS.aload X410.here hx rfl (hb hby at_169) rfl rfl k) ?_
  obtain ⟨T437, X437, e437, st437⟩ := getF X410 hx hZ hown (host := "") (Or.inl (hW 24 _ rfl)) Via.refl e410 g425 (g := (mkF m 171 #[own_j p0, s_, own_j p1, s_, own_j p2, s_, own_j p3, s_, iv p4, iv p5, rv ad1, rv ad24, iv w0, iv w1, iv z0, iv z1, u_, u_] [.ref ad24])) rfl rfl (hb hby at_171)
  refine own_s T437 (mkF m 174 #[own_j p0, s_, own_j p1, s_, own_j p2, s_, own_j p3, s_, iv p4, iv p5, rv ad1, rv ad24, iv w0, iv w1, iv z0, iv z1, u_, u_] [.ref b0_44]) st437 ?_
  refine own_s T437 (mkF m 175 #[own_j p0, s_, own_j p1, s_, own_j p2, s_, own_j p3, s_, iv p4, iv p5, rv ad1, rv ad24, iv w0, iv w1, iv z0, iv z1, u_, u_] [.int 1, .ref b0_44]) (fun t k => XS.iconst X437.here hx rfl (hb hby at_174) k) ?_
  refine own_s T437 (mkF m 177 #[own_j p0, s_, own_j p1, s_, own_j p2, s_, own_j p3, s_, iv p4, iv p5, rv ad1, rv ad24, iv w0, iv w1, iv z0, iv z1, u_, u_] [.long p2, .int 1, .ref b0_44]) (fun t k => XS.lload X437.here hx rfl (hb hby at_175) rfl k) ?_
  obtain ⟨cl438, Ar438, qa438, S438, M438, H438, U438⟩ := id g431
  obtain ⟨T438, h438, X438, e438, W438, st438⟩ := stJ X437 hx hZ e437 Ar438 (j := (1 : Int32)) (inb_of S438 ⟨by decide, by decide⟩) (g := (mkF m 177 #[own_j p0, s_, own_j p1, s_, own_j p2, s_, own_j p3, s_, iv p4, iv p5, rv ad1, rv ad24, iv w0, iv w1, iv z0, iv z1, u_, u_] [.long p2, .int 1, .ref b0_44])) rfl rfl (hb hby at_177)
  have g439 := g411.wr W438
  have g440 := g412.other W438 (Or.inl nz_ad1_b0_44)
  have g441 := g413.other W438 (Or.inl nz_ad1_b0_44)
  have g442 := g414.other W438 (Or.inl nz_ad1_b0_44)
  have g443 := g415.other W438 (Or.inl nz_ad1_b0_44)
  have g444 := g416.other W438 (Or.inl nz_ad1_b0_44)
  have g445 := g417.other W438 (Or.inl nz_ad1_b0_44)
  have g446 := g418.other W438 nz_b0_8_b0_44
  have g447 := g419.other W438 nz_b1_8_b0_44
  have g448 := g420.other W438 nz_b2_8_b0_44
  have g449 := g421.other W438 nz_b3_8_b0_44
  have g450 := g422.other W438 nz_b4_8_b0_44
  have g451 := g423.other W438 nz_b5_8_b0_44
  have g452 := g424.wr W438
  have g453 := g425.other W438 (Or.inl nz_ad24_b0_44)
  have g454 := g426.other W438 (Or.inl nz_ad24_b0_44)
  have g455 := g427.other W438 (Or.inl nz_ad24_b0_44)
  have g456 := g428.other W438 (Or.inl nz_ad24_b0_44)
  have g457 := g429.other W438 (Or.inl nz_ad24_b0_44)
  have g458 := g430.other W438 (Or.inl nz_ad24_b0_44)
  have g459 : Arv Z h438 b0_44 q0_44 .long (2 : Int32) [(.long p3), (.long p2)] (.long (0 : Int64)) := Arv.set Ar438 qa438 S438 M438 H438 U438 rfl W438 1 rfl (Nat.le_of_ble_eq_true rfl)
  have g460 := g432.other W438 (Ne.symm nz_b0_44_b1_44)
  have g461 := g433.other W438 (Ne.symm nz_b0_44_b2_44)
  have g462 := g434.other W438 (Ne.symm nz_b0_44_b3_44)
  have g463 := g435.other W438 (Ne.symm nz_b0_44_b4_44)
  have g464 := g436.other W438 (Ne.symm nz_b0_44_b5_44)
  have N438 := Fr.snoc X438 N410 oz_b0_44
  have Z438 : n0 ≤ h438.size := (Nat.le_trans Z410 (Nat.le_of_eq W438.size.symm))
  refine own_s T438 (mkF m 178 #[own_j p0, s_, own_j p1, s_, own_j p2, s_, own_j p3, s_, iv p4, iv p5, rv ad1, rv ad24, iv w0, iv w1, iv z0, iv z1, u_, u_] []) st438 ?_
  refine own_s T438 (mkF m 180 #[own_j p0, s_, own_j p1, s_, own_j p2, s_, own_j p3, s_, iv p4, iv p5, rv ad1, rv ad24, iv w0, iv w1, iv z0, iv z1, u_, u_] [.ref ad24]) (fun t k => XS.aload X438.here hx rfl (hb hby at_178) rfl rfl k) ?_
  obtain ⟨T465, X465, e465, st465⟩ := getF X438 hx hZ hown (host := "") (Or.inl (hW 25 _ rfl)) Via.refl e438 g454 (g := (mkF m 180 #[own_j p0, s_, own_j p1, s_, own_j p2, s_, own_j p3, s_, iv p4, iv p5, rv ad1, rv ad24, iv w0, iv w1, iv z0, iv z1, u_, u_] [.ref ad24])) rfl rfl (hb hby at_180)
  refine own_s T465 (mkF m 183 #[own_j p0, s_, own_j p1, s_, own_j p2, s_, own_j p3, s_, iv p4, iv p5, rv ad1, rv ad24, iv w0, iv w1, iv z0, iv z1, u_, u_] [.ref b1_44]) st465 ?_
  refine own_s T465 (mkF m 184 #[own_j p0, s_, own_j p1, s_, own_j p2, s_, own_j p3, s_, iv p4, iv p5, rv ad1, rv ad24, iv w0, iv w1, iv z0, iv z1, u_, u_] [.int 0, .ref b1_44]) (fun t k => XS.iconst X465.here hx rfl (hb hby at_183) k) ?_
  refine own_s T465 (mkF m 185 #[own_j p0, s_, own_j p1, s_, own_j p2, s_, own_j p3, s_, iv p4, iv p5, rv ad1, rv ad24, iv w0, iv w1, iv z0, iv z1, u_, u_] [.long p0, .int 0, .ref b1_44]) (fun t k => XS.lloadN X465.here hx rfl (hb hby at_184) rfl k) ?_
  obtain ⟨cl466, Ar466, qa466, S466, M466, H466, U466⟩ := id g460
  obtain ⟨T466, h466, X466, e466, W466, st466⟩ := stJ X465 hx hZ e465 Ar466 (j := (0 : Int32)) (inb_of S466 ⟨by decide, by decide⟩) (g := (mkF m 185 #[own_j p0, s_, own_j p1, s_, own_j p2, s_, own_j p3, s_, iv p4, iv p5, rv ad1, rv ad24, iv w0, iv w1, iv z0, iv z1, u_, u_] [.long p0, .int 0, .ref b1_44])) rfl rfl (hb hby at_185)
  have g467 := g439.wr W466
  have g468 := g440.other W466 (Or.inl nz_ad1_b1_44)
  have g469 := g441.other W466 (Or.inl nz_ad1_b1_44)
  have g470 := g442.other W466 (Or.inl nz_ad1_b1_44)
  have g471 := g443.other W466 (Or.inl nz_ad1_b1_44)
  have g472 := g444.other W466 (Or.inl nz_ad1_b1_44)
  have g473 := g445.other W466 (Or.inl nz_ad1_b1_44)
  have g474 := g446.other W466 nz_b0_8_b1_44
  have g475 := g447.other W466 nz_b1_8_b1_44
  have g476 := g448.other W466 nz_b2_8_b1_44
  have g477 := g449.other W466 nz_b3_8_b1_44
  have g478 := g450.other W466 nz_b4_8_b1_44
  have g479 := g451.other W466 nz_b5_8_b1_44
  have g480 := g452.wr W466
  have g481 := g453.other W466 (Or.inl nz_ad24_b1_44)
  have g482 := g454.other W466 (Or.inl nz_ad24_b1_44)
  have g483 := g455.other W466 (Or.inl nz_ad24_b1_44)
  have g484 := g456.other W466 (Or.inl nz_ad24_b1_44)
  have g485 := g457.other W466 (Or.inl nz_ad24_b1_44)
  have g486 := g458.other W466 (Or.inl nz_ad24_b1_44)
  have g487 := g459.other W466 nz_b0_44_b1_44
  have g488 : Arv Z h466 b1_44 q1_44 .long (2 : Int32) [(.long p0), (.long (0 : Int64))] (.long (0 : Int64)) := Arv.set Ar466 qa466 S466 M466 H466 U466 rfl W466 0 rfl (Nat.le_of_ble_eq_true rfl)
  have g489 := g461.other W466 (Ne.symm nz_b1_44_b2_44)
  have g490 := g462.other W466 (Ne.symm nz_b1_44_b3_44)
  have g491 := g463.other W466 (Ne.symm nz_b1_44_b4_44)
  have g492 := g464.other W466 (Ne.symm nz_b1_44_b5_44)
  have N466 := Fr.snoc X466 N438 oz_b1_44
  have Z466 : n0 ≤ h466.size := (Nat.le_trans Z438 (Nat.le_of_eq W466.size.symm))
  refine own_s T466 (mkF m 186 #[own_j p0, s_, own_j p1, s_, own_j p2, s_, own_j p3, s_, iv p4, iv p5, rv ad1, rv ad24, iv w0, iv w1, iv z0, iv z1, u_, u_] []) st466 ?_
  refine own_s T466 (mkF m 188 #[own_j p0, s_, own_j p1, s_, own_j p2, s_, own_j p3, s_, iv p4, iv p5, rv ad1, rv ad24, iv w0, iv w1, iv z0, iv z1, u_, u_] [.ref ad24]) (fun t k => XS.aload X466.here hx rfl (hb hby at_186) rfl rfl k) ?_
  obtain ⟨T493, X493, e493, st493⟩ := getF X466 hx hZ hown (host := "") (Or.inl (hW 25 _ rfl)) Via.refl e466 g482 (g := (mkF m 188 #[own_j p0, s_, own_j p1, s_, own_j p2, s_, own_j p3, s_, iv p4, iv p5, rv ad1, rv ad24, iv w0, iv w1, iv z0, iv z1, u_, u_] [.ref ad24])) rfl rfl (hb hby at_188)
  refine own_s T493 (mkF m 191 #[own_j p0, s_, own_j p1, s_, own_j p2, s_, own_j p3, s_, iv p4, iv p5, rv ad1, rv ad24, iv w0, iv w1, iv z0, iv z1, u_, u_] [.ref b1_44]) st493 ?_
  refine own_s T493 (mkF m 192 #[own_j p0, s_, own_j p1, s_, own_j p2, s_, own_j p3, s_, iv p4, iv p5, rv ad1, rv ad24, iv w0, iv w1, iv z0, iv z1, u_, u_] [.int 1, .ref b1_44]) (fun t k => XS.iconst X493.here hx rfl (hb hby at_191) k) ?_
  refine own_s T493 (mkF m 194 #[own_j p0, s_, own_j p1, s_, own_j p2, s_, own_j p3, s_, iv p4, iv p5, rv ad1, rv ad24, iv w0, iv w1, iv z0, iv z1, u_, u_] [.long p3, .int 1, .ref b1_44]) (fun t k => XS.lload X493.here hx rfl (hb hby at_192) rfl k) ?_
  obtain ⟨cl494, Ar494, qa494, S494, M494, H494, U494⟩ := id g488
  obtain ⟨T494, h494, X494, e494, W494, st494⟩ := stJ X493 hx hZ e493 Ar494 (j := (1 : Int32)) (inb_of S494 ⟨by decide, by decide⟩) (g := (mkF m 194 #[own_j p0, s_, own_j p1, s_, own_j p2, s_, own_j p3, s_, iv p4, iv p5, rv ad1, rv ad24, iv w0, iv w1, iv z0, iv z1, u_, u_] [.long p3, .int 1, .ref b1_44])) rfl rfl (hb hby at_194)
  have g495 := g467.wr W494
  have g496 := g468.other W494 (Or.inl nz_ad1_b1_44)
  have g497 := g469.other W494 (Or.inl nz_ad1_b1_44)
  have g498 := g470.other W494 (Or.inl nz_ad1_b1_44)
  have g499 := g471.other W494 (Or.inl nz_ad1_b1_44)
  have g500 := g472.other W494 (Or.inl nz_ad1_b1_44)
  have g501 := g473.other W494 (Or.inl nz_ad1_b1_44)
  have g502 := g474.other W494 nz_b0_8_b1_44
  have g503 := g475.other W494 nz_b1_8_b1_44
  have g504 := g476.other W494 nz_b2_8_b1_44
  have g505 := g477.other W494 nz_b3_8_b1_44
  have g506 := g478.other W494 nz_b4_8_b1_44
  have g507 := g479.other W494 nz_b5_8_b1_44
  have g508 := g480.wr W494
  have g509 := g481.other W494 (Or.inl nz_ad24_b1_44)
  have g510 := g482.other W494 (Or.inl nz_ad24_b1_44)
  have g511 := g483.other W494 (Or.inl nz_ad24_b1_44)
  have g512 := g484.other W494 (Or.inl nz_ad24_b1_44)
  have g513 := g485.other W494 (Or.inl nz_ad24_b1_44)
  have g514 := g486.other W494 (Or.inl nz_ad24_b1_44)
  have g515 := g487.other W494 nz_b0_44_b1_44
  have g516 : Arv Z h494 b1_44 q1_44 .long (2 : Int32) [(.long p0), (.long p3)] (.long (0 : Int64)) := Arv.set Ar494 qa494 S494 M494 H494 U494 rfl W494 1 rfl (Nat.le_of_ble_eq_true rfl)
  have g517 := g489.other W494 (Ne.symm nz_b1_44_b2_44)
  have g518 := g490.other W494 (Ne.symm nz_b1_44_b3_44)
  have g519 := g491.other W494 (Ne.symm nz_b1_44_b4_44)
  have g520 := g492.other W494 (Ne.symm nz_b1_44_b5_44)
  have N494 := Fr.snoc X494 N466 oz_b1_44
  have Z494 : n0 ≤ h494.size := (Nat.le_trans Z466 (Nat.le_of_eq W494.size.symm))
  refine own_s T494 (mkF m 195 #[own_j p0, s_, own_j p1, s_, own_j p2, s_, own_j p3, s_, iv p4, iv p5, rv ad1, rv ad24, iv w0, iv w1, iv z0, iv z1, u_, u_] []) st494 ?_
  refine own_s T494 (mkF m 197 #[own_j p0, s_, own_j p1, s_, own_j p2, s_, own_j p3, s_, iv p4, iv p5, rv ad1, rv ad24, iv w0, iv w1, iv z0, iv z1, u_, u_] [.ref ad24]) (fun t k => XS.aload X494.here hx rfl (hb hby at_195) rfl rfl k) ?_
  obtain ⟨T521, X521, e521, st521⟩ := getF X494 hx hZ hown (host := "") (Or.inl (hW 26 _ rfl)) Via.refl e494 g511 (g := (mkF m 197 #[own_j p0, s_, own_j p1, s_, own_j p2, s_, own_j p3, s_, iv p4, iv p5, rv ad1, rv ad24, iv w0, iv w1, iv z0, iv z1, u_, u_] [.ref ad24])) rfl rfl (hb hby at_197)
  refine own_s T521 (mkF m 200 #[own_j p0, s_, own_j p1, s_, own_j p2, s_, own_j p3, s_, iv p4, iv p5, rv ad1, rv ad24, iv w0, iv w1, iv z0, iv z1, u_, u_] [.ref b2_44]) st521 ?_
  refine own_s T521 (mkF m 201 #[own_j p0, s_, own_j p1, s_, own_j p2, s_, own_j p3, s_, iv p4, iv p5, rv ad1, rv ad24, iv w0, iv w1, iv z0, iv z1, u_, u_] [.int 0, .ref b2_44]) (fun t k => XS.iconst X521.here hx rfl (hb hby at_200) k) ?_
  refine own_s T521 (mkF m 202 #[own_j p0, s_, own_j p1, s_, own_j p2, s_, own_j p3, s_, iv p4, iv p5, rv ad1, rv ad24, iv w0, iv w1, iv z0, iv z1, u_, u_] [.long p1, .int 0, .ref b2_44]) (fun t k => XS.lloadN X521.here hx rfl (hb hby at_201) rfl k) ?_
  obtain ⟨cl522, Ar522, qa522, S522, M522, H522, U522⟩ := id g517
  obtain ⟨T522, h522, X522, e522, W522, st522⟩ := stJ X521 hx hZ e521 Ar522 (j := (0 : Int32)) (inb_of S522 ⟨by decide, by decide⟩) (g := (mkF m 202 #[own_j p0, s_, own_j p1, s_, own_j p2, s_, own_j p3, s_, iv p4, iv p5, rv ad1, rv ad24, iv w0, iv w1, iv z0, iv z1, u_, u_] [.long p1, .int 0, .ref b2_44])) rfl rfl (hb hby at_202)
  have g523 := g495.wr W522
  have g524 := g496.other W522 (Or.inl nz_ad1_b2_44)
  have g525 := g497.other W522 (Or.inl nz_ad1_b2_44)
  have g526 := g498.other W522 (Or.inl nz_ad1_b2_44)
  have g527 := g499.other W522 (Or.inl nz_ad1_b2_44)
  have g528 := g500.other W522 (Or.inl nz_ad1_b2_44)
  have g529 := g501.other W522 (Or.inl nz_ad1_b2_44)
  have g530 := g502.other W522 nz_b0_8_b2_44
  have g531 := g503.other W522 nz_b1_8_b2_44
  have g532 := g504.other W522 nz_b2_8_b2_44
  have g533 := g505.other W522 nz_b3_8_b2_44
  have g534 := g506.other W522 nz_b4_8_b2_44
  have g535 := g507.other W522 nz_b5_8_b2_44
  have g536 := g508.wr W522
  have g537 := g509.other W522 (Or.inl nz_ad24_b2_44)
  have g538 := g510.other W522 (Or.inl nz_ad24_b2_44)
  have g539 := g511.other W522 (Or.inl nz_ad24_b2_44)
  have g540 := g512.other W522 (Or.inl nz_ad24_b2_44)
  have g541 := g513.other W522 (Or.inl nz_ad24_b2_44)
  have g542 := g514.other W522 (Or.inl nz_ad24_b2_44)
  have g543 := g515.other W522 nz_b0_44_b2_44
  have g544 := g516.other W522 nz_b1_44_b2_44
  have g545 : Arv Z h522 b2_44 q2_44 .long (2 : Int32) [(.long p1), (.long (0 : Int64))] (.long (0 : Int64)) := Arv.set Ar522 qa522 S522 M522 H522 U522 rfl W522 0 rfl (Nat.le_of_ble_eq_true rfl)
  have g546 := g518.other W522 (Ne.symm nz_b2_44_b3_44)
  have g547 := g519.other W522 (Ne.symm nz_b2_44_b4_44)
  have g548 := g520.other W522 (Ne.symm nz_b2_44_b5_44)
  have N522 := Fr.snoc X522 N494 oz_b2_44
  have Z522 : n0 ≤ h522.size := (Nat.le_trans Z494 (Nat.le_of_eq W522.size.symm))
  refine own_s T522 (mkF m 203 #[own_j p0, s_, own_j p1, s_, own_j p2, s_, own_j p3, s_, iv p4, iv p5, rv ad1, rv ad24, iv w0, iv w1, iv z0, iv z1, u_, u_] []) st522 ?_
  refine own_s T522 (mkF m 205 #[own_j p0, s_, own_j p1, s_, own_j p2, s_, own_j p3, s_, iv p4, iv p5, rv ad1, rv ad24, iv w0, iv w1, iv z0, iv z1, u_, u_] [.ref ad24]) (fun t k => XS.aload X522.here hx rfl (hb hby at_203) rfl rfl k) ?_
  obtain ⟨T549, X549, e549, st549⟩ := getF X522 hx hZ hown (host := "") (Or.inl (hW 26 _ rfl)) Via.refl e522 g539 (g := (mkF m 205 #[own_j p0, s_, own_j p1, s_, own_j p2, s_, own_j p3, s_, iv p4, iv p5, rv ad1, rv ad24, iv w0, iv w1, iv z0, iv z1, u_, u_] [.ref ad24])) rfl rfl (hb hby at_205)
  refine own_s T549 (mkF m 208 #[own_j p0, s_, own_j p1, s_, own_j p2, s_, own_j p3, s_, iv p4, iv p5, rv ad1, rv ad24, iv w0, iv w1, iv z0, iv z1, u_, u_] [.ref b2_44]) st549 ?_
  refine own_s T549 (mkF m 209 #[own_j p0, s_, own_j p1, s_, own_j p2, s_, own_j p3, s_, iv p4, iv p5, rv ad1, rv ad24, iv w0, iv w1, iv z0, iv z1, u_, u_] [.int 1, .ref b2_44]) (fun t k => XS.iconst X549.here hx rfl (hb hby at_208) k) ?_
  refine own_s T549 (mkF m 210 #[own_j p0, s_, own_j p1, s_, own_j p2, s_, own_j p3, s_, iv p4, iv p5, rv ad1, rv ad24, iv w0, iv w1, iv z0, iv z1, u_, u_] [.long p0, .int 1, .ref b2_44]) (fun t k => XS.lloadN X549.here hx rfl (hb hby at_209) rfl k) ?_
  obtain ⟨cl550, Ar550, qa550, S550, M550, H550, U550⟩ := id g545
  obtain ⟨T550, h550, X550, e550, W550, st550⟩ := stJ X549 hx hZ e549 Ar550 (j := (1 : Int32)) (inb_of S550 ⟨by decide, by decide⟩) (g := (mkF m 210 #[own_j p0, s_, own_j p1, s_, own_j p2, s_, own_j p3, s_, iv p4, iv p5, rv ad1, rv ad24, iv w0, iv w1, iv z0, iv z1, u_, u_] [.long p0, .int 1, .ref b2_44])) rfl rfl (hb hby at_210)
  have g551 := g523.wr W550
  have g552 := g524.other W550 (Or.inl nz_ad1_b2_44)
  have g553 := g525.other W550 (Or.inl nz_ad1_b2_44)
  have g554 := g526.other W550 (Or.inl nz_ad1_b2_44)
  have g555 := g527.other W550 (Or.inl nz_ad1_b2_44)
  have g556 := g528.other W550 (Or.inl nz_ad1_b2_44)
  have g557 := g529.other W550 (Or.inl nz_ad1_b2_44)
  have g558 := g530.other W550 nz_b0_8_b2_44
  have g559 := g531.other W550 nz_b1_8_b2_44
  have g560 := g532.other W550 nz_b2_8_b2_44
  have g561 := g533.other W550 nz_b3_8_b2_44
  have g562 := g534.other W550 nz_b4_8_b2_44
  have g563 := g535.other W550 nz_b5_8_b2_44
  have g564 := g536.wr W550
  have g565 := g537.other W550 (Or.inl nz_ad24_b2_44)
  have g566 := g538.other W550 (Or.inl nz_ad24_b2_44)
  have g567 := g539.other W550 (Or.inl nz_ad24_b2_44)
  have g568 := g540.other W550 (Or.inl nz_ad24_b2_44)
  have g569 := g541.other W550 (Or.inl nz_ad24_b2_44)
  have g570 := g542.other W550 (Or.inl nz_ad24_b2_44)
  have g571 := g543.other W550 nz_b0_44_b2_44
  have g572 := g544.other W550 nz_b1_44_b2_44
  have g573 : Arv Z h550 b2_44 q2_44 .long (2 : Int32) [(.long p1), (.long p0)] (.long (0 : Int64)) := Arv.set Ar550 qa550 S550 M550 H550 U550 rfl W550 1 rfl (Nat.le_of_ble_eq_true rfl)
  have g574 := g546.other W550 (Ne.symm nz_b2_44_b3_44)
  have g575 := g547.other W550 (Ne.symm nz_b2_44_b4_44)
  have g576 := g548.other W550 (Ne.symm nz_b2_44_b5_44)
  have N550 := Fr.snoc X550 N522 oz_b2_44
  have Z550 : n0 ≤ h550.size := (Nat.le_trans Z522 (Nat.le_of_eq W550.size.symm))
  refine own_s T550 (mkF m 211 #[own_j p0, s_, own_j p1, s_, own_j p2, s_, own_j p3, s_, iv p4, iv p5, rv ad1, rv ad24, iv w0, iv w1, iv z0, iv z1, u_, u_] []) st550 ?_
  refine own_s T550 (mkF m 213 #[own_j p0, s_, own_j p1, s_, own_j p2, s_, own_j p3, s_, iv p4, iv p5, rv ad1, rv ad24, iv w0, iv w1, iv z0, iv z1, u_, u_] [.ref ad24]) (fun t k => XS.aload X550.here hx rfl (hb hby at_211) rfl rfl k) ?_
  obtain ⟨T577, X577, e577, st577⟩ := getF X550 hx hZ hown (host := "") (Or.inl (hW 27 _ rfl)) Via.refl e550 g568 (g := (mkF m 213 #[own_j p0, s_, own_j p1, s_, own_j p2, s_, own_j p3, s_, iv p4, iv p5, rv ad1, rv ad24, iv w0, iv w1, iv z0, iv z1, u_, u_] [.ref ad24])) rfl rfl (hb hby at_213)
  refine own_s T577 (mkF m 216 #[own_j p0, s_, own_j p1, s_, own_j p2, s_, own_j p3, s_, iv p4, iv p5, rv ad1, rv ad24, iv w0, iv w1, iv z0, iv z1, u_, u_] [.ref b3_44]) st577 ?_
  refine own_s T577 (mkF m 217 #[own_j p0, s_, own_j p1, s_, own_j p2, s_, own_j p3, s_, iv p4, iv p5, rv ad1, rv ad24, iv w0, iv w1, iv z0, iv z1, u_, u_] [.int 0, .ref b3_44]) (fun t k => XS.iconst X577.here hx rfl (hb hby at_216) k) ?_
  refine own_s T577 (mkF m 219 #[own_j p0, s_, own_j p1, s_, own_j p2, s_, own_j p3, s_, iv p4, iv p5, rv ad1, rv ad24, iv w0, iv w1, iv z0, iv z1, u_, u_] [.long p2, .int 0, .ref b3_44]) (fun t k => XS.lload X577.here hx rfl (hb hby at_217) rfl k) ?_
  obtain ⟨cl578, Ar578, qa578, S578, M578, H578, U578⟩ := id g574
  obtain ⟨T578, h578, X578, e578, W578, st578⟩ := stJ X577 hx hZ e577 Ar578 (j := (0 : Int32)) (inb_of S578 ⟨by decide, by decide⟩) (g := (mkF m 219 #[own_j p0, s_, own_j p1, s_, own_j p2, s_, own_j p3, s_, iv p4, iv p5, rv ad1, rv ad24, iv w0, iv w1, iv z0, iv z1, u_, u_] [.long p2, .int 0, .ref b3_44])) rfl rfl (hb hby at_219)
  have g579 := g551.wr W578
  have g580 := g552.other W578 (Or.inl nz_ad1_b3_44)
  have g581 := g553.other W578 (Or.inl nz_ad1_b3_44)
  have g582 := g554.other W578 (Or.inl nz_ad1_b3_44)
  have g583 := g555.other W578 (Or.inl nz_ad1_b3_44)
  have g584 := g556.other W578 (Or.inl nz_ad1_b3_44)
  have g585 := g557.other W578 (Or.inl nz_ad1_b3_44)
  have g586 := g558.other W578 nz_b0_8_b3_44
  have g587 := g559.other W578 nz_b1_8_b3_44
  have g588 := g560.other W578 nz_b2_8_b3_44
  have g589 := g561.other W578 nz_b3_8_b3_44
  have g590 := g562.other W578 nz_b4_8_b3_44
  have g591 := g563.other W578 nz_b5_8_b3_44
  have g592 := g564.wr W578
  have g593 := g565.other W578 (Or.inl nz_ad24_b3_44)
  have g594 := g566.other W578 (Or.inl nz_ad24_b3_44)
  have g595 := g567.other W578 (Or.inl nz_ad24_b3_44)
  have g596 := g568.other W578 (Or.inl nz_ad24_b3_44)
  have g597 := g569.other W578 (Or.inl nz_ad24_b3_44)
  have g598 := g570.other W578 (Or.inl nz_ad24_b3_44)
  have g599 := g571.other W578 nz_b0_44_b3_44
  have g600 := g572.other W578 nz_b1_44_b3_44
  have g601 := g573.other W578 nz_b2_44_b3_44
  have g602 : Arv Z h578 b3_44 q3_44 .long (2 : Int32) [(.long p2), (.long (0 : Int64))] (.long (0 : Int64)) := Arv.set Ar578 qa578 S578 M578 H578 U578 rfl W578 0 rfl (Nat.le_of_ble_eq_true rfl)
  have g603 := g575.other W578 (Ne.symm nz_b3_44_b4_44)
  have g604 := g576.other W578 (Ne.symm nz_b3_44_b5_44)
  have N578 := Fr.snoc X578 N550 oz_b3_44
  have Z578 : n0 ≤ h578.size := (Nat.le_trans Z550 (Nat.le_of_eq W578.size.symm))
  refine own_s T578 (mkF m 220 #[own_j p0, s_, own_j p1, s_, own_j p2, s_, own_j p3, s_, iv p4, iv p5, rv ad1, rv ad24, iv w0, iv w1, iv z0, iv z1, u_, u_] []) st578 ?_
  refine own_s T578 (mkF m 222 #[own_j p0, s_, own_j p1, s_, own_j p2, s_, own_j p3, s_, iv p4, iv p5, rv ad1, rv ad24, iv w0, iv w1, iv z0, iv z1, u_, u_] [.ref ad24]) (fun t k => XS.aload X578.here hx rfl (hb hby at_220) rfl rfl k) ?_
  obtain ⟨T605, X605, e605, st605⟩ := getF X578 hx hZ hown (host := "") (Or.inl (hW 27 _ rfl)) Via.refl e578 g596 (g := (mkF m 222 #[own_j p0, s_, own_j p1, s_, own_j p2, s_, own_j p3, s_, iv p4, iv p5, rv ad1, rv ad24, iv w0, iv w1, iv z0, iv z1, u_, u_] [.ref ad24])) rfl rfl (hb hby at_222)
  refine own_s T605 (mkF m 225 #[own_j p0, s_, own_j p1, s_, own_j p2, s_, own_j p3, s_, iv p4, iv p5, rv ad1, rv ad24, iv w0, iv w1, iv z0, iv z1, u_, u_] [.ref b3_44]) st605 ?_
  refine own_s T605 (mkF m 226 #[own_j p0, s_, own_j p1, s_, own_j p2, s_, own_j p3, s_, iv p4, iv p5, rv ad1, rv ad24, iv w0, iv w1, iv z0, iv z1, u_, u_] [.int 1, .ref b3_44]) (fun t k => XS.iconst X605.here hx rfl (hb hby at_225) k) ?_
  refine own_s T605 (mkF m 227 #[own_j p0, s_, own_j p1, s_, own_j p2, s_, own_j p3, s_, iv p4, iv p5, rv ad1, rv ad24, iv w0, iv w1, iv z0, iv z1, u_, u_] [.long p1, .int 1, .ref b3_44]) (fun t k => XS.lloadN X605.here hx rfl (hb hby at_226) rfl k) ?_
  obtain ⟨cl606, Ar606, qa606, S606, M606, H606, U606⟩ := id g602
  obtain ⟨T606, h606, X606, e606, W606, st606⟩ := stJ X605 hx hZ e605 Ar606 (j := (1 : Int32)) (inb_of S606 ⟨by decide, by decide⟩) (g := (mkF m 227 #[own_j p0, s_, own_j p1, s_, own_j p2, s_, own_j p3, s_, iv p4, iv p5, rv ad1, rv ad24, iv w0, iv w1, iv z0, iv z1, u_, u_] [.long p1, .int 1, .ref b3_44])) rfl rfl (hb hby at_227)
  have g607 := g579.wr W606
  have g608 := g580.other W606 (Or.inl nz_ad1_b3_44)
  have g609 := g581.other W606 (Or.inl nz_ad1_b3_44)
  have g610 := g582.other W606 (Or.inl nz_ad1_b3_44)
  have g611 := g583.other W606 (Or.inl nz_ad1_b3_44)
  have g612 := g584.other W606 (Or.inl nz_ad1_b3_44)
  have g613 := g585.other W606 (Or.inl nz_ad1_b3_44)
  have g614 := g586.other W606 nz_b0_8_b3_44
  have g615 := g587.other W606 nz_b1_8_b3_44
  have g616 := g588.other W606 nz_b2_8_b3_44
  have g617 := g589.other W606 nz_b3_8_b3_44
  have g618 := g590.other W606 nz_b4_8_b3_44
  have g619 := g591.other W606 nz_b5_8_b3_44
  have g620 := g592.wr W606
  have g621 := g593.other W606 (Or.inl nz_ad24_b3_44)
  have g622 := g594.other W606 (Or.inl nz_ad24_b3_44)
  have g623 := g595.other W606 (Or.inl nz_ad24_b3_44)
  have g624 := g596.other W606 (Or.inl nz_ad24_b3_44)
  have g625 := g597.other W606 (Or.inl nz_ad24_b3_44)
  have g626 := g598.other W606 (Or.inl nz_ad24_b3_44)
  have g627 := g599.other W606 nz_b0_44_b3_44
  have g628 := g600.other W606 nz_b1_44_b3_44
  have g629 := g601.other W606 nz_b2_44_b3_44
  have g630 : Arv Z h606 b3_44 q3_44 .long (2 : Int32) [(.long p2), (.long p1)] (.long (0 : Int64)) := Arv.set Ar606 qa606 S606 M606 H606 U606 rfl W606 1 rfl (Nat.le_of_ble_eq_true rfl)
  have g631 := g603.other W606 (Ne.symm nz_b3_44_b4_44)
  have g632 := g604.other W606 (Ne.symm nz_b3_44_b5_44)
  have N606 := Fr.snoc X606 N578 oz_b3_44
  have Z606 : n0 ≤ h606.size := (Nat.le_trans Z578 (Nat.le_of_eq W606.size.symm))
  refine own_s T606 (mkF m 228 #[own_j p0, s_, own_j p1, s_, own_j p2, s_, own_j p3, s_, iv p4, iv p5, rv ad1, rv ad24, iv w0, iv w1, iv z0, iv z1, u_, u_] []) st606 ?_
  refine own_s T606 (mkF m 230 #[own_j p0, s_, own_j p1, s_, own_j p2, s_, own_j p3, s_, iv p4, iv p5, rv ad1, rv ad24, iv w0, iv w1, iv z0, iv z1, u_, u_] [.ref ad24]) (fun t k => XS.aload X606.here hx rfl (hb hby at_228) rfl rfl k) ?_
  obtain ⟨T633, X633, e633, st633⟩ := getF X606 hx hZ hown (host := "") (Or.inl (hW 28 _ rfl)) Via.refl e606 g625 (g := (mkF m 230 #[own_j p0, s_, own_j p1, s_, own_j p2, s_, own_j p3, s_, iv p4, iv p5, rv ad1, rv ad24, iv w0, iv w1, iv z0, iv z1, u_, u_] [.ref ad24])) rfl rfl (hb hby at_230)
  refine own_s T633 (mkF m 233 #[own_j p0, s_, own_j p1, s_, own_j p2, s_, own_j p3, s_, iv p4, iv p5, rv ad1, rv ad24, iv w0, iv w1, iv z0, iv z1, u_, u_] [.ref b4_44]) st633 ?_
  refine own_s T633 (mkF m 234 #[own_j p0, s_, own_j p1, s_, own_j p2, s_, own_j p3, s_, iv p4, iv p5, rv ad1, rv ad24, iv w0, iv w1, iv z0, iv z1, u_, u_] [.int 0, .ref b4_44]) (fun t k => XS.iconst X633.here hx rfl (hb hby at_233) k) ?_
  refine own_s T633 (mkF m 235 #[own_j p0, s_, own_j p1, s_, own_j p2, s_, own_j p3, s_, iv p4, iv p5, rv ad1, rv ad24, iv w0, iv w1, iv z0, iv z1, u_, u_] [.long p0, .int 0, .ref b4_44]) (fun t k => XS.lloadN X633.here hx rfl (hb hby at_234) rfl k) ?_
  refine own_s T633 (mkF m 237 #[own_j p0, s_, own_j p1, s_, own_j p2, s_, own_j p3, s_, iv p4, iv p5, rv ad1, rv ad24, iv w0, iv w1, iv z0, iv z1, u_, u_] [.long p3, .long p0, .int 0, .ref b4_44]) (fun t k => XS.lload X633.here hx rfl (hb hby at_235) rfl k) ?_
  refine own_s T633 (mkF m 238 #[own_j p0, s_, own_j p1, s_, own_j p2, s_, own_j p3, s_, iv p4, iv p5, rv ad1, rv ad24, iv w0, iv w1, iv z0, iv z1, u_, u_] [.long (p0 - p3), .int 0, .ref b4_44]) (fun t k => XS.lsub X633.here hx rfl (hb hby at_237) rfl k) ?_
  obtain ⟨cl634, Ar634, qa634, S634, M634, H634, U634⟩ := id g631
  obtain ⟨T634, h634, X634, e634, W634, st634⟩ := stJ X633 hx hZ e633 Ar634 (j := (0 : Int32)) (inb_of S634 ⟨by decide, by decide⟩) (g := (mkF m 238 #[own_j p0, s_, own_j p1, s_, own_j p2, s_, own_j p3, s_, iv p4, iv p5, rv ad1, rv ad24, iv w0, iv w1, iv z0, iv z1, u_, u_] [.long (p0 - p3), .int 0, .ref b4_44])) rfl rfl (hb hby at_238)
  have g635 := g607.wr W634
  have g636 := g608.other W634 (Or.inl nz_ad1_b4_44)
  have g637 := g609.other W634 (Or.inl nz_ad1_b4_44)
  have g638 := g610.other W634 (Or.inl nz_ad1_b4_44)
  have g639 := g611.other W634 (Or.inl nz_ad1_b4_44)
  have g640 := g612.other W634 (Or.inl nz_ad1_b4_44)
  have g641 := g613.other W634 (Or.inl nz_ad1_b4_44)
  have g642 := g614.other W634 nz_b0_8_b4_44
  have g643 := g615.other W634 nz_b1_8_b4_44
  have g644 := g616.other W634 nz_b2_8_b4_44
  have g645 := g617.other W634 nz_b3_8_b4_44
  have g646 := g618.other W634 nz_b4_8_b4_44
  have g647 := g619.other W634 nz_b5_8_b4_44
  have g648 := g620.wr W634
  have g649 := g621.other W634 (Or.inl nz_ad24_b4_44)
  have g650 := g622.other W634 (Or.inl nz_ad24_b4_44)
  have g651 := g623.other W634 (Or.inl nz_ad24_b4_44)
  have g652 := g624.other W634 (Or.inl nz_ad24_b4_44)
  have g653 := g625.other W634 (Or.inl nz_ad24_b4_44)
  have g654 := g626.other W634 (Or.inl nz_ad24_b4_44)
  have g655 := g627.other W634 nz_b0_44_b4_44
  have g656 := g628.other W634 nz_b1_44_b4_44
  have g657 := g629.other W634 nz_b2_44_b4_44
  have g658 := g630.other W634 nz_b3_44_b4_44
  have g659 : Arv Z h634 b4_44 q4_44 .long (2 : Int32) [(.long (p0 - p3)), (.long (0 : Int64))] (.long (0 : Int64)) := Arv.set Ar634 qa634 S634 M634 H634 U634 rfl W634 0 rfl (Nat.le_of_ble_eq_true rfl)
  have g660 := g632.other W634 (Ne.symm nz_b4_44_b5_44)
  have N634 := Fr.snoc X634 N606 oz_b4_44
  have Z634 : n0 ≤ h634.size := (Nat.le_trans Z606 (Nat.le_of_eq W634.size.symm))
  refine own_s T634 (mkF m 239 #[own_j p0, s_, own_j p1, s_, own_j p2, s_, own_j p3, s_, iv p4, iv p5, rv ad1, rv ad24, iv w0, iv w1, iv z0, iv z1, u_, u_] []) st634 ?_
  refine own_s T634 (mkF m 241 #[own_j p0, s_, own_j p1, s_, own_j p2, s_, own_j p3, s_, iv p4, iv p5, rv ad1, rv ad24, iv w0, iv w1, iv z0, iv z1, u_, u_] [.ref ad24]) (fun t k => XS.aload X634.here hx rfl (hb hby at_239) rfl rfl k) ?_
  obtain ⟨T661, X661, e661, st661⟩ := getF X634 hx hZ hown (host := "") (Or.inl (hW 28 _ rfl)) Via.refl e634 g653 (g := (mkF m 241 #[own_j p0, s_, own_j p1, s_, own_j p2, s_, own_j p3, s_, iv p4, iv p5, rv ad1, rv ad24, iv w0, iv w1, iv z0, iv z1, u_, u_] [.ref ad24])) rfl rfl (hb hby at_241)
  refine own_s T661 (mkF m 244 #[own_j p0, s_, own_j p1, s_, own_j p2, s_, own_j p3, s_, iv p4, iv p5, rv ad1, rv ad24, iv w0, iv w1, iv z0, iv z1, u_, u_] [.ref b4_44]) st661 ?_
  refine own_s T661 (mkF m 245 #[own_j p0, s_, own_j p1, s_, own_j p2, s_, own_j p3, s_, iv p4, iv p5, rv ad1, rv ad24, iv w0, iv w1, iv z0, iv z1, u_, u_] [.int 1, .ref b4_44]) (fun t k => XS.iconst X661.here hx rfl (hb hby at_244) k) ?_
  refine own_s T661 (mkF m 246 #[own_j p0, s_, own_j p1, s_, own_j p2, s_, own_j p3, s_, iv p4, iv p5, rv ad1, rv ad24, iv w0, iv w1, iv z0, iv z1, u_, u_] [.long p1, .int 1, .ref b4_44]) (fun t k => XS.lloadN X661.here hx rfl (hb hby at_245) rfl k) ?_
  refine own_s T661 (mkF m 248 #[own_j p0, s_, own_j p1, s_, own_j p2, s_, own_j p3, s_, iv p4, iv p5, rv ad1, rv ad24, iv w0, iv w1, iv z0, iv z1, u_, u_] [.long p2, .long p1, .int 1, .ref b4_44]) (fun t k => XS.lload X661.here hx rfl (hb hby at_246) rfl k) ?_
  refine own_s T661 (mkF m 249 #[own_j p0, s_, own_j p1, s_, own_j p2, s_, own_j p3, s_, iv p4, iv p5, rv ad1, rv ad24, iv w0, iv w1, iv z0, iv z1, u_, u_] [.long (p1 + p2), .int 1, .ref b4_44]) (fun t k => XS.ladd X661.here hx rfl (hb hby at_248) rfl k) ?_
  obtain ⟨cl662, Ar662, qa662, S662, M662, H662, U662⟩ := id g659
  obtain ⟨T662, h662, X662, e662, W662, st662⟩ := stJ X661 hx hZ e661 Ar662 (j := (1 : Int32)) (inb_of S662 ⟨by decide, by decide⟩) (g := (mkF m 249 #[own_j p0, s_, own_j p1, s_, own_j p2, s_, own_j p3, s_, iv p4, iv p5, rv ad1, rv ad24, iv w0, iv w1, iv z0, iv z1, u_, u_] [.long (p1 + p2), .int 1, .ref b4_44])) rfl rfl (hb hby at_249)
  have g663 := g635.wr W662
  have g664 := g636.other W662 (Or.inl nz_ad1_b4_44)
  have g665 := g637.other W662 (Or.inl nz_ad1_b4_44)
  have g666 := g638.other W662 (Or.inl nz_ad1_b4_44)
  have g667 := g639.other W662 (Or.inl nz_ad1_b4_44)
  have g668 := g640.other W662 (Or.inl nz_ad1_b4_44)
  have g669 := g641.other W662 (Or.inl nz_ad1_b4_44)
  have g670 := g642.other W662 nz_b0_8_b4_44
  have g671 := g643.other W662 nz_b1_8_b4_44
  have g672 := g644.other W662 nz_b2_8_b4_44
  have g673 := g645.other W662 nz_b3_8_b4_44
  have g674 := g646.other W662 nz_b4_8_b4_44
  have g675 := g647.other W662 nz_b5_8_b4_44
  have g676 := g648.wr W662
  have g677 := g649.other W662 (Or.inl nz_ad24_b4_44)
  have g678 := g650.other W662 (Or.inl nz_ad24_b4_44)
  have g679 := g651.other W662 (Or.inl nz_ad24_b4_44)
  have g680 := g652.other W662 (Or.inl nz_ad24_b4_44)
  have g681 := g653.other W662 (Or.inl nz_ad24_b4_44)
  have g682 := g654.other W662 (Or.inl nz_ad24_b4_44)
  have g683 := g655.other W662 nz_b0_44_b4_44
  have g684 := g656.other W662 nz_b1_44_b4_44
  have g685 := g657.other W662 nz_b2_44_b4_44
  have g686 := g658.other W662 nz_b3_44_b4_44
  have g687 : Arv Z h662 b4_44 q4_44 .long (2 : Int32) [(.long (p0 - p3)), (.long (p1 + p2))] (.long (0 : Int64)) := Arv.set Ar662 qa662 S662 M662 H662 U662 rfl W662 1 rfl (Nat.le_of_ble_eq_true rfl)
  have g688 := g660.other W662 (Ne.symm nz_b4_44_b5_44)
  have N662 := Fr.snoc X662 N634 oz_b4_44
  have Z662 : n0 ≤ h662.size := (Nat.le_trans Z634 (Nat.le_of_eq W662.size.symm))
  refine own_s T662 (mkF m 250 #[own_j p0, s_, own_j p1, s_, own_j p2, s_, own_j p3, s_, iv p4, iv p5, rv ad1, rv ad24, iv w0, iv w1, iv z0, iv z1, u_, u_] []) st662 ?_
  refine own_s T662 (mkF m 252 #[own_j p0, s_, own_j p1, s_, own_j p2, s_, own_j p3, s_, iv p4, iv p5, rv ad1, rv ad24, iv w0, iv w1, iv z0, iv z1, u_, u_] [.ref ad24]) (fun t k => XS.aload X662.here hx rfl (hb hby at_250) rfl rfl k) ?_
  obtain ⟨T689, X689, e689, st689⟩ := getF X662 hx hZ hown (host := "") (Or.inl (hW 29 _ rfl)) Via.refl e662 g682 (g := (mkF m 252 #[own_j p0, s_, own_j p1, s_, own_j p2, s_, own_j p3, s_, iv p4, iv p5, rv ad1, rv ad24, iv w0, iv w1, iv z0, iv z1, u_, u_] [.ref ad24])) rfl rfl (hb hby at_252)
  refine own_s T689 (mkF m 255 #[own_j p0, s_, own_j p1, s_, own_j p2, s_, own_j p3, s_, iv p4, iv p5, rv ad1, rv ad24, iv w0, iv w1, iv z0, iv z1, u_, u_] [.ref b5_44]) st689 ?_
  refine own_s T689 (mkF m 256 #[own_j p0, s_, own_j p1, s_, own_j p2, s_, own_j p3, s_, iv p4, iv p5, rv ad1, rv ad24, iv w0, iv w1, iv z0, iv z1, u_, u_] [.int 0, .ref b5_44]) (fun t k => XS.iconst X689.here hx rfl (hb hby at_255) k) ?_
  refine own_s T689 (mkF m 258 #[own_j p0, s_, own_j p1, s_, own_j p2, s_, own_j p3, s_, iv p4, iv p5, rv ad1, rv ad24, iv w0, iv w1, iv z0, iv z1, u_, u_] [.int z0, .int 0, .ref b5_44]) (fun t k => XS.iload X689.here hx rfl (hb hby at_256) rfl k) ?_
  refine own_s T689 (mkF m 259 #[own_j p0, s_, own_j p1, s_, own_j p2, s_, own_j p3, s_, iv p4, iv p5, rv ad1, rv ad24, iv w0, iv w1, iv z0, iv z1, u_, u_] [(.double (FP.l2d z0.toInt64)), .int 0, .ref b5_44]) (fun t k => XS.i2dS X689.here hx rfl (hb hby at_258) rfl (i2d_w _) k) ?_
  obtain ⟨cl690, Ar690, qa690, S690, M690, H690, U690⟩ := id g688
  obtain ⟨T690, h690, X690, e690, W690, st690⟩ := stD X689 hx hZ e689 Ar690 (j := (0 : Int32)) (inb_of S690 ⟨by decide, by decide⟩) (g := (mkF m 259 #[own_j p0, s_, own_j p1, s_, own_j p2, s_, own_j p3, s_, iv p4, iv p5, rv ad1, rv ad24, iv w0, iv w1, iv z0, iv z1, u_, u_] [(.double (FP.l2d z0.toInt64)), .int 0, .ref b5_44])) rfl rfl (hb hby at_259)
  have g691 := g663.wr W690
  have g692 := g664.other W690 (Or.inl nz_ad1_b5_44)
  have g693 := g665.other W690 (Or.inl nz_ad1_b5_44)
  have g694 := g666.other W690 (Or.inl nz_ad1_b5_44)
  have g695 := g667.other W690 (Or.inl nz_ad1_b5_44)
  have g696 := g668.other W690 (Or.inl nz_ad1_b5_44)
  have g697 := g669.other W690 (Or.inl nz_ad1_b5_44)
  have g698 := g670.other W690 nz_b0_8_b5_44
  have g699 := g671.other W690 nz_b1_8_b5_44
  have g700 := g672.other W690 nz_b2_8_b5_44
  have g701 := g673.other W690 nz_b3_8_b5_44
  have g702 := g674.other W690 nz_b4_8_b5_44
  have g703 := g675.other W690 nz_b5_8_b5_44
  have g704 := g676.wr W690
  have g705 := g677.other W690 (Or.inl nz_ad24_b5_44)
  have g706 := g678.other W690 (Or.inl nz_ad24_b5_44)
  have g707 := g679.other W690 (Or.inl nz_ad24_b5_44)
  have g708 := g680.other W690 (Or.inl nz_ad24_b5_44)
  have g709 := g681.other W690 (Or.inl nz_ad24_b5_44)
  have g710 := g682.other W690 (Or.inl nz_ad24_b5_44)
  have g711 := g683.other W690 nz_b0_44_b5_44
  have g712 := g684.other W690 nz_b1_44_b5_44
  have g713 := g685.other W690 nz_b2_44_b5_44
  have g714 := g686.other W690 nz_b3_44_b5_44
  have g715 := g687.other W690 nz_b4_44_b5_44
  have g716 : Arv Z h690 b5_44 q5_44 .double (2 : Int32) [(.double (FP.l2d z0.toInt64)), (.double (FP.l2d 0))] (.double (FP.l2d 0)) := Arv.set Ar690 qa690 S690 M690 H690 U690 rfl W690 0 rfl (Nat.le_of_ble_eq_true rfl)
  have N690 := Fr.snoc X690 N662 oz_b5_44
  have Z690 : n0 ≤ h690.size := (Nat.le_trans Z662 (Nat.le_of_eq W690.size.symm))
  refine own_s T690 (mkF m 260 #[own_j p0, s_, own_j p1, s_, own_j p2, s_, own_j p3, s_, iv p4, iv p5, rv ad1, rv ad24, iv w0, iv w1, iv z0, iv z1, u_, u_] []) st690 ?_
  refine own_s T690 (mkF m 262 #[own_j p0, s_, own_j p1, s_, own_j p2, s_, own_j p3, s_, iv p4, iv p5, rv ad1, rv ad24, iv w0, iv w1, iv z0, iv z1, u_, u_] [.ref ad24]) (fun t k => XS.aload X690.here hx rfl (hb hby at_260) rfl rfl k) ?_
  obtain ⟨T717, X717, e717, st717⟩ := getF X690 hx hZ hown (host := "") (Or.inl (hW 29 _ rfl)) Via.refl e690 g710 (g := (mkF m 262 #[own_j p0, s_, own_j p1, s_, own_j p2, s_, own_j p3, s_, iv p4, iv p5, rv ad1, rv ad24, iv w0, iv w1, iv z0, iv z1, u_, u_] [.ref ad24])) rfl rfl (hb hby at_262)
  refine own_s T717 (mkF m 265 #[own_j p0, s_, own_j p1, s_, own_j p2, s_, own_j p3, s_, iv p4, iv p5, rv ad1, rv ad24, iv w0, iv w1, iv z0, iv z1, u_, u_] [.ref b5_44]) st717 ?_
  refine own_s T717 (mkF m 266 #[own_j p0, s_, own_j p1, s_, own_j p2, s_, own_j p3, s_, iv p4, iv p5, rv ad1, rv ad24, iv w0, iv w1, iv z0, iv z1, u_, u_] [.int 1, .ref b5_44]) (fun t k => XS.iconst X717.here hx rfl (hb hby at_265) k) ?_
  refine own_s T717 (mkF m 268 #[own_j p0, s_, own_j p1, s_, own_j p2, s_, own_j p3, s_, iv p4, iv p5, rv ad1, rv ad24, iv w0, iv w1, iv z0, iv z1, u_, u_] [.int z1, .int 1, .ref b5_44]) (fun t k => XS.iload X717.here hx rfl (hb hby at_266) rfl k) ?_
  refine own_s T717 (mkF m 269 #[own_j p0, s_, own_j p1, s_, own_j p2, s_, own_j p3, s_, iv p4, iv p5, rv ad1, rv ad24, iv w0, iv w1, iv z0, iv z1, u_, u_] [(.double (FP.l2d z1.toInt64)), .int 1, .ref b5_44]) (fun t k => XS.i2dS X717.here hx rfl (hb hby at_268) rfl (i2d_w _) k) ?_
  obtain ⟨cl718, Ar718, qa718, S718, M718, H718, U718⟩ := id g716
  obtain ⟨T718, h718, X718, e718, W718, st718⟩ := stD X717 hx hZ e717 Ar718 (j := (1 : Int32)) (inb_of S718 ⟨by decide, by decide⟩) (g := (mkF m 269 #[own_j p0, s_, own_j p1, s_, own_j p2, s_, own_j p3, s_, iv p4, iv p5, rv ad1, rv ad24, iv w0, iv w1, iv z0, iv z1, u_, u_] [(.double (FP.l2d z1.toInt64)), .int 1, .ref b5_44])) rfl rfl (hb hby at_269)
  have g719 := g691.wr W718
  have g720 := g692.other W718 (Or.inl nz_ad1_b5_44)
  have g721 := g693.other W718 (Or.inl nz_ad1_b5_44)
  have g722 := g694.other W718 (Or.inl nz_ad1_b5_44)
  have g723 := g695.other W718 (Or.inl nz_ad1_b5_44)
  have g724 := g696.other W718 (Or.inl nz_ad1_b5_44)
  have g725 := g697.other W718 (Or.inl nz_ad1_b5_44)
  have g726 := g698.other W718 nz_b0_8_b5_44
  have g727 := g699.other W718 nz_b1_8_b5_44
  have g728 := g700.other W718 nz_b2_8_b5_44
  have g729 := g701.other W718 nz_b3_8_b5_44
  have g730 := g702.other W718 nz_b4_8_b5_44
  have g731 := g703.other W718 nz_b5_8_b5_44
  have g732 := g704.wr W718
  have g733 := g705.other W718 (Or.inl nz_ad24_b5_44)
  have g734 := g706.other W718 (Or.inl nz_ad24_b5_44)
  have g735 := g707.other W718 (Or.inl nz_ad24_b5_44)
  have g736 := g708.other W718 (Or.inl nz_ad24_b5_44)
  have g737 := g709.other W718 (Or.inl nz_ad24_b5_44)
  have g738 := g710.other W718 (Or.inl nz_ad24_b5_44)
  have g739 := g711.other W718 nz_b0_44_b5_44
  have g740 := g712.other W718 nz_b1_44_b5_44
  have g741 := g713.other W718 nz_b2_44_b5_44
  have g742 := g714.other W718 nz_b3_44_b5_44
  have g743 := g715.other W718 nz_b4_44_b5_44
  have g744 : Arv Z h718 b5_44 q5_44 .double (2 : Int32) [(.double (FP.l2d z0.toInt64)), (.double (FP.l2d z1.toInt64))] (.double (FP.l2d 0)) := Arv.set Ar718 qa718 S718 M718 H718 U718 rfl W718 1 rfl (Nat.le_of_ble_eq_true rfl)
  have N718 := Fr.snoc X718 N690 oz_b5_44
  have Z718 : n0 ≤ h718.size := (Nat.le_trans Z690 (Nat.le_of_eq W718.size.symm))
  refine own_s T718 (mkF m 270 #[own_j p0, s_, own_j p1, s_, own_j p2, s_, own_j p3, s_, iv p4, iv p5, rv ad1, rv ad24, iv w0, iv w1, iv z0, iv z1, u_, u_] []) st718 ?_
  refine own_s T718 (mkF m 272 #[own_j p0, s_, own_j p1, s_, own_j p2, s_, own_j p3, s_, iv p4, iv p5, rv ad1, rv ad24, iv w0, iv w1, iv z0, iv z1, u_, u_] [.ref ad1]) (fun t k => XS.aload X718.here hx rfl (hb hby at_270) rfl rfl k) ?_
  refine own_s T718 (mkF m 274 #[own_j p0, s_, own_j p1, s_, own_j p2, s_, own_j p3, s_, iv p4, iv p5, rv ad1, rv ad24, iv w0, iv w1, iv z0, iv z1, u_, u_] [.ref ad24, .ref ad1]) (fun t k => XS.aload X718.here hx rfl (hb hby at_272) rfl rfl k) ?_
  obtain ⟨cq754, kq754, q754a, q754b, q754c⟩ := isOf hZ e718 g719
  obtain ⟨_, _, ⟨T753, L753, k753, n753⟩, -, X753, ⟨Lc753, hQ753, lq753, yq753, zq753⟩, st753⟩ := X718.virtualBack hx (y := (⟨"com/example/rostr/rostr/simulation/SimulatedCentre$Counts", "add", "(Lcom/example/rostr/rostr/simulation/SimulatedCentre$Counts;)V"⟩ : MethodName)) (z := (⟨"com/example/rostr/rostr/simulation/SimulatedCentre$Counts", "add", "(Lcom/example/rostr/rostr/simulation/SimulatedCentre$Counts;)V"⟩ : MethodName)) hown (mvT hZ (hW 30 _ rfl)) (mvT hZ (hW 31 _ rfl)) (notFace_of_selects (args := #[]) (mvT hZ (hW 33 _ rfl))) (mvT hZ (hW 33 _ rfl)) (mvT hZ (hW 32 _ rfl)) (by decide) (backOf (W := 0) (rm_add l Z a0 hw [] ad1 ad24 b0_8 b1_8 b2_8 b3_8 b4_8 b5_8 b0_44 b1_44 b2_44 b3_44 b4_44 b5_44 q0_8 q1_8 q2_8 q3_8 q4_8 q5_8 q0_44 q1_44 q2_44 q3_44 q4_44 q5_44 p0 p1 p1 p2 p2 p3 p3 (p0 ^^^ p1) (p0 + p2) (p1 - p3) w0.toInt64 w1.toInt64 p3 p2 p0 p3 p1 p0 p2 p1 (p0 - p3) (p1 + p2) z0.toInt64 z1.toInt64 h718 n0 Z718 g720 g721 g722 g723 g724 g725 g733 g734 g735 g736 g737 g738 g726 g727 g728 g729 g730 g731 g739 g740 g741 g742 g743 g744 oz_b0_8 oz_b1_8 oz_b2_8 oz_b3_8 oz_b4_8 oz_b5_8 nz_b0_8_b1_8 nz_b0_8_b2_8 nz_b0_8_b3_8 nz_b0_8_b4_8 nz_b0_8_b5_8 nz_b1_8_b2_8 nz_b1_8_b3_8 nz_b1_8_b4_8 nz_b1_8_b5_8 nz_b2_8_b3_8 nz_b2_8_b4_8 nz_b2_8_b5_8 nz_b3_8_b4_8 nz_b3_8_b5_8 nz_b4_8_b5_8 nz_b0_8_b0_44 nz_b0_8_b1_44 nz_b0_8_b2_44 nz_b0_8_b3_44 nz_b0_8_b4_44 nz_b0_8_b5_44 nz_b1_8_b0_44 nz_b1_8_b1_44 nz_b1_8_b2_44 nz_b1_8_b3_44 nz_b1_8_b4_44 nz_b1_8_b5_44 nz_b2_8_b0_44 nz_b2_8_b1_44 nz_b2_8_b2_44 nz_b2_8_b3_44 nz_b2_8_b4_44 nz_b2_8_b5_44 nz_b3_8_b0_44 nz_b3_8_b1_44 nz_b3_8_b2_44 nz_b3_8_b3_44 nz_b3_8_b4_44 nz_b3_8_b5_44 nz_b4_8_b0_44 nz_b4_8_b1_44 nz_b4_8_b2_44 nz_b4_8_b3_44 nz_b4_8_b4_44 nz_b4_8_b5_44 nz_b5_8_b0_44 nz_b5_8_b1_44 nz_b5_8_b2_44 nz_b5_8_b3_44 nz_b5_8_b4_44 nz_b5_8_b5_44 nz_ad1_b0_8 nz_ad1_b1_8 nz_ad1_b2_8 nz_ad1_b3_8 nz_ad1_b4_8 nz_ad1_b5_8 (Ne.symm ne24_2) (Ne.symm ne24_3) (Ne.symm ne24_4) (Ne.symm ne24_5) (Ne.symm ne24_6) (Ne.symm ne24_7) (own_b32 _) (own_b32 _) (own_b32 _) (own_b32 _)) hZ (hW 34 _ rfl) (hW 2 _ rfl) (by decide) (by decide)) q754a q754c (g := (mkF m 274 #[own_j p0, s_, own_j p1, s_, own_j p2, s_, own_j p3, s_, iv p4, iv p5, rv ad1, rv ad24, iv w0, iv w1, iv z0, iv z1, u_, u_] [.ref ad24, .ref ad1])) rfl (by rw [hml]; rfl) (Steps.refl _) (argsL := [(.ref ad24)]) (rest := []) (lenOf pd_1 rfl) rfl (by show 2 * 0 + _ ≤ _; exact Nat.le_of_eq rfl) (hb hby at_274) (fun _ _ => ⟨rfl, e718, (by decide : 14 + 0 ≤ _), (by decide : 36 + 0 ≤ _)⟩)
  dsimp only [Pt.U, Pt.locs, Pt.cells, Pt.slots] at X753 lq753 yq753 zq753 st753 hQ753
  rw [lq753, yq753, zq753] at X753
  clear lq753 yq753 zq753
  obtain ⟨rfl, Nq753, K746, g747, g748, g749, g750, g751, g752⟩ := hQ753
  have N753 := Fr.app N718 Nq753
  have g755 := g719.keep K746
  have g756 := g720.keep K746 (ninS nz_ad1_b0_8 (ninS nz_ad1_b1_8 (ninS nz_ad1_b2_8 (ninS nz_ad1_b3_8 (ninS nz_ad1_b4_8 (ninS nz_ad1_b5_8 nin0))))))
  have g757 := g721.keep K746 (ninS nz_ad1_b0_8 (ninS nz_ad1_b1_8 (ninS nz_ad1_b2_8 (ninS nz_ad1_b3_8 (ninS nz_ad1_b4_8 (ninS nz_ad1_b5_8 nin0))))))
  have g758 := g722.keep K746 (ninS nz_ad1_b0_8 (ninS nz_ad1_b1_8 (ninS nz_ad1_b2_8 (ninS nz_ad1_b3_8 (ninS nz_ad1_b4_8 (ninS nz_ad1_b5_8 nin0))))))
  have g759 := g723.keep K746 (ninS nz_ad1_b0_8 (ninS nz_ad1_b1_8 (ninS nz_ad1_b2_8 (ninS nz_ad1_b3_8 (ninS nz_ad1_b4_8 (ninS nz_ad1_b5_8 nin0))))))
  have g760 := g724.keep K746 (ninS nz_ad1_b0_8 (ninS nz_ad1_b1_8 (ninS nz_ad1_b2_8 (ninS nz_ad1_b3_8 (ninS nz_ad1_b4_8 (ninS nz_ad1_b5_8 nin0))))))
  have g761 := g725.keep K746 (ninS nz_ad1_b0_8 (ninS nz_ad1_b1_8 (ninS nz_ad1_b2_8 (ninS nz_ad1_b3_8 (ninS nz_ad1_b4_8 (ninS nz_ad1_b5_8 nin0))))))
  have g762 := g732.keep K746
  have g763 := g733.keep K746 (ninS (Ne.symm ne24_2) (ninS (Ne.symm ne24_3) (ninS (Ne.symm ne24_4) (ninS (Ne.symm ne24_5) (ninS (Ne.symm ne24_6) (ninS (Ne.symm ne24_7) nin0))))))
  have g764 := g734.keep K746 (ninS (Ne.symm ne24_2) (ninS (Ne.symm ne24_3) (ninS (Ne.symm ne24_4) (ninS (Ne.symm ne24_5) (ninS (Ne.symm ne24_6) (ninS (Ne.symm ne24_7) nin0))))))
  have g765 := g735.keep K746 (ninS (Ne.symm ne24_2) (ninS (Ne.symm ne24_3) (ninS (Ne.symm ne24_4) (ninS (Ne.symm ne24_5) (ninS (Ne.symm ne24_6) (ninS (Ne.symm ne24_7) nin0))))))
  have g766 := g736.keep K746 (ninS (Ne.symm ne24_2) (ninS (Ne.symm ne24_3) (ninS (Ne.symm ne24_4) (ninS (Ne.symm ne24_5) (ninS (Ne.symm ne24_6) (ninS (Ne.symm ne24_7) nin0))))))
  have g767 := g737.keep K746 (ninS (Ne.symm ne24_2) (ninS (Ne.symm ne24_3) (ninS (Ne.symm ne24_4) (ninS (Ne.symm ne24_5) (ninS (Ne.symm ne24_6) (ninS (Ne.symm ne24_7) nin0))))))
  have g768 := g738.keep K746 (ninS (Ne.symm ne24_2) (ninS (Ne.symm ne24_3) (ninS (Ne.symm ne24_4) (ninS (Ne.symm ne24_5) (ninS (Ne.symm ne24_6) (ninS (Ne.symm ne24_7) nin0))))))
  have g769 := g739.keep K746 (ninS (Ne.symm nz_b0_8_b0_44) (ninS (Ne.symm nz_b1_8_b0_44) (ninS (Ne.symm nz_b2_8_b0_44) (ninS (Ne.symm nz_b3_8_b0_44) (ninS (Ne.symm nz_b4_8_b0_44) (ninS (Ne.symm nz_b5_8_b0_44) nin0))))))
  have g770 := g740.keep K746 (ninS (Ne.symm nz_b0_8_b1_44) (ninS (Ne.symm nz_b1_8_b1_44) (ninS (Ne.symm nz_b2_8_b1_44) (ninS (Ne.symm nz_b3_8_b1_44) (ninS (Ne.symm nz_b4_8_b1_44) (ninS (Ne.symm nz_b5_8_b1_44) nin0))))))
  have g771 := g741.keep K746 (ninS (Ne.symm nz_b0_8_b2_44) (ninS (Ne.symm nz_b1_8_b2_44) (ninS (Ne.symm nz_b2_8_b2_44) (ninS (Ne.symm nz_b3_8_b2_44) (ninS (Ne.symm nz_b4_8_b2_44) (ninS (Ne.symm nz_b5_8_b2_44) nin0))))))
  have g772 := g742.keep K746 (ninS (Ne.symm nz_b0_8_b3_44) (ninS (Ne.symm nz_b1_8_b3_44) (ninS (Ne.symm nz_b2_8_b3_44) (ninS (Ne.symm nz_b3_8_b3_44) (ninS (Ne.symm nz_b4_8_b3_44) (ninS (Ne.symm nz_b5_8_b3_44) nin0))))))
  have g773 := g743.keep K746 (ninS (Ne.symm nz_b0_8_b4_44) (ninS (Ne.symm nz_b1_8_b4_44) (ninS (Ne.symm nz_b2_8_b4_44) (ninS (Ne.symm nz_b3_8_b4_44) (ninS (Ne.symm nz_b4_8_b4_44) (ninS (Ne.symm nz_b5_8_b4_44) nin0))))))
  have g774 := g744.keep K746 (ninS (Ne.symm nz_b0_8_b5_44) (ninS (Ne.symm nz_b1_8_b5_44) (ninS (Ne.symm nz_b2_8_b5_44) (ninS (Ne.symm nz_b3_8_b5_44) (ninS (Ne.symm nz_b4_8_b5_44) (ninS (Ne.symm nz_b5_8_b5_44) nin0))))))
  have Z746 : n0 ≤ T753.heap.size := (Nat.le_trans Z718 K746.1)
  refine own_tr (T' := T753) (g' := (mkF m 277 #[own_j p0, s_, own_j p1, s_, own_j p2, s_, own_j p3, s_, iv p4, iv p5, rv ad1, rv ad24, iv w0, iv w1, iv z0, iv z1, u_, u_] [])) st753 ?_
  refine own_s T753 (mkF m 279 #[own_j p0, s_, own_j p1, s_, own_j p2, s_, own_j p3, s_, iv p4, iv p5, rv ad1, rv ad24, iv w0, iv w1, iv z0, iv z1, u_, u_] [.ref ad1]) (fun t k => XS.aload X753.here hx rfl (hb hby at_277) rfl rfl k) ?_
  obtain ⟨T775, X775, e775, st775⟩ := getF X753 hx hZ hown (host := "") (Or.inl (hW 24 _ rfl)) Via.refl rfl g756 (g := (mkF m 279 #[own_j p0, s_, own_j p1, s_, own_j p2, s_, own_j p3, s_, iv p4, iv p5, rv ad1, rv ad24, iv w0, iv w1, iv z0, iv z1, u_, u_] [.ref ad1])) rfl rfl (hb hby at_279)
  refine own_s T775 (mkF m 282 #[own_j p0, s_, own_j p1, s_, own_j p2, s_, own_j p3, s_, iv p4, iv p5, rv ad1, rv ad24, iv w0, iv w1, iv z0, iv z1, u_, u_] [.ref b0_8]) st775 ?_
  refine own_s T775 (mkF m 283 #[own_j p0, s_, own_j p1, s_, own_j p2, s_, own_j p3, s_, iv p4, iv p5, rv ad1, rv ad24, iv w0, iv w1, iv z0, iv z1, u_, u_] [.int 0, .ref b0_8]) (fun t k => XS.iconst X775.here hx rfl (hb hby at_282) k) ?_
  obtain ⟨cl776, Ar776, qa776, S776, M776, H776, U776⟩ := id g747
  have hi776 := inb_of S776 (j := (0 : Int32)) ⟨by decide, by decide⟩
  have hat776 := H776.at hi776 (v := (.long (p0 + p3))) rfl
  refine own_s T775 (mkF m 284 #[own_j p0, s_, own_j p1, s_, own_j p2, s_, own_j p3, s_, iv p4, iv p5, rv ad1, rv ad24, iv w0, iv w1, iv z0, iv z1, u_, u_] [.long (p0 + p3)]) (fun t k => X775.laload hx (j := (0 : Int32)) (v := (.long (p0 + p3))) (by rw [e775]; exact Ar776.1) (State.isArrayOf_alike hZ.alike Ar776.2.1) Ar776.2.2 hi776 hat776 (g := (mkF m 283 #[own_j p0, s_, own_j p1, s_, own_j p2, s_, own_j p3, s_, iv p4, iv p5, rv ad1, rv ad24, iv w0, iv w1, iv z0, iv z1, u_, u_] [.int 0, .ref b0_8])) rfl rfl (hb hby at_283) t k) ?_
  refine own_s T775 (mkF m 285 #[own_j p0, s_, own_j p1, s_, own_j p2, s_, own_j p3, s_, iv p4, iv p5, rv ad1, rv ad24, iv w0, iv w1, iv z0, iv z1, u_, u_] [.long p0, .long (p0 + p3)]) (fun t k => XS.lloadN X775.here hx rfl (hb hby at_284) rfl k) ?_
  refine own_s T775 (mkF m 287 #[own_j p0, s_, own_j p1, s_, own_j p2, s_, own_j p3, s_, iv p4, iv p5, rv ad1, rv ad24, iv w0, iv w1, iv z0, iv z1, u_, u_] [.long p3, .long p0, .long (p0 + p3)]) (fun t k => XS.lload X775.here hx rfl (hb hby at_285) rfl k) ?_
  refine own_s T775 (mkF m 288 #[own_j p0, s_, own_j p1, s_, own_j p2, s_, own_j p3, s_, iv p4, iv p5, rv ad1, rv ad24, iv w0, iv w1, iv z0, iv z1, u_, u_] [.long (p0 + p3), .long (p0 + p3)]) (fun t k => XS.ladd X775.here hx rfl (hb hby at_287) rfl k) ?_
  refine own_s T775 (mkF m 289 #[own_j p0, s_, own_j p1, s_, own_j p2, s_, own_j p3, s_, iv p4, iv p5, rv ad1, rv ad24, iv w0, iv w1, iv z0, iv z1, u_, u_] [.int (lcmpW (p0 + p3) (p0 + p3))]) (fun t k => XS.lcmp X775.here hx rfl (hb hby at_288) rfl k) ?_
  refine own_s T775 (mkF m 292 #[own_j p0, s_, own_j p1, s_, own_j p2, s_, own_j p3, s_, iv p4, iv p5, rv ad1, rv ad24, iv w0, iv w1, iv z0, iv z1, u_, u_] []) (fun t k => XS.ifNo X775.here hx rfl (hb hby at_289) rfl ((if0 _ _).trans (teq ((lw_eq _ _).mpr rfl)).2) k) ?_
  refine own_s T775 (mkF m 294 #[own_j p0, s_, own_j p1, s_, own_j p2, s_, own_j p3, s_, iv p4, iv p5, rv ad1, rv ad24, iv w0, iv w1, iv z0, iv z1, u_, u_] [.ref ad1]) (fun t k => XS.aload X775.here hx rfl (hb hby at_292) rfl rfl k) ?_
  obtain ⟨T777, X777, e777, st777⟩ := getF X775 hx hZ hown (host := "") (Or.inl (hW 24 _ rfl)) Via.refl e775 g756 (g := (mkF m 294 #[own_j p0, s_, own_j p1, s_, own_j p2, s_, own_j p3, s_, iv p4, iv p5, rv ad1, rv ad24, iv w0, iv w1, iv z0, iv z1, u_, u_] [.ref ad1])) rfl rfl (hb hby at_294)
  refine own_s T777 (mkF m 297 #[own_j p0, s_, own_j p1, s_, own_j p2, s_, own_j p3, s_, iv p4, iv p5, rv ad1, rv ad24, iv w0, iv w1, iv z0, iv z1, u_, u_] [.ref b0_8]) st777 ?_
  refine own_s T777 (mkF m 298 #[own_j p0, s_, own_j p1, s_, own_j p2, s_, own_j p3, s_, iv p4, iv p5, rv ad1, rv ad24, iv w0, iv w1, iv z0, iv z1, u_, u_] [.int 1, .ref b0_8]) (fun t k => XS.iconst X777.here hx rfl (hb hby at_297) k) ?_
  obtain ⟨cl778, Ar778, qa778, S778, M778, H778, U778⟩ := id g747
  have hi778 := inb_of S778 (j := (1 : Int32)) ⟨by decide, by decide⟩
  have hat778 := H778.at hi778 (v := (.long (p1 + p2))) rfl
  refine own_s T777 (mkF m 299 #[own_j p0, s_, own_j p1, s_, own_j p2, s_, own_j p3, s_, iv p4, iv p5, rv ad1, rv ad24, iv w0, iv w1, iv z0, iv z1, u_, u_] [.long (p1 + p2)]) (fun t k => X777.laload hx (j := (1 : Int32)) (v := (.long (p1 + p2))) (by rw [e777]; exact Ar778.1) (State.isArrayOf_alike hZ.alike Ar778.2.1) Ar778.2.2 hi778 hat778 (g := (mkF m 298 #[own_j p0, s_, own_j p1, s_, own_j p2, s_, own_j p3, s_, iv p4, iv p5, rv ad1, rv ad24, iv w0, iv w1, iv z0, iv z1, u_, u_] [.int 1, .ref b0_8])) rfl rfl (hb hby at_298) t k) ?_
  refine own_s T777 (mkF m 300 #[own_j p0, s_, own_j p1, s_, own_j p2, s_, own_j p3, s_, iv p4, iv p5, rv ad1, rv ad24, iv w0, iv w1, iv z0, iv z1, u_, u_] [.long p1, .long (p1 + p2)]) (fun t k => XS.lloadN X777.here hx rfl (hb hby at_299) rfl k) ?_
  refine own_s T777 (mkF m 302 #[own_j p0, s_, own_j p1, s_, own_j p2, s_, own_j p3, s_, iv p4, iv p5, rv ad1, rv ad24, iv w0, iv w1, iv z0, iv z1, u_, u_] [.long p2, .long p1, .long (p1 + p2)]) (fun t k => XS.lload X777.here hx rfl (hb hby at_300) rfl k) ?_
  refine own_s T777 (mkF m 303 #[own_j p0, s_, own_j p1, s_, own_j p2, s_, own_j p3, s_, iv p4, iv p5, rv ad1, rv ad24, iv w0, iv w1, iv z0, iv z1, u_, u_] [.long (p1 + p2), .long (p1 + p2)]) (fun t k => XS.ladd X777.here hx rfl (hb hby at_302) rfl k) ?_
  refine own_s T777 (mkF m 304 #[own_j p0, s_, own_j p1, s_, own_j p2, s_, own_j p3, s_, iv p4, iv p5, rv ad1, rv ad24, iv w0, iv w1, iv z0, iv z1, u_, u_] [.int (lcmpW (p1 + p2) (p1 + p2))]) (fun t k => XS.lcmp X777.here hx rfl (hb hby at_303) rfl k) ?_
  refine own_s T777 (mkF m 307 #[own_j p0, s_, own_j p1, s_, own_j p2, s_, own_j p3, s_, iv p4, iv p5, rv ad1, rv ad24, iv w0, iv w1, iv z0, iv z1, u_, u_] []) (fun t k => XS.ifNo X777.here hx rfl (hb hby at_304) rfl ((if0 _ _).trans (teq ((lw_eq _ _).mpr rfl)).2) k) ?_
  refine own_s T777 (mkF m 309 #[own_j p0, s_, own_j p1, s_, own_j p2, s_, own_j p3, s_, iv p4, iv p5, rv ad1, rv ad24, iv w0, iv w1, iv z0, iv z1, u_, u_] [.ref ad1]) (fun t k => XS.aload X777.here hx rfl (hb hby at_307) rfl rfl k) ?_
  obtain ⟨T779, X779, e779, st779⟩ := getF X777 hx hZ hown (host := "") (Or.inl (hW 25 _ rfl)) Via.refl e777 g757 (g := (mkF m 309 #[own_j p0, s_, own_j p1, s_, own_j p2, s_, own_j p3, s_, iv p4, iv p5, rv ad1, rv ad24, iv w0, iv w1, iv z0, iv z1, u_, u_] [.ref ad1])) rfl rfl (hb hby at_309)
  refine own_s T779 (mkF m 312 #[own_j p0, s_, own_j p1, s_, own_j p2, s_, own_j p3, s_, iv p4, iv p5, rv ad1, rv ad24, iv w0, iv w1, iv z0, iv z1, u_, u_] [.ref b1_8]) st779 ?_
  refine own_s T779 (mkF m 313 #[own_j p0, s_, own_j p1, s_, own_j p2, s_, own_j p3, s_, iv p4, iv p5, rv ad1, rv ad24, iv w0, iv w1, iv z0, iv z1, u_, u_] [.int 0, .ref b1_8]) (fun t k => XS.iconst X779.here hx rfl (hb hby at_312) k) ?_
  obtain ⟨cl780, Ar780, qa780, S780, M780, H780, U780⟩ := id g748
  have hi780 := inb_of S780 (j := (0 : Int32)) ⟨by decide, by decide⟩
  have hat780 := H780.at hi780 (v := (.long (p1 + p0))) rfl
  refine own_s T779 (mkF m 314 #[own_j p0, s_, own_j p1, s_, own_j p2, s_, own_j p3, s_, iv p4, iv p5, rv ad1, rv ad24, iv w0, iv w1, iv z0, iv z1, u_, u_] [.long (p1 + p0)]) (fun t k => X779.laload hx (j := (0 : Int32)) (v := (.long (p1 + p0))) (by rw [e779]; exact Ar780.1) (State.isArrayOf_alike hZ.alike Ar780.2.1) Ar780.2.2 hi780 hat780 (g := (mkF m 313 #[own_j p0, s_, own_j p1, s_, own_j p2, s_, own_j p3, s_, iv p4, iv p5, rv ad1, rv ad24, iv w0, iv w1, iv z0, iv z1, u_, u_] [.int 0, .ref b1_8])) rfl rfl (hb hby at_313) t k) ?_
  refine own_s T779 (mkF m 315 #[own_j p0, s_, own_j p1, s_, own_j p2, s_, own_j p3, s_, iv p4, iv p5, rv ad1, rv ad24, iv w0, iv w1, iv z0, iv z1, u_, u_] [.long p1, .long (p1 + p0)]) (fun t k => XS.lloadN X779.here hx rfl (hb hby at_314) rfl k) ?_
  refine own_s T779 (mkF m 316 #[own_j p0, s_, own_j p1, s_, own_j p2, s_, own_j p3, s_, iv p4, iv p5, rv ad1, rv ad24, iv w0, iv w1, iv z0, iv z1, u_, u_] [.long p0, .long p1, .long (p1 + p0)]) (fun t k => XS.lloadN X779.here hx rfl (hb hby at_315) rfl k) ?_
  refine own_s T779 (mkF m 317 #[own_j p0, s_, own_j p1, s_, own_j p2, s_, own_j p3, s_, iv p4, iv p5, rv ad1, rv ad24, iv w0, iv w1, iv z0, iv z1, u_, u_] [.long (p1 + p0), .long (p1 + p0)]) (fun t k => XS.ladd X779.here hx rfl (hb hby at_316) rfl k) ?_
  refine own_s T779 (mkF m 318 #[own_j p0, s_, own_j p1, s_, own_j p2, s_, own_j p3, s_, iv p4, iv p5, rv ad1, rv ad24, iv w0, iv w1, iv z0, iv z1, u_, u_] [.int (lcmpW (p1 + p0) (p1 + p0))]) (fun t k => XS.lcmp X779.here hx rfl (hb hby at_317) rfl k) ?_
  refine own_s T779 (mkF m 321 #[own_j p0, s_, own_j p1, s_, own_j p2, s_, own_j p3, s_, iv p4, iv p5, rv ad1, rv ad24, iv w0, iv w1, iv z0, iv z1, u_, u_] []) (fun t k => XS.ifNo X779.here hx rfl (hb hby at_318) rfl ((if0 _ _).trans (teq ((lw_eq _ _).mpr rfl)).2) k) ?_
  refine own_s T779 (mkF m 323 #[own_j p0, s_, own_j p1, s_, own_j p2, s_, own_j p3, s_, iv p4, iv p5, rv ad1, rv ad24, iv w0, iv w1, iv z0, iv z1, u_, u_] [.ref ad1]) (fun t k => XS.aload X779.here hx rfl (hb hby at_321) rfl rfl k) ?_
  obtain ⟨T781, X781, e781, st781⟩ := getF X779 hx hZ hown (host := "") (Or.inl (hW 25 _ rfl)) Via.refl e779 g757 (g := (mkF m 323 #[own_j p0, s_, own_j p1, s_, own_j p2, s_, own_j p3, s_, iv p4, iv p5, rv ad1, rv ad24, iv w0, iv w1, iv z0, iv z1, u_, u_] [.ref ad1])) rfl rfl (hb hby at_323)
  refine own_s T781 (mkF m 326 #[own_j p0, s_, own_j p1, s_, own_j p2, s_, own_j p3, s_, iv p4, iv p5, rv ad1, rv ad24, iv w0, iv w1, iv z0, iv z1, u_, u_] [.ref b1_8]) st781 ?_
  refine own_s T781 (mkF m 327 #[own_j p0, s_, own_j p1, s_, own_j p2, s_, own_j p3, s_, iv p4, iv p5, rv ad1, rv ad24, iv w0, iv w1, iv z0, iv z1, u_, u_] [.int 1, .ref b1_8]) (fun t k => XS.iconst X781.here hx rfl (hb hby at_326) k) ?_
  obtain ⟨cl782, Ar782, qa782, S782, M782, H782, U782⟩ := id g748
  have hi782 := inb_of S782 (j := (1 : Int32)) ⟨by decide, by decide⟩
  have hat782 := H782.at hi782 (v := (.long (p2 + p3))) rfl
  refine own_s T781 (mkF m 328 #[own_j p0, s_, own_j p1, s_, own_j p2, s_, own_j p3, s_, iv p4, iv p5, rv ad1, rv ad24, iv w0, iv w1, iv z0, iv z1, u_, u_] [.long (p2 + p3)]) (fun t k => X781.laload hx (j := (1 : Int32)) (v := (.long (p2 + p3))) (by rw [e781]; exact Ar782.1) (State.isArrayOf_alike hZ.alike Ar782.2.1) Ar782.2.2 hi782 hat782 (g := (mkF m 327 #[own_j p0, s_, own_j p1, s_, own_j p2, s_, own_j p3, s_, iv p4, iv p5, rv ad1, rv ad24, iv w0, iv w1, iv z0, iv z1, u_, u_] [.int 1, .ref b1_8])) rfl rfl (hb hby at_327) t k) ?_
  refine own_s T781 (mkF m 330 #[own_j p0, s_, own_j p1, s_, own_j p2, s_, own_j p3, s_, iv p4, iv p5, rv ad1, rv ad24, iv w0, iv w1, iv z0, iv z1, u_, u_] [.long p2, .long (p2 + p3)]) (fun t k => XS.lload X781.here hx rfl (hb hby at_328) rfl k) ?_
  refine own_s T781 (mkF m 332 #[own_j p0, s_, own_j p1, s_, own_j p2, s_, own_j p3, s_, iv p4, iv p5, rv ad1, rv ad24, iv w0, iv w1, iv z0, iv z1, u_, u_] [.long p3, .long p2, .long (p2 + p3)]) (fun t k => XS.lload X781.here hx rfl (hb hby at_330) rfl k) ?_
  refine own_s T781 (mkF m 333 #[own_j p0, s_, own_j p1, s_, own_j p2, s_, own_j p3, s_, iv p4, iv p5, rv ad1, rv ad24, iv w0, iv w1, iv z0, iv z1, u_, u_] [.long (p2 + p3), .long (p2 + p3)]) (fun t k => XS.ladd X781.here hx rfl (hb hby at_332) rfl k) ?_
  refine own_s T781 (mkF m 334 #[own_j p0, s_, own_j p1, s_, own_j p2, s_, own_j p3, s_, iv p4, iv p5, rv ad1, rv ad24, iv w0, iv w1, iv z0, iv z1, u_, u_] [.int (lcmpW (p2 + p3) (p2 + p3))]) (fun t k => XS.lcmp X781.here hx rfl (hb hby at_333) rfl k) ?_
  refine own_s T781 (mkF m 337 #[own_j p0, s_, own_j p1, s_, own_j p2, s_, own_j p3, s_, iv p4, iv p5, rv ad1, rv ad24, iv w0, iv w1, iv z0, iv z1, u_, u_] []) (fun t k => XS.ifNo X781.here hx rfl (hb hby at_334) rfl ((if0 _ _).trans (teq ((lw_eq _ _).mpr rfl)).2) k) ?_
  refine own_s T781 (mkF m 339 #[own_j p0, s_, own_j p1, s_, own_j p2, s_, own_j p3, s_, iv p4, iv p5, rv ad1, rv ad24, iv w0, iv w1, iv z0, iv z1, u_, u_] [.ref ad1]) (fun t k => XS.aload X781.here hx rfl (hb hby at_337) rfl rfl k) ?_
  obtain ⟨T783, X783, e783, st783⟩ := getF X781 hx hZ hown (host := "") (Or.inl (hW 26 _ rfl)) Via.refl e781 g758 (g := (mkF m 339 #[own_j p0, s_, own_j p1, s_, own_j p2, s_, own_j p3, s_, iv p4, iv p5, rv ad1, rv ad24, iv w0, iv w1, iv z0, iv z1, u_, u_] [.ref ad1])) rfl rfl (hb hby at_339)
  refine own_s T783 (mkF m 342 #[own_j p0, s_, own_j p1, s_, own_j p2, s_, own_j p3, s_, iv p4, iv p5, rv ad1, rv ad24, iv w0, iv w1, iv z0, iv z1, u_, u_] [.ref b2_8]) st783 ?_
  refine own_s T783 (mkF m 343 #[own_j p0, s_, own_j p1, s_, own_j p2, s_, own_j p3, s_, iv p4, iv p5, rv ad1, rv ad24, iv w0, iv w1, iv z0, iv z1, u_, u_] [.int 0, .ref b2_8]) (fun t k => XS.iconst X783.here hx rfl (hb hby at_342) k) ?_
  obtain ⟨cl784, Ar784, qa784, S784, M784, H784, U784⟩ := id g749
  have hi784 := inb_of S784 (j := (0 : Int32)) ⟨by decide, by decide⟩
  have hat784 := H784.at hi784 (v := (.long (p2 + p1))) rfl
  refine own_s T783 (mkF m 344 #[own_j p0, s_, own_j p1, s_, own_j p2, s_, own_j p3, s_, iv p4, iv p5, rv ad1, rv ad24, iv w0, iv w1, iv z0, iv z1, u_, u_] [.long (p2 + p1)]) (fun t k => X783.laload hx (j := (0 : Int32)) (v := (.long (p2 + p1))) (by rw [e783]; exact Ar784.1) (State.isArrayOf_alike hZ.alike Ar784.2.1) Ar784.2.2 hi784 hat784 (g := (mkF m 343 #[own_j p0, s_, own_j p1, s_, own_j p2, s_, own_j p3, s_, iv p4, iv p5, rv ad1, rv ad24, iv w0, iv w1, iv z0, iv z1, u_, u_] [.int 0, .ref b2_8])) rfl rfl (hb hby at_343) t k) ?_
  refine own_s T783 (mkF m 346 #[own_j p0, s_, own_j p1, s_, own_j p2, s_, own_j p3, s_, iv p4, iv p5, rv ad1, rv ad24, iv w0, iv w1, iv z0, iv z1, u_, u_] [.long p2, .long (p2 + p1)]) (fun t k => XS.lload X783.here hx rfl (hb hby at_344) rfl k) ?_
  refine own_s T783 (mkF m 347 #[own_j p0, s_, own_j p1, s_, own_j p2, s_, own_j p3, s_, iv p4, iv p5, rv ad1, rv ad24, iv w0, iv w1, iv z0, iv z1, u_, u_] [.long p1, .long p2, .long (p2 + p1)]) (fun t k => XS.lloadN X783.here hx rfl (hb hby at_346) rfl k) ?_
  refine own_s T783 (mkF m 348 #[own_j p0, s_, own_j p1, s_, own_j p2, s_, own_j p3, s_, iv p4, iv p5, rv ad1, rv ad24, iv w0, iv w1, iv z0, iv z1, u_, u_] [.long (p2 + p1), .long (p2 + p1)]) (fun t k => XS.ladd X783.here hx rfl (hb hby at_347) rfl k) ?_
  refine own_s T783 (mkF m 349 #[own_j p0, s_, own_j p1, s_, own_j p2, s_, own_j p3, s_, iv p4, iv p5, rv ad1, rv ad24, iv w0, iv w1, iv z0, iv z1, u_, u_] [.int (lcmpW (p2 + p1) (p2 + p1))]) (fun t k => XS.lcmp X783.here hx rfl (hb hby at_348) rfl k) ?_
  refine own_s T783 (mkF m 352 #[own_j p0, s_, own_j p1, s_, own_j p2, s_, own_j p3, s_, iv p4, iv p5, rv ad1, rv ad24, iv w0, iv w1, iv z0, iv z1, u_, u_] []) (fun t k => XS.ifNo X783.here hx rfl (hb hby at_349) rfl ((if0 _ _).trans (teq ((lw_eq _ _).mpr rfl)).2) k) ?_
  refine own_s T783 (mkF m 354 #[own_j p0, s_, own_j p1, s_, own_j p2, s_, own_j p3, s_, iv p4, iv p5, rv ad1, rv ad24, iv w0, iv w1, iv z0, iv z1, u_, u_] [.ref ad1]) (fun t k => XS.aload X783.here hx rfl (hb hby at_352) rfl rfl k) ?_
  obtain ⟨T785, X785, e785, st785⟩ := getF X783 hx hZ hown (host := "") (Or.inl (hW 26 _ rfl)) Via.refl e783 g758 (g := (mkF m 354 #[own_j p0, s_, own_j p1, s_, own_j p2, s_, own_j p3, s_, iv p4, iv p5, rv ad1, rv ad24, iv w0, iv w1, iv z0, iv z1, u_, u_] [.ref ad1])) rfl rfl (hb hby at_354)
  refine own_s T785 (mkF m 357 #[own_j p0, s_, own_j p1, s_, own_j p2, s_, own_j p3, s_, iv p4, iv p5, rv ad1, rv ad24, iv w0, iv w1, iv z0, iv z1, u_, u_] [.ref b2_8]) st785 ?_
  refine own_s T785 (mkF m 358 #[own_j p0, s_, own_j p1, s_, own_j p2, s_, own_j p3, s_, iv p4, iv p5, rv ad1, rv ad24, iv w0, iv w1, iv z0, iv z1, u_, u_] [.int 1, .ref b2_8]) (fun t k => XS.iconst X785.here hx rfl (hb hby at_357) k) ?_
  obtain ⟨cl786, Ar786, qa786, S786, M786, H786, U786⟩ := id g749
  have hi786 := inb_of S786 (j := (1 : Int32)) ⟨by decide, by decide⟩
  have hat786 := H786.at hi786 (v := (.long (p3 + p0))) rfl
  refine own_s T785 (mkF m 359 #[own_j p0, s_, own_j p1, s_, own_j p2, s_, own_j p3, s_, iv p4, iv p5, rv ad1, rv ad24, iv w0, iv w1, iv z0, iv z1, u_, u_] [.long (p3 + p0)]) (fun t k => X785.laload hx (j := (1 : Int32)) (v := (.long (p3 + p0))) (by rw [e785]; exact Ar786.1) (State.isArrayOf_alike hZ.alike Ar786.2.1) Ar786.2.2 hi786 hat786 (g := (mkF m 358 #[own_j p0, s_, own_j p1, s_, own_j p2, s_, own_j p3, s_, iv p4, iv p5, rv ad1, rv ad24, iv w0, iv w1, iv z0, iv z1, u_, u_] [.int 1, .ref b2_8])) rfl rfl (hb hby at_358) t k) ?_
  refine own_s T785 (mkF m 361 #[own_j p0, s_, own_j p1, s_, own_j p2, s_, own_j p3, s_, iv p4, iv p5, rv ad1, rv ad24, iv w0, iv w1, iv z0, iv z1, u_, u_] [.long p3, .long (p3 + p0)]) (fun t k => XS.lload X785.here hx rfl (hb hby at_359) rfl k) ?_
  refine own_s T785 (mkF m 362 #[own_j p0, s_, own_j p1, s_, own_j p2, s_, own_j p3, s_, iv p4, iv p5, rv ad1, rv ad24, iv w0, iv w1, iv z0, iv z1, u_, u_] [.long p0, .long p3, .long (p3 + p0)]) (fun t k => XS.lloadN X785.here hx rfl (hb hby at_361) rfl k) ?_
  refine own_s T785 (mkF m 363 #[own_j p0, s_, own_j p1, s_, own_j p2, s_, own_j p3, s_, iv p4, iv p5, rv ad1, rv ad24, iv w0, iv w1, iv z0, iv z1, u_, u_] [.long (p3 + p0), .long (p3 + p0)]) (fun t k => XS.ladd X785.here hx rfl (hb hby at_362) rfl k) ?_
  refine own_s T785 (mkF m 364 #[own_j p0, s_, own_j p1, s_, own_j p2, s_, own_j p3, s_, iv p4, iv p5, rv ad1, rv ad24, iv w0, iv w1, iv z0, iv z1, u_, u_] [.int (lcmpW (p3 + p0) (p3 + p0))]) (fun t k => XS.lcmp X785.here hx rfl (hb hby at_363) rfl k) ?_
  refine own_s T785 (mkF m 367 #[own_j p0, s_, own_j p1, s_, own_j p2, s_, own_j p3, s_, iv p4, iv p5, rv ad1, rv ad24, iv w0, iv w1, iv z0, iv z1, u_, u_] []) (fun t k => XS.ifNo X785.here hx rfl (hb hby at_364) rfl ((if0 _ _).trans (teq ((lw_eq _ _).mpr rfl)).2) k) ?_
  refine own_s T785 (mkF m 369 #[own_j p0, s_, own_j p1, s_, own_j p2, s_, own_j p3, s_, iv p4, iv p5, rv ad1, rv ad24, iv w0, iv w1, iv z0, iv z1, u_, u_] [.ref ad1]) (fun t k => XS.aload X785.here hx rfl (hb hby at_367) rfl rfl k) ?_
  obtain ⟨T787, X787, e787, st787⟩ := getF X785 hx hZ hown (host := "") (Or.inl (hW 27 _ rfl)) Via.refl e785 g759 (g := (mkF m 369 #[own_j p0, s_, own_j p1, s_, own_j p2, s_, own_j p3, s_, iv p4, iv p5, rv ad1, rv ad24, iv w0, iv w1, iv z0, iv z1, u_, u_] [.ref ad1])) rfl rfl (hb hby at_369)
  refine own_s T787 (mkF m 372 #[own_j p0, s_, own_j p1, s_, own_j p2, s_, own_j p3, s_, iv p4, iv p5, rv ad1, rv ad24, iv w0, iv w1, iv z0, iv z1, u_, u_] [.ref b3_8]) st787 ?_
  refine own_s T787 (mkF m 373 #[own_j p0, s_, own_j p1, s_, own_j p2, s_, own_j p3, s_, iv p4, iv p5, rv ad1, rv ad24, iv w0, iv w1, iv z0, iv z1, u_, u_] [.int 0, .ref b3_8]) (fun t k => XS.iconst X787.here hx rfl (hb hby at_372) k) ?_
  obtain ⟨cl788, Ar788, qa788, S788, M788, H788, U788⟩ := id g750
  have hi788 := inb_of S788 (j := (0 : Int32)) ⟨by decide, by decide⟩
  have hat788 := H788.at hi788 (v := (.long (p3 + p2))) rfl
  refine own_s T787 (mkF m 374 #[own_j p0, s_, own_j p1, s_, own_j p2, s_, own_j p3, s_, iv p4, iv p5, rv ad1, rv ad24, iv w0, iv w1, iv z0, iv z1, u_, u_] [.long (p3 + p2)]) (fun t k => X787.laload hx (j := (0 : Int32)) (v := (.long (p3 + p2))) (by rw [e787]; exact Ar788.1) (State.isArrayOf_alike hZ.alike Ar788.2.1) Ar788.2.2 hi788 hat788 (g := (mkF m 373 #[own_j p0, s_, own_j p1, s_, own_j p2, s_, own_j p3, s_, iv p4, iv p5, rv ad1, rv ad24, iv w0, iv w1, iv z0, iv z1, u_, u_] [.int 0, .ref b3_8])) rfl rfl (hb hby at_373) t k) ?_
  refine own_s T787 (mkF m 376 #[own_j p0, s_, own_j p1, s_, own_j p2, s_, own_j p3, s_, iv p4, iv p5, rv ad1, rv ad24, iv w0, iv w1, iv z0, iv z1, u_, u_] [.long p3, .long (p3 + p2)]) (fun t k => XS.lload X787.here hx rfl (hb hby at_374) rfl k) ?_
  refine own_s T787 (mkF m 378 #[own_j p0, s_, own_j p1, s_, own_j p2, s_, own_j p3, s_, iv p4, iv p5, rv ad1, rv ad24, iv w0, iv w1, iv z0, iv z1, u_, u_] [.long p2, .long p3, .long (p3 + p2)]) (fun t k => XS.lload X787.here hx rfl (hb hby at_376) rfl k) ?_
  refine own_s T787 (mkF m 379 #[own_j p0, s_, own_j p1, s_, own_j p2, s_, own_j p3, s_, iv p4, iv p5, rv ad1, rv ad24, iv w0, iv w1, iv z0, iv z1, u_, u_] [.long (p3 + p2), .long (p3 + p2)]) (fun t k => XS.ladd X787.here hx rfl (hb hby at_378) rfl k) ?_
  refine own_s T787 (mkF m 380 #[own_j p0, s_, own_j p1, s_, own_j p2, s_, own_j p3, s_, iv p4, iv p5, rv ad1, rv ad24, iv w0, iv w1, iv z0, iv z1, u_, u_] [.int (lcmpW (p3 + p2) (p3 + p2))]) (fun t k => XS.lcmp X787.here hx rfl (hb hby at_379) rfl k) ?_
  refine own_s T787 (mkF m 383 #[own_j p0, s_, own_j p1, s_, own_j p2, s_, own_j p3, s_, iv p4, iv p5, rv ad1, rv ad24, iv w0, iv w1, iv z0, iv z1, u_, u_] []) (fun t k => XS.ifNo X787.here hx rfl (hb hby at_380) rfl ((if0 _ _).trans (teq ((lw_eq _ _).mpr rfl)).2) k) ?_
  refine own_s T787 (mkF m 385 #[own_j p0, s_, own_j p1, s_, own_j p2, s_, own_j p3, s_, iv p4, iv p5, rv ad1, rv ad24, iv w0, iv w1, iv z0, iv z1, u_, u_] [.ref ad1]) (fun t k => XS.aload X787.here hx rfl (hb hby at_383) rfl rfl k) ?_
  obtain ⟨T789, X789, e789, st789⟩ := getF X787 hx hZ hown (host := "") (Or.inl (hW 27 _ rfl)) Via.refl e787 g759 (g := (mkF m 385 #[own_j p0, s_, own_j p1, s_, own_j p2, s_, own_j p3, s_, iv p4, iv p5, rv ad1, rv ad24, iv w0, iv w1, iv z0, iv z1, u_, u_] [.ref ad1])) rfl rfl (hb hby at_385)
  refine own_s T789 (mkF m 388 #[own_j p0, s_, own_j p1, s_, own_j p2, s_, own_j p3, s_, iv p4, iv p5, rv ad1, rv ad24, iv w0, iv w1, iv z0, iv z1, u_, u_] [.ref b3_8]) st789 ?_
  refine own_s T789 (mkF m 389 #[own_j p0, s_, own_j p1, s_, own_j p2, s_, own_j p3, s_, iv p4, iv p5, rv ad1, rv ad24, iv w0, iv w1, iv z0, iv z1, u_, u_] [.int 1, .ref b3_8]) (fun t k => XS.iconst X789.here hx rfl (hb hby at_388) k) ?_
  obtain ⟨cl790, Ar790, qa790, S790, M790, H790, U790⟩ := id g750
  have hi790 := inb_of S790 (j := (1 : Int32)) ⟨by decide, by decide⟩
  have hat790 := H790.at hi790 (v := (.long ((p0 ^^^ p1) + p1))) rfl
  refine own_s T789 (mkF m 390 #[own_j p0, s_, own_j p1, s_, own_j p2, s_, own_j p3, s_, iv p4, iv p5, rv ad1, rv ad24, iv w0, iv w1, iv z0, iv z1, u_, u_] [.long ((p0 ^^^ p1) + p1)]) (fun t k => X789.laload hx (j := (1 : Int32)) (v := (.long ((p0 ^^^ p1) + p1))) (by rw [e789]; exact Ar790.1) (State.isArrayOf_alike hZ.alike Ar790.2.1) Ar790.2.2 hi790 hat790 (g := (mkF m 389 #[own_j p0, s_, own_j p1, s_, own_j p2, s_, own_j p3, s_, iv p4, iv p5, rv ad1, rv ad24, iv w0, iv w1, iv z0, iv z1, u_, u_] [.int 1, .ref b3_8])) rfl rfl (hb hby at_389) t k) ?_
  refine own_s T789 (mkF m 391 #[own_j p0, s_, own_j p1, s_, own_j p2, s_, own_j p3, s_, iv p4, iv p5, rv ad1, rv ad24, iv w0, iv w1, iv z0, iv z1, u_, u_] [.long p0, .long ((p0 ^^^ p1) + p1)]) (fun t k => XS.lloadN X789.here hx rfl (hb hby at_390) rfl k) ?_
  refine own_s T789 (mkF m 392 #[own_j p0, s_, own_j p1, s_, own_j p2, s_, own_j p3, s_, iv p4, iv p5, rv ad1, rv ad24, iv w0, iv w1, iv z0, iv z1, u_, u_] [.long p1, .long p0, .long ((p0 ^^^ p1) + p1)]) (fun t k => XS.lloadN X789.here hx rfl (hb hby at_391) rfl k) ?_
  refine own_s T789 (mkF m 393 #[own_j p0, s_, own_j p1, s_, own_j p2, s_, own_j p3, s_, iv p4, iv p5, rv ad1, rv ad24, iv w0, iv w1, iv z0, iv z1, u_, u_] [.long (p0 ^^^ p1), .long ((p0 ^^^ p1) + p1)]) (fun t k => XS.lxor X789.here hx rfl (hb hby at_392) rfl k) ?_
  refine own_s T789 (mkF m 394 #[own_j p0, s_, own_j p1, s_, own_j p2, s_, own_j p3, s_, iv p4, iv p5, rv ad1, rv ad24, iv w0, iv w1, iv z0, iv z1, u_, u_] [.long p1, .long (p0 ^^^ p1), .long ((p0 ^^^ p1) + p1)]) (fun t k => XS.lloadN X789.here hx rfl (hb hby at_393) rfl k) ?_
  refine own_s T789 (mkF m 395 #[own_j p0, s_, own_j p1, s_, own_j p2, s_, own_j p3, s_, iv p4, iv p5, rv ad1, rv ad24, iv w0, iv w1, iv z0, iv z1, u_, u_] [.long ((p0 ^^^ p1) + p1), .long ((p0 ^^^ p1) + p1)]) (fun t k => XS.ladd X789.here hx rfl (hb hby at_394) rfl k) ?_
  refine own_s T789 (mkF m 396 #[own_j p0, s_, own_j p1, s_, own_j p2, s_, own_j p3, s_, iv p4, iv p5, rv ad1, rv ad24, iv w0, iv w1, iv z0, iv z1, u_, u_] [.int (lcmpW ((p0 ^^^ p1) + p1) ((p0 ^^^ p1) + p1))]) (fun t k => XS.lcmp X789.here hx rfl (hb hby at_395) rfl k) ?_
  refine own_s T789 (mkF m 399 #[own_j p0, s_, own_j p1, s_, own_j p2, s_, own_j p3, s_, iv p4, iv p5, rv ad1, rv ad24, iv w0, iv w1, iv z0, iv z1, u_, u_] []) (fun t k => XS.ifNo X789.here hx rfl (hb hby at_396) rfl ((if0 _ _).trans (teq ((lw_eq _ _).mpr rfl)).2) k) ?_
  refine own_s T789 (mkF m 401 #[own_j p0, s_, own_j p1, s_, own_j p2, s_, own_j p3, s_, iv p4, iv p5, rv ad1, rv ad24, iv w0, iv w1, iv z0, iv z1, u_, u_] [.ref ad1]) (fun t k => XS.aload X789.here hx rfl (hb hby at_399) rfl rfl k) ?_
  obtain ⟨T791, X791, e791, st791⟩ := getF X789 hx hZ hown (host := "") (Or.inl (hW 28 _ rfl)) Via.refl e789 g760 (g := (mkF m 401 #[own_j p0, s_, own_j p1, s_, own_j p2, s_, own_j p3, s_, iv p4, iv p5, rv ad1, rv ad24, iv w0, iv w1, iv z0, iv z1, u_, u_] [.ref ad1])) rfl rfl (hb hby at_401)
  refine own_s T791 (mkF m 404 #[own_j p0, s_, own_j p1, s_, own_j p2, s_, own_j p3, s_, iv p4, iv p5, rv ad1, rv ad24, iv w0, iv w1, iv z0, iv z1, u_, u_] [.ref b4_8]) st791 ?_
  refine own_s T791 (mkF m 405 #[own_j p0, s_, own_j p1, s_, own_j p2, s_, own_j p3, s_, iv p4, iv p5, rv ad1, rv ad24, iv w0, iv w1, iv z0, iv z1, u_, u_] [.int 0, .ref b4_8]) (fun t k => XS.iconst X791.here hx rfl (hb hby at_404) k) ?_
  obtain ⟨cl792, Ar792, qa792, S792, M792, H792, U792⟩ := id g751
  have hi792 := inb_of S792 (j := (0 : Int32)) ⟨by decide, by decide⟩
  have hat792 := H792.at hi792 (v := (.long ((p0 + p2) + (p0 - p3)))) rfl
  refine own_s T791 (mkF m 406 #[own_j p0, s_, own_j p1, s_, own_j p2, s_, own_j p3, s_, iv p4, iv p5, rv ad1, rv ad24, iv w0, iv w1, iv z0, iv z1, u_, u_] [.long ((p0 + p2) + (p0 - p3))]) (fun t k => X791.laload hx (j := (0 : Int32)) (v := (.long ((p0 + p2) + (p0 - p3)))) (by rw [e791]; exact Ar792.1) (State.isArrayOf_alike hZ.alike Ar792.2.1) Ar792.2.2 hi792 hat792 (g := (mkF m 405 #[own_j p0, s_, own_j p1, s_, own_j p2, s_, own_j p3, s_, iv p4, iv p5, rv ad1, rv ad24, iv w0, iv w1, iv z0, iv z1, u_, u_] [.int 0, .ref b4_8])) rfl rfl (hb hby at_405) t k) ?_
  refine own_s T791 (mkF m 407 #[own_j p0, s_, own_j p1, s_, own_j p2, s_, own_j p3, s_, iv p4, iv p5, rv ad1, rv ad24, iv w0, iv w1, iv z0, iv z1, u_, u_] [.long p0, .long ((p0 + p2) + (p0 - p3))]) (fun t k => XS.lloadN X791.here hx rfl (hb hby at_406) rfl k) ?_
  refine own_s T791 (mkF m 409 #[own_j p0, s_, own_j p1, s_, own_j p2, s_, own_j p3, s_, iv p4, iv p5, rv ad1, rv ad24, iv w0, iv w1, iv z0, iv z1, u_, u_] [.long p2, .long p0, .long ((p0 + p2) + (p0 - p3))]) (fun t k => XS.lload X791.here hx rfl (hb hby at_407) rfl k) ?_
  refine own_s T791 (mkF m 410 #[own_j p0, s_, own_j p1, s_, own_j p2, s_, own_j p3, s_, iv p4, iv p5, rv ad1, rv ad24, iv w0, iv w1, iv z0, iv z1, u_, u_] [.long (p0 + p2), .long ((p0 + p2) + (p0 - p3))]) (fun t k => XS.ladd X791.here hx rfl (hb hby at_409) rfl k) ?_
  refine own_s T791 (mkF m 411 #[own_j p0, s_, own_j p1, s_, own_j p2, s_, own_j p3, s_, iv p4, iv p5, rv ad1, rv ad24, iv w0, iv w1, iv z0, iv z1, u_, u_] [.long p0, .long (p0 + p2), .long ((p0 + p2) + (p0 - p3))]) (fun t k => XS.lloadN X791.here hx rfl (hb hby at_410) rfl k) ?_
  refine own_s T791 (mkF m 413 #[own_j p0, s_, own_j p1, s_, own_j p2, s_, own_j p3, s_, iv p4, iv p5, rv ad1, rv ad24, iv w0, iv w1, iv z0, iv z1, u_, u_] [.long p3, .long p0, .long (p0 + p2), .long ((p0 + p2) + (p0 - p3))]) (fun t k => XS.lload X791.here hx rfl (hb hby at_411) rfl k) ?_
  refine own_s T791 (mkF m 414 #[own_j p0, s_, own_j p1, s_, own_j p2, s_, own_j p3, s_, iv p4, iv p5, rv ad1, rv ad24, iv w0, iv w1, iv z0, iv z1, u_, u_] [.long (p0 - p3), .long (p0 + p2), .long ((p0 + p2) + (p0 - p3))]) (fun t k => XS.lsub X791.here hx rfl (hb hby at_413) rfl k) ?_
  refine own_s T791 (mkF m 415 #[own_j p0, s_, own_j p1, s_, own_j p2, s_, own_j p3, s_, iv p4, iv p5, rv ad1, rv ad24, iv w0, iv w1, iv z0, iv z1, u_, u_] [.long ((p0 + p2) + (p0 - p3)), .long ((p0 + p2) + (p0 - p3))]) (fun t k => XS.ladd X791.here hx rfl (hb hby at_414) rfl k) ?_
  refine own_s T791 (mkF m 416 #[own_j p0, s_, own_j p1, s_, own_j p2, s_, own_j p3, s_, iv p4, iv p5, rv ad1, rv ad24, iv w0, iv w1, iv z0, iv z1, u_, u_] [.int (lcmpW ((p0 + p2) + (p0 - p3)) ((p0 + p2) + (p0 - p3)))]) (fun t k => XS.lcmp X791.here hx rfl (hb hby at_415) rfl k) ?_
  refine own_s T791 (mkF m 419 #[own_j p0, s_, own_j p1, s_, own_j p2, s_, own_j p3, s_, iv p4, iv p5, rv ad1, rv ad24, iv w0, iv w1, iv z0, iv z1, u_, u_] []) (fun t k => XS.ifNo X791.here hx rfl (hb hby at_416) rfl ((if0 _ _).trans (teq ((lw_eq _ _).mpr rfl)).2) k) ?_
  refine own_s T791 (mkF m 421 #[own_j p0, s_, own_j p1, s_, own_j p2, s_, own_j p3, s_, iv p4, iv p5, rv ad1, rv ad24, iv w0, iv w1, iv z0, iv z1, u_, u_] [.ref ad1]) (fun t k => XS.aload X791.here hx rfl (hb hby at_419) rfl rfl k) ?_
  obtain ⟨T793, X793, e793, st793⟩ := getF X791 hx hZ hown (host := "") (Or.inl (hW 28 _ rfl)) Via.refl e791 g760 (g := (mkF m 421 #[own_j p0, s_, own_j p1, s_, own_j p2, s_, own_j p3, s_, iv p4, iv p5, rv ad1, rv ad24, iv w0, iv w1, iv z0, iv z1, u_, u_] [.ref ad1])) rfl rfl (hb hby at_421)
  refine own_s T793 (mkF m 424 #[own_j p0, s_, own_j p1, s_, own_j p2, s_, own_j p3, s_, iv p4, iv p5, rv ad1, rv ad24, iv w0, iv w1, iv z0, iv z1, u_, u_] [.ref b4_8]) st793 ?_
  refine own_s T793 (mkF m 425 #[own_j p0, s_, own_j p1, s_, own_j p2, s_, own_j p3, s_, iv p4, iv p5, rv ad1, rv ad24, iv w0, iv w1, iv z0, iv z1, u_, u_] [.int 1, .ref b4_8]) (fun t k => XS.iconst X793.here hx rfl (hb hby at_424) k) ?_
  obtain ⟨cl794, Ar794, qa794, S794, M794, H794, U794⟩ := id g751
  have hi794 := inb_of S794 (j := (1 : Int32)) ⟨by decide, by decide⟩
  have hat794 := H794.at hi794 (v := (.long ((p1 - p3) + (p1 + p2)))) rfl
  refine own_s T793 (mkF m 426 #[own_j p0, s_, own_j p1, s_, own_j p2, s_, own_j p3, s_, iv p4, iv p5, rv ad1, rv ad24, iv w0, iv w1, iv z0, iv z1, u_, u_] [.long ((p1 - p3) + (p1 + p2))]) (fun t k => X793.laload hx (j := (1 : Int32)) (v := (.long ((p1 - p3) + (p1 + p2)))) (by rw [e793]; exact Ar794.1) (State.isArrayOf_alike hZ.alike Ar794.2.1) Ar794.2.2 hi794 hat794 (g := (mkF m 425 #[own_j p0, s_, own_j p1, s_, own_j p2, s_, own_j p3, s_, iv p4, iv p5, rv ad1, rv ad24, iv w0, iv w1, iv z0, iv z1, u_, u_] [.int 1, .ref b4_8])) rfl rfl (hb hby at_425) t k) ?_
  refine own_s T793 (mkF m 427 #[own_j p0, s_, own_j p1, s_, own_j p2, s_, own_j p3, s_, iv p4, iv p5, rv ad1, rv ad24, iv w0, iv w1, iv z0, iv z1, u_, u_] [.long p1, .long ((p1 - p3) + (p1 + p2))]) (fun t k => XS.lloadN X793.here hx rfl (hb hby at_426) rfl k) ?_
  refine own_s T793 (mkF m 429 #[own_j p0, s_, own_j p1, s_, own_j p2, s_, own_j p3, s_, iv p4, iv p5, rv ad1, rv ad24, iv w0, iv w1, iv z0, iv z1, u_, u_] [.long p3, .long p1, .long ((p1 - p3) + (p1 + p2))]) (fun t k => XS.lload X793.here hx rfl (hb hby at_427) rfl k) ?_
  refine own_s T793 (mkF m 430 #[own_j p0, s_, own_j p1, s_, own_j p2, s_, own_j p3, s_, iv p4, iv p5, rv ad1, rv ad24, iv w0, iv w1, iv z0, iv z1, u_, u_] [.long (p1 - p3), .long ((p1 - p3) + (p1 + p2))]) (fun t k => XS.lsub X793.here hx rfl (hb hby at_429) rfl k) ?_
  refine own_s T793 (mkF m 431 #[own_j p0, s_, own_j p1, s_, own_j p2, s_, own_j p3, s_, iv p4, iv p5, rv ad1, rv ad24, iv w0, iv w1, iv z0, iv z1, u_, u_] [.long p1, .long (p1 - p3), .long ((p1 - p3) + (p1 + p2))]) (fun t k => XS.lloadN X793.here hx rfl (hb hby at_430) rfl k) ?_
  refine own_s T793 (mkF m 433 #[own_j p0, s_, own_j p1, s_, own_j p2, s_, own_j p3, s_, iv p4, iv p5, rv ad1, rv ad24, iv w0, iv w1, iv z0, iv z1, u_, u_] [.long p2, .long p1, .long (p1 - p3), .long ((p1 - p3) + (p1 + p2))]) (fun t k => XS.lload X793.here hx rfl (hb hby at_431) rfl k) ?_
  refine own_s T793 (mkF m 434 #[own_j p0, s_, own_j p1, s_, own_j p2, s_, own_j p3, s_, iv p4, iv p5, rv ad1, rv ad24, iv w0, iv w1, iv z0, iv z1, u_, u_] [.long (p1 + p2), .long (p1 - p3), .long ((p1 - p3) + (p1 + p2))]) (fun t k => XS.ladd X793.here hx rfl (hb hby at_433) rfl k) ?_
  refine own_s T793 (mkF m 435 #[own_j p0, s_, own_j p1, s_, own_j p2, s_, own_j p3, s_, iv p4, iv p5, rv ad1, rv ad24, iv w0, iv w1, iv z0, iv z1, u_, u_] [.long ((p1 - p3) + (p1 + p2)), .long ((p1 - p3) + (p1 + p2))]) (fun t k => XS.ladd X793.here hx rfl (hb hby at_434) rfl k) ?_
  refine own_s T793 (mkF m 436 #[own_j p0, s_, own_j p1, s_, own_j p2, s_, own_j p3, s_, iv p4, iv p5, rv ad1, rv ad24, iv w0, iv w1, iv z0, iv z1, u_, u_] [.int (lcmpW ((p1 - p3) + (p1 + p2)) ((p1 - p3) + (p1 + p2)))]) (fun t k => XS.lcmp X793.here hx rfl (hb hby at_435) rfl k) ?_
  refine own_s T793 (mkF m 439 #[own_j p0, s_, own_j p1, s_, own_j p2, s_, own_j p3, s_, iv p4, iv p5, rv ad1, rv ad24, iv w0, iv w1, iv z0, iv z1, u_, u_] []) (fun t k => XS.ifNo X793.here hx rfl (hb hby at_436) rfl ((if0 _ _).trans (teq ((lw_eq _ _).mpr rfl)).2) k) ?_
  refine own_s T793 (mkF m 441 #[own_j p0, s_, own_j p1, s_, own_j p2, s_, own_j p3, s_, iv p4, iv p5, rv ad1, rv ad24, iv w0, iv w1, iv z0, iv z1, u_, u_] [.ref ad1]) (fun t k => XS.aload X793.here hx rfl (hb hby at_439) rfl rfl k) ?_
  obtain ⟨T795, X795, e795, st795⟩ := getF X793 hx hZ hown (host := "") (Or.inl (hW 29 _ rfl)) Via.refl e793 g761 (g := (mkF m 441 #[own_j p0, s_, own_j p1, s_, own_j p2, s_, own_j p3, s_, iv p4, iv p5, rv ad1, rv ad24, iv w0, iv w1, iv z0, iv z1, u_, u_] [.ref ad1])) rfl rfl (hb hby at_441)
  refine own_s T795 (mkF m 444 #[own_j p0, s_, own_j p1, s_, own_j p2, s_, own_j p3, s_, iv p4, iv p5, rv ad1, rv ad24, iv w0, iv w1, iv z0, iv z1, u_, u_] [.ref b5_8]) st795 ?_
  refine own_s T795 (mkF m 445 #[own_j p0, s_, own_j p1, s_, own_j p2, s_, own_j p3, s_, iv p4, iv p5, rv ad1, rv ad24, iv w0, iv w1, iv z0, iv z1, u_, u_] [.int 0, .ref b5_8]) (fun t k => XS.iconst X795.here hx rfl (hb hby at_444) k) ?_
  obtain ⟨cl796, Ar796, qa796, S796, M796, H796, U796⟩ := id g752
  have hi796 := inb_of S796 (j := (0 : Int32)) ⟨by decide, by decide⟩
  have hat796 := H796.at hi796 (v := (.double (FP.l2d (w0.toInt64 + z0.toInt64)))) rfl
  refine own_s T795 (mkF m 446 #[own_j p0, s_, own_j p1, s_, own_j p2, s_, own_j p3, s_, iv p4, iv p5, rv ad1, rv ad24, iv w0, iv w1, iv z0, iv z1, u_, u_] [(.double (FP.l2d (w0.toInt64 + z0.toInt64)))]) (fun t k => X795.daload hx (j := (0 : Int32)) (v := (.double (FP.l2d (w0.toInt64 + z0.toInt64)))) (by rw [e795]; exact Ar796.1) (State.isArrayOf_alike hZ.alike Ar796.2.1) Ar796.2.2 hi796 hat796 (g := (mkF m 445 #[own_j p0, s_, own_j p1, s_, own_j p2, s_, own_j p3, s_, iv p4, iv p5, rv ad1, rv ad24, iv w0, iv w1, iv z0, iv z1, u_, u_] [.int 0, .ref b5_8])) rfl rfl (hb hby at_445) t k) ?_
  refine own_s T795 (mkF m 448 #[own_j p0, s_, own_j p1, s_, own_j p2, s_, own_j p3, s_, iv p4, iv p5, rv ad1, rv ad24, iv w0, iv w1, iv z0, iv z1, u_, u_] [.int w0, (.double (FP.l2d (w0.toInt64 + z0.toInt64)))]) (fun t k => XS.iload X795.here hx rfl (hb hby at_446) rfl k) ?_
  refine own_s T795 (mkF m 450 #[own_j p0, s_, own_j p1, s_, own_j p2, s_, own_j p3, s_, iv p4, iv p5, rv ad1, rv ad24, iv w0, iv w1, iv z0, iv z1, u_, u_] [.int z0, .int w0, (.double (FP.l2d (w0.toInt64 + z0.toInt64)))]) (fun t k => XS.iload X795.here hx rfl (hb hby at_448) rfl k) ?_
  refine own_s T795 (mkF m 451 #[own_j p0, s_, own_j p1, s_, own_j p2, s_, own_j p3, s_, iv p4, iv p5, rv ad1, rv ad24, iv w0, iv w1, iv z0, iv z1, u_, u_] [.int (w0 + z0), (.double (FP.l2d (w0.toInt64 + z0.toInt64)))]) (fun t k => XS.iadd X795.here hx rfl (hb hby at_450) rfl k) ?_
  refine own_s T795 (mkF m 452 #[own_j p0, s_, own_j p1, s_, own_j p2, s_, own_j p3, s_, iv p4, iv p5, rv ad1, rv ad24, iv w0, iv w1, iv z0, iv z1, u_, u_] [(.double (FP.l2d (w0 + z0).toInt64)), (.double (FP.l2d (w0.toInt64 + z0.toInt64)))]) (fun t k => XS.i2dS X795.here hx rfl (hb hby at_451) rfl (i2d_w _) k) ?_
  refine own_s T795 (mkF m 453 #[own_j p0, s_, own_j p1, s_, own_j p2, s_, own_j p3, s_, iv p4, iv p5, rv ad1, rv ad24, iv w0, iv w1, iv z0, iv z1, u_, u_] [.int (lcmpW (w0.toInt64 + z0.toInt64) (w0 + z0).toInt64)]) (fun t k => XS.dcmpS X795.here hx rfl (hb hby at_452) rfl (dcmpV_w (own_bs _ _) (own_b32 _) _) k) ?_
  refine own_s T795 (mkF m 456 #[own_j p0, s_, own_j p1, s_, own_j p2, s_, own_j p3, s_, iv p4, iv p5, rv ad1, rv ad24, iv w0, iv w1, iv z0, iv z1, u_, u_] []) (fun t k => XS.ifNo X795.here hx rfl (hb hby at_453) rfl ((if0 _ _).trans (teq ((lw_eq _ _).mpr (own_sum hw0 hz0))).2) k) ?_
  refine own_s T795 (mkF m 458 #[own_j p0, s_, own_j p1, s_, own_j p2, s_, own_j p3, s_, iv p4, iv p5, rv ad1, rv ad24, iv w0, iv w1, iv z0, iv z1, u_, u_] [.ref ad1]) (fun t k => XS.aload X795.here hx rfl (hb hby at_456) rfl rfl k) ?_
  obtain ⟨T797, X797, e797, st797⟩ := getF X795 hx hZ hown (host := "") (Or.inl (hW 29 _ rfl)) Via.refl e795 g761 (g := (mkF m 458 #[own_j p0, s_, own_j p1, s_, own_j p2, s_, own_j p3, s_, iv p4, iv p5, rv ad1, rv ad24, iv w0, iv w1, iv z0, iv z1, u_, u_] [.ref ad1])) rfl rfl (hb hby at_458)
  refine own_s T797 (mkF m 461 #[own_j p0, s_, own_j p1, s_, own_j p2, s_, own_j p3, s_, iv p4, iv p5, rv ad1, rv ad24, iv w0, iv w1, iv z0, iv z1, u_, u_] [.ref b5_8]) st797 ?_
  refine own_s T797 (mkF m 462 #[own_j p0, s_, own_j p1, s_, own_j p2, s_, own_j p3, s_, iv p4, iv p5, rv ad1, rv ad24, iv w0, iv w1, iv z0, iv z1, u_, u_] [.int 1, .ref b5_8]) (fun t k => XS.iconst X797.here hx rfl (hb hby at_461) k) ?_
  obtain ⟨cl798, Ar798, qa798, S798, M798, H798, U798⟩ := id g752
  have hi798 := inb_of S798 (j := (1 : Int32)) ⟨by decide, by decide⟩
  have hat798 := H798.at hi798 (v := (.double (FP.l2d (w1.toInt64 + z1.toInt64)))) rfl
  refine own_s T797 (mkF m 463 #[own_j p0, s_, own_j p1, s_, own_j p2, s_, own_j p3, s_, iv p4, iv p5, rv ad1, rv ad24, iv w0, iv w1, iv z0, iv z1, u_, u_] [(.double (FP.l2d (w1.toInt64 + z1.toInt64)))]) (fun t k => X797.daload hx (j := (1 : Int32)) (v := (.double (FP.l2d (w1.toInt64 + z1.toInt64)))) (by rw [e797]; exact Ar798.1) (State.isArrayOf_alike hZ.alike Ar798.2.1) Ar798.2.2 hi798 hat798 (g := (mkF m 462 #[own_j p0, s_, own_j p1, s_, own_j p2, s_, own_j p3, s_, iv p4, iv p5, rv ad1, rv ad24, iv w0, iv w1, iv z0, iv z1, u_, u_] [.int 1, .ref b5_8])) rfl rfl (hb hby at_462) t k) ?_
  refine own_s T797 (mkF m 465 #[own_j p0, s_, own_j p1, s_, own_j p2, s_, own_j p3, s_, iv p4, iv p5, rv ad1, rv ad24, iv w0, iv w1, iv z0, iv z1, u_, u_] [.int w1, (.double (FP.l2d (w1.toInt64 + z1.toInt64)))]) (fun t k => XS.iload X797.here hx rfl (hb hby at_463) rfl k) ?_
  refine own_s T797 (mkF m 467 #[own_j p0, s_, own_j p1, s_, own_j p2, s_, own_j p3, s_, iv p4, iv p5, rv ad1, rv ad24, iv w0, iv w1, iv z0, iv z1, u_, u_] [.int z1, .int w1, (.double (FP.l2d (w1.toInt64 + z1.toInt64)))]) (fun t k => XS.iload X797.here hx rfl (hb hby at_465) rfl k) ?_
  refine own_s T797 (mkF m 468 #[own_j p0, s_, own_j p1, s_, own_j p2, s_, own_j p3, s_, iv p4, iv p5, rv ad1, rv ad24, iv w0, iv w1, iv z0, iv z1, u_, u_] [.int (w1 + z1), (.double (FP.l2d (w1.toInt64 + z1.toInt64)))]) (fun t k => XS.iadd X797.here hx rfl (hb hby at_467) rfl k) ?_
  refine own_s T797 (mkF m 469 #[own_j p0, s_, own_j p1, s_, own_j p2, s_, own_j p3, s_, iv p4, iv p5, rv ad1, rv ad24, iv w0, iv w1, iv z0, iv z1, u_, u_] [(.double (FP.l2d (w1 + z1).toInt64)), (.double (FP.l2d (w1.toInt64 + z1.toInt64)))]) (fun t k => XS.i2dS X797.here hx rfl (hb hby at_468) rfl (i2d_w _) k) ?_
  refine own_s T797 (mkF m 470 #[own_j p0, s_, own_j p1, s_, own_j p2, s_, own_j p3, s_, iv p4, iv p5, rv ad1, rv ad24, iv w0, iv w1, iv z0, iv z1, u_, u_] [.int (lcmpW (w1.toInt64 + z1.toInt64) (w1 + z1).toInt64)]) (fun t k => XS.dcmpS X797.here hx rfl (hb hby at_469) rfl (dcmpV_w (own_bs _ _) (own_b32 _) _) k) ?_
  refine own_s T797 (mkF m 473 #[own_j p0, s_, own_j p1, s_, own_j p2, s_, own_j p3, s_, iv p4, iv p5, rv ad1, rv ad24, iv w0, iv w1, iv z0, iv z1, u_, u_] []) (fun t k => XS.ifNo X797.here hx rfl (hb hby at_470) rfl ((if0 _ _).trans (teq ((lw_eq _ _).mpr (own_sum hw1 hz1))).2) k) ?_
  refine own_s T797 (mkF m 474 #[own_j p0, s_, own_j p1, s_, own_j p2, s_, own_j p3, s_, iv p4, iv p5, rv ad1, rv ad24, iv w0, iv w1, iv z0, iv z1, u_, u_] [.int 1]) (fun t k => XS.iconst X797.here hx rfl (hb hby at_473) k) ?_
  refine own_s T797 (mkF m 478 #[own_j p0, s_, own_j p1, s_, own_j p2, s_, own_j p3, s_, iv p4, iv p5, rv ad1, rv ad24, iv w0, iv w1, iv z0, iv z1, u_, u_] [.int 1]) (fun t k => XS.goto X797.here hx rfl (pc0 := 474) (pc' := 478) rfl (hb hby at_474) (by decide) (by decide) k) ?_
  refine own_s T797 (mkF m 480 #[own_j p0, s_, own_j p1, s_, own_j p2, s_, own_j p3, s_, iv p4, iv p5, rv ad1, rv ad24, iv w0, iv w1, iv z0, iv z1, iv 1, u_] []) (fun t k => XS.istore X797.here hx rfl (hb hby at_478) rfl (l' := #[own_j p0, s_, own_j p1, s_, own_j p2, s_, own_j p3, s_, iv p4, iv p5, rv ad1, rv ad24, iv w0, iv w1, iv z0, iv z1, iv 1, u_]) rfl k) ?_
  refine own_s T797 (mkF m 482 #[own_j p0, s_, own_j p1, s_, own_j p2, s_, own_j p3, s_, iv p4, iv p5, rv ad1, rv ad24, iv w0, iv w1, iv z0, iv z1, iv 1, u_] [.ref ad24]) (fun t k => XS.aload X797.here hx rfl (hb hby at_480) rfl rfl k) ?_
  obtain ⟨T799, X799, e799, st799⟩ := getF X797 hx hZ hown (host := "") (Or.inl (hW 24 _ rfl)) Via.refl e797 g763 (g := (mkF m 482 #[own_j p0, s_, own_j p1, s_, own_j p2, s_, own_j p3, s_, iv p4, iv p5, rv ad1, rv ad24, iv w0, iv w1, iv z0, iv z1, iv 1, u_] [.ref ad24])) rfl rfl (hb hby at_482)
  refine own_s T799 (mkF m 485 #[own_j p0, s_, own_j p1, s_, own_j p2, s_, own_j p3, s_, iv p4, iv p5, rv ad1, rv ad24, iv w0, iv w1, iv z0, iv z1, iv 1, u_] [.ref b0_44]) st799 ?_
  refine own_s T799 (mkF m 486 #[own_j p0, s_, own_j p1, s_, own_j p2, s_, own_j p3, s_, iv p4, iv p5, rv ad1, rv ad24, iv w0, iv w1, iv z0, iv z1, iv 1, u_] [.int 0, .ref b0_44]) (fun t k => XS.iconst X799.here hx rfl (hb hby at_485) k) ?_
  obtain ⟨cl800, Ar800, qa800, S800, M800, H800, U800⟩ := id g769
  have hi800 := inb_of S800 (j := (0 : Int32)) ⟨by decide, by decide⟩
  have hat800 := H800.at hi800 (v := (.long p3)) rfl
  refine own_s T799 (mkF m 487 #[own_j p0, s_, own_j p1, s_, own_j p2, s_, own_j p3, s_, iv p4, iv p5, rv ad1, rv ad24, iv w0, iv w1, iv z0, iv z1, iv 1, u_] [.long p3]) (fun t k => X799.laload hx (j := (0 : Int32)) (v := (.long p3)) (by rw [e799]; exact Ar800.1) (State.isArrayOf_alike hZ.alike Ar800.2.1) Ar800.2.2 hi800 hat800 (g := (mkF m 486 #[own_j p0, s_, own_j p1, s_, own_j p2, s_, own_j p3, s_, iv p4, iv p5, rv ad1, rv ad24, iv w0, iv w1, iv z0, iv z1, iv 1, u_] [.int 0, .ref b0_44])) rfl rfl (hb hby at_486) t k) ?_
  refine own_s T799 (mkF m 489 #[own_j p0, s_, own_j p1, s_, own_j p2, s_, own_j p3, s_, iv p4, iv p5, rv ad1, rv ad24, iv w0, iv w1, iv z0, iv z1, iv 1, u_] [.long p3, .long p3]) (fun t k => XS.lload X799.here hx rfl (hb hby at_487) rfl k) ?_
  refine own_s T799 (mkF m 490 #[own_j p0, s_, own_j p1, s_, own_j p2, s_, own_j p3, s_, iv p4, iv p5, rv ad1, rv ad24, iv w0, iv w1, iv z0, iv z1, iv 1, u_] [.int (lcmpW p3 p3)]) (fun t k => XS.lcmp X799.here hx rfl (hb hby at_489) rfl k) ?_
  refine own_s T799 (mkF m 493 #[own_j p0, s_, own_j p1, s_, own_j p2, s_, own_j p3, s_, iv p4, iv p5, rv ad1, rv ad24, iv w0, iv w1, iv z0, iv z1, iv 1, u_] []) (fun t k => XS.ifNo X799.here hx rfl (hb hby at_490) rfl ((if0 _ _).trans (teq ((lw_eq _ _).mpr rfl)).2) k) ?_
  refine own_s T799 (mkF m 495 #[own_j p0, s_, own_j p1, s_, own_j p2, s_, own_j p3, s_, iv p4, iv p5, rv ad1, rv ad24, iv w0, iv w1, iv z0, iv z1, iv 1, u_] [.ref ad24]) (fun t k => XS.aload X799.here hx rfl (hb hby at_493) rfl rfl k) ?_
  obtain ⟨T801, X801, e801, st801⟩ := getF X799 hx hZ hown (host := "") (Or.inl (hW 24 _ rfl)) Via.refl e799 g763 (g := (mkF m 495 #[own_j p0, s_, own_j p1, s_, own_j p2, s_, own_j p3, s_, iv p4, iv p5, rv ad1, rv ad24, iv w0, iv w1, iv z0, iv z1, iv 1, u_] [.ref ad24])) rfl rfl (hb hby at_495)
  refine own_s T801 (mkF m 498 #[own_j p0, s_, own_j p1, s_, own_j p2, s_, own_j p3, s_, iv p4, iv p5, rv ad1, rv ad24, iv w0, iv w1, iv z0, iv z1, iv 1, u_] [.ref b0_44]) st801 ?_
  refine own_s T801 (mkF m 499 #[own_j p0, s_, own_j p1, s_, own_j p2, s_, own_j p3, s_, iv p4, iv p5, rv ad1, rv ad24, iv w0, iv w1, iv z0, iv z1, iv 1, u_] [.int 1, .ref b0_44]) (fun t k => XS.iconst X801.here hx rfl (hb hby at_498) k) ?_
  obtain ⟨cl802, Ar802, qa802, S802, M802, H802, U802⟩ := id g769
  have hi802 := inb_of S802 (j := (1 : Int32)) ⟨by decide, by decide⟩
  have hat802 := H802.at hi802 (v := (.long p2)) rfl
  refine own_s T801 (mkF m 500 #[own_j p0, s_, own_j p1, s_, own_j p2, s_, own_j p3, s_, iv p4, iv p5, rv ad1, rv ad24, iv w0, iv w1, iv z0, iv z1, iv 1, u_] [.long p2]) (fun t k => X801.laload hx (j := (1 : Int32)) (v := (.long p2)) (by rw [e801]; exact Ar802.1) (State.isArrayOf_alike hZ.alike Ar802.2.1) Ar802.2.2 hi802 hat802 (g := (mkF m 499 #[own_j p0, s_, own_j p1, s_, own_j p2, s_, own_j p3, s_, iv p4, iv p5, rv ad1, rv ad24, iv w0, iv w1, iv z0, iv z1, iv 1, u_] [.int 1, .ref b0_44])) rfl rfl (hb hby at_499) t k) ?_
  refine own_s T801 (mkF m 502 #[own_j p0, s_, own_j p1, s_, own_j p2, s_, own_j p3, s_, iv p4, iv p5, rv ad1, rv ad24, iv w0, iv w1, iv z0, iv z1, iv 1, u_] [.long p2, .long p2]) (fun t k => XS.lload X801.here hx rfl (hb hby at_500) rfl k) ?_
  refine own_s T801 (mkF m 503 #[own_j p0, s_, own_j p1, s_, own_j p2, s_, own_j p3, s_, iv p4, iv p5, rv ad1, rv ad24, iv w0, iv w1, iv z0, iv z1, iv 1, u_] [.int (lcmpW p2 p2)]) (fun t k => XS.lcmp X801.here hx rfl (hb hby at_502) rfl k) ?_
  refine own_s T801 (mkF m 506 #[own_j p0, s_, own_j p1, s_, own_j p2, s_, own_j p3, s_, iv p4, iv p5, rv ad1, rv ad24, iv w0, iv w1, iv z0, iv z1, iv 1, u_] []) (fun t k => XS.ifNo X801.here hx rfl (hb hby at_503) rfl ((if0 _ _).trans (teq ((lw_eq _ _).mpr rfl)).2) k) ?_
  refine own_s T801 (mkF m 508 #[own_j p0, s_, own_j p1, s_, own_j p2, s_, own_j p3, s_, iv p4, iv p5, rv ad1, rv ad24, iv w0, iv w1, iv z0, iv z1, iv 1, u_] [.ref ad24]) (fun t k => XS.aload X801.here hx rfl (hb hby at_506) rfl rfl k) ?_
  obtain ⟨T803, X803, e803, st803⟩ := getF X801 hx hZ hown (host := "") (Or.inl (hW 25 _ rfl)) Via.refl e801 g764 (g := (mkF m 508 #[own_j p0, s_, own_j p1, s_, own_j p2, s_, own_j p3, s_, iv p4, iv p5, rv ad1, rv ad24, iv w0, iv w1, iv z0, iv z1, iv 1, u_] [.ref ad24])) rfl rfl (hb hby at_508)
  refine own_s T803 (mkF m 511 #[own_j p0, s_, own_j p1, s_, own_j p2, s_, own_j p3, s_, iv p4, iv p5, rv ad1, rv ad24, iv w0, iv w1, iv z0, iv z1, iv 1, u_] [.ref b1_44]) st803 ?_
  refine own_s T803 (mkF m 512 #[own_j p0, s_, own_j p1, s_, own_j p2, s_, own_j p3, s_, iv p4, iv p5, rv ad1, rv ad24, iv w0, iv w1, iv z0, iv z1, iv 1, u_] [.int 0, .ref b1_44]) (fun t k => XS.iconst X803.here hx rfl (hb hby at_511) k) ?_
  obtain ⟨cl804, Ar804, qa804, S804, M804, H804, U804⟩ := id g770
  have hi804 := inb_of S804 (j := (0 : Int32)) ⟨by decide, by decide⟩
  have hat804 := H804.at hi804 (v := (.long p0)) rfl
  refine own_s T803 (mkF m 513 #[own_j p0, s_, own_j p1, s_, own_j p2, s_, own_j p3, s_, iv p4, iv p5, rv ad1, rv ad24, iv w0, iv w1, iv z0, iv z1, iv 1, u_] [.long p0]) (fun t k => X803.laload hx (j := (0 : Int32)) (v := (.long p0)) (by rw [e803]; exact Ar804.1) (State.isArrayOf_alike hZ.alike Ar804.2.1) Ar804.2.2 hi804 hat804 (g := (mkF m 512 #[own_j p0, s_, own_j p1, s_, own_j p2, s_, own_j p3, s_, iv p4, iv p5, rv ad1, rv ad24, iv w0, iv w1, iv z0, iv z1, iv 1, u_] [.int 0, .ref b1_44])) rfl rfl (hb hby at_512) t k) ?_
  refine own_s T803 (mkF m 514 #[own_j p0, s_, own_j p1, s_, own_j p2, s_, own_j p3, s_, iv p4, iv p5, rv ad1, rv ad24, iv w0, iv w1, iv z0, iv z1, iv 1, u_] [.long p0, .long p0]) (fun t k => XS.lloadN X803.here hx rfl (hb hby at_513) rfl k) ?_
  refine own_s T803 (mkF m 515 #[own_j p0, s_, own_j p1, s_, own_j p2, s_, own_j p3, s_, iv p4, iv p5, rv ad1, rv ad24, iv w0, iv w1, iv z0, iv z1, iv 1, u_] [.int (lcmpW p0 p0)]) (fun t k => XS.lcmp X803.here hx rfl (hb hby at_514) rfl k) ?_
  refine own_s T803 (mkF m 518 #[own_j p0, s_, own_j p1, s_, own_j p2, s_, own_j p3, s_, iv p4, iv p5, rv ad1, rv ad24, iv w0, iv w1, iv z0, iv z1, iv 1, u_] []) (fun t k => XS.ifNo X803.here hx rfl (hb hby at_515) rfl ((if0 _ _).trans (teq ((lw_eq _ _).mpr rfl)).2) k) ?_
  refine own_s T803 (mkF m 520 #[own_j p0, s_, own_j p1, s_, own_j p2, s_, own_j p3, s_, iv p4, iv p5, rv ad1, rv ad24, iv w0, iv w1, iv z0, iv z1, iv 1, u_] [.ref ad24]) (fun t k => XS.aload X803.here hx rfl (hb hby at_518) rfl rfl k) ?_
  obtain ⟨T805, X805, e805, st805⟩ := getF X803 hx hZ hown (host := "") (Or.inl (hW 25 _ rfl)) Via.refl e803 g764 (g := (mkF m 520 #[own_j p0, s_, own_j p1, s_, own_j p2, s_, own_j p3, s_, iv p4, iv p5, rv ad1, rv ad24, iv w0, iv w1, iv z0, iv z1, iv 1, u_] [.ref ad24])) rfl rfl (hb hby at_520)
  refine own_s T805 (mkF m 523 #[own_j p0, s_, own_j p1, s_, own_j p2, s_, own_j p3, s_, iv p4, iv p5, rv ad1, rv ad24, iv w0, iv w1, iv z0, iv z1, iv 1, u_] [.ref b1_44]) st805 ?_
  refine own_s T805 (mkF m 524 #[own_j p0, s_, own_j p1, s_, own_j p2, s_, own_j p3, s_, iv p4, iv p5, rv ad1, rv ad24, iv w0, iv w1, iv z0, iv z1, iv 1, u_] [.int 1, .ref b1_44]) (fun t k => XS.iconst X805.here hx rfl (hb hby at_523) k) ?_
  obtain ⟨cl806, Ar806, qa806, S806, M806, H806, U806⟩ := id g770
  have hi806 := inb_of S806 (j := (1 : Int32)) ⟨by decide, by decide⟩
  have hat806 := H806.at hi806 (v := (.long p3)) rfl
  refine own_s T805 (mkF m 525 #[own_j p0, s_, own_j p1, s_, own_j p2, s_, own_j p3, s_, iv p4, iv p5, rv ad1, rv ad24, iv w0, iv w1, iv z0, iv z1, iv 1, u_] [.long p3]) (fun t k => X805.laload hx (j := (1 : Int32)) (v := (.long p3)) (by rw [e805]; exact Ar806.1) (State.isArrayOf_alike hZ.alike Ar806.2.1) Ar806.2.2 hi806 hat806 (g := (mkF m 524 #[own_j p0, s_, own_j p1, s_, own_j p2, s_, own_j p3, s_, iv p4, iv p5, rv ad1, rv ad24, iv w0, iv w1, iv z0, iv z1, iv 1, u_] [.int 1, .ref b1_44])) rfl rfl (hb hby at_524) t k) ?_
  refine own_s T805 (mkF m 527 #[own_j p0, s_, own_j p1, s_, own_j p2, s_, own_j p3, s_, iv p4, iv p5, rv ad1, rv ad24, iv w0, iv w1, iv z0, iv z1, iv 1, u_] [.long p3, .long p3]) (fun t k => XS.lload X805.here hx rfl (hb hby at_525) rfl k) ?_
  refine own_s T805 (mkF m 528 #[own_j p0, s_, own_j p1, s_, own_j p2, s_, own_j p3, s_, iv p4, iv p5, rv ad1, rv ad24, iv w0, iv w1, iv z0, iv z1, iv 1, u_] [.int (lcmpW p3 p3)]) (fun t k => XS.lcmp X805.here hx rfl (hb hby at_527) rfl k) ?_
  refine own_s T805 (mkF m 531 #[own_j p0, s_, own_j p1, s_, own_j p2, s_, own_j p3, s_, iv p4, iv p5, rv ad1, rv ad24, iv w0, iv w1, iv z0, iv z1, iv 1, u_] []) (fun t k => XS.ifNo X805.here hx rfl (hb hby at_528) rfl ((if0 _ _).trans (teq ((lw_eq _ _).mpr rfl)).2) k) ?_
  refine own_s T805 (mkF m 533 #[own_j p0, s_, own_j p1, s_, own_j p2, s_, own_j p3, s_, iv p4, iv p5, rv ad1, rv ad24, iv w0, iv w1, iv z0, iv z1, iv 1, u_] [.ref ad24]) (fun t k => XS.aload X805.here hx rfl (hb hby at_531) rfl rfl k) ?_
  obtain ⟨T807, X807, e807, st807⟩ := getF X805 hx hZ hown (host := "") (Or.inl (hW 26 _ rfl)) Via.refl e805 g765 (g := (mkF m 533 #[own_j p0, s_, own_j p1, s_, own_j p2, s_, own_j p3, s_, iv p4, iv p5, rv ad1, rv ad24, iv w0, iv w1, iv z0, iv z1, iv 1, u_] [.ref ad24])) rfl rfl (hb hby at_533)
  refine own_s T807 (mkF m 536 #[own_j p0, s_, own_j p1, s_, own_j p2, s_, own_j p3, s_, iv p4, iv p5, rv ad1, rv ad24, iv w0, iv w1, iv z0, iv z1, iv 1, u_] [.ref b2_44]) st807 ?_
  refine own_s T807 (mkF m 537 #[own_j p0, s_, own_j p1, s_, own_j p2, s_, own_j p3, s_, iv p4, iv p5, rv ad1, rv ad24, iv w0, iv w1, iv z0, iv z1, iv 1, u_] [.int 0, .ref b2_44]) (fun t k => XS.iconst X807.here hx rfl (hb hby at_536) k) ?_
  obtain ⟨cl808, Ar808, qa808, S808, M808, H808, U808⟩ := id g771
  have hi808 := inb_of S808 (j := (0 : Int32)) ⟨by decide, by decide⟩
  have hat808 := H808.at hi808 (v := (.long p1)) rfl
  refine own_s T807 (mkF m 538 #[own_j p0, s_, own_j p1, s_, own_j p2, s_, own_j p3, s_, iv p4, iv p5, rv ad1, rv ad24, iv w0, iv w1, iv z0, iv z1, iv 1, u_] [.long p1]) (fun t k => X807.laload hx (j := (0 : Int32)) (v := (.long p1)) (by rw [e807]; exact Ar808.1) (State.isArrayOf_alike hZ.alike Ar808.2.1) Ar808.2.2 hi808 hat808 (g := (mkF m 537 #[own_j p0, s_, own_j p1, s_, own_j p2, s_, own_j p3, s_, iv p4, iv p5, rv ad1, rv ad24, iv w0, iv w1, iv z0, iv z1, iv 1, u_] [.int 0, .ref b2_44])) rfl rfl (hb hby at_537) t k) ?_
  refine own_s T807 (mkF m 539 #[own_j p0, s_, own_j p1, s_, own_j p2, s_, own_j p3, s_, iv p4, iv p5, rv ad1, rv ad24, iv w0, iv w1, iv z0, iv z1, iv 1, u_] [.long p1, .long p1]) (fun t k => XS.lloadN X807.here hx rfl (hb hby at_538) rfl k) ?_
  refine own_s T807 (mkF m 540 #[own_j p0, s_, own_j p1, s_, own_j p2, s_, own_j p3, s_, iv p4, iv p5, rv ad1, rv ad24, iv w0, iv w1, iv z0, iv z1, iv 1, u_] [.int (lcmpW p1 p1)]) (fun t k => XS.lcmp X807.here hx rfl (hb hby at_539) rfl k) ?_
  refine own_s T807 (mkF m 543 #[own_j p0, s_, own_j p1, s_, own_j p2, s_, own_j p3, s_, iv p4, iv p5, rv ad1, rv ad24, iv w0, iv w1, iv z0, iv z1, iv 1, u_] []) (fun t k => XS.ifNo X807.here hx rfl (hb hby at_540) rfl ((if0 _ _).trans (teq ((lw_eq _ _).mpr rfl)).2) k) ?_
  refine own_s T807 (mkF m 545 #[own_j p0, s_, own_j p1, s_, own_j p2, s_, own_j p3, s_, iv p4, iv p5, rv ad1, rv ad24, iv w0, iv w1, iv z0, iv z1, iv 1, u_] [.ref ad24]) (fun t k => XS.aload X807.here hx rfl (hb hby at_543) rfl rfl k) ?_
  obtain ⟨T809, X809, e809, st809⟩ := getF X807 hx hZ hown (host := "") (Or.inl (hW 26 _ rfl)) Via.refl e807 g765 (g := (mkF m 545 #[own_j p0, s_, own_j p1, s_, own_j p2, s_, own_j p3, s_, iv p4, iv p5, rv ad1, rv ad24, iv w0, iv w1, iv z0, iv z1, iv 1, u_] [.ref ad24])) rfl rfl (hb hby at_545)
  refine own_s T809 (mkF m 548 #[own_j p0, s_, own_j p1, s_, own_j p2, s_, own_j p3, s_, iv p4, iv p5, rv ad1, rv ad24, iv w0, iv w1, iv z0, iv z1, iv 1, u_] [.ref b2_44]) st809 ?_
  refine own_s T809 (mkF m 549 #[own_j p0, s_, own_j p1, s_, own_j p2, s_, own_j p3, s_, iv p4, iv p5, rv ad1, rv ad24, iv w0, iv w1, iv z0, iv z1, iv 1, u_] [.int 1, .ref b2_44]) (fun t k => XS.iconst X809.here hx rfl (hb hby at_548) k) ?_
  obtain ⟨cl810, Ar810, qa810, S810, M810, H810, U810⟩ := id g771
  have hi810 := inb_of S810 (j := (1 : Int32)) ⟨by decide, by decide⟩
  have hat810 := H810.at hi810 (v := (.long p0)) rfl
  refine own_s T809 (mkF m 550 #[own_j p0, s_, own_j p1, s_, own_j p2, s_, own_j p3, s_, iv p4, iv p5, rv ad1, rv ad24, iv w0, iv w1, iv z0, iv z1, iv 1, u_] [.long p0]) (fun t k => X809.laload hx (j := (1 : Int32)) (v := (.long p0)) (by rw [e809]; exact Ar810.1) (State.isArrayOf_alike hZ.alike Ar810.2.1) Ar810.2.2 hi810 hat810 (g := (mkF m 549 #[own_j p0, s_, own_j p1, s_, own_j p2, s_, own_j p3, s_, iv p4, iv p5, rv ad1, rv ad24, iv w0, iv w1, iv z0, iv z1, iv 1, u_] [.int 1, .ref b2_44])) rfl rfl (hb hby at_549) t k) ?_
  refine own_s T809 (mkF m 551 #[own_j p0, s_, own_j p1, s_, own_j p2, s_, own_j p3, s_, iv p4, iv p5, rv ad1, rv ad24, iv w0, iv w1, iv z0, iv z1, iv 1, u_] [.long p0, .long p0]) (fun t k => XS.lloadN X809.here hx rfl (hb hby at_550) rfl k) ?_
  refine own_s T809 (mkF m 552 #[own_j p0, s_, own_j p1, s_, own_j p2, s_, own_j p3, s_, iv p4, iv p5, rv ad1, rv ad24, iv w0, iv w1, iv z0, iv z1, iv 1, u_] [.int (lcmpW p0 p0)]) (fun t k => XS.lcmp X809.here hx rfl (hb hby at_551) rfl k) ?_
  refine own_s T809 (mkF m 555 #[own_j p0, s_, own_j p1, s_, own_j p2, s_, own_j p3, s_, iv p4, iv p5, rv ad1, rv ad24, iv w0, iv w1, iv z0, iv z1, iv 1, u_] []) (fun t k => XS.ifNo X809.here hx rfl (hb hby at_552) rfl ((if0 _ _).trans (teq ((lw_eq _ _).mpr rfl)).2) k) ?_
  refine own_s T809 (mkF m 557 #[own_j p0, s_, own_j p1, s_, own_j p2, s_, own_j p3, s_, iv p4, iv p5, rv ad1, rv ad24, iv w0, iv w1, iv z0, iv z1, iv 1, u_] [.ref ad24]) (fun t k => XS.aload X809.here hx rfl (hb hby at_555) rfl rfl k) ?_
  obtain ⟨T811, X811, e811, st811⟩ := getF X809 hx hZ hown (host := "") (Or.inl (hW 27 _ rfl)) Via.refl e809 g766 (g := (mkF m 557 #[own_j p0, s_, own_j p1, s_, own_j p2, s_, own_j p3, s_, iv p4, iv p5, rv ad1, rv ad24, iv w0, iv w1, iv z0, iv z1, iv 1, u_] [.ref ad24])) rfl rfl (hb hby at_557)
  refine own_s T811 (mkF m 560 #[own_j p0, s_, own_j p1, s_, own_j p2, s_, own_j p3, s_, iv p4, iv p5, rv ad1, rv ad24, iv w0, iv w1, iv z0, iv z1, iv 1, u_] [.ref b3_44]) st811 ?_
  refine own_s T811 (mkF m 561 #[own_j p0, s_, own_j p1, s_, own_j p2, s_, own_j p3, s_, iv p4, iv p5, rv ad1, rv ad24, iv w0, iv w1, iv z0, iv z1, iv 1, u_] [.int 0, .ref b3_44]) (fun t k => XS.iconst X811.here hx rfl (hb hby at_560) k) ?_
  obtain ⟨cl812, Ar812, qa812, S812, M812, H812, U812⟩ := id g772
  have hi812 := inb_of S812 (j := (0 : Int32)) ⟨by decide, by decide⟩
  have hat812 := H812.at hi812 (v := (.long p2)) rfl
  refine own_s T811 (mkF m 562 #[own_j p0, s_, own_j p1, s_, own_j p2, s_, own_j p3, s_, iv p4, iv p5, rv ad1, rv ad24, iv w0, iv w1, iv z0, iv z1, iv 1, u_] [.long p2]) (fun t k => X811.laload hx (j := (0 : Int32)) (v := (.long p2)) (by rw [e811]; exact Ar812.1) (State.isArrayOf_alike hZ.alike Ar812.2.1) Ar812.2.2 hi812 hat812 (g := (mkF m 561 #[own_j p0, s_, own_j p1, s_, own_j p2, s_, own_j p3, s_, iv p4, iv p5, rv ad1, rv ad24, iv w0, iv w1, iv z0, iv z1, iv 1, u_] [.int 0, .ref b3_44])) rfl rfl (hb hby at_561) t k) ?_
  refine own_s T811 (mkF m 564 #[own_j p0, s_, own_j p1, s_, own_j p2, s_, own_j p3, s_, iv p4, iv p5, rv ad1, rv ad24, iv w0, iv w1, iv z0, iv z1, iv 1, u_] [.long p2, .long p2]) (fun t k => XS.lload X811.here hx rfl (hb hby at_562) rfl k) ?_
  refine own_s T811 (mkF m 565 #[own_j p0, s_, own_j p1, s_, own_j p2, s_, own_j p3, s_, iv p4, iv p5, rv ad1, rv ad24, iv w0, iv w1, iv z0, iv z1, iv 1, u_] [.int (lcmpW p2 p2)]) (fun t k => XS.lcmp X811.here hx rfl (hb hby at_564) rfl k) ?_
  refine own_s T811 (mkF m 568 #[own_j p0, s_, own_j p1, s_, own_j p2, s_, own_j p3, s_, iv p4, iv p5, rv ad1, rv ad24, iv w0, iv w1, iv z0, iv z1, iv 1, u_] []) (fun t k => XS.ifNo X811.here hx rfl (hb hby at_565) rfl ((if0 _ _).trans (teq ((lw_eq _ _).mpr rfl)).2) k) ?_
  refine own_s T811 (mkF m 570 #[own_j p0, s_, own_j p1, s_, own_j p2, s_, own_j p3, s_, iv p4, iv p5, rv ad1, rv ad24, iv w0, iv w1, iv z0, iv z1, iv 1, u_] [.ref ad24]) (fun t k => XS.aload X811.here hx rfl (hb hby at_568) rfl rfl k) ?_
  obtain ⟨T813, X813, e813, st813⟩ := getF X811 hx hZ hown (host := "") (Or.inl (hW 27 _ rfl)) Via.refl e811 g766 (g := (mkF m 570 #[own_j p0, s_, own_j p1, s_, own_j p2, s_, own_j p3, s_, iv p4, iv p5, rv ad1, rv ad24, iv w0, iv w1, iv z0, iv z1, iv 1, u_] [.ref ad24])) rfl rfl (hb hby at_570)
  refine own_s T813 (mkF m 573 #[own_j p0, s_, own_j p1, s_, own_j p2, s_, own_j p3, s_, iv p4, iv p5, rv ad1, rv ad24, iv w0, iv w1, iv z0, iv z1, iv 1, u_] [.ref b3_44]) st813 ?_
  refine own_s T813 (mkF m 574 #[own_j p0, s_, own_j p1, s_, own_j p2, s_, own_j p3, s_, iv p4, iv p5, rv ad1, rv ad24, iv w0, iv w1, iv z0, iv z1, iv 1, u_] [.int 1, .ref b3_44]) (fun t k => XS.iconst X813.here hx rfl (hb hby at_573) k) ?_
  obtain ⟨cl814, Ar814, qa814, S814, M814, H814, U814⟩ := id g772
  have hi814 := inb_of S814 (j := (1 : Int32)) ⟨by decide, by decide⟩
  have hat814 := H814.at hi814 (v := (.long p1)) rfl
  refine own_s T813 (mkF m 575 #[own_j p0, s_, own_j p1, s_, own_j p2, s_, own_j p3, s_, iv p4, iv p5, rv ad1, rv ad24, iv w0, iv w1, iv z0, iv z1, iv 1, u_] [.long p1]) (fun t k => X813.laload hx (j := (1 : Int32)) (v := (.long p1)) (by rw [e813]; exact Ar814.1) (State.isArrayOf_alike hZ.alike Ar814.2.1) Ar814.2.2 hi814 hat814 (g := (mkF m 574 #[own_j p0, s_, own_j p1, s_, own_j p2, s_, own_j p3, s_, iv p4, iv p5, rv ad1, rv ad24, iv w0, iv w1, iv z0, iv z1, iv 1, u_] [.int 1, .ref b3_44])) rfl rfl (hb hby at_574) t k) ?_
  refine own_s T813 (mkF m 576 #[own_j p0, s_, own_j p1, s_, own_j p2, s_, own_j p3, s_, iv p4, iv p5, rv ad1, rv ad24, iv w0, iv w1, iv z0, iv z1, iv 1, u_] [.long p1, .long p1]) (fun t k => XS.lloadN X813.here hx rfl (hb hby at_575) rfl k) ?_
  refine own_s T813 (mkF m 577 #[own_j p0, s_, own_j p1, s_, own_j p2, s_, own_j p3, s_, iv p4, iv p5, rv ad1, rv ad24, iv w0, iv w1, iv z0, iv z1, iv 1, u_] [.int (lcmpW p1 p1)]) (fun t k => XS.lcmp X813.here hx rfl (hb hby at_576) rfl k) ?_
  refine own_s T813 (mkF m 580 #[own_j p0, s_, own_j p1, s_, own_j p2, s_, own_j p3, s_, iv p4, iv p5, rv ad1, rv ad24, iv w0, iv w1, iv z0, iv z1, iv 1, u_] []) (fun t k => XS.ifNo X813.here hx rfl (hb hby at_577) rfl ((if0 _ _).trans (teq ((lw_eq _ _).mpr rfl)).2) k) ?_
  refine own_s T813 (mkF m 582 #[own_j p0, s_, own_j p1, s_, own_j p2, s_, own_j p3, s_, iv p4, iv p5, rv ad1, rv ad24, iv w0, iv w1, iv z0, iv z1, iv 1, u_] [.ref ad24]) (fun t k => XS.aload X813.here hx rfl (hb hby at_580) rfl rfl k) ?_
  obtain ⟨T815, X815, e815, st815⟩ := getF X813 hx hZ hown (host := "") (Or.inl (hW 28 _ rfl)) Via.refl e813 g767 (g := (mkF m 582 #[own_j p0, s_, own_j p1, s_, own_j p2, s_, own_j p3, s_, iv p4, iv p5, rv ad1, rv ad24, iv w0, iv w1, iv z0, iv z1, iv 1, u_] [.ref ad24])) rfl rfl (hb hby at_582)
  refine own_s T815 (mkF m 585 #[own_j p0, s_, own_j p1, s_, own_j p2, s_, own_j p3, s_, iv p4, iv p5, rv ad1, rv ad24, iv w0, iv w1, iv z0, iv z1, iv 1, u_] [.ref b4_44]) st815 ?_
  refine own_s T815 (mkF m 586 #[own_j p0, s_, own_j p1, s_, own_j p2, s_, own_j p3, s_, iv p4, iv p5, rv ad1, rv ad24, iv w0, iv w1, iv z0, iv z1, iv 1, u_] [.int 0, .ref b4_44]) (fun t k => XS.iconst X815.here hx rfl (hb hby at_585) k) ?_
  obtain ⟨cl816, Ar816, qa816, S816, M816, H816, U816⟩ := id g773
  have hi816 := inb_of S816 (j := (0 : Int32)) ⟨by decide, by decide⟩
  have hat816 := H816.at hi816 (v := (.long (p0 - p3))) rfl
  refine own_s T815 (mkF m 587 #[own_j p0, s_, own_j p1, s_, own_j p2, s_, own_j p3, s_, iv p4, iv p5, rv ad1, rv ad24, iv w0, iv w1, iv z0, iv z1, iv 1, u_] [.long (p0 - p3)]) (fun t k => X815.laload hx (j := (0 : Int32)) (v := (.long (p0 - p3))) (by rw [e815]; exact Ar816.1) (State.isArrayOf_alike hZ.alike Ar816.2.1) Ar816.2.2 hi816 hat816 (g := (mkF m 586 #[own_j p0, s_, own_j p1, s_, own_j p2, s_, own_j p3, s_, iv p4, iv p5, rv ad1, rv ad24, iv w0, iv w1, iv z0, iv z1, iv 1, u_] [.int 0, .ref b4_44])) rfl rfl (hb hby at_586) t k) ?_
  refine own_s T815 (mkF m 588 #[own_j p0, s_, own_j p1, s_, own_j p2, s_, own_j p3, s_, iv p4, iv p5, rv ad1, rv ad24, iv w0, iv w1, iv z0, iv z1, iv 1, u_] [.long p0, .long (p0 - p3)]) (fun t k => XS.lloadN X815.here hx rfl (hb hby at_587) rfl k) ?_
  refine own_s T815 (mkF m 590 #[own_j p0, s_, own_j p1, s_, own_j p2, s_, own_j p3, s_, iv p4, iv p5, rv ad1, rv ad24, iv w0, iv w1, iv z0, iv z1, iv 1, u_] [.long p3, .long p0, .long (p0 - p3)]) (fun t k => XS.lload X815.here hx rfl (hb hby at_588) rfl k) ?_
  refine own_s T815 (mkF m 591 #[own_j p0, s_, own_j p1, s_, own_j p2, s_, own_j p3, s_, iv p4, iv p5, rv ad1, rv ad24, iv w0, iv w1, iv z0, iv z1, iv 1, u_] [.long (p0 - p3), .long (p0 - p3)]) (fun t k => XS.lsub X815.here hx rfl (hb hby at_590) rfl k) ?_
  refine own_s T815 (mkF m 592 #[own_j p0, s_, own_j p1, s_, own_j p2, s_, own_j p3, s_, iv p4, iv p5, rv ad1, rv ad24, iv w0, iv w1, iv z0, iv z1, iv 1, u_] [.int (lcmpW (p0 - p3) (p0 - p3))]) (fun t k => XS.lcmp X815.here hx rfl (hb hby at_591) rfl k) ?_
  refine own_s T815 (mkF m 595 #[own_j p0, s_, own_j p1, s_, own_j p2, s_, own_j p3, s_, iv p4, iv p5, rv ad1, rv ad24, iv w0, iv w1, iv z0, iv z1, iv 1, u_] []) (fun t k => XS.ifNo X815.here hx rfl (hb hby at_592) rfl ((if0 _ _).trans (teq ((lw_eq _ _).mpr rfl)).2) k) ?_
  refine own_s T815 (mkF m 597 #[own_j p0, s_, own_j p1, s_, own_j p2, s_, own_j p3, s_, iv p4, iv p5, rv ad1, rv ad24, iv w0, iv w1, iv z0, iv z1, iv 1, u_] [.ref ad24]) (fun t k => XS.aload X815.here hx rfl (hb hby at_595) rfl rfl k) ?_
  obtain ⟨T817, X817, e817, st817⟩ := getF X815 hx hZ hown (host := "") (Or.inl (hW 28 _ rfl)) Via.refl e815 g767 (g := (mkF m 597 #[own_j p0, s_, own_j p1, s_, own_j p2, s_, own_j p3, s_, iv p4, iv p5, rv ad1, rv ad24, iv w0, iv w1, iv z0, iv z1, iv 1, u_] [.ref ad24])) rfl rfl (hb hby at_597)
  refine own_s T817 (mkF m 600 #[own_j p0, s_, own_j p1, s_, own_j p2, s_, own_j p3, s_, iv p4, iv p5, rv ad1, rv ad24, iv w0, iv w1, iv z0, iv z1, iv 1, u_] [.ref b4_44]) st817 ?_
  refine own_s T817 (mkF m 601 #[own_j p0, s_, own_j p1, s_, own_j p2, s_, own_j p3, s_, iv p4, iv p5, rv ad1, rv ad24, iv w0, iv w1, iv z0, iv z1, iv 1, u_] [.int 1, .ref b4_44]) (fun t k => XS.iconst X817.here hx rfl (hb hby at_600) k) ?_
  obtain ⟨cl818, Ar818, qa818, S818, M818, H818, U818⟩ := id g773
  have hi818 := inb_of S818 (j := (1 : Int32)) ⟨by decide, by decide⟩
  have hat818 := H818.at hi818 (v := (.long (p1 + p2))) rfl
  refine own_s T817 (mkF m 602 #[own_j p0, s_, own_j p1, s_, own_j p2, s_, own_j p3, s_, iv p4, iv p5, rv ad1, rv ad24, iv w0, iv w1, iv z0, iv z1, iv 1, u_] [.long (p1 + p2)]) (fun t k => X817.laload hx (j := (1 : Int32)) (v := (.long (p1 + p2))) (by rw [e817]; exact Ar818.1) (State.isArrayOf_alike hZ.alike Ar818.2.1) Ar818.2.2 hi818 hat818 (g := (mkF m 601 #[own_j p0, s_, own_j p1, s_, own_j p2, s_, own_j p3, s_, iv p4, iv p5, rv ad1, rv ad24, iv w0, iv w1, iv z0, iv z1, iv 1, u_] [.int 1, .ref b4_44])) rfl rfl (hb hby at_601) t k) ?_
  refine own_s T817 (mkF m 603 #[own_j p0, s_, own_j p1, s_, own_j p2, s_, own_j p3, s_, iv p4, iv p5, rv ad1, rv ad24, iv w0, iv w1, iv z0, iv z1, iv 1, u_] [.long p1, .long (p1 + p2)]) (fun t k => XS.lloadN X817.here hx rfl (hb hby at_602) rfl k) ?_
  refine own_s T817 (mkF m 605 #[own_j p0, s_, own_j p1, s_, own_j p2, s_, own_j p3, s_, iv p4, iv p5, rv ad1, rv ad24, iv w0, iv w1, iv z0, iv z1, iv 1, u_] [.long p2, .long p1, .long (p1 + p2)]) (fun t k => XS.lload X817.here hx rfl (hb hby at_603) rfl k) ?_
  refine own_s T817 (mkF m 606 #[own_j p0, s_, own_j p1, s_, own_j p2, s_, own_j p3, s_, iv p4, iv p5, rv ad1, rv ad24, iv w0, iv w1, iv z0, iv z1, iv 1, u_] [.long (p1 + p2), .long (p1 + p2)]) (fun t k => XS.ladd X817.here hx rfl (hb hby at_605) rfl k) ?_
  refine own_s T817 (mkF m 607 #[own_j p0, s_, own_j p1, s_, own_j p2, s_, own_j p3, s_, iv p4, iv p5, rv ad1, rv ad24, iv w0, iv w1, iv z0, iv z1, iv 1, u_] [.int (lcmpW (p1 + p2) (p1 + p2))]) (fun t k => XS.lcmp X817.here hx rfl (hb hby at_606) rfl k) ?_
  refine own_s T817 (mkF m 610 #[own_j p0, s_, own_j p1, s_, own_j p2, s_, own_j p3, s_, iv p4, iv p5, rv ad1, rv ad24, iv w0, iv w1, iv z0, iv z1, iv 1, u_] []) (fun t k => XS.ifNo X817.here hx rfl (hb hby at_607) rfl ((if0 _ _).trans (teq ((lw_eq _ _).mpr rfl)).2) k) ?_
  refine own_s T817 (mkF m 612 #[own_j p0, s_, own_j p1, s_, own_j p2, s_, own_j p3, s_, iv p4, iv p5, rv ad1, rv ad24, iv w0, iv w1, iv z0, iv z1, iv 1, u_] [.ref ad24]) (fun t k => XS.aload X817.here hx rfl (hb hby at_610) rfl rfl k) ?_
  obtain ⟨T819, X819, e819, st819⟩ := getF X817 hx hZ hown (host := "") (Or.inl (hW 29 _ rfl)) Via.refl e817 g768 (g := (mkF m 612 #[own_j p0, s_, own_j p1, s_, own_j p2, s_, own_j p3, s_, iv p4, iv p5, rv ad1, rv ad24, iv w0, iv w1, iv z0, iv z1, iv 1, u_] [.ref ad24])) rfl rfl (hb hby at_612)
  refine own_s T819 (mkF m 615 #[own_j p0, s_, own_j p1, s_, own_j p2, s_, own_j p3, s_, iv p4, iv p5, rv ad1, rv ad24, iv w0, iv w1, iv z0, iv z1, iv 1, u_] [.ref b5_44]) st819 ?_
  refine own_s T819 (mkF m 616 #[own_j p0, s_, own_j p1, s_, own_j p2, s_, own_j p3, s_, iv p4, iv p5, rv ad1, rv ad24, iv w0, iv w1, iv z0, iv z1, iv 1, u_] [.int 0, .ref b5_44]) (fun t k => XS.iconst X819.here hx rfl (hb hby at_615) k) ?_
  obtain ⟨cl820, Ar820, qa820, S820, M820, H820, U820⟩ := id g774
  have hi820 := inb_of S820 (j := (0 : Int32)) ⟨by decide, by decide⟩
  have hat820 := H820.at hi820 (v := (.double (FP.l2d z0.toInt64))) rfl
  refine own_s T819 (mkF m 617 #[own_j p0, s_, own_j p1, s_, own_j p2, s_, own_j p3, s_, iv p4, iv p5, rv ad1, rv ad24, iv w0, iv w1, iv z0, iv z1, iv 1, u_] [(.double (FP.l2d z0.toInt64))]) (fun t k => X819.daload hx (j := (0 : Int32)) (v := (.double (FP.l2d z0.toInt64))) (by rw [e819]; exact Ar820.1) (State.isArrayOf_alike hZ.alike Ar820.2.1) Ar820.2.2 hi820 hat820 (g := (mkF m 616 #[own_j p0, s_, own_j p1, s_, own_j p2, s_, own_j p3, s_, iv p4, iv p5, rv ad1, rv ad24, iv w0, iv w1, iv z0, iv z1, iv 1, u_] [.int 0, .ref b5_44])) rfl rfl (hb hby at_616) t k) ?_
  refine own_s T819 (mkF m 619 #[own_j p0, s_, own_j p1, s_, own_j p2, s_, own_j p3, s_, iv p4, iv p5, rv ad1, rv ad24, iv w0, iv w1, iv z0, iv z1, iv 1, u_] [.int z0, (.double (FP.l2d z0.toInt64))]) (fun t k => XS.iload X819.here hx rfl (hb hby at_617) rfl k) ?_
  refine own_s T819 (mkF m 620 #[own_j p0, s_, own_j p1, s_, own_j p2, s_, own_j p3, s_, iv p4, iv p5, rv ad1, rv ad24, iv w0, iv w1, iv z0, iv z1, iv 1, u_] [(.double (FP.l2d z0.toInt64)), (.double (FP.l2d z0.toInt64))]) (fun t k => XS.i2dS X819.here hx rfl (hb hby at_619) rfl (i2d_w _) k) ?_
  refine own_s T819 (mkF m 621 #[own_j p0, s_, own_j p1, s_, own_j p2, s_, own_j p3, s_, iv p4, iv p5, rv ad1, rv ad24, iv w0, iv w1, iv z0, iv z1, iv 1, u_] [.int (lcmpW z0.toInt64 z0.toInt64)]) (fun t k => XS.dcmpS X819.here hx rfl (hb hby at_620) rfl (dcmpV_w (own_b32 _) (own_b32 _) _) k) ?_
  refine own_s T819 (mkF m 624 #[own_j p0, s_, own_j p1, s_, own_j p2, s_, own_j p3, s_, iv p4, iv p5, rv ad1, rv ad24, iv w0, iv w1, iv z0, iv z1, iv 1, u_] []) (fun t k => XS.ifNo X819.here hx rfl (hb hby at_621) rfl ((if0 _ _).trans (teq ((lw_eq _ _).mpr rfl)).2) k) ?_
  refine own_s T819 (mkF m 626 #[own_j p0, s_, own_j p1, s_, own_j p2, s_, own_j p3, s_, iv p4, iv p5, rv ad1, rv ad24, iv w0, iv w1, iv z0, iv z1, iv 1, u_] [.ref ad24]) (fun t k => XS.aload X819.here hx rfl (hb hby at_624) rfl rfl k) ?_
  obtain ⟨T821, X821, e821, st821⟩ := getF X819 hx hZ hown (host := "") (Or.inl (hW 29 _ rfl)) Via.refl e819 g768 (g := (mkF m 626 #[own_j p0, s_, own_j p1, s_, own_j p2, s_, own_j p3, s_, iv p4, iv p5, rv ad1, rv ad24, iv w0, iv w1, iv z0, iv z1, iv 1, u_] [.ref ad24])) rfl rfl (hb hby at_626)
  refine own_s T821 (mkF m 629 #[own_j p0, s_, own_j p1, s_, own_j p2, s_, own_j p3, s_, iv p4, iv p5, rv ad1, rv ad24, iv w0, iv w1, iv z0, iv z1, iv 1, u_] [.ref b5_44]) st821 ?_
  refine own_s T821 (mkF m 630 #[own_j p0, s_, own_j p1, s_, own_j p2, s_, own_j p3, s_, iv p4, iv p5, rv ad1, rv ad24, iv w0, iv w1, iv z0, iv z1, iv 1, u_] [.int 1, .ref b5_44]) (fun t k => XS.iconst X821.here hx rfl (hb hby at_629) k) ?_
  obtain ⟨cl822, Ar822, qa822, S822, M822, H822, U822⟩ := id g774
  have hi822 := inb_of S822 (j := (1 : Int32)) ⟨by decide, by decide⟩
  have hat822 := H822.at hi822 (v := (.double (FP.l2d z1.toInt64))) rfl
  refine own_s T821 (mkF m 631 #[own_j p0, s_, own_j p1, s_, own_j p2, s_, own_j p3, s_, iv p4, iv p5, rv ad1, rv ad24, iv w0, iv w1, iv z0, iv z1, iv 1, u_] [(.double (FP.l2d z1.toInt64))]) (fun t k => X821.daload hx (j := (1 : Int32)) (v := (.double (FP.l2d z1.toInt64))) (by rw [e821]; exact Ar822.1) (State.isArrayOf_alike hZ.alike Ar822.2.1) Ar822.2.2 hi822 hat822 (g := (mkF m 630 #[own_j p0, s_, own_j p1, s_, own_j p2, s_, own_j p3, s_, iv p4, iv p5, rv ad1, rv ad24, iv w0, iv w1, iv z0, iv z1, iv 1, u_] [.int 1, .ref b5_44])) rfl rfl (hb hby at_630) t k) ?_
  refine own_s T821 (mkF m 633 #[own_j p0, s_, own_j p1, s_, own_j p2, s_, own_j p3, s_, iv p4, iv p5, rv ad1, rv ad24, iv w0, iv w1, iv z0, iv z1, iv 1, u_] [.int z1, (.double (FP.l2d z1.toInt64))]) (fun t k => XS.iload X821.here hx rfl (hb hby at_631) rfl k) ?_
  refine own_s T821 (mkF m 634 #[own_j p0, s_, own_j p1, s_, own_j p2, s_, own_j p3, s_, iv p4, iv p5, rv ad1, rv ad24, iv w0, iv w1, iv z0, iv z1, iv 1, u_] [(.double (FP.l2d z1.toInt64)), (.double (FP.l2d z1.toInt64))]) (fun t k => XS.i2dS X821.here hx rfl (hb hby at_633) rfl (i2d_w _) k) ?_
  refine own_s T821 (mkF m 635 #[own_j p0, s_, own_j p1, s_, own_j p2, s_, own_j p3, s_, iv p4, iv p5, rv ad1, rv ad24, iv w0, iv w1, iv z0, iv z1, iv 1, u_] [.int (lcmpW z1.toInt64 z1.toInt64)]) (fun t k => XS.dcmpS X821.here hx rfl (hb hby at_634) rfl (dcmpV_w (own_b32 _) (own_b32 _) _) k) ?_
  refine own_s T821 (mkF m 638 #[own_j p0, s_, own_j p1, s_, own_j p2, s_, own_j p3, s_, iv p4, iv p5, rv ad1, rv ad24, iv w0, iv w1, iv z0, iv z1, iv 1, u_] []) (fun t k => XS.ifNo X821.here hx rfl (hb hby at_635) rfl ((if0 _ _).trans (teq ((lw_eq _ _).mpr rfl)).2) k) ?_
  refine own_s T821 (mkF m 639 #[own_j p0, s_, own_j p1, s_, own_j p2, s_, own_j p3, s_, iv p4, iv p5, rv ad1, rv ad24, iv w0, iv w1, iv z0, iv z1, iv 1, u_] [.int 1]) (fun t k => XS.iconst X821.here hx rfl (hb hby at_638) k) ?_
  refine own_s T821 (mkF m 643 #[own_j p0, s_, own_j p1, s_, own_j p2, s_, own_j p3, s_, iv p4, iv p5, rv ad1, rv ad24, iv w0, iv w1, iv z0, iv z1, iv 1, u_] [.int 1]) (fun t k => XS.goto X821.here hx rfl (pc0 := 639) (pc' := 643) rfl (hb hby at_639) (by decide) (by decide) k) ?_
  refine own_s T821 (mkF m 645 #[own_j p0, s_, own_j p1, s_, own_j p2, s_, own_j p3, s_, iv p4, iv p5, rv ad1, rv ad24, iv w0, iv w1, iv z0, iv z1, iv 1, iv 1] []) (fun t k => XS.istore X821.here hx rfl (hb hby at_643) rfl (l' := #[own_j p0, s_, own_j p1, s_, own_j p2, s_, own_j p3, s_, iv p4, iv p5, rv ad1, rv ad24, iv w0, iv w1, iv z0, iv z1, iv 1, iv 1]) rfl k) ?_
  refine own_s T821 (mkF m 647 #[own_j p0, s_, own_j p1, s_, own_j p2, s_, own_j p3, s_, iv p4, iv p5, rv ad1, rv ad24, iv w0, iv w1, iv z0, iv z1, iv 1, iv 1] [.int 1]) (fun t k => XS.iload X821.here hx rfl (hb hby at_645) rfl k) ?_
  refine own_s T821 (mkF m 650 #[own_j p0, s_, own_j p1, s_, own_j p2, s_, own_j p3, s_, iv p4, iv p5, rv ad1, rv ad24, iv w0, iv w1, iv z0, iv z1, iv 1, iv 1] []) (fun t k => XS.ifNo X821.here hx rfl (hb hby at_647) rfl ((if0 _ _).trans (feq (by decide : ¬ ((1 : Int32) = (0 : Int32)))).1) k) ?_
  refine own_s T821 (mkF m 652 #[own_j p0, s_, own_j p1, s_, own_j p2, s_, own_j p3, s_, iv p4, iv p5, rv ad1, rv ad24, iv w0, iv w1, iv z0, iv z1, iv 1, iv 1] [.int 1]) (fun t k => XS.iload X821.here hx rfl (hb hby at_650) rfl k) ?_
  refine own_s T821 (mkF m 655 #[own_j p0, s_, own_j p1, s_, own_j p2, s_, own_j p3, s_, iv p4, iv p5, rv ad1, rv ad24, iv w0, iv w1, iv z0, iv z1, iv 1, iv 1] []) (fun t k => XS.ifNo X821.here hx rfl (hb hby at_652) rfl ((if0 _ _).trans (feq (by decide : ¬ ((1 : Int32) = (0 : Int32)))).1) k) ?_
  refine own_s T821 (mkF m 656 #[own_j p0, s_, own_j p1, s_, own_j p2, s_, own_j p3, s_, iv p4, iv p5, rv ad1, rv ad24, iv w0, iv w1, iv z0, iv z1, iv 1, iv 1] [.int 1]) (fun t k => XS.iconst X821.here hx rfl (hb hby at_655) k) ?_
  refine own_s T821 (mkF m 660 #[own_j p0, s_, own_j p1, s_, own_j p2, s_, own_j p3, s_, iv p4, iv p5, rv ad1, rv ad24, iv w0, iv w1, iv z0, iv z1, iv 1, iv 1] [.int 1]) (fun t k => XS.goto X821.here hx rfl (pc0 := 656) (pc' := 660) rfl (hb hby at_656) (by decide) (by decide) k) ?_
  refine own_rN X821 hx hlk Bd.returns (by simp) (hb hby at_660) ?_ (by decide) (by decide)
  rw [e821]
  exact ⟨rfl, N753⟩
set_option maxRecDepth 65536 in
set_option maxHeartbeats 40000000 in
theorem comes_1 {Post : Tables → Env → Array Value → State → Outcome → State → Prop} (hpost : ∀ tb e args s v u, (limb_1_1.after args s (.returned v) u = true ∧ limb_1_2.after args s (.returned v) u = true ∧ True) → FrameEnd s (.returned v) u (Jvm.fieldLocs frame_1_writes args s ++ Jvm.arrayLocs frame_1_arrays args s ++ Jvm.staticLocs frame_1_statics s) 40 192 → Post tb e args s (.returned v) u) :
    ArmFor flags0 classFile x code maxLocals ret World_1 tables_1 room_1 Calls_1 rest_1 Pre_1 Post := by
  intro l hfl _ _ p e ha hc hk s m args below hf hA hF happ hP
  obtain ⟨hcalls, hrest, hpre⟩ := hP
  obtain ⟨-, -, -, hnamed, -, -, -, hat⟩ := (Spec.applies_iff hf).mp happ
  obtain ⟨hg, hn⟩ := and_e (Cond.before_iff.mp (show (Jvm.Cond.and given_1 narrow_1).before args s = true from hpre))
  obtain ⟨hc0, hg0⟩ := and_e hg
  obtain ⟨hc1, hg1⟩ := and_e hg0
  obtain ⟨hc2, hg2⟩ := and_e hg1
  obtain ⟨hc3, hg3⟩ := and_e hg2
  obtain ⟨hc4, hg4⟩ := and_e hg3
  obtain ⟨hc5, hg5⟩ := and_e hg4
  obtain ⟨w0, w1, w2, w3, w4, w5, rfl⟩ : ∃ w0 w1 w2 w3 w4 w5 : Value, args = #[w0, w1, w2, w3, w4, w5] := by
    have hs : args.size = 6 := by simpa [Cond.value, given_1] using hc0
    obtain ⟨L⟩ := args
    match L, hs with
    | [w0, w1, w2, w3, w4, w5], _ => exact ⟨w0, w1, w2, w3, w4, w5, rfl⟩
  have hw := fun d (hd : d ∈ tables_1) => atoms_spec (ws := Jvm.Cond.code x code maxLocals ret :: tables_1) hat d (List.mem_cons_of_mem _ hd)
  have hfit : Fit s := fun {y c} hc i hi => by
    obtain ⟨ha, rfl⟩ := Array.getElem?_eq_some_iff.mp hc
    have q := List.all_eq_true.mp ((Array.all_eq_true_iff_forall_mem.mp hF) _ (Array.getElem_mem ha)) i (List.mem_range.mpr hi)
    simpa [Array.getElem?_eq_getElem hi] using q
  obtain ⟨i0, ev0⟩ := isL_v hc1
  obtain rfl : w0 = (.long i0) := Option.some.inj ev0
  obtain ⟨i1, ev1⟩ := isL_v hc2
  obtain rfl : w1 = (.long i1) := Option.some.inj ev1
  obtain ⟨i2, ev2⟩ := isL_v hc3
  obtain rfl : w2 = (.long i2) := Option.some.inj ev2
  obtain ⟨i3, ev3⟩ := isL_v hc4
  obtain rfl : w3 = (.long i3) := Option.some.inj ev3
  obtain ⟨i4, ev4⟩ := is_v hc5
  obtain rfl : w4 = (.int i4) := Option.some.inj ev4
  obtain ⟨i5, ev5⟩ := is_v hg5
  obtain rfl : w5 = (.int i5) := Option.some.inj ev5

  obtain ⟨n, o, h1, h2, h3, _, L, rfl, ⟨rfl, N⟩, hq⟩ := rm_law l s _ hw tables_1 i0 i1 i2 i3 i4 i5  s.heap s.heap.size (Nat.le_refl _)  p e ha hc hk s m _ below hf ((Spec.applies_iff_loose hf).mp happ).1 ⟨rfl, State.Warmed39.refl s, rfl⟩ trivial
  refine ⟨n, _, h1, h2, h3, hpost _ _ _ _ _ _ ⟨Cond.after_iff.mpr rfl, Cond.after_iff.mpr (eq_i res_at (Term.int_eval (1)) rfl), trivial⟩ ⟨hq.1, hq.2.1, (hq.2.2.sift fun y hy => Or.inr (N y hy)).mono (by decide) (by decide)⟩⟩
theorem main_1_1 : Claimed_1_1 := comes_1 fun _ _ _ _ _ _ h hF => ⟨h.1, hF⟩
theorem main_1_2 : Claimed_1_2 := comes_1 fun _ _ _ _ _ _ h hF => ⟨h.2.1, hF⟩

end Jvm.Pilot.@@N@@
namespace Jvm.Pilot.@@N@@
open Jvm Jvm.ClassFile Sem Op Lib Jvm.Free Jvm.Stand Jvm.Pilot.@@N@@.Jvm.D
/-! MADE BY PROGRAM (witnessworld.py) out of the Statement's table words and the real class files: 13 classes; the members and pool entries that the words name. The judged class is class 1, her method 1. -/
namespace start1
open Jvm.ClassFile
def u (s : String) : CpInfo := .utf8 (stringToUtf16 s)
/-- a pool by its gaps: so many unusable entries, then the entry; so many at the end -/
def gap : Nat → List CpInfo → List CpInfo
  | 0, r => r
  | n + 1, r => .unusable :: gap n r
def poolList (es : List (Nat × CpInfo)) (last : Nat) : List CpInfo := es.foldr (fun e r => gap e.1 (e.2 :: r)) (gap last [])
def pool (es : List (Nat × CpInfo)) (last : Nat) : Array CpInfo := ⟨poolList es last⟩
def fileOf (pool : Array CpInfo) (this : Nat) (attrs : Array Attribute := #[]) (ms : Array MethodInfo := #[]) (fl : Nat := 33) (sup : Nat := 0) (ifs : Array Nat := #[]) (fds : Array FieldInfo := #[]) : ClassFile where
  minorVersion := 0
  majorVersion := 65
  constantPool := pool
  accessFlags := fl
  thisClass := this
  superClass := sup
  interfaces := ifs
  fields := fds
  methods := ms
  attributes := attrs
def plain (name : String) (sup : Option ClassId) : Class where
  name := name
  kind := .ordinary
  loader := none
  accessFlags := 33
  super := sup
  interfaces := #[]
  cf := none
  fields := #[]
  methods := #[]
  instanceTypes := #[]
  staticTypes := #[]
  resolved := #[]
  callSites := []
  init := .initialized
  statics := none
  mirror := none

def pool0 : Array CpInfo := pool [(5, u "<init>"), (0, u "()V"), (1, .class_ 10), (1, u "java/lang/Object")] 113

def k0c0 : Code := { maxStack := 0, maxLocals := 1, code := object_method_1_code, exceptionTable := #[], attributes := #[] }
def k0m0 : Method := { name := "<init>", desc := "()V", sig := { parameters := [], returnType := none }, accessFlags := 1, code := some k0c0 }
/-- java/lang/Object -/
def k0 : Class := { plain "java/lang/Object" none with
  accessFlags := 33
  interfaces := #[]
  cf := some (fileOf pool0 8 #[] #[{ accessFlags := 1, nameIndex := 5, descriptorIndex := 6, attributes := #[] }] 33 0 #[] #[])
  fields := #[]
  methods := #[k0m0]
  instanceTypes := #[]
  staticTypes := #[]
  resolved := Array.replicate 124 none
  statics := none }

def pool1 : Array CpInfo := pool [(2, .class_ 4), (1, u "java/lang/Object"), (0, u "<init>"), (0, u "()V"), (0, .class_ 8), (0, u "com/example/rostr/rostr/simulation/SimulatedCentre$Counts"), (0, .methodref 7 10), (0, .nameAndType 5 11), (0, u "(I)V"), (0, .integer 65535), (0, .fieldref 7 14), (0, .nameAndType 15 16), (0, u "offered"), (0, u "[J"), (0, .fieldref 7 18), (0, .nameAndType 19 16), (0, u "abandoned"), (0, .fieldref 7 21), (0, .nameAndType 22 16), (0, u "abandonedEarly"), (0, .fieldref 7 24), (0, .nameAndType 25 16), (0, u "answered"), (0, .fieldref 7 27), (0, .nameAndType 28 16), (0, u "answeredInTime"), (0, .fieldref 7 30), (0, .nameAndType 31 32), (0, u "waitHours"), (0, u "[D"), (0, .methodref 7 34), (0, .nameAndType 35 36), (0, u "add"), (0, u "(Lcom/example/rostr/rostr/simulation/SimulatedCentre$Counts;)V"), (0, .class_ 38), (0, u "com/example/rostr/rostr/simulation/CountsAddPinLaw"), (2, u "law"), (0, u "(JJJJII)Z")] 7

def k1m0 : Method := { name := "<init>", desc := "()V", sig := { parameters := [], returnType := none }, accessFlags := 2, code := none }
def k1c1 : Code := { maxStack := 8, maxLocals := 18, code := code, exceptionTable := #[], attributes := #[] }
def k1m1 : Method := { name := "law", desc := "(JJJJII)Z", sig := { parameters := [.long, .long, .long, .long, .int, .int], returnType := some .boolean }, accessFlags := 9, code := some k1c1 }
/-- com/example/rostr/rostr/simulation/CountsAddPinLaw -/
def k1 : Class := { plain "com/example/rostr/rostr/simulation/CountsAddPinLaw" (some 0) with
  accessFlags := 49
  interfaces := #[]
  cf := some (fileOf pool1 37 #[] #[{ accessFlags := 2, nameIndex := 5, descriptorIndex := 6, attributes := #[] }, { accessFlags := 9, nameIndex := 41, descriptorIndex := 42, attributes := #[] }] 49 2 #[] #[])
  fields := #[]
  methods := #[k1m0, k1m1]
  instanceTypes := #[]
  staticTypes := #[]
  resolved := Array.replicate 50 none
  statics := none }

def pool2 : Array CpInfo := pool [(1, .methodref 2 3), (0, .class_ 4), (0, .nameAndType 5 6), (0, u "java/lang/Object"), (0, u "<init>"), (0, u "()V"), (0, .fieldref 8 9), (0, .class_ 10), (0, .nameAndType 11 12), (0, u "com/example/rostr/rostr/simulation/SimulatedCentre$Counts"), (0, u "offered"), (0, u "[J"), (0, .fieldref 8 14), (0, .nameAndType 15 12), (0, u "abandoned"), (0, .fieldref 8 17), (0, .nameAndType 18 12), (0, u "abandonedEarly"), (0, .fieldref 8 20), (0, .nameAndType 21 12), (0, u "answered"), (0, .fieldref 8 23), (0, .nameAndType 24 12), (0, u "answeredInTime"), (0, .fieldref 8 26), (0, .nameAndType 27 28), (0, u "waitHours"), (0, u "[D"), (9, u "(I)V"), (2, u "add"), (0, u "(Lcom/example/rostr/rostr/simulation/SimulatedCentre$Counts;)V"), (7, .class_ 51), (0, u "com/example/rostr/rostr/simulation/SimulatedCentre")] 2

def k2c0 : Code := { maxStack := 2, maxLocals := 2, code := prog_32_method_1_code, exceptionTable := #[], attributes := #[] }
def k2m0 : Method := { name := "<init>", desc := "(I)V", sig := { parameters := [.int], returnType := none }, accessFlags := 0, code := some k2c0 }
def k2c1 : Code := { maxStack := 6, maxLocals := 3, code := prog_32_method_2_code, exceptionTable := #[], attributes := #[] }
def k2m1 : Method := { name := "add", desc := "(Lcom/example/rostr/rostr/simulation/SimulatedCentre$Counts;)V", sig := { parameters := [(.object "com/example/rostr/rostr/simulation/SimulatedCentre$Counts")], returnType := none }, accessFlags := 0, code := some k2c1 }
/-- com/example/rostr/rostr/simulation/SimulatedCentre$Counts -/
def k2 : Class := { plain "com/example/rostr/rostr/simulation/SimulatedCentre$Counts" (some 0) with
  accessFlags := 48
  interfaces := #[]
  cf := some (fileOf pool2 8 #[.nestHost 50] #[{ accessFlags := 0, nameIndex := 5, descriptorIndex := 38, attributes := #[] }, { accessFlags := 0, nameIndex := 41, descriptorIndex := 42, attributes := #[] }] 48 2 #[] #[{ accessFlags := 16, nameIndex := 11, descriptorIndex := 12, attributes := #[] }, { accessFlags := 16, nameIndex := 15, descriptorIndex := 12, attributes := #[] }, { accessFlags := 16, nameIndex := 18, descriptorIndex := 12, attributes := #[] }, { accessFlags := 16, nameIndex := 21, descriptorIndex := 12, attributes := #[] }, { accessFlags := 16, nameIndex := 24, descriptorIndex := 12, attributes := #[] }, { accessFlags := 16, nameIndex := 27, descriptorIndex := 28, attributes := #[] }])
  fields := #[{ name := "offered", type := (.array .long), accessFlags := 16, slot := 0, constantValue := 0 }, { name := "abandoned", type := (.array .long), accessFlags := 16, slot := 1, constantValue := 0 }, { name := "abandonedEarly", type := (.array .long), accessFlags := 16, slot := 2, constantValue := 0 }, { name := "answered", type := (.array .long), accessFlags := 16, slot := 3, constantValue := 0 }, { name := "answeredInTime", type := (.array .long), accessFlags := 16, slot := 4, constantValue := 0 }, { name := "waitHours", type := (.array .double), accessFlags := 16, slot := 5, constantValue := 0 }]
  methods := #[k2m0, k2m1]
  instanceTypes := #[(.array .long), (.array .long), (.array .long), (.array .long), (.array .long), (.array .double)]
  staticTypes := #[]
  resolved := Array.replicate 54 none
  statics := none }

def pool3 : Array CpInfo := pool [(1, u "java/lang/Cloneable"), (0, .class_ 1), (0, u "java/lang/Object"), (0, .class_ 3)] 3

/-- java/lang/Cloneable -/
def k3 : Class := { plain "java/lang/Cloneable" (some 0) with
  accessFlags := 1537
  interfaces := #[]
  cf := some (fileOf pool3 2 #[] #[] 1537 4 #[] #[])
  fields := #[]
  methods := #[]
  instanceTypes := #[]
  staticTypes := #[]
  resolved := Array.replicate 8 none
  statics := none }

def pool4 : Array CpInfo := pool [(1, u "java/io/Serializable"), (0, .class_ 1), (0, u "java/lang/Object"), (0, .class_ 3)] 3

/-- java/io/Serializable -/
def k4 : Class := { plain "java/io/Serializable" (some 0) with
  accessFlags := 1537
  interfaces := #[]
  cf := some (fileOf pool4 2 #[] #[] 1537 4 #[] #[])
  fields := #[]
  methods := #[]
  instanceTypes := #[]
  staticTypes := #[]
  resolved := Array.replicate 8 none
  statics := none }

/-- the primitive byte -/
def k5 : Class := { plain "byte" none with kind := .primitive 'B', accessFlags := 0x411 }
/-- [B -/
def k6 : Class := { plain "[B" (some 0) with kind := .array 5 .byte, interfaces := #[3, 4], accessFlags := 1041 }

/-- the primitive double -/
def k7 : Class := { plain "double" none with kind := .primitive 'D', accessFlags := 0x411 }
/-- [D -/
def k8 : Class := { plain "[D" (some 0) with kind := .array 7 .double, interfaces := #[3, 4], accessFlags := 1041 }

/-- the primitive int -/
def k9 : Class := { plain "int" none with kind := .primitive 'I', accessFlags := 0x411 }
/-- [I -/
def k10 : Class := { plain "[I" (some 0) with kind := .array 9 .int, interfaces := #[3, 4], accessFlags := 1041 }

/-- the primitive long -/
def k11 : Class := { plain "long" none with kind := .primitive 'J', accessFlags := 0x411 }
/-- [J -/
def k12 : Class := { plain "[J" (some 0) with kind := .array 11 .long, interfaces := #[3, 4], accessFlags := 1041 }

def heap : Heap := #[]
def classes : Array Class := #[k0, k1, k2, k3, k4, k5, k6, k7, k8, k9, k10, k11, k12]
def interned : List (Array UInt16 × Addr) := []
def slotsUsed : Nat := 0
def theMethod : MethodId := ⟨1, 1⟩
def args0 : Array Value := #[.long 5, .long 3, .long 2, .long 7, .int 4, .int 6]
def aboutOver (below : List Frame) : State where
  vm := { classes := classes, interned := interned.toArray }
  heap := heap
  slotsUsed := slotsUsed
  threads := #[{ frames := .invoking theMethod args0 :: below }]
def below0 : List Frame := [.native { method := ⟨0, 0⟩, args := #[] }]
def about1 : State := aboutOver below0
def p0 : Program := .bare "" "" ""
def e0 : Env := launch0.env 0 0 0
theorem w_frames : about1.frames = Frame.invoking theMethod args0 :: below0 := rfl
set_option maxRecDepth 65536 in
theorem w_args : argsFit about1.vm theMethod args0 = true := by decide +kernel
set_option maxRecDepth 65536 in
theorem w_heap : heapFits about1 = true := by decide +kernel
set_option maxRecDepth 65536 in
theorem w_runnable : about1.curStatus? = some .runnable := by decide +kernel
set_option maxRecDepth 65536 in
theorem w_alone : about1.alone = true := by decide +kernel
set_option maxRecDepth 65536 in
theorem w_named : about1.methodNamed? x = some theMethod := by decide +kernel
set_option maxRecDepth 65536 in
theorem w_hears : about1.hears theMethod below0 = true := by decide +kernel
set_option maxRecDepth 65536 in
theorem w_ripe : about1.ripe theMethod args0 below0 = true := by decide +kernel
theorem w_running : about1.status = .running := rfl
set_option maxRecDepth 65536 in
theorem w_room : about1.hasRoom e0.platform room_1 = true :=
  launch0.hasRoom_least _ room_1 (by decide +kernel) (by decide +kernel) (by decide +kernel) (by decide +kernel) (by decide +kernel) (by decide +kernel)
theorem allAtoms_all (ts : List Jvm.Cond) (a : Array Jvm.Value) (st : Jvm.State) : (allAtoms ts).before a st = ts.all (fun c => c.before a st) := by
  induction ts with
  | nil => rfl
  | cons c t ih =>
    show (Jvm.Cond.and c (allAtoms t)).before a st = _
    rw [Jvm.Cond.before_and, ih, List.all_cons]
def words1 : List Jvm.Cond := Jvm.Cond.code x code maxLocals ret :: tables_1
/-- a 'code' word, met by the world's own term for the bytes: nothing is compared byte by byte -/
theorem code_word {y : MethodName} {bytes : ByteArray} {mx : Nat} {rt : Option FieldType} {a : Array Value} {s : State} {m : MethodId} {meth : Method} {c : Code} (h1 : s.methodNamed? y = some m) (h2 : s.vm.method? m = some meth) (h3 : meth.code = some c) (h4 : c.code = bytes)
    (h5 : (c.maxLocals == mx && c.exceptionTable.isEmpty && decide (c.maxStack ≤ mostOperands) && decide (meth.sig.returnType = rt) && !meth.locks && decide (parseMethodDescriptor y.desc = some meth.sig)) = true) : (Jvm.Cond.code y bytes mx rt).before a s = true := by
  simp only [Bool.and_eq_true, beq_iff_eq, Bool.not_eq_true', decide_eq_true_eq] at h5
  obtain ⟨⟨⟨⟨⟨g1, g2⟩, g3⟩, g4⟩, g5⟩, g6⟩ := h5
  simp [Cond.before, Cond.holds, Cond.value, h1, h2, h3, h4, g1, g2, g3, g4, g5, g6]
def isCode : Jvm.Cond → Bool
  | .code _ _ _ _ => true
  | _ => false
theorem all_split {L : List Jvm.Cond} {P : Jvm.Cond → Bool} (h1 : L.all (fun c => isCode c || P c) = true) (h2 : ∀ c ∈ L.filter isCode, P c = true) : L.all P = true := by
  refine List.all_eq_true.mpr fun c hc => ?_
  have h := List.all_eq_true.mp h1 c hc
  rcases Bool.eq_false_or_eq_true (isCode c) with hi | hi
  · exact h2 c (List.mem_filter.mpr ⟨hc, hi⟩)
  · simpa [hi] using h
set_option maxRecDepth 65536 in
theorem w_c0 : (Jvm.Cond.code x code maxLocals ret).before args0 about1 = true := code_word (m := ⟨1, 1⟩) (meth := k1m1) (c := k1c1) (by decide +kernel) rfl rfl rfl (by decide +kernel)
set_option maxRecDepth 65536 in
theorem w_c1 : (Jvm.Cond.code ({ cls := "com/example/rostr/rostr/simulation/SimulatedCentre$Counts", name := "<init>", desc := "(I)V" } : Jvm.MethodName) prog_32_method_1_code (2 : Nat) (Option.none : Option Jvm.ClassFile.FieldType)).before args0 about1 = true := code_word (m := ⟨2, 0⟩) (meth := k2m0) (c := k2c0) (by decide +kernel) rfl rfl rfl (by decide +kernel)
set_option maxRecDepth 65536 in
theorem w_c2 : (Jvm.Cond.code ({ cls := "java/lang/Object", name := "<init>", desc := "()V" } : Jvm.MethodName) object_method_1_code (1 : Nat) (Option.none : Option Jvm.ClassFile.FieldType)).before args0 about1 = true := code_word (m := ⟨0, 0⟩) (meth := k0m0) (c := k0c0) (by decide +kernel) rfl rfl rfl (by decide +kernel)
set_option maxRecDepth 65536 in
theorem w_c3 : (Jvm.Cond.code ({ cls := "com/example/rostr/rostr/simulation/SimulatedCentre$Counts", name := "add", desc := "(Lcom/example/rostr/rostr/simulation/SimulatedCentre$Counts;)V" } : Jvm.MethodName) prog_32_method_2_code (3 : Nat) (Option.none : Option Jvm.ClassFile.FieldType)).before args0 about1 = true := code_word (m := ⟨2, 1⟩) (meth := k2m1) (c := k2c1) (by decide +kernel) rfl rfl rfl (by decide +kernel)
def codes1 : List Jvm.Cond := [Jvm.Cond.code x code maxLocals ret, Jvm.Cond.code ({ cls := "com/example/rostr/rostr/simulation/SimulatedCentre$Counts", name := "<init>", desc := "(I)V" } : Jvm.MethodName) prog_32_method_1_code (2 : Nat) (Option.none : Option Jvm.ClassFile.FieldType), Jvm.Cond.code ({ cls := "java/lang/Object", name := "<init>", desc := "()V" } : Jvm.MethodName) object_method_1_code (1 : Nat) (Option.none : Option Jvm.ClassFile.FieldType), Jvm.Cond.code ({ cls := "com/example/rostr/rostr/simulation/SimulatedCentre$Counts", name := "add", desc := "(Lcom/example/rostr/rostr/simulation/SimulatedCentre$Counts;)V" } : Jvm.MethodName) prog_32_method_2_code (3 : Nat) (Option.none : Option Jvm.ClassFile.FieldType)]
set_option maxRecDepth 65536 in
theorem codes_eq : words1.filter isCode = codes1 := rfl
theorem w_codes : ∀ c ∈ words1.filter isCode, c.before args0 about1 = true := by
  rw [codes_eq]
  intro c hc
  simp only [codes1, List.mem_cons, List.not_mem_nil, or_false] at hc
  rcases hc with rfl | rfl | rfl | rfl
  · exact w_c0
  · exact w_c1
  · exact w_c2
  · exact w_c3
set_option maxRecDepth 65536 in
theorem w_t1 : (words1.take 24).all (fun c => isCode c || c.before args0 about1) = true := by decide +kernel
set_option maxRecDepth 65536 in
theorem w_t2 : (words1.drop 24).all (fun c => isCode c || c.before args0 about1) = true := by decide +kernel
theorem w_tables : (allAtoms (Jvm.Cond.code x code maxLocals ret :: tables_1)).before args0 about1 = true := by
  rw [allAtoms_all]
  show words1.all (fun c => c.before args0 about1) = true
  refine all_split ?_ w_codes
  rw [← List.take_append_drop 24 words1, List.all_append, w_t1, w_t2]
  rfl
set_option maxRecDepth 65536 in
theorem w_case : (Jvm.Cond.and given_1 narrow_1).before args0 about1 = true := by decide +kernel
theorem w_applies : (headSpec (Jvm.Cond.code x code maxLocals ret :: tables_1) room_1).applies x e0.platform about1 = true :=
  (Spec.applies_iff w_frames).mpr ⟨w_running, w_runnable, w_alone, w_named, w_hears, w_ripe, w_room, w_tables⟩
set_option maxRecDepth 65536 in
theorem atStart : AtStart classFile x code maxLocals ret World_1 tables_1 room_1 Calls_1 rest_1 Pre_1 launch0 p0 e0 about1 theMethod args0 below0 :=
  ⟨lists_1, trivial, launch0.admits_env _ _ _, launch0.least_env, fairChoices_fair.cas, fairChoices_fair.clock, w_frames, w_args, w_heap, w_applies, trivial, trivial, w_case⟩
end start1
theorem witness_1 : WitnessClaimed_1 := ⟨start1.p0, start1.e0, start1.about1, start1.theMethod, start1.args0, start1.below0, start1.atStart⟩
end Jvm.Pilot.@@N@@
