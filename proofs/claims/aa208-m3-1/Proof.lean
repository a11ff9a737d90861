import JvmDerived
import JvmDerived.Pilot.@@N@@Statement
import JvmDerived.Pilot.@@N@@Code
set_option linter.unusedVariables false
set_option linter.unusedSimpArgs false
@@BLOCK:NumsL.lean.txt@@
namespace Jvm.Pilot.@@N@@
open Jvm Jvm.ClassFile Sem Op Lib Jvm.Free Jvm.Stand Jvm.LawKit Jvm.RoadKit Bundle Jvm.Pilot.@@N@@.Jvm.D

section OwnKit
variable {p : Program} {l : Launch} {e : Env} {R : Room} {s : State} {m : MethodId} {args : Array Value} {below : List Frame} {meth : Method} {c : Code} {T : State} {locs : List Loc} {cells slots : Nat}
def own_Go (p : Program) (e : Env) (below : List Frame) (s : State) (Q : Option Value → Heap → List Loc → Prop) (rc rs : Nat) (T : State) (g : JFrame) : Prop :=
  ∃ s₂ o, Steps p.tables e below (T.setTop g) s₂ ∧ s₂.status = .running ∧ Ended s₂ below o ∧ ∃ v L, o = .returned v ∧ Q v s₂.heap L ∧ FrameEnd s o s₂ L rc rs
variable {Q : Option Value → Heap → List Loc → Prop} {rc rs : Nat} {T' : State} {g g' : JFrame}
theorem own_step (st : ∀ target, Steps p.tables e below (T'.setTop g') target → Steps p.tables e below (T.setTop g) target) (k : own_Go p e below s Q rc rs T' g') : own_Go p e below s Q rc rs T g := by
  obtain ⟨s₂, o, h1, h2⟩ := k
  exact ⟨s₂, o, st _ h1, h2⟩
theorem own_tr (st : Steps p.tables e below (T.setTop g) (T'.setTop g')) (k : own_Go p e below s Q rc rs T' g') : own_Go p e below s Q rc rs T g := by
  obtain ⟨s₂, o, h1, h2⟩ := k
  exact ⟨s₂, o, st.trans h1, h2⟩
theorem own_cast (q : g = g') (k : own_Go p e below s Q rc rs T g') : own_Go p e below s Q rc rs T g := q ▸ k
theorem own_done (X : Stand p l e R s m args below meth c T locs cells slots) {v : Option Value} (hv : meth.sig.returnType = none → v = none) (hlk : meth.locks = false)
    (st : ∀ fs, (∀ (f : JFrame) (acts : List Action), f.method = m → f.locked = none → f.entered = [] → (doReturn e (T.setTop f) acts v).1 = T.setFrames fs) → Steps p.tables e below (T.setTop g) (T.setFrames fs))
    (hQ : Q v T.heap locs) (hc : cells ≤ rc) (hs : slots ≤ rs) : own_Go p e below s Q rc rs T g := by
  obtain ⟨fs, hr, hrun, hended, hW, hsame⟩ := X.leave (v := v) hv hlk
  exact ⟨_, _, st fs hr, hrun, hended, v, locs, rfl, hQ, ⟨_, rfl⟩, hW, hsame.mono hc hs⟩
theorem own_rN (X : Stand p l e R s m args below meth c T locs cells slots) (hx : p.tables.exec = Jvm.exec) (hlk : meth.locks = false) {t : FieldType} (hret : meth.sig.returnType = some t) (ht : t = .boolean ∨ t = .byte ∨ t = .char ∨ t = .short) {pc : Nat} {Ls : Array Slot} {z : Int32} {rest : List Value}
    (hd : decode c.code pc = .ok (.ireturn, 1)) (hQ : Q (some (.int (nar t z))) T.heap locs) (hc : cells ≤ rc) (hs : slots ≤ rs) : own_Go p e below s Q rc rs T (mkF m pc Ls (.int z :: rest)) :=
  own_done X (fun h => by rw [hret] at h; cases h) hlk (fun fs hr => retN X hx hret ht hd hr) hQ hc hs
theorem own_rI (X : Stand p l e R s m args below meth c T locs cells slots) (hx : p.tables.exec = Jvm.exec) (hlk : meth.locks = false) (hret : meth.sig.returnType = some .int) {pc : Nat} {Ls : Array Slot} {z : Int32} {rest : List Value}
    (hd : decode c.code pc = .ok (.ireturn, 1)) (hQ : Q (some (.int z)) T.heap locs) (hc : cells ≤ rc) (hs : slots ≤ rs) : own_Go p e below s Q rc rs T (mkF m pc Ls (.int z :: rest)) :=
  own_done X (fun h => by rw [hret] at h; cases h) hlk (fun fs hr => retOut X hx hret rfl (Or.inl ⟨rfl, Or.inl rfl, _, rfl⟩) hd hr) hQ hc hs
theorem own_rJ (X : Stand p l e R s m args below meth c T locs cells slots) (hx : p.tables.exec = Jvm.exec) (hlk : meth.locks = false) (hret : meth.sig.returnType = some .long) {pc : Nat} {Ls : Array Slot} {z : Int64} {rest : List Value}
    (hd : decode c.code pc = .ok (.lreturn, 1)) (hQ : Q (some (.long z)) T.heap locs) (hc : cells ≤ rc) (hs : slots ≤ rs) : own_Go p e below s Q rc rs T (mkF m pc Ls (.long z :: rest)) :=
  own_done X (fun h => by rw [hret] at h; cases h) hlk (fun fs hr => retOut X hx hret rfl (Or.inr (Or.inl ⟨rfl, rfl, _, rfl⟩)) hd hr) hQ hc hs
theorem own_narA {t : FieldType} {w : Value} (ht : t.isReference = true) (hw : w.isRef = true) : narrow t w = w := by cases t <;> cases w <;> first | rfl | cases ht | cases hw
theorem own_rA (X : Stand p l e R s m args below meth c T locs cells slots) (hx : p.tables.exec = Jvm.exec) (hlk : meth.locks = false) {t : FieldType} (hret : meth.sig.returnType = some t) (ht : t.isReference = true) {pc : Nat} {Ls : Array Slot} {w : Value} {rest : List Value} (hw : w.isRef = true)
    (hd : decode c.code pc = .ok (.areturn, 1)) (hQ : Q (some w) T.heap locs) (hc : cells ≤ rc) (hs : slots ≤ rs) : own_Go p e below s Q rc rs T (mkF m pc Ls (w :: rest)) :=
  own_done X (fun h => by rw [hret] at h; cases h) hlk (fun fs hr => retOut X hx hret (own_narA ht hw) (Or.inr (Or.inr (Or.inr (Or.inr ⟨rfl, ht, hw⟩)))) hd hr) hQ hc hs
theorem own_rV (X : Stand p l e R s m args below meth c T locs cells slots) (hx : p.tables.exec = Jvm.exec) (hlk : meth.locks = false) (hret : meth.sig.returnType = none) {pc : Nat} {Ls : Array Slot}
    (hd : decode c.code pc = .ok (.return_, 1)) (hQ : Q none T.heap locs) (hc : cells ≤ rc) (hs : slots ≤ rs) : own_Go p e below s Q rc rs T (mkF m pc Ls []) :=
  own_done X (fun _ => rfl) hlk (fun fs hr => X.returnOut hx hret hd hr) hQ hc hs
end OwnKit
def own_vs : List Value := [(.long (0 : Int64)), (.long (137438953472 : Int64)), (.long (68719476736 : Int64)), (.long (45812984491 : Int64)), (.long (34359738368 : Int64)), (.long (27487790695 : Int64)), (.long (22906492246 : Int64)), (.long (19634136211 : Int64)), (.long (17179869184 : Int64)), (.long (15270994831 : Int64)), (.long (13743895348 : Int64)), (.long (12494450316 : Int64)), (.long (11453246123 : Int64)), (.long (10572227191 : Int64)), (.long (9817068106 : Int64)), (.long (9162596899 : Int64)), (.long (8589934592 : Int64)), (.long (8084644322 : Int64)), (.long (7635497416 : Int64)), (.long (7233629131 : Int64)), (.long (6871947674 : Int64)), (.long (6544712071 : Int64)), (.long (6247225158 : Int64)), (.long (5975606673 : Int64)), (.long (5726623062 : Int64)), (.long (5497558139 : Int64)), (.long (5286113596 : Int64)), (.long (5090331611 : Int64)), (.long (4908534053 : Int64)), (.long (4739274258 : Int64)), (.long (4581298450 : Int64)), (.long (4433514629 : Int64)), (.long (4294967296 : Int64)), (.long (4164816772 : Int64)), (.long (4042322161 : Int64)), (.long (3926827243 : Int64)), (.long (3817748708 : Int64)), (.long (3714566311 : Int64)), (.long (3616814566 : Int64)), (.long (3524075731 : Int64)), (.long (3435973837 : Int64)), (.long (3352169597 : Int64)), (.long (3272356036 : Int64)), (.long (3196254732 : Int64)), (.long (3123612579 : Int64)), (.long (3054198967 : Int64)), (.long (2987803337 : Int64)), (.long (2924233053 : Int64)), (.long (2863311531 : Int64)), (.long (2804876602 : Int64)), (.long (2748779070 : Int64)), (.long (2694881441 : Int64)), (.long (2643056798 : Int64)), (.long (2593187802 : Int64)), (.long (2545165806 : Int64)), (.long (2498890064 : Int64)), (.long (2454267027 : Int64)), (.long (2411209711 : Int64)), (.long (2369637129 : Int64)), (.long (2329473788 : Int64)), (.long (2290649225 : Int64)), (.long (2253097598 : Int64)), (.long (2216757315 : Int64)), (.long (2181570691 : Int64)), (.long (2147483648 : Int64))]
def own_R (b : Nat) : Nat := (137438953472 + b - 1) / b
theorem own_vsR : ∀ b : Fin 65, own_vs.getD b.val (.long (0 : Int64)) = .long (Int64.ofNat (own_R b.val)) := by decide +kernel
theorem own_core (b n : Nat) (h1 : 1 ≤ b) (h2 : b ≤ 64) (hn : n < 2147483648) : ((own_R b * n) % 137438953472 * b) / 137438953472 = n % b := by
  obtain ⟨R, hR⟩ : ∃ R, R = own_R b := ⟨_, rfl⟩
  rw [← hR]
  unfold own_R at hR
  have d1 := Nat.div_add_mod (137438953472 + b - 1) b
  have d2 := Nat.mod_lt (137438953472 + b - 1) (show 0 < b by omega)
  rw [← hR] at d1
  obtain ⟨e, he⟩ : ∃ e, b * R = 137438953472 + e := ⟨b * R - 137438953472, by omega⟩
  have hb : e < b := by omega
  have n1 := Nat.div_add_mod n b
  have n2 := Nat.mod_lt n (show 0 < b by omega)
  generalize n / b = q at *
  generalize n % b = r at *
  have k1 : R * n = 137438953472 * q + (e * q + R * r) := by
    calc R * n = R * (b * q + r) := by rw [n1]
      _ = (b * R) * q + R * r := by rw [Nat.mul_add, ← Nat.mul_assoc, Nat.mul_comm R b]
      _ = 137438953472 * q + (e * q + R * r) := by rw [he, Nat.add_mul]; omega
  have k3 : R * r + R ≤ b * R := by
    have := Nat.mul_le_mul_left R (show r + 1 ≤ b by omega)
    rw [Nat.mul_add, Nat.mul_one, Nat.mul_comm R b] at this
    exact this
  have k4 : e * q + e < R := by
    apply Nat.lt_of_not_le
    intro hle
    have a1 := Nat.mul_le_mul_left b hle
    have a2 : b * (e * q + e) = e * (b * q + b) := by
      rw [Nat.mul_add, Nat.mul_add, ← Nat.mul_assoc, ← Nat.mul_assoc, Nat.mul_comm b e]
    have a3 : e * (b * q + b) ≤ 63 * (2147483648 + 64) := Nat.mul_le_mul (by omega) (by omega)
    omega
  have k2 : e * q + R * r < 137438953472 := by omega
  have k5 : (R * n) % 137438953472 = e * q + R * r := by rw [k1]; omega
  rw [k5]
  have k6 : (e * q + R * r) * b = 137438953472 * r + e * n := by
    calc (e * q + R * r) * b = e * (b * q) + (b * R) * r := by
          rw [Nat.add_mul, Nat.mul_assoc e q b, Nat.mul_comm q b, Nat.mul_comm (R * r) b, Nat.mul_assoc b R r]
      _ = e * (b * q) + (137438953472 * r + e * r) := by rw [he, Nat.add_mul]
      _ = 137438953472 * r + (e * (b * q) + e * r) := by omega
      _ = 137438953472 * r + e * n := by rw [← Nat.mul_add, n1]
  rw [k6]
  have k7 : e * n ≤ 63 * 2147483647 := Nat.mul_le_mul (by omega) (by omega)
  omega
theorem own_Rle (b : Nat) (h1 : 1 ≤ b) (h2 : b ≤ 64) : own_R b ≤ 137438953472 := by
  unfold own_R
  apply Nat.div_le_of_le_mul
  have : 1 * 137438953472 ≤ b * 137438953472 := Nat.mul_le_mul_right _ h1
  have h3 := Nat.mul_le_mul_left b (show (1 : Nat) ≤ 137438953472 by omega)
  obtain ⟨b', rfl⟩ : ∃ b', b = b' + 1 := ⟨b - 1, by omega⟩
  omega
theorem own_ofNat (k : Nat) (h : k < 9223372036854775808) : (Int64.ofNat k).toInt = k := by
  rw [Int64.toInt_ofNat_of_lt (by omega)]
theorem own_rem (x b : Int32) (hx : ¬ x < 0) (h1 : ¬ b < 1) (h2 : ¬ 64 < b) : (((((Int64.ofNat (own_R b.toNatClampNeg) * x.toInt64) &&& (137438953471 : Int64)) * b.toInt64).toUInt64 >>> (37 : UInt64)).toInt64).toInt32 = x % b := by
  rw [Int32.lt_iff_toInt_lt] at hx h1 h2
  have z0 : (0 : Int32).toInt = 0 := by decide
  have z1 : (1 : Int32).toInt = 1 := by decide
  have z64 : (64 : Int32).toInt = 64 := by decide
  rw [z0] at hx; rw [z1] at h1; rw [z64] at h2
  have rx := rng32 x
  obtain ⟨n, hn⟩ : ∃ n : Nat, x.toInt = n := ⟨x.toInt.toNat, by omega⟩
  obtain ⟨bn, hbn⟩ : ∃ n : Nat, b.toInt = n := ⟨b.toInt.toNat, by omega⟩
  have hbc : b.toNatClampNeg = bn := by
    have : b.toNatClampNeg = b.toInt.toNat := rfl
    rw [this, hbn]; rfl
  rw [hbc]
  have c := own_core bn n (by omega) (by omega) (by omega)
  have hle := own_Rle bn (by omega) (by omega)
  have eR := own_ofNat (own_R bn) (by omega)
  have m1 := c_lmul (Int64.ofNat (own_R bn)) x.toInt64
  rw [eR, c_i2l, hn] at m1
  have m2 : ((Int64.ofNat (own_R bn) * x.toInt64) &&& (137438953471 : Int64)).toInt = (Int64.ofNat (own_R bn) * x.toInt64).toInt % 2 ^ 37 := Jvm.Kit.i64_mask _ _ (k := 37) (by decide) (by decide)
  have m3 : ((Int64.ofNat (own_R bn) * x.toInt64) &&& (137438953471 : Int64)).toInt = (((own_R bn * n) % 137438953472 : Nat) : Int) := by
    rw [m2]
    have : ((own_R bn : Int) * (n : Int)) = ((own_R bn * n : Nat) : Int) := by rw [Int.natCast_mul]
    rw [this] at m1
    omega
  generalize (Int64.ofNat (own_R bn) * x.toInt64) &&& (137438953471 : Int64) = y at *
  have lt : (own_R bn * n) % 137438953472 < 137438953472 := Nat.mod_lt _ (by decide)
  generalize (own_R bn * n) % 137438953472 = t at *
  have p1 : t * bn ≤ 137438953472 * 64 := Nat.mul_le_mul (by omega) (by omega)
  have m4 : (y * b.toInt64).toInt = ((t * bn : Nat) : Int) := by
    rw [Jvm.Kit.i64_mul, c_i2l, m3, hbn, Int.natCast_mul]
    · rw [c_i2l, m3, hbn, ← Int.natCast_mul]; omega
    · rw [c_i2l, m3, hbn, ← Int.natCast_mul]; omega
  have m5 : (((y * b.toInt64).toUInt64 >>> (37 : UInt64)).toInt64).toInt = (y * b.toInt64).toInt / 2 ^ 37 := Jvm.Kit.i64_lushr (by rw [Jvm.Kit.i64_nonneg, m4]; omega) (by decide) (by decide)
  have m6 : (((y * b.toInt64).toUInt64 >>> (37 : UInt64)).toInt64).toInt = ((n % bn : Nat) : Int) := by
    rw [m5, m4, ← c]; rfl
  have lt2 : n % bn < bn := Nat.mod_lt _ (by omega)
  rw [← Int32.toInt_inj, Jvm.Kit.i32_of_i64 (by rw [m6]; omega) (by rw [m6]; omega), m6, Jvm.Kit.i32_rem_nonneg (by rw [hn]; omega), hn, hbn]
  rfl
theorem own_ne0 {b : Int32} (h : ¬ b < 1) : b ≠ 0 := fun e => h (by rw [e]; decide)
theorem own_mask (x : Int32) : ¬ (x &&& (2147483647 : Int32)) < 0 := by
  have h : (x &&& (2147483647 : Int32)).toInt = x.toInt % 2 ^ 31 := Jvm.Kit.i32_mask x 2147483647 (k := 31) (by decide) (by decide)
  have z0 : (0 : Int32).toInt = 0 := by decide
  rw [Int32.lt_iff_toInt_lt, h, z0]
  omega
theorem own_b1 (x : Int32) : ¬ ((1 : Int32) + ((x &&& (2147483647 : Int32)) % (64 : Int32))) < 1 := by
  have h : (x &&& (2147483647 : Int32)).toInt = x.toInt % 2 ^ 31 := Jvm.Kit.i32_mask x 2147483647 (k := 31) (by decide) (by decide)
  have z1 : (1 : Int32).toInt = 1 := by decide
  have z64 : (64 : Int32).toInt = 64 := by decide
  have hr : ((x &&& (2147483647 : Int32)) % (64 : Int32)).toInt = (x.toInt % 2 ^ 31) % 64 := by
    rw [Jvm.Kit.i32_rem_nonneg (by rw [h]; omega), h, z64]
  rw [Int32.lt_iff_toInt_lt, Jvm.Kit.i32_add, hr, z1]
  · omega
  · rw [hr, z1]; omega
  · rw [hr, z1]; omega
theorem own_b2 {b : Int32} (h : ¬ b < 0) (k : ¬ b = 0) : ¬ b < 1 := by
  have z0 : (0 : Int32).toInt = 0 := by decide
  have z1 : (1 : Int32).toInt = 1 := by decide
  rw [Int32.lt_iff_toInt_lt, z0] at h
  rw [Int32.lt_iff_toInt_lt, z1]
  intro q
  exact k (Int32.toInt_inj.mp (by rw [z0]; omega))
theorem own_idx {b : Int32} (h1 : ¬ b < 1) (h2 : ¬ 64 < b) : ¬ b < 0 ∧ b < 65 := by
  rw [Int32.lt_iff_toInt_lt] at h1 h2
  rw [Int32.lt_iff_toInt_lt, Int32.lt_iff_toInt_lt]
  have z0 : (0 : Int32).toInt = 0 := by decide
  have z1 : (1 : Int32).toInt = 1 := by decide
  have z64 : (64 : Int32).toInt = 64 := by decide
  have z65 : (65 : Int32).toInt = 65 := by decide
  rw [z1] at h1; rw [z64] at h2; rw [z0, z65]
  omega
theorem own_lt65 {b : Int32} (h2 : ¬ 64 < b) : b.toNatClampNeg < 65 := by
  rw [Int32.lt_iff_toInt_lt] at h2
  have z64 : (64 : Int32).toInt = 64 := by decide
  rw [z64] at h2
  have : b.toNatClampNeg = b.toInt.toNat := rfl
  omega
theorem own_eqL {args : Array Value} {s : State} {t : Term} {k : Int64} (h : (Cond.eq t (.long k)).value args s none s [] = some true) : t.eval args s none [] s = some (.long k) := by
  obtain ⟨x, y, h1, h2, k1, k2⟩ := cmp_v (Or.inl h)
  have : y = .long k := (Option.some.inj h2).symm
  subst this
  obtain ⟨z, rfl⟩ := k2
  have g := eq_L h1 h2
  rw [g] at h
  have : z = k := by simpa using h
  rw [h1, this]
theorem own_eqI {args : Array Value} {s : State} {t : Term} {k : Int32} (h : (Cond.eq t (.int k)).value args s none s [] = some true) : t.eval args s none [] s = some (.int k) := by
  obtain ⟨x, y, h1, h2, k1, k2⟩ := cmp_v (Or.inl h)
  have : y = .int k := (Option.some.inj h2).symm
  subst this
  obtain ⟨z, rfl⟩ := k2
  have g := Cond.eq_ints h1 h2
  rw [g] at h
  have : z = k := by simpa using h
  rw [h1, this]

def Q_rm (p1 : Int32) (p2 : Int32) (ar : Addr) (ka : ClassId) (h0 : Heap) (n0 : Nat) (v : Option Value) (h : Heap) (L : List Loc) : Prop := v = some (.int (p1 % p2)) ∧ Fr n0 L ∧ h = h0
theorem ef_rm_rm (m : MethodId) (x0 : Int32) (x1 : Int32) : entryFrame m #[(.int x0), (.int x1)] 2 = mkF m 0 #[.val (.int x0), .val (.int x1)] [] := by first | rfl | (simp [entryFrame, mkF, argsToLocals, Value.category]; done) | (simp [entryFrame, mkF, argsToLocals, Value.category] <;> rfl)
theorem pn_0 : plainName "com/example/cardwright/cardwright/SplitMix64" = true := by first | (simp [plainName, overriddenIn]; done) | decide +kernel
theorem d1_0 : decode prog_41_method_10_code 0 = .ok (.iload_n 1, 1) := by decide +kernel
theorem d1_1 : decode prog_41_method_10_code 1 = .ok (.bipush 64, 2) := by decide +kernel
theorem d1_3 : decode prog_41_method_10_code 3 = .ok (.if_icmp .le 7, 3) := by decide +kernel
theorem d1_6 : decode prog_41_method_10_code 6 = .ok (.iload_n 0, 1) := by decide +kernel
theorem d1_7 : decode prog_41_method_10_code 7 = .ok (.iload_n 1, 1) := by decide +kernel
theorem d1_8 : decode prog_41_method_10_code 8 = .ok (.irem, 1) := by decide +kernel
theorem d1_9 : decode prog_41_method_10_code 9 = .ok (.ireturn, 1) := by decide +kernel
theorem d1_10 : decode prog_41_method_10_code 10 = .ok (.getstatic 59, 3) := by decide +kernel
theorem d1_13 : decode prog_41_method_10_code 13 = .ok (.iload_n 1, 1) := by decide +kernel
theorem d1_14 : decode prog_41_method_10_code 14 = .ok (.laload, 1) := by decide +kernel
theorem d1_15 : decode prog_41_method_10_code 15 = .ok (.iload_n 0, 1) := by decide +kernel
theorem d1_16 : decode prog_41_method_10_code 16 = .ok (.i2l, 1) := by decide +kernel
theorem d1_17 : decode prog_41_method_10_code 17 = .ok (.lmul, 1) := by decide +kernel
theorem d1_18 : decode prog_41_method_10_code 18 = .ok (.ldc2_w 63, 3) := by decide +kernel
theorem d1_21 : decode prog_41_method_10_code 21 = .ok (.land, 1) := by decide +kernel
theorem d1_22 : decode prog_41_method_10_code 22 = .ok (.iload_n 1, 1) := by decide +kernel
theorem d1_23 : decode prog_41_method_10_code 23 = .ok (.i2l, 1) := by decide +kernel
theorem d1_24 : decode prog_41_method_10_code 24 = .ok (.lmul, 1) := by decide +kernel
theorem d1_25 : decode prog_41_method_10_code 25 = .ok (.bipush 37, 2) := by decide +kernel
theorem d1_27 : decode prog_41_method_10_code 27 = .ok (.lushr, 1) := by decide +kernel
theorem d1_28 : decode prog_41_method_10_code 28 = .ok (.l2i, 1) := by decide +kernel
theorem d1_29 : decode prog_41_method_10_code 29 = .ok (.ireturn, 1) := by decide +kernel
set_option maxRecDepth 65536 in
set_option maxHeartbeats 40000000 in
theorem rm_rm (l : Launch) (Z : State) (a0 : Array Value) (hw : ∀ d ∈ tables_1, d.before a0 Z = true) (ws : List Jvm.Cond) (p1 : Int32) (p2 : Int32) (ar : Addr) (ka : ClassId) (h0 : Heap) (n0 : Nat) (Z0 : n0 ≤ h0.size) (hn : ¬ p1 < 0) (hb0 : ¬ p2 < 1) (S_r : Sta Z h0 "com/example/cardwright/cardwright/SplitMix64" "RECIPROCALS" "[J" (.ref ar)) (V_r : Arv Z h0 ar ka .long (65 : Int32) own_vs (.long (0 : Int64))) :
    MetFree l (⟨"com/example/cardwright/cardwright/SplitMix64", "remainder", "(II)I"⟩ : MethodName) (head1 (Jvm.Cond.code (⟨"com/example/cardwright/cardwright/SplitMix64", "remainder", "(II)I"⟩ : MethodName) prog_41_method_10_code 2 (some (.int)) :: ws) ({ frames := 0, cells := 0, slots := 0, locals := 0 } : Room)) (fun a U => a = #[(.int p1), (.int p2)] ∧ Z.Warmed39 U.vm ∧ U.heap = h0) (fun _ _ _ _ _ => True) (fun _ U o U' => ∃ v L, o = .returned v ∧ (Q_rm p1 p2 ar ka h0 n0) v U'.heap L ∧ FrameEnd U o U' L ({ frames := 0, cells := 0, slots := 0, locals := 0 } : Room).cells ({ frames := 0, cells := 0, slots := 0, locals := 0 } : Room).slots) := by
  refine MetFree.of_bodySF (plainFor_of_name pn_0) hisR ?_
  intro p e s m args below meth c s₁ Bd hml0 hP hK
  obtain ⟨rfl, hZ, hh⟩ := hP
  have hx := Bd.exec
  have hby := Bd.bytes
  have hlk : meth.locks = false := BodyLoose.notSynchronized Bd
  have hml : c.maxLocals = 2 := hml0
  have hown : s.vm.findClass "com/example/cardwright/cardwright/SplitMix64" = some m.cls := findClass_of_methodNamed Bd.named
  have hnm := (name_of_methodNamed Bd.named Bd.method).1
  have X0 : Stand p l e ({ frames := 0, cells := 0, slots := 0, locals := 0 } : Room) s m #[(.int p1), (.int p2)] below meth c s₁ [] 0 0 := Stand.of_body Bd
  have e0 : s₁.heap = h0 := by rw [← hh, Bd.state]; rfl
  have N0 := Fr.nil n0
  show own_Go p e below s (Q_rm p1 p2 ar ka h0 n0) ({ frames := 0, cells := 0, slots := 0, locals := 0 } : Room).cells ({ frames := 0, cells := 0, slots := 0, locals := 0 } : Room).slots s₁ (entryFrame m #[(.int p1), (.int p2)] 2)
  refine own_cast (g' := (mkF m 0 #[.val (.int p1), .val (.int p2)] [])) (ef_rm_rm m p1 p2) ?_
  refine own_step (T' := s₁) (g' := (mkF m 1 #[.val (.int p1), .val (.int p2)] [(.int p2)])) (fun t k => XS.iloadN X0.here hx rfl (hb hby d1_0) rfl k) ?_
  refine own_step (T' := s₁) (g' := (mkF m 3 #[.val (.int p1), .val (.int p2)] [(.int (64 : Int32)), (.int p2)])) (fun t k => XS.bipush X0.here hx rfl (hb hby d1_1) k) ?_
  by_cases c3 : (64 : Int32) < p2
  · refine own_step (T' := s₁) (g' := (mkF m 6 #[.val (.int p1), .val (.int p2)] [])) (fun t k => XS.icmpNo X0.here hx rfl (hb hby d1_3) rfl (tlt c3).2.2.2 k) ?_
    refine own_step (T' := s₁) (g' := (mkF m 7 #[.val (.int p1), .val (.int p2)] [(.int p1)])) (fun t k => XS.iloadN X0.here hx rfl (hb hby d1_6) rfl k) ?_
    refine own_step (T' := s₁) (g' := (mkF m 8 #[.val (.int p1), .val (.int p2)] [(.int p2), (.int p1)])) (fun t k => XS.iloadN X0.here hx rfl (hb hby d1_7) rfl k) ?_
    refine own_step (T' := s₁) (g' := (mkF m 9 #[.val (.int p1), .val (.int p2)] [(.int (p1 % p2))])) (fun t k => iremM (g := (mkF m 8 #[.val (.int p1), .val (.int p2)] [(.int p2), (.int p1)])) X0 hx rfl (hb hby d1_8) rfl (own_ne0 hb0) k) ?_
    refine own_rI X0 hx hlk Bd.returns (hb hby d1_9) ?_ (by decide) (by decide)
    rw [e0]
    exact ⟨rfl, N0, rfl⟩
  · refine own_step (T' := s₁) (g' := (mkF m 10 #[.val (.int p1), .val (.int p2)] [])) (fun t k => XS.icmpYes X0.here hx rfl (pc0 := 3) (pc' := 10) rfl (hb hby d1_3) rfl (flt c3).2.2.2 (by decide) (by decide) k) ?_
    obtain ⟨T1, X1, e1, st1⟩ := getS2 X0 hx hZ hown (host := "") (Or.inl (hw _ (List.mem_of_getElem? (i := 5) rfl))) Via.refl e0 S_r (g := (mkF m 10 #[.val (.int p1), .val (.int p2)] [])) rfl (hb hby d1_10)
    refine own_step (T' := T1) (g' := (mkF m 13 #[.val (.int p1), .val (.int p2)] [(.ref ar)])) st1 ?_
    refine own_step (T' := T1) (g' := (mkF m 14 #[.val (.int p1), .val (.int p2)] [(.int p2), (.ref ar)])) (fun t k => XS.iloadN X1.here hx rfl (hb hby d1_13) rfl k) ?_
    obtain ⟨c2, Ar2, q2, S2, M2, H2, U2⟩ := id V_r
    have hi2 := inb_of S2 (j := p2) (own_idx hb0 c3)
    have hat2 := H2.at hi2 (v := (.long (Int64.ofNat (own_R p2.toNatClampNeg)))) (own_vsR ⟨p2.toNatClampNeg, own_lt65 c3⟩)
    refine own_step (T' := T1) (g' := (mkF m 15 #[.val (.int p1), .val (.int p2)] [(.long (Int64.ofNat (own_R p2.toNatClampNeg)))])) (fun t k => X1.laload hx (j := p2) (v := (.long (Int64.ofNat (own_R p2.toNatClampNeg)))) (by rw [e1]; exact Ar2.1) (State.isArrayOf_alike hZ.alike Ar2.2.1) Ar2.2.2 hi2 hat2 (g := (mkF m 14 #[.val (.int p1), .val (.int p2)] [(.int p2), (.ref ar)])) rfl rfl (hb hby d1_14) t k) ?_
    refine own_step (T' := T1) (g' := (mkF m 16 #[.val (.int p1), .val (.int p2)] [(.int p1), (.long (Int64.ofNat (own_R p2.toNatClampNeg)))])) (fun t k => XS.iloadN X1.here hx rfl (hb hby d1_15) rfl k) ?_
    refine own_step (T' := T1) (g' := (mkF m 17 #[.val (.int p1), .val (.int p2)] [(.long (p1.toInt64)), (.long (Int64.ofNat (own_R p2.toNatClampNeg)))])) (fun t k => XS.i2l X1.here hx rfl (hb hby d1_16) rfl k) ?_
    refine own_step (T' := T1) (g' := (mkF m 18 #[.val (.int p1), .val (.int p2)] [(.long ((Int64.ofNat (own_R p2.toNatClampNeg)) * (p1.toInt64)))])) (fun t k => XS.lmul X1.here hx rfl (hb hby d1_17) rfl k) ?_
    refine own_step (T' := T1) (g' := (mkF m 21 #[.val (.int p1), .val (.int p2)] [(.long (137438953471 : Int64)), (.long ((Int64.ofNat (own_R p2.toNatClampNeg)) * (p1.toInt64)))])) (X1.ldc2Long hx hown (mvT hZ (hw _ (List.mem_of_getElem? (i := 7) rfl))) (g := (mkF m 18 #[.val (.int p1), .val (.int p2)] [(.long ((Int64.ofNat (own_R p2.toNatClampNeg)) * (p1.toInt64)))])) rfl (hb hby d1_18)) ?_
    refine own_step (T' := T1) (g' := (mkF m 22 #[.val (.int p1), .val (.int p2)] [(.long (((Int64.ofNat (own_R p2.toNatClampNeg)) * (p1.toInt64)) &&& (137438953471 : Int64)))])) (fun t k => XS.land X1.here hx rfl (hb hby d1_21) rfl k) ?_
    refine own_step (T' := T1) (g' := (mkF m 23 #[.val (.int p1), .val (.int p2)] [(.int p2), (.long (((Int64.ofNat (own_R p2.toNatClampNeg)) * (p1.toInt64)) &&& (137438953471 : Int64)))])) (fun t k => XS.iloadN X1.here hx rfl (hb hby d1_22) rfl k) ?_
    refine own_step (T' := T1) (g' := (mkF m 24 #[.val (.int p1), .val (.int p2)] [(.long (p2.toInt64)), (.long (((Int64.ofNat (own_R p2.toNatClampNeg)) * (p1.toInt64)) &&& (137438953471 : Int64)))])) (fun t k => XS.i2l X1.here hx rfl (hb hby d1_23) rfl k) ?_
    refine own_step (T' := T1) (g' := (mkF m 25 #[.val (.int p1), .val (.int p2)] [(.long ((((Int64.ofNat (own_R p2.toNatClampNeg)) * (p1.toInt64)) &&& (137438953471 : Int64)) * (p2.toInt64)))])) (fun t k => XS.lmul X1.here hx rfl (hb hby d1_24) rfl k) ?_
    refine own_step (T' := T1) (g' := (mkF m 27 #[.val (.int p1), .val (.int p2)] [(.int (37 : Int32)), (.long ((((Int64.ofNat (own_R p2.toNatClampNeg)) * (p1.toInt64)) &&& (137438953471 : Int64)) * (p2.toInt64)))])) (fun t k => XS.bipush X1.here hx rfl (hb hby d1_25) k) ?_
    refine own_step (T' := T1) (g' := (mkF m 28 #[.val (.int p1), .val (.int p2)] [(.long ((((((Int64.ofNat (own_R p2.toNatClampNeg)) * (p1.toInt64)) &&& (137438953471 : Int64)) * (p2.toInt64)).toUInt64 >>> (37 : UInt64)).toInt64))])) (fun t k => XS.lushr X1.here hx rfl (hb hby d1_27) rfl k) ?_
    refine own_step (T' := T1) (g' := (mkF m 29 #[.val (.int p1), .val (.int p2)] [(.int (((((((Int64.ofNat (own_R p2.toNatClampNeg)) * (p1.toInt64)) &&& (137438953471 : Int64)) * (p2.toInt64)).toUInt64 >>> (37 : UInt64)).toInt64).toInt32))])) (fun t k => XS.l2i X1.here hx rfl (hb hby d1_28) rfl k) ?_
    refine own_rI X1 hx hlk Bd.returns (hb hby d1_29) ?_ (by decide) (by decide)
    rw [e1]
    exact ⟨by rw [own_rem p1 p2 hn hb0 c3], N0, rfl⟩
def Q_law (n0 : Nat) (v : Option Value) (h : Heap) (L : List Loc) : Prop := v = some (.int 1) ∧ Fr n0 L
theorem ef_rm_law (m : MethodId) (x0 : Int32) (x1 : Int32) (x2 : Int32) : entryFrame m #[(.int x0), (.int x1), (.int x2)] maxLocals = mkF m 0 #[.val (.int x0), .val (.int x1), .val (.int x2), .unset, .unset, .unset] [] := by first | rfl | (simp [entryFrame, mkF, argsToLocals, Value.category, maxLocals]; done) | (simp [entryFrame, mkF, argsToLocals, Value.category, maxLocals] <;> rfl)
theorem pn_1 : plainName "com/example/cardwright/cardwright/SplitMix64RemainderPinLaw" = true := by first | (simp [plainName, overriddenIn]; done) | decide +kernel
theorem pd_0 : parseMethodDescriptor "(II)I" = some ⟨[.int, .int], some (.int)⟩ := by decide +kernel
set_option maxRecDepth 65536 in
set_option maxHeartbeats 40000000 in
theorem rm_law (l : Launch) (Z : State) (a0 : Array Value) (hw : ∀ d ∈ tables_1, d.before a0 Z = true) (ws : List Jvm.Cond) (p0 : Int32) (p1 : Int32) (p2 : Int32) (ar : Addr) (ka : ClassId) (h0 : Heap) (n0 : Nat) (Z0 : n0 ≤ h0.size) (S_r : Sta Z h0 "com/example/cardwright/cardwright/SplitMix64" "RECIPROCALS" "[J" (.ref ar)) (V_r : Arv Z h0 ar ka .long (65 : Int32) own_vs (.long (0 : Int64))) :
    MetFree l x (head1 (Jvm.Cond.code x code maxLocals ret :: ws) room_1) (fun a U => a = #[(.int p0), (.int p1), (.int p2)] ∧ Z.Warmed39 U.vm ∧ U.heap = h0) (fun _ _ _ _ _ => True) (fun _ U o U' => ∃ v L, o = .returned v ∧ (Q_law n0) v U'.heap L ∧ FrameEnd U o U' L 0 0) := by
  refine MetFree.of_bodySF (plainFor_of_name pn_1) hisR ?_
  intro p e s m args below meth c s₁ Bd hml0 hP hK
  obtain ⟨rfl, hZ, hh⟩ := hP
  have hx := Bd.exec
  have hby := Bd.bytes
  have hlk : meth.locks = false := BodyLoose.notSynchronized Bd
  have hml : c.maxLocals = 6 := hml0
  have hown : s.vm.findClass "com/example/cardwright/cardwright/SplitMix64RemainderPinLaw" = some m.cls := findClass_of_methodNamed Bd.named
  have hnm := (name_of_methodNamed Bd.named Bd.method).1
  have X0 : Stand p l e room_1 s m #[(.int p0), (.int p1), (.int p2)] below meth c s₁ [] 0 0 := Stand.of_body Bd
  have e0 : s₁.heap = h0 := by rw [← hh, Bd.state]; rfl
  have N0 := Fr.nil n0
  show own_Go p e below s (Q_law n0) 0 0 s₁ (entryFrame m #[(.int p0), (.int p1), (.int p2)] maxLocals)
  refine own_cast (g' := (mkF m 0 #[.val (.int p0), .val (.int p1), .val (.int p2), .unset, .unset, .unset] [])) (ef_rm_law m p0 p1 p2) ?_
  refine own_step (T' := s₁) (g' := (mkF m 1 #[.val (.int p0), .val (.int p1), .val (.int p2), .unset, .unset, .unset] [(.int p0)])) (fun t k => XS.iloadN X0.here hx rfl (hb hby at_0) rfl k) ?_
  refine own_step (T' := s₁) (g' := (mkF m 3 #[.val (.int p0), .val (.int p1), .val (.int p2), .unset, .unset, .unset] [(.int (2147483647 : Int32)), (.int p0)])) (X0.ldcInt hx hown (mvT hZ (hw _ (List.mem_of_getElem? (i := 0) rfl))) (g := (mkF m 1 #[.val (.int p0), .val (.int p1), .val (.int p2), .unset, .unset, .unset] [(.int p0)])) rfl (hb hby at_1)) ?_
  refine own_step (T' := s₁) (g' := (mkF m 4 #[.val (.int p0), .val (.int p1), .val (.int p2), .unset, .unset, .unset] [(.int (p0 &&& (2147483647 : Int32)))])) (fun t k => XS.iand X0.here hx rfl (hb hby at_3) rfl k) ?_
  generalize hd_num : (p0 &&& (2147483647 : Int32)) = num
  refine own_step (T' := s₁) (g' := (mkF m 5 #[.val (.int p0), .val (.int p1), .val (.int p2), .val (.int num), .unset, .unset] [])) (fun t k => XS.istoreN X0.here hx rfl (hb hby at_4) rfl (l' := #[.val (.int p0), .val (.int p1), .val (.int p2), .val (.int num), .unset, .unset]) rfl k) ?_
  refine own_step (T' := s₁) (g' := (mkF m 6 #[.val (.int p0), .val (.int p1), .val (.int p2), .val (.int num), .unset, .unset] [(.int p2)])) (fun t k => XS.iloadN X0.here hx rfl (hb hby at_5) rfl k) ?_
  refine own_step (T' := s₁) (g' := (mkF m 7 #[.val (.int p0), .val (.int p1), .val (.int p2), .val (.int num), .unset, .unset] [(.int (1 : Int32)), (.int p2)])) (fun t k => XS.iconst X0.here hx rfl (hb hby at_6) k) ?_
  refine own_step (T' := s₁) (g' := (mkF m 8 #[.val (.int p0), .val (.int p1), .val (.int p2), .val (.int num), .unset, .unset] [(.int (p2 &&& (1 : Int32)))])) (fun t k => XS.iand X0.here hx rfl (hb hby at_7) rfl k) ?_
  have hnum : ¬ num < 0 := by rw [← hd_num]; exact own_mask p0
  have j39 : ∀ (bd : Int32), ¬ bd < 1 → own_Go p e below s (Q_law n0) 0 0 s₁ (mkF m 39 #[.val (.int p0), .val (.int p1), .val (.int p2), .val (.int num), .val (.int bd), .unset] []) := by
    intro bd hbd
    refine own_step (T' := s₁) (g' := (mkF m 40 #[.val (.int p0), .val (.int p1), .val (.int p2), .val (.int num), .val (.int bd), .unset] [(.int num)])) (fun t k => XS.iloadN X0.here hx rfl (hb hby at_39) rfl k) ?_
    refine own_step (T' := s₁) (g' := (mkF m 42 #[.val (.int p0), .val (.int p1), .val (.int p2), .val (.int num), .val (.int bd), .unset] [(.int bd), (.int num)])) (fun t k => XS.iload X0.here hx rfl (hb hby at_40) rfl k) ?_
    obtain ⟨_, _, ⟨T2, L2, k2, n2⟩, -, X2, ⟨Lc2, hQ2, l2, y2, z2⟩, st2⟩ := Jvm.LawKit.callS X0 hx (y := (⟨"com/example/cardwright/cardwright/SplitMix64", "remainder", "(II)I"⟩ : MethodName)) hown (mvT hZ (hw _ (List.mem_of_getElem? (i := 1) rfl))) (mvT hZ (hw _ (List.mem_of_getElem? (i := 2) rfl))) (mvT hZ (hw _ (List.mem_of_getElem? (i := 3) rfl))) (mvT hZ (hw _ (List.mem_of_getElem? (i := 4) rfl))) (by decide) (backOf (W := 0) (rm_rm l Z a0 hw [] num bd ar ka h0 n0 Z0 hnum hbd S_r V_r) hZ (hw _ (List.mem_of_getElem? (i := 4) rfl)) (hw _ (List.mem_of_getElem? (i := 3) rfl)) (by decide) (by decide)) (g := (mkF m 42 #[.val (.int p0), .val (.int p1), .val (.int p2), .val (.int num), .val (.int bd), .unset] [(.int bd), (.int num)])) rfl (by rw [hml]; rfl) (argsL := [(.int num), (.int bd)]) (rest := []) (lenOf pd_0 rfl) rfl (by show 2 * 0 + _ ≤ _; exact Nat.le_of_eq rfl) (hb hby at_42) (fun _ _ => ⟨rfl, e0, (by decide : 0 + 0 ≤ _), (by decide : 0 + 0 ≤ _)⟩)
    dsimp only [Pt.U, Pt.locs, Pt.cells, Pt.slots] at X2 l2 y2 z2 st2 hQ2
    subst l2 y2 z2
    obtain ⟨rfl, Nq2, eq1⟩ := hQ2
    have N2 := Fr.app N0 Nq2
    refine own_step (T' := T2) (g' := (mkF m 45 #[.val (.int p0), .val (.int p1), .val (.int p2), .val (.int num), .val (.int bd), .unset] [(.int (num % bd))])) st2 ?_
    refine own_step (T' := T2) (g' := (mkF m 47 #[.val (.int p0), .val (.int p1), .val (.int p2), .val (.int num), .val (.int bd), .val (.int (num % bd))] [])) (fun t k => XS.istore X2.here hx rfl (hb hby at_45) rfl (l' := #[.val (.int p0), .val (.int p1), .val (.int p2), .val (.int num), .val (.int bd), .val (.int (num % bd))]) rfl k) ?_
    refine own_step (T' := T2) (g' := (mkF m 49 #[.val (.int p0), .val (.int p1), .val (.int p2), .val (.int num), .val (.int bd), .val (.int (num % bd))] [(.int (num % bd))])) (fun t k => XS.iload X2.here hx rfl (hb hby at_47) rfl k) ?_
    refine own_step (T' := T2) (g' := (mkF m 50 #[.val (.int p0), .val (.int p1), .val (.int p2), .val (.int num), .val (.int bd), .val (.int (num % bd))] [(.int num), (.int (num % bd))])) (fun t k => XS.iloadN X2.here hx rfl (hb hby at_49) rfl k) ?_
    refine own_step (T' := T2) (g' := (mkF m 52 #[.val (.int p0), .val (.int p1), .val (.int p2), .val (.int num), .val (.int bd), .val (.int (num % bd))] [(.int bd), (.int num), (.int (num % bd))])) (fun t k => XS.iload X2.here hx rfl (hb hby at_50) rfl k) ?_
    refine own_step (T' := T2) (g' := (mkF m 53 #[.val (.int p0), .val (.int p1), .val (.int p2), .val (.int num), .val (.int bd), .val (.int (num % bd))] [(.int (num % bd)), (.int (num % bd))])) (fun t k => iremM (g := (mkF m 52 #[.val (.int p0), .val (.int p1), .val (.int p2), .val (.int num), .val (.int bd), .val (.int (num % bd))] [(.int bd), (.int num), (.int (num % bd))])) X2 hx rfl (hb hby at_52) rfl (own_ne0 hbd) k) ?_
    refine own_step (T' := T2) (g' := (mkF m 56 #[.val (.int p0), .val (.int p1), .val (.int p2), .val (.int num), .val (.int bd), .val (.int (num % bd))] [])) (fun t k => XS.icmpNo X2.here hx rfl (hb hby at_53) rfl (teq rfl).2 k) ?_
    refine own_step (T' := T2) (g' := (mkF m 57 #[.val (.int p0), .val (.int p1), .val (.int p2), .val (.int num), .val (.int bd), .val (.int (num % bd))] [(.int (1 : Int32))])) (fun t k => XS.iconst X2.here hx rfl (hb hby at_56) k) ?_
    refine own_step (T' := T2) (g' := (mkF m 61 #[.val (.int p0), .val (.int p1), .val (.int p2), .val (.int num), .val (.int bd), .val (.int (num % bd))] [(.int (1 : Int32))])) (fun t k => XS.goto X2.here hx rfl (pc0 := 57) (pc' := 61) rfl (hb hby at_57) (by decide) (by decide) k) ?_
    refine own_rN X2 hx hlk Bd.returns (by simp) (hb hby at_61) ?_ (by decide) (by decide)
    rw [eq1]
    exact ⟨rfl, N2⟩
  by_cases c8 : (p2 &&& (1 : Int32)) = (0 : Int32)
  · refine own_step (T' := s₁) (g' := (mkF m 25 #[.val (.int p0), .val (.int p1), .val (.int p2), .val (.int num), .unset, .unset] [])) (fun t k => XS.ifYes X0.here hx rfl (pc0 := 8) (pc' := 25) rfl (hb hby at_8) rfl ((if0 _ _).trans (teq c8).1) (by decide) (by decide) k) ?_
    refine own_step (T' := s₁) (g' := (mkF m 26 #[.val (.int p0), .val (.int p1), .val (.int p2), .val (.int num), .unset, .unset] [(.int p1)])) (fun t k => XS.iloadN X0.here hx rfl (hb hby at_25) rfl k) ?_
    refine own_step (T' := s₁) (g' := (mkF m 28 #[.val (.int p0), .val (.int p1), .val (.int p2), .val (.int num), .unset, .unset] [(.int (2147483647 : Int32)), (.int p1)])) (X0.ldcInt hx hown (mvT hZ (hw _ (List.mem_of_getElem? (i := 0) rfl))) (g := (mkF m 26 #[.val (.int p0), .val (.int p1), .val (.int p2), .val (.int num), .unset, .unset] [(.int p1)])) rfl (hb hby at_26)) ?_
    refine own_step (T' := s₁) (g' := (mkF m 29 #[.val (.int p0), .val (.int p1), .val (.int p2), .val (.int num), .unset, .unset] [(.int (p1 &&& (2147483647 : Int32)))])) (fun t k => XS.iand X0.here hx rfl (hb hby at_28) rfl k) ?_
    refine own_step (T' := s₁) (g' := (mkF m 31 #[.val (.int p0), .val (.int p1), .val (.int p2), .val (.int num), .val (.int (p1 &&& (2147483647 : Int32))), .unset] [])) (fun t k => XS.istore X0.here hx rfl (hb hby at_29) rfl (l' := #[.val (.int p0), .val (.int p1), .val (.int p2), .val (.int num), .val (.int (p1 &&& (2147483647 : Int32))), .unset]) rfl k) ?_
    refine own_step (T' := s₁) (g' := (mkF m 33 #[.val (.int p0), .val (.int p1), .val (.int p2), .val (.int num), .val (.int (p1 &&& (2147483647 : Int32))), .unset] [(.int (p1 &&& (2147483647 : Int32)))])) (fun t k => XS.iload X0.here hx rfl (hb hby at_31) rfl k) ?_
    by_cases c33 : (p1 &&& (2147483647 : Int32)) = (0 : Int32)
    · refine own_step (T' := s₁) (g' := (mkF m 36 #[.val (.int p0), .val (.int p1), .val (.int p2), .val (.int num), .val (.int (p1 &&& (2147483647 : Int32))), .unset] [])) (fun t k => XS.ifNo X0.here hx rfl (hb hby at_33) rfl ((if0 _ _).trans (teq c33).2) k) ?_
      refine own_step (T' := s₁) (g' := (mkF m 37 #[.val (.int p0), .val (.int p1), .val (.int p2), .val (.int num), .val (.int (p1 &&& (2147483647 : Int32))), .unset] [(.int (1 : Int32))])) (fun t k => XS.iconst X0.here hx rfl (hb hby at_36) k) ?_
      refine own_step (T' := s₁) (g' := (mkF m 39 #[.val (.int p0), .val (.int p1), .val (.int p2), .val (.int num), .val (.int (1 : Int32)), .unset] [])) (fun t k => XS.istore X0.here hx rfl (hb hby at_37) rfl (l' := #[.val (.int p0), .val (.int p1), .val (.int p2), .val (.int num), .val (.int (1 : Int32)), .unset]) rfl k) ?_
      exact j39 _ (by decide)
    · refine own_step (T' := s₁) (g' := (mkF m 39 #[.val (.int p0), .val (.int p1), .val (.int p2), .val (.int num), .val (.int (p1 &&& (2147483647 : Int32))), .unset] [])) (fun t k => XS.ifYes X0.here hx rfl (pc0 := 33) (pc' := 39) rfl (hb hby at_33) rfl ((if0 _ _).trans (feq c33).2) (by decide) (by decide) k) ?_
      exact j39 _ (own_b2 (own_mask p1) c33)
  · refine own_step (T' := s₁) (g' := (mkF m 11 #[.val (.int p0), .val (.int p1), .val (.int p2), .val (.int num), .unset, .unset] [])) (fun t k => XS.ifNo X0.here hx rfl (hb hby at_8) rfl ((if0 _ _).trans (feq c8).1) k) ?_
    refine own_step (T' := s₁) (g' := (mkF m 12 #[.val (.int p0), .val (.int p1), .val (.int p2), .val (.int num), .unset, .unset] [(.int (1 : Int32))])) (fun t k => XS.iconst X0.here hx rfl (hb hby at_11) k) ?_
    refine own_step (T' := s₁) (g' := (mkF m 13 #[.val (.int p0), .val (.int p1), .val (.int p2), .val (.int num), .unset, .unset] [(.int p1), (.int (1 : Int32))])) (fun t k => XS.iloadN X0.here hx rfl (hb hby at_12) rfl k) ?_
    refine own_step (T' := s₁) (g' := (mkF m 15 #[.val (.int p0), .val (.int p1), .val (.int p2), .val (.int num), .unset, .unset] [(.int (2147483647 : Int32)), (.int p1), (.int (1 : Int32))])) (X0.ldcInt hx hown (mvT hZ (hw _ (List.mem_of_getElem? (i := 0) rfl))) (g := (mkF m 13 #[.val (.int p0), .val (.int p1), .val (.int p2), .val (.int num), .unset, .unset] [(.int p1), (.int (1 : Int32))])) rfl (hb hby at_13)) ?_
    refine own_step (T' := s₁) (g' := (mkF m 16 #[.val (.int p0), .val (.int p1), .val (.int p2), .val (.int num), .unset, .unset] [(.int (p1 &&& (2147483647 : Int32))), (.int (1 : Int32))])) (fun t k => XS.iand X0.here hx rfl (hb hby at_15) rfl k) ?_
    refine own_step (T' := s₁) (g' := (mkF m 18 #[.val (.int p0), .val (.int p1), .val (.int p2), .val (.int num), .unset, .unset] [(.int (64 : Int32)), (.int (p1 &&& (2147483647 : Int32))), (.int (1 : Int32))])) (fun t k => XS.bipush X0.here hx rfl (hb hby at_16) k) ?_
    refine own_step (T' := s₁) (g' := (mkF m 19 #[.val (.int p0), .val (.int p1), .val (.int p2), .val (.int num), .unset, .unset] [(.int ((p1 &&& (2147483647 : Int32)) % (64 : Int32))), (.int (1 : Int32))])) (fun t k => iremM (g := (mkF m 18 #[.val (.int p0), .val (.int p1), .val (.int p2), .val (.int num), .unset, .unset] [(.int (64 : Int32)), (.int (p1 &&& (2147483647 : Int32))), (.int (1 : Int32))])) X0 hx rfl (hb hby at_18) rfl (by decide) k) ?_
    refine own_step (T' := s₁) (g' := (mkF m 20 #[.val (.int p0), .val (.int p1), .val (.int p2), .val (.int num), .unset, .unset] [(.int ((1 : Int32) + ((p1 &&& (2147483647 : Int32)) % (64 : Int32))))])) (fun t k => XS.iadd X0.here hx rfl (hb hby at_19) rfl k) ?_
    refine own_step (T' := s₁) (g' := (mkF m 22 #[.val (.int p0), .val (.int p1), .val (.int p2), .val (.int num), .val (.int ((1 : Int32) + ((p1 &&& (2147483647 : Int32)) % (64 : Int32)))), .unset] [])) (fun t k => XS.istore X0.here hx rfl (hb hby at_20) rfl (l' := #[.val (.int p0), .val (.int p1), .val (.int p2), .val (.int num), .val (.int ((1 : Int32) + ((p1 &&& (2147483647 : Int32)) % (64 : Int32)))), .unset]) rfl k) ?_
    refine own_step (T' := s₁) (g' := (mkF m 39 #[.val (.int p0), .val (.int p1), .val (.int p2), .val (.int num), .val (.int ((1 : Int32) + ((p1 &&& (2147483647 : Int32)) % (64 : Int32)))), .unset] [])) (fun t k => XS.goto X0.here hx rfl (pc0 := 22) (pc' := 39) rfl (hb hby at_22) (by decide) (by decide) k) ?_
    exact j39 _ (own_b1 p1)
set_option maxRecDepth 65536 in
set_option maxHeartbeats 40000000 in
theorem comes_1 {Post : Tables → Env → Array Value → State → Outcome → State → Prop} (hpost : ∀ tb e args s v u, (limb_1_1.after args s (.returned v) u = true ∧ limb_1_2.after args s (.returned v) u = true ∧ True) → FrameEnd s (.returned v) u (Jvm.fieldLocs frame_1_writes args s ++ Jvm.arrayLocs frame_1_arrays args s ++ Jvm.staticLocs frame_1_statics s) 0 0 → Post tb e args s (.returned v) u) :
    ArmFor flags0 classFile x code maxLocals ret World_1 tables_1 room_1 Calls_1 rest_1 Pre_1 Post := by
  intro l hfl _ _ p e ha hc hk s m args below hf hA hF happ hP
  obtain ⟨hcalls, hrest, hpre⟩ := hP
  obtain ⟨-, -, -, hnamed, -, -, -, hat⟩ := (Spec.applies_iff hf).mp happ
  obtain ⟨hg, hn⟩ := and_e (Cond.before_iff.mp (show (Jvm.Cond.and given_1 narrow_1).before args s = true from hpre))
  obtain ⟨hc0, hg0⟩ := and_e hg
  obtain ⟨hc1, hg1⟩ := and_e hg0
  obtain ⟨hc2, hg2⟩ := and_e hg1
  obtain ⟨w0, w1, w2, rfl⟩ : ∃ w0 w1 w2 : Value, args = #[w0, w1, w2] := by
    have hs : args.size = 3 := by simpa [Cond.value, given_1] using hc0
    obtain ⟨L⟩ := args
    match L, hs with
    | [w0, w1, w2], _ => exact ⟨w0, w1, w2, rfl⟩
  have hw := fun d (hd : d ∈ tables_1) => atoms_spec (ws := Jvm.Cond.code x code maxLocals ret :: tables_1) hat d (List.mem_cons_of_mem _ hd)
  have hfit : Fit s := fun {y c} hc i hi => by
    obtain ⟨ha, rfl⟩ := Array.getElem?_eq_some_iff.mp hc
    have q := List.all_eq_true.mp ((Array.all_eq_true_iff_forall_mem.mp hF) _ (Array.getElem_mem ha)) i (List.mem_range.mpr hi)
    simpa [Array.getElem?_eq_getElem hi] using q
  obtain ⟨i0, ev0⟩ := is_v hc1
  obtain rfl : w0 = (.int i0) := Option.some.inj ev0
  obtain ⟨i1, ev1⟩ := is_v hc2
  obtain rfl : w1 = (.int i1) := Option.some.inj ev1
  obtain ⟨i2, ev2⟩ := is_v hg2
  obtain rfl : w2 = (.int i2) := Option.some.inj ev2
  obtain ⟨na0, nr0⟩ := and_e hn
  obtain ⟨na1, nr1⟩ := and_e nr0
  obtain ⟨ne0, nr2⟩ := and_e nr1
  obtain ⟨ne1, nr3⟩ := and_e nr2
  obtain ⟨ne2, nr4⟩ := and_e nr3
  obtain ⟨ne3, nr5⟩ := and_e nr4
  obtain ⟨ne4, nr6⟩ := and_e nr5
  obtain ⟨ne5, nr7⟩ := and_e nr6
  obtain ⟨ne6, nr8⟩ := and_e nr7
  obtain ⟨ne7, nr9⟩ := and_e nr8
  obtain ⟨ne8, nr10⟩ := and_e nr9
  obtain ⟨ne9, nr11⟩ := and_e nr10
  obtain ⟨ne10, nr12⟩ := and_e nr11
  obtain ⟨ne11, nr13⟩ := and_e nr12
  obtain ⟨ne12, nr14⟩ := and_e nr13
  obtain ⟨ne13, nr15⟩ := and_e nr14
  obtain ⟨ne14, nr16⟩ := and_e nr15
  obtain ⟨ne15, nr17⟩ := and_e nr16
  obtain ⟨ne16, nr18⟩ := and_e nr17
  obtain ⟨ne17, nr19⟩ := and_e nr18
  obtain ⟨ne18, nr20⟩ := and_e nr19
  obtain ⟨ne19, nr21⟩ := and_e nr20
  obtain ⟨ne20, nr22⟩ := and_e nr21
  obtain ⟨ne21, nr23⟩ := and_e nr22
  obtain ⟨ne22, nr24⟩ := and_e nr23
  obtain ⟨ne23, nr25⟩ := and_e nr24
  obtain ⟨ne24, nr26⟩ := and_e nr25
  obtain ⟨ne25, nr27⟩ := and_e nr26
  obtain ⟨ne26, nr28⟩ := and_e nr27
  obtain ⟨ne27, nr29⟩ := and_e nr28
  obtain ⟨ne28, nr30⟩ := and_e nr29
  obtain ⟨ne29, nr31⟩ := and_e nr30
  obtain ⟨ne30, nr32⟩ := and_e nr31
  obtain ⟨ne31, nr33⟩ := and_e nr32
  obtain ⟨ne32, nr34⟩ := and_e nr33
  obtain ⟨ne33, nr35⟩ := and_e nr34
  obtain ⟨ne34, nr36⟩ := and_e nr35
  obtain ⟨ne35, nr37⟩ := and_e nr36
  obtain ⟨ne36, nr38⟩ := and_e nr37
  obtain ⟨ne37, nr39⟩ := and_e nr38
  obtain ⟨ne38, nr40⟩ := and_e nr39
  obtain ⟨ne39, nr41⟩ := and_e nr40
  obtain ⟨ne40, nr42⟩ := and_e nr41
  obtain ⟨ne41, nr43⟩ := and_e nr42
  obtain ⟨ne42, nr44⟩ := and_e nr43
  obtain ⟨ne43, nr45⟩ := and_e nr44
  obtain ⟨ne44, nr46⟩ := and_e nr45
  obtain ⟨ne45, nr47⟩ := and_e nr46
  obtain ⟨ne46, nr48⟩ := and_e nr47
  obtain ⟨ne47, nr49⟩ := and_e nr48
  obtain ⟨ne48, nr50⟩ := and_e nr49
  obtain ⟨ne49, nr51⟩ := and_e nr50
  obtain ⟨ne50, nr52⟩ := and_e nr51
  obtain ⟨ne51, nr53⟩ := and_e nr52
  obtain ⟨ne52, nr54⟩ := and_e nr53
  obtain ⟨ne53, nr55⟩ := and_e nr54
  obtain ⟨ne54, nr56⟩ := and_e nr55
  obtain ⟨ne55, nr57⟩ := and_e nr56
  obtain ⟨ne56, nr58⟩ := and_e nr57
  obtain ⟨ne57, nr59⟩ := and_e nr58
  obtain ⟨ne58, nr60⟩ := and_e nr59
  obtain ⟨ne59, nr61⟩ := and_e nr60
  obtain ⟨ne60, nr62⟩ := and_e nr61
  obtain ⟨ne61, nr63⟩ := and_e nr62
  obtain ⟨ne62, nr64⟩ := and_e nr63
  obtain ⟨ne63, nr65⟩ := and_e nr64
  have ne64 := nr65
  obtain ⟨ar, evA⟩ := arr_v na0
  have S0 : Sta s s.heap "com/example/cardwright/cardwright/SplitMix64" "RECIPROCALS" "[J" (.ref ar) := Sta.start evA (Or.inr ⟨(hw _ (List.mem_of_getElem? (i := 3) rfl)), (hw _ (List.mem_of_getElem? (i := 6) rfl))⟩)
  obtain ⟨ca, Aa⟩ := Arr.start evA na0
  have ln := own_eqI na1
  obtain ⟨lx, ly, l1, l2, l3, l4⟩ := Jvm.Free.SB.Term.length_small ln
  obtain rfl : lx = ar := Value.ref.inj (Option.some.inj (l1.symm.trans evA))
  obtain rfl : ly = ca := Option.some.inj (l2.symm.trans (Arr.fin (Vm.Alike.refl _) Aa))
  have hL : HasL ly 0 own_vs := ⟨(elem_in (own_eqL ne0) evA rfl Aa.1).2, (elem_in (own_eqL ne1) evA rfl Aa.1).2, (elem_in (own_eqL ne2) evA rfl Aa.1).2, (elem_in (own_eqL ne3) evA rfl Aa.1).2, (elem_in (own_eqL ne4) evA rfl Aa.1).2, (elem_in (own_eqL ne5) evA rfl Aa.1).2, (elem_in (own_eqL ne6) evA rfl Aa.1).2, (elem_in (own_eqL ne7) evA rfl Aa.1).2, (elem_in (own_eqL ne8) evA rfl Aa.1).2, (elem_in (own_eqL ne9) evA rfl Aa.1).2, (elem_in (own_eqL ne10) evA rfl Aa.1).2, (elem_in (own_eqL ne11) evA rfl Aa.1).2, (elem_in (own_eqL ne12) evA rfl Aa.1).2, (elem_in (own_eqL ne13) evA rfl Aa.1).2, (elem_in (own_eqL ne14) evA rfl Aa.1).2, (elem_in (own_eqL ne15) evA rfl Aa.1).2, (elem_in (own_eqL ne16) evA rfl Aa.1).2, (elem_in (own_eqL ne17) evA rfl Aa.1).2, (elem_in (own_eqL ne18) evA rfl Aa.1).2, (elem_in (own_eqL ne19) evA rfl Aa.1).2, (elem_in (own_eqL ne20) evA rfl Aa.1).2, (elem_in (own_eqL ne21) evA rfl Aa.1).2, (elem_in (own_eqL ne22) evA rfl Aa.1).2, (elem_in (own_eqL ne23) evA rfl Aa.1).2, (elem_in (own_eqL ne24) evA rfl Aa.1).2, (elem_in (own_eqL ne25) evA rfl Aa.1).2, (elem_in (own_eqL ne26) evA rfl Aa.1).2, (elem_in (own_eqL ne27) evA rfl Aa.1).2, (elem_in (own_eqL ne28) evA rfl Aa.1).2, (elem_in (own_eqL ne29) evA rfl Aa.1).2, (elem_in (own_eqL ne30) evA rfl Aa.1).2, (elem_in (own_eqL ne31) evA rfl Aa.1).2, (elem_in (own_eqL ne32) evA rfl Aa.1).2, (elem_in (own_eqL ne33) evA rfl Aa.1).2, (elem_in (own_eqL ne34) evA rfl Aa.1).2, (elem_in (own_eqL ne35) evA rfl Aa.1).2, (elem_in (own_eqL ne36) evA rfl Aa.1).2, (elem_in (own_eqL ne37) evA rfl Aa.1).2, (elem_in (own_eqL ne38) evA rfl Aa.1).2, (elem_in (own_eqL ne39) evA rfl Aa.1).2, (elem_in (own_eqL ne40) evA rfl Aa.1).2, (elem_in (own_eqL ne41) evA rfl Aa.1).2, (elem_in (own_eqL ne42) evA rfl Aa.1).2, (elem_in (own_eqL ne43) evA rfl Aa.1).2, (elem_in (own_eqL ne44) evA rfl Aa.1).2, (elem_in (own_eqL ne45) evA rfl Aa.1).2, (elem_in (own_eqL ne46) evA rfl Aa.1).2, (elem_in (own_eqL ne47) evA rfl Aa.1).2, (elem_in (own_eqL ne48) evA rfl Aa.1).2, (elem_in (own_eqL ne49) evA rfl Aa.1).2, (elem_in (own_eqL ne50) evA rfl Aa.1).2, (elem_in (own_eqL ne51) evA rfl Aa.1).2, (elem_in (own_eqL ne52) evA rfl Aa.1).2, (elem_in (own_eqL ne53) evA rfl Aa.1).2, (elem_in (own_eqL ne54) evA rfl Aa.1).2, (elem_in (own_eqL ne55) evA rfl Aa.1).2, (elem_in (own_eqL ne56) evA rfl Aa.1).2, (elem_in (own_eqL ne57) evA rfl Aa.1).2, (elem_in (own_eqL ne58) evA rfl Aa.1).2, (elem_in (own_eqL ne59) evA rfl Aa.1).2, (elem_in (own_eqL ne60) evA rfl Aa.1).2, (elem_in (own_eqL ne61) evA rfl Aa.1).2, (elem_in (own_eqL ne62) evA rfl Aa.1).2, (elem_in (own_eqL ne63) evA rfl Aa.1).2, (elem_in (own_eqL ne64) evA rfl Aa.1).2, trivial⟩
  have V0 : Arv s s.heap lx ly.cls .long (65 : Int32) own_vs (.long (0 : Int64)) := Arv.start hfit Aa l4 (Value.int.inj l3).symm (by decide) rfl hL
  obtain ⟨n, o, h1, h2, h3, _, L, rfl, ⟨rfl, N⟩, hq⟩ := rm_law l s _ hw tables_1 i0 i1 i2 lx ly.cls s.heap s.heap.size (Nat.le_refl _) S0 V0 p e ha hc hk s m _ below hf ((Spec.applies_iff_loose hf).mp happ).1 ⟨rfl, State.Warmed39.refl s, rfl⟩ trivial
  refine ⟨n, _, h1, h2, h3, hpost _ _ _ _ _ _ ⟨Cond.after_iff.mpr rfl, Cond.after_iff.mpr (eq_i res_at (Term.int_eval (1)) rfl), trivial⟩ ⟨hq.1, hq.2.1, (hq.2.2.sift fun y hy => Or.inr (N y hy)).mono (by decide) (by decide)⟩⟩
theorem main_1_1 : Claimed_1_1 := comes_1 fun _ _ _ _ _ _ h hF => ⟨h.1, hF⟩
theorem main_1_2 : Claimed_1_2 := comes_1 fun _ _ _ _ _ _ h hF => ⟨h.2.1, hF⟩

end Jvm.Pilot.@@N@@
namespace Jvm.Pilot.@@N@@
open Jvm Jvm.ClassFile Sem Op Lib Jvm.Free Jvm.Stand Jvm.Pilot.@@N@@.Jvm.D
/-! MADE BY PROGRAM (witnessworld.py) out of the Statement's table words and the real class files: 12 classes; the members and pool entries that the words name. The judged class is class 1, her method 1. -/
namespace start1
open Jvm.ClassFile
def u (s : String) : CpInfo := .utf8 (stringToUtf16 s)
/-- a pool by its gaps: so many unusable entries, then the entry; so many at the end -/
def gap : Nat → List CpInfo → List CpInfo
  | 0, r => r
  | n + 1, r => .unusable :: gap n r
def poolList (es : List (Nat × CpInfo)) (last : Nat) : List CpInfo := es.foldr (fun e r => gap e.1 (e.2 :: r)) (gap last [])
def pool (es : List (Nat × CpInfo)) (last : Nat) : Array CpInfo := ⟨poolList es last⟩
def fileOf (pool : Array CpInfo) (this : Nat) (attrs : Array Attribute := #[]) (ms : Array MethodInfo := #[]) (fl : Nat := 33) (sup : Nat := 0) (ifs : Array Nat := #[]) (fds : Array FieldInfo := #[]) : ClassFile where
  minorVersion := 0
  majorVersion := 65
  constantPool := pool
  accessFlags := fl
  thisClass := this
  superClass := sup
  interfaces := ifs
  fields := fds
  methods := ms
  attributes := attrs
def plain (name : String) (sup : Option ClassId) : Class where
  name := name
  kind := .ordinary
  loader := none
  accessFlags := 33
  super := sup
  interfaces := #[]
  cf := none
  fields := #[]
  methods := #[]
  instanceTypes := #[]
  staticTypes := #[]
  resolved := #[]
  callSites := []
  init := .initialized
  statics := none
  mirror := none

def pool0 : Array CpInfo := pool [(5, u "<init>"), (0, u "()V"), (1, .class_ 10), (1, u "java/lang/Object")] 113

def k0m0 : Method := { name := "<init>", desc := "()V", sig := { parameters := [], returnType := none }, accessFlags := 1, code := none }
/-- java/lang/Object -/
def k0 : Class := { plain "java/lang/Object" none with
  accessFlags := 33
  interfaces := #[]
  cf := some (fileOf pool0 8 #[] #[{ accessFlags := 1, nameIndex := 5, descriptorIndex := 6, attributes := #[] }] 33 0 #[] #[])
  fields := #[]
  methods := #[k0m0]
  instanceTypes := #[]
  staticTypes := #[]
  resolved := Array.replicate 124 none
  statics := none }

def pool1 : Array CpInfo := pool [(2, .class_ 4), (1, u "java/lang/Object"), (0, u "<init>"), (0, u "()V"), (0, .integer 2147483647), (0, .methodref 9 10), (0, .class_ 11), (0, .nameAndType 12 13), (0, u "com/example/cardwright/cardwright/SplitMix64"), (0, u "remainder"), (0, u "(II)I"), (0, .class_ 15), (0, u "com/example/cardwright/cardwright/SplitMix64RemainderPinLaw"), (2, u "law"), (0, u "(III)Z")] 3

def k1m0 : Method := { name := "<init>", desc := "()V", sig := { parameters := [], returnType := none }, accessFlags := 1, code := none }
def k1c1 : Code := { maxStack := 3, maxLocals := 6, code := code, exceptionTable := #[], attributes := #[] }
def k1m1 : Method := { name := "law", desc := "(III)Z", sig := { parameters := [.int, .int, .int], returnType := some .boolean }, accessFlags := 9, code := some k1c1 }
/-- com/example/cardwright/cardwright/SplitMix64RemainderPinLaw -/
def k1 : Class := { plain "com/example/cardwright/cardwright/SplitMix64RemainderPinLaw" (some 0) with
  accessFlags := 49
  interfaces := #[]
  cf := some (fileOf pool1 14 #[] #[{ accessFlags := 1, nameIndex := 5, descriptorIndex := 6, attributes := #[] }, { accessFlags := 9, nameIndex := 18, descriptorIndex := 19, attributes := #[] }] 49 2 #[] #[])
  fields := #[]
  methods := #[k1m0, k1m1]
  instanceTypes := #[]
  staticTypes := #[]
  resolved := Array.replicate 23 none
  statics := none }

def pool2 : Array CpInfo := pool [(7, .class_ 8), (0, u "java/util/random/RandomGenerator"), (199, .class_ 209), (0, u "java/lang/Object"), (52, .class_ 263), (0, u "java/util/random/RandomGenerator$ArbitrarilyJumpableGenerator"), (0, .class_ 265), (0, u "java/util/random/RandomGenerator$LeapableGenerator"), (0, .class_ 267), (0, u "java/util/random/RandomGenerator$JumpableGenerator"), (0, .class_ 269), (0, u "java/util/random/RandomGenerator$SplittableGenerator"), (0, .class_ 271), (0, u "java/util/random/RandomGenerator$StreamableGenerator")] 36

/-- java/util/random/RandomGenerator -/
def k2 : Class := { plain "java/util/random/RandomGenerator" (some 0) with
  accessFlags := 1537
  interfaces := #[]
  cf := some (fileOf pool2 7 #[.nestMembers #[262, 264, 266, 268, 270]] #[] 1537 208 #[] #[])
  fields := #[]
  methods := #[]
  instanceTypes := #[]
  staticTypes := #[]
  resolved := Array.replicate 308 none
  statics := none }

def pool3 : Array CpInfo := pool [(1, .class_ 2), (0, u "com/example/cardwright/cardwright/SplitMix64"), (1, .class_ 6), (1, u "java/lang/Object"), (4, u "state"), (0, u "J"), (35, u "(II)I"), (6, u "remainder"), (3, .fieldref 1 60), (0, .nameAndType 61 62), (0, u "RECIPROCALS"), (0, u "[J"), (0, .long 137438953471), (11, .class_ 76), (0, u "java/util/random/RandomGenerator"), (0, u "GAMMA"), (1, u "FRACTION_BITS"), (0, u "I"), (1, u "FRACTION"), (0, u "MULTIPLIED_BOUNDS")] 12

def k3c0 : Code := { maxStack := 4, maxLocals := 2, code := prog_41_method_10_code, exceptionTable := #[], attributes := #[] }
def k3m0 : Method := { name := "remainder", desc := "(II)I", sig := { parameters := [.int, .int], returnType := some .int }, accessFlags := 8, code := some k3c0 }
/-- com/example/cardwright/cardwright/SplitMix64 -/
def k3 : Class := { plain "com/example/cardwright/cardwright/SplitMix64" (some 0) with
  accessFlags := 48
  interfaces := #[2]
  cf := some (fileOf pool3 1 #[] #[{ accessFlags := 8, nameIndex := 55, descriptorIndex := 48, attributes := #[] }] 48 4 #[75] #[{ accessFlags := 26, nameIndex := 77, descriptorIndex := 12, attributes := #[] }, { accessFlags := 26, nameIndex := 79, descriptorIndex := 80, attributes := #[] }, { accessFlags := 26, nameIndex := 82, descriptorIndex := 12, attributes := #[] }, { accessFlags := 24, nameIndex := 83, descriptorIndex := 80, attributes := #[] }, { accessFlags := 26, nameIndex := 61, descriptorIndex := 62, attributes := #[] }, { accessFlags := 2, nameIndex := 11, descriptorIndex := 12, attributes := #[] }])
  fields := #[{ name := "GAMMA", type := .long, accessFlags := 26, slot := 0, constantValue := 0 }, { name := "FRACTION_BITS", type := .int, accessFlags := 26, slot := 1, constantValue := 0 }, { name := "FRACTION", type := .long, accessFlags := 26, slot := 2, constantValue := 0 }, { name := "MULTIPLIED_BOUNDS", type := .int, accessFlags := 24, slot := 3, constantValue := 0 }, { name := "RECIPROCALS", type := (.array .long), accessFlags := 26, slot := 4, constantValue := 0 }, { name := "state", type := .long, accessFlags := 2, slot := 0, constantValue := 0 }]
  methods := #[k3m0]
  instanceTypes := #[.long]
  staticTypes := #[.long, .int, .long, .int, (.array .long)]
  resolved := Array.replicate 96 none
  statics := some 0 }

def pool4 : Array CpInfo := pool [(1, u "java/lang/Cloneable"), (0, .class_ 1), (0, u "java/lang/Object"), (0, .class_ 3)] 3

/-- java/lang/Cloneable -/
def k4 : Class := { plain "java/lang/Cloneable" (some 0) with
  accessFlags := 1537
  interfaces := #[]
  cf := some (fileOf pool4 2 #[] #[] 1537 4 #[] #[])
  fields := #[]
  methods := #[]
  instanceTypes := #[]
  staticTypes := #[]
  resolved := Array.replicate 8 none
  statics := none }

def pool5 : Array CpInfo := pool [(1, u "java/io/Serializable"), (0, .class_ 1), (0, u "java/lang/Object"), (0, .class_ 3)] 3

/-- java/io/Serializable -/
def k5 : Class := { plain "java/io/Serializable" (some 0) with
  accessFlags := 1537
  interfaces := #[]
  cf := some (fileOf pool5 2 #[] #[] 1537 4 #[] #[])
  fields := #[]
  methods := #[]
  instanceTypes := #[]
  staticTypes := #[]
  resolved := Array.replicate 8 none
  statics := none }

/-- the primitive byte -/
def k6 : Class := { plain "byte" none with kind := .primitive 'B', accessFlags := 0x411 }
/-- [B -/
def k7 : Class := { plain "[B" (some 0) with kind := .array 6 .byte, interfaces := #[4, 5], accessFlags := 1041 }

/-- the primitive int -/
def k8 : Class := { plain "int" none with kind := .primitive 'I', accessFlags := 0x411 }
/-- [I -/
def k9 : Class := { plain "[I" (some 0) with kind := .array 8 .int, interfaces := #[4, 5], accessFlags := 1041 }

/-- the primitive long -/
def k10 : Class := { plain "long" none with kind := .primitive 'J', accessFlags := 0x411 }
/-- [J -/
def k11 : Class := { plain "[J" (some 0) with kind := .array 10 .long, interfaces := #[4, 5], accessFlags := 1041 }

def heap : Heap := #[{ cls := 3, slots := #[.long 0, .int 0, .long 0, .int 0, .ref 1], vm := .statics 3 },
  { cls := 11, slots := #[.long 0, .long 137438953472, .long 68719476736, .long 45812984491, .long 34359738368, .long 27487790695, .long 22906492246, .long 19634136211, .long 17179869184, .long 15270994831, .long 13743895348, .long 12494450316, .long 11453246123, .long 10572227191, .long 9817068106, .long 9162596899, .long 8589934592, .long 8084644322, .long 7635497416, .long 7233629131, .long 6871947674, .long 6544712071, .long 6247225158, .long 5975606673, .long 5726623062, .long 5497558139, .long 5286113596, .long 5090331611, .long 4908534053, .long 4739274258, .long 4581298450, .long 4433514629, .long 4294967296, .long 4164816772, .long 4042322161, .long 3926827243, .long 3817748708, .long 3714566311, .long 3616814566, .long 3524075731, .long 3435973837, .long 3352169597, .long 3272356036, .long 3196254732, .long 3123612579, .long 3054198967, .long 2987803337, .long 2924233053, .long 2863311531, .long 2804876602, .long 2748779070, .long 2694881441, .long 2643056798, .long 2593187802, .long 2545165806, .long 2498890064, .long 2454267027, .long 2411209711, .long 2369637129, .long 2329473788, .long 2290649225, .long 2253097598, .long 2216757315, .long 2181570691, .long 2147483648], vm := .none }]
def classes : Array Class := #[k0, k1, k2, k3, k4, k5, k6, k7, k8, k9, k10, k11]
def interned : List (Array UInt16 × Addr) := []
def slotsUsed : Nat := 70
def theMethod : MethodId := ⟨1, 1⟩
def args0 : Array Value := #[.int 5, .int 3, .int 2]
def aboutOver (below : List Frame) : State where
  vm := { classes := classes, interned := interned.toArray }
  heap := heap
  slotsUsed := slotsUsed
  threads := #[{ frames := .invoking theMethod args0 :: below }]
def below0 : List Frame := [.native { method := ⟨0, 0⟩, args := #[] }]
def about1 : State := aboutOver below0
def p0 : Program := .bare "" "" ""
def e0 : Env := launch0.env 0 0 0
theorem w_frames : about1.frames = Frame.invoking theMethod args0 :: below0 := rfl
set_option maxRecDepth 65536 in
theorem w_args : argsFit about1.vm theMethod args0 = true := by decide +kernel
set_option maxRecDepth 65536 in
theorem w_heap : heapFits about1 = true := by decide +kernel
set_option maxRecDepth 65536 in
theorem w_runnable : about1.curStatus? = some .runnable := by decide +kernel
set_option maxRecDepth 65536 in
theorem w_alone : about1.alone = true := by decide +kernel
set_option maxRecDepth 65536 in
theorem w_named : about1.methodNamed? x = some theMethod := by decide +kernel
set_option maxRecDepth 65536 in
theorem w_hears : about1.hears theMethod below0 = true := by decide +kernel
set_option maxRecDepth 65536 in
theorem w_ripe : about1.ripe theMethod args0 below0 = true := by decide +kernel
theorem w_running : about1.status = .running := rfl
set_option maxRecDepth 65536 in
theorem w_room : about1.hasRoom e0.platform room_1 = true :=
  launch0.hasRoom_least _ room_1 (by decide +kernel) (by decide +kernel) (by decide +kernel) (by decide +kernel) (by decide +kernel) (by decide +kernel)
theorem allAtoms_all (ts : List Jvm.Cond) (a : Array Jvm.Value) (st : Jvm.State) : (allAtoms ts).before a st = ts.all (fun c => c.before a st) := by
  induction ts with
  | nil => rfl
  | cons c t ih =>
    show (Jvm.Cond.and c (allAtoms t)).before a st = _
    rw [Jvm.Cond.before_and, ih, List.all_cons]
def words1 : List Jvm.Cond := Jvm.Cond.code x code maxLocals ret :: tables_1
/-- a 'code' word, met by the world's own term for the bytes: nothing is compared byte by byte -/
theorem code_word {y : MethodName} {bytes : ByteArray} {mx : Nat} {rt : Option FieldType} {a : Array Value} {s : State} {m : MethodId} {meth : Method} {c : Code} (h1 : s.methodNamed? y = some m) (h2 : s.vm.method? m = some meth) (h3 : meth.code = some c) (h4 : c.code = bytes)
    (h5 : (c.maxLocals == mx && c.exceptionTable.isEmpty && decide (c.maxStack ≤ mostOperands) && decide (meth.sig.returnType = rt) && !meth.locks && decide (parseMethodDescriptor y.desc = some meth.sig)) = true) : (Jvm.Cond.code y bytes mx rt).before a s = true := by
  simp only [Bool.and_eq_true, beq_iff_eq, Bool.not_eq_true', decide_eq_true_eq] at h5
  obtain ⟨⟨⟨⟨⟨g1, g2⟩, g3⟩, g4⟩, g5⟩, g6⟩ := h5
  simp [Cond.before, Cond.holds, Cond.value, h1, h2, h3, h4, g1, g2, g3, g4, g5, g6]
def isCode : Jvm.Cond → Bool
  | .code _ _ _ _ => true
  | _ => false
theorem all_split {L : List Jvm.Cond} {P : Jvm.Cond → Bool} (h1 : L.all (fun c => isCode c || P c) = true) (h2 : ∀ c ∈ L.filter isCode, P c = true) : L.all P = true := by
  refine List.all_eq_true.mpr fun c hc => ?_
  have h := List.all_eq_true.mp h1 c hc
  rcases Bool.eq_false_or_eq_true (isCode c) with hi | hi
  · exact h2 c (List.mem_filter.mpr ⟨hc, hi⟩)
  · simpa [hi] using h
set_option maxRecDepth 65536 in
theorem w_c0 : (Jvm.Cond.code x code maxLocals ret).before args0 about1 = true := code_word (m := ⟨1, 1⟩) (meth := k1m1) (c := k1c1) (by decide +kernel) rfl rfl rfl (by decide +kernel)
set_option maxRecDepth 65536 in
theorem w_c1 : (Jvm.Cond.code ({ cls := "com/example/cardwright/cardwright/SplitMix64", name := "remainder", desc := "(II)I" } : Jvm.MethodName) prog_41_method_10_code (2 : Nat) (Option.some Jvm.ClassFile.FieldType.int)).before args0 about1 = true := code_word (m := ⟨3, 0⟩) (meth := k3m0) (c := k3c0) (by decide +kernel) rfl rfl rfl (by decide +kernel)
def codes1 : List Jvm.Cond := [Jvm.Cond.code x code maxLocals ret, Jvm.Cond.code ({ cls := "com/example/cardwright/cardwright/SplitMix64", name := "remainder", desc := "(II)I" } : Jvm.MethodName) prog_41_method_10_code (2 : Nat) (Option.some Jvm.ClassFile.FieldType.int)]
set_option maxRecDepth 65536 in
theorem codes_eq : words1.filter isCode = codes1 := rfl
theorem w_codes : ∀ c ∈ words1.filter isCode, c.before args0 about1 = true := by
  rw [codes_eq]
  intro c hc
  simp only [codes1, List.mem_cons, List.not_mem_nil, or_false] at hc
  rcases hc with rfl | rfl
  · exact w_c0
  · exact w_c1
set_option maxRecDepth 65536 in
theorem w_t1 : words1.all (fun c => isCode c || c.before args0 about1) = true := by decide +kernel
theorem w_tables : (allAtoms (Jvm.Cond.code x code maxLocals ret :: tables_1)).before args0 about1 = true := by
  rw [allAtoms_all]
  show words1.all (fun c => c.before args0 about1) = true
  refine all_split ?_ w_codes
  rw [w_t1]
set_option maxRecDepth 65536 in
theorem w_case : (Jvm.Cond.and given_1 narrow_1).before args0 about1 = true := by decide +kernel
theorem w_applies : (headSpec (Jvm.Cond.code x code maxLocals ret :: tables_1) room_1).applies x e0.platform about1 = true :=
  (Spec.applies_iff w_frames).mpr ⟨w_running, w_runnable, w_alone, w_named, w_hears, w_ripe, w_room, w_tables⟩
theorem atStart : AtStart classFile x code maxLocals ret World_1 tables_1 room_1 Calls_1 rest_1 Pre_1 launch0 p0 e0 about1 theMethod args0 below0 :=
  ⟨lists_1, trivial, launch0.admits_env _ _ _, launch0.least_env, fairChoices_fair.cas, fairChoices_fair.clock, w_frames, w_args, w_heap, w_applies, trivial, trivial, w_case⟩
end start1
theorem witness_1 : WitnessClaimed_1 := ⟨start1.p0, start1.e0, start1.about1, start1.theMethod, start1.args0, start1.below0, start1.atStart⟩
end Jvm.Pilot.@@N@@
