import JvmDerived
import JvmDerived.Pilot.@@N@@Statement
import JvmDerived.Pilot.@@N@@Code
set_option linter.unusedVariables false
set_option linter.unusedSimpArgs false

namespace Jvm.Pilot.@@N@@
open Jvm Jvm.ClassFile Sem Op Lib Jvm.Free Jvm.Stand Jvm.LawKit Jvm.RoadKit Bundle Jvm.Pilot.@@N@@.Jvm.D

section OwnKit
variable {p : Program} {l : Launch} {e : Env} {R : Room} {s : State} {m : MethodId} {args : Array Value} {below : List Frame} {meth : Method} {c : Code} {T : State} {locs : List Loc} {cells slots : Nat}
def own_Go (p : Program) (e : Env) (below : List Frame) (s : State) (Q : Option Value → Heap → List Loc → Prop) (rc rs : Nat) (T : State) (g : JFrame) : Prop :=
  ∃ s₂ o, Steps p.tables e below (T.setTop g) s₂ ∧ s₂.status = .running ∧ Ended s₂ below o ∧ ∃ v L, o = .returned v ∧ Q v s₂.heap L ∧ FrameEnd s o s₂ L rc rs
variable {Q : Option Value → Heap → List Loc → Prop} {rc rs : Nat} {T' : State} {g g' : JFrame}
theorem own_step (st : ∀ target, Steps p.tables e below (T'.setTop g') target → Steps p.tables e below (T.setTop g) target) (k : own_Go p e below s Q rc rs T' g') : own_Go p e below s Q rc rs T g := by
  obtain ⟨s₂, o, h1, h2⟩ := k
  exact ⟨s₂, o, st _ h1, h2⟩
theorem own_tr (st : Steps p.tables e below (T.setTop g) (T'.setTop g')) (k : own_Go p e below s Q rc rs T' g') : own_Go p e below s Q rc rs T g := by
  obtain ⟨s₂, o, h1, h2⟩ := k
  exact ⟨s₂, o, st.trans h1, h2⟩
theorem own_cast (q : g = g') (k : own_Go p e below s Q rc rs T g') : own_Go p e below s Q rc rs T g := q ▸ k
theorem own_done (X : Stand p l e R s m args below meth c T locs cells slots) {v : Option Value} (hv : meth.sig.returnType = none → v = none) (hlk : meth.locks = false)
    (st : ∀ fs, (∀ (f : JFrame) (acts : List Action), f.method = m → f.locked = none → f.entered = [] → (doReturn e (T.setTop f) acts v).1 = T.setFrames fs) → Steps p.tables e below (T.setTop g) (T.setFrames fs))
    (hQ : Q v T.heap locs) (hc : cells ≤ rc) (hs : slots ≤ rs) : own_Go p e below s Q rc rs T g := by
  obtain ⟨fs, hr, hrun, hended, hW, hsame⟩ := X.leave (v := v) hv hlk
  exact ⟨_, _, st fs hr, hrun, hended, v, locs, rfl, hQ, ⟨_, rfl⟩, hW, hsame.mono hc hs⟩
theorem own_rN (X : Stand p l e R s m args below meth c T locs cells slots) (hx : p.tables.exec = Jvm.exec) (hlk : meth.locks = false) {t : FieldType} (hret : meth.sig.returnType = some t) (ht : t = .boolean ∨ t = .byte ∨ t = .char ∨ t = .short) {pc : Nat} {Ls : Array Slot} {z : Int32} {rest : List Value}
    (hd : decode c.code pc = .ok (.ireturn, 1)) (hQ : Q (some (.int (nar t z))) T.heap locs) (hc : cells ≤ rc) (hs : slots ≤ rs) : own_Go p e below s Q rc rs T (mkF m pc Ls (.int z :: rest)) :=
  own_done X (fun h => by rw [hret] at h; cases h) hlk (fun fs hr => retN X hx hret ht hd hr) hQ hc hs
theorem own_rI (X : Stand p l e R s m args below meth c T locs cells slots) (hx : p.tables.exec = Jvm.exec) (hlk : meth.locks = false) (hret : meth.sig.returnType = some .int) {pc : Nat} {Ls : Array Slot} {z : Int32} {rest : List Value}
    (hd : decode c.code pc = .ok (.ireturn, 1)) (hQ : Q (some (.int z)) T.heap locs) (hc : cells ≤ rc) (hs : slots ≤ rs) : own_Go p e below s Q rc rs T (mkF m pc Ls (.int z :: rest)) :=
  own_done X (fun h => by rw [hret] at h; cases h) hlk (fun fs hr => retOut X hx hret rfl (Or.inl ⟨rfl, Or.inl rfl, _, rfl⟩) hd hr) hQ hc hs
theorem own_rJ (X : Stand p l e R s m args below meth c T locs cells slots) (hx : p.tables.exec = Jvm.exec) (hlk : meth.locks = false) (hret : meth.sig.returnType = some .long) {pc : Nat} {Ls : Array Slot} {z : Int64} {rest : List Value}
    (hd : decode c.code pc = .ok (.lreturn, 1)) (hQ : Q (some (.long z)) T.heap locs) (hc : cells ≤ rc) (hs : slots ≤ rs) : own_Go p e below s Q rc rs T (mkF m pc Ls (.long z :: rest)) :=
  own_done X (fun h => by rw [hret] at h; cases h) hlk (fun fs hr => retOut X hx hret rfl (Or.inr (Or.inl ⟨rfl, rfl, _, rfl⟩)) hd hr) hQ hc hs
theorem own_narA {t : FieldType} {w : Value} (ht : t.isReference = true) (hw : w.isRef = true) : narrow t w = w := by cases t <;> cases w <;> first | rfl | cases ht | cases hw
theorem own_rA (X : Stand p l e R s m args below meth c T locs cells slots) (hx : p.tables.exec = Jvm.exec) (hlk : meth.locks = false) {t : FieldType} (hret : meth.sig.returnType = some t) (ht : t.isReference = true) {pc : Nat} {Ls : Array Slot} {w : Value} {rest : List Value} (hw : w.isRef = true)
    (hd : decode c.code pc = .ok (.areturn, 1)) (hQ : Q (some w) T.heap locs) (hc : cells ≤ rc) (hs : slots ≤ rs) : own_Go p e below s Q rc rs T (mkF m pc Ls (w :: rest)) :=
  own_done X (fun h => by rw [hret] at h; cases h) hlk (fun fs hr => retOut X hx hret (own_narA ht hw) (Or.inr (Or.inr (Or.inr (Or.inr ⟨rfl, ht, hw⟩)))) hd hr) hQ hc hs
theorem own_rV (X : Stand p l e R s m args below meth c T locs cells slots) (hx : p.tables.exec = Jvm.exec) (hlk : meth.locks = false) (hret : meth.sig.returnType = none) {pc : Nat} {Ls : Array Slot}
    (hd : decode c.code pc = .ok (.return_, 1)) (hQ : Q none T.heap locs) (hc : cells ≤ rc) (hs : slots ≤ rs) : own_Go p e below s Q rc rs T (mkF m pc Ls []) :=
  own_done X (fun _ => rfl) hlk (fun fs hr => X.returnOut hx hret hd hr) hQ hc hs
end OwnKit
def own_xs (z : Int64) (k : UInt64) : Int64 := z ^^^ (z.toUInt64 >>> k).toInt64
def own_state (q : Int64) (p : Int32) : Int64 := q + (p.toInt64 + (1 : Int64)) * ((-7046029254386353131) : Int64)
def own_derive (q : Int64) (p : Int32) : Int64 := own_xs (own_xs (own_xs (own_state q p) 30 * ((-4658895280553007687) : Int64)) 27 * ((-7723592293110705685) : Int64)) 31
def own_nw (a x : Int64) : Int64 := x * ((2 : Int64) - a * x)
def own_inv (a : Int64) : Int64 := own_nw a (own_nw a (own_nw a (own_nw a (own_nw a a))))
def Q_der (q1 : Int64) (p2 : Int32) (h0 : Heap) (n0 : Nat) (v : Option Value) (h : Heap) (L : List Loc) : Prop := v = some (.long (own_derive q1 p2)) ∧ Fr n0 L ∧ h = h0
theorem ef_rm_der (m : MethodId) (x0 : Int64) (x1 : Int32) : entryFrame m #[(.long x0), (.int x1)] 5 = mkF m 0 #[.val (.long x0), .second, .val (.int x1), .unset, .unset] [] := by first | rfl | (simp [entryFrame, mkF, argsToLocals, Value.category]; done) | (simp [entryFrame, mkF, argsToLocals, Value.category] <;> rfl)
theorem pn_0 : plainName "com/example/rostr/rostr/simulation/Seeds" = true := by first | (simp [plainName, overriddenIn]; done) | decide +kernel
theorem d1_0 : decode prog_24_method_2_code 0 = .ok (.lload_n 0, 1) := by decide +kernel
theorem d1_1 : decode prog_24_method_2_code 1 = .ok (.iload_n 2, 1) := by decide +kernel
theorem d1_2 : decode prog_24_method_2_code 2 = .ok (.i2l, 1) := by decide +kernel
theorem d1_3 : decode prog_24_method_2_code 3 = .ok (.lconst 1, 1) := by decide +kernel
theorem d1_4 : decode prog_24_method_2_code 4 = .ok (.ladd, 1) := by decide +kernel
theorem d1_5 : decode prog_24_method_2_code 5 = .ok (.ldc2_w 9, 3) := by decide +kernel
theorem d1_8 : decode prog_24_method_2_code 8 = .ok (.lmul, 1) := by decide +kernel
theorem d1_9 : decode prog_24_method_2_code 9 = .ok (.ladd, 1) := by decide +kernel
theorem d1_10 : decode prog_24_method_2_code 10 = .ok (.lstore_n 3, 1) := by decide +kernel
theorem d1_11 : decode prog_24_method_2_code 11 = .ok (.lload_n 3, 1) := by decide +kernel
theorem d1_12 : decode prog_24_method_2_code 12 = .ok (.lload_n 3, 1) := by decide +kernel
theorem d1_13 : decode prog_24_method_2_code 13 = .ok (.bipush 30, 2) := by decide +kernel
theorem d1_15 : decode prog_24_method_2_code 15 = .ok (.lushr, 1) := by decide +kernel
theorem d1_16 : decode prog_24_method_2_code 16 = .ok (.lxor, 1) := by decide +kernel
theorem d1_17 : decode prog_24_method_2_code 17 = .ok (.ldc2_w 11, 3) := by decide +kernel
theorem d1_20 : decode prog_24_method_2_code 20 = .ok (.lmul, 1) := by decide +kernel
theorem d1_21 : decode prog_24_method_2_code 21 = .ok (.lstore_n 3, 1) := by decide +kernel
theorem d1_22 : decode prog_24_method_2_code 22 = .ok (.lload_n 3, 1) := by decide +kernel
theorem d1_23 : decode prog_24_method_2_code 23 = .ok (.lload_n 3, 1) := by decide +kernel
theorem d1_24 : decode prog_24_method_2_code 24 = .ok (.bipush 27, 2) := by decide +kernel
theorem d1_26 : decode prog_24_method_2_code 26 = .ok (.lushr, 1) := by decide +kernel
theorem d1_27 : decode prog_24_method_2_code 27 = .ok (.lxor, 1) := by decide +kernel
theorem d1_28 : decode prog_24_method_2_code 28 = .ok (.ldc2_w 13, 3) := by decide +kernel
theorem d1_31 : decode prog_24_method_2_code 31 = .ok (.lmul, 1) := by decide +kernel
theorem d1_32 : decode prog_24_method_2_code 32 = .ok (.lstore_n 3, 1) := by decide +kernel
theorem d1_33 : decode prog_24_method_2_code 33 = .ok (.lload_n 3, 1) := by decide +kernel
theorem d1_34 : decode prog_24_method_2_code 34 = .ok (.lload_n 3, 1) := by decide +kernel
theorem d1_35 : decode prog_24_method_2_code 35 = .ok (.bipush 31, 2) := by decide +kernel
theorem d1_37 : decode prog_24_method_2_code 37 = .ok (.lushr, 1) := by decide +kernel
theorem d1_38 : decode prog_24_method_2_code 38 = .ok (.lxor, 1) := by decide +kernel
theorem d1_39 : decode prog_24_method_2_code 39 = .ok (.lreturn, 1) := by decide +kernel
set_option maxRecDepth 65536 in
set_option maxHeartbeats 40000000 in
theorem rm_der (l : Launch) (Z : State) (a0 : Array Value) (hw : ∀ d ∈ tables_1, d.before a0 Z = true) (ws : List Jvm.Cond) (q1 : Int64) (p2 : Int32) (h0 : Heap) (n0 : Nat) (Z0 : n0 ≤ h0.size)  :
    MetFree l (⟨"com/example/rostr/rostr/simulation/Seeds", "derive", "(JI)J"⟩ : MethodName) (head1 (Jvm.Cond.code (⟨"com/example/rostr/rostr/simulation/Seeds", "derive", "(JI)J"⟩ : MethodName) prog_24_method_2_code 5 (some (.long)) :: ws) ({ frames := 0, cells := 0, slots := 0, locals := 0 } : Room)) (fun a U => a = #[(.long q1), (.int p2)] ∧ Z.Warmed39 U.vm ∧ U.heap = h0) (fun _ _ _ _ _ => True) (fun _ U o U' => ∃ v L, o = .returned v ∧ (Q_der q1 p2 h0 n0) v U'.heap L ∧ FrameEnd U o U' L ({ frames := 0, cells := 0, slots := 0, locals := 0 } : Room).cells ({ frames := 0, cells := 0, slots := 0, locals := 0 } : Room).slots) := by
  refine MetFree.of_bodySF (plainFor_of_name pn_0) hisR ?_
  intro p e s m args below meth c s₁ Bd hml0 hP hK
  obtain ⟨rfl, hZ, hh⟩ := hP
  have hx := Bd.exec
  have hby := Bd.bytes
  have hlk : meth.locks = false := BodyLoose.notSynchronized Bd
  have hml : c.maxLocals = 5 := hml0
  have hown : s.vm.findClass "com/example/rostr/rostr/simulation/Seeds" = some m.cls := findClass_of_methodNamed Bd.named
  have hnm := (name_of_methodNamed Bd.named Bd.method).1
  have X0 : Stand p l e ({ frames := 0, cells := 0, slots := 0, locals := 0 } : Room) s m #[(.long q1), (.int p2)] below meth c s₁ [] 0 0 := Stand.of_body Bd
  have e0 : s₁.heap = h0 := by rw [← hh, Bd.state]; rfl
  have N0 := Fr.nil n0
  show own_Go p e below s (Q_der q1 p2 h0 n0) ({ frames := 0, cells := 0, slots := 0, locals := 0 } : Room).cells ({ frames := 0, cells := 0, slots := 0, locals := 0 } : Room).slots s₁ (entryFrame m #[(.long q1), (.int p2)] 5)
  refine own_cast (g' := (mkF m 0 #[.val (.long q1), .second, .val (.int p2), .unset, .unset] [])) (ef_rm_der m q1 p2) ?_
  refine own_step (T' := s₁) (g' := (mkF m 1 #[.val (.long q1), .second, .val (.int p2), .unset, .unset] [(.long q1)])) (fun t k => XS.lloadN X0.here hx rfl (hb hby d1_0) rfl k) ?_
  refine own_step (T' := s₁) (g' := (mkF m 2 #[.val (.long q1), .second, .val (.int p2), .unset, .unset] [(.int p2), (.long q1)])) (fun t k => XS.iloadN X0.here hx rfl (hb hby d1_1) rfl k) ?_
  refine own_step (T' := s₁) (g' := (mkF m 3 #[.val (.long q1), .second, .val (.int p2), .unset, .unset] [(.long (p2.toInt64)), (.long q1)])) (fun t k => XS.i2l X0.here hx rfl (hb hby d1_2) rfl k) ?_
  refine own_step (T' := s₁) (g' := (mkF m 4 #[.val (.long q1), .second, .val (.int p2), .unset, .unset] [(.long (1 : Int64)), (.long (p2.toInt64)), (.long q1)])) (fun t k => XS.lconst X0.here hx rfl (hb hby d1_3) k) ?_
  refine own_step (T' := s₁) (g' := (mkF m 5 #[.val (.long q1), .second, .val (.int p2), .unset, .unset] [(.long ((p2.toInt64) + (1 : Int64))), (.long q1)])) (fun t k => XS.ladd X0.here hx rfl (hb hby d1_4) rfl k) ?_
  refine own_step (T' := s₁) (g' := (mkF m 8 #[.val (.long q1), .second, .val (.int p2), .unset, .unset] [(.long ((-7046029254386353131) : Int64)), (.long ((p2.toInt64) + (1 : Int64))), (.long q1)])) (X0.ldc2Long hx hown (mvT hZ (hw _ (List.mem_of_getElem? (i := 5) rfl))) (g := (mkF m 5 #[.val (.long q1), .second, .val (.int p2), .unset, .unset] [(.long ((p2.toInt64) + (1 : Int64))), (.long q1)])) rfl (hb hby d1_5)) ?_
  refine own_step (T' := s₁) (g' := (mkF m 9 #[.val (.long q1), .second, .val (.int p2), .unset, .unset] [(.long (((p2.toInt64) + (1 : Int64)) * ((-7046029254386353131) : Int64))), (.long q1)])) (fun t k => XS.lmul X0.here hx rfl (hb hby d1_8) rfl k) ?_
  refine own_step (T' := s₁) (g' := (mkF m 10 #[.val (.long q1), .second, .val (.int p2), .unset, .unset] [(.long (q1 + (((p2.toInt64) + (1 : Int64)) * ((-7046029254386353131) : Int64))))])) (fun t k => XS.ladd X0.here hx rfl (hb hby d1_9) rfl k) ?_
  generalize hd_z1 : (q1 + (((p2.toInt64) + (1 : Int64)) * ((-7046029254386353131) : Int64))) = z1
  refine own_step (T' := s₁) (g' := (mkF m 11 #[.val (.long q1), .second, .val (.int p2), .val (.long z1), .second] [])) (fun t k => XS.lstoreN X0.here hx rfl (hb hby d1_10) rfl (l' := #[.val (.long q1), .second, .val (.int p2), .val (.long z1), .second]) rfl k) ?_
  refine own_step (T' := s₁) (g' := (mkF m 12 #[.val (.long q1), .second, .val (.int p2), .val (.long z1), .second] [(.long z1)])) (fun t k => XS.lloadN X0.here hx rfl (hb hby d1_11) rfl k) ?_
  refine own_step (T' := s₁) (g' := (mkF m 13 #[.val (.long q1), .second, .val (.int p2), .val (.long z1), .second] [(.long z1), (.long z1)])) (fun t k => XS.lloadN X0.here hx rfl (hb hby d1_12) rfl k) ?_
  refine own_step (T' := s₁) (g' := (mkF m 15 #[.val (.long q1), .second, .val (.int p2), .val (.long z1), .second] [(.int (30 : Int32)), (.long z1), (.long z1)])) (fun t k => XS.bipush X0.here hx rfl (hb hby d1_13) k) ?_
  refine own_step (T' := s₁) (g' := (mkF m 16 #[.val (.long q1), .second, .val (.int p2), .val (.long z1), .second] [(.long ((z1.toUInt64 >>> (30 : UInt64)).toInt64)), (.long z1)])) (fun t k => XS.lushr X0.here hx rfl (hb hby d1_15) rfl k) ?_
  refine own_step (T' := s₁) (g' := (mkF m 17 #[.val (.long q1), .second, .val (.int p2), .val (.long z1), .second] [(.long (z1 ^^^ ((z1.toUInt64 >>> (30 : UInt64)).toInt64)))])) (fun t k => XS.lxor X0.here hx rfl (hb hby d1_16) rfl k) ?_
  refine own_step (T' := s₁) (g' := (mkF m 20 #[.val (.long q1), .second, .val (.int p2), .val (.long z1), .second] [(.long ((-4658895280553007687) : Int64)), (.long (z1 ^^^ ((z1.toUInt64 >>> (30 : UInt64)).toInt64)))])) (X0.ldc2Long hx hown (mvT hZ (hw _ (List.mem_of_getElem? (i := 6) rfl))) (g := (mkF m 17 #[.val (.long q1), .second, .val (.int p2), .val (.long z1), .second] [(.long (z1 ^^^ ((z1.toUInt64 >>> (30 : UInt64)).toInt64)))])) rfl (hb hby d1_17)) ?_
  refine own_step (T' := s₁) (g' := (mkF m 21 #[.val (.long q1), .second, .val (.int p2), .val (.long z1), .second] [(.long ((z1 ^^^ ((z1.toUInt64 >>> (30 : UInt64)).toInt64)) * ((-4658895280553007687) : Int64)))])) (fun t k => XS.lmul X0.here hx rfl (hb hby d1_20) rfl k) ?_
  generalize hd_z2 : ((z1 ^^^ ((z1.toUInt64 >>> (30 : UInt64)).toInt64)) * ((-4658895280553007687) : Int64)) = z2
  refine own_step (T' := s₁) (g' := (mkF m 22 #[.val (.long q1), .second, .val (.int p2), .val (.long z2), .second] [])) (fun t k => XS.lstoreN X0.here hx rfl (hb hby d1_21) rfl (l' := #[.val (.long q1), .second, .val (.int p2), .val (.long z2), .second]) rfl k) ?_
  refine own_step (T' := s₁) (g' := (mkF m 23 #[.val (.long q1), .second, .val (.int p2), .val (.long z2), .second] [(.long z2)])) (fun t k => XS.lloadN X0.here hx rfl (hb hby d1_22) rfl k) ?_
  refine own_step (T' := s₁) (g' := (mkF m 24 #[.val (.long q1), .second, .val (.int p2), .val (.long z2), .second] [(.long z2), (.long z2)])) (fun t k => XS.lloadN X0.here hx rfl (hb hby d1_23) rfl k) ?_
  refine own_step (T' := s₁) (g' := (mkF m 26 #[.val (.long q1), .second, .val (.int p2), .val (.long z2), .second] [(.int (27 : Int32)), (.long z2), (.long z2)])) (fun t k => XS.bipush X0.here hx rfl (hb hby d1_24) k) ?_
  refine own_step (T' := s₁) (g' := (mkF m 27 #[.val (.long q1), .second, .val (.int p2), .val (.long z2), .second] [(.long ((z2.toUInt64 >>> (27 : UInt64)).toInt64)), (.long z2)])) (fun t k => XS.lushr X0.here hx rfl (hb hby d1_26) rfl k) ?_
  refine own_step (T' := s₁) (g' := (mkF m 28 #[.val (.long q1), .second, .val (.int p2), .val (.long z2), .second] [(.long (z2 ^^^ ((z2.toUInt64 >>> (27 : UInt64)).toInt64)))])) (fun t k => XS.lxor X0.here hx rfl (hb hby d1_27) rfl k) ?_
  refine own_step (T' := s₁) (g' := (mkF m 31 #[.val (.long q1), .second, .val (.int p2), .val (.long z2), .second] [(.long ((-7723592293110705685) : Int64)), (.long (z2 ^^^ ((z2.toUInt64 >>> (27 : UInt64)).toInt64)))])) (X0.ldc2Long hx hown (mvT hZ (hw _ (List.mem_of_getElem? (i := 7) rfl))) (g := (mkF m 28 #[.val (.long q1), .second, .val (.int p2), .val (.long z2), .second] [(.long (z2 ^^^ ((z2.toUInt64 >>> (27 : UInt64)).toInt64)))])) rfl (hb hby d1_28)) ?_
  refine own_step (T' := s₁) (g' := (mkF m 32 #[.val (.long q1), .second, .val (.int p2), .val (.long z2), .second] [(.long ((z2 ^^^ ((z2.toUInt64 >>> (27 : UInt64)).toInt64)) * ((-7723592293110705685) : Int64)))])) (fun t k => XS.lmul X0.here hx rfl (hb hby d1_31) rfl k) ?_
  generalize hd_z3 : ((z2 ^^^ ((z2.toUInt64 >>> (27 : UInt64)).toInt64)) * ((-7723592293110705685) : Int64)) = z3
  refine own_step (T' := s₁) (g' := (mkF m 33 #[.val (.long q1), .second, .val (.int p2), .val (.long z3), .second] [])) (fun t k => XS.lstoreN X0.here hx rfl (hb hby d1_32) rfl (l' := #[.val (.long q1), .second, .val (.int p2), .val (.long z3), .second]) rfl k) ?_
  refine own_step (T' := s₁) (g' := (mkF m 34 #[.val (.long q1), .second, .val (.int p2), .val (.long z3), .second] [(.long z3)])) (fun t k => XS.lloadN X0.here hx rfl (hb hby d1_33) rfl k) ?_
  refine own_step (T' := s₁) (g' := (mkF m 35 #[.val (.long q1), .second, .val (.int p2), .val (.long z3), .second] [(.long z3), (.long z3)])) (fun t k => XS.lloadN X0.here hx rfl (hb hby d1_34) rfl k) ?_
  refine own_step (T' := s₁) (g' := (mkF m 37 #[.val (.long q1), .second, .val (.int p2), .val (.long z3), .second] [(.int (31 : Int32)), (.long z3), (.long z3)])) (fun t k => XS.bipush X0.here hx rfl (hb hby d1_35) k) ?_
  refine own_step (T' := s₁) (g' := (mkF m 38 #[.val (.long q1), .second, .val (.int p2), .val (.long z3), .second] [(.long ((z3.toUInt64 >>> (31 : UInt64)).toInt64)), (.long z3)])) (fun t k => XS.lushr X0.here hx rfl (hb hby d1_37) rfl k) ?_
  refine own_step (T' := s₁) (g' := (mkF m 39 #[.val (.long q1), .second, .val (.int p2), .val (.long z3), .second] [(.long (z3 ^^^ ((z3.toUInt64 >>> (31 : UInt64)).toInt64)))])) (fun t k => XS.lxor X0.here hx rfl (hb hby d1_38) rfl k) ?_
  refine own_rJ X0 hx hlk Bd.returns (hb hby d1_39) ?_ (by decide) (by decide)
  rw [e0]
  subst hd_z1 hd_z2 hd_z3
  exact ⟨rfl, N0, rfl⟩
def Q_inv (q1 : Int64) (h0 : Heap) (n0 : Nat) (v : Option Value) (h : Heap) (L : List Loc) : Prop := v = some (.long (own_inv q1)) ∧ Fr n0 L ∧ h = h0
theorem ef_rm_inv (m : MethodId) (x0 : Int64) : entryFrame m #[(.long x0)] 4 = mkF m 0 #[.val (.long x0), .second, .unset, .unset] [] := by first | rfl | (simp [entryFrame, mkF, argsToLocals, Value.category]; done) | (simp [entryFrame, mkF, argsToLocals, Value.category] <;> rfl)
theorem pn_1 : plainName "com/example/rostr/rostr/simulation/SeedsDerivePinLaw" = true := by first | (simp [plainName, overriddenIn]; done) | decide +kernel
theorem d2_0 : decode method_2_code 0 = .ok (.lload_n 0, 1) := by decide +kernel
theorem d2_1 : decode method_2_code 1 = .ok (.lstore_n 2, 1) := by decide +kernel
theorem d2_2 : decode method_2_code 2 = .ok (.lload_n 2, 1) := by decide +kernel
theorem d2_3 : decode method_2_code 3 = .ok (.ldc2_w 7, 3) := by decide +kernel
theorem d2_6 : decode method_2_code 6 = .ok (.lload_n 0, 1) := by decide +kernel
theorem d2_7 : decode method_2_code 7 = .ok (.lload_n 2, 1) := by decide +kernel
theorem d2_8 : decode method_2_code 8 = .ok (.lmul, 1) := by decide +kernel
theorem d2_9 : decode method_2_code 9 = .ok (.lsub, 1) := by decide +kernel
theorem d2_10 : decode method_2_code 10 = .ok (.lmul, 1) := by decide +kernel
theorem d2_11 : decode method_2_code 11 = .ok (.lstore_n 2, 1) := by decide +kernel
theorem d2_12 : decode method_2_code 12 = .ok (.lload_n 2, 1) := by decide +kernel
theorem d2_13 : decode method_2_code 13 = .ok (.ldc2_w 7, 3) := by decide +kernel
theorem d2_16 : decode method_2_code 16 = .ok (.lload_n 0, 1) := by decide +kernel
theorem d2_17 : decode method_2_code 17 = .ok (.lload_n 2, 1) := by decide +kernel
theorem d2_18 : decode method_2_code 18 = .ok (.lmul, 1) := by decide +kernel
theorem d2_19 : decode method_2_code 19 = .ok (.lsub, 1) := by decide +kernel
theorem d2_20 : decode method_2_code 20 = .ok (.lmul, 1) := by decide +kernel
theorem d2_21 : decode method_2_code 21 = .ok (.lstore_n 2, 1) := by decide +kernel
theorem d2_22 : decode method_2_code 22 = .ok (.lload_n 2, 1) := by decide +kernel
theorem d2_23 : decode method_2_code 23 = .ok (.ldc2_w 7, 3) := by decide +kernel
theorem d2_26 : decode method_2_code 26 = .ok (.lload_n 0, 1) := by decide +kernel
theorem d2_27 : decode method_2_code 27 = .ok (.lload_n 2, 1) := by decide +kernel
theorem d2_28 : decode method_2_code 28 = .ok (.lmul, 1) := by decide +kernel
theorem d2_29 : decode method_2_code 29 = .ok (.lsub, 1) := by decide +kernel
theorem d2_30 : decode method_2_code 30 = .ok (.lmul, 1) := by decide +kernel
theorem d2_31 : decode method_2_code 31 = .ok (.lstore_n 2, 1) := by decide +kernel
theorem d2_32 : decode method_2_code 32 = .ok (.lload_n 2, 1) := by decide +kernel
theorem d2_33 : decode method_2_code 33 = .ok (.ldc2_w 7, 3) := by decide +kernel
theorem d2_36 : decode method_2_code 36 = .ok (.lload_n 0, 1) := by decide +kernel
theorem d2_37 : decode method_2_code 37 = .ok (.lload_n 2, 1) := by decide +kernel
theorem d2_38 : decode method_2_code 38 = .ok (.lmul, 1) := by decide +kernel
theorem d2_39 : decode method_2_code 39 = .ok (.lsub, 1) := by decide +kernel
theorem d2_40 : decode method_2_code 40 = .ok (.lmul, 1) := by decide +kernel
theorem d2_41 : decode method_2_code 41 = .ok (.lstore_n 2, 1) := by decide +kernel
theorem d2_42 : decode method_2_code 42 = .ok (.lload_n 2, 1) := by decide +kernel
theorem d2_43 : decode method_2_code 43 = .ok (.ldc2_w 7, 3) := by decide +kernel
theorem d2_46 : decode method_2_code 46 = .ok (.lload_n 0, 1) := by decide +kernel
theorem d2_47 : decode method_2_code 47 = .ok (.lload_n 2, 1) := by decide +kernel
theorem d2_48 : decode method_2_code 48 = .ok (.lmul, 1) := by decide +kernel
theorem d2_49 : decode method_2_code 49 = .ok (.lsub, 1) := by decide +kernel
theorem d2_50 : decode method_2_code 50 = .ok (.lmul, 1) := by decide +kernel
theorem d2_51 : decode method_2_code 51 = .ok (.lstore_n 2, 1) := by decide +kernel
theorem d2_52 : decode method_2_code 52 = .ok (.lload_n 2, 1) := by decide +kernel
theorem d2_53 : decode method_2_code 53 = .ok (.lreturn, 1) := by decide +kernel
set_option maxRecDepth 65536 in
set_option maxHeartbeats 40000000 in
theorem rm_inv (l : Launch) (Z : State) (a0 : Array Value) (hw : ∀ d ∈ tables_1, d.before a0 Z = true) (ws : List Jvm.Cond) (q1 : Int64) (h0 : Heap) (n0 : Nat) (Z0 : n0 ≤ h0.size)  :
    MetFree l (⟨"com/example/rostr/rostr/simulation/SeedsDerivePinLaw", "inv", "(J)J"⟩ : MethodName) (head1 (Jvm.Cond.code (⟨"com/example/rostr/rostr/simulation/SeedsDerivePinLaw", "inv", "(J)J"⟩ : MethodName) method_2_code 4 (some (.long)) :: ws) ({ frames := 0, cells := 0, slots := 0, locals := 0 } : Room)) (fun a U => a = #[(.long q1)] ∧ Z.Warmed39 U.vm ∧ U.heap = h0) (fun _ _ _ _ _ => True) (fun _ U o U' => ∃ v L, o = .returned v ∧ (Q_inv q1 h0 n0) v U'.heap L ∧ FrameEnd U o U' L ({ frames := 0, cells := 0, slots := 0, locals := 0 } : Room).cells ({ frames := 0, cells := 0, slots := 0, locals := 0 } : Room).slots) := by
  refine MetFree.of_bodySF (plainFor_of_name pn_1) hisR ?_
  intro p e s m args below meth c s₁ Bd hml0 hP hK
  obtain ⟨rfl, hZ, hh⟩ := hP
  have hx := Bd.exec
  have hby := Bd.bytes
  have hlk : meth.locks = false := BodyLoose.notSynchronized Bd
  have hml : c.maxLocals = 4 := hml0
  have hown : s.vm.findClass "com/example/rostr/rostr/simulation/SeedsDerivePinLaw" = some m.cls := findClass_of_methodNamed Bd.named
  have hnm := (name_of_methodNamed Bd.named Bd.method).1
  have X0 : Stand p l e ({ frames := 0, cells := 0, slots := 0, locals := 0 } : Room) s m #[(.long q1)] below meth c s₁ [] 0 0 := Stand.of_body Bd
  have e0 : s₁.heap = h0 := by rw [← hh, Bd.state]; rfl
  have N0 := Fr.nil n0
  show own_Go p e below s (Q_inv q1 h0 n0) ({ frames := 0, cells := 0, slots := 0, locals := 0 } : Room).cells ({ frames := 0, cells := 0, slots := 0, locals := 0 } : Room).slots s₁ (entryFrame m #[(.long q1)] 4)
  refine own_cast (g' := (mkF m 0 #[.val (.long q1), .second, .unset, .unset] [])) (ef_rm_inv m q1) ?_
  refine own_step (T' := s₁) (g' := (mkF m 1 #[.val (.long q1), .second, .unset, .unset] [(.long q1)])) (fun t k => XS.lloadN X0.here hx rfl (hb hby d2_0) rfl k) ?_
  refine own_step (T' := s₁) (g' := (mkF m 2 #[.val (.long q1), .second, .val (.long q1), .second] [])) (fun t k => XS.lstoreN X0.here hx rfl (hb hby d2_1) rfl (l' := #[.val (.long q1), .second, .val (.long q1), .second]) rfl k) ?_
  refine own_step (T' := s₁) (g' := (mkF m 3 #[.val (.long q1), .second, .val (.long q1), .second] [(.long q1)])) (fun t k => XS.lloadN X0.here hx rfl (hb hby d2_2) rfl k) ?_
  refine own_step (T' := s₁) (g' := (mkF m 6 #[.val (.long q1), .second, .val (.long q1), .second] [(.long (2 : Int64)), (.long q1)])) (X0.ldc2Long hx hown (mvT hZ (hw _ (List.mem_of_getElem? (i := 13) rfl))) (g := (mkF m 3 #[.val (.long q1), .second, .val (.long q1), .second] [(.long q1)])) rfl (hb hby d2_3)) ?_
  refine own_step (T' := s₁) (g' := (mkF m 7 #[.val (.long q1), .second, .val (.long q1), .second] [(.long q1), (.long (2 : Int64)), (.long q1)])) (fun t k => XS.lloadN X0.here hx rfl (hb hby d2_6) rfl k) ?_
  refine own_step (T' := s₁) (g' := (mkF m 8 #[.val (.long q1), .second, .val (.long q1), .second] [(.long q1), (.long q1), (.long (2 : Int64)), (.long q1)])) (fun t k => XS.lloadN X0.here hx rfl (hb hby d2_7) rfl k) ?_
  refine own_step (T' := s₁) (g' := (mkF m 9 #[.val (.long q1), .second, .val (.long q1), .second] [(.long (q1 * q1)), (.long (2 : Int64)), (.long q1)])) (fun t k => XS.lmul X0.here hx rfl (hb hby d2_8) rfl k) ?_
  refine own_step (T' := s₁) (g' := (mkF m 10 #[.val (.long q1), .second, .val (.long q1), .second] [(.long ((2 : Int64) - (q1 * q1))), (.long q1)])) (fun t k => XS.lsub X0.here hx rfl (hb hby d2_9) rfl k) ?_
  refine own_step (T' := s₁) (g' := (mkF m 11 #[.val (.long q1), .second, .val (.long q1), .second] [(.long (q1 * ((2 : Int64) - (q1 * q1))))])) (fun t k => XS.lmul X0.here hx rfl (hb hby d2_10) rfl k) ?_
  generalize hd_z1 : (q1 * ((2 : Int64) - (q1 * q1))) = z1
  refine own_step (T' := s₁) (g' := (mkF m 12 #[.val (.long q1), .second, .val (.long z1), .second] [])) (fun t k => XS.lstoreN X0.here hx rfl (hb hby d2_11) rfl (l' := #[.val (.long q1), .second, .val (.long z1), .second]) rfl k) ?_
  refine own_step (T' := s₁) (g' := (mkF m 13 #[.val (.long q1), .second, .val (.long z1), .second] [(.long z1)])) (fun t k => XS.lloadN X0.here hx rfl (hb hby d2_12) rfl k) ?_
  refine own_step (T' := s₁) (g' := (mkF m 16 #[.val (.long q1), .second, .val (.long z1), .second] [(.long (2 : Int64)), (.long z1)])) (X0.ldc2Long hx hown (mvT hZ (hw _ (List.mem_of_getElem? (i := 13) rfl))) (g := (mkF m 13 #[.val (.long q1), .second, .val (.long z1), .second] [(.long z1)])) rfl (hb hby d2_13)) ?_
  refine own_step (T' := s₁) (g' := (mkF m 17 #[.val (.long q1), .second, .val (.long z1), .second] [(.long q1), (.long (2 : Int64)), (.long z1)])) (fun t k => XS.lloadN X0.here hx rfl (hb hby d2_16) rfl k) ?_
  refine own_step (T' := s₁) (g' := (mkF m 18 #[.val (.long q1), .second, .val (.long z1), .second] [(.long z1), (.long q1), (.long (2 : Int64)), (.long z1)])) (fun t k => XS.lloadN X0.here hx rfl (hb hby d2_17) rfl k) ?_
  refine own_step (T' := s₁) (g' := (mkF m 19 #[.val (.long q1), .second, .val (.long z1), .second] [(.long (q1 * z1)), (.long (2 : Int64)), (.long z1)])) (fun t k => XS.lmul X0.here hx rfl (hb hby d2_18) rfl k) ?_
  refine own_step (T' := s₁) (g' := (mkF m 20 #[.val (.long q1), .second, .val (.long z1), .second] [(.long ((2 : Int64) - (q1 * z1))), (.long z1)])) (fun t k => XS.lsub X0.here hx rfl (hb hby d2_19) rfl k) ?_
  refine own_step (T' := s₁) (g' := (mkF m 21 #[.val (.long q1), .second, .val (.long z1), .second] [(.long (z1 * ((2 : Int64) - (q1 * z1))))])) (fun t k => XS.lmul X0.here hx rfl (hb hby d2_20) rfl k) ?_
  generalize hd_z2 : (z1 * ((2 : Int64) - (q1 * z1))) = z2
  refine own_step (T' := s₁) (g' := (mkF m 22 #[.val (.long q1), .second, .val (.long z2), .second] [])) (fun t k => XS.lstoreN X0.here hx rfl (hb hby d2_21) rfl (l' := #[.val (.long q1), .second, .val (.long z2), .second]) rfl k) ?_
  refine own_step (T' := s₁) (g' := (mkF m 23 #[.val (.long q1), .second, .val (.long z2), .second] [(.long z2)])) (fun t k => XS.lloadN X0.here hx rfl (hb hby d2_22) rfl k) ?_
  refine own_step (T' := s₁) (g' := (mkF m 26 #[.val (.long q1), .second, .val (.long z2), .second] [(.long (2 : Int64)), (.long z2)])) (X0.ldc2Long hx hown (mvT hZ (hw _ (List.mem_of_getElem? (i := 13) rfl))) (g := (mkF m 23 #[.val (.long q1), .second, .val (.long z2), .second] [(.long z2)])) rfl (hb hby d2_23)) ?_
  refine own_step (T' := s₁) (g' := (mkF m 27 #[.val (.long q1), .second, .val (.long z2), .second] [(.long q1), (.long (2 : Int64)), (.long z2)])) (fun t k => XS.lloadN X0.here hx rfl (hb hby d2_26) rfl k) ?_
  refine own_step (T' := s₁) (g' := (mkF m 28 #[.val (.long q1), .second, .val (.long z2), .second] [(.long z2), (.long q1), (.long (2 : Int64)), (.long z2)])) (fun t k => XS.lloadN X0.here hx rfl (hb hby d2_27) rfl k) ?_
  refine own_step (T' := s₁) (g' := (mkF m 29 #[.val (.long q1), .second, .val (.long z2), .second] [(.long (q1 * z2)), (.long (2 : Int64)), (.long z2)])) (fun t k => XS.lmul X0.here hx rfl (hb hby d2_28) rfl k) ?_
  refine own_step (T' := s₁) (g' := (mkF m 30 #[.val (.long q1), .second, .val (.long z2), .second] [(.long ((2 : Int64) - (q1 * z2))), (.long z2)])) (fun t k => XS.lsub X0.here hx rfl (hb hby d2_29) rfl k) ?_
  refine own_step (T' := s₁) (g' := (mkF m 31 #[.val (.long q1), .second, .val (.long z2), .second] [(.long (z2 * ((2 : Int64) - (q1 * z2))))])) (fun t k => XS.lmul X0.here hx rfl (hb hby d2_30) rfl k) ?_
  generalize hd_z3 : (z2 * ((2 : Int64) - (q1 * z2))) = z3
  refine own_step (T' := s₁) (g' := (mkF m 32 #[.val (.long q1), .second, .val (.long z3), .second] [])) (fun t k => XS.lstoreN X0.here hx rfl (hb hby d2_31) rfl (l' := #[.val (.long q1), .second, .val (.long z3), .second]) rfl k) ?_
  refine own_step (T' := s₁) (g' := (mkF m 33 #[.val (.long q1), .second, .val (.long z3), .second] [(.long z3)])) (fun t k => XS.lloadN X0.here hx rfl (hb hby d2_32) rfl k) ?_
  refine own_step (T' := s₁) (g' := (mkF m 36 #[.val (.long q1), .second, .val (.long z3), .second] [(.long (2 : Int64)), (.long z3)])) (X0.ldc2Long hx hown (mvT hZ (hw _ (List.mem_of_getElem? (i := 13) rfl))) (g := (mkF m 33 #[.val (.long q1), .second, .val (.long z3), .second] [(.long z3)])) rfl (hb hby d2_33)) ?_
  refine own_step (T' := s₁) (g' := (mkF m 37 #[.val (.long q1), .second, .val (.long z3), .second] [(.long q1), (.long (2 : Int64)), (.long z3)])) (fun t k => XS.lloadN X0.here hx rfl (hb hby d2_36) rfl k) ?_
  refine own_step (T' := s₁) (g' := (mkF m 38 #[.val (.long q1), .second, .val (.long z3), .second] [(.long z3), (.long q1), (.long (2 : Int64)), (.long z3)])) (fun t k => XS.lloadN X0.here hx rfl (hb hby d2_37) rfl k) ?_
  refine own_step (T' := s₁) (g' := (mkF m 39 #[.val (.long q1), .second, .val (.long z3), .second] [(.long (q1 * z3)), (.long (2 : Int64)), (.long z3)])) (fun t k => XS.lmul X0.here hx rfl (hb hby d2_38) rfl k) ?_
  refine own_step (T' := s₁) (g' := (mkF m 40 #[.val (.long q1), .second, .val (.long z3), .second] [(.long ((2 : Int64) - (q1 * z3))), (.long z3)])) (fun t k => XS.lsub X0.here hx rfl (hb hby d2_39) rfl k) ?_
  refine own_step (T' := s₁) (g' := (mkF m 41 #[.val (.long q1), .second, .val (.long z3), .second] [(.long (z3 * ((2 : Int64) - (q1 * z3))))])) (fun t k => XS.lmul X0.here hx rfl (hb hby d2_40) rfl k) ?_
  generalize hd_z4 : (z3 * ((2 : Int64) - (q1 * z3))) = z4
  refine own_step (T' := s₁) (g' := (mkF m 42 #[.val (.long q1), .second, .val (.long z4), .second] [])) (fun t k => XS.lstoreN X0.here hx rfl (hb hby d2_41) rfl (l' := #[.val (.long q1), .second, .val (.long z4), .second]) rfl k) ?_
  refine own_step (T' := s₁) (g' := (mkF m 43 #[.val (.long q1), .second, .val (.long z4), .second] [(.long z4)])) (fun t k => XS.lloadN X0.here hx rfl (hb hby d2_42) rfl k) ?_
  refine own_step (T' := s₁) (g' := (mkF m 46 #[.val (.long q1), .second, .val (.long z4), .second] [(.long (2 : Int64)), (.long z4)])) (X0.ldc2Long hx hown (mvT hZ (hw _ (List.mem_of_getElem? (i := 13) rfl))) (g := (mkF m 43 #[.val (.long q1), .second, .val (.long z4), .second] [(.long z4)])) rfl (hb hby d2_43)) ?_
  refine own_step (T' := s₁) (g' := (mkF m 47 #[.val (.long q1), .second, .val (.long z4), .second] [(.long q1), (.long (2 : Int64)), (.long z4)])) (fun t k => XS.lloadN X0.here hx rfl (hb hby d2_46) rfl k) ?_
  refine own_step (T' := s₁) (g' := (mkF m 48 #[.val (.long q1), .second, .val (.long z4), .second] [(.long z4), (.long q1), (.long (2 : Int64)), (.long z4)])) (fun t k => XS.lloadN X0.here hx rfl (hb hby d2_47) rfl k) ?_
  refine own_step (T' := s₁) (g' := (mkF m 49 #[.val (.long q1), .second, .val (.long z4), .second] [(.long (q1 * z4)), (.long (2 : Int64)), (.long z4)])) (fun t k => XS.lmul X0.here hx rfl (hb hby d2_48) rfl k) ?_
  refine own_step (T' := s₁) (g' := (mkF m 50 #[.val (.long q1), .second, .val (.long z4), .second] [(.long ((2 : Int64) - (q1 * z4))), (.long z4)])) (fun t k => XS.lsub X0.here hx rfl (hb hby d2_49) rfl k) ?_
  refine own_step (T' := s₁) (g' := (mkF m 51 #[.val (.long q1), .second, .val (.long z4), .second] [(.long (z4 * ((2 : Int64) - (q1 * z4))))])) (fun t k => XS.lmul X0.here hx rfl (hb hby d2_50) rfl k) ?_
  generalize hd_z5 : (z4 * ((2 : Int64) - (q1 * z4))) = z5
  refine own_step (T' := s₁) (g' := (mkF m 52 #[.val (.long q1), .second, .val (.long z5), .second] [])) (fun t k => XS.lstoreN X0.here hx rfl (hb hby d2_51) rfl (l' := #[.val (.long q1), .second, .val (.long z5), .second]) rfl k) ?_
  refine own_step (T' := s₁) (g' := (mkF m 53 #[.val (.long q1), .second, .val (.long z5), .second] [(.long z5)])) (fun t k => XS.lloadN X0.here hx rfl (hb hby d2_52) rfl k) ?_
  refine own_rJ X0 hx hlk Bd.returns (hb hby d2_53) ?_ (by decide) (by decide)
  rw [e0]
  subst hd_z1 hd_z2 hd_z3 hd_z4 hd_z5
  exact ⟨rfl, N0, rfl⟩
theorem own_unxs (x : Int64) (k j : Nat) (k1 : UInt64) (k2 : UInt64) (e1 : k1.toBitVec = BitVec.ofNat 64 k) (e2 : k2.toBitVec = BitVec.ofNat 64 j) (hj : j = 2 * k) (h0 : k < 64) (h1 : j < 64) (h3 : 64 ≤ 3 * k) : (own_xs x k1 ^^^ ((own_xs x k1).toUInt64 >>> k1).toInt64) ^^^ ((own_xs x k1).toUInt64 >>> k2).toInt64 = x := by
  have c1 : k1.toNat = k := by rw [← UInt64.toNat_toBitVec, e1]; simp [Nat.mod_eq_of_lt (show k < 18446744073709551616 by omega)]
  have c2 : k2.toNat = j := by rw [← UInt64.toNat_toBitVec, e2]; simp [Nat.mod_eq_of_lt (show j < 18446744073709551616 by omega)]
  have sh : ∀ (y : Int64), (y.toUInt64 >>> k1).toInt64.toBitVec = y.toBitVec >>> k := fun y => by
    show (y.toUInt64 >>> k1).toBitVec = _
    rw [UInt64.toBitVec_shiftRight]
    simp [c1, Nat.mod_eq_of_lt h0]
  have sh2 : ∀ (y : Int64), (y.toUInt64 >>> k2).toInt64.toBitVec = y.toBitVec >>> j := fun y => by
    show (y.toUInt64 >>> k2).toBitVec = _
    rw [UInt64.toBitVec_shiftRight]
    simp [c2, Nat.mod_eq_of_lt h1]
  apply Int64.toBitVec_inj.mp
  simp only [own_xs, Int64.toBitVec_xor, sh, sh2]
  generalize x.toBitVec = b
  apply BitVec.eq_of_getLsbD_eq
  intro i hi
  simp only [BitVec.getLsbD_xor, BitVec.getLsbD_ushiftRight]
  have z : b.getLsbD (k + (j + i)) = false := BitVec.getLsbD_of_ge _ _ (by omega)
  have z2 : k + (k + i) = j + i := by omega
  rw [z, z2]
  cases b.getLsbD i <;> cases b.getLsbD (k + i) <;> cases b.getLsbD (j + i) <;> rfl
theorem own_un31 (x : Int64) : (own_xs x 31 ^^^ ((own_xs x 31).toUInt64 >>> 31).toInt64) ^^^ ((own_xs x 31).toUInt64 >>> 62).toInt64 = x := own_unxs x 31 62 31 62 rfl rfl rfl (by decide) (by decide) (by decide)
theorem own_un27 (x : Int64) : (own_xs x 27 ^^^ ((own_xs x 27).toUInt64 >>> 27).toInt64) ^^^ ((own_xs x 27).toUInt64 >>> 54).toInt64 = x := own_unxs x 27 54 27 54 rfl rfl rfl (by decide) (by decide) (by decide)
theorem own_un30 (x : Int64) : (own_xs x 30 ^^^ ((own_xs x 30).toUInt64 >>> 30).toInt64) ^^^ ((own_xs x 30).toUInt64 >>> 60).toInt64 = x := own_unxs x 30 60 30 60 rfl rfl rfl (by decide) (by decide) (by decide)
theorem own_i1 : ((-7723592293110705685) : Int64) * own_inv ((-7723592293110705685) : Int64) = 1 := by decide +kernel
theorem own_i2 : ((-4658895280553007687) : Int64) * own_inv ((-4658895280553007687) : Int64) = 1 := by decide +kernel

def Q_law (n0 : Nat) (v : Option Value) (h : Heap) (L : List Loc) : Prop := v = some (.int 1) ∧ Fr n0 L
theorem ef_rm_law (m : MethodId) (x0 : Int64) (x1 : Int32) : entryFrame m #[(.long x0), (.int x1)] maxLocals = mkF m 0 #[.val (.long x0), .second, .val (.int x1), .unset, .unset, .unset, .unset, .unset, .unset, .unset] [] := by first | rfl | (simp [entryFrame, mkF, argsToLocals, Value.category, maxLocals]; done) | (simp [entryFrame, mkF, argsToLocals, Value.category, maxLocals] <;> rfl)
theorem pd_0 : parseMethodDescriptor "(JI)J" = some ⟨[.long, .int], some (.long)⟩ := by decide +kernel
theorem pd_1 : parseMethodDescriptor "(J)J" = some ⟨[.long], some (.long)⟩ := by decide +kernel
set_option maxRecDepth 65536 in
set_option maxHeartbeats 40000000 in
theorem rm_law (l : Launch) (Z : State) (a0 : Array Value) (hw : ∀ d ∈ tables_1, d.before a0 Z = true) (ws : List Jvm.Cond) (p0 : Int64) (p1 : Int32) (h0 : Heap) (n0 : Nat) (Z0 : n0 ≤ h0.size)  :
    MetFree l x (head1 (Jvm.Cond.code x code maxLocals ret :: ws) room_1) (fun a U => a = #[(.long p0), (.int p1)] ∧ Z.Warmed39 U.vm ∧ U.heap = h0) (fun _ _ _ _ _ => True) (fun _ U o U' => ∃ v L, o = .returned v ∧ (Q_law n0) v U'.heap L ∧ FrameEnd U o U' L 0 0) := by
  refine MetFree.of_bodySF (plainFor_of_name pn_1) hisR ?_
  intro p e s m args below meth c s₁ Bd hml0 hP hK
  obtain ⟨rfl, hZ, hh⟩ := hP
  have hx := Bd.exec
  have hby := Bd.bytes
  have hlk : meth.locks = false := BodyLoose.notSynchronized Bd
  have hml : c.maxLocals = 10 := hml0
  have hown : s.vm.findClass "com/example/rostr/rostr/simulation/SeedsDerivePinLaw" = some m.cls := findClass_of_methodNamed Bd.named
  have hnm := (name_of_methodNamed Bd.named Bd.method).1
  have X0 : Stand p l e room_1 s m #[(.long p0), (.int p1)] below meth c s₁ [] 0 0 := Stand.of_body Bd
  have e0 : s₁.heap = h0 := by rw [← hh, Bd.state]; rfl
  have N0 := Fr.nil n0
  show own_Go p e below s (Q_law n0) 0 0 s₁ (entryFrame m #[(.long p0), (.int p1)] maxLocals)
  refine own_cast (g' := (mkF m 0 #[.val (.long p0), .second, .val (.int p1), .unset, .unset, .unset, .unset, .unset, .unset, .unset] [])) (ef_rm_law m p0 p1) ?_
  refine own_step (T' := s₁) (g' := (mkF m 1 #[.val (.long p0), .second, .val (.int p1), .unset, .unset, .unset, .unset, .unset, .unset, .unset] [(.int p1)])) (fun t k => XS.iloadN X0.here hx rfl (hb hby at_0) rfl k) ?_
  refine own_step (T' := s₁) (g' := (mkF m 3 #[.val (.long p0), .second, .val (.int p1), .unset, .unset, .unset, .unset, .unset, .unset, .unset] [(.int (2147483647 : Int32)), (.int p1)])) (X0.ldcInt hx hown (mvT hZ (hw _ (List.mem_of_getElem? (i := 0) rfl))) (g := (mkF m 1 #[.val (.long p0), .second, .val (.int p1), .unset, .unset, .unset, .unset, .unset, .unset, .unset] [(.int p1)])) rfl (hb hby at_1)) ?_
  refine own_step (T' := s₁) (g' := (mkF m 4 #[.val (.long p0), .second, .val (.int p1), .unset, .unset, .unset, .unset, .unset, .unset, .unset] [(.int (p1 &&& (2147483647 : Int32)))])) (fun t k => XS.iand X0.here hx rfl (hb hby at_3) rfl k) ?_
  generalize hd_ix : (p1 &&& (2147483647 : Int32)) = ix
  refine own_step (T' := s₁) (g' := (mkF m 5 #[.val (.long p0), .second, .val (.int p1), .val (.int ix), .unset, .unset, .unset, .unset, .unset, .unset] [])) (fun t k => XS.istoreN X0.here hx rfl (hb hby at_4) rfl (l' := #[.val (.long p0), .second, .val (.int p1), .val (.int ix), .unset, .unset, .unset, .unset, .unset, .unset]) rfl k) ?_
  refine own_step (T' := s₁) (g' := (mkF m 6 #[.val (.long p0), .second, .val (.int p1), .val (.int ix), .unset, .unset, .unset, .unset, .unset, .unset] [(.long p0)])) (fun t k => XS.lloadN X0.here hx rfl (hb hby at_5) rfl k) ?_
  refine own_step (T' := s₁) (g' := (mkF m 7 #[.val (.long p0), .second, .val (.int p1), .val (.int ix), .unset, .unset, .unset, .unset, .unset, .unset] [(.int ix), (.long p0)])) (fun t k => XS.iloadN X0.here hx rfl (hb hby at_6) rfl k) ?_
  obtain ⟨_, _, ⟨T2, L2, k2, n2⟩, -, X2, ⟨Lc2, hQ2, l2, y2, z2⟩, st2⟩ := Jvm.LawKit.callS X0 hx (y := (⟨"com/example/rostr/rostr/simulation/Seeds", "derive", "(JI)J"⟩ : MethodName)) hown (mvT hZ (hw _ (List.mem_of_getElem? (i := 1) rfl))) (mvT hZ (hw _ (List.mem_of_getElem? (i := 2) rfl))) (mvT hZ (hw _ (List.mem_of_getElem? (i := 3) rfl))) (mvT hZ (hw _ (List.mem_of_getElem? (i := 4) rfl))) (by decide) (backOf (W := 0) (rm_der l Z a0 hw [] p0 ix h0 n0 Z0 ) hZ (hw _ (List.mem_of_getElem? (i := 4) rfl)) (hw _ (List.mem_of_getElem? (i := 3) rfl)) (by decide) (by decide)) (g := (mkF m 7 #[.val (.long p0), .second, .val (.int p1), .val (.int ix), .unset, .unset, .unset, .unset, .unset, .unset] [(.int ix), (.long p0)])) rfl (by rw [hml]; rfl) (argsL := [(.long p0), (.int ix)]) (rest := []) (lenOf pd_0 rfl) rfl (by show 2 * 0 + _ ≤ _; exact Nat.le_of_eq rfl) (hb hby at_7) (fun _ _ => ⟨rfl, e0, (by decide : 0 + 0 ≤ _), (by decide : 0 + 0 ≤ _)⟩)
  dsimp only [Pt.U, Pt.locs, Pt.cells, Pt.slots] at X2 l2 y2 z2 st2 hQ2
  subst l2 y2 z2
  obtain ⟨rfl, Nq2, eq1⟩ := hQ2
  have N2 := Fr.app N0 Nq2
  refine own_step (T' := T2) (g' := (mkF m 10 #[.val (.long p0), .second, .val (.int p1), .val (.int ix), .unset, .unset, .unset, .unset, .unset, .unset] [(.long (own_derive p0 ix))])) st2 ?_
  generalize hd_r1 : (own_derive p0 ix) = r1
  refine own_step (T' := T2) (g' := (mkF m 12 #[.val (.long p0), .second, .val (.int p1), .val (.int ix), .val (.long r1), .second, .unset, .unset, .unset, .unset] [])) (fun t k => XS.lstore X2.here hx rfl (hb hby at_10) rfl (l' := #[.val (.long p0), .second, .val (.int p1), .val (.int ix), .val (.long r1), .second, .unset, .unset, .unset, .unset]) rfl k) ?_
  refine own_step (T' := T2) (g' := (mkF m 14 #[.val (.long p0), .second, .val (.int p1), .val (.int ix), .val (.long r1), .second, .unset, .unset, .unset, .unset] [(.long r1)])) (fun t k => XS.lload X2.here hx rfl (hb hby at_12) rfl k) ?_
  refine own_step (T' := T2) (g' := (mkF m 16 #[.val (.long p0), .second, .val (.int p1), .val (.int ix), .val (.long r1), .second, .unset, .unset, .unset, .unset] [(.long r1), (.long r1)])) (fun t k => XS.lload X2.here hx rfl (hb hby at_14) rfl k) ?_
  refine own_step (T' := T2) (g' := (mkF m 18 #[.val (.long p0), .second, .val (.int p1), .val (.int ix), .val (.long r1), .second, .unset, .unset, .unset, .unset] [(.int (31 : Int32)), (.long r1), (.long r1)])) (fun t k => XS.bipush X2.here hx rfl (hb hby at_16) k) ?_
  refine own_step (T' := T2) (g' := (mkF m 19 #[.val (.long p0), .second, .val (.int p1), .val (.int ix), .val (.long r1), .second, .unset, .unset, .unset, .unset] [(.long ((r1.toUInt64 >>> (31 : UInt64)).toInt64)), (.long r1)])) (fun t k => XS.lushr X2.here hx rfl (hb hby at_18) rfl k) ?_
  refine own_step (T' := T2) (g' := (mkF m 20 #[.val (.long p0), .second, .val (.int p1), .val (.int ix), .val (.long r1), .second, .unset, .unset, .unset, .unset] [(.long (r1 ^^^ ((r1.toUInt64 >>> (31 : UInt64)).toInt64)))])) (fun t k => XS.lxor X2.here hx rfl (hb hby at_19) rfl k) ?_
  refine own_step (T' := T2) (g' := (mkF m 22 #[.val (.long p0), .second, .val (.int p1), .val (.int ix), .val (.long r1), .second, .unset, .unset, .unset, .unset] [(.long r1), (.long (r1 ^^^ ((r1.toUInt64 >>> (31 : UInt64)).toInt64)))])) (fun t k => XS.lload X2.here hx rfl (hb hby at_20) rfl k) ?_
  refine own_step (T' := T2) (g' := (mkF m 24 #[.val (.long p0), .second, .val (.int p1), .val (.int ix), .val (.long r1), .second, .unset, .unset, .unset, .unset] [(.int (62 : Int32)), (.long r1), (.long (r1 ^^^ ((r1.toUInt64 >>> (31 : UInt64)).toInt64)))])) (fun t k => XS.bipush X2.here hx rfl (hb hby at_22) k) ?_
  refine own_step (T' := T2) (g' := (mkF m 25 #[.val (.long p0), .second, .val (.int p1), .val (.int ix), .val (.long r1), .second, .unset, .unset, .unset, .unset] [(.long ((r1.toUInt64 >>> (62 : UInt64)).toInt64)), (.long (r1 ^^^ ((r1.toUInt64 >>> (31 : UInt64)).toInt64)))])) (fun t k => XS.lushr X2.here hx rfl (hb hby at_24) rfl k) ?_
  refine own_step (T' := T2) (g' := (mkF m 26 #[.val (.long p0), .second, .val (.int p1), .val (.int ix), .val (.long r1), .second, .unset, .unset, .unset, .unset] [(.long ((r1 ^^^ ((r1.toUInt64 >>> (31 : UInt64)).toInt64)) ^^^ ((r1.toUInt64 >>> (62 : UInt64)).toInt64)))])) (fun t k => XS.lxor X2.here hx rfl (hb hby at_25) rfl k) ?_
  generalize hd_z1 : ((r1 ^^^ ((r1.toUInt64 >>> (31 : UInt64)).toInt64)) ^^^ ((r1.toUInt64 >>> (62 : UInt64)).toInt64)) = z1
  refine own_step (T' := T2) (g' := (mkF m 28 #[.val (.long p0), .second, .val (.int p1), .val (.int ix), .val (.long r1), .second, .val (.long z1), .second, .unset, .unset] [])) (fun t k => XS.lstore X2.here hx rfl (hb hby at_26) rfl (l' := #[.val (.long p0), .second, .val (.int p1), .val (.int ix), .val (.long r1), .second, .val (.long z1), .second, .unset, .unset]) rfl k) ?_
  refine own_step (T' := T2) (g' := (mkF m 30 #[.val (.long p0), .second, .val (.int p1), .val (.int ix), .val (.long r1), .second, .val (.long z1), .second, .unset, .unset] [(.long z1)])) (fun t k => XS.lload X2.here hx rfl (hb hby at_28) rfl k) ?_
  refine own_step (T' := T2) (g' := (mkF m 33 #[.val (.long p0), .second, .val (.int p1), .val (.int ix), .val (.long r1), .second, .val (.long z1), .second, .unset, .unset] [(.long ((-7723592293110705685) : Int64)), (.long z1)])) (X2.ldc2Long hx hown (mvT hZ (hw _ (List.mem_of_getElem? (i := 8) rfl))) (g := (mkF m 30 #[.val (.long p0), .second, .val (.int p1), .val (.int ix), .val (.long r1), .second, .val (.long z1), .second, .unset, .unset] [(.long z1)])) rfl (hb hby at_30)) ?_
  obtain ⟨_, _, ⟨T4, L4, k4, n4⟩, -, X4, ⟨Lc4, hQ4, l4, y4, z4⟩, st4⟩ := Jvm.LawKit.callS X2 hx (y := (⟨"com/example/rostr/rostr/simulation/SeedsDerivePinLaw", "inv", "(J)J"⟩ : MethodName)) hown (mvT hZ (hw _ (List.mem_of_getElem? (i := 9) rfl))) (mvT hZ (hw _ (List.mem_of_getElem? (i := 10) rfl))) (mvT hZ (hw _ (List.mem_of_getElem? (i := 11) rfl))) (mvT hZ (hw _ (List.mem_of_getElem? (i := 12) rfl))) (by decide) (backOf (W := 2) (rm_inv l Z a0 hw [] ((-7723592293110705685) : Int64) h0 n0 Z0 ) hZ (hw _ (List.mem_of_getElem? (i := 12) rfl)) (hw _ (List.mem_of_getElem? (i := 11) rfl)) (by decide) (by decide)) (g := (mkF m 33 #[.val (.long p0), .second, .val (.int p1), .val (.int ix), .val (.long r1), .second, .val (.long z1), .second, .unset, .unset] [(.long ((-7723592293110705685) : Int64)), (.long z1)])) rfl (by rw [hml]; rfl) (argsL := [(.long ((-7723592293110705685) : Int64))]) (rest := [(.long z1)]) (lenOf pd_1 rfl) rfl (by show 2 * 0 + _ ≤ _; exact Nat.le_of_eq rfl) (hb hby at_33) (fun _ _ => ⟨rfl, eq1, (by decide : 0 + 0 ≤ _), (by decide : 0 + 0 ≤ _)⟩)
  dsimp only [Pt.U, Pt.locs, Pt.cells, Pt.slots] at X4 l4 y4 z4 st4 hQ4
  subst l4 y4 z4
  obtain ⟨rfl, Nq4, eq3⟩ := hQ4
  have N4 := Fr.app N2 Nq4
  refine own_step (T' := T4) (g' := (mkF m 36 #[.val (.long p0), .second, .val (.int p1), .val (.int ix), .val (.long r1), .second, .val (.long z1), .second, .unset, .unset] [(.long (own_inv ((-7723592293110705685) : Int64))), (.long z1)])) st4 ?_
  refine own_step (T' := T4) (g' := (mkF m 37 #[.val (.long p0), .second, .val (.int p1), .val (.int ix), .val (.long r1), .second, .val (.long z1), .second, .unset, .unset] [(.long (z1 * (own_inv ((-7723592293110705685) : Int64))))])) (fun t k => XS.lmul X4.here hx rfl (hb hby at_36) rfl k) ?_
  generalize hd_z2 : (z1 * (own_inv ((-7723592293110705685) : Int64))) = z2
  refine own_step (T' := T4) (g' := (mkF m 39 #[.val (.long p0), .second, .val (.int p1), .val (.int ix), .val (.long r1), .second, .val (.long z2), .second, .unset, .unset] [])) (fun t k => XS.lstore X4.here hx rfl (hb hby at_37) rfl (l' := #[.val (.long p0), .second, .val (.int p1), .val (.int ix), .val (.long r1), .second, .val (.long z2), .second, .unset, .unset]) rfl k) ?_
  refine own_step (T' := T4) (g' := (mkF m 41 #[.val (.long p0), .second, .val (.int p1), .val (.int ix), .val (.long r1), .second, .val (.long z2), .second, .unset, .unset] [(.long z2)])) (fun t k => XS.lload X4.here hx rfl (hb hby at_39) rfl k) ?_
  refine own_step (T' := T4) (g' := (mkF m 43 #[.val (.long p0), .second, .val (.int p1), .val (.int ix), .val (.long r1), .second, .val (.long z2), .second, .unset, .unset] [(.long z2), (.long z2)])) (fun t k => XS.lload X4.here hx rfl (hb hby at_41) rfl k) ?_
  refine own_step (T' := T4) (g' := (mkF m 45 #[.val (.long p0), .second, .val (.int p1), .val (.int ix), .val (.long r1), .second, .val (.long z2), .second, .unset, .unset] [(.int (27 : Int32)), (.long z2), (.long z2)])) (fun t k => XS.bipush X4.here hx rfl (hb hby at_43) k) ?_
  refine own_step (T' := T4) (g' := (mkF m 46 #[.val (.long p0), .second, .val (.int p1), .val (.int ix), .val (.long r1), .second, .val (.long z2), .second, .unset, .unset] [(.long ((z2.toUInt64 >>> (27 : UInt64)).toInt64)), (.long z2)])) (fun t k => XS.lushr X4.here hx rfl (hb hby at_45) rfl k) ?_
  refine own_step (T' := T4) (g' := (mkF m 47 #[.val (.long p0), .second, .val (.int p1), .val (.int ix), .val (.long r1), .second, .val (.long z2), .second, .unset, .unset] [(.long (z2 ^^^ ((z2.toUInt64 >>> (27 : UInt64)).toInt64)))])) (fun t k => XS.lxor X4.here hx rfl (hb hby at_46) rfl k) ?_
  refine own_step (T' := T4) (g' := (mkF m 49 #[.val (.long p0), .second, .val (.int p1), .val (.int ix), .val (.long r1), .second, .val (.long z2), .second, .unset, .unset] [(.long z2), (.long (z2 ^^^ ((z2.toUInt64 >>> (27 : UInt64)).toInt64)))])) (fun t k => XS.lload X4.here hx rfl (hb hby at_47) rfl k) ?_
  refine own_step (T' := T4) (g' := (mkF m 51 #[.val (.long p0), .second, .val (.int p1), .val (.int ix), .val (.long r1), .second, .val (.long z2), .second, .unset, .unset] [(.int (54 : Int32)), (.long z2), (.long (z2 ^^^ ((z2.toUInt64 >>> (27 : UInt64)).toInt64)))])) (fun t k => XS.bipush X4.here hx rfl (hb hby at_49) k) ?_
  refine own_step (T' := T4) (g' := (mkF m 52 #[.val (.long p0), .second, .val (.int p1), .val (.int ix), .val (.long r1), .second, .val (.long z2), .second, .unset, .unset] [(.long ((z2.toUInt64 >>> (54 : UInt64)).toInt64)), (.long (z2 ^^^ ((z2.toUInt64 >>> (27 : UInt64)).toInt64)))])) (fun t k => XS.lushr X4.here hx rfl (hb hby at_51) rfl k) ?_
  refine own_step (T' := T4) (g' := (mkF m 53 #[.val (.long p0), .second, .val (.int p1), .val (.int ix), .val (.long r1), .second, .val (.long z2), .second, .unset, .unset] [(.long ((z2 ^^^ ((z2.toUInt64 >>> (27 : UInt64)).toInt64)) ^^^ ((z2.toUInt64 >>> (54 : UInt64)).toInt64)))])) (fun t k => XS.lxor X4.here hx rfl (hb hby at_52) rfl k) ?_
  generalize hd_z3 : ((z2 ^^^ ((z2.toUInt64 >>> (27 : UInt64)).toInt64)) ^^^ ((z2.toUInt64 >>> (54 : UInt64)).toInt64)) = z3
  refine own_step (T' := T4) (g' := (mkF m 55 #[.val (.long p0), .second, .val (.int p1), .val (.int ix), .val (.long r1), .second, .val (.long z3), .second, .unset, .unset] [])) (fun t k => XS.lstore X4.here hx rfl (hb hby at_53) rfl (l' := #[.val (.long p0), .second, .val (.int p1), .val (.int ix), .val (.long r1), .second, .val (.long z3), .second, .unset, .unset]) rfl k) ?_
  refine own_step (T' := T4) (g' := (mkF m 57 #[.val (.long p0), .second, .val (.int p1), .val (.int ix), .val (.long r1), .second, .val (.long z3), .second, .unset, .unset] [(.long z3)])) (fun t k => XS.lload X4.here hx rfl (hb hby at_55) rfl k) ?_
  refine own_step (T' := T4) (g' := (mkF m 60 #[.val (.long p0), .second, .val (.int p1), .val (.int ix), .val (.long r1), .second, .val (.long z3), .second, .unset, .unset] [(.long ((-4658895280553007687) : Int64)), (.long z3)])) (X4.ldc2Long hx hown (mvT hZ (hw _ (List.mem_of_getElem? (i := 14) rfl))) (g := (mkF m 57 #[.val (.long p0), .second, .val (.int p1), .val (.int ix), .val (.long r1), .second, .val (.long z3), .second, .unset, .unset] [(.long z3)])) rfl (hb hby at_57)) ?_
  obtain ⟨_, _, ⟨T6, L6, k6, n6⟩, -, X6, ⟨Lc6, hQ6, l6, y6, z6⟩, st6⟩ := Jvm.LawKit.callS X4 hx (y := (⟨"com/example/rostr/rostr/simulation/SeedsDerivePinLaw", "inv", "(J)J"⟩ : MethodName)) hown (mvT hZ (hw _ (List.mem_of_getElem? (i := 9) rfl))) (mvT hZ (hw _ (List.mem_of_getElem? (i := 10) rfl))) (mvT hZ (hw _ (List.mem_of_getElem? (i := 11) rfl))) (mvT hZ (hw _ (List.mem_of_getElem? (i := 12) rfl))) (by decide) (backOf (W := 2) (rm_inv l Z a0 hw [] ((-4658895280553007687) : Int64) h0 n0 Z0 ) hZ (hw _ (List.mem_of_getElem? (i := 12) rfl)) (hw _ (List.mem_of_getElem? (i := 11) rfl)) (by decide) (by decide)) (g := (mkF m 60 #[.val (.long p0), .second, .val (.int p1), .val (.int ix), .val (.long r1), .second, .val (.long z3), .second, .unset, .unset] [(.long ((-4658895280553007687) : Int64)), (.long z3)])) rfl (by rw [hml]; rfl) (argsL := [(.long ((-4658895280553007687) : Int64))]) (rest := [(.long z3)]) (lenOf pd_1 rfl) rfl (by show 2 * 0 + _ ≤ _; exact Nat.le_of_eq rfl) (hb hby at_60) (fun _ _ => ⟨rfl, eq3, (by decide : 0 + 0 ≤ _), (by decide : 0 + 0 ≤ _)⟩)
  dsimp only [Pt.U, Pt.locs, Pt.cells, Pt.slots] at X6 l6 y6 z6 st6 hQ6
  subst l6 y6 z6
  obtain ⟨rfl, Nq6, eq5⟩ := hQ6
  have N6 := Fr.app N4 Nq6
  refine own_step (T' := T6) (g' := (mkF m 63 #[.val (.long p0), .second, .val (.int p1), .val (.int ix), .val (.long r1), .second, .val (.long z3), .second, .unset, .unset] [(.long (own_inv ((-4658895280553007687) : Int64))), (.long z3)])) st6 ?_
  refine own_step (T' := T6) (g' := (mkF m 64 #[.val (.long p0), .second, .val (.int p1), .val (.int ix), .val (.long r1), .second, .val (.long z3), .second, .unset, .unset] [(.long (z3 * (own_inv ((-4658895280553007687) : Int64))))])) (fun t k => XS.lmul X6.here hx rfl (hb hby at_63) rfl k) ?_
  generalize hd_z4 : (z3 * (own_inv ((-4658895280553007687) : Int64))) = z4
  refine own_step (T' := T6) (g' := (mkF m 66 #[.val (.long p0), .second, .val (.int p1), .val (.int ix), .val (.long r1), .second, .val (.long z4), .second, .unset, .unset] [])) (fun t k => XS.lstore X6.here hx rfl (hb hby at_64) rfl (l' := #[.val (.long p0), .second, .val (.int p1), .val (.int ix), .val (.long r1), .second, .val (.long z4), .second, .unset, .unset]) rfl k) ?_
  refine own_step (T' := T6) (g' := (mkF m 68 #[.val (.long p0), .second, .val (.int p1), .val (.int ix), .val (.long r1), .second, .val (.long z4), .second, .unset, .unset] [(.long z4)])) (fun t k => XS.lload X6.here hx rfl (hb hby at_66) rfl k) ?_
  refine own_step (T' := T6) (g' := (mkF m 70 #[.val (.long p0), .second, .val (.int p1), .val (.int ix), .val (.long r1), .second, .val (.long z4), .second, .unset, .unset] [(.long z4), (.long z4)])) (fun t k => XS.lload X6.here hx rfl (hb hby at_68) rfl k) ?_
  refine own_step (T' := T6) (g' := (mkF m 72 #[.val (.long p0), .second, .val (.int p1), .val (.int ix), .val (.long r1), .second, .val (.long z4), .second, .unset, .unset] [(.int (30 : Int32)), (.long z4), (.long z4)])) (fun t k => XS.bipush X6.here hx rfl (hb hby at_70) k) ?_
  refine own_step (T' := T6) (g' := (mkF m 73 #[.val (.long p0), .second, .val (.int p1), .val (.int ix), .val (.long r1), .second, .val (.long z4), .second, .unset, .unset] [(.long ((z4.toUInt64 >>> (30 : UInt64)).toInt64)), (.long z4)])) (fun t k => XS.lushr X6.here hx rfl (hb hby at_72) rfl k) ?_
  refine own_step (T' := T6) (g' := (mkF m 74 #[.val (.long p0), .second, .val (.int p1), .val (.int ix), .val (.long r1), .second, .val (.long z4), .second, .unset, .unset] [(.long (z4 ^^^ ((z4.toUInt64 >>> (30 : UInt64)).toInt64)))])) (fun t k => XS.lxor X6.here hx rfl (hb hby at_73) rfl k) ?_
  refine own_step (T' := T6) (g' := (mkF m 76 #[.val (.long p0), .second, .val (.int p1), .val (.int ix), .val (.long r1), .second, .val (.long z4), .second, .unset, .unset] [(.long z4), (.long (z4 ^^^ ((z4.toUInt64 >>> (30 : UInt64)).toInt64)))])) (fun t k => XS.lload X6.here hx rfl (hb hby at_74) rfl k) ?_
  refine own_step (T' := T6) (g' := (mkF m 78 #[.val (.long p0), .second, .val (.int p1), .val (.int ix), .val (.long r1), .second, .val (.long z4), .second, .unset, .unset] [(.int (60 : Int32)), (.long z4), (.long (z4 ^^^ ((z4.toUInt64 >>> (30 : UInt64)).toInt64)))])) (fun t k => XS.bipush X6.here hx rfl (hb hby at_76) k) ?_
  refine own_step (T' := T6) (g' := (mkF m 79 #[.val (.long p0), .second, .val (.int p1), .val (.int ix), .val (.long r1), .second, .val (.long z4), .second, .unset, .unset] [(.long ((z4.toUInt64 >>> (60 : UInt64)).toInt64)), (.long (z4 ^^^ ((z4.toUInt64 >>> (30 : UInt64)).toInt64)))])) (fun t k => XS.lushr X6.here hx rfl (hb hby at_78) rfl k) ?_
  refine own_step (T' := T6) (g' := (mkF m 80 #[.val (.long p0), .second, .val (.int p1), .val (.int ix), .val (.long r1), .second, .val (.long z4), .second, .unset, .unset] [(.long ((z4 ^^^ ((z4.toUInt64 >>> (30 : UInt64)).toInt64)) ^^^ ((z4.toUInt64 >>> (60 : UInt64)).toInt64)))])) (fun t k => XS.lxor X6.here hx rfl (hb hby at_79) rfl k) ?_
  generalize hd_z5 : ((z4 ^^^ ((z4.toUInt64 >>> (30 : UInt64)).toInt64)) ^^^ ((z4.toUInt64 >>> (60 : UInt64)).toInt64)) = z5
  refine own_step (T' := T6) (g' := (mkF m 82 #[.val (.long p0), .second, .val (.int p1), .val (.int ix), .val (.long r1), .second, .val (.long z5), .second, .unset, .unset] [])) (fun t k => XS.lstore X6.here hx rfl (hb hby at_80) rfl (l' := #[.val (.long p0), .second, .val (.int p1), .val (.int ix), .val (.long r1), .second, .val (.long z5), .second, .unset, .unset]) rfl k) ?_
  refine own_step (T' := T6) (g' := (mkF m 83 #[.val (.long p0), .second, .val (.int p1), .val (.int ix), .val (.long r1), .second, .val (.long z5), .second, .unset, .unset] [(.long p0)])) (fun t k => XS.lloadN X6.here hx rfl (hb hby at_82) rfl k) ?_
  refine own_step (T' := T6) (g' := (mkF m 84 #[.val (.long p0), .second, .val (.int p1), .val (.int ix), .val (.long r1), .second, .val (.long z5), .second, .unset, .unset] [(.int ix), (.long p0)])) (fun t k => XS.iloadN X6.here hx rfl (hb hby at_83) rfl k) ?_
  refine own_step (T' := T6) (g' := (mkF m 85 #[.val (.long p0), .second, .val (.int p1), .val (.int ix), .val (.long r1), .second, .val (.long z5), .second, .unset, .unset] [(.long (ix.toInt64)), (.long p0)])) (fun t k => XS.i2l X6.here hx rfl (hb hby at_84) rfl k) ?_
  refine own_step (T' := T6) (g' := (mkF m 86 #[.val (.long p0), .second, .val (.int p1), .val (.int ix), .val (.long r1), .second, .val (.long z5), .second, .unset, .unset] [(.long (1 : Int64)), (.long (ix.toInt64)), (.long p0)])) (fun t k => XS.lconst X6.here hx rfl (hb hby at_85) k) ?_
  refine own_step (T' := T6) (g' := (mkF m 87 #[.val (.long p0), .second, .val (.int p1), .val (.int ix), .val (.long r1), .second, .val (.long z5), .second, .unset, .unset] [(.long ((ix.toInt64) + (1 : Int64))), (.long p0)])) (fun t k => XS.ladd X6.here hx rfl (hb hby at_86) rfl k) ?_
  refine own_step (T' := T6) (g' := (mkF m 90 #[.val (.long p0), .second, .val (.int p1), .val (.int ix), .val (.long r1), .second, .val (.long z5), .second, .unset, .unset] [(.long ((-7046029254386353131) : Int64)), (.long ((ix.toInt64) + (1 : Int64))), (.long p0)])) (X6.ldc2Long hx hown (mvT hZ (hw _ (List.mem_of_getElem? (i := 15) rfl))) (g := (mkF m 87 #[.val (.long p0), .second, .val (.int p1), .val (.int ix), .val (.long r1), .second, .val (.long z5), .second, .unset, .unset] [(.long ((ix.toInt64) + (1 : Int64))), (.long p0)])) rfl (hb hby at_87)) ?_
  refine own_step (T' := T6) (g' := (mkF m 91 #[.val (.long p0), .second, .val (.int p1), .val (.int ix), .val (.long r1), .second, .val (.long z5), .second, .unset, .unset] [(.long (((ix.toInt64) + (1 : Int64)) * ((-7046029254386353131) : Int64))), (.long p0)])) (fun t k => XS.lmul X6.here hx rfl (hb hby at_90) rfl k) ?_
  refine own_step (T' := T6) (g' := (mkF m 92 #[.val (.long p0), .second, .val (.int p1), .val (.int ix), .val (.long r1), .second, .val (.long z5), .second, .unset, .unset] [(.long (p0 + (((ix.toInt64) + (1 : Int64)) * ((-7046029254386353131) : Int64))))])) (fun t k => XS.ladd X6.here hx rfl (hb hby at_91) rfl k) ?_
  generalize hd_z6 : (p0 + (((ix.toInt64) + (1 : Int64)) * ((-7046029254386353131) : Int64))) = z6
  refine own_step (T' := T6) (g' := (mkF m 94 #[.val (.long p0), .second, .val (.int p1), .val (.int ix), .val (.long r1), .second, .val (.long z5), .second, .val (.long z6), .second] [])) (fun t k => XS.lstore X6.here hx rfl (hb hby at_92) rfl (l' := #[.val (.long p0), .second, .val (.int p1), .val (.int ix), .val (.long r1), .second, .val (.long z5), .second, .val (.long z6), .second]) rfl k) ?_
  refine own_step (T' := T6) (g' := (mkF m 96 #[.val (.long p0), .second, .val (.int p1), .val (.int ix), .val (.long r1), .second, .val (.long z5), .second, .val (.long z6), .second] [(.long z5)])) (fun t k => XS.lload X6.here hx rfl (hb hby at_94) rfl k) ?_
  refine own_step (T' := T6) (g' := (mkF m 98 #[.val (.long p0), .second, .val (.int p1), .val (.int ix), .val (.long r1), .second, .val (.long z5), .second, .val (.long z6), .second] [(.long z6), (.long z5)])) (fun t k => XS.lload X6.here hx rfl (hb hby at_96) rfl k) ?_
  refine own_step (T' := T6) (g' := (mkF m 99 #[.val (.long p0), .second, .val (.int p1), .val (.int ix), .val (.long r1), .second, .val (.long z5), .second, .val (.long z6), .second] [(.int (lcmpW z5 z6))])) (fun t k => XS.lcmp X6.here hx rfl (hb hby at_98) rfl k) ?_
  have e1 : z1 = own_xs (own_xs (own_state p0 ix) 30 * ((-4658895280553007687) : Int64)) 27 * ((-7723592293110705685) : Int64) := by rw [← hd_z1, ← hd_r1]; exact own_un31 _
  have e2 : z2 = own_xs (own_xs (own_state p0 ix) 30 * ((-4658895280553007687) : Int64)) 27 := by rw [← hd_z2, e1, Int64.mul_assoc, own_i1, Int64.mul_one]
  have e3 : z3 = own_xs (own_state p0 ix) 30 * ((-4658895280553007687) : Int64) := by rw [← hd_z3, e2]; exact own_un27 _
  have e4 : z4 = own_xs (own_state p0 ix) 30 := by rw [← hd_z4, e3, Int64.mul_assoc, own_i2, Int64.mul_one]
  have e5 : z5 = own_state p0 ix := by rw [← hd_z5, e4]; exact own_un30 _
  have e6 : z5 = z6 := by rw [e5, ← hd_z6]; rfl
  refine own_step (T' := T6) (g' := (mkF m 102 #[.val (.long p0), .second, .val (.int p1), .val (.int ix), .val (.long r1), .second, .val (.long z5), .second, .val (.long z6), .second] [])) (fun t k => XS.ifNo X6.here hx rfl (hb hby at_99) rfl ((if0 _ _).trans (teq ((lw_eq _ _).mpr e6)).2) k) ?_
  refine own_step (T' := T6) (g' := (mkF m 103 #[.val (.long p0), .second, .val (.int p1), .val (.int ix), .val (.long r1), .second, .val (.long z5), .second, .val (.long z6), .second] [(.int (1 : Int32))])) (fun t k => XS.iconst X6.here hx rfl (hb hby at_102) k) ?_
  refine own_step (T' := T6) (g' := (mkF m 107 #[.val (.long p0), .second, .val (.int p1), .val (.int ix), .val (.long r1), .second, .val (.long z5), .second, .val (.long z6), .second] [(.int (1 : Int32))])) (fun t k => XS.goto X6.here hx rfl (pc0 := 103) (pc' := 107) rfl (hb hby at_103) (by decide) (by decide) k) ?_
  refine own_rN X6 hx hlk Bd.returns (by simp) (hb hby at_107) ?_ (by decide) (by decide)
  rw [eq5]
  exact ⟨rfl, N6⟩
set_option maxRecDepth 65536 in
set_option maxHeartbeats 40000000 in
theorem comes_1 {Post : Tables → Env → Array Value → State → Outcome → State → Prop} (hpost : ∀ tb e args s v u, (limb_1_1.after args s (.returned v) u = true ∧ limb_1_2.after args s (.returned v) u = true ∧ True) → FrameEnd s (.returned v) u (Jvm.fieldLocs frame_1_writes args s ++ Jvm.arrayLocs frame_1_arrays args s ++ Jvm.staticLocs frame_1_statics s) 0 0 → Post tb e args s (.returned v) u) :
    ArmFor flags0 classFile x code maxLocals ret World_1 tables_1 room_1 Calls_1 rest_1 Pre_1 Post := by
  intro l hfl _ _ p e ha hc hk s m args below hf hA hF happ hP
  obtain ⟨hcalls, hrest, hpre⟩ := hP
  obtain ⟨-, -, -, hnamed, -, -, -, hat⟩ := (Spec.applies_iff hf).mp happ
  obtain ⟨hg, hn⟩ := and_e (Cond.before_iff.mp (show (Jvm.Cond.and given_1 narrow_1).before args s = true from hpre))
  obtain ⟨hc0, hg0⟩ := and_e hg
  obtain ⟨hc1, hg1⟩ := and_e hg0
  obtain ⟨w0, w1, rfl⟩ : ∃ w0 w1 : Value, args = #[w0, w1] := by
    have hs : args.size = 2 := by simpa [Cond.value, given_1] using hc0
    obtain ⟨L⟩ := args
    match L, hs with
    | [w0, w1], _ => exact ⟨w0, w1, rfl⟩
  have hw := fun d (hd : d ∈ tables_1) => atoms_spec (ws := Jvm.Cond.code x code maxLocals ret :: tables_1) hat d (List.mem_cons_of_mem _ hd)
  have hfit : Fit s := fun {y c} hc i hi => by
    obtain ⟨ha, rfl⟩ := Array.getElem?_eq_some_iff.mp hc
    have q := List.all_eq_true.mp ((Array.all_eq_true_iff_forall_mem.mp hF) _ (Array.getElem_mem ha)) i (List.mem_range.mpr hi)
    simpa [Array.getElem?_eq_getElem hi] using q
  obtain ⟨i0, ev0⟩ := isL_v hc1
  obtain rfl : w0 = (.long i0) := Option.some.inj ev0
  obtain ⟨i1, ev1⟩ := is_v hg1
  obtain rfl : w1 = (.int i1) := Option.some.inj ev1

  obtain ⟨n, o, h1, h2, h3, _, L, rfl, ⟨rfl, N⟩, hq⟩ := rm_law l s _ hw tables_1 i0 i1  s.heap s.heap.size (Nat.le_refl _)  p e ha hc hk s m _ below hf ((Spec.applies_iff_loose hf).mp happ).1 ⟨rfl, State.Warmed39.refl s, rfl⟩ trivial
  refine ⟨n, _, h1, h2, h3, hpost _ _ _ _ _ _ ⟨Cond.after_iff.mpr rfl, Cond.after_iff.mpr (eq_i res_at (Term.int_eval (1)) rfl), trivial⟩ ⟨hq.1, hq.2.1, (hq.2.2.sift fun y hy => Or.inr (N y hy)).mono (by decide) (by decide)⟩⟩
theorem main_1_1 : Claimed_1_1 := comes_1 fun _ _ _ _ _ _ h hF => ⟨h.1, hF⟩
theorem main_1_2 : Claimed_1_2 := comes_1 fun _ _ _ _ _ _ h hF => ⟨h.2.1, hF⟩

end Jvm.Pilot.@@N@@
namespace Jvm.Pilot.@@N@@
open Jvm Jvm.ClassFile Sem Op Lib Jvm.Free Jvm.Stand Jvm.Pilot.@@N@@.Jvm.D
/-! MADE BY PROGRAM (witnessworld.py) out of the Statement's table words and the real class files: 9 classes; the members and pool entries that the words name. The judged class is class 1, her method 2. -/
namespace start1
open Jvm.ClassFile
def u (s : String) : CpInfo := .utf8 (stringToUtf16 s)
/-- a pool by its gaps: so many unusable entries, then the entry; so many at the end -/
def gap : Nat → List CpInfo → List CpInfo
  | 0, r => r
  | n + 1, r => .unusable :: gap n r
def poolList (es : List (Nat × CpInfo)) (last : Nat) : List CpInfo := es.foldr (fun e r => gap e.1 (e.2 :: r)) (gap last [])
def pool (es : List (Nat × CpInfo)) (last : Nat) : Array CpInfo := ⟨poolList es last⟩
def fileOf (pool : Array CpInfo) (this : Nat) (attrs : Array Attribute := #[]) (ms : Array MethodInfo := #[]) (fl : Nat := 33) (sup : Nat := 0) (ifs : Array Nat := #[]) (fds : Array FieldInfo := #[]) : ClassFile where
  minorVersion := 0
  majorVersion := 65
  constantPool := pool
  accessFlags := fl
  thisClass := this
  superClass := sup
  interfaces := ifs
  fields := fds
  methods := ms
  attributes := attrs
def plain (name : String) (sup : Option ClassId) : Class where
  name := name
  kind := .ordinary
  loader := none
  accessFlags := 33
  super := sup
  interfaces := #[]
  cf := none
  fields := #[]
  methods := #[]
  instanceTypes := #[]
  staticTypes := #[]
  resolved := #[]
  callSites := []
  init := .initialized
  statics := none
  mirror := none

def pool0 : Array CpInfo := pool [(5, u "<init>"), (0, u "()V"), (1, .class_ 10), (1, u "java/lang/Object")] 113

def k0m0 : Method := { name := "<init>", desc := "()V", sig := { parameters := [], returnType := none }, accessFlags := 1, code := none }
/-- java/lang/Object -/
def k0 : Class := { plain "java/lang/Object" none with
  accessFlags := 33
  interfaces := #[]
  cf := some (fileOf pool0 8 #[] #[{ accessFlags := 1, nameIndex := 5, descriptorIndex := 6, attributes := #[] }] 33 0 #[] #[])
  fields := #[]
  methods := #[k0m0]
  instanceTypes := #[]
  staticTypes := #[]
  resolved := Array.replicate 124 none
  statics := none }

def pool1 : Array CpInfo := pool [(2, .class_ 4), (1, u "java/lang/Object"), (0, u "<init>"), (0, u "()V"), (0, .long 2), (1, .integer 2147483647), (0, .methodref 11 12), (0, .class_ 13), (0, .nameAndType 14 15), (0, u "com/example/rostr/rostr/simulation/Seeds"), (0, u "derive"), (0, u "(JI)J"), (0, .long 10723151780598845931), (1, .methodref 19 20), (0, .class_ 21), (0, .nameAndType 22 23), (0, u "com/example/rostr/rostr/simulation/SeedsDerivePinLaw"), (0, u "inv"), (0, u "(J)J"), (0, .long 13787848793156543929), (1, .long 11400714819323198485), (3, u "law"), (0, u "(JI)Z")] 3

def k1m0 : Method := { name := "<init>", desc := "()V", sig := { parameters := [], returnType := none }, accessFlags := 2, code := none }
def k1c1 : Code := { maxStack := 8, maxLocals := 4, code := method_2_code, exceptionTable := #[], attributes := #[] }
def k1m1 : Method := { name := "inv", desc := "(J)J", sig := { parameters := [.long], returnType := some .long }, accessFlags := 10, code := some k1c1 }
def k1c2 : Code := { maxStack := 6, maxLocals := 10, code := code, exceptionTable := #[], attributes := #[] }
def k1m2 : Method := { name := "law", desc := "(JI)Z", sig := { parameters := [.long, .int], returnType := some .boolean }, accessFlags := 9, code := some k1c2 }
/-- com/example/rostr/rostr/simulation/SeedsDerivePinLaw -/
def k1 : Class := { plain "com/example/rostr/rostr/simulation/SeedsDerivePinLaw" (some 0) with
  accessFlags := 49
  interfaces := #[]
  cf := some (fileOf pool1 19 #[] #[{ accessFlags := 2, nameIndex := 5, descriptorIndex := 6, attributes := #[] }, { accessFlags := 10, nameIndex := 22, descriptorIndex := 23, attributes := #[] }, { accessFlags := 9, nameIndex := 30, descriptorIndex := 31, attributes := #[] }] 49 2 #[] #[])
  fields := #[]
  methods := #[k1m0, k1m1, k1m2]
  instanceTypes := #[]
  staticTypes := #[]
  resolved := Array.replicate 35 none
  statics := none }

def pool2 : Array CpInfo := pool [(2, .class_ 4), (1, u "java/lang/Object"), (0, u "<init>"), (0, u "()V"), (0, .class_ 8), (0, u "com/example/rostr/rostr/simulation/Seeds"), (0, .long 11400714819323198485), (1, .long 13787848793156543929), (1, .long 10723151780598845931), (1, u "GAMMA"), (0, u "J"), (3, u "derive"), (0, u "(JI)J")] 2

def k2m0 : Method := { name := "<init>", desc := "()V", sig := { parameters := [], returnType := none }, accessFlags := 2, code := none }
def k2c1 : Code := { maxStack := 6, maxLocals := 5, code := prog_24_method_2_code, exceptionTable := #[], attributes := #[] }
def k2m1 : Method := { name := "derive", desc := "(JI)J", sig := { parameters := [.long, .int], returnType := some .long }, accessFlags := 9, code := some k2c1 }
/-- com/example/rostr/rostr/simulation/Seeds -/
def k2 : Class := { plain "com/example/rostr/rostr/simulation/Seeds" (some 0) with
  accessFlags := 49
  interfaces := #[]
  cf := some (fileOf pool2 7 #[] #[{ accessFlags := 2, nameIndex := 5, descriptorIndex := 6, attributes := #[] }, { accessFlags := 9, nameIndex := 20, descriptorIndex := 21, attributes := #[] }] 49 2 #[] #[{ accessFlags := 26, nameIndex := 15, descriptorIndex := 16, attributes := #[] }])
  fields := #[{ name := "GAMMA", type := .long, accessFlags := 26, slot := 0, constantValue := 0 }]
  methods := #[k2m0, k2m1]
  instanceTypes := #[]
  staticTypes := #[.long]
  resolved := Array.replicate 24 none
  statics := none }

def pool3 : Array CpInfo := pool [(1, u "java/lang/Cloneable"), (0, .class_ 1), (0, u "java/lang/Object"), (0, .class_ 3)] 3

/-- java/lang/Cloneable -/
def k3 : Class := { plain "java/lang/Cloneable" (some 0) with
  accessFlags := 1537
  interfaces := #[]
  cf := some (fileOf pool3 2 #[] #[] 1537 4 #[] #[])
  fields := #[]
  methods := #[]
  instanceTypes := #[]
  staticTypes := #[]
  resolved := Array.replicate 8 none
  statics := none }

def pool4 : Array CpInfo := pool [(1, u "java/io/Serializable"), (0, .class_ 1), (0, u "java/lang/Object"), (0, .class_ 3)] 3

/-- java/io/Serializable -/
def k4 : Class := { plain "java/io/Serializable" (some 0) with
  accessFlags := 1537
  interfaces := #[]
  cf := some (fileOf pool4 2 #[] #[] 1537 4 #[] #[])
  fields := #[]
  methods := #[]
  instanceTypes := #[]
  staticTypes := #[]
  resolved := Array.replicate 8 none
  statics := none }

/-- the primitive byte -/
def k5 : Class := { plain "byte" none with kind := .primitive 'B', accessFlags := 0x411 }
/-- [B -/
def k6 : Class := { plain "[B" (some 0) with kind := .array 5 .byte, interfaces := #[3, 4], accessFlags := 1041 }

/-- the primitive int -/
def k7 : Class := { plain "int" none with kind := .primitive 'I', accessFlags := 0x411 }
/-- [I -/
def k8 : Class := { plain "[I" (some 0) with kind := .array 7 .int, interfaces := #[3, 4], accessFlags := 1041 }

def heap : Heap := #[]
def classes : Array Class := #[k0, k1, k2, k3, k4, k5, k6, k7, k8]
def interned : List (Array UInt16 × Addr) := []
def slotsUsed : Nat := 0
def theMethod : MethodId := ⟨1, 2⟩
def args0 : Array Value := #[.long 5, .int 3]
def aboutOver (below : List Frame) : State where
  vm := { classes := classes, interned := interned.toArray }
  heap := heap
  slotsUsed := slotsUsed
  threads := #[{ frames := .invoking theMethod args0 :: below }]
def below0 : List Frame := [.native { method := ⟨0, 0⟩, args := #[] }]
def about1 : State := aboutOver below0
def p0 : Program := .bare "" "" ""
def e0 : Env := launch0.env 0 0 0
theorem w_frames : about1.frames = Frame.invoking theMethod args0 :: below0 := rfl
set_option maxRecDepth 65536 in
theorem w_args : argsFit about1.vm theMethod args0 = true := by decide +kernel
set_option maxRecDepth 65536 in
theorem w_heap : heapFits about1 = true := by decide +kernel
set_option maxRecDepth 65536 in
theorem w_runnable : about1.curStatus? = some .runnable := by decide +kernel
set_option maxRecDepth 65536 in
theorem w_alone : about1.alone = true := by decide +kernel
set_option maxRecDepth 65536 in
theorem w_named : about1.methodNamed? x = some theMethod := by decide +kernel
set_option maxRecDepth 65536 in
theorem w_hears : about1.hears theMethod below0 = true := by decide +kernel
set_option maxRecDepth 65536 in
theorem w_ripe : about1.ripe theMethod args0 below0 = true := by decide +kernel
theorem w_running : about1.status = .running := rfl
set_option maxRecDepth 65536 in
theorem w_room : about1.hasRoom e0.platform room_1 = true :=
  launch0.hasRoom_least _ room_1 (by decide +kernel) (by decide +kernel) (by decide +kernel) (by decide +kernel) (by decide +kernel) (by decide +kernel)
theorem allAtoms_all (ts : List Jvm.Cond) (a : Array Jvm.Value) (st : Jvm.State) : (allAtoms ts).before a st = ts.all (fun c => c.before a st) := by
  induction ts with
  | nil => rfl
  | cons c t ih =>
    show (Jvm.Cond.and c (allAtoms t)).before a st = _
    rw [Jvm.Cond.before_and, ih, List.all_cons]
def words1 : List Jvm.Cond := Jvm.Cond.code x code maxLocals ret :: tables_1
/-- a 'code' word, met by the world's own term for the bytes: nothing is compared byte by byte -/
theorem code_word {y : MethodName} {bytes : ByteArray} {mx : Nat} {rt : Option FieldType} {a : Array Value} {s : State} {m : MethodId} {meth : Method} {c : Code} (h1 : s.methodNamed? y = some m) (h2 : s.vm.method? m = some meth) (h3 : meth.code = some c) (h4 : c.code = bytes)
    (h5 : (c.maxLocals == mx && c.exceptionTable.isEmpty && decide (c.maxStack ≤ mostOperands) && decide (meth.sig.returnType = rt) && !meth.locks && decide (parseMethodDescriptor y.desc = some meth.sig)) = true) : (Jvm.Cond.code y bytes mx rt).before a s = true := by
  simp only [Bool.and_eq_true, beq_iff_eq, Bool.not_eq_true', decide_eq_true_eq] at h5
  obtain ⟨⟨⟨⟨⟨g1, g2⟩, g3⟩, g4⟩, g5⟩, g6⟩ := h5
  simp [Cond.before, Cond.holds, Cond.value, h1, h2, h3, h4, g1, g2, g3, g4, g5, g6]
def isCode : Jvm.Cond → Bool
  | .code _ _ _ _ => true
  | _ => false
theorem all_split {L : List Jvm.Cond} {P : Jvm.Cond → Bool} (h1 : L.all (fun c => isCode c || P c) = true) (h2 : ∀ c ∈ L.filter isCode, P c = true) : L.all P = true := by
  refine List.all_eq_true.mpr fun c hc => ?_
  have h := List.all_eq_true.mp h1 c hc
  rcases Bool.eq_false_or_eq_true (isCode c) with hi | hi
  · exact h2 c (List.mem_filter.mpr ⟨hc, hi⟩)
  · simpa [hi] using h
set_option maxRecDepth 65536 in
theorem w_c0 : (Jvm.Cond.code x code maxLocals ret).before args0 about1 = true := code_word (m := ⟨1, 2⟩) (meth := k1m2) (c := k1c2) (by decide +kernel) rfl rfl rfl (by decide +kernel)
set_option maxRecDepth 65536 in
theorem w_c1 : (Jvm.Cond.code ({ cls := "com/example/rostr/rostr/simulation/Seeds", name := "derive", desc := "(JI)J" } : Jvm.MethodName) prog_24_method_2_code (5 : Nat) (Option.some Jvm.ClassFile.FieldType.long)).before args0 about1 = true := code_word (m := ⟨2, 1⟩) (meth := k2m1) (c := k2c1) (by decide +kernel) rfl rfl rfl (by decide +kernel)
set_option maxRecDepth 65536 in
theorem w_c2 : (Jvm.Cond.code ({ cls := "com/example/rostr/rostr/simulation/SeedsDerivePinLaw", name := "inv", desc := "(J)J" } : Jvm.MethodName) method_2_code (4 : Nat) (Option.some Jvm.ClassFile.FieldType.long)).before args0 about1 = true := code_word (m := ⟨1, 1⟩) (meth := k1m1) (c := k1c1) (by decide +kernel) rfl rfl rfl (by decide +kernel)
def codes1 : List Jvm.Cond := [Jvm.Cond.code x code maxLocals ret, Jvm.Cond.code ({ cls := "com/example/rostr/rostr/simulation/Seeds", name := "derive", desc := "(JI)J" } : Jvm.MethodName) prog_24_method_2_code (5 : Nat) (Option.some Jvm.ClassFile.FieldType.long), Jvm.Cond.code ({ cls := "com/example/rostr/rostr/simulation/SeedsDerivePinLaw", name := "inv", desc := "(J)J" } : Jvm.MethodName) method_2_code (4 : Nat) (Option.some Jvm.ClassFile.FieldType.long)]
set_option maxRecDepth 65536 in
theorem codes_eq : words1.filter isCode = codes1 := rfl
theorem w_codes : ∀ c ∈ words1.filter isCode, c.before args0 about1 = true := by
  rw [codes_eq]
  intro c hc
  simp only [codes1, List.mem_cons, List.not_mem_nil, or_false] at hc
  rcases hc with rfl | rfl | rfl
  · exact w_c0
  · exact w_c1
  · exact w_c2
set_option maxRecDepth 65536 in
theorem w_t1 : words1.all (fun c => isCode c || c.before args0 about1) = true := by decide +kernel
theorem w_tables : (allAtoms (Jvm.Cond.code x code maxLocals ret :: tables_1)).before args0 about1 = true := by
  rw [allAtoms_all]
  show words1.all (fun c => c.before args0 about1) = true
  refine all_split ?_ w_codes
  rw [w_t1]
set_option maxRecDepth 65536 in
theorem w_case : (Jvm.Cond.and given_1 narrow_1).before args0 about1 = true := by decide +kernel
theorem w_applies : (headSpec (Jvm.Cond.code x code maxLocals ret :: tables_1) room_1).applies x e0.platform about1 = true :=
  (Spec.applies_iff w_frames).mpr ⟨w_running, w_runnable, w_alone, w_named, w_hears, w_ripe, w_room, w_tables⟩
theorem atStart : AtStart classFile x code maxLocals ret World_1 tables_1 room_1 Calls_1 rest_1 Pre_1 launch0 p0 e0 about1 theMethod args0 below0 :=
  ⟨lists_1, trivial, launch0.admits_env _ _ _, launch0.least_env, fairChoices_fair.cas, fairChoices_fair.clock, w_frames, w_args, w_heap, w_applies, trivial, trivial, w_case⟩
end start1
theorem witness_1 : WitnessClaimed_1 := ⟨start1.p0, start1.e0, start1.about1, start1.theMethod, start1.args0, start1.below0, start1.atStart⟩
end Jvm.Pilot.@@N@@
