import JvmDerived
import JvmDerived.Pilot.@@N@@Statement
import JvmDerived.Pilot.@@N@@Code
set_option linter.unusedVariables false
set_option linter.unusedSimpArgs false
@@BLOCK:NumsL.lean.txt@@
namespace Jvm.Pilot.@@N@@
open Jvm Jvm.ClassFile Sem Op Lib Jvm.Free Jvm.Stand Jvm.LawKit Jvm.RoadKit Bundle Jvm.Pilot.@@N@@.Jvm.D

section OwnKit
variable {p : Program} {l : Launch} {e : Env} {R : Room} {s : State} {m : MethodId} {args : Array Value} {below : List Frame} {meth : Method} {c : Code} {T : State} {locs : List Loc} {cells slots : Nat}
def own_Go (p : Program) (e : Env) (below : List Frame) (s : State) (Q : Option Value → Heap → List Loc → Prop) (rc rs : Nat) (T : State) (g : JFrame) : Prop :=
  ∃ s₂ o, Steps p.tables e below (T.setTop g) s₂ ∧ s₂.status = .running ∧ Ended s₂ below o ∧ ∃ v L, o = .returned v ∧ Q v s₂.heap L ∧ FrameEnd s o s₂ L rc rs
variable {Q : Option Value → Heap → List Loc → Prop} {rc rs : Nat} {T' : State} {g g' : JFrame}
theorem own_step (st : ∀ target, Steps p.tables e below (T'.setTop g') target → Steps p.tables e below (T.setTop g) target) (k : own_Go p e below s Q rc rs T' g') : own_Go p e below s Q rc rs T g := by
  obtain ⟨s₂, o, h1, h2⟩ := k
  exact ⟨s₂, o, st _ h1, h2⟩
theorem own_tr (st : Steps p.tables e below (T.setTop g) (T'.setTop g')) (k : own_Go p e below s Q rc rs T' g') : own_Go p e below s Q rc rs T g := by
  obtain ⟨s₂, o, h1, h2⟩ := k
  exact ⟨s₂, o, st.trans h1, h2⟩
theorem own_cast (q : g = g') (k : own_Go p e below s Q rc rs T g') : own_Go p e below s Q rc rs T g := q ▸ k
theorem own_done (X : Stand p l e R s m args below meth c T locs cells slots) {v : Option Value} (hv : meth.sig.returnType = none → v = none) (hlk : meth.locks = false)
    (st : ∀ fs, (∀ (f : JFrame) (acts : List Action), f.method = m → f.locked = none → f.entered = [] → (doReturn e (T.setTop f) acts v).1 = T.setFrames fs) → Steps p.tables e below (T.setTop g) (T.setFrames fs))
    (hQ : Q v T.heap locs) (hc : cells ≤ rc) (hs : slots ≤ rs) : own_Go p e below s Q rc rs T g := by
  obtain ⟨fs, hr, hrun, hended, hW, hsame⟩ := X.leave (v := v) hv hlk
  exact ⟨_, _, st fs hr, hrun, hended, v, locs, rfl, hQ, ⟨_, rfl⟩, hW, hsame.mono hc hs⟩
theorem own_rN (X : Stand p l e R s m args below meth c T locs cells slots) (hx : p.tables.exec = Jvm.exec) (hlk : meth.locks = false) {t : FieldType} (hret : meth.sig.returnType = some t) (ht : t = .boolean ∨ t = .byte ∨ t = .char ∨ t = .short) {pc : Nat} {Ls : Array Slot} {z : Int32} {rest : List Value}
    (hd : decode c.code pc = .ok (.ireturn, 1)) (hQ : Q (some (.int (nar t z))) T.heap locs) (hc : cells ≤ rc) (hs : slots ≤ rs) : own_Go p e below s Q rc rs T (mkF m pc Ls (.int z :: rest)) :=
  own_done X (fun h => by rw [hret] at h; cases h) hlk (fun fs hr => retN X hx hret ht hd hr) hQ hc hs
theorem own_rI (X : Stand p l e R s m args below meth c T locs cells slots) (hx : p.tables.exec = Jvm.exec) (hlk : meth.locks = false) (hret : meth.sig.returnType = some .int) {pc : Nat} {Ls : Array Slot} {z : Int32} {rest : List Value}
    (hd : decode c.code pc = .ok (.ireturn, 1)) (hQ : Q (some (.int z)) T.heap locs) (hc : cells ≤ rc) (hs : slots ≤ rs) : own_Go p e below s Q rc rs T (mkF m pc Ls (.int z :: rest)) :=
  own_done X (fun h => by rw [hret] at h; cases h) hlk (fun fs hr => retOut X hx hret rfl (Or.inl ⟨rfl, Or.inl rfl, _, rfl⟩) hd hr) hQ hc hs
theorem own_rJ (X : Stand p l e R s m args below meth c T locs cells slots) (hx : p.tables.exec = Jvm.exec) (hlk : meth.locks = false) (hret : meth.sig.returnType = some .long) {pc : Nat} {Ls : Array Slot} {z : Int64} {rest : List Value}
    (hd : decode c.code pc = .ok (.lreturn, 1)) (hQ : Q (some (.long z)) T.heap locs) (hc : cells ≤ rc) (hs : slots ≤ rs) : own_Go p e below s Q rc rs T (mkF m pc Ls (.long z :: rest)) :=
  own_done X (fun h => by rw [hret] at h; cases h) hlk (fun fs hr => retOut X hx hret rfl (Or.inr (Or.inl ⟨rfl, rfl, _, rfl⟩)) hd hr) hQ hc hs
theorem own_narA {t : FieldType} {w : Value} (ht : t.isReference = true) (hw : w.isRef = true) : narrow t w = w := by cases t <;> cases w <;> first | rfl | cases ht | cases hw
theorem own_rA (X : Stand p l e R s m args below meth c T locs cells slots) (hx : p.tables.exec = Jvm.exec) (hlk : meth.locks = false) {t : FieldType} (hret : meth.sig.returnType = some t) (ht : t.isReference = true) {pc : Nat} {Ls : Array Slot} {w : Value} {rest : List Value} (hw : w.isRef = true)
    (hd : decode c.code pc = .ok (.areturn, 1)) (hQ : Q (some w) T.heap locs) (hc : cells ≤ rc) (hs : slots ≤ rs) : own_Go p e below s Q rc rs T (mkF m pc Ls (w :: rest)) :=
  own_done X (fun h => by rw [hret] at h; cases h) hlk (fun fs hr => retOut X hx hret (own_narA ht hw) (Or.inr (Or.inr (Or.inr (Or.inr ⟨rfl, ht, hw⟩)))) hd hr) hQ hc hs
theorem own_rV (X : Stand p l e R s m args below meth c T locs cells slots) (hx : p.tables.exec = Jvm.exec) (hlk : meth.locks = false) (hret : meth.sig.returnType = none) {pc : Nat} {Ls : Array Slot}
    (hd : decode c.code pc = .ok (.return_, 1)) (hQ : Q none T.heap locs) (hc : cells ≤ rc) (hs : slots ≤ rs) : own_Go p e below s Q rc rs T (mkF m pc Ls []) :=
  own_done X (fun _ => rfl) hlk (fun fs hr => X.returnOut hx hret hd hr) hQ hc hs
end OwnKit
def own_ps (p1 p3 : Int32) : Int32 := ((p1.toUInt32 >>> (((2 : Int32) * p3) &&& 31).toUInt32).toInt32) &&& (3 : Int32)
def own_pick (p1 : Int32) (q2 : Int64) (p3 : Int32) : Int32 := if own_ps p1 p3 = 0 then 10 else if own_ps p1 p3 = 1 then 13 else nar .byte ((q2.toUInt64 >>> (((8 : Int32) * p3) &&& 0x3f).toInt64.toUInt64).toInt64.toInt32.toInt8.toInt32)
def Q_pick (p1 : Int32) (q2 : Int64) (p3 : Int32) (h0 : Heap) (n0 : Nat) (v : Option Value) (h : Heap) (L : List Loc) : Prop := v = some (.int (own_pick p1 q2 p3)) ∧ Fr n0 L ∧ h = h0
theorem ef_rm_pick (m : MethodId) (x0 : Int32) (x1 : Int64) (x2 : Int32) : entryFrame m #[(.int x0), (.long x1), (.int x2)] 5 = mkF m 0 #[.val (.int x0), .val (.long x1), .second, .val (.int x2), .unset] [] := by first | (simp [entryFrame, mkF, argsToLocals, Value.category]; done) | rfl | (simp [entryFrame, mkF, argsToLocals, Value.category] <;> rfl)
theorem pn_0 : plainName "com/example/pollster/pollster/HttpHeadEndPinLaw" = true := by first | (simp [plainName, overriddenIn]; done) | decide +kernel
theorem d1_0 : decode method_2_code 0 = .ok (.iload_n 0, 1) := by decide +kernel
theorem d1_1 : decode method_2_code 1 = .ok (.iconst 2, 1) := by decide +kernel
theorem d1_2 : decode method_2_code 2 = .ok (.iload_n 3, 1) := by decide +kernel
theorem d1_3 : decode method_2_code 3 = .ok (.imul, 1) := by decide +kernel
theorem d1_4 : decode method_2_code 4 = .ok (.iushr, 1) := by decide +kernel
theorem d1_5 : decode method_2_code 5 = .ok (.iconst 3, 1) := by decide +kernel
theorem d1_6 : decode method_2_code 6 = .ok (.iand, 1) := by decide +kernel
theorem d1_7 : decode method_2_code 7 = .ok (.istore 4, 2) := by decide +kernel
theorem d1_9 : decode method_2_code 9 = .ok (.iload 4, 2) := by decide +kernel
theorem d1_11 : decode method_2_code 11 = .ok (.ifCond .ne 6, 3) := by decide +kernel
theorem d1_14 : decode method_2_code 14 = .ok (.bipush 10, 2) := by decide +kernel
theorem d1_16 : decode method_2_code 16 = .ok (.ireturn, 1) := by decide +kernel
theorem d1_17 : decode method_2_code 17 = .ok (.iload 4, 2) := by decide +kernel
theorem d1_19 : decode method_2_code 19 = .ok (.iconst 1, 1) := by decide +kernel
theorem d1_20 : decode method_2_code 20 = .ok (.if_icmp .ne 6, 3) := by decide +kernel
theorem d1_23 : decode method_2_code 23 = .ok (.bipush 13, 2) := by decide +kernel
theorem d1_25 : decode method_2_code 25 = .ok (.ireturn, 1) := by decide +kernel
theorem d1_26 : decode method_2_code 26 = .ok (.lload_n 1, 1) := by decide +kernel
theorem d1_27 : decode method_2_code 27 = .ok (.bipush 8, 2) := by decide +kernel
theorem d1_29 : decode method_2_code 29 = .ok (.iload_n 3, 1) := by decide +kernel
theorem d1_30 : decode method_2_code 30 = .ok (.imul, 1) := by decide +kernel
theorem d1_31 : decode method_2_code 31 = .ok (.lushr, 1) := by decide +kernel
theorem d1_32 : decode method_2_code 32 = .ok (.l2i, 1) := by decide +kernel
theorem d1_33 : decode method_2_code 33 = .ok (.i2b, 1) := by decide +kernel
theorem d1_34 : decode method_2_code 34 = .ok (.ireturn, 1) := by decide +kernel
set_option maxRecDepth 65536 in
set_option maxHeartbeats 40000000 in
theorem rm_pick (l : Launch) (Z : State) (a0 : Array Value) (hw : ∀ d ∈ tables_1, d.before a0 Z = true) (ws : List Jvm.Cond) (p1 : Int32) (q2 : Int64) (p3 : Int32) (h0 : Heap) (n0 : Nat) (Z0 : n0 ≤ h0.size)  :
    MetFree l (⟨"com/example/pollster/pollster/HttpHeadEndPinLaw", "pick", "(IJI)B"⟩ : MethodName) (head1 (Jvm.Cond.code (⟨"com/example/pollster/pollster/HttpHeadEndPinLaw", "pick", "(IJI)B"⟩ : MethodName) method_2_code 5 (some (.byte)) :: ws) ({ frames := 0, cells := 0, slots := 0, locals := 0 } : Room)) (fun a U => a = #[(.int p1), (.long q2), (.int p3)] ∧ Z.Warmed39 U.vm ∧ U.heap = h0) (fun _ _ _ _ _ => True) (fun _ U o U' => ∃ v L, o = .returned v ∧ (Q_pick p1 q2 p3 h0 n0) v U'.heap L ∧ FrameEnd U o U' L ({ frames := 0, cells := 0, slots := 0, locals := 0 } : Room).cells ({ frames := 0, cells := 0, slots := 0, locals := 0 } : Room).slots) := by
  refine MetFree.of_bodySF (plainFor_of_name pn_0) hisR ?_
  intro p e s m args below meth c s₁ Bd hml0 hP hK
  obtain ⟨rfl, hZ, hh⟩ := hP
  have hx := Bd.exec
  have hby := Bd.bytes
  have hlk : meth.locks = false := BodyLoose.notSynchronized Bd
  have hml : c.maxLocals = 5 := hml0
  have hown : s.vm.findClass "com/example/pollster/pollster/HttpHeadEndPinLaw" = some m.cls := findClass_of_methodNamed Bd.named
  have hnm := (name_of_methodNamed Bd.named Bd.method).1
  have X0 : Stand p l e ({ frames := 0, cells := 0, slots := 0, locals := 0 } : Room) s m #[(.int p1), (.long q2), (.int p3)] below meth c s₁ [] 0 0 := Stand.of_body Bd
  have e0 : s₁.heap = h0 := by rw [← hh, Bd.state]; rfl
  have N0 := Fr.nil n0
  show own_Go p e below s (Q_pick p1 q2 p3 h0 n0) ({ frames := 0, cells := 0, slots := 0, locals := 0 } : Room).cells ({ frames := 0, cells := 0, slots := 0, locals := 0 } : Room).slots s₁ (entryFrame m #[(.int p1), (.long q2), (.int p3)] 5)
  refine own_cast (g' := (mkF m 0 #[.val (.int p1), .val (.long q2), .second, .val (.int p3), .unset] [])) (ef_rm_pick m p1 q2 p3) ?_
  refine own_step (T' := s₁) (g' := (mkF m 1 #[.val (.int p1), .val (.long q2), .second, .val (.int p3), .unset] [(.int p1)])) (fun t k => XS.iloadN X0.here hx rfl (hb hby d1_0) rfl k) ?_
  refine own_step (T' := s₁) (g' := (mkF m 2 #[.val (.int p1), .val (.long q2), .second, .val (.int p3), .unset] [(.int (2 : Int32)), (.int p1)])) (fun t k => XS.iconst X0.here hx rfl (hb hby d1_1) k) ?_
  refine own_step (T' := s₁) (g' := (mkF m 3 #[.val (.int p1), .val (.long q2), .second, .val (.int p3), .unset] [(.int p3), (.int (2 : Int32)), (.int p1)])) (fun t k => XS.iloadN X0.here hx rfl (hb hby d1_2) rfl k) ?_
  refine own_step (T' := s₁) (g' := (mkF m 4 #[.val (.int p1), .val (.long q2), .second, .val (.int p3), .unset] [(.int ((2 : Int32) * p3)), (.int p1)])) (fun t k => XS.imul X0.here hx rfl (hb hby d1_3) rfl k) ?_
  refine own_step (T' := s₁) (g' := (mkF m 5 #[.val (.int p1), .val (.long q2), .second, .val (.int p3), .unset] [(.int ((p1.toUInt32 >>> (((2 : Int32) * p3) &&& 31).toUInt32).toInt32))])) (fun t k => XS.iushr X0.here hx rfl (hb hby d1_4) rfl k) ?_
  refine own_step (T' := s₁) (g' := (mkF m 6 #[.val (.int p1), .val (.long q2), .second, .val (.int p3), .unset] [(.int (3 : Int32)), (.int ((p1.toUInt32 >>> (((2 : Int32) * p3) &&& 31).toUInt32).toInt32))])) (fun t k => XS.iconst X0.here hx rfl (hb hby d1_5) k) ?_
  refine own_step (T' := s₁) (g' := (mkF m 7 #[.val (.int p1), .val (.long q2), .second, .val (.int p3), .unset] [(.int (((p1.toUInt32 >>> (((2 : Int32) * p3) &&& 31).toUInt32).toInt32) &&& (3 : Int32)))])) (fun t k => XS.iand X0.here hx rfl (hb hby d1_6) rfl k) ?_
  generalize hd_sl : (((p1.toUInt32 >>> (((2 : Int32) * p3) &&& 31).toUInt32).toInt32) &&& (3 : Int32)) = sl
  refine own_step (T' := s₁) (g' := (mkF m 9 #[.val (.int p1), .val (.long q2), .second, .val (.int p3), .val (.int sl)] [])) (fun t k => XS.istore X0.here hx rfl (hb hby d1_7) rfl (l' := #[.val (.int p1), .val (.long q2), .second, .val (.int p3), .val (.int sl)]) rfl k) ?_
  refine own_step (T' := s₁) (g' := (mkF m 11 #[.val (.int p1), .val (.long q2), .second, .val (.int p3), .val (.int sl)] [(.int sl)])) (fun t k => XS.iload X0.here hx rfl (hb hby d1_9) rfl k) ?_
  by_cases c11 : sl = (0 : Int32)
  · refine own_step (T' := s₁) (g' := (mkF m 14 #[.val (.int p1), .val (.long q2), .second, .val (.int p3), .val (.int sl)] [])) (fun t k => XS.ifNo X0.here hx rfl (hb hby d1_11) rfl ((if0 _ _).trans (teq c11).2) k) ?_
    refine own_step (T' := s₁) (g' := (mkF m 16 #[.val (.int p1), .val (.long q2), .second, .val (.int p3), .val (.int sl)] [(.int (10 : Int32))])) (fun t k => XS.bipush X0.here hx rfl (hb hby d1_14) k) ?_
    refine own_rN X0 hx hlk Bd.returns (by simp) (hb hby d1_16) ?_ (by decide) (by decide)
    rw [e0]
    have e1 : own_ps p1 p3 = sl := hd_sl
    exact ⟨by first | (rw [own_pick, e1, if_pos c11]; done) | (rw [own_pick, e1, if_pos c11]; rfl), N0, rfl⟩
  · refine own_step (T' := s₁) (g' := (mkF m 17 #[.val (.int p1), .val (.long q2), .second, .val (.int p3), .val (.int sl)] [])) (fun t k => XS.ifYes X0.here hx rfl (pc0 := 11) (pc' := 17) rfl (hb hby d1_11) rfl ((if0 _ _).trans (feq c11).2) (by decide) (by decide) k) ?_
    refine own_step (T' := s₁) (g' := (mkF m 19 #[.val (.int p1), .val (.long q2), .second, .val (.int p3), .val (.int sl)] [(.int sl)])) (fun t k => XS.iload X0.here hx rfl (hb hby d1_17) rfl k) ?_
    refine own_step (T' := s₁) (g' := (mkF m 20 #[.val (.int p1), .val (.long q2), .second, .val (.int p3), .val (.int sl)] [(.int (1 : Int32)), (.int sl)])) (fun t k => XS.iconst X0.here hx rfl (hb hby d1_19) k) ?_
    by_cases c20 : sl = (1 : Int32)
    · refine own_step (T' := s₁) (g' := (mkF m 23 #[.val (.int p1), .val (.long q2), .second, .val (.int p3), .val (.int sl)] [])) (fun t k => XS.icmpNo X0.here hx rfl (hb hby d1_20) rfl (teq c20).2 k) ?_
      refine own_step (T' := s₁) (g' := (mkF m 25 #[.val (.int p1), .val (.long q2), .second, .val (.int p3), .val (.int sl)] [(.int (13 : Int32))])) (fun t k => XS.bipush X0.here hx rfl (hb hby d1_23) k) ?_
      refine own_rN X0 hx hlk Bd.returns (by simp) (hb hby d1_25) ?_ (by decide) (by decide)
      rw [e0]
      have e1 : own_ps p1 p3 = sl := hd_sl
      exact ⟨by first | (rw [own_pick, e1, if_neg c11, if_pos c20]; done) | (rw [own_pick, e1, if_neg c11, if_pos c20]; rfl), N0, rfl⟩
    · refine own_step (T' := s₁) (g' := (mkF m 26 #[.val (.int p1), .val (.long q2), .second, .val (.int p3), .val (.int sl)] [])) (fun t k => XS.icmpYes X0.here hx rfl (pc0 := 20) (pc' := 26) rfl (hb hby d1_20) rfl (feq c20).2 (by decide) (by decide) k) ?_
      refine own_step (T' := s₁) (g' := (mkF m 27 #[.val (.int p1), .val (.long q2), .second, .val (.int p3), .val (.int sl)] [(.long q2)])) (fun t k => XS.lloadN X0.here hx rfl (hb hby d1_26) rfl k) ?_
      refine own_step (T' := s₁) (g' := (mkF m 29 #[.val (.int p1), .val (.long q2), .second, .val (.int p3), .val (.int sl)] [(.int (8 : Int32)), (.long q2)])) (fun t k => XS.bipush X0.here hx rfl (hb hby d1_27) k) ?_
      refine own_step (T' := s₁) (g' := (mkF m 30 #[.val (.int p1), .val (.long q2), .second, .val (.int p3), .val (.int sl)] [(.int p3), (.int (8 : Int32)), (.long q2)])) (fun t k => XS.iloadN X0.here hx rfl (hb hby d1_29) rfl k) ?_
      refine own_step (T' := s₁) (g' := (mkF m 31 #[.val (.int p1), .val (.long q2), .second, .val (.int p3), .val (.int sl)] [(.int ((8 : Int32) * p3)), (.long q2)])) (fun t k => XS.imul X0.here hx rfl (hb hby d1_30) rfl k) ?_
      refine own_step (T' := s₁) (g' := (mkF m 32 #[.val (.int p1), .val (.long q2), .second, .val (.int p3), .val (.int sl)] [(.long ((q2.toUInt64 >>> (((8 : Int32) * p3) &&& 0x3f).toInt64.toUInt64).toInt64))])) (fun t k => XS.lushr X0.here hx rfl (hb hby d1_31) rfl k) ?_
      refine own_step (T' := s₁) (g' := (mkF m 33 #[.val (.int p1), .val (.long q2), .second, .val (.int p3), .val (.int sl)] [(.int (((q2.toUInt64 >>> (((8 : Int32) * p3) &&& 0x3f).toInt64.toUInt64).toInt64).toInt32))])) (fun t k => XS.l2i X0.here hx rfl (hb hby d1_32) rfl k) ?_
      refine own_step (T' := s₁) (g' := (mkF m 34 #[.val (.int p1), .val (.long q2), .second, .val (.int p3), .val (.int sl)] [(.int ((((q2.toUInt64 >>> (((8 : Int32) * p3) &&& 0x3f).toInt64.toUInt64).toInt64).toInt32).toInt8.toInt32))])) (fun t k => XS.i2b X0.here hx rfl (hb hby d1_33) rfl k) ?_
      refine own_rN X0 hx hlk Bd.returns (by simp) (hb hby d1_34) ?_ (by decide) (by decide)
      rw [e0]
      have e1 : own_ps p1 p3 = sl := hd_sl
      exact ⟨by first | (rw [own_pick, e1, if_neg c11, if_neg c20]; done) | (rw [own_pick, e1, if_neg c11, if_neg c20]; rfl), N0, rfl⟩
def own_ea2 (g f nA nB : Bool) : Int32 := if g = true then 0 else if f = true then 0 else if nA = true then (if nB = true then 1 else 0) else 0
def Q_ea2 (p3 p4 y0 y1 y2 y3 y4 y5 : Int32) (h0 : Heap) (n0 : Nat) (v : Option Value) (h : Heap) (L : List Loc) : Prop := v = some (.int (own_ea2 (decide (p4 < (2 : Int32))) (decide ((0 : Int32) < p3)) (decide (y1 = (10 : Int32))) (decide (y0 = (10 : Int32))))) ∧ Fr n0 L ∧ h = h0
theorem ef_rm_ea2 (m : MethodId) (x0 : Addr) (x1 : Int32) (x2 : Int32) (x3 : Int32) : entryFrame m #[(.ref x0), (.int x1), (.int x2), (.int x3)] 4 = mkF m 0 #[.val (.ref x0), .val (.int x1), .val (.int x2), .val (.int x3)] [] := by first | (simp [entryFrame, mkF, argsToLocals, Value.category]; done) | rfl | (simp [entryFrame, mkF, argsToLocals, Value.category] <;> rfl)
theorem own_neg1 {f : Int32} (h : ¬ f < 0) : ((-1) : Int32) < f := by
  rw [Int32.lt_iff_toInt_lt] at h ⊢
  have z0 : (0 : Int32).toInt = 0 := by decide
  have z1 : ((-1) : Int32).toInt = -1 := by decide
  rw [z0] at h; rw [z1]; omega
theorem d2_0 : decode method_3_code 0 = .ok (.iload_n 1, 1) := by decide +kernel
theorem d2_1 : decode method_3_code 1 = .ok (.iload_n 3, 1) := by decide +kernel
theorem d2_2 : decode method_3_code 2 = .ok (.if_icmp .gt 10, 3) := by decide +kernel
theorem d2_12 : decode method_3_code 12 = .ok (.iconst 0, 1) := by decide +kernel
theorem d2_13 : decode method_3_code 13 = .ok (.ireturn, 1) := by decide +kernel
theorem d2_5 : decode method_3_code 5 = .ok (.iload_n 1, 1) := by decide +kernel
theorem d2_6 : decode method_3_code 6 = .ok (.iconst 2, 1) := by decide +kernel
theorem d2_7 : decode method_3_code 7 = .ok (.isub, 1) := by decide +kernel
theorem d2_8 : decode method_3_code 8 = .ok (.iload_n 2, 1) := by decide +kernel
theorem d2_9 : decode method_3_code 9 = .ok (.if_icmp .ge 5, 3) := by decide +kernel
theorem d2_14 : decode method_3_code 14 = .ok (.aload_n 0, 1) := by decide +kernel
theorem d2_15 : decode method_3_code 15 = .ok (.iload_n 1, 1) := by decide +kernel
theorem d2_16 : decode method_3_code 16 = .ok (.iconst 1, 1) := by decide +kernel
theorem d2_17 : decode method_3_code 17 = .ok (.isub, 1) := by decide +kernel
theorem d2_18 : decode method_3_code 18 = .ok (.baload, 1) := by decide +kernel
theorem d2_19 : decode method_3_code 19 = .ok (.bipush 10, 2) := by decide +kernel
theorem d2_21 : decode method_3_code 21 = .ok (.if_icmp .eq 5, 3) := by decide +kernel
theorem d2_26 : decode method_3_code 26 = .ok (.aload_n 0, 1) := by decide +kernel
theorem d2_27 : decode method_3_code 27 = .ok (.iload_n 1, 1) := by decide +kernel
theorem d2_28 : decode method_3_code 28 = .ok (.iconst 2, 1) := by decide +kernel
theorem d2_29 : decode method_3_code 29 = .ok (.isub, 1) := by decide +kernel
theorem d2_30 : decode method_3_code 30 = .ok (.baload, 1) := by decide +kernel
theorem d2_31 : decode method_3_code 31 = .ok (.bipush 10, 2) := by decide +kernel
theorem d2_33 : decode method_3_code 33 = .ok (.if_icmp .ne 5, 3) := by decide +kernel
theorem d2_36 : decode method_3_code 36 = .ok (.iconst 1, 1) := by decide +kernel
theorem d2_37 : decode method_3_code 37 = .ok (.ireturn, 1) := by decide +kernel
theorem d2_38 : decode method_3_code 38 = .ok (.iload_n 1, 1) := by decide +kernel
theorem d2_39 : decode method_3_code 39 = .ok (.iconst 3, 1) := by decide +kernel
theorem d2_40 : decode method_3_code 40 = .ok (.isub, 1) := by decide +kernel
theorem d2_41 : decode method_3_code 41 = .ok (.iload_n 2, 1) := by decide +kernel
theorem d2_42 : decode method_3_code 42 = .ok (.if_icmp .lt 27, 3) := by decide +kernel
theorem d2_69 : decode method_3_code 69 = .ok (.iconst 0, 1) := by decide +kernel
theorem d2_70 : decode method_3_code 70 = .ok (.ireturn, 1) := by decide +kernel
theorem d2_24 : decode method_3_code 24 = .ok (.iconst 0, 1) := by decide +kernel
theorem d2_25 : decode method_3_code 25 = .ok (.ireturn, 1) := by decide +kernel
set_option maxRecDepth 65536 in
set_option maxHeartbeats 40000000 in
theorem rm_ea2 (l : Launch) (Z : State) (a0 : Array Value) (hw : ∀ d ∈ tables_1, d.before a0 Z = true) (ws : List Jvm.Cond) (a1 : Addr) (p3 : Int32) (p4 : Int32) (y0 : Int32) (y1 : Int32) (y2 : Int32) (y3 : Int32) (y4 : Int32) (y5 : Int32) (ka : ClassId) (h0 : Heap) (n0 : Nat) (Z0 : n0 ≤ h0.size) (V_a : Arv Z h0 a1 ka .byte (6 : Int32) [(.int y0), (.int y1), (.int y2), (.int y3), (.int y4), (.int y5)] (.int (0 : Int32))) (hf0 : ¬ p3 < 0) :
    MetFree l (⟨"com/example/pollster/pollster/HttpHeadEndPinLaw", "endsAt", "([BIII)Z"⟩ : MethodName) (head1 (Jvm.Cond.code (⟨"com/example/pollster/pollster/HttpHeadEndPinLaw", "endsAt", "([BIII)Z"⟩ : MethodName) method_3_code 4 (some (.boolean)) :: ws) ({ frames := 0, cells := 0, slots := 0, locals := 0 } : Room)) (fun a U => a = #[(.ref a1), (.int (2 : Int32)), (.int p3), (.int p4)] ∧ Z.Warmed39 U.vm ∧ U.heap = h0) (fun _ _ _ _ _ => True) (fun _ U o U' => ∃ v L, o = .returned v ∧ (Q_ea2 p3 p4 y0 y1 y2 y3 y4 y5 h0 n0) v U'.heap L ∧ FrameEnd U o U' L ({ frames := 0, cells := 0, slots := 0, locals := 0 } : Room).cells ({ frames := 0, cells := 0, slots := 0, locals := 0 } : Room).slots) := by
  refine MetFree.of_bodySF (plainFor_of_name pn_0) hisR ?_
  intro p e s m args below meth c s₁ Bd hml0 hP hK
  obtain ⟨rfl, hZ, hh⟩ := hP
  have hx := Bd.exec
  have hby := Bd.bytes
  have hlk : meth.locks = false := BodyLoose.notSynchronized Bd
  have hml : c.maxLocals = 4 := hml0
  have hown : s.vm.findClass "com/example/pollster/pollster/HttpHeadEndPinLaw" = some m.cls := findClass_of_methodNamed Bd.named
  have hnm := (name_of_methodNamed Bd.named Bd.method).1
  have X0 : Stand p l e ({ frames := 0, cells := 0, slots := 0, locals := 0 } : Room) s m #[(.ref a1), (.int (2 : Int32)), (.int p3), (.int p4)] below meth c s₁ [] 0 0 := Stand.of_body Bd
  have e0 : s₁.heap = h0 := by rw [← hh, Bd.state]; rfl
  have N0 := Fr.nil n0
  show own_Go p e below s (Q_ea2 p3 p4 y0 y1 y2 y3 y4 y5 h0 n0) ({ frames := 0, cells := 0, slots := 0, locals := 0 } : Room).cells ({ frames := 0, cells := 0, slots := 0, locals := 0 } : Room).slots s₁ (entryFrame m #[(.ref a1), (.int (2 : Int32)), (.int p3), (.int p4)] 4)
  refine own_cast (g' := (mkF m 0 #[.val (.ref a1), .val (.int (2 : Int32)), .val (.int p3), .val (.int p4)] [])) (ef_rm_ea2 m a1 (2 : Int32) p3 p4) ?_
  refine own_step (T' := s₁) (g' := (mkF m 1 #[.val (.ref a1), .val (.int (2 : Int32)), .val (.int p3), .val (.int p4)] [(.int (2 : Int32))])) (fun t k => XS.iloadN X0.here hx rfl (hb hby d2_0) rfl k) ?_
  refine own_step (T' := s₁) (g' := (mkF m 2 #[.val (.ref a1), .val (.int (2 : Int32)), .val (.int p3), .val (.int p4)] [(.int p4), (.int (2 : Int32))])) (fun t k => XS.iloadN X0.here hx rfl (hb hby d2_1) rfl k) ?_
  by_cases c2 : p4 < (2 : Int32)
  · refine own_step (T' := s₁) (g' := (mkF m 12 #[.val (.ref a1), .val (.int (2 : Int32)), .val (.int p3), .val (.int p4)] [])) (fun t k => XS.icmpYes X0.here hx rfl (pc0 := 2) (pc' := 12) rfl (hb hby d2_2) rfl (tlt c2).2.2.1 (by decide) (by decide) k) ?_
    refine own_step (T' := s₁) (g' := (mkF m 13 #[.val (.ref a1), .val (.int (2 : Int32)), .val (.int p3), .val (.int p4)] [(.int (0 : Int32))])) (fun t k => XS.iconst X0.here hx rfl (hb hby d2_12) k) ?_
    refine own_rN X0 hx hlk Bd.returns (by simp) (hb hby d2_13) ?_ (by decide) (by decide)
    rw [e0]
    exact ⟨by first | (rw [own_ea2, if_pos (decide_eq_true c2)]; done) | (rw [own_ea2, if_pos (decide_eq_true c2)]; rfl), N0, rfl⟩
  · refine own_step (T' := s₁) (g' := (mkF m 5 #[.val (.ref a1), .val (.int (2 : Int32)), .val (.int p3), .val (.int p4)] [])) (fun t k => XS.icmpNo X0.here hx rfl (hb hby d2_2) rfl (flt c2).2.2.1 k) ?_
    refine own_step (T' := s₁) (g' := (mkF m 6 #[.val (.ref a1), .val (.int (2 : Int32)), .val (.int p3), .val (.int p4)] [(.int (2 : Int32))])) (fun t k => XS.iloadN X0.here hx rfl (hb hby d2_5) rfl k) ?_
    refine own_step (T' := s₁) (g' := (mkF m 7 #[.val (.ref a1), .val (.int (2 : Int32)), .val (.int p3), .val (.int p4)] [(.int (2 : Int32)), (.int (2 : Int32))])) (fun t k => XS.iconst X0.here hx rfl (hb hby d2_6) k) ?_
    refine own_step (T' := s₁) (g' := (mkF m 8 #[.val (.ref a1), .val (.int (2 : Int32)), .val (.int p3), .val (.int p4)] [(.int (0 : Int32))])) (fun t k => XS.isub X0.here hx rfl (hb hby d2_7) rfl k) ?_
    refine own_step (T' := s₁) (g' := (mkF m 9 #[.val (.ref a1), .val (.int (2 : Int32)), .val (.int p3), .val (.int p4)] [(.int p3), (.int (0 : Int32))])) (fun t k => XS.iloadN X0.here hx rfl (hb hby d2_8) rfl k) ?_
    by_cases c9 : (0 : Int32) < p3
    · refine own_step (T' := s₁) (g' := (mkF m 12 #[.val (.ref a1), .val (.int (2 : Int32)), .val (.int p3), .val (.int p4)] [])) (fun t k => XS.icmpNo X0.here hx rfl (hb hby d2_9) rfl (tlt c9).2.1 k) ?_
      refine own_step (T' := s₁) (g' := (mkF m 13 #[.val (.ref a1), .val (.int (2 : Int32)), .val (.int p3), .val (.int p4)] [(.int (0 : Int32))])) (fun t k => XS.iconst X0.here hx rfl (hb hby d2_12) k) ?_
      refine own_rN X0 hx hlk Bd.returns (by simp) (hb hby d2_13) ?_ (by decide) (by decide)
      rw [e0]
      exact ⟨by first | (rw [own_ea2, if_neg (fun z => c2 (of_decide_eq_true z)), if_pos (decide_eq_true c9)]; done) | (rw [own_ea2, if_neg (fun z => c2 (of_decide_eq_true z)), if_pos (decide_eq_true c9)]; rfl), N0, rfl⟩
    · refine own_step (T' := s₁) (g' := (mkF m 14 #[.val (.ref a1), .val (.int (2 : Int32)), .val (.int p3), .val (.int p4)] [])) (fun t k => XS.icmpYes X0.here hx rfl (pc0 := 9) (pc' := 14) rfl (hb hby d2_9) rfl (flt c9).2.1 (by decide) (by decide) k) ?_
      refine own_step (T' := s₁) (g' := (mkF m 15 #[.val (.ref a1), .val (.int (2 : Int32)), .val (.int p3), .val (.int p4)] [(.ref a1)])) (fun t k => XS.aloadN X0.here hx rfl (hb hby d2_14) rfl rfl k) ?_
      refine own_step (T' := s₁) (g' := (mkF m 16 #[.val (.ref a1), .val (.int (2 : Int32)), .val (.int p3), .val (.int p4)] [(.int (2 : Int32)), (.ref a1)])) (fun t k => XS.iloadN X0.here hx rfl (hb hby d2_15) rfl k) ?_
      refine own_step (T' := s₁) (g' := (mkF m 17 #[.val (.ref a1), .val (.int (2 : Int32)), .val (.int p3), .val (.int p4)] [(.int (1 : Int32)), (.int (2 : Int32)), (.ref a1)])) (fun t k => XS.iconst X0.here hx rfl (hb hby d2_16) k) ?_
      refine own_step (T' := s₁) (g' := (mkF m 18 #[.val (.ref a1), .val (.int (2 : Int32)), .val (.int p3), .val (.int p4)] [(.int (1 : Int32)), (.ref a1)])) (fun t k => XS.isub X0.here hx rfl (hb hby d2_17) rfl k) ?_
      obtain ⟨cl1, Ar1, qa1, S1, M1, H1, U1⟩ := id V_a
      have hi1 := inb_of S1 (j := (1 : Int32)) ⟨by decide, by decide⟩
      have hat1 := H1.at hi1 (v := (.int y1)) rfl
      refine own_step (T' := s₁) (g' := (mkF m 19 #[.val (.ref a1), .val (.int (2 : Int32)), .val (.int p3), .val (.int p4)] [(.int y1)])) (fun t k => X0.baloadBytes hx (j := (1 : Int32)) (v := (.int y1)) (by rw [e0]; exact Ar1.1) (State.isArrayOf_alike hZ.alike Ar1.2.1) Ar1.2.2 hi1 hat1 (g := (mkF m 18 #[.val (.ref a1), .val (.int (2 : Int32)), .val (.int p3), .val (.int p4)] [(.int (1 : Int32)), (.ref a1)])) rfl rfl (hb hby d2_18) t k) ?_
      refine own_step (T' := s₁) (g' := (mkF m 21 #[.val (.ref a1), .val (.int (2 : Int32)), .val (.int p3), .val (.int p4)] [(.int (10 : Int32)), (.int y1)])) (fun t k => XS.bipush X0.here hx rfl (hb hby d2_19) k) ?_
      by_cases c21 : y1 = (10 : Int32)
      · refine own_step (T' := s₁) (g' := (mkF m 26 #[.val (.ref a1), .val (.int (2 : Int32)), .val (.int p3), .val (.int p4)] [])) (fun t k => XS.icmpYes X0.here hx rfl (pc0 := 21) (pc' := 26) rfl (hb hby d2_21) rfl (teq c21).1 (by decide) (by decide) k) ?_
        refine own_step (T' := s₁) (g' := (mkF m 27 #[.val (.ref a1), .val (.int (2 : Int32)), .val (.int p3), .val (.int p4)] [(.ref a1)])) (fun t k => XS.aloadN X0.here hx rfl (hb hby d2_26) rfl rfl k) ?_
        refine own_step (T' := s₁) (g' := (mkF m 28 #[.val (.ref a1), .val (.int (2 : Int32)), .val (.int p3), .val (.int p4)] [(.int (2 : Int32)), (.ref a1)])) (fun t k => XS.iloadN X0.here hx rfl (hb hby d2_27) rfl k) ?_
        refine own_step (T' := s₁) (g' := (mkF m 29 #[.val (.ref a1), .val (.int (2 : Int32)), .val (.int p3), .val (.int p4)] [(.int (2 : Int32)), (.int (2 : Int32)), (.ref a1)])) (fun t k => XS.iconst X0.here hx rfl (hb hby d2_28) k) ?_
        refine own_step (T' := s₁) (g' := (mkF m 30 #[.val (.ref a1), .val (.int (2 : Int32)), .val (.int p3), .val (.int p4)] [(.int (0 : Int32)), (.ref a1)])) (fun t k => XS.isub X0.here hx rfl (hb hby d2_29) rfl k) ?_
        obtain ⟨cl2, Ar2, qa2, S2, M2, H2, U2⟩ := id V_a
        have hi2 := inb_of S2 (j := (0 : Int32)) ⟨by decide, by decide⟩
        have hat2 := H2.at hi2 (v := (.int y0)) rfl
        refine own_step (T' := s₁) (g' := (mkF m 31 #[.val (.ref a1), .val (.int (2 : Int32)), .val (.int p3), .val (.int p4)] [(.int y0)])) (fun t k => X0.baloadBytes hx (j := (0 : Int32)) (v := (.int y0)) (by rw [e0]; exact Ar2.1) (State.isArrayOf_alike hZ.alike Ar2.2.1) Ar2.2.2 hi2 hat2 (g := (mkF m 30 #[.val (.ref a1), .val (.int (2 : Int32)), .val (.int p3), .val (.int p4)] [(.int (0 : Int32)), (.ref a1)])) rfl rfl (hb hby d2_30) t k) ?_
        refine own_step (T' := s₁) (g' := (mkF m 33 #[.val (.ref a1), .val (.int (2 : Int32)), .val (.int p3), .val (.int p4)] [(.int (10 : Int32)), (.int y0)])) (fun t k => XS.bipush X0.here hx rfl (hb hby d2_31) k) ?_
        by_cases c33 : y0 = (10 : Int32)
        · refine own_step (T' := s₁) (g' := (mkF m 36 #[.val (.ref a1), .val (.int (2 : Int32)), .val (.int p3), .val (.int p4)] [])) (fun t k => XS.icmpNo X0.here hx rfl (hb hby d2_33) rfl (teq c33).2 k) ?_
          refine own_step (T' := s₁) (g' := (mkF m 37 #[.val (.ref a1), .val (.int (2 : Int32)), .val (.int p3), .val (.int p4)] [(.int (1 : Int32))])) (fun t k => XS.iconst X0.here hx rfl (hb hby d2_36) k) ?_
          refine own_rN X0 hx hlk Bd.returns (by simp) (hb hby d2_37) ?_ (by decide) (by decide)
          rw [e0]
          exact ⟨by first | (rw [own_ea2, if_neg (fun z => c2 (of_decide_eq_true z)), if_neg (fun z => c9 (of_decide_eq_true z)), if_pos (decide_eq_true c21), if_pos (decide_eq_true c33)]; done) | (rw [own_ea2, if_neg (fun z => c2 (of_decide_eq_true z)), if_neg (fun z => c9 (of_decide_eq_true z)), if_pos (decide_eq_true c21), if_pos (decide_eq_true c33)]; rfl), N0, rfl⟩
        · refine own_step (T' := s₁) (g' := (mkF m 38 #[.val (.ref a1), .val (.int (2 : Int32)), .val (.int p3), .val (.int p4)] [])) (fun t k => XS.icmpYes X0.here hx rfl (pc0 := 33) (pc' := 38) rfl (hb hby d2_33) rfl (feq c33).2 (by decide) (by decide) k) ?_
          refine own_step (T' := s₁) (g' := (mkF m 39 #[.val (.ref a1), .val (.int (2 : Int32)), .val (.int p3), .val (.int p4)] [(.int (2 : Int32))])) (fun t k => XS.iloadN X0.here hx rfl (hb hby d2_38) rfl k) ?_
          refine own_step (T' := s₁) (g' := (mkF m 40 #[.val (.ref a1), .val (.int (2 : Int32)), .val (.int p3), .val (.int p4)] [(.int (3 : Int32)), (.int (2 : Int32))])) (fun t k => XS.iconst X0.here hx rfl (hb hby d2_39) k) ?_
          refine own_step (T' := s₁) (g' := (mkF m 41 #[.val (.ref a1), .val (.int (2 : Int32)), .val (.int p3), .val (.int p4)] [(.int ((-1) : Int32))])) (fun t k => XS.isub X0.here hx rfl (hb hby d2_40) rfl k) ?_
          refine own_step (T' := s₁) (g' := (mkF m 42 #[.val (.ref a1), .val (.int (2 : Int32)), .val (.int p3), .val (.int p4)] [(.int p3), (.int ((-1) : Int32))])) (fun t k => XS.iloadN X0.here hx rfl (hb hby d2_41) rfl k) ?_
          refine own_step (T' := s₁) (g' := (mkF m 69 #[.val (.ref a1), .val (.int (2 : Int32)), .val (.int p3), .val (.int p4)] [])) (fun t k => XS.icmpYes X0.here hx rfl (pc0 := 42) (pc' := 69) rfl (hb hby d2_42) rfl (tlt (own_neg1 hf0)).1 (by decide) (by decide) k) ?_
          refine own_step (T' := s₁) (g' := (mkF m 70 #[.val (.ref a1), .val (.int (2 : Int32)), .val (.int p3), .val (.int p4)] [(.int (0 : Int32))])) (fun t k => XS.iconst X0.here hx rfl (hb hby d2_69) k) ?_
          refine own_rN X0 hx hlk Bd.returns (by simp) (hb hby d2_70) ?_ (by decide) (by decide)
          rw [e0]
          exact ⟨by first | (rw [own_ea2, if_neg (fun z => c2 (of_decide_eq_true z)), if_neg (fun z => c9 (of_decide_eq_true z)), if_pos (decide_eq_true c21), if_neg (fun z => c33 (of_decide_eq_true z))]; done) | (rw [own_ea2, if_neg (fun z => c2 (of_decide_eq_true z)), if_neg (fun z => c9 (of_decide_eq_true z)), if_pos (decide_eq_true c21), if_neg (fun z => c33 (of_decide_eq_true z))]; rfl), N0, rfl⟩
      · refine own_step (T' := s₁) (g' := (mkF m 24 #[.val (.ref a1), .val (.int (2 : Int32)), .val (.int p3), .val (.int p4)] [])) (fun t k => XS.icmpNo X0.here hx rfl (hb hby d2_21) rfl (feq c21).1 k) ?_
        refine own_step (T' := s₁) (g' := (mkF m 25 #[.val (.ref a1), .val (.int (2 : Int32)), .val (.int p3), .val (.int p4)] [(.int (0 : Int32))])) (fun t k => XS.iconst X0.here hx rfl (hb hby d2_24) k) ?_
        refine own_rN X0 hx hlk Bd.returns (by simp) (hb hby d2_25) ?_ (by decide) (by decide)
        rw [e0]
        exact ⟨by first | (rw [own_ea2, if_neg (fun z => c2 (of_decide_eq_true z)), if_neg (fun z => c9 (of_decide_eq_true z)), if_neg (fun z => c21 (of_decide_eq_true z))]; done) | (rw [own_ea2, if_neg (fun z => c2 (of_decide_eq_true z)), if_neg (fun z => c9 (of_decide_eq_true z)), if_neg (fun z => c21 (of_decide_eq_true z))]; rfl), N0, rfl⟩
def own_ea3 (g f k nA nB rB nC : Bool) : Int32 := if g = true then 0 else if f = true then 0 else if nA = true then (if nB = true then 1 else (if k = true then 0 else (if rB = true then (if nC = true then 1 else 0) else 0))) else 0
def Q_ea3 (p3 p4 y0 y1 y2 y3 y4 y5 : Int32) (h0 : Heap) (n0 : Nat) (v : Option Value) (h : Heap) (L : List Loc) : Prop := v = some (.int (own_ea3 (decide (p4 < (3 : Int32))) (decide ((1 : Int32) < p3)) (decide ((0 : Int32) < p3)) (decide (y2 = (10 : Int32))) (decide (y1 = (10 : Int32))) (decide (y1 = (13 : Int32))) (decide (y0 = (10 : Int32))))) ∧ Fr n0 L ∧ h = h0
theorem ef_rm_ea3 (m : MethodId) (x0 : Addr) (x1 : Int32) (x2 : Int32) (x3 : Int32) : entryFrame m #[(.ref x0), (.int x1), (.int x2), (.int x3)] 4 = mkF m 0 #[.val (.ref x0), .val (.int x1), .val (.int x2), .val (.int x3)] [] := by first | (simp [entryFrame, mkF, argsToLocals, Value.category]; done) | rfl | (simp [entryFrame, mkF, argsToLocals, Value.category] <;> rfl)
theorem d2_45 : decode method_3_code 45 = .ok (.aload_n 0, 1) := by decide +kernel
theorem d2_46 : decode method_3_code 46 = .ok (.iload_n 1, 1) := by decide +kernel
theorem d2_47 : decode method_3_code 47 = .ok (.iconst 2, 1) := by decide +kernel
theorem d2_48 : decode method_3_code 48 = .ok (.isub, 1) := by decide +kernel
theorem d2_49 : decode method_3_code 49 = .ok (.baload, 1) := by decide +kernel
theorem d2_50 : decode method_3_code 50 = .ok (.bipush 13, 2) := by decide +kernel
theorem d2_52 : decode method_3_code 52 = .ok (.if_icmp .ne 17, 3) := by decide +kernel
theorem d2_55 : decode method_3_code 55 = .ok (.aload_n 0, 1) := by decide +kernel
theorem d2_56 : decode method_3_code 56 = .ok (.iload_n 1, 1) := by decide +kernel
theorem d2_57 : decode method_3_code 57 = .ok (.iconst 3, 1) := by decide +kernel
theorem d2_58 : decode method_3_code 58 = .ok (.isub, 1) := by decide +kernel
theorem d2_59 : decode method_3_code 59 = .ok (.baload, 1) := by decide +kernel
theorem d2_60 : decode method_3_code 60 = .ok (.bipush 10, 2) := by decide +kernel
theorem d2_62 : decode method_3_code 62 = .ok (.if_icmp .ne 7, 3) := by decide +kernel
theorem d2_65 : decode method_3_code 65 = .ok (.iconst 1, 1) := by decide +kernel
theorem d2_66 : decode method_3_code 66 = .ok (.goto 4, 3) := by decide +kernel
set_option maxRecDepth 65536 in
set_option maxHeartbeats 40000000 in
theorem rm_ea3 (l : Launch) (Z : State) (a0 : Array Value) (hw : ∀ d ∈ tables_1, d.before a0 Z = true) (ws : List Jvm.Cond) (a1 : Addr) (p3 : Int32) (p4 : Int32) (y0 : Int32) (y1 : Int32) (y2 : Int32) (y3 : Int32) (y4 : Int32) (y5 : Int32) (ka : ClassId) (h0 : Heap) (n0 : Nat) (Z0 : n0 ≤ h0.size) (V_a : Arv Z h0 a1 ka .byte (6 : Int32) [(.int y0), (.int y1), (.int y2), (.int y3), (.int y4), (.int y5)] (.int (0 : Int32))) (hf0 : ¬ p3 < 0) :
    MetFree l (⟨"com/example/pollster/pollster/HttpHeadEndPinLaw", "endsAt", "([BIII)Z"⟩ : MethodName) (head1 (Jvm.Cond.code (⟨"com/example/pollster/pollster/HttpHeadEndPinLaw", "endsAt", "([BIII)Z"⟩ : MethodName) method_3_code 4 (some (.boolean)) :: ws) ({ frames := 0, cells := 0, slots := 0, locals := 0 } : Room)) (fun a U => a = #[(.ref a1), (.int (3 : Int32)), (.int p3), (.int p4)] ∧ Z.Warmed39 U.vm ∧ U.heap = h0) (fun _ _ _ _ _ => True) (fun _ U o U' => ∃ v L, o = .returned v ∧ (Q_ea3 p3 p4 y0 y1 y2 y3 y4 y5 h0 n0) v U'.heap L ∧ FrameEnd U o U' L ({ frames := 0, cells := 0, slots := 0, locals := 0 } : Room).cells ({ frames := 0, cells := 0, slots := 0, locals := 0 } : Room).slots) := by
  refine MetFree.of_bodySF (plainFor_of_name pn_0) hisR ?_
  intro p e s m args below meth c s₁ Bd hml0 hP hK
  obtain ⟨rfl, hZ, hh⟩ := hP
  have hx := Bd.exec
  have hby := Bd.bytes
  have hlk : meth.locks = false := BodyLoose.notSynchronized Bd
  have hml : c.maxLocals = 4 := hml0
  have hown : s.vm.findClass "com/example/pollster/pollster/HttpHeadEndPinLaw" = some m.cls := findClass_of_methodNamed Bd.named
  have hnm := (name_of_methodNamed Bd.named Bd.method).1
  have X0 : Stand p l e ({ frames := 0, cells := 0, slots := 0, locals := 0 } : Room) s m #[(.ref a1), (.int (3 : Int32)), (.int p3), (.int p4)] below meth c s₁ [] 0 0 := Stand.of_body Bd
  have e0 : s₁.heap = h0 := by rw [← hh, Bd.state]; rfl
  have N0 := Fr.nil n0
  show own_Go p e below s (Q_ea3 p3 p4 y0 y1 y2 y3 y4 y5 h0 n0) ({ frames := 0, cells := 0, slots := 0, locals := 0 } : Room).cells ({ frames := 0, cells := 0, slots := 0, locals := 0 } : Room).slots s₁ (entryFrame m #[(.ref a1), (.int (3 : Int32)), (.int p3), (.int p4)] 4)
  refine own_cast (g' := (mkF m 0 #[.val (.ref a1), .val (.int (3 : Int32)), .val (.int p3), .val (.int p4)] [])) (ef_rm_ea3 m a1 (3 : Int32) p3 p4) ?_
  refine own_step (T' := s₁) (g' := (mkF m 1 #[.val (.ref a1), .val (.int (3 : Int32)), .val (.int p3), .val (.int p4)] [(.int (3 : Int32))])) (fun t k => XS.iloadN X0.here hx rfl (hb hby d2_0) rfl k) ?_
  refine own_step (T' := s₁) (g' := (mkF m 2 #[.val (.ref a1), .val (.int (3 : Int32)), .val (.int p3), .val (.int p4)] [(.int p4), (.int (3 : Int32))])) (fun t k => XS.iloadN X0.here hx rfl (hb hby d2_1) rfl k) ?_
  by_cases c2 : p4 < (3 : Int32)
  · refine own_step (T' := s₁) (g' := (mkF m 12 #[.val (.ref a1), .val (.int (3 : Int32)), .val (.int p3), .val (.int p4)] [])) (fun t k => XS.icmpYes X0.here hx rfl (pc0 := 2) (pc' := 12) rfl (hb hby d2_2) rfl (tlt c2).2.2.1 (by decide) (by decide) k) ?_
    refine own_step (T' := s₁) (g' := (mkF m 13 #[.val (.ref a1), .val (.int (3 : Int32)), .val (.int p3), .val (.int p4)] [(.int (0 : Int32))])) (fun t k => XS.iconst X0.here hx rfl (hb hby d2_12) k) ?_
    refine own_rN X0 hx hlk Bd.returns (by simp) (hb hby d2_13) ?_ (by decide) (by decide)
    rw [e0]
    exact ⟨by first | (rw [own_ea3, if_pos (decide_eq_true c2)]; done) | (rw [own_ea3, if_pos (decide_eq_true c2)]; rfl), N0, rfl⟩
  · refine own_step (T' := s₁) (g' := (mkF m 5 #[.val (.ref a1), .val (.int (3 : Int32)), .val (.int p3), .val (.int p4)] [])) (fun t k => XS.icmpNo X0.here hx rfl (hb hby d2_2) rfl (flt c2).2.2.1 k) ?_
    refine own_step (T' := s₁) (g' := (mkF m 6 #[.val (.ref a1), .val (.int (3 : Int32)), .val (.int p3), .val (.int p4)] [(.int (3 : Int32))])) (fun t k => XS.iloadN X0.here hx rfl (hb hby d2_5) rfl k) ?_
    refine own_step (T' := s₁) (g' := (mkF m 7 #[.val (.ref a1), .val (.int (3 : Int32)), .val (.int p3), .val (.int p4)] [(.int (2 : Int32)), (.int (3 : Int32))])) (fun t k => XS.iconst X0.here hx rfl (hb hby d2_6) k) ?_
    refine own_step (T' := s₁) (g' := (mkF m 8 #[.val (.ref a1), .val (.int (3 : Int32)), .val (.int p3), .val (.int p4)] [(.int (1 : Int32))])) (fun t k => XS.isub X0.here hx rfl (hb hby d2_7) rfl k) ?_
    refine own_step (T' := s₁) (g' := (mkF m 9 #[.val (.ref a1), .val (.int (3 : Int32)), .val (.int p3), .val (.int p4)] [(.int p3), (.int (1 : Int32))])) (fun t k => XS.iloadN X0.here hx rfl (hb hby d2_8) rfl k) ?_
    by_cases c9 : (1 : Int32) < p3
    · refine own_step (T' := s₁) (g' := (mkF m 12 #[.val (.ref a1), .val (.int (3 : Int32)), .val (.int p3), .val (.int p4)] [])) (fun t k => XS.icmpNo X0.here hx rfl (hb hby d2_9) rfl (tlt c9).2.1 k) ?_
      refine own_step (T' := s₁) (g' := (mkF m 13 #[.val (.ref a1), .val (.int (3 : Int32)), .val (.int p3), .val (.int p4)] [(.int (0 : Int32))])) (fun t k => XS.iconst X0.here hx rfl (hb hby d2_12) k) ?_
      refine own_rN X0 hx hlk Bd.returns (by simp) (hb hby d2_13) ?_ (by decide) (by decide)
      rw [e0]
      exact ⟨by first | (rw [own_ea3, if_neg (fun z => c2 (of_decide_eq_true z)), if_pos (decide_eq_true c9)]; done) | (rw [own_ea3, if_neg (fun z => c2 (of_decide_eq_true z)), if_pos (decide_eq_true c9)]; rfl), N0, rfl⟩
    · refine own_step (T' := s₁) (g' := (mkF m 14 #[.val (.ref a1), .val (.int (3 : Int32)), .val (.int p3), .val (.int p4)] [])) (fun t k => XS.icmpYes X0.here hx rfl (pc0 := 9) (pc' := 14) rfl (hb hby d2_9) rfl (flt c9).2.1 (by decide) (by decide) k) ?_
      refine own_step (T' := s₁) (g' := (mkF m 15 #[.val (.ref a1), .val (.int (3 : Int32)), .val (.int p3), .val (.int p4)] [(.ref a1)])) (fun t k => XS.aloadN X0.here hx rfl (hb hby d2_14) rfl rfl k) ?_
      refine own_step (T' := s₁) (g' := (mkF m 16 #[.val (.ref a1), .val (.int (3 : Int32)), .val (.int p3), .val (.int p4)] [(.int (3 : Int32)), (.ref a1)])) (fun t k => XS.iloadN X0.here hx rfl (hb hby d2_15) rfl k) ?_
      refine own_step (T' := s₁) (g' := (mkF m 17 #[.val (.ref a1), .val (.int (3 : Int32)), .val (.int p3), .val (.int p4)] [(.int (1 : Int32)), (.int (3 : Int32)), (.ref a1)])) (fun t k => XS.iconst X0.here hx rfl (hb hby d2_16) k) ?_
      refine own_step (T' := s₁) (g' := (mkF m 18 #[.val (.ref a1), .val (.int (3 : Int32)), .val (.int p3), .val (.int p4)] [(.int (2 : Int32)), (.ref a1)])) (fun t k => XS.isub X0.here hx rfl (hb hby d2_17) rfl k) ?_
      obtain ⟨cl1, Ar1, qa1, S1, M1, H1, U1⟩ := id V_a
      have hi1 := inb_of S1 (j := (2 : Int32)) ⟨by decide, by decide⟩
      have hat1 := H1.at hi1 (v := (.int y2)) rfl
      refine own_step (T' := s₁) (g' := (mkF m 19 #[.val (.ref a1), .val (.int (3 : Int32)), .val (.int p3), .val (.int p4)] [(.int y2)])) (fun t k => X0.baloadBytes hx (j := (2 : Int32)) (v := (.int y2)) (by rw [e0]; exact Ar1.1) (State.isArrayOf_alike hZ.alike Ar1.2.1) Ar1.2.2 hi1 hat1 (g := (mkF m 18 #[.val (.ref a1), .val (.int (3 : Int32)), .val (.int p3), .val (.int p4)] [(.int (2 : Int32)), (.ref a1)])) rfl rfl (hb hby d2_18) t k) ?_
      refine own_step (T' := s₁) (g' := (mkF m 21 #[.val (.ref a1), .val (.int (3 : Int32)), .val (.int p3), .val (.int p4)] [(.int (10 : Int32)), (.int y2)])) (fun t k => XS.bipush X0.here hx rfl (hb hby d2_19) k) ?_
      by_cases c21 : y2 = (10 : Int32)
      · refine own_step (T' := s₁) (g' := (mkF m 26 #[.val (.ref a1), .val (.int (3 : Int32)), .val (.int p3), .val (.int p4)] [])) (fun t k => XS.icmpYes X0.here hx rfl (pc0 := 21) (pc' := 26) rfl (hb hby d2_21) rfl (teq c21).1 (by decide) (by decide) k) ?_
        refine own_step (T' := s₁) (g' := (mkF m 27 #[.val (.ref a1), .val (.int (3 : Int32)), .val (.int p3), .val (.int p4)] [(.ref a1)])) (fun t k => XS.aloadN X0.here hx rfl (hb hby d2_26) rfl rfl k) ?_
        refine own_step (T' := s₁) (g' := (mkF m 28 #[.val (.ref a1), .val (.int (3 : Int32)), .val (.int p3), .val (.int p4)] [(.int (3 : Int32)), (.ref a1)])) (fun t k => XS.iloadN X0.here hx rfl (hb hby d2_27) rfl k) ?_
        refine own_step (T' := s₁) (g' := (mkF m 29 #[.val (.ref a1), .val (.int (3 : Int32)), .val (.int p3), .val (.int p4)] [(.int (2 : Int32)), (.int (3 : Int32)), (.ref a1)])) (fun t k => XS.iconst X0.here hx rfl (hb hby d2_28) k) ?_
        refine own_step (T' := s₁) (g' := (mkF m 30 #[.val (.ref a1), .val (.int (3 : Int32)), .val (.int p3), .val (.int p4)] [(.int (1 : Int32)), (.ref a1)])) (fun t k => XS.isub X0.here hx rfl (hb hby d2_29) rfl k) ?_
        obtain ⟨cl2, Ar2, qa2, S2, M2, H2, U2⟩ := id V_a
        have hi2 := inb_of S2 (j := (1 : Int32)) ⟨by decide, by decide⟩
        have hat2 := H2.at hi2 (v := (.int y1)) rfl
        refine own_step (T' := s₁) (g' := (mkF m 31 #[.val (.ref a1), .val (.int (3 : Int32)), .val (.int p3), .val (.int p4)] [(.int y1)])) (fun t k => X0.baloadBytes hx (j := (1 : Int32)) (v := (.int y1)) (by rw [e0]; exact Ar2.1) (State.isArrayOf_alike hZ.alike Ar2.2.1) Ar2.2.2 hi2 hat2 (g := (mkF m 30 #[.val (.ref a1), .val (.int (3 : Int32)), .val (.int p3), .val (.int p4)] [(.int (1 : Int32)), (.ref a1)])) rfl rfl (hb hby d2_30) t k) ?_
        refine own_step (T' := s₁) (g' := (mkF m 33 #[.val (.ref a1), .val (.int (3 : Int32)), .val (.int p3), .val (.int p4)] [(.int (10 : Int32)), (.int y1)])) (fun t k => XS.bipush X0.here hx rfl (hb hby d2_31) k) ?_
        by_cases c33 : y1 = (10 : Int32)
        · refine own_step (T' := s₁) (g' := (mkF m 36 #[.val (.ref a1), .val (.int (3 : Int32)), .val (.int p3), .val (.int p4)] [])) (fun t k => XS.icmpNo X0.here hx rfl (hb hby d2_33) rfl (teq c33).2 k) ?_
          refine own_step (T' := s₁) (g' := (mkF m 37 #[.val (.ref a1), .val (.int (3 : Int32)), .val (.int p3), .val (.int p4)] [(.int (1 : Int32))])) (fun t k => XS.iconst X0.here hx rfl (hb hby d2_36) k) ?_
          refine own_rN X0 hx hlk Bd.returns (by simp) (hb hby d2_37) ?_ (by decide) (by decide)
          rw [e0]
          exact ⟨by first | (rw [own_ea3, if_neg (fun z => c2 (of_decide_eq_true z)), if_neg (fun z => c9 (of_decide_eq_true z)), if_pos (decide_eq_true c21), if_pos (decide_eq_true c33)]; done) | (rw [own_ea3, if_neg (fun z => c2 (of_decide_eq_true z)), if_neg (fun z => c9 (of_decide_eq_true z)), if_pos (decide_eq_true c21), if_pos (decide_eq_true c33)]; rfl), N0, rfl⟩
        · refine own_step (T' := s₁) (g' := (mkF m 38 #[.val (.ref a1), .val (.int (3 : Int32)), .val (.int p3), .val (.int p4)] [])) (fun t k => XS.icmpYes X0.here hx rfl (pc0 := 33) (pc' := 38) rfl (hb hby d2_33) rfl (feq c33).2 (by decide) (by decide) k) ?_
          refine own_step (T' := s₁) (g' := (mkF m 39 #[.val (.ref a1), .val (.int (3 : Int32)), .val (.int p3), .val (.int p4)] [(.int (3 : Int32))])) (fun t k => XS.iloadN X0.here hx rfl (hb hby d2_38) rfl k) ?_
          refine own_step (T' := s₁) (g' := (mkF m 40 #[.val (.ref a1), .val (.int (3 : Int32)), .val (.int p3), .val (.int p4)] [(.int (3 : Int32)), (.int (3 : Int32))])) (fun t k => XS.iconst X0.here hx rfl (hb hby d2_39) k) ?_
          refine own_step (T' := s₁) (g' := (mkF m 41 #[.val (.ref a1), .val (.int (3 : Int32)), .val (.int p3), .val (.int p4)] [(.int (0 : Int32))])) (fun t k => XS.isub X0.here hx rfl (hb hby d2_40) rfl k) ?_
          refine own_step (T' := s₁) (g' := (mkF m 42 #[.val (.ref a1), .val (.int (3 : Int32)), .val (.int p3), .val (.int p4)] [(.int p3), (.int (0 : Int32))])) (fun t k => XS.iloadN X0.here hx rfl (hb hby d2_41) rfl k) ?_
          by_cases c42 : (0 : Int32) < p3
          · refine own_step (T' := s₁) (g' := (mkF m 69 #[.val (.ref a1), .val (.int (3 : Int32)), .val (.int p3), .val (.int p4)] [])) (fun t k => XS.icmpYes X0.here hx rfl (pc0 := 42) (pc' := 69) rfl (hb hby d2_42) rfl (tlt c42).1 (by decide) (by decide) k) ?_
            refine own_step (T' := s₁) (g' := (mkF m 70 #[.val (.ref a1), .val (.int (3 : Int32)), .val (.int p3), .val (.int p4)] [(.int (0 : Int32))])) (fun t k => XS.iconst X0.here hx rfl (hb hby d2_69) k) ?_
            refine own_rN X0 hx hlk Bd.returns (by simp) (hb hby d2_70) ?_ (by decide) (by decide)
            rw [e0]
            exact ⟨by first | (rw [own_ea3, if_neg (fun z => c2 (of_decide_eq_true z)), if_neg (fun z => c9 (of_decide_eq_true z)), if_pos (decide_eq_true c21), if_neg (fun z => c33 (of_decide_eq_true z)), if_pos (decide_eq_true c42)]; done) | (rw [own_ea3, if_neg (fun z => c2 (of_decide_eq_true z)), if_neg (fun z => c9 (of_decide_eq_true z)), if_pos (decide_eq_true c21), if_neg (fun z => c33 (of_decide_eq_true z)), if_pos (decide_eq_true c42)]; rfl), N0, rfl⟩
          · refine own_step (T' := s₁) (g' := (mkF m 45 #[.val (.ref a1), .val (.int (3 : Int32)), .val (.int p3), .val (.int p4)] [])) (fun t k => XS.icmpNo X0.here hx rfl (hb hby d2_42) rfl (flt c42).1 k) ?_
            refine own_step (T' := s₁) (g' := (mkF m 46 #[.val (.ref a1), .val (.int (3 : Int32)), .val (.int p3), .val (.int p4)] [(.ref a1)])) (fun t k => XS.aloadN X0.here hx rfl (hb hby d2_45) rfl rfl k) ?_
            refine own_step (T' := s₁) (g' := (mkF m 47 #[.val (.ref a1), .val (.int (3 : Int32)), .val (.int p3), .val (.int p4)] [(.int (3 : Int32)), (.ref a1)])) (fun t k => XS.iloadN X0.here hx rfl (hb hby d2_46) rfl k) ?_
            refine own_step (T' := s₁) (g' := (mkF m 48 #[.val (.ref a1), .val (.int (3 : Int32)), .val (.int p3), .val (.int p4)] [(.int (2 : Int32)), (.int (3 : Int32)), (.ref a1)])) (fun t k => XS.iconst X0.here hx rfl (hb hby d2_47) k) ?_
            refine own_step (T' := s₁) (g' := (mkF m 49 #[.val (.ref a1), .val (.int (3 : Int32)), .val (.int p3), .val (.int p4)] [(.int (1 : Int32)), (.ref a1)])) (fun t k => XS.isub X0.here hx rfl (hb hby d2_48) rfl k) ?_
            obtain ⟨cl3, Ar3, qa3, S3, M3, H3, U3⟩ := id V_a
            have hi3 := inb_of S3 (j := (1 : Int32)) ⟨by decide, by decide⟩
            have hat3 := H3.at hi3 (v := (.int y1)) rfl
            refine own_step (T' := s₁) (g' := (mkF m 50 #[.val (.ref a1), .val (.int (3 : Int32)), .val (.int p3), .val (.int p4)] [(.int y1)])) (fun t k => X0.baloadBytes hx (j := (1 : Int32)) (v := (.int y1)) (by rw [e0]; exact Ar3.1) (State.isArrayOf_alike hZ.alike Ar3.2.1) Ar3.2.2 hi3 hat3 (g := (mkF m 49 #[.val (.ref a1), .val (.int (3 : Int32)), .val (.int p3), .val (.int p4)] [(.int (1 : Int32)), (.ref a1)])) rfl rfl (hb hby d2_49) t k) ?_
            refine own_step (T' := s₁) (g' := (mkF m 52 #[.val (.ref a1), .val (.int (3 : Int32)), .val (.int p3), .val (.int p4)] [(.int (13 : Int32)), (.int y1)])) (fun t k => XS.bipush X0.here hx rfl (hb hby d2_50) k) ?_
            by_cases c52 : y1 = (13 : Int32)
            · refine own_step (T' := s₁) (g' := (mkF m 55 #[.val (.ref a1), .val (.int (3 : Int32)), .val (.int p3), .val (.int p4)] [])) (fun t k => XS.icmpNo X0.here hx rfl (hb hby d2_52) rfl (teq c52).2 k) ?_
              refine own_step (T' := s₁) (g' := (mkF m 56 #[.val (.ref a1), .val (.int (3 : Int32)), .val (.int p3), .val (.int p4)] [(.ref a1)])) (fun t k => XS.aloadN X0.here hx rfl (hb hby d2_55) rfl rfl k) ?_
              refine own_step (T' := s₁) (g' := (mkF m 57 #[.val (.ref a1), .val (.int (3 : Int32)), .val (.int p3), .val (.int p4)] [(.int (3 : Int32)), (.ref a1)])) (fun t k => XS.iloadN X0.here hx rfl (hb hby d2_56) rfl k) ?_
              refine own_step (T' := s₁) (g' := (mkF m 58 #[.val (.ref a1), .val (.int (3 : Int32)), .val (.int p3), .val (.int p4)] [(.int (3 : Int32)), (.int (3 : Int32)), (.ref a1)])) (fun t k => XS.iconst X0.here hx rfl (hb hby d2_57) k) ?_
              refine own_step (T' := s₁) (g' := (mkF m 59 #[.val (.ref a1), .val (.int (3 : Int32)), .val (.int p3), .val (.int p4)] [(.int (0 : Int32)), (.ref a1)])) (fun t k => XS.isub X0.here hx rfl (hb hby d2_58) rfl k) ?_
              obtain ⟨cl4, Ar4, qa4, S4, M4, H4, U4⟩ := id V_a
              have hi4 := inb_of S4 (j := (0 : Int32)) ⟨by decide, by decide⟩
              have hat4 := H4.at hi4 (v := (.int y0)) rfl
              refine own_step (T' := s₁) (g' := (mkF m 60 #[.val (.ref a1), .val (.int (3 : Int32)), .val (.int p3), .val (.int p4)] [(.int y0)])) (fun t k => X0.baloadBytes hx (j := (0 : Int32)) (v := (.int y0)) (by rw [e0]; exact Ar4.1) (State.isArrayOf_alike hZ.alike Ar4.2.1) Ar4.2.2 hi4 hat4 (g := (mkF m 59 #[.val (.ref a1), .val (.int (3 : Int32)), .val (.int p3), .val (.int p4)] [(.int (0 : Int32)), (.ref a1)])) rfl rfl (hb hby d2_59) t k) ?_
              refine own_step (T' := s₁) (g' := (mkF m 62 #[.val (.ref a1), .val (.int (3 : Int32)), .val (.int p3), .val (.int p4)] [(.int (10 : Int32)), (.int y0)])) (fun t k => XS.bipush X0.here hx rfl (hb hby d2_60) k) ?_
              by_cases c62 : y0 = (10 : Int32)
              · refine own_step (T' := s₁) (g' := (mkF m 65 #[.val (.ref a1), .val (.int (3 : Int32)), .val (.int p3), .val (.int p4)] [])) (fun t k => XS.icmpNo X0.here hx rfl (hb hby d2_62) rfl (teq c62).2 k) ?_
                refine own_step (T' := s₁) (g' := (mkF m 66 #[.val (.ref a1), .val (.int (3 : Int32)), .val (.int p3), .val (.int p4)] [(.int (1 : Int32))])) (fun t k => XS.iconst X0.here hx rfl (hb hby d2_65) k) ?_
                refine own_step (T' := s₁) (g' := (mkF m 70 #[.val (.ref a1), .val (.int (3 : Int32)), .val (.int p3), .val (.int p4)] [(.int (1 : Int32))])) (fun t k => XS.goto X0.here hx rfl (pc0 := 66) (pc' := 70) rfl (hb hby d2_66) (by decide) (by decide) k) ?_
                refine own_rN X0 hx hlk Bd.returns (by simp) (hb hby d2_70) ?_ (by decide) (by decide)
                rw [e0]
                exact ⟨by first | (rw [own_ea3, if_neg (fun z => c2 (of_decide_eq_true z)), if_neg (fun z => c9 (of_decide_eq_true z)), if_pos (decide_eq_true c21), if_neg (fun z => c33 (of_decide_eq_true z)), if_neg (fun z => c42 (of_decide_eq_true z)), if_pos (decide_eq_true c52), if_pos (decide_eq_true c62)]; done) | (rw [own_ea3, if_neg (fun z => c2 (of_decide_eq_true z)), if_neg (fun z => c9 (of_decide_eq_true z)), if_pos (decide_eq_true c21), if_neg (fun z => c33 (of_decide_eq_true z)), if_neg (fun z => c42 (of_decide_eq_true z)), if_pos (decide_eq_true c52), if_pos (decide_eq_true c62)]; rfl), N0, rfl⟩
              · refine own_step (T' := s₁) (g' := (mkF m 69 #[.val (.ref a1), .val (.int (3 : Int32)), .val (.int p3), .val (.int p4)] [])) (fun t k => XS.icmpYes X0.here hx rfl (pc0 := 62) (pc' := 69) rfl (hb hby d2_62) rfl (feq c62).2 (by decide) (by decide) k) ?_
                refine own_step (T' := s₁) (g' := (mkF m 70 #[.val (.ref a1), .val (.int (3 : Int32)), .val (.int p3), .val (.int p4)] [(.int (0 : Int32))])) (fun t k => XS.iconst X0.here hx rfl (hb hby d2_69) k) ?_
                refine own_rN X0 hx hlk Bd.returns (by simp) (hb hby d2_70) ?_ (by decide) (by decide)
                rw [e0]
                exact ⟨by first | (rw [own_ea3, if_neg (fun z => c2 (of_decide_eq_true z)), if_neg (fun z => c9 (of_decide_eq_true z)), if_pos (decide_eq_true c21), if_neg (fun z => c33 (of_decide_eq_true z)), if_neg (fun z => c42 (of_decide_eq_true z)), if_pos (decide_eq_true c52), if_neg (fun z => c62 (of_decide_eq_true z))]; done) | (rw [own_ea3, if_neg (fun z => c2 (of_decide_eq_true z)), if_neg (fun z => c9 (of_decide_eq_true z)), if_pos (decide_eq_true c21), if_neg (fun z => c33 (of_decide_eq_true z)), if_neg (fun z => c42 (of_decide_eq_true z)), if_pos (decide_eq_true c52), if_neg (fun z => c62 (of_decide_eq_true z))]; rfl), N0, rfl⟩
            · refine own_step (T' := s₁) (g' := (mkF m 69 #[.val (.ref a1), .val (.int (3 : Int32)), .val (.int p3), .val (.int p4)] [])) (fun t k => XS.icmpYes X0.here hx rfl (pc0 := 52) (pc' := 69) rfl (hb hby d2_52) rfl (feq c52).2 (by decide) (by decide) k) ?_
              refine own_step (T' := s₁) (g' := (mkF m 70 #[.val (.ref a1), .val (.int (3 : Int32)), .val (.int p3), .val (.int p4)] [(.int (0 : Int32))])) (fun t k => XS.iconst X0.here hx rfl (hb hby d2_69) k) ?_
              refine own_rN X0 hx hlk Bd.returns (by simp) (hb hby d2_70) ?_ (by decide) (by decide)
              rw [e0]
              exact ⟨by first | (rw [own_ea3, if_neg (fun z => c2 (of_decide_eq_true z)), if_neg (fun z => c9 (of_decide_eq_true z)), if_pos (decide_eq_true c21), if_neg (fun z => c33 (of_decide_eq_true z)), if_neg (fun z => c42 (of_decide_eq_true z)), if_neg (fun z => c52 (of_decide_eq_true z))]; done) | (rw [own_ea3, if_neg (fun z => c2 (of_decide_eq_true z)), if_neg (fun z => c9 (of_decide_eq_true z)), if_pos (decide_eq_true c21), if_neg (fun z => c33 (of_decide_eq_true z)), if_neg (fun z => c42 (of_decide_eq_true z)), if_neg (fun z => c52 (of_decide_eq_true z))]; rfl), N0, rfl⟩
      · refine own_step (T' := s₁) (g' := (mkF m 24 #[.val (.ref a1), .val (.int (3 : Int32)), .val (.int p3), .val (.int p4)] [])) (fun t k => XS.icmpNo X0.here hx rfl (hb hby d2_21) rfl (feq c21).1 k) ?_
        refine own_step (T' := s₁) (g' := (mkF m 25 #[.val (.ref a1), .val (.int (3 : Int32)), .val (.int p3), .val (.int p4)] [(.int (0 : Int32))])) (fun t k => XS.iconst X0.here hx rfl (hb hby d2_24) k) ?_
        refine own_rN X0 hx hlk Bd.returns (by simp) (hb hby d2_25) ?_ (by decide) (by decide)
        rw [e0]
        exact ⟨by first | (rw [own_ea3, if_neg (fun z => c2 (of_decide_eq_true z)), if_neg (fun z => c9 (of_decide_eq_true z)), if_neg (fun z => c21 (of_decide_eq_true z))]; done) | (rw [own_ea3, if_neg (fun z => c2 (of_decide_eq_true z)), if_neg (fun z => c9 (of_decide_eq_true z)), if_neg (fun z => c21 (of_decide_eq_true z))]; rfl), N0, rfl⟩
def own_ea4 (g f k nA nB rB nC : Bool) : Int32 := if g = true then 0 else if f = true then 0 else if nA = true then (if nB = true then 1 else (if k = true then 0 else (if rB = true then (if nC = true then 1 else 0) else 0))) else 0
def Q_ea4 (p3 p4 y0 y1 y2 y3 y4 y5 : Int32) (h0 : Heap) (n0 : Nat) (v : Option Value) (h : Heap) (L : List Loc) : Prop := v = some (.int (own_ea4 (decide (p4 < (4 : Int32))) (decide ((2 : Int32) < p3)) (decide ((1 : Int32) < p3)) (decide (y3 = (10 : Int32))) (decide (y2 = (10 : Int32))) (decide (y2 = (13 : Int32))) (decide (y1 = (10 : Int32))))) ∧ Fr n0 L ∧ h = h0
theorem ef_rm_ea4 (m : MethodId) (x0 : Addr) (x1 : Int32) (x2 : Int32) (x3 : Int32) : entryFrame m #[(.ref x0), (.int x1), (.int x2), (.int x3)] 4 = mkF m 0 #[.val (.ref x0), .val (.int x1), .val (.int x2), .val (.int x3)] [] := by first | (simp [entryFrame, mkF, argsToLocals, Value.category]; done) | rfl | (simp [entryFrame, mkF, argsToLocals, Value.category] <;> rfl)
set_option maxRecDepth 65536 in
set_option maxHeartbeats 40000000 in
theorem rm_ea4 (l : Launch) (Z : State) (a0 : Array Value) (hw : ∀ d ∈ tables_1, d.before a0 Z = true) (ws : List Jvm.Cond) (a1 : Addr) (p3 : Int32) (p4 : Int32) (y0 : Int32) (y1 : Int32) (y2 : Int32) (y3 : Int32) (y4 : Int32) (y5 : Int32) (ka : ClassId) (h0 : Heap) (n0 : Nat) (Z0 : n0 ≤ h0.size) (V_a : Arv Z h0 a1 ka .byte (6 : Int32) [(.int y0), (.int y1), (.int y2), (.int y3), (.int y4), (.int y5)] (.int (0 : Int32))) (hf0 : ¬ p3 < 0) :
    MetFree l (⟨"com/example/pollster/pollster/HttpHeadEndPinLaw", "endsAt", "([BIII)Z"⟩ : MethodName) (head1 (Jvm.Cond.code (⟨"com/example/pollster/pollster/HttpHeadEndPinLaw", "endsAt", "([BIII)Z"⟩ : MethodName) method_3_code 4 (some (.boolean)) :: ws) ({ frames := 0, cells := 0, slots := 0, locals := 0 } : Room)) (fun a U => a = #[(.ref a1), (.int (4 : Int32)), (.int p3), (.int p4)] ∧ Z.Warmed39 U.vm ∧ U.heap = h0) (fun _ _ _ _ _ => True) (fun _ U o U' => ∃ v L, o = .returned v ∧ (Q_ea4 p3 p4 y0 y1 y2 y3 y4 y5 h0 n0) v U'.heap L ∧ FrameEnd U o U' L ({ frames := 0, cells := 0, slots := 0, locals := 0 } : Room).cells ({ frames := 0, cells := 0, slots := 0, locals := 0 } : Room).slots) := by
  refine MetFree.of_bodySF (plainFor_of_name pn_0) hisR ?_
  intro p e s m args below meth c s₁ Bd hml0 hP hK
  obtain ⟨rfl, hZ, hh⟩ := hP
  have hx := Bd.exec
  have hby := Bd.bytes
  have hlk : meth.locks = false := BodyLoose.notSynchronized Bd
  have hml : c.maxLocals = 4 := hml0
  have hown : s.vm.findClass "com/example/pollster/pollster/HttpHeadEndPinLaw" = some m.cls := findClass_of_methodNamed Bd.named
  have hnm := (name_of_methodNamed Bd.named Bd.method).1
  have X0 : Stand p l e ({ frames := 0, cells := 0, slots := 0, locals := 0 } : Room) s m #[(.ref a1), (.int (4 : Int32)), (.int p3), (.int p4)] below meth c s₁ [] 0 0 := Stand.of_body Bd
  have e0 : s₁.heap = h0 := by rw [← hh, Bd.state]; rfl
  have N0 := Fr.nil n0
  show own_Go p e below s (Q_ea4 p3 p4 y0 y1 y2 y3 y4 y5 h0 n0) ({ frames := 0, cells := 0, slots := 0, locals := 0 } : Room).cells ({ frames := 0, cells := 0, slots := 0, locals := 0 } : Room).slots s₁ (entryFrame m #[(.ref a1), (.int (4 : Int32)), (.int p3), (.int p4)] 4)
  refine own_cast (g' := (mkF m 0 #[.val (.ref a1), .val (.int (4 : Int32)), .val (.int p3), .val (.int p4)] [])) (ef_rm_ea4 m a1 (4 : Int32) p3 p4) ?_
  refine own_step (T' := s₁) (g' := (mkF m 1 #[.val (.ref a1), .val (.int (4 : Int32)), .val (.int p3), .val (.int p4)] [(.int (4 : Int32))])) (fun t k => XS.iloadN X0.here hx rfl (hb hby d2_0) rfl k) ?_
  refine own_step (T' := s₁) (g' := (mkF m 2 #[.val (.ref a1), .val (.int (4 : Int32)), .val (.int p3), .val (.int p4)] [(.int p4), (.int (4 : Int32))])) (fun t k => XS.iloadN X0.here hx rfl (hb hby d2_1) rfl k) ?_
  by_cases c2 : p4 < (4 : Int32)
  · refine own_step (T' := s₁) (g' := (mkF m 12 #[.val (.ref a1), .val (.int (4 : Int32)), .val (.int p3), .val (.int p4)] [])) (fun t k => XS.icmpYes X0.here hx rfl (pc0 := 2) (pc' := 12) rfl (hb hby d2_2) rfl (tlt c2).2.2.1 (by decide) (by decide) k) ?_
    refine own_step (T' := s₁) (g' := (mkF m 13 #[.val (.ref a1), .val (.int (4 : Int32)), .val (.int p3), .val (.int p4)] [(.int (0 : Int32))])) (fun t k => XS.iconst X0.here hx rfl (hb hby d2_12) k) ?_
    refine own_rN X0 hx hlk Bd.returns (by simp) (hb hby d2_13) ?_ (by decide) (by decide)
    rw [e0]
    exact ⟨by first | (rw [own_ea4, if_pos (decide_eq_true c2)]; done) | (rw [own_ea4, if_pos (decide_eq_true c2)]; rfl), N0, rfl⟩
  · refine own_step (T' := s₁) (g' := (mkF m 5 #[.val (.ref a1), .val (.int (4 : Int32)), .val (.int p3), .val (.int p4)] [])) (fun t k => XS.icmpNo X0.here hx rfl (hb hby d2_2) rfl (flt c2).2.2.1 k) ?_
    refine own_step (T' := s₁) (g' := (mkF m 6 #[.val (.ref a1), .val (.int (4 : Int32)), .val (.int p3), .val (.int p4)] [(.int (4 : Int32))])) (fun t k => XS.iloadN X0.here hx rfl (hb hby d2_5) rfl k) ?_
    refine own_step (T' := s₁) (g' := (mkF m 7 #[.val (.ref a1), .val (.int (4 : Int32)), .val (.int p3), .val (.int p4)] [(.int (2 : Int32)), (.int (4 : Int32))])) (fun t k => XS.iconst X0.here hx rfl (hb hby d2_6) k) ?_
    refine own_step (T' := s₁) (g' := (mkF m 8 #[.val (.ref a1), .val (.int (4 : Int32)), .val (.int p3), .val (.int p4)] [(.int (2 : Int32))])) (fun t k => XS.isub X0.here hx rfl (hb hby d2_7) rfl k) ?_
    refine own_step (T' := s₁) (g' := (mkF m 9 #[.val (.ref a1), .val (.int (4 : Int32)), .val (.int p3), .val (.int p4)] [(.int p3), (.int (2 : Int32))])) (fun t k => XS.iloadN X0.here hx rfl (hb hby d2_8) rfl k) ?_
    by_cases c9 : (2 : Int32) < p3
    · refine own_step (T' := s₁) (g' := (mkF m 12 #[.val (.ref a1), .val (.int (4 : Int32)), .val (.int p3), .val (.int p4)] [])) (fun t k => XS.icmpNo X0.here hx rfl (hb hby d2_9) rfl (tlt c9).2.1 k) ?_
      refine own_step (T' := s₁) (g' := (mkF m 13 #[.val (.ref a1), .val (.int (4 : Int32)), .val (.int p3), .val (.int p4)] [(.int (0 : Int32))])) (fun t k => XS.iconst X0.here hx rfl (hb hby d2_12) k) ?_
      refine own_rN X0 hx hlk Bd.returns (by simp) (hb hby d2_13) ?_ (by decide) (by decide)
      rw [e0]
      exact ⟨by first | (rw [own_ea4, if_neg (fun z => c2 (of_decide_eq_true z)), if_pos (decide_eq_true c9)]; done) | (rw [own_ea4, if_neg (fun z => c2 (of_decide_eq_true z)), if_pos (decide_eq_true c9)]; rfl), N0, rfl⟩
    · refine own_step (T' := s₁) (g' := (mkF m 14 #[.val (.ref a1), .val (.int (4 : Int32)), .val (.int p3), .val (.int p4)] [])) (fun t k => XS.icmpYes X0.here hx rfl (pc0 := 9) (pc' := 14) rfl (hb hby d2_9) rfl (flt c9).2.1 (by decide) (by decide) k) ?_
      refine own_step (T' := s₁) (g' := (mkF m 15 #[.val (.ref a1), .val (.int (4 : Int32)), .val (.int p3), .val (.int p4)] [(.ref a1)])) (fun t k => XS.aloadN X0.here hx rfl (hb hby d2_14) rfl rfl k) ?_
      refine own_step (T' := s₁) (g' := (mkF m 16 #[.val (.ref a1), .val (.int (4 : Int32)), .val (.int p3), .val (.int p4)] [(.int (4 : Int32)), (.ref a1)])) (fun t k => XS.iloadN X0.here hx rfl (hb hby d2_15) rfl k) ?_
      refine own_step (T' := s₁) (g' := (mkF m 17 #[.val (.ref a1), .val (.int (4 : Int32)), .val (.int p3), .val (.int p4)] [(.int (1 : Int32)), (.int (4 : Int32)), (.ref a1)])) (fun t k => XS.iconst X0.here hx rfl (hb hby d2_16) k) ?_
      refine own_step (T' := s₁) (g' := (mkF m 18 #[.val (.ref a1), .val (.int (4 : Int32)), .val (.int p3), .val (.int p4)] [(.int (3 : Int32)), (.ref a1)])) (fun t k => XS.isub X0.here hx rfl (hb hby d2_17) rfl k) ?_
      obtain ⟨cl1, Ar1, qa1, S1, M1, H1, U1⟩ := id V_a
      have hi1 := inb_of S1 (j := (3 : Int32)) ⟨by decide, by decide⟩
      have hat1 := H1.at hi1 (v := (.int y3)) rfl
      refine own_step (T' := s₁) (g' := (mkF m 19 #[.val (.ref a1), .val (.int (4 : Int32)), .val (.int p3), .val (.int p4)] [(.int y3)])) (fun t k => X0.baloadBytes hx (j := (3 : Int32)) (v := (.int y3)) (by rw [e0]; exact Ar1.1) (State.isArrayOf_alike hZ.alike Ar1.2.1) Ar1.2.2 hi1 hat1 (g := (mkF m 18 #[.val (.ref a1), .val (.int (4 : Int32)), .val (.int p3), .val (.int p4)] [(.int (3 : Int32)), (.ref a1)])) rfl rfl (hb hby d2_18) t k) ?_
      refine own_step (T' := s₁) (g' := (mkF m 21 #[.val (.ref a1), .val (.int (4 : Int32)), .val (.int p3), .val (.int p4)] [(.int (10 : Int32)), (.int y3)])) (fun t k => XS.bipush X0.here hx rfl (hb hby d2_19) k) ?_
      by_cases c21 : y3 = (10 : Int32)
      · refine own_step (T' := s₁) (g' := (mkF m 26 #[.val (.ref a1), .val (.int (4 : Int32)), .val (.int p3), .val (.int p4)] [])) (fun t k => XS.icmpYes X0.here hx rfl (pc0 := 21) (pc' := 26) rfl (hb hby d2_21) rfl (teq c21).1 (by decide) (by decide) k) ?_
        refine own_step (T' := s₁) (g' := (mkF m 27 #[.val (.ref a1), .val (.int (4 : Int32)), .val (.int p3), .val (.int p4)] [(.ref a1)])) (fun t k => XS.aloadN X0.here hx rfl (hb hby d2_26) rfl rfl k) ?_
        refine own_step (T' := s₁) (g' := (mkF m 28 #[.val (.ref a1), .val (.int (4 : Int32)), .val (.int p3), .val (.int p4)] [(.int (4 : Int32)), (.ref a1)])) (fun t k => XS.iloadN X0.here hx rfl (hb hby d2_27) rfl k) ?_
        refine own_step (T' := s₁) (g' := (mkF m 29 #[.val (.ref a1), .val (.int (4 : Int32)), .val (.int p3), .val (.int p4)] [(.int (2 : Int32)), (.int (4 : Int32)), (.ref a1)])) (fun t k => XS.iconst X0.here hx rfl (hb hby d2_28) k) ?_
        refine own_step (T' := s₁) (g' := (mkF m 30 #[.val (.ref a1), .val (.int (4 : Int32)), .val (.int p3), .val (.int p4)] [(.int (2 : Int32)), (.ref a1)])) (fun t k => XS.isub X0.here hx rfl (hb hby d2_29) rfl k) ?_
        obtain ⟨cl2, Ar2, qa2, S2, M2, H2, U2⟩ := id V_a
        have hi2 := inb_of S2 (j := (2 : Int32)) ⟨by decide, by decide⟩
        have hat2 := H2.at hi2 (v := (.int y2)) rfl
        refine own_step (T' := s₁) (g' := (mkF m 31 #[.val (.ref a1), .val (.int (4 : Int32)), .val (.int p3), .val (.int p4)] [(.int y2)])) (fun t k => X0.baloadBytes hx (j := (2 : Int32)) (v := (.int y2)) (by rw [e0]; exact Ar2.1) (State.isArrayOf_alike hZ.alike Ar2.2.1) Ar2.2.2 hi2 hat2 (g := (mkF m 30 #[.val (.ref a1), .val (.int (4 : Int32)), .val (.int p3), .val (.int p4)] [(.int (2 : Int32)), (.ref a1)])) rfl rfl (hb hby d2_30) t k) ?_
        refine own_step (T' := s₁) (g' := (mkF m 33 #[.val (.ref a1), .val (.int (4 : Int32)), .val (.int p3), .val (.int p4)] [(.int (10 : Int32)), (.int y2)])) (fun t k => XS.bipush X0.here hx rfl (hb hby d2_31) k) ?_
        by_cases c33 : y2 = (10 : Int32)
        · refine own_step (T' := s₁) (g' := (mkF m 36 #[.val (.ref a1), .val (.int (4 : Int32)), .val (.int p3), .val (.int p4)] [])) (fun t k => XS.icmpNo X0.here hx rfl (hb hby d2_33) rfl (teq c33).2 k) ?_
          refine own_step (T' := s₁) (g' := (mkF m 37 #[.val (.ref a1), .val (.int (4 : Int32)), .val (.int p3), .val (.int p4)] [(.int (1 : Int32))])) (fun t k => XS.iconst X0.here hx rfl (hb hby d2_36) k) ?_
          refine own_rN X0 hx hlk Bd.returns (by simp) (hb hby d2_37) ?_ (by decide) (by decide)
          rw [e0]
          exact ⟨by first | (rw [own_ea4, if_neg (fun z => c2 (of_decide_eq_true z)), if_neg (fun z => c9 (of_decide_eq_true z)), if_pos (decide_eq_true c21), if_pos (decide_eq_true c33)]; done) | (rw [own_ea4, if_neg (fun z => c2 (of_decide_eq_true z)), if_neg (fun z => c9 (of_decide_eq_true z)), if_pos (decide_eq_true c21), if_pos (decide_eq_true c33)]; rfl), N0, rfl⟩
        · refine own_step (T' := s₁) (g' := (mkF m 38 #[.val (.ref a1), .val (.int (4 : Int32)), .val (.int p3), .val (.int p4)] [])) (fun t k => XS.icmpYes X0.here hx rfl (pc0 := 33) (pc' := 38) rfl (hb hby d2_33) rfl (feq c33).2 (by decide) (by decide) k) ?_
          refine own_step (T' := s₁) (g' := (mkF m 39 #[.val (.ref a1), .val (.int (4 : Int32)), .val (.int p3), .val (.int p4)] [(.int (4 : Int32))])) (fun t k => XS.iloadN X0.here hx rfl (hb hby d2_38) rfl k) ?_
          refine own_step (T' := s₁) (g' := (mkF m 40 #[.val (.ref a1), .val (.int (4 : Int32)), .val (.int p3), .val (.int p4)] [(.int (3 : Int32)), (.int (4 : Int32))])) (fun t k => XS.iconst X0.here hx rfl (hb hby d2_39) k) ?_
          refine own_step (T' := s₁) (g' := (mkF m 41 #[.val (.ref a1), .val (.int (4 : Int32)), .val (.int p3), .val (.int p4)] [(.int (1 : Int32))])) (fun t k => XS.isub X0.here hx rfl (hb hby d2_40) rfl k) ?_
          refine own_step (T' := s₁) (g' := (mkF m 42 #[.val (.ref a1), .val (.int (4 : Int32)), .val (.int p3), .val (.int p4)] [(.int p3), (.int (1 : Int32))])) (fun t k => XS.iloadN X0.here hx rfl (hb hby d2_41) rfl k) ?_
          by_cases c42 : (1 : Int32) < p3
          · refine own_step (T' := s₁) (g' := (mkF m 69 #[.val (.ref a1), .val (.int (4 : Int32)), .val (.int p3), .val (.int p4)] [])) (fun t k => XS.icmpYes X0.here hx rfl (pc0 := 42) (pc' := 69) rfl (hb hby d2_42) rfl (tlt c42).1 (by decide) (by decide) k) ?_
            refine own_step (T' := s₁) (g' := (mkF m 70 #[.val (.ref a1), .val (.int (4 : Int32)), .val (.int p3), .val (.int p4)] [(.int (0 : Int32))])) (fun t k => XS.iconst X0.here hx rfl (hb hby d2_69) k) ?_
            refine own_rN X0 hx hlk Bd.returns (by simp) (hb hby d2_70) ?_ (by decide) (by decide)
            rw [e0]
            exact ⟨by first | (rw [own_ea4, if_neg (fun z => c2 (of_decide_eq_true z)), if_neg (fun z => c9 (of_decide_eq_true z)), if_pos (decide_eq_true c21), if_neg (fun z => c33 (of_decide_eq_true z)), if_pos (decide_eq_true c42)]; done) | (rw [own_ea4, if_neg (fun z => c2 (of_decide_eq_true z)), if_neg (fun z => c9 (of_decide_eq_true z)), if_pos (decide_eq_true c21), if_neg (fun z => c33 (of_decide_eq_true z)), if_pos (decide_eq_true c42)]; rfl), N0, rfl⟩
          · refine own_step (T' := s₁) (g' := (mkF m 45 #[.val (.ref a1), .val (.int (4 : Int32)), .val (.int p3), .val (.int p4)] [])) (fun t k => XS.icmpNo X0.here hx rfl (hb hby d2_42) rfl (flt c42).1 k) ?_
            refine own_step (T' := s₁) (g' := (mkF m 46 #[.val (.ref a1), .val (.int (4 : Int32)), .val (.int p3), .val (.int p4)] [(.ref a1)])) (fun t k => XS.aloadN X0.here hx rfl (hb hby d2_45) rfl rfl k) ?_
            refine own_step (T' := s₁) (g' := (mkF m 47 #[.val (.ref a1), .val (.int (4 : Int32)), .val (.int p3), .val (.int p4)] [(.int (4 : Int32)), (.ref a1)])) (fun t k => XS.iloadN X0.here hx rfl (hb hby d2_46) rfl k) ?_
            refine own_step (T' := s₁) (g' := (mkF m 48 #[.val (.ref a1), .val (.int (4 : Int32)), .val (.int p3), .val (.int p4)] [(.int (2 : Int32)), (.int (4 : Int32)), (.ref a1)])) (fun t k => XS.iconst X0.here hx rfl (hb hby d2_47) k) ?_
            refine own_step (T' := s₁) (g' := (mkF m 49 #[.val (.ref a1), .val (.int (4 : Int32)), .val (.int p3), .val (.int p4)] [(.int (2 : Int32)), (.ref a1)])) (fun t k => XS.isub X0.here hx rfl (hb hby d2_48) rfl k) ?_
            obtain ⟨cl3, Ar3, qa3, S3, M3, H3, U3⟩ := id V_a
            have hi3 := inb_of S3 (j := (2 : Int32)) ⟨by decide, by decide⟩
            have hat3 := H3.at hi3 (v := (.int y2)) rfl
            refine own_step (T' := s₁) (g' := (mkF m 50 #[.val (.ref a1), .val (.int (4 : Int32)), .val (.int p3), .val (.int p4)] [(.int y2)])) (fun t k => X0.baloadBytes hx (j := (2 : Int32)) (v := (.int y2)) (by rw [e0]; exact Ar3.1) (State.isArrayOf_alike hZ.alike Ar3.2.1) Ar3.2.2 hi3 hat3 (g := (mkF m 49 #[.val (.ref a1), .val (.int (4 : Int32)), .val (.int p3), .val (.int p4)] [(.int (2 : Int32)), (.ref a1)])) rfl rfl (hb hby d2_49) t k) ?_
            refine own_step (T' := s₁) (g' := (mkF m 52 #[.val (.ref a1), .val (.int (4 : Int32)), .val (.int p3), .val (.int p4)] [(.int (13 : Int32)), (.int y2)])) (fun t k => XS.bipush X0.here hx rfl (hb hby d2_50) k) ?_
            by_cases c52 : y2 = (13 : Int32)
            · refine own_step (T' := s₁) (g' := (mkF m 55 #[.val (.ref a1), .val (.int (4 : Int32)), .val (.int p3), .val (.int p4)] [])) (fun t k => XS.icmpNo X0.here hx rfl (hb hby d2_52) rfl (teq c52).2 k) ?_
              refine own_step (T' := s₁) (g' := (mkF m 56 #[.val (.ref a1), .val (.int (4 : Int32)), .val (.int p3), .val (.int p4)] [(.ref a1)])) (fun t k => XS.aloadN X0.here hx rfl (hb hby d2_55) rfl rfl k) ?_
              refine own_step (T' := s₁) (g' := (mkF m 57 #[.val (.ref a1), .val (.int (4 : Int32)), .val (.int p3), .val (.int p4)] [(.int (4 : Int32)), (.ref a1)])) (fun t k => XS.iloadN X0.here hx rfl (hb hby d2_56) rfl k) ?_
              refine own_step (T' := s₁) (g' := (mkF m 58 #[.val (.ref a1), .val (.int (4 : Int32)), .val (.int p3), .val (.int p4)] [(.int (3 : Int32)), (.int (4 : Int32)), (.ref a1)])) (fun t k => XS.iconst X0.here hx rfl (hb hby d2_57) k) ?_
              refine own_step (T' := s₁) (g' := (mkF m 59 #[.val (.ref a1), .val (.int (4 : Int32)), .val (.int p3), .val (.int p4)] [(.int (1 : Int32)), (.ref a1)])) (fun t k => XS.isub X0.here hx rfl (hb hby d2_58) rfl k) ?_
              obtain ⟨cl4, Ar4, qa4, S4, M4, H4, U4⟩ := id V_a
              have hi4 := inb_of S4 (j := (1 : Int32)) ⟨by decide, by decide⟩
              have hat4 := H4.at hi4 (v := (.int y1)) rfl
              refine own_step (T' := s₁) (g' := (mkF m 60 #[.val (.ref a1), .val (.int (4 : Int32)), .val (.int p3), .val (.int p4)] [(.int y1)])) (fun t k => X0.baloadBytes hx (j := (1 : Int32)) (v := (.int y1)) (by rw [e0]; exact Ar4.1) (State.isArrayOf_alike hZ.alike Ar4.2.1) Ar4.2.2 hi4 hat4 (g := (mkF m 59 #[.val (.ref a1), .val (.int (4 : Int32)), .val (.int p3), .val (.int p4)] [(.int (1 : Int32)), (.ref a1)])) rfl rfl (hb hby d2_59) t k) ?_
              refine own_step (T' := s₁) (g' := (mkF m 62 #[.val (.ref a1), .val (.int (4 : Int32)), .val (.int p3), .val (.int p4)] [(.int (10 : Int32)), (.int y1)])) (fun t k => XS.bipush X0.here hx rfl (hb hby d2_60) k) ?_
              by_cases c62 : y1 = (10 : Int32)
              · refine own_step (T' := s₁) (g' := (mkF m 65 #[.val (.ref a1), .val (.int (4 : Int32)), .val (.int p3), .val (.int p4)] [])) (fun t k => XS.icmpNo X0.here hx rfl (hb hby d2_62) rfl (teq c62).2 k) ?_
                refine own_step (T' := s₁) (g' := (mkF m 66 #[.val (.ref a1), .val (.int (4 : Int32)), .val (.int p3), .val (.int p4)] [(.int (1 : Int32))])) (fun t k => XS.iconst X0.here hx rfl (hb hby d2_65) k) ?_
                refine own_step (T' := s₁) (g' := (mkF m 70 #[.val (.ref a1), .val (.int (4 : Int32)), .val (.int p3), .val (.int p4)] [(.int (1 : Int32))])) (fun t k => XS.goto X0.here hx rfl (pc0 := 66) (pc' := 70) rfl (hb hby d2_66) (by decide) (by decide) k) ?_
                refine own_rN X0 hx hlk Bd.returns (by simp) (hb hby d2_70) ?_ (by decide) (by decide)
                rw [e0]
                exact ⟨by first | (rw [own_ea4, if_neg (fun z => c2 (of_decide_eq_true z)), if_neg (fun z => c9 (of_decide_eq_true z)), if_pos (decide_eq_true c21), if_neg (fun z => c33 (of_decide_eq_true z)), if_neg (fun z => c42 (of_decide_eq_true z)), if_pos (decide_eq_true c52), if_pos (decide_eq_true c62)]; done) | (rw [own_ea4, if_neg (fun z => c2 (of_decide_eq_true z)), if_neg (fun z => c9 (of_decide_eq_true z)), if_pos (decide_eq_true c21), if_neg (fun z => c33 (of_decide_eq_true z)), if_neg (fun z => c42 (of_decide_eq_true z)), if_pos (decide_eq_true c52), if_pos (decide_eq_true c62)]; rfl), N0, rfl⟩
              · refine own_step (T' := s₁) (g' := (mkF m 69 #[.val (.ref a1), .val (.int (4 : Int32)), .val (.int p3), .val (.int p4)] [])) (fun t k => XS.icmpYes X0.here hx rfl (pc0 := 62) (pc' := 69) rfl (hb hby d2_62) rfl (feq c62).2 (by decide) (by decide) k) ?_
                refine own_step (T' := s₁) (g' := (mkF m 70 #[.val (.ref a1), .val (.int (4 : Int32)), .val (.int p3), .val (.int p4)] [(.int (0 : Int32))])) (fun t k => XS.iconst X0.here hx rfl (hb hby d2_69) k) ?_
                refine own_rN X0 hx hlk Bd.returns (by simp) (hb hby d2_70) ?_ (by decide) (by decide)
                rw [e0]
                exact ⟨by first | (rw [own_ea4, if_neg (fun z => c2 (of_decide_eq_true z)), if_neg (fun z => c9 (of_decide_eq_true z)), if_pos (decide_eq_true c21), if_neg (fun z => c33 (of_decide_eq_true z)), if_neg (fun z => c42 (of_decide_eq_true z)), if_pos (decide_eq_true c52), if_neg (fun z => c62 (of_decide_eq_true z))]; done) | (rw [own_ea4, if_neg (fun z => c2 (of_decide_eq_true z)), if_neg (fun z => c9 (of_decide_eq_true z)), if_pos (decide_eq_true c21), if_neg (fun z => c33 (of_decide_eq_true z)), if_neg (fun z => c42 (of_decide_eq_true z)), if_pos (decide_eq_true c52), if_neg (fun z => c62 (of_decide_eq_true z))]; rfl), N0, rfl⟩
            · refine own_step (T' := s₁) (g' := (mkF m 69 #[.val (.ref a1), .val (.int (4 : Int32)), .val (.int p3), .val (.int p4)] [])) (fun t k => XS.icmpYes X0.here hx rfl (pc0 := 52) (pc' := 69) rfl (hb hby d2_52) rfl (feq c52).2 (by decide) (by decide) k) ?_
              refine own_step (T' := s₁) (g' := (mkF m 70 #[.val (.ref a1), .val (.int (4 : Int32)), .val (.int p3), .val (.int p4)] [(.int (0 : Int32))])) (fun t k => XS.iconst X0.here hx rfl (hb hby d2_69) k) ?_
              refine own_rN X0 hx hlk Bd.returns (by simp) (hb hby d2_70) ?_ (by decide) (by decide)
              rw [e0]
              exact ⟨by first | (rw [own_ea4, if_neg (fun z => c2 (of_decide_eq_true z)), if_neg (fun z => c9 (of_decide_eq_true z)), if_pos (decide_eq_true c21), if_neg (fun z => c33 (of_decide_eq_true z)), if_neg (fun z => c42 (of_decide_eq_true z)), if_neg (fun z => c52 (of_decide_eq_true z))]; done) | (rw [own_ea4, if_neg (fun z => c2 (of_decide_eq_true z)), if_neg (fun z => c9 (of_decide_eq_true z)), if_pos (decide_eq_true c21), if_neg (fun z => c33 (of_decide_eq_true z)), if_neg (fun z => c42 (of_decide_eq_true z)), if_neg (fun z => c52 (of_decide_eq_true z))]; rfl), N0, rfl⟩
      · refine own_step (T' := s₁) (g' := (mkF m 24 #[.val (.ref a1), .val (.int (4 : Int32)), .val (.int p3), .val (.int p4)] [])) (fun t k => XS.icmpNo X0.here hx rfl (hb hby d2_21) rfl (feq c21).1 k) ?_
        refine own_step (T' := s₁) (g' := (mkF m 25 #[.val (.ref a1), .val (.int (4 : Int32)), .val (.int p3), .val (.int p4)] [(.int (0 : Int32))])) (fun t k => XS.iconst X0.here hx rfl (hb hby d2_24) k) ?_
        refine own_rN X0 hx hlk Bd.returns (by simp) (hb hby d2_25) ?_ (by decide) (by decide)
        rw [e0]
        exact ⟨by first | (rw [own_ea4, if_neg (fun z => c2 (of_decide_eq_true z)), if_neg (fun z => c9 (of_decide_eq_true z)), if_neg (fun z => c21 (of_decide_eq_true z))]; done) | (rw [own_ea4, if_neg (fun z => c2 (of_decide_eq_true z)), if_neg (fun z => c9 (of_decide_eq_true z)), if_neg (fun z => c21 (of_decide_eq_true z))]; rfl), N0, rfl⟩
def own_ea5 (g f k nA nB rB nC : Bool) : Int32 := if g = true then 0 else if f = true then 0 else if nA = true then (if nB = true then 1 else (if k = true then 0 else (if rB = true then (if nC = true then 1 else 0) else 0))) else 0
def Q_ea5 (p3 p4 y0 y1 y2 y3 y4 y5 : Int32) (h0 : Heap) (n0 : Nat) (v : Option Value) (h : Heap) (L : List Loc) : Prop := v = some (.int (own_ea5 (decide (p4 < (5 : Int32))) (decide ((3 : Int32) < p3)) (decide ((2 : Int32) < p3)) (decide (y4 = (10 : Int32))) (decide (y3 = (10 : Int32))) (decide (y3 = (13 : Int32))) (decide (y2 = (10 : Int32))))) ∧ Fr n0 L ∧ h = h0
theorem ef_rm_ea5 (m : MethodId) (x0 : Addr) (x1 : Int32) (x2 : Int32) (x3 : Int32) : entryFrame m #[(.ref x0), (.int x1), (.int x2), (.int x3)] 4 = mkF m 0 #[.val (.ref x0), .val (.int x1), .val (.int x2), .val (.int x3)] [] := by first | (simp [entryFrame, mkF, argsToLocals, Value.category]; done) | rfl | (simp [entryFrame, mkF, argsToLocals, Value.category] <;> rfl)
set_option maxRecDepth 65536 in
set_option maxHeartbeats 40000000 in
theorem rm_ea5 (l : Launch) (Z : State) (a0 : Array Value) (hw : ∀ d ∈ tables_1, d.before a0 Z = true) (ws : List Jvm.Cond) (a1 : Addr) (p3 : Int32) (p4 : Int32) (y0 : Int32) (y1 : Int32) (y2 : Int32) (y3 : Int32) (y4 : Int32) (y5 : Int32) (ka : ClassId) (h0 : Heap) (n0 : Nat) (Z0 : n0 ≤ h0.size) (V_a : Arv Z h0 a1 ka .byte (6 : Int32) [(.int y0), (.int y1), (.int y2), (.int y3), (.int y4), (.int y5)] (.int (0 : Int32))) (hf0 : ¬ p3 < 0) :
    MetFree l (⟨"com/example/pollster/pollster/HttpHeadEndPinLaw", "endsAt", "([BIII)Z"⟩ : MethodName) (head1 (Jvm.Cond.code (⟨"com/example/pollster/pollster/HttpHeadEndPinLaw", "endsAt", "([BIII)Z"⟩ : MethodName) method_3_code 4 (some (.boolean)) :: ws) ({ frames := 0, cells := 0, slots := 0, locals := 0 } : Room)) (fun a U => a = #[(.ref a1), (.int (5 : Int32)), (.int p3), (.int p4)] ∧ Z.Warmed39 U.vm ∧ U.heap = h0) (fun _ _ _ _ _ => True) (fun _ U o U' => ∃ v L, o = .returned v ∧ (Q_ea5 p3 p4 y0 y1 y2 y3 y4 y5 h0 n0) v U'.heap L ∧ FrameEnd U o U' L ({ frames := 0, cells := 0, slots := 0, locals := 0 } : Room).cells ({ frames := 0, cells := 0, slots := 0, locals := 0 } : Room).slots) := by
  refine MetFree.of_bodySF (plainFor_of_name pn_0) hisR ?_
  intro p e s m args below meth c s₁ Bd hml0 hP hK
  obtain ⟨rfl, hZ, hh⟩ := hP
  have hx := Bd.exec
  have hby := Bd.bytes
  have hlk : meth.locks = false := BodyLoose.notSynchronized Bd
  have hml : c.maxLocals = 4 := hml0
  have hown : s.vm.findClass "com/example/pollster/pollster/HttpHeadEndPinLaw" = some m.cls := findClass_of_methodNamed Bd.named
  have hnm := (name_of_methodNamed Bd.named Bd.method).1
  have X0 : Stand p l e ({ frames := 0, cells := 0, slots := 0, locals := 0 } : Room) s m #[(.ref a1), (.int (5 : Int32)), (.int p3), (.int p4)] below meth c s₁ [] 0 0 := Stand.of_body Bd
  have e0 : s₁.heap = h0 := by rw [← hh, Bd.state]; rfl
  have N0 := Fr.nil n0
  show own_Go p e below s (Q_ea5 p3 p4 y0 y1 y2 y3 y4 y5 h0 n0) ({ frames := 0, cells := 0, slots := 0, locals := 0 } : Room).cells ({ frames := 0, cells := 0, slots := 0, locals := 0 } : Room).slots s₁ (entryFrame m #[(.ref a1), (.int (5 : Int32)), (.int p3), (.int p4)] 4)
  refine own_cast (g' := (mkF m 0 #[.val (.ref a1), .val (.int (5 : Int32)), .val (.int p3), .val (.int p4)] [])) (ef_rm_ea5 m a1 (5 : Int32) p3 p4) ?_
  refine own_step (T' := s₁) (g' := (mkF m 1 #[.val (.ref a1), .val (.int (5 : Int32)), .val (.int p3), .val (.int p4)] [(.int (5 : Int32))])) (fun t k => XS.iloadN X0.here hx rfl (hb hby d2_0) rfl k) ?_
  refine own_step (T' := s₁) (g' := (mkF m 2 #[.val (.ref a1), .val (.int (5 : Int32)), .val (.int p3), .val (.int p4)] [(.int p4), (.int (5 : Int32))])) (fun t k => XS.iloadN X0.here hx rfl (hb hby d2_1) rfl k) ?_
  by_cases c2 : p4 < (5 : Int32)
  · refine own_step (T' := s₁) (g' := (mkF m 12 #[.val (.ref a1), .val (.int (5 : Int32)), .val (.int p3), .val (.int p4)] [])) (fun t k => XS.icmpYes X0.here hx rfl (pc0 := 2) (pc' := 12) rfl (hb hby d2_2) rfl (tlt c2).2.2.1 (by decide) (by decide) k) ?_
    refine own_step (T' := s₁) (g' := (mkF m 13 #[.val (.ref a1), .val (.int (5 : Int32)), .val (.int p3), .val (.int p4)] [(.int (0 : Int32))])) (fun t k => XS.iconst X0.here hx rfl (hb hby d2_12) k) ?_
    refine own_rN X0 hx hlk Bd.returns (by simp) (hb hby d2_13) ?_ (by decide) (by decide)
    rw [e0]
    exact ⟨by first | (rw [own_ea5, if_pos (decide_eq_true c2)]; done) | (rw [own_ea5, if_pos (decide_eq_true c2)]; rfl), N0, rfl⟩
  · refine own_step (T' := s₁) (g' := (mkF m 5 #[.val (.ref a1), .val (.int (5 : Int32)), .val (.int p3), .val (.int p4)] [])) (fun t k => XS.icmpNo X0.here hx rfl (hb hby d2_2) rfl (flt c2).2.2.1 k) ?_
    refine own_step (T' := s₁) (g' := (mkF m 6 #[.val (.ref a1), .val (.int (5 : Int32)), .val (.int p3), .val (.int p4)] [(.int (5 : Int32))])) (fun t k => XS.iloadN X0.here hx rfl (hb hby d2_5) rfl k) ?_
    refine own_step (T' := s₁) (g' := (mkF m 7 #[.val (.ref a1), .val (.int (5 : Int32)), .val (.int p3), .val (.int p4)] [(.int (2 : Int32)), (.int (5 : Int32))])) (fun t k => XS.iconst X0.here hx rfl (hb hby d2_6) k) ?_
    refine own_step (T' := s₁) (g' := (mkF m 8 #[.val (.ref a1), .val (.int (5 : Int32)), .val (.int p3), .val (.int p4)] [(.int (3 : Int32))])) (fun t k => XS.isub X0.here hx rfl (hb hby d2_7) rfl k) ?_
    refine own_step (T' := s₁) (g' := (mkF m 9 #[.val (.ref a1), .val (.int (5 : Int32)), .val (.int p3), .val (.int p4)] [(.int p3), (.int (3 : Int32))])) (fun t k => XS.iloadN X0.here hx rfl (hb hby d2_8) rfl k) ?_
    by_cases c9 : (3 : Int32) < p3
    · refine own_step (T' := s₁) (g' := (mkF m 12 #[.val (.ref a1), .val (.int (5 : Int32)), .val (.int p3), .val (.int p4)] [])) (fun t k => XS.icmpNo X0.here hx rfl (hb hby d2_9) rfl (tlt c9).2.1 k) ?_
      refine own_step (T' := s₁) (g' := (mkF m 13 #[.val (.ref a1), .val (.int (5 : Int32)), .val (.int p3), .val (.int p4)] [(.int (0 : Int32))])) (fun t k => XS.iconst X0.here hx rfl (hb hby d2_12) k) ?_
      refine own_rN X0 hx hlk Bd.returns (by simp) (hb hby d2_13) ?_ (by decide) (by decide)
      rw [e0]
      exact ⟨by first | (rw [own_ea5, if_neg (fun z => c2 (of_decide_eq_true z)), if_pos (decide_eq_true c9)]; done) | (rw [own_ea5, if_neg (fun z => c2 (of_decide_eq_true z)), if_pos (decide_eq_true c9)]; rfl), N0, rfl⟩
    · refine own_step (T' := s₁) (g' := (mkF m 14 #[.val (.ref a1), .val (.int (5 : Int32)), .val (.int p3), .val (.int p4)] [])) (fun t k => XS.icmpYes X0.here hx rfl (pc0 := 9) (pc' := 14) rfl (hb hby d2_9) rfl (flt c9).2.1 (by decide) (by decide) k) ?_
      refine own_step (T' := s₁) (g' := (mkF m 15 #[.val (.ref a1), .val (.int (5 : Int32)), .val (.int p3), .val (.int p4)] [(.ref a1)])) (fun t k => XS.aloadN X0.here hx rfl (hb hby d2_14) rfl rfl k) ?_
      refine own_step (T' := s₁) (g' := (mkF m 16 #[.val (.ref a1), .val (.int (5 : Int32)), .val (.int p3), .val (.int p4)] [(.int (5 : Int32)), (.ref a1)])) (fun t k => XS.iloadN X0.here hx rfl (hb hby d2_15) rfl k) ?_
      refine own_step (T' := s₁) (g' := (mkF m 17 #[.val (.ref a1), .val (.int (5 : Int32)), .val (.int p3), .val (.int p4)] [(.int (1 : Int32)), (.int (5 : Int32)), (.ref a1)])) (fun t k => XS.iconst X0.here hx rfl (hb hby d2_16) k) ?_
      refine own_step (T' := s₁) (g' := (mkF m 18 #[.val (.ref a1), .val (.int (5 : Int32)), .val (.int p3), .val (.int p4)] [(.int (4 : Int32)), (.ref a1)])) (fun t k => XS.isub X0.here hx rfl (hb hby d2_17) rfl k) ?_
      obtain ⟨cl1, Ar1, qa1, S1, M1, H1, U1⟩ := id V_a
      have hi1 := inb_of S1 (j := (4 : Int32)) ⟨by decide, by decide⟩
      have hat1 := H1.at hi1 (v := (.int y4)) rfl
      refine own_step (T' := s₁) (g' := (mkF m 19 #[.val (.ref a1), .val (.int (5 : Int32)), .val (.int p3), .val (.int p4)] [(.int y4)])) (fun t k => X0.baloadBytes hx (j := (4 : Int32)) (v := (.int y4)) (by rw [e0]; exact Ar1.1) (State.isArrayOf_alike hZ.alike Ar1.2.1) Ar1.2.2 hi1 hat1 (g := (mkF m 18 #[.val (.ref a1), .val (.int (5 : Int32)), .val (.int p3), .val (.int p4)] [(.int (4 : Int32)), (.ref a1)])) rfl rfl (hb hby d2_18) t k) ?_
      refine own_step (T' := s₁) (g' := (mkF m 21 #[.val (.ref a1), .val (.int (5 : Int32)), .val (.int p3), .val (.int p4)] [(.int (10 : Int32)), (.int y4)])) (fun t k => XS.bipush X0.here hx rfl (hb hby d2_19) k) ?_
      by_cases c21 : y4 = (10 : Int32)
      · refine own_step (T' := s₁) (g' := (mkF m 26 #[.val (.ref a1), .val (.int (5 : Int32)), .val (.int p3), .val (.int p4)] [])) (fun t k => XS.icmpYes X0.here hx rfl (pc0 := 21) (pc' := 26) rfl (hb hby d2_21) rfl (teq c21).1 (by decide) (by decide) k) ?_
        refine own_step (T' := s₁) (g' := (mkF m 27 #[.val (.ref a1), .val (.int (5 : Int32)), .val (.int p3), .val (.int p4)] [(.ref a1)])) (fun t k => XS.aloadN X0.here hx rfl (hb hby d2_26) rfl rfl k) ?_
        refine own_step (T' := s₁) (g' := (mkF m 28 #[.val (.ref a1), .val (.int (5 : Int32)), .val (.int p3), .val (.int p4)] [(.int (5 : Int32)), (.ref a1)])) (fun t k => XS.iloadN X0.here hx rfl (hb hby d2_27) rfl k) ?_
        refine own_step (T' := s₁) (g' := (mkF m 29 #[.val (.ref a1), .val (.int (5 : Int32)), .val (.int p3), .val (.int p4)] [(.int (2 : Int32)), (.int (5 : Int32)), (.ref a1)])) (fun t k => XS.iconst X0.here hx rfl (hb hby d2_28) k) ?_
        refine own_step (T' := s₁) (g' := (mkF m 30 #[.val (.ref a1), .val (.int (5 : Int32)), .val (.int p3), .val (.int p4)] [(.int (3 : Int32)), (.ref a1)])) (fun t k => XS.isub X0.here hx rfl (hb hby d2_29) rfl k) ?_
        obtain ⟨cl2, Ar2, qa2, S2, M2, H2, U2⟩ := id V_a
        have hi2 := inb_of S2 (j := (3 : Int32)) ⟨by decide, by decide⟩
        have hat2 := H2.at hi2 (v := (.int y3)) rfl
        refine own_step (T' := s₁) (g' := (mkF m 31 #[.val (.ref a1), .val (.int (5 : Int32)), .val (.int p3), .val (.int p4)] [(.int y3)])) (fun t k => X0.baloadBytes hx (j := (3 : Int32)) (v := (.int y3)) (by rw [e0]; exact Ar2.1) (State.isArrayOf_alike hZ.alike Ar2.2.1) Ar2.2.2 hi2 hat2 (g := (mkF m 30 #[.val (.ref a1), .val (.int (5 : Int32)), .val (.int p3), .val (.int p4)] [(.int (3 : Int32)), (.ref a1)])) rfl rfl (hb hby d2_30) t k) ?_
        refine own_step (T' := s₁) (g' := (mkF m 33 #[.val (.ref a1), .val (.int (5 : Int32)), .val (.int p3), .val (.int p4)] [(.int (10 : Int32)), (.int y3)])) (fun t k => XS.bipush X0.here hx rfl (hb hby d2_31) k) ?_
        by_cases c33 : y3 = (10 : Int32)
        · refine own_step (T' := s₁) (g' := (mkF m 36 #[.val (.ref a1), .val (.int (5 : Int32)), .val (.int p3), .val (.int p4)] [])) (fun t k => XS.icmpNo X0.here hx rfl (hb hby d2_33) rfl (teq c33).2 k) ?_
          refine own_step (T' := s₁) (g' := (mkF m 37 #[.val (.ref a1), .val (.int (5 : Int32)), .val (.int p3), .val (.int p4)] [(.int (1 : Int32))])) (fun t k => XS.iconst X0.here hx rfl (hb hby d2_36) k) ?_
          refine own_rN X0 hx hlk Bd.returns (by simp) (hb hby d2_37) ?_ (by decide) (by decide)
          rw [e0]
          exact ⟨by first | (rw [own_ea5, if_neg (fun z => c2 (of_decide_eq_true z)), if_neg (fun z => c9 (of_decide_eq_true z)), if_pos (decide_eq_true c21), if_pos (decide_eq_true c33)]; done) | (rw [own_ea5, if_neg (fun z => c2 (of_decide_eq_true z)), if_neg (fun z => c9 (of_decide_eq_true z)), if_pos (decide_eq_true c21), if_pos (decide_eq_true c33)]; rfl), N0, rfl⟩
        · refine own_step (T' := s₁) (g' := (mkF m 38 #[.val (.ref a1), .val (.int (5 : Int32)), .val (.int p3), .val (.int p4)] [])) (fun t k => XS.icmpYes X0.here hx rfl (pc0 := 33) (pc' := 38) rfl (hb hby d2_33) rfl (feq c33).2 (by decide) (by decide) k) ?_
          refine own_step (T' := s₁) (g' := (mkF m 39 #[.val (.ref a1), .val (.int (5 : Int32)), .val (.int p3), .val (.int p4)] [(.int (5 : Int32))])) (fun t k => XS.iloadN X0.here hx rfl (hb hby d2_38) rfl k) ?_
          refine own_step (T' := s₁) (g' := (mkF m 40 #[.val (.ref a1), .val (.int (5 : Int32)), .val (.int p3), .val (.int p4)] [(.int (3 : Int32)), (.int (5 : Int32))])) (fun t k => XS.iconst X0.here hx rfl (hb hby d2_39) k) ?_
          refine own_step (T' := s₁) (g' := (mkF m 41 #[.val (.ref a1), .val (.int (5 : Int32)), .val (.int p3), .val (.int p4)] [(.int (2 : Int32))])) (fun t k => XS.isub X0.here hx rfl (hb hby d2_40) rfl k) ?_
          refine own_step (T' := s₁) (g' := (mkF m 42 #[.val (.ref a1), .val (.int (5 : Int32)), .val (.int p3), .val (.int p4)] [(.int p3), (.int (2 : Int32))])) (fun t k => XS.iloadN X0.here hx rfl (hb hby d2_41) rfl k) ?_
          by_cases c42 : (2 : Int32) < p3
          · refine own_step (T' := s₁) (g' := (mkF m 69 #[.val (.ref a1), .val (.int (5 : Int32)), .val (.int p3), .val (.int p4)] [])) (fun t k => XS.icmpYes X0.here hx rfl (pc0 := 42) (pc' := 69) rfl (hb hby d2_42) rfl (tlt c42).1 (by decide) (by decide) k) ?_
            refine own_step (T' := s₁) (g' := (mkF m 70 #[.val (.ref a1), .val (.int (5 : Int32)), .val (.int p3), .val (.int p4)] [(.int (0 : Int32))])) (fun t k => XS.iconst X0.here hx rfl (hb hby d2_69) k) ?_
            refine own_rN X0 hx hlk Bd.returns (by simp) (hb hby d2_70) ?_ (by decide) (by decide)
            rw [e0]
            exact ⟨by first | (rw [own_ea5, if_neg (fun z => c2 (of_decide_eq_true z)), if_neg (fun z => c9 (of_decide_eq_true z)), if_pos (decide_eq_true c21), if_neg (fun z => c33 (of_decide_eq_true z)), if_pos (decide_eq_true c42)]; done) | (rw [own_ea5, if_neg (fun z => c2 (of_decide_eq_true z)), if_neg (fun z => c9 (of_decide_eq_true z)), if_pos (decide_eq_true c21), if_neg (fun z => c33 (of_decide_eq_true z)), if_pos (decide_eq_true c42)]; rfl), N0, rfl⟩
          · refine own_step (T' := s₁) (g' := (mkF m 45 #[.val (.ref a1), .val (.int (5 : Int32)), .val (.int p3), .val (.int p4)] [])) (fun t k => XS.icmpNo X0.here hx rfl (hb hby d2_42) rfl (flt c42).1 k) ?_
            refine own_step (T' := s₁) (g' := (mkF m 46 #[.val (.ref a1), .val (.int (5 : Int32)), .val (.int p3), .val (.int p4)] [(.ref a1)])) (fun t k => XS.aloadN X0.here hx rfl (hb hby d2_45) rfl rfl k) ?_
            refine own_step (T' := s₁) (g' := (mkF m 47 #[.val (.ref a1), .val (.int (5 : Int32)), .val (.int p3), .val (.int p4)] [(.int (5 : Int32)), (.ref a1)])) (fun t k => XS.iloadN X0.here hx rfl (hb hby d2_46) rfl k) ?_
            refine own_step (T' := s₁) (g' := (mkF m 48 #[.val (.ref a1), .val (.int (5 : Int32)), .val (.int p3), .val (.int p4)] [(.int (2 : Int32)), (.int (5 : Int32)), (.ref a1)])) (fun t k => XS.iconst X0.here hx rfl (hb hby d2_47) k) ?_
            refine own_step (T' := s₁) (g' := (mkF m 49 #[.val (.ref a1), .val (.int (5 : Int32)), .val (.int p3), .val (.int p4)] [(.int (3 : Int32)), (.ref a1)])) (fun t k => XS.isub X0.here hx rfl (hb hby d2_48) rfl k) ?_
            obtain ⟨cl3, Ar3, qa3, S3, M3, H3, U3⟩ := id V_a
            have hi3 := inb_of S3 (j := (3 : Int32)) ⟨by decide, by decide⟩
            have hat3 := H3.at hi3 (v := (.int y3)) rfl
            refine own_step (T' := s₁) (g' := (mkF m 50 #[.val (.ref a1), .val (.int (5 : Int32)), .val (.int p3), .val (.int p4)] [(.int y3)])) (fun t k => X0.baloadBytes hx (j := (3 : Int32)) (v := (.int y3)) (by rw [e0]; exact Ar3.1) (State.isArrayOf_alike hZ.alike Ar3.2.1) Ar3.2.2 hi3 hat3 (g := (mkF m 49 #[.val (.ref a1), .val (.int (5 : Int32)), .val (.int p3), .val (.int p4)] [(.int (3 : Int32)), (.ref a1)])) rfl rfl (hb hby d2_49) t k) ?_
            refine own_step (T' := s₁) (g' := (mkF m 52 #[.val (.ref a1), .val (.int (5 : Int32)), .val (.int p3), .val (.int p4)] [(.int (13 : Int32)), (.int y3)])) (fun t k => XS.bipush X0.here hx rfl (hb hby d2_50) k) ?_
            by_cases c52 : y3 = (13 : Int32)
            · refine own_step (T' := s₁) (g' := (mkF m 55 #[.val (.ref a1), .val (.int (5 : Int32)), .val (.int p3), .val (.int p4)] [])) (fun t k => XS.icmpNo X0.here hx rfl (hb hby d2_52) rfl (teq c52).2 k) ?_
              refine own_step (T' := s₁) (g' := (mkF m 56 #[.val (.ref a1), .val (.int (5 : Int32)), .val (.int p3), .val (.int p4)] [(.ref a1)])) (fun t k => XS.aloadN X0.here hx rfl (hb hby d2_55) rfl rfl k) ?_
              refine own_step (T' := s₁) (g' := (mkF m 57 #[.val (.ref a1), .val (.int (5 : Int32)), .val (.int p3), .val (.int p4)] [(.int (5 : Int32)), (.ref a1)])) (fun t k => XS.iloadN X0.here hx rfl (hb hby d2_56) rfl k) ?_
              refine own_step (T' := s₁) (g' := (mkF m 58 #[.val (.ref a1), .val (.int (5 : Int32)), .val (.int p3), .val (.int p4)] [(.int (3 : Int32)), (.int (5 : Int32)), (.ref a1)])) (fun t k => XS.iconst X0.here hx rfl (hb hby d2_57) k) ?_
              refine own_step (T' := s₁) (g' := (mkF m 59 #[.val (.ref a1), .val (.int (5 : Int32)), .val (.int p3), .val (.int p4)] [(.int (2 : Int32)), (.ref a1)])) (fun t k => XS.isub X0.here hx rfl (hb hby d2_58) rfl k) ?_
              obtain ⟨cl4, Ar4, qa4, S4, M4, H4, U4⟩ := id V_a
              have hi4 := inb_of S4 (j := (2 : Int32)) ⟨by decide, by decide⟩
              have hat4 := H4.at hi4 (v := (.int y2)) rfl
              refine own_step (T' := s₁) (g' := (mkF m 60 #[.val (.ref a1), .val (.int (5 : Int32)), .val (.int p3), .val (.int p4)] [(.int y2)])) (fun t k => X0.baloadBytes hx (j := (2 : Int32)) (v := (.int y2)) (by rw [e0]; exact Ar4.1) (State.isArrayOf_alike hZ.alike Ar4.2.1) Ar4.2.2 hi4 hat4 (g := (mkF m 59 #[.val (.ref a1), .val (.int (5 : Int32)), .val (.int p3), .val (.int p4)] [(.int (2 : Int32)), (.ref a1)])) rfl rfl (hb hby d2_59) t k) ?_
              refine own_step (T' := s₁) (g' := (mkF m 62 #[.val (.ref a1), .val (.int (5 : Int32)), .val (.int p3), .val (.int p4)] [(.int (10 : Int32)), (.int y2)])) (fun t k => XS.bipush X0.here hx rfl (hb hby d2_60) k) ?_
              by_cases c62 : y2 = (10 : Int32)
              · refine own_step (T' := s₁) (g' := (mkF m 65 #[.val (.ref a1), .val (.int (5 : Int32)), .val (.int p3), .val (.int p4)] [])) (fun t k => XS.icmpNo X0.here hx rfl (hb hby d2_62) rfl (teq c62).2 k) ?_
                refine own_step (T' := s₁) (g' := (mkF m 66 #[.val (.ref a1), .val (.int (5 : Int32)), .val (.int p3), .val (.int p4)] [(.int (1 : Int32))])) (fun t k => XS.iconst X0.here hx rfl (hb hby d2_65) k) ?_
                refine own_step (T' := s₁) (g' := (mkF m 70 #[.val (.ref a1), .val (.int (5 : Int32)), .val (.int p3), .val (.int p4)] [(.int (1 : Int32))])) (fun t k => XS.goto X0.here hx rfl (pc0 := 66) (pc' := 70) rfl (hb hby d2_66) (by decide) (by decide) k) ?_
                refine own_rN X0 hx hlk Bd.returns (by simp) (hb hby d2_70) ?_ (by decide) (by decide)
                rw [e0]
                exact ⟨by first | (rw [own_ea5, if_neg (fun z => c2 (of_decide_eq_true z)), if_neg (fun z => c9 (of_decide_eq_true z)), if_pos (decide_eq_true c21), if_neg (fun z => c33 (of_decide_eq_true z)), if_neg (fun z => c42 (of_decide_eq_true z)), if_pos (decide_eq_true c52), if_pos (decide_eq_true c62)]; done) | (rw [own_ea5, if_neg (fun z => c2 (of_decide_eq_true z)), if_neg (fun z => c9 (of_decide_eq_true z)), if_pos (decide_eq_true c21), if_neg (fun z => c33 (of_decide_eq_true z)), if_neg (fun z => c42 (of_decide_eq_true z)), if_pos (decide_eq_true c52), if_pos (decide_eq_true c62)]; rfl), N0, rfl⟩
              · refine own_step (T' := s₁) (g' := (mkF m 69 #[.val (.ref a1), .val (.int (5 : Int32)), .val (.int p3), .val (.int p4)] [])) (fun t k => XS.icmpYes X0.here hx rfl (pc0 := 62) (pc' := 69) rfl (hb hby d2_62) rfl (feq c62).2 (by decide) (by decide) k) ?_
                refine own_step (T' := s₁) (g' := (mkF m 70 #[.val (.ref a1), .val (.int (5 : Int32)), .val (.int p3), .val (.int p4)] [(.int (0 : Int32))])) (fun t k => XS.iconst X0.here hx rfl (hb hby d2_69) k) ?_
                refine own_rN X0 hx hlk Bd.returns (by simp) (hb hby d2_70) ?_ (by decide) (by decide)
                rw [e0]
                exact ⟨by first | (rw [own_ea5, if_neg (fun z => c2 (of_decide_eq_true z)), if_neg (fun z => c9 (of_decide_eq_true z)), if_pos (decide_eq_true c21), if_neg (fun z => c33 (of_decide_eq_true z)), if_neg (fun z => c42 (of_decide_eq_true z)), if_pos (decide_eq_true c52), if_neg (fun z => c62 (of_decide_eq_true z))]; done) | (rw [own_ea5, if_neg (fun z => c2 (of_decide_eq_true z)), if_neg (fun z => c9 (of_decide_eq_true z)), if_pos (decide_eq_true c21), if_neg (fun z => c33 (of_decide_eq_true z)), if_neg (fun z => c42 (of_decide_eq_true z)), if_pos (decide_eq_true c52), if_neg (fun z => c62 (of_decide_eq_true z))]; rfl), N0, rfl⟩
            · refine own_step (T' := s₁) (g' := (mkF m 69 #[.val (.ref a1), .val (.int (5 : Int32)), .val (.int p3), .val (.int p4)] [])) (fun t k => XS.icmpYes X0.here hx rfl (pc0 := 52) (pc' := 69) rfl (hb hby d2_52) rfl (feq c52).2 (by decide) (by decide) k) ?_
              refine own_step (T' := s₁) (g' := (mkF m 70 #[.val (.ref a1), .val (.int (5 : Int32)), .val (.int p3), .val (.int p4)] [(.int (0 : Int32))])) (fun t k => XS.iconst X0.here hx rfl (hb hby d2_69) k) ?_
              refine own_rN X0 hx hlk Bd.returns (by simp) (hb hby d2_70) ?_ (by decide) (by decide)
              rw [e0]
              exact ⟨by first | (rw [own_ea5, if_neg (fun z => c2 (of_decide_eq_true z)), if_neg (fun z => c9 (of_decide_eq_true z)), if_pos (decide_eq_true c21), if_neg (fun z => c33 (of_decide_eq_true z)), if_neg (fun z => c42 (of_decide_eq_true z)), if_neg (fun z => c52 (of_decide_eq_true z))]; done) | (rw [own_ea5, if_neg (fun z => c2 (of_decide_eq_true z)), if_neg (fun z => c9 (of_decide_eq_true z)), if_pos (decide_eq_true c21), if_neg (fun z => c33 (of_decide_eq_true z)), if_neg (fun z => c42 (of_decide_eq_true z)), if_neg (fun z => c52 (of_decide_eq_true z))]; rfl), N0, rfl⟩
      · refine own_step (T' := s₁) (g' := (mkF m 24 #[.val (.ref a1), .val (.int (5 : Int32)), .val (.int p3), .val (.int p4)] [])) (fun t k => XS.icmpNo X0.here hx rfl (hb hby d2_21) rfl (feq c21).1 k) ?_
        refine own_step (T' := s₁) (g' := (mkF m 25 #[.val (.ref a1), .val (.int (5 : Int32)), .val (.int p3), .val (.int p4)] [(.int (0 : Int32))])) (fun t k => XS.iconst X0.here hx rfl (hb hby d2_24) k) ?_
        refine own_rN X0 hx hlk Bd.returns (by simp) (hb hby d2_25) ?_ (by decide) (by decide)
        rw [e0]
        exact ⟨by first | (rw [own_ea5, if_neg (fun z => c2 (of_decide_eq_true z)), if_neg (fun z => c9 (of_decide_eq_true z)), if_neg (fun z => c21 (of_decide_eq_true z))]; done) | (rw [own_ea5, if_neg (fun z => c2 (of_decide_eq_true z)), if_neg (fun z => c9 (of_decide_eq_true z)), if_neg (fun z => c21 (of_decide_eq_true z))]; rfl), N0, rfl⟩
def own_ea6 (g f k nA nB rB nC : Bool) : Int32 := if g = true then 0 else if f = true then 0 else if nA = true then (if nB = true then 1 else (if k = true then 0 else (if rB = true then (if nC = true then 1 else 0) else 0))) else 0
def Q_ea6 (p3 p4 y0 y1 y2 y3 y4 y5 : Int32) (h0 : Heap) (n0 : Nat) (v : Option Value) (h : Heap) (L : List Loc) : Prop := v = some (.int (own_ea6 (decide (p4 < (6 : Int32))) (decide ((4 : Int32) < p3)) (decide ((3 : Int32) < p3)) (decide (y5 = (10 : Int32))) (decide (y4 = (10 : Int32))) (decide (y4 = (13 : Int32))) (decide (y3 = (10 : Int32))))) ∧ Fr n0 L ∧ h = h0
theorem ef_rm_ea6 (m : MethodId) (x0 : Addr) (x1 : Int32) (x2 : Int32) (x3 : Int32) : entryFrame m #[(.ref x0), (.int x1), (.int x2), (.int x3)] 4 = mkF m 0 #[.val (.ref x0), .val (.int x1), .val (.int x2), .val (.int x3)] [] := by first | (simp [entryFrame, mkF, argsToLocals, Value.category]; done) | rfl | (simp [entryFrame, mkF, argsToLocals, Value.category] <;> rfl)
set_option maxRecDepth 65536 in
set_option maxHeartbeats 40000000 in
theorem rm_ea6 (l : Launch) (Z : State) (a0 : Array Value) (hw : ∀ d ∈ tables_1, d.before a0 Z = true) (ws : List Jvm.Cond) (a1 : Addr) (p3 : Int32) (p4 : Int32) (y0 : Int32) (y1 : Int32) (y2 : Int32) (y3 : Int32) (y4 : Int32) (y5 : Int32) (ka : ClassId) (h0 : Heap) (n0 : Nat) (Z0 : n0 ≤ h0.size) (V_a : Arv Z h0 a1 ka .byte (6 : Int32) [(.int y0), (.int y1), (.int y2), (.int y3), (.int y4), (.int y5)] (.int (0 : Int32))) (hf0 : ¬ p3 < 0) :
    MetFree l (⟨"com/example/pollster/pollster/HttpHeadEndPinLaw", "endsAt", "([BIII)Z"⟩ : MethodName) (head1 (Jvm.Cond.code (⟨"com/example/pollster/pollster/HttpHeadEndPinLaw", "endsAt", "([BIII)Z"⟩ : MethodName) method_3_code 4 (some (.boolean)) :: ws) ({ frames := 0, cells := 0, slots := 0, locals := 0 } : Room)) (fun a U => a = #[(.ref a1), (.int (6 : Int32)), (.int p3), (.int p4)] ∧ Z.Warmed39 U.vm ∧ U.heap = h0) (fun _ _ _ _ _ => True) (fun _ U o U' => ∃ v L, o = .returned v ∧ (Q_ea6 p3 p4 y0 y1 y2 y3 y4 y5 h0 n0) v U'.heap L ∧ FrameEnd U o U' L ({ frames := 0, cells := 0, slots := 0, locals := 0 } : Room).cells ({ frames := 0, cells := 0, slots := 0, locals := 0 } : Room).slots) := by
  refine MetFree.of_bodySF (plainFor_of_name pn_0) hisR ?_
  intro p e s m args below meth c s₁ Bd hml0 hP hK
  obtain ⟨rfl, hZ, hh⟩ := hP
  have hx := Bd.exec
  have hby := Bd.bytes
  have hlk : meth.locks = false := BodyLoose.notSynchronized Bd
  have hml : c.maxLocals = 4 := hml0
  have hown : s.vm.findClass "com/example/pollster/pollster/HttpHeadEndPinLaw" = some m.cls := findClass_of_methodNamed Bd.named
  have hnm := (name_of_methodNamed Bd.named Bd.method).1
  have X0 : Stand p l e ({ frames := 0, cells := 0, slots := 0, locals := 0 } : Room) s m #[(.ref a1), (.int (6 : Int32)), (.int p3), (.int p4)] below meth c s₁ [] 0 0 := Stand.of_body Bd
  have e0 : s₁.heap = h0 := by rw [← hh, Bd.state]; rfl
  have N0 := Fr.nil n0
  show own_Go p e below s (Q_ea6 p3 p4 y0 y1 y2 y3 y4 y5 h0 n0) ({ frames := 0, cells := 0, slots := 0, locals := 0 } : Room).cells ({ frames := 0, cells := 0, slots := 0, locals := 0 } : Room).slots s₁ (entryFrame m #[(.ref a1), (.int (6 : Int32)), (.int p3), (.int p4)] 4)
  refine own_cast (g' := (mkF m 0 #[.val (.ref a1), .val (.int (6 : Int32)), .val (.int p3), .val (.int p4)] [])) (ef_rm_ea6 m a1 (6 : Int32) p3 p4) ?_
  refine own_step (T' := s₁) (g' := (mkF m 1 #[.val (.ref a1), .val (.int (6 : Int32)), .val (.int p3), .val (.int p4)] [(.int (6 : Int32))])) (fun t k => XS.iloadN X0.here hx rfl (hb hby d2_0) rfl k) ?_
  refine own_step (T' := s₁) (g' := (mkF m 2 #[.val (.ref a1), .val (.int (6 : Int32)), .val (.int p3), .val (.int p4)] [(.int p4), (.int (6 : Int32))])) (fun t k => XS.iloadN X0.here hx rfl (hb hby d2_1) rfl k) ?_
  by_cases c2 : p4 < (6 : Int32)
  · refine own_step (T' := s₁) (g' := (mkF m 12 #[.val (.ref a1), .val (.int (6 : Int32)), .val (.int p3), .val (.int p4)] [])) (fun t k => XS.icmpYes X0.here hx rfl (pc0 := 2) (pc' := 12) rfl (hb hby d2_2) rfl (tlt c2).2.2.1 (by decide) (by decide) k) ?_
    refine own_step (T' := s₁) (g' := (mkF m 13 #[.val (.ref a1), .val (.int (6 : Int32)), .val (.int p3), .val (.int p4)] [(.int (0 : Int32))])) (fun t k => XS.iconst X0.here hx rfl (hb hby d2_12) k) ?_
    refine own_rN X0 hx hlk Bd.returns (by simp) (hb hby d2_13) ?_ (by decide) (by decide)
    rw [e0]
    exact ⟨by first | (rw [own_ea6, if_pos (decide_eq_true c2)]; done) | (rw [own_ea6, if_pos (decide_eq_true c2)]; rfl), N0, rfl⟩
  · refine own_step (T' := s₁) (g' := (mkF m 5 #[.val (.ref a1), .val (.int (6 : Int32)), .val (.int p3), .val (.int p4)] [])) (fun t k => XS.icmpNo X0.here hx rfl (hb hby d2_2) rfl (flt c2).2.2.1 k) ?_
    refine own_step (T' := s₁) (g' := (mkF m 6 #[.val (.ref a1), .val (.int (6 : Int32)), .val (.int p3), .val (.int p4)] [(.int (6 : Int32))])) (fun t k => XS.iloadN X0.here hx rfl (hb hby d2_5) rfl k) ?_
    refine own_step (T' := s₁) (g' := (mkF m 7 #[.val (.ref a1), .val (.int (6 : Int32)), .val (.int p3), .val (.int p4)] [(.int (2 : Int32)), (.int (6 : Int32))])) (fun t k => XS.iconst X0.here hx rfl (hb hby d2_6) k) ?_
    refine own_step (T' := s₁) (g' := (mkF m 8 #[.val (.ref a1), .val (.int (6 : Int32)), .val (.int p3), .val (.int p4)] [(.int (4 : Int32))])) (fun t k => XS.isub X0.here hx rfl (hb hby d2_7) rfl k) ?_
    refine own_step (T' := s₁) (g' := (mkF m 9 #[.val (.ref a1), .val (.int (6 : Int32)), .val (.int p3), .val (.int p4)] [(.int p3), (.int (4 : Int32))])) (fun t k => XS.iloadN X0.here hx rfl (hb hby d2_8) rfl k) ?_
    by_cases c9 : (4 : Int32) < p3
    · refine own_step (T' := s₁) (g' := (mkF m 12 #[.val (.ref a1), .val (.int (6 : Int32)), .val (.int p3), .val (.int p4)] [])) (fun t k => XS.icmpNo X0.here hx rfl (hb hby d2_9) rfl (tlt c9).2.1 k) ?_
      refine own_step (T' := s₁) (g' := (mkF m 13 #[.val (.ref a1), .val (.int (6 : Int32)), .val (.int p3), .val (.int p4)] [(.int (0 : Int32))])) (fun t k => XS.iconst X0.here hx rfl (hb hby d2_12) k) ?_
      refine own_rN X0 hx hlk Bd.returns (by simp) (hb hby d2_13) ?_ (by decide) (by decide)
      rw [e0]
      exact ⟨by first | (rw [own_ea6, if_neg (fun z => c2 (of_decide_eq_true z)), if_pos (decide_eq_true c9)]; done) | (rw [own_ea6, if_neg (fun z => c2 (of_decide_eq_true z)), if_pos (decide_eq_true c9)]; rfl), N0, rfl⟩
    · refine own_step (T' := s₁) (g' := (mkF m 14 #[.val (.ref a1), .val (.int (6 : Int32)), .val (.int p3), .val (.int p4)] [])) (fun t k => XS.icmpYes X0.here hx rfl (pc0 := 9) (pc' := 14) rfl (hb hby d2_9) rfl (flt c9).2.1 (by decide) (by decide) k) ?_
      refine own_step (T' := s₁) (g' := (mkF m 15 #[.val (.ref a1), .val (.int (6 : Int32)), .val (.int p3), .val (.int p4)] [(.ref a1)])) (fun t k => XS.aloadN X0.here hx rfl (hb hby d2_14) rfl rfl k) ?_
      refine own_step (T' := s₁) (g' := (mkF m 16 #[.val (.ref a1), .val (.int (6 : Int32)), .val (.int p3), .val (.int p4)] [(.int (6 : Int32)), (.ref a1)])) (fun t k => XS.iloadN X0.here hx rfl (hb hby d2_15) rfl k) ?_
      refine own_step (T' := s₁) (g' := (mkF m 17 #[.val (.ref a1), .val (.int (6 : Int32)), .val (.int p3), .val (.int p4)] [(.int (1 : Int32)), (.int (6 : Int32)), (.ref a1)])) (fun t k => XS.iconst X0.here hx rfl (hb hby d2_16) k) ?_
      refine own_step (T' := s₁) (g' := (mkF m 18 #[.val (.ref a1), .val (.int (6 : Int32)), .val (.int p3), .val (.int p4)] [(.int (5 : Int32)), (.ref a1)])) (fun t k => XS.isub X0.here hx rfl (hb hby d2_17) rfl k) ?_
      obtain ⟨cl1, Ar1, qa1, S1, M1, H1, U1⟩ := id V_a
      have hi1 := inb_of S1 (j := (5 : Int32)) ⟨by decide, by decide⟩
      have hat1 := H1.at hi1 (v := (.int y5)) rfl
      refine own_step (T' := s₁) (g' := (mkF m 19 #[.val (.ref a1), .val (.int (6 : Int32)), .val (.int p3), .val (.int p4)] [(.int y5)])) (fun t k => X0.baloadBytes hx (j := (5 : Int32)) (v := (.int y5)) (by rw [e0]; exact Ar1.1) (State.isArrayOf_alike hZ.alike Ar1.2.1) Ar1.2.2 hi1 hat1 (g := (mkF m 18 #[.val (.ref a1), .val (.int (6 : Int32)), .val (.int p3), .val (.int p4)] [(.int (5 : Int32)), (.ref a1)])) rfl rfl (hb hby d2_18) t k) ?_
      refine own_step (T' := s₁) (g' := (mkF m 21 #[.val (.ref a1), .val (.int (6 : Int32)), .val (.int p3), .val (.int p4)] [(.int (10 : Int32)), (.int y5)])) (fun t k => XS.bipush X0.here hx rfl (hb hby d2_19) k) ?_
      by_cases c21 : y5 = (10 : Int32)
      · refine own_step (T' := s₁) (g' := (mkF m 26 #[.val (.ref a1), .val (.int (6 : Int32)), .val (.int p3), .val (.int p4)] [])) (fun t k => XS.icmpYes X0.here hx rfl (pc0 := 21) (pc' := 26) rfl (hb hby d2_21) rfl (teq c21).1 (by decide) (by decide) k) ?_
        refine own_step (T' := s₁) (g' := (mkF m 27 #[.val (.ref a1), .val (.int (6 : Int32)), .val (.int p3), .val (.int p4)] [(.ref a1)])) (fun t k => XS.aloadN X0.here hx rfl (hb hby d2_26) rfl rfl k) ?_
        refine own_step (T' := s₁) (g' := (mkF m 28 #[.val (.ref a1), .val (.int (6 : Int32)), .val (.int p3), .val (.int p4)] [(.int (6 : Int32)), (.ref a1)])) (fun t k => XS.iloadN X0.here hx rfl (hb hby d2_27) rfl k) ?_
        refine own_step (T' := s₁) (g' := (mkF m 29 #[.val (.ref a1), .val (.int (6 : Int32)), .val (.int p3), .val (.int p4)] [(.int (2 : Int32)), (.int (6 : Int32)), (.ref a1)])) (fun t k => XS.iconst X0.here hx rfl (hb hby d2_28) k) ?_
        refine own_step (T' := s₁) (g' := (mkF m 30 #[.val (.ref a1), .val (.int (6 : Int32)), .val (.int p3), .val (.int p4)] [(.int (4 : Int32)), (.ref a1)])) (fun t k => XS.isub X0.here hx rfl (hb hby d2_29) rfl k) ?_
        obtain ⟨cl2, Ar2, qa2, S2, M2, H2, U2⟩ := id V_a
        have hi2 := inb_of S2 (j := (4 : Int32)) ⟨by decide, by decide⟩
        have hat2 := H2.at hi2 (v := (.int y4)) rfl
        refine own_step (T' := s₁) (g' := (mkF m 31 #[.val (.ref a1), .val (.int (6 : Int32)), .val (.int p3), .val (.int p4)] [(.int y4)])) (fun t k => X0.baloadBytes hx (j := (4 : Int32)) (v := (.int y4)) (by rw [e0]; exact Ar2.1) (State.isArrayOf_alike hZ.alike Ar2.2.1) Ar2.2.2 hi2 hat2 (g := (mkF m 30 #[.val (.ref a1), .val (.int (6 : Int32)), .val (.int p3), .val (.int p4)] [(.int (4 : Int32)), (.ref a1)])) rfl rfl (hb hby d2_30) t k) ?_
        refine own_step (T' := s₁) (g' := (mkF m 33 #[.val (.ref a1), .val (.int (6 : Int32)), .val (.int p3), .val (.int p4)] [(.int (10 : Int32)), (.int y4)])) (fun t k => XS.bipush X0.here hx rfl (hb hby d2_31) k) ?_
        by_cases c33 : y4 = (10 : Int32)
        · refine own_step (T' := s₁) (g' := (mkF m 36 #[.val (.ref a1), .val (.int (6 : Int32)), .val (.int p3), .val (.int p4)] [])) (fun t k => XS.icmpNo X0.here hx rfl (hb hby d2_33) rfl (teq c33).2 k) ?_
          refine own_step (T' := s₁) (g' := (mkF m 37 #[.val (.ref a1), .val (.int (6 : Int32)), .val (.int p3), .val (.int p4)] [(.int (1 : Int32))])) (fun t k => XS.iconst X0.here hx rfl (hb hby d2_36) k) ?_
          refine own_rN X0 hx hlk Bd.returns (by simp) (hb hby d2_37) ?_ (by decide) (by decide)
          rw [e0]
          exact ⟨by first | (rw [own_ea6, if_neg (fun z => c2 (of_decide_eq_true z)), if_neg (fun z => c9 (of_decide_eq_true z)), if_pos (decide_eq_true c21), if_pos (decide_eq_true c33)]; done) | (rw [own_ea6, if_neg (fun z => c2 (of_decide_eq_true z)), if_neg (fun z => c9 (of_decide_eq_true z)), if_pos (decide_eq_true c21), if_pos (decide_eq_true c33)]; rfl), N0, rfl⟩
        · refine own_step (T' := s₁) (g' := (mkF m 38 #[.val (.ref a1), .val (.int (6 : Int32)), .val (.int p3), .val (.int p4)] [])) (fun t k => XS.icmpYes X0.here hx rfl (pc0 := 33) (pc' := 38) rfl (hb hby d2_33) rfl (feq c33).2 (by decide) (by decide) k) ?_
          refine own_step (T' := s₁) (g' := (mkF m 39 #[.val (.ref a1), .val (.int (6 : Int32)), .val (.int p3), .val (.int p4)] [(.int (6 : Int32))])) (fun t k => XS.iloadN X0.here hx rfl (hb hby d2_38) rfl k) ?_
          refine own_step (T' := s₁) (g' := (mkF m 40 #[.val (.ref a1), .val (.int (6 : Int32)), .val (.int p3), .val (.int p4)] [(.int (3 : Int32)), (.int (6 : Int32))])) (fun t k => XS.iconst X0.here hx rfl (hb hby d2_39) k) ?_
          refine own_step (T' := s₁) (g' := (mkF m 41 #[.val (.ref a1), .val (.int (6 : Int32)), .val (.int p3), .val (.int p4)] [(.int (3 : Int32))])) (fun t k => XS.isub X0.here hx rfl (hb hby d2_40) rfl k) ?_
          refine own_step (T' := s₁) (g' := (mkF m 42 #[.val (.ref a1), .val (.int (6 : Int32)), .val (.int p3), .val (.int p4)] [(.int p3), (.int (3 : Int32))])) (fun t k => XS.iloadN X0.here hx rfl (hb hby d2_41) rfl k) ?_
          by_cases c42 : (3 : Int32) < p3
          · refine own_step (T' := s₁) (g' := (mkF m 69 #[.val (.ref a1), .val (.int (6 : Int32)), .val (.int p3), .val (.int p4)] [])) (fun t k => XS.icmpYes X0.here hx rfl (pc0 := 42) (pc' := 69) rfl (hb hby d2_42) rfl (tlt c42).1 (by decide) (by decide) k) ?_
            refine own_step (T' := s₁) (g' := (mkF m 70 #[.val (.ref a1), .val (.int (6 : Int32)), .val (.int p3), .val (.int p4)] [(.int (0 : Int32))])) (fun t k => XS.iconst X0.here hx rfl (hb hby d2_69) k) ?_
            refine own_rN X0 hx hlk Bd.returns (by simp) (hb hby d2_70) ?_ (by decide) (by decide)
            rw [e0]
            exact ⟨by first | (rw [own_ea6, if_neg (fun z => c2 (of_decide_eq_true z)), if_neg (fun z => c9 (of_decide_eq_true z)), if_pos (decide_eq_true c21), if_neg (fun z => c33 (of_decide_eq_true z)), if_pos (decide_eq_true c42)]; done) | (rw [own_ea6, if_neg (fun z => c2 (of_decide_eq_true z)), if_neg (fun z => c9 (of_decide_eq_true z)), if_pos (decide_eq_true c21), if_neg (fun z => c33 (of_decide_eq_true z)), if_pos (decide_eq_true c42)]; rfl), N0, rfl⟩
          · refine own_step (T' := s₁) (g' := (mkF m 45 #[.val (.ref a1), .val (.int (6 : Int32)), .val (.int p3), .val (.int p4)] [])) (fun t k => XS.icmpNo X0.here hx rfl (hb hby d2_42) rfl (flt c42).1 k) ?_
            refine own_step (T' := s₁) (g' := (mkF m 46 #[.val (.ref a1), .val (.int (6 : Int32)), .val (.int p3), .val (.int p4)] [(.ref a1)])) (fun t k => XS.aloadN X0.here hx rfl (hb hby d2_45) rfl rfl k) ?_
            refine own_step (T' := s₁) (g' := (mkF m 47 #[.val (.ref a1), .val (.int (6 : Int32)), .val (.int p3), .val (.int p4)] [(.int (6 : Int32)), (.ref a1)])) (fun t k => XS.iloadN X0.here hx rfl (hb hby d2_46) rfl k) ?_
            refine own_step (T' := s₁) (g' := (mkF m 48 #[.val (.ref a1), .val (.int (6 : Int32)), .val (.int p3), .val (.int p4)] [(.int (2 : Int32)), (.int (6 : Int32)), (.ref a1)])) (fun t k => XS.iconst X0.here hx rfl (hb hby d2_47) k) ?_
            refine own_step (T' := s₁) (g' := (mkF m 49 #[.val (.ref a1), .val (.int (6 : Int32)), .val (.int p3), .val (.int p4)] [(.int (4 : Int32)), (.ref a1)])) (fun t k => XS.isub X0.here hx rfl (hb hby d2_48) rfl k) ?_
            obtain ⟨cl3, Ar3, qa3, S3, M3, H3, U3⟩ := id V_a
            have hi3 := inb_of S3 (j := (4 : Int32)) ⟨by decide, by decide⟩
            have hat3 := H3.at hi3 (v := (.int y4)) rfl
            refine own_step (T' := s₁) (g' := (mkF m 50 #[.val (.ref a1), .val (.int (6 : Int32)), .val (.int p3), .val (.int p4)] [(.int y4)])) (fun t k => X0.baloadBytes hx (j := (4 : Int32)) (v := (.int y4)) (by rw [e0]; exact Ar3.1) (State.isArrayOf_alike hZ.alike Ar3.2.1) Ar3.2.2 hi3 hat3 (g := (mkF m 49 #[.val (.ref a1), .val (.int (6 : Int32)), .val (.int p3), .val (.int p4)] [(.int (4 : Int32)), (.ref a1)])) rfl rfl (hb hby d2_49) t k) ?_
            refine own_step (T' := s₁) (g' := (mkF m 52 #[.val (.ref a1), .val (.int (6 : Int32)), .val (.int p3), .val (.int p4)] [(.int (13 : Int32)), (.int y4)])) (fun t k => XS.bipush X0.here hx rfl (hb hby d2_50) k) ?_
            by_cases c52 : y4 = (13 : Int32)
            · refine own_step (T' := s₁) (g' := (mkF m 55 #[.val (.ref a1), .val (.int (6 : Int32)), .val (.int p3), .val (.int p4)] [])) (fun t k => XS.icmpNo X0.here hx rfl (hb hby d2_52) rfl (teq c52).2 k) ?_
              refine own_step (T' := s₁) (g' := (mkF m 56 #[.val (.ref a1), .val (.int (6 : Int32)), .val (.int p3), .val (.int p4)] [(.ref a1)])) (fun t k => XS.aloadN X0.here hx rfl (hb hby d2_55) rfl rfl k) ?_
              refine own_step (T' := s₁) (g' := (mkF m 57 #[.val (.ref a1), .val (.int (6 : Int32)), .val (.int p3), .val (.int p4)] [(.int (6 : Int32)), (.ref a1)])) (fun t k => XS.iloadN X0.here hx rfl (hb hby d2_56) rfl k) ?_
              refine own_step (T' := s₁) (g' := (mkF m 58 #[.val (.ref a1), .val (.int (6 : Int32)), .val (.int p3), .val (.int p4)] [(.int (3 : Int32)), (.int (6 : Int32)), (.ref a1)])) (fun t k => XS.iconst X0.here hx rfl (hb hby d2_57) k) ?_
              refine own_step (T' := s₁) (g' := (mkF m 59 #[.val (.ref a1), .val (.int (6 : Int32)), .val (.int p3), .val (.int p4)] [(.int (3 : Int32)), (.ref a1)])) (fun t k => XS.isub X0.here hx rfl (hb hby d2_58) rfl k) ?_
              obtain ⟨cl4, Ar4, qa4, S4, M4, H4, U4⟩ := id V_a
              have hi4 := inb_of S4 (j := (3 : Int32)) ⟨by decide, by decide⟩
              have hat4 := H4.at hi4 (v := (.int y3)) rfl
              refine own_step (T' := s₁) (g' := (mkF m 60 #[.val (.ref a1), .val (.int (6 : Int32)), .val (.int p3), .val (.int p4)] [(.int y3)])) (fun t k => X0.baloadBytes hx (j := (3 : Int32)) (v := (.int y3)) (by rw [e0]; exact Ar4.1) (State.isArrayOf_alike hZ.alike Ar4.2.1) Ar4.2.2 hi4 hat4 (g := (mkF m 59 #[.val (.ref a1), .val (.int (6 : Int32)), .val (.int p3), .val (.int p4)] [(.int (3 : Int32)), (.ref a1)])) rfl rfl (hb hby d2_59) t k) ?_
              refine own_step (T' := s₁) (g' := (mkF m 62 #[.val (.ref a1), .val (.int (6 : Int32)), .val (.int p3), .val (.int p4)] [(.int (10 : Int32)), (.int y3)])) (fun t k => XS.bipush X0.here hx rfl (hb hby d2_60) k) ?_
              by_cases c62 : y3 = (10 : Int32)
              · refine own_step (T' := s₁) (g' := (mkF m 65 #[.val (.ref a1), .val (.int (6 : Int32)), .val (.int p3), .val (.int p4)] [])) (fun t k => XS.icmpNo X0.here hx rfl (hb hby d2_62) rfl (teq c62).2 k) ?_
                refine own_step (T' := s₁) (g' := (mkF m 66 #[.val (.ref a1), .val (.int (6 : Int32)), .val (.int p3), .val (.int p4)] [(.int (1 : Int32))])) (fun t k => XS.iconst X0.here hx rfl (hb hby d2_65) k) ?_
                refine own_step (T' := s₁) (g' := (mkF m 70 #[.val (.ref a1), .val (.int (6 : Int32)), .val (.int p3), .val (.int p4)] [(.int (1 : Int32))])) (fun t k => XS.goto X0.here hx rfl (pc0 := 66) (pc' := 70) rfl (hb hby d2_66) (by decide) (by decide) k) ?_
                refine own_rN X0 hx hlk Bd.returns (by simp) (hb hby d2_70) ?_ (by decide) (by decide)
                rw [e0]
                exact ⟨by first | (rw [own_ea6, if_neg (fun z => c2 (of_decide_eq_true z)), if_neg (fun z => c9 (of_decide_eq_true z)), if_pos (decide_eq_true c21), if_neg (fun z => c33 (of_decide_eq_true z)), if_neg (fun z => c42 (of_decide_eq_true z)), if_pos (decide_eq_true c52), if_pos (decide_eq_true c62)]; done) | (rw [own_ea6, if_neg (fun z => c2 (of_decide_eq_true z)), if_neg (fun z => c9 (of_decide_eq_true z)), if_pos (decide_eq_true c21), if_neg (fun z => c33 (of_decide_eq_true z)), if_neg (fun z => c42 (of_decide_eq_true z)), if_pos (decide_eq_true c52), if_pos (decide_eq_true c62)]; rfl), N0, rfl⟩
              · refine own_step (T' := s₁) (g' := (mkF m 69 #[.val (.ref a1), .val (.int (6 : Int32)), .val (.int p3), .val (.int p4)] [])) (fun t k => XS.icmpYes X0.here hx rfl (pc0 := 62) (pc' := 69) rfl (hb hby d2_62) rfl (feq c62).2 (by decide) (by decide) k) ?_
                refine own_step (T' := s₁) (g' := (mkF m 70 #[.val (.ref a1), .val (.int (6 : Int32)), .val (.int p3), .val (.int p4)] [(.int (0 : Int32))])) (fun t k => XS.iconst X0.here hx rfl (hb hby d2_69) k) ?_
                refine own_rN X0 hx hlk Bd.returns (by simp) (hb hby d2_70) ?_ (by decide) (by decide)
                rw [e0]
                exact ⟨by first | (rw [own_ea6, if_neg (fun z => c2 (of_decide_eq_true z)), if_neg (fun z => c9 (of_decide_eq_true z)), if_pos (decide_eq_true c21), if_neg (fun z => c33 (of_decide_eq_true z)), if_neg (fun z => c42 (of_decide_eq_true z)), if_pos (decide_eq_true c52), if_neg (fun z => c62 (of_decide_eq_true z))]; done) | (rw [own_ea6, if_neg (fun z => c2 (of_decide_eq_true z)), if_neg (fun z => c9 (of_decide_eq_true z)), if_pos (decide_eq_true c21), if_neg (fun z => c33 (of_decide_eq_true z)), if_neg (fun z => c42 (of_decide_eq_true z)), if_pos (decide_eq_true c52), if_neg (fun z => c62 (of_decide_eq_true z))]; rfl), N0, rfl⟩
            · refine own_step (T' := s₁) (g' := (mkF m 69 #[.val (.ref a1), .val (.int (6 : Int32)), .val (.int p3), .val (.int p4)] [])) (fun t k => XS.icmpYes X0.here hx rfl (pc0 := 52) (pc' := 69) rfl (hb hby d2_52) rfl (feq c52).2 (by decide) (by decide) k) ?_
              refine own_step (T' := s₁) (g' := (mkF m 70 #[.val (.ref a1), .val (.int (6 : Int32)), .val (.int p3), .val (.int p4)] [(.int (0 : Int32))])) (fun t k => XS.iconst X0.here hx rfl (hb hby d2_69) k) ?_
              refine own_rN X0 hx hlk Bd.returns (by simp) (hb hby d2_70) ?_ (by decide) (by decide)
              rw [e0]
              exact ⟨by first | (rw [own_ea6, if_neg (fun z => c2 (of_decide_eq_true z)), if_neg (fun z => c9 (of_decide_eq_true z)), if_pos (decide_eq_true c21), if_neg (fun z => c33 (of_decide_eq_true z)), if_neg (fun z => c42 (of_decide_eq_true z)), if_neg (fun z => c52 (of_decide_eq_true z))]; done) | (rw [own_ea6, if_neg (fun z => c2 (of_decide_eq_true z)), if_neg (fun z => c9 (of_decide_eq_true z)), if_pos (decide_eq_true c21), if_neg (fun z => c33 (of_decide_eq_true z)), if_neg (fun z => c42 (of_decide_eq_true z)), if_neg (fun z => c52 (of_decide_eq_true z))]; rfl), N0, rfl⟩
      · refine own_step (T' := s₁) (g' := (mkF m 24 #[.val (.ref a1), .val (.int (6 : Int32)), .val (.int p3), .val (.int p4)] [])) (fun t k => XS.icmpNo X0.here hx rfl (hb hby d2_21) rfl (feq c21).1 k) ?_
        refine own_step (T' := s₁) (g' := (mkF m 25 #[.val (.ref a1), .val (.int (6 : Int32)), .val (.int p3), .val (.int p4)] [(.int (0 : Int32))])) (fun t k => XS.iconst X0.here hx rfl (hb hby d2_24) k) ?_
        refine own_rN X0 hx hlk Bd.returns (by simp) (hb hby d2_25) ?_ (by decide) (by decide)
        rw [e0]
        exact ⟨by first | (rw [own_ea6, if_neg (fun z => c2 (of_decide_eq_true z)), if_neg (fun z => c9 (of_decide_eq_true z)), if_neg (fun z => c21 (of_decide_eq_true z))]; done) | (rw [own_ea6, if_neg (fun z => c2 (of_decide_eq_true z)), if_neg (fun z => c9 (of_decide_eq_true z)), if_neg (fun z => c21 (of_decide_eq_true z))]; rfl), N0, rfl⟩
def own_E6 : Int32 := -1
def own_E5 (l5 n5 : Bool) : Int32 := if l5 = true then (if n5 = true then own_E6 else own_E6) else -1
def own_E4 (l4 l5 n4 n5 : Bool) : Int32 := if l4 = true then (if n4 = true then (if l5 = true then (if n5 = true then (6 : Int32) else (own_E5 l5 n5)) else (own_E5 l5 n5)) else (own_E5 l5 n5)) else -1
def own_E3 (l3 l4 l5 n3 n4 n5 r4 : Bool) : Int32 := if l3 = true then (if n3 = true then (if l4 = true then (if n4 = true then (5 : Int32) else (if l5 = true then (if r4 = true then (if n5 = true then (6 : Int32) else (own_E4 l4 l5 n4 n5)) else (own_E4 l4 l5 n4 n5)) else (own_E4 l4 l5 n4 n5))) else (if l5 = true then (if r4 = true then (if n5 = true then (6 : Int32) else (own_E4 l4 l5 n4 n5)) else (own_E4 l4 l5 n4 n5)) else (own_E4 l4 l5 n4 n5))) else (own_E4 l4 l5 n4 n5)) else -1
def own_E2 (l2 l3 l4 l5 n2 n3 n4 n5 r3 r4 : Bool) : Int32 := if l2 = true then (if n2 = true then (if l3 = true then (if n3 = true then (4 : Int32) else (if l4 = true then (if r3 = true then (if n4 = true then (5 : Int32) else (own_E3 l3 l4 l5 n3 n4 n5 r4)) else (own_E3 l3 l4 l5 n3 n4 n5 r4)) else (own_E3 l3 l4 l5 n3 n4 n5 r4))) else (if l4 = true then (if r3 = true then (if n4 = true then (5 : Int32) else (own_E3 l3 l4 l5 n3 n4 n5 r4)) else (own_E3 l3 l4 l5 n3 n4 n5 r4)) else (own_E3 l3 l4 l5 n3 n4 n5 r4))) else (own_E3 l3 l4 l5 n3 n4 n5 r4)) else -1
def own_E1 (l1 l2 l3 l4 l5 n1 n2 n3 n4 n5 r2 r3 r4 : Bool) : Int32 := if l1 = true then (if n1 = true then (if l2 = true then (if n2 = true then (3 : Int32) else (if l3 = true then (if r2 = true then (if n3 = true then (4 : Int32) else (own_E2 l2 l3 l4 l5 n2 n3 n4 n5 r3 r4)) else (own_E2 l2 l3 l4 l5 n2 n3 n4 n5 r3 r4)) else (own_E2 l2 l3 l4 l5 n2 n3 n4 n5 r3 r4))) else (if l3 = true then (if r2 = true then (if n3 = true then (4 : Int32) else (own_E2 l2 l3 l4 l5 n2 n3 n4 n5 r3 r4)) else (own_E2 l2 l3 l4 l5 n2 n3 n4 n5 r3 r4)) else (own_E2 l2 l3 l4 l5 n2 n3 n4 n5 r3 r4))) else (own_E2 l2 l3 l4 l5 n2 n3 n4 n5 r3 r4)) else -1
def own_E0 (l0 l1 l2 l3 l4 l5 n0 n1 n2 n3 n4 n5 r1 r2 r3 r4 : Bool) : Int32 := if l0 = true then (if n0 = true then (if l1 = true then (if n1 = true then (2 : Int32) else (if l2 = true then (if r1 = true then (if n2 = true then (3 : Int32) else (own_E1 l1 l2 l3 l4 l5 n1 n2 n3 n4 n5 r2 r3 r4)) else (own_E1 l1 l2 l3 l4 l5 n1 n2 n3 n4 n5 r2 r3 r4)) else (own_E1 l1 l2 l3 l4 l5 n1 n2 n3 n4 n5 r2 r3 r4))) else (if l2 = true then (if r1 = true then (if n2 = true then (3 : Int32) else (own_E1 l1 l2 l3 l4 l5 n1 n2 n3 n4 n5 r2 r3 r4)) else (own_E1 l1 l2 l3 l4 l5 n1 n2 n3 n4 n5 r2 r3 r4)) else (own_E1 l1 l2 l3 l4 l5 n1 n2 n3 n4 n5 r2 r3 r4))) else (own_E1 l1 l2 l3 l4 l5 n1 n2 n3 n4 n5 r2 r3 r4)) else -1
def own_end (p2 p3 y0 y1 y2 y3 y4 y5 : Int32) : Int32 := if p2 = (0 : Int32) then (own_E0 (decide ((0 : Int32) < p3)) (decide ((1 : Int32) < p3)) (decide ((2 : Int32) < p3)) (decide ((3 : Int32) < p3)) (decide ((4 : Int32) < p3)) (decide ((5 : Int32) < p3)) (decide (y0 = (10 : Int32))) (decide (y1 = (10 : Int32))) (decide (y2 = (10 : Int32))) (decide (y3 = (10 : Int32))) (decide (y4 = (10 : Int32))) (decide (y5 = (10 : Int32))) (decide (y1 = (13 : Int32))) (decide (y2 = (13 : Int32))) (decide (y3 = (13 : Int32))) (decide (y4 = (13 : Int32)))) else if p2 = (1 : Int32) then (own_E1 (decide ((1 : Int32) < p3)) (decide ((2 : Int32) < p3)) (decide ((3 : Int32) < p3)) (decide ((4 : Int32) < p3)) (decide ((5 : Int32) < p3)) (decide (y1 = (10 : Int32))) (decide (y2 = (10 : Int32))) (decide (y3 = (10 : Int32))) (decide (y4 = (10 : Int32))) (decide (y5 = (10 : Int32))) (decide (y2 = (13 : Int32))) (decide (y3 = (13 : Int32))) (decide (y4 = (13 : Int32)))) else if p2 = (2 : Int32) then (own_E2 (decide ((2 : Int32) < p3)) (decide ((3 : Int32) < p3)) (decide ((4 : Int32) < p3)) (decide ((5 : Int32) < p3)) (decide (y2 = (10 : Int32))) (decide (y3 = (10 : Int32))) (decide (y4 = (10 : Int32))) (decide (y5 = (10 : Int32))) (decide (y3 = (13 : Int32))) (decide (y4 = (13 : Int32)))) else if p2 = (3 : Int32) then (own_E3 (decide ((3 : Int32) < p3)) (decide ((4 : Int32) < p3)) (decide ((5 : Int32) < p3)) (decide (y3 = (10 : Int32))) (decide (y4 = (10 : Int32))) (decide (y5 = (10 : Int32))) (decide (y4 = (13 : Int32)))) else if p2 = (4 : Int32) then (own_E4 (decide ((4 : Int32) < p3)) (decide ((5 : Int32) < p3)) (decide (y4 = (10 : Int32))) (decide (y5 = (10 : Int32)))) else if p2 = (5 : Int32) then (own_E5 (decide ((5 : Int32) < p3)) (decide (y5 = (10 : Int32)))) else own_E6
theorem own_rng7 {f : Int32} (h : ¬ f < 0 ∧ ¬ 6 < f) : f = 0 ∨ f = 1 ∨ f = 2 ∨ f = 3 ∨ f = 4 ∨ f = 5 ∨ f = 6 := by
  obtain ⟨h1, h2⟩ := h
  rw [Int32.lt_iff_toInt_lt] at h1 h2
  simp only [← Int32.toInt_inj]
  have z0 : (0 : Int32).toInt = 0 := by decide
  have z1 : (1 : Int32).toInt = 1 := by decide
  have z2 : (2 : Int32).toInt = 2 := by decide
  have z3 : (3 : Int32).toInt = 3 := by decide
  have z4 : (4 : Int32).toInt = 4 := by decide
  have z5 : (5 : Int32).toInt = 5 := by decide
  have z6 : (6 : Int32).toInt = 6 := by decide
  rw [z0] at h1; rw [z6] at h2
  rw [z0, z1, z2, z3, z4, z5, z6]
  omega
theorem own_not7 {f : Int32} (h : ¬ 6 < f) : ¬ 7 < f := by
  rw [Int32.lt_iff_toInt_lt] at h ⊢
  have z6 : (6 : Int32).toInt = 6 := by decide
  have z7 : (7 : Int32).toInt = 7 := by decide
  rw [z6] at h; rw [z7]; omega
def Q_end (p2 p3 y0 y1 y2 y3 y4 y5 : Int32) (h0 : Heap) (n0 : Nat) (v : Option Value) (h : Heap) (L : List Loc) : Prop := v = some (.int (own_end p2 p3 y0 y1 y2 y3 y4 y5)) ∧ Fr n0 L ∧ h = h0
theorem ef_rm_end (m : MethodId) (x0 : Addr) (x1 : Int32) (x2 : Int32) : entryFrame m #[(.ref x0), (.int x1), (.int x2)] 4 = mkF m 0 #[.val (.ref x0), .val (.int x1), .val (.int x2), .unset] [] := by first | (simp [entryFrame, mkF, argsToLocals, Value.category]; done) | rfl | (simp [entryFrame, mkF, argsToLocals, Value.category] <;> rfl)
theorem pn_1 : plainName "com/example/pollster/pollster/HttpHead" = true := by first | (simp [plainName, overriddenIn]; done) | decide +kernel
theorem d3_2 : decode prog_31_method_2_code 2 = .ok (.iload_n 3, 1) := by decide +kernel
theorem d3_3 : decode prog_31_method_2_code 3 = .ok (.iload_n 2, 1) := by decide +kernel
theorem d3_4 : decode prog_31_method_2_code 4 = .ok (.if_icmp .ge 72, 3) := by decide +kernel
theorem d3_76 : decode prog_31_method_2_code 76 = .ok (.iconst (-1), 1) := by decide +kernel
theorem d3_77 : decode prog_31_method_2_code 77 = .ok (.ireturn, 1) := by decide +kernel
theorem d3_7 : decode prog_31_method_2_code 7 = .ok (.aload_n 0, 1) := by decide +kernel
theorem d3_8 : decode prog_31_method_2_code 8 = .ok (.iload_n 3, 1) := by decide +kernel
theorem d3_9 : decode prog_31_method_2_code 9 = .ok (.baload, 1) := by decide +kernel
theorem d3_10 : decode prog_31_method_2_code 10 = .ok (.bipush 10, 2) := by decide +kernel
theorem d3_12 : decode prog_31_method_2_code 12 = .ok (.if_icmp .eq 6, 3) := by decide +kernel
theorem d3_18 : decode prog_31_method_2_code 18 = .ok (.iload_n 3, 1) := by decide +kernel
theorem d3_19 : decode prog_31_method_2_code 19 = .ok (.iconst 1, 1) := by decide +kernel
theorem d3_20 : decode prog_31_method_2_code 20 = .ok (.iadd, 1) := by decide +kernel
theorem d3_21 : decode prog_31_method_2_code 21 = .ok (.iload_n 2, 1) := by decide +kernel
theorem d3_22 : decode prog_31_method_2_code 22 = .ok (.if_icmp .ge 17, 3) := by decide +kernel
theorem d3_39 : decode prog_31_method_2_code 39 = .ok (.iload_n 3, 1) := by decide +kernel
theorem d3_40 : decode prog_31_method_2_code 40 = .ok (.iconst 2, 1) := by decide +kernel
theorem d3_41 : decode prog_31_method_2_code 41 = .ok (.iadd, 1) := by decide +kernel
theorem d3_42 : decode prog_31_method_2_code 42 = .ok (.iload_n 2, 1) := by decide +kernel
theorem d3_43 : decode prog_31_method_2_code 43 = .ok (.if_icmp .ge 27, 3) := by decide +kernel
theorem d3_70 : decode prog_31_method_2_code 70 = .ok (.iinc 3 1, 3) := by decide +kernel
theorem d3_73 : decode prog_31_method_2_code 73 = .ok (.goto (-71), 3) := by decide +kernel
theorem d3_15 : decode prog_31_method_2_code 15 = .ok (.goto 55, 3) := by decide +kernel
theorem d3_25 : decode prog_31_method_2_code 25 = .ok (.aload_n 0, 1) := by decide +kernel
theorem d3_26 : decode prog_31_method_2_code 26 = .ok (.iload_n 3, 1) := by decide +kernel
theorem d3_27 : decode prog_31_method_2_code 27 = .ok (.iconst 1, 1) := by decide +kernel
theorem d3_28 : decode prog_31_method_2_code 28 = .ok (.iadd, 1) := by decide +kernel
theorem d3_29 : decode prog_31_method_2_code 29 = .ok (.baload, 1) := by decide +kernel
theorem d3_30 : decode prog_31_method_2_code 30 = .ok (.bipush 10, 2) := by decide +kernel
theorem d3_32 : decode prog_31_method_2_code 32 = .ok (.if_icmp .ne 7, 3) := by decide +kernel
theorem d3_35 : decode prog_31_method_2_code 35 = .ok (.iload_n 3, 1) := by decide +kernel
theorem d3_36 : decode prog_31_method_2_code 36 = .ok (.iconst 2, 1) := by decide +kernel
theorem d3_37 : decode prog_31_method_2_code 37 = .ok (.iadd, 1) := by decide +kernel
theorem d3_38 : decode prog_31_method_2_code 38 = .ok (.ireturn, 1) := by decide +kernel
theorem d3_46 : decode prog_31_method_2_code 46 = .ok (.aload_n 0, 1) := by decide +kernel
theorem d3_47 : decode prog_31_method_2_code 47 = .ok (.iload_n 3, 1) := by decide +kernel
theorem d3_48 : decode prog_31_method_2_code 48 = .ok (.iconst 1, 1) := by decide +kernel
theorem d3_49 : decode prog_31_method_2_code 49 = .ok (.iadd, 1) := by decide +kernel
theorem d3_50 : decode prog_31_method_2_code 50 = .ok (.baload, 1) := by decide +kernel
theorem d3_51 : decode prog_31_method_2_code 51 = .ok (.bipush 13, 2) := by decide +kernel
theorem d3_53 : decode prog_31_method_2_code 53 = .ok (.if_icmp .ne 17, 3) := by decide +kernel
theorem d3_56 : decode prog_31_method_2_code 56 = .ok (.aload_n 0, 1) := by decide +kernel
theorem d3_57 : decode prog_31_method_2_code 57 = .ok (.iload_n 3, 1) := by decide +kernel
theorem d3_58 : decode prog_31_method_2_code 58 = .ok (.iconst 2, 1) := by decide +kernel
theorem d3_59 : decode prog_31_method_2_code 59 = .ok (.iadd, 1) := by decide +kernel
theorem d3_60 : decode prog_31_method_2_code 60 = .ok (.baload, 1) := by decide +kernel
theorem d3_61 : decode prog_31_method_2_code 61 = .ok (.bipush 10, 2) := by decide +kernel
theorem d3_63 : decode prog_31_method_2_code 63 = .ok (.if_icmp .ne 7, 3) := by decide +kernel
theorem d3_66 : decode prog_31_method_2_code 66 = .ok (.iload_n 3, 1) := by decide +kernel
theorem d3_67 : decode prog_31_method_2_code 67 = .ok (.iconst 3, 1) := by decide +kernel
theorem d3_68 : decode prog_31_method_2_code 68 = .ok (.iadd, 1) := by decide +kernel
theorem d3_69 : decode prog_31_method_2_code 69 = .ok (.ireturn, 1) := by decide +kernel
theorem d3_0 : decode prog_31_method_2_code 0 = .ok (.iload_n 1, 1) := by decide +kernel
theorem d3_1 : decode prog_31_method_2_code 1 = .ok (.istore_n 3, 1) := by decide +kernel
set_option maxRecDepth 65536 in
set_option maxHeartbeats 40000000 in
theorem rm_end (l : Launch) (Z : State) (a0 : Array Value) (hw : ∀ d ∈ tables_1, d.before a0 Z = true) (ws : List Jvm.Cond) (a1 : Addr) (p2 : Int32) (p3 : Int32) (y0 : Int32) (y1 : Int32) (y2 : Int32) (y3 : Int32) (y4 : Int32) (y5 : Int32) (ka : ClassId) (h0 : Heap) (n0 : Nat) (Z0 : n0 ≤ h0.size) (V_a : Arv Z h0 a1 ka .byte (6 : Int32) [(.int y0), (.int y1), (.int y2), (.int y3), (.int y4), (.int y5)] (.int (0 : Int32))) (hf : ¬ p2 < 0 ∧ ¬ 6 < p2) (ht : ¬ 6 < p3) :
    MetFree l (⟨"com/example/pollster/pollster/HttpHead", "end", "([BII)I"⟩ : MethodName) (head1 (Jvm.Cond.code (⟨"com/example/pollster/pollster/HttpHead", "end", "([BII)I"⟩ : MethodName) prog_31_method_2_code 4 (some (.int)) :: ws) ({ frames := 0, cells := 0, slots := 0, locals := 0 } : Room)) (fun a U => a = #[(.ref a1), (.int p2), (.int p3)] ∧ Z.Warmed39 U.vm ∧ U.heap = h0) (fun _ _ _ _ _ => True) (fun _ U o U' => ∃ v L, o = .returned v ∧ (Q_end p2 p3 y0 y1 y2 y3 y4 y5 h0 n0) v U'.heap L ∧ FrameEnd U o U' L ({ frames := 0, cells := 0, slots := 0, locals := 0 } : Room).cells ({ frames := 0, cells := 0, slots := 0, locals := 0 } : Room).slots) := by
  refine MetFree.of_bodySF (plainFor_of_name pn_1) hisR ?_
  intro p e s m args below meth c s₁ Bd hml0 hP hK
  obtain ⟨rfl, hZ, hh⟩ := hP
  have hx := Bd.exec
  have hby := Bd.bytes
  have hlk : meth.locks = false := BodyLoose.notSynchronized Bd
  have hml : c.maxLocals = 4 := hml0
  have hown : s.vm.findClass "com/example/pollster/pollster/HttpHead" = some m.cls := findClass_of_methodNamed Bd.named
  have hnm := (name_of_methodNamed Bd.named Bd.method).1
  have X0 : Stand p l e ({ frames := 0, cells := 0, slots := 0, locals := 0 } : Room) s m #[(.ref a1), (.int p2), (.int p3)] below meth c s₁ [] 0 0 := Stand.of_body Bd
  have e0 : s₁.heap = h0 := by rw [← hh, Bd.state]; rfl
  have N0 := Fr.nil n0
  show own_Go p e below s (Q_end p2 p3 y0 y1 y2 y3 y4 y5 h0 n0) ({ frames := 0, cells := 0, slots := 0, locals := 0 } : Room).cells ({ frames := 0, cells := 0, slots := 0, locals := 0 } : Room).slots s₁ (entryFrame m #[(.ref a1), (.int p2), (.int p3)] 4)
  refine own_cast (g' := (mkF m 0 #[.val (.ref a1), .val (.int p2), .val (.int p3), .unset] [])) (ef_rm_end m a1 p2 p3) ?_
  have L6 : own_end p2 p3 y0 y1 y2 y3 y4 y5 = own_E6 → own_Go p e below s (Q_end p2 p3 y0 y1 y2 y3 y4 y5 h0 n0) ({ frames := 0, cells := 0, slots := 0, locals := 0 } : Room).cells ({ frames := 0, cells := 0, slots := 0, locals := 0 } : Room).slots s₁ (mkF m 2 #[.val (.ref a1), .val (.int p2), .val (.int p3), .val (.int (6 : Int32))] []) := by
    intro hr6
    refine own_step (T' := s₁) (g' := (mkF m 3 #[.val (.ref a1), .val (.int p2), .val (.int p3), .val (.int (6 : Int32))] [(.int (6 : Int32))])) (fun t k => XS.iloadN X0.here hx rfl (hb hby d3_2) rfl k) ?_
    refine own_step (T' := s₁) (g' := (mkF m 4 #[.val (.ref a1), .val (.int p2), .val (.int p3), .val (.int (6 : Int32))] [(.int p3), (.int (6 : Int32))])) (fun t k => XS.iloadN X0.here hx rfl (hb hby d3_3) rfl k) ?_
    refine own_step (T' := s₁) (g' := (mkF m 76 #[.val (.ref a1), .val (.int p2), .val (.int p3), .val (.int (6 : Int32))] [])) (fun t k => XS.icmpYes X0.here hx rfl (pc0 := 4) (pc' := 76) rfl (hb hby d3_4) rfl (flt ht).2.1 (by decide) (by decide) k) ?_
    refine own_step (T' := s₁) (g' := (mkF m 77 #[.val (.ref a1), .val (.int p2), .val (.int p3), .val (.int (6 : Int32))] [(.int ((-1) : Int32))])) (fun t k => XS.iconst X0.here hx rfl (hb hby d3_76) k) ?_
    refine own_rI X0 hx hlk Bd.returns (hb hby d3_77) ?_ (by decide) (by decide)
    rw [e0]
    exact ⟨by rw [hr6]; rfl, N0, rfl⟩
  have L5 : own_end p2 p3 y0 y1 y2 y3 y4 y5 = (own_E5 (decide ((5 : Int32) < p3)) (decide (y5 = (10 : Int32)))) → own_Go p e below s (Q_end p2 p3 y0 y1 y2 y3 y4 y5 h0 n0) ({ frames := 0, cells := 0, slots := 0, locals := 0 } : Room).cells ({ frames := 0, cells := 0, slots := 0, locals := 0 } : Room).slots s₁ (mkF m 2 #[.val (.ref a1), .val (.int p2), .val (.int p3), .val (.int (5 : Int32))] []) := by
    intro hr5
    refine own_step (T' := s₁) (g' := (mkF m 3 #[.val (.ref a1), .val (.int p2), .val (.int p3), .val (.int (5 : Int32))] [(.int (5 : Int32))])) (fun t k => XS.iloadN X0.here hx rfl (hb hby d3_2) rfl k) ?_
    refine own_step (T' := s₁) (g' := (mkF m 4 #[.val (.ref a1), .val (.int p2), .val (.int p3), .val (.int (5 : Int32))] [(.int p3), (.int (5 : Int32))])) (fun t k => XS.iloadN X0.here hx rfl (hb hby d3_3) rfl k) ?_
    by_cases c4 : (5 : Int32) < p3
    · refine own_step (T' := s₁) (g' := (mkF m 7 #[.val (.ref a1), .val (.int p2), .val (.int p3), .val (.int (5 : Int32))] [])) (fun t k => XS.icmpNo X0.here hx rfl (hb hby d3_4) rfl (tlt c4).2.1 k) ?_
      refine own_step (T' := s₁) (g' := (mkF m 8 #[.val (.ref a1), .val (.int p2), .val (.int p3), .val (.int (5 : Int32))] [(.ref a1)])) (fun t k => XS.aloadN X0.here hx rfl (hb hby d3_7) rfl rfl k) ?_
      refine own_step (T' := s₁) (g' := (mkF m 9 #[.val (.ref a1), .val (.int p2), .val (.int p3), .val (.int (5 : Int32))] [(.int (5 : Int32)), (.ref a1)])) (fun t k => XS.iloadN X0.here hx rfl (hb hby d3_8) rfl k) ?_
      obtain ⟨cl1, Ar1, qa1, S1, M1, H1, U1⟩ := id V_a
      have hi1 := inb_of S1 (j := (5 : Int32)) ⟨by decide, by decide⟩
      have hat1 := H1.at hi1 (v := (.int y5)) rfl
      refine own_step (T' := s₁) (g' := (mkF m 10 #[.val (.ref a1), .val (.int p2), .val (.int p3), .val (.int (5 : Int32))] [(.int y5)])) (fun t k => X0.baloadBytes hx (j := (5 : Int32)) (v := (.int y5)) (by rw [e0]; exact Ar1.1) (State.isArrayOf_alike hZ.alike Ar1.2.1) Ar1.2.2 hi1 hat1 (g := (mkF m 9 #[.val (.ref a1), .val (.int p2), .val (.int p3), .val (.int (5 : Int32))] [(.int (5 : Int32)), (.ref a1)])) rfl rfl (hb hby d3_9) t k) ?_
      refine own_step (T' := s₁) (g' := (mkF m 12 #[.val (.ref a1), .val (.int p2), .val (.int p3), .val (.int (5 : Int32))] [(.int (10 : Int32)), (.int y5)])) (fun t k => XS.bipush X0.here hx rfl (hb hby d3_10) k) ?_
      by_cases c12 : y5 = (10 : Int32)
      · refine own_step (T' := s₁) (g' := (mkF m 18 #[.val (.ref a1), .val (.int p2), .val (.int p3), .val (.int (5 : Int32))] [])) (fun t k => XS.icmpYes X0.here hx rfl (pc0 := 12) (pc' := 18) rfl (hb hby d3_12) rfl (teq c12).1 (by decide) (by decide) k) ?_
        refine own_step (T' := s₁) (g' := (mkF m 19 #[.val (.ref a1), .val (.int p2), .val (.int p3), .val (.int (5 : Int32))] [(.int (5 : Int32))])) (fun t k => XS.iloadN X0.here hx rfl (hb hby d3_18) rfl k) ?_
        refine own_step (T' := s₁) (g' := (mkF m 20 #[.val (.ref a1), .val (.int p2), .val (.int p3), .val (.int (5 : Int32))] [(.int (1 : Int32)), (.int (5 : Int32))])) (fun t k => XS.iconst X0.here hx rfl (hb hby d3_19) k) ?_
        refine own_step (T' := s₁) (g' := (mkF m 21 #[.val (.ref a1), .val (.int p2), .val (.int p3), .val (.int (5 : Int32))] [(.int (6 : Int32))])) (fun t k => XS.iadd X0.here hx rfl (hb hby d3_20) rfl k) ?_
        refine own_step (T' := s₁) (g' := (mkF m 22 #[.val (.ref a1), .val (.int p2), .val (.int p3), .val (.int (5 : Int32))] [(.int p3), (.int (6 : Int32))])) (fun t k => XS.iloadN X0.here hx rfl (hb hby d3_21) rfl k) ?_
        refine own_step (T' := s₁) (g' := (mkF m 39 #[.val (.ref a1), .val (.int p2), .val (.int p3), .val (.int (5 : Int32))] [])) (fun t k => XS.icmpYes X0.here hx rfl (pc0 := 22) (pc' := 39) rfl (hb hby d3_22) rfl (flt ht).2.1 (by decide) (by decide) k) ?_
        refine own_step (T' := s₁) (g' := (mkF m 40 #[.val (.ref a1), .val (.int p2), .val (.int p3), .val (.int (5 : Int32))] [(.int (5 : Int32))])) (fun t k => XS.iloadN X0.here hx rfl (hb hby d3_39) rfl k) ?_
        refine own_step (T' := s₁) (g' := (mkF m 41 #[.val (.ref a1), .val (.int p2), .val (.int p3), .val (.int (5 : Int32))] [(.int (2 : Int32)), (.int (5 : Int32))])) (fun t k => XS.iconst X0.here hx rfl (hb hby d3_40) k) ?_
        refine own_step (T' := s₁) (g' := (mkF m 42 #[.val (.ref a1), .val (.int p2), .val (.int p3), .val (.int (5 : Int32))] [(.int (7 : Int32))])) (fun t k => XS.iadd X0.here hx rfl (hb hby d3_41) rfl k) ?_
        refine own_step (T' := s₁) (g' := (mkF m 43 #[.val (.ref a1), .val (.int p2), .val (.int p3), .val (.int (5 : Int32))] [(.int p3), (.int (7 : Int32))])) (fun t k => XS.iloadN X0.here hx rfl (hb hby d3_42) rfl k) ?_
        refine own_step (T' := s₁) (g' := (mkF m 70 #[.val (.ref a1), .val (.int p2), .val (.int p3), .val (.int (5 : Int32))] [])) (fun t k => XS.icmpYes X0.here hx rfl (pc0 := 43) (pc' := 70) rfl (hb hby d3_43) rfl (flt (own_not7 ht)).2.1 (by decide) (by decide) k) ?_
        refine own_step (T' := s₁) (g' := (mkF m 73 #[.val (.ref a1), .val (.int p2), .val (.int p3), .val (.int (6 : Int32))] [])) (fun t k => XS.iinc X0.here hx rfl (hb hby d3_70) rfl (l' := #[.val (.ref a1), .val (.int p2), .val (.int p3), .val (.int (6 : Int32))]) rfl k) ?_
        refine own_step (T' := s₁) (g' := (mkF m 2 #[.val (.ref a1), .val (.int p2), .val (.int p3), .val (.int (6 : Int32))] [])) (fun t k => XS.goto X0.here hx rfl (pc0 := 73) (pc' := 2) rfl (hb hby d3_73) (by decide) (by decide) k) ?_
        exact L6 (hr5.trans (by rw [own_E5, if_pos (decide_eq_true c4), if_pos (decide_eq_true c12)]))
      · refine own_step (T' := s₁) (g' := (mkF m 15 #[.val (.ref a1), .val (.int p2), .val (.int p3), .val (.int (5 : Int32))] [])) (fun t k => XS.icmpNo X0.here hx rfl (hb hby d3_12) rfl (feq c12).1 k) ?_
        refine own_step (T' := s₁) (g' := (mkF m 70 #[.val (.ref a1), .val (.int p2), .val (.int p3), .val (.int (5 : Int32))] [])) (fun t k => XS.goto X0.here hx rfl (pc0 := 15) (pc' := 70) rfl (hb hby d3_15) (by decide) (by decide) k) ?_
        refine own_step (T' := s₁) (g' := (mkF m 73 #[.val (.ref a1), .val (.int p2), .val (.int p3), .val (.int (6 : Int32))] [])) (fun t k => XS.iinc X0.here hx rfl (hb hby d3_70) rfl (l' := #[.val (.ref a1), .val (.int p2), .val (.int p3), .val (.int (6 : Int32))]) rfl k) ?_
        refine own_step (T' := s₁) (g' := (mkF m 2 #[.val (.ref a1), .val (.int p2), .val (.int p3), .val (.int (6 : Int32))] [])) (fun t k => XS.goto X0.here hx rfl (pc0 := 73) (pc' := 2) rfl (hb hby d3_73) (by decide) (by decide) k) ?_
        exact L6 (hr5.trans (by rw [own_E5, if_pos (decide_eq_true c4), if_neg (fun z => c12 (of_decide_eq_true z))]))
    · refine own_step (T' := s₁) (g' := (mkF m 76 #[.val (.ref a1), .val (.int p2), .val (.int p3), .val (.int (5 : Int32))] [])) (fun t k => XS.icmpYes X0.here hx rfl (pc0 := 4) (pc' := 76) rfl (hb hby d3_4) rfl (flt c4).2.1 (by decide) (by decide) k) ?_
      refine own_step (T' := s₁) (g' := (mkF m 77 #[.val (.ref a1), .val (.int p2), .val (.int p3), .val (.int (5 : Int32))] [(.int ((-1) : Int32))])) (fun t k => XS.iconst X0.here hx rfl (hb hby d3_76) k) ?_
      refine own_rI X0 hx hlk Bd.returns (hb hby d3_77) ?_ (by decide) (by decide)
      rw [e0]
      exact ⟨by rw [hr5]; rw [own_E5, if_neg (fun z => c4 (of_decide_eq_true z))], N0, rfl⟩
  have L4 : own_end p2 p3 y0 y1 y2 y3 y4 y5 = (own_E4 (decide ((4 : Int32) < p3)) (decide ((5 : Int32) < p3)) (decide (y4 = (10 : Int32))) (decide (y5 = (10 : Int32)))) → own_Go p e below s (Q_end p2 p3 y0 y1 y2 y3 y4 y5 h0 n0) ({ frames := 0, cells := 0, slots := 0, locals := 0 } : Room).cells ({ frames := 0, cells := 0, slots := 0, locals := 0 } : Room).slots s₁ (mkF m 2 #[.val (.ref a1), .val (.int p2), .val (.int p3), .val (.int (4 : Int32))] []) := by
    intro hr4
    refine own_step (T' := s₁) (g' := (mkF m 3 #[.val (.ref a1), .val (.int p2), .val (.int p3), .val (.int (4 : Int32))] [(.int (4 : Int32))])) (fun t k => XS.iloadN X0.here hx rfl (hb hby d3_2) rfl k) ?_
    refine own_step (T' := s₁) (g' := (mkF m 4 #[.val (.ref a1), .val (.int p2), .val (.int p3), .val (.int (4 : Int32))] [(.int p3), (.int (4 : Int32))])) (fun t k => XS.iloadN X0.here hx rfl (hb hby d3_3) rfl k) ?_
    by_cases c4 : (4 : Int32) < p3
    · refine own_step (T' := s₁) (g' := (mkF m 7 #[.val (.ref a1), .val (.int p2), .val (.int p3), .val (.int (4 : Int32))] [])) (fun t k => XS.icmpNo X0.here hx rfl (hb hby d3_4) rfl (tlt c4).2.1 k) ?_
      refine own_step (T' := s₁) (g' := (mkF m 8 #[.val (.ref a1), .val (.int p2), .val (.int p3), .val (.int (4 : Int32))] [(.ref a1)])) (fun t k => XS.aloadN X0.here hx rfl (hb hby d3_7) rfl rfl k) ?_
      refine own_step (T' := s₁) (g' := (mkF m 9 #[.val (.ref a1), .val (.int p2), .val (.int p3), .val (.int (4 : Int32))] [(.int (4 : Int32)), (.ref a1)])) (fun t k => XS.iloadN X0.here hx rfl (hb hby d3_8) rfl k) ?_
      obtain ⟨cl2, Ar2, qa2, S2, M2, H2, U2⟩ := id V_a
      have hi2 := inb_of S2 (j := (4 : Int32)) ⟨by decide, by decide⟩
      have hat2 := H2.at hi2 (v := (.int y4)) rfl
      refine own_step (T' := s₁) (g' := (mkF m 10 #[.val (.ref a1), .val (.int p2), .val (.int p3), .val (.int (4 : Int32))] [(.int y4)])) (fun t k => X0.baloadBytes hx (j := (4 : Int32)) (v := (.int y4)) (by rw [e0]; exact Ar2.1) (State.isArrayOf_alike hZ.alike Ar2.2.1) Ar2.2.2 hi2 hat2 (g := (mkF m 9 #[.val (.ref a1), .val (.int p2), .val (.int p3), .val (.int (4 : Int32))] [(.int (4 : Int32)), (.ref a1)])) rfl rfl (hb hby d3_9) t k) ?_
      refine own_step (T' := s₁) (g' := (mkF m 12 #[.val (.ref a1), .val (.int p2), .val (.int p3), .val (.int (4 : Int32))] [(.int (10 : Int32)), (.int y4)])) (fun t k => XS.bipush X0.here hx rfl (hb hby d3_10) k) ?_
      by_cases c12 : y4 = (10 : Int32)
      · refine own_step (T' := s₁) (g' := (mkF m 18 #[.val (.ref a1), .val (.int p2), .val (.int p3), .val (.int (4 : Int32))] [])) (fun t k => XS.icmpYes X0.here hx rfl (pc0 := 12) (pc' := 18) rfl (hb hby d3_12) rfl (teq c12).1 (by decide) (by decide) k) ?_
        refine own_step (T' := s₁) (g' := (mkF m 19 #[.val (.ref a1), .val (.int p2), .val (.int p3), .val (.int (4 : Int32))] [(.int (4 : Int32))])) (fun t k => XS.iloadN X0.here hx rfl (hb hby d3_18) rfl k) ?_
        refine own_step (T' := s₁) (g' := (mkF m 20 #[.val (.ref a1), .val (.int p2), .val (.int p3), .val (.int (4 : Int32))] [(.int (1 : Int32)), (.int (4 : Int32))])) (fun t k => XS.iconst X0.here hx rfl (hb hby d3_19) k) ?_
        refine own_step (T' := s₁) (g' := (mkF m 21 #[.val (.ref a1), .val (.int p2), .val (.int p3), .val (.int (4 : Int32))] [(.int (5 : Int32))])) (fun t k => XS.iadd X0.here hx rfl (hb hby d3_20) rfl k) ?_
        refine own_step (T' := s₁) (g' := (mkF m 22 #[.val (.ref a1), .val (.int p2), .val (.int p3), .val (.int (4 : Int32))] [(.int p3), (.int (5 : Int32))])) (fun t k => XS.iloadN X0.here hx rfl (hb hby d3_21) rfl k) ?_
        by_cases c22 : (5 : Int32) < p3
        · refine own_step (T' := s₁) (g' := (mkF m 25 #[.val (.ref a1), .val (.int p2), .val (.int p3), .val (.int (4 : Int32))] [])) (fun t k => XS.icmpNo X0.here hx rfl (hb hby d3_22) rfl (tlt c22).2.1 k) ?_
          refine own_step (T' := s₁) (g' := (mkF m 26 #[.val (.ref a1), .val (.int p2), .val (.int p3), .val (.int (4 : Int32))] [(.ref a1)])) (fun t k => XS.aloadN X0.here hx rfl (hb hby d3_25) rfl rfl k) ?_
          refine own_step (T' := s₁) (g' := (mkF m 27 #[.val (.ref a1), .val (.int p2), .val (.int p3), .val (.int (4 : Int32))] [(.int (4 : Int32)), (.ref a1)])) (fun t k => XS.iloadN X0.here hx rfl (hb hby d3_26) rfl k) ?_
          refine own_step (T' := s₁) (g' := (mkF m 28 #[.val (.ref a1), .val (.int p2), .val (.int p3), .val (.int (4 : Int32))] [(.int (1 : Int32)), (.int (4 : Int32)), (.ref a1)])) (fun t k => XS.iconst X0.here hx rfl (hb hby d3_27) k) ?_
          refine own_step (T' := s₁) (g' := (mkF m 29 #[.val (.ref a1), .val (.int p2), .val (.int p3), .val (.int (4 : Int32))] [(.int (5 : Int32)), (.ref a1)])) (fun t k => XS.iadd X0.here hx rfl (hb hby d3_28) rfl k) ?_
          obtain ⟨cl3, Ar3, qa3, S3, M3, H3, U3⟩ := id V_a
          have hi3 := inb_of S3 (j := (5 : Int32)) ⟨by decide, by decide⟩
          have hat3 := H3.at hi3 (v := (.int y5)) rfl
          refine own_step (T' := s₁) (g' := (mkF m 30 #[.val (.ref a1), .val (.int p2), .val (.int p3), .val (.int (4 : Int32))] [(.int y5)])) (fun t k => X0.baloadBytes hx (j := (5 : Int32)) (v := (.int y5)) (by rw [e0]; exact Ar3.1) (State.isArrayOf_alike hZ.alike Ar3.2.1) Ar3.2.2 hi3 hat3 (g := (mkF m 29 #[.val (.ref a1), .val (.int p2), .val (.int p3), .val (.int (4 : Int32))] [(.int (5 : Int32)), (.ref a1)])) rfl rfl (hb hby d3_29) t k) ?_
          refine own_step (T' := s₁) (g' := (mkF m 32 #[.val (.ref a1), .val (.int p2), .val (.int p3), .val (.int (4 : Int32))] [(.int (10 : Int32)), (.int y5)])) (fun t k => XS.bipush X0.here hx rfl (hb hby d3_30) k) ?_
          by_cases c32 : y5 = (10 : Int32)
          · refine own_step (T' := s₁) (g' := (mkF m 35 #[.val (.ref a1), .val (.int p2), .val (.int p3), .val (.int (4 : Int32))] [])) (fun t k => XS.icmpNo X0.here hx rfl (hb hby d3_32) rfl (teq c32).2 k) ?_
            refine own_step (T' := s₁) (g' := (mkF m 36 #[.val (.ref a1), .val (.int p2), .val (.int p3), .val (.int (4 : Int32))] [(.int (4 : Int32))])) (fun t k => XS.iloadN X0.here hx rfl (hb hby d3_35) rfl k) ?_
            refine own_step (T' := s₁) (g' := (mkF m 37 #[.val (.ref a1), .val (.int p2), .val (.int p3), .val (.int (4 : Int32))] [(.int (2 : Int32)), (.int (4 : Int32))])) (fun t k => XS.iconst X0.here hx rfl (hb hby d3_36) k) ?_
            refine own_step (T' := s₁) (g' := (mkF m 38 #[.val (.ref a1), .val (.int p2), .val (.int p3), .val (.int (4 : Int32))] [(.int (6 : Int32))])) (fun t k => XS.iadd X0.here hx rfl (hb hby d3_37) rfl k) ?_
            refine own_rI X0 hx hlk Bd.returns (hb hby d3_38) ?_ (by decide) (by decide)
            rw [e0]
            exact ⟨by rw [hr4]; rw [own_E4, if_pos (decide_eq_true c4), if_pos (decide_eq_true c12), if_pos (decide_eq_true c22), if_pos (decide_eq_true c32)], N0, rfl⟩
          · refine own_step (T' := s₁) (g' := (mkF m 39 #[.val (.ref a1), .val (.int p2), .val (.int p3), .val (.int (4 : Int32))] [])) (fun t k => XS.icmpYes X0.here hx rfl (pc0 := 32) (pc' := 39) rfl (hb hby d3_32) rfl (feq c32).2 (by decide) (by decide) k) ?_
            refine own_step (T' := s₁) (g' := (mkF m 40 #[.val (.ref a1), .val (.int p2), .val (.int p3), .val (.int (4 : Int32))] [(.int (4 : Int32))])) (fun t k => XS.iloadN X0.here hx rfl (hb hby d3_39) rfl k) ?_
            refine own_step (T' := s₁) (g' := (mkF m 41 #[.val (.ref a1), .val (.int p2), .val (.int p3), .val (.int (4 : Int32))] [(.int (2 : Int32)), (.int (4 : Int32))])) (fun t k => XS.iconst X0.here hx rfl (hb hby d3_40) k) ?_
            refine own_step (T' := s₁) (g' := (mkF m 42 #[.val (.ref a1), .val (.int p2), .val (.int p3), .val (.int (4 : Int32))] [(.int (6 : Int32))])) (fun t k => XS.iadd X0.here hx rfl (hb hby d3_41) rfl k) ?_
            refine own_step (T' := s₁) (g' := (mkF m 43 #[.val (.ref a1), .val (.int p2), .val (.int p3), .val (.int (4 : Int32))] [(.int p3), (.int (6 : Int32))])) (fun t k => XS.iloadN X0.here hx rfl (hb hby d3_42) rfl k) ?_
            refine own_step (T' := s₁) (g' := (mkF m 70 #[.val (.ref a1), .val (.int p2), .val (.int p3), .val (.int (4 : Int32))] [])) (fun t k => XS.icmpYes X0.here hx rfl (pc0 := 43) (pc' := 70) rfl (hb hby d3_43) rfl (flt ht).2.1 (by decide) (by decide) k) ?_
            refine own_step (T' := s₁) (g' := (mkF m 73 #[.val (.ref a1), .val (.int p2), .val (.int p3), .val (.int (5 : Int32))] [])) (fun t k => XS.iinc X0.here hx rfl (hb hby d3_70) rfl (l' := #[.val (.ref a1), .val (.int p2), .val (.int p3), .val (.int (5 : Int32))]) rfl k) ?_
            refine own_step (T' := s₁) (g' := (mkF m 2 #[.val (.ref a1), .val (.int p2), .val (.int p3), .val (.int (5 : Int32))] [])) (fun t k => XS.goto X0.here hx rfl (pc0 := 73) (pc' := 2) rfl (hb hby d3_73) (by decide) (by decide) k) ?_
            exact L5 (hr4.trans (by rw [own_E4, if_pos (decide_eq_true c4), if_pos (decide_eq_true c12), if_pos (decide_eq_true c22), if_neg (fun z => c32 (of_decide_eq_true z))]))
        · refine own_step (T' := s₁) (g' := (mkF m 39 #[.val (.ref a1), .val (.int p2), .val (.int p3), .val (.int (4 : Int32))] [])) (fun t k => XS.icmpYes X0.here hx rfl (pc0 := 22) (pc' := 39) rfl (hb hby d3_22) rfl (flt c22).2.1 (by decide) (by decide) k) ?_
          refine own_step (T' := s₁) (g' := (mkF m 40 #[.val (.ref a1), .val (.int p2), .val (.int p3), .val (.int (4 : Int32))] [(.int (4 : Int32))])) (fun t k => XS.iloadN X0.here hx rfl (hb hby d3_39) rfl k) ?_
          refine own_step (T' := s₁) (g' := (mkF m 41 #[.val (.ref a1), .val (.int p2), .val (.int p3), .val (.int (4 : Int32))] [(.int (2 : Int32)), (.int (4 : Int32))])) (fun t k => XS.iconst X0.here hx rfl (hb hby d3_40) k) ?_
          refine own_step (T' := s₁) (g' := (mkF m 42 #[.val (.ref a1), .val (.int p2), .val (.int p3), .val (.int (4 : Int32))] [(.int (6 : Int32))])) (fun t k => XS.iadd X0.here hx rfl (hb hby d3_41) rfl k) ?_
          refine own_step (T' := s₁) (g' := (mkF m 43 #[.val (.ref a1), .val (.int p2), .val (.int p3), .val (.int (4 : Int32))] [(.int p3), (.int (6 : Int32))])) (fun t k => XS.iloadN X0.here hx rfl (hb hby d3_42) rfl k) ?_
          refine own_step (T' := s₁) (g' := (mkF m 70 #[.val (.ref a1), .val (.int p2), .val (.int p3), .val (.int (4 : Int32))] [])) (fun t k => XS.icmpYes X0.here hx rfl (pc0 := 43) (pc' := 70) rfl (hb hby d3_43) rfl (flt ht).2.1 (by decide) (by decide) k) ?_
          refine own_step (T' := s₁) (g' := (mkF m 73 #[.val (.ref a1), .val (.int p2), .val (.int p3), .val (.int (5 : Int32))] [])) (fun t k => XS.iinc X0.here hx rfl (hb hby d3_70) rfl (l' := #[.val (.ref a1), .val (.int p2), .val (.int p3), .val (.int (5 : Int32))]) rfl k) ?_
          refine own_step (T' := s₁) (g' := (mkF m 2 #[.val (.ref a1), .val (.int p2), .val (.int p3), .val (.int (5 : Int32))] [])) (fun t k => XS.goto X0.here hx rfl (pc0 := 73) (pc' := 2) rfl (hb hby d3_73) (by decide) (by decide) k) ?_
          exact L5 (hr4.trans (by rw [own_E4, if_pos (decide_eq_true c4), if_pos (decide_eq_true c12), if_neg (fun z => c22 (of_decide_eq_true z))]))
      · refine own_step (T' := s₁) (g' := (mkF m 15 #[.val (.ref a1), .val (.int p2), .val (.int p3), .val (.int (4 : Int32))] [])) (fun t k => XS.icmpNo X0.here hx rfl (hb hby d3_12) rfl (feq c12).1 k) ?_
        refine own_step (T' := s₁) (g' := (mkF m 70 #[.val (.ref a1), .val (.int p2), .val (.int p3), .val (.int (4 : Int32))] [])) (fun t k => XS.goto X0.here hx rfl (pc0 := 15) (pc' := 70) rfl (hb hby d3_15) (by decide) (by decide) k) ?_
        refine own_step (T' := s₁) (g' := (mkF m 73 #[.val (.ref a1), .val (.int p2), .val (.int p3), .val (.int (5 : Int32))] [])) (fun t k => XS.iinc X0.here hx rfl (hb hby d3_70) rfl (l' := #[.val (.ref a1), .val (.int p2), .val (.int p3), .val (.int (5 : Int32))]) rfl k) ?_
        refine own_step (T' := s₁) (g' := (mkF m 2 #[.val (.ref a1), .val (.int p2), .val (.int p3), .val (.int (5 : Int32))] [])) (fun t k => XS.goto X0.here hx rfl (pc0 := 73) (pc' := 2) rfl (hb hby d3_73) (by decide) (by decide) k) ?_
        exact L5 (hr4.trans (by rw [own_E4, if_pos (decide_eq_true c4), if_neg (fun z => c12 (of_decide_eq_true z))]))
    · refine own_step (T' := s₁) (g' := (mkF m 76 #[.val (.ref a1), .val (.int p2), .val (.int p3), .val (.int (4 : Int32))] [])) (fun t k => XS.icmpYes X0.here hx rfl (pc0 := 4) (pc' := 76) rfl (hb hby d3_4) rfl (flt c4).2.1 (by decide) (by decide) k) ?_
      refine own_step (T' := s₁) (g' := (mkF m 77 #[.val (.ref a1), .val (.int p2), .val (.int p3), .val (.int (4 : Int32))] [(.int ((-1) : Int32))])) (fun t k => XS.iconst X0.here hx rfl (hb hby d3_76) k) ?_
      refine own_rI X0 hx hlk Bd.returns (hb hby d3_77) ?_ (by decide) (by decide)
      rw [e0]
      exact ⟨by rw [hr4]; rw [own_E4, if_neg (fun z => c4 (of_decide_eq_true z))], N0, rfl⟩
  have L3 : own_end p2 p3 y0 y1 y2 y3 y4 y5 = (own_E3 (decide ((3 : Int32) < p3)) (decide ((4 : Int32) < p3)) (decide ((5 : Int32) < p3)) (decide (y3 = (10 : Int32))) (decide (y4 = (10 : Int32))) (decide (y5 = (10 : Int32))) (decide (y4 = (13 : Int32)))) → own_Go p e below s (Q_end p2 p3 y0 y1 y2 y3 y4 y5 h0 n0) ({ frames := 0, cells := 0, slots := 0, locals := 0 } : Room).cells ({ frames := 0, cells := 0, slots := 0, locals := 0 } : Room).slots s₁ (mkF m 2 #[.val (.ref a1), .val (.int p2), .val (.int p3), .val (.int (3 : Int32))] []) := by
    intro hr3
    refine own_step (T' := s₁) (g' := (mkF m 3 #[.val (.ref a1), .val (.int p2), .val (.int p3), .val (.int (3 : Int32))] [(.int (3 : Int32))])) (fun t k => XS.iloadN X0.here hx rfl (hb hby d3_2) rfl k) ?_
    refine own_step (T' := s₁) (g' := (mkF m 4 #[.val (.ref a1), .val (.int p2), .val (.int p3), .val (.int (3 : Int32))] [(.int p3), (.int (3 : Int32))])) (fun t k => XS.iloadN X0.here hx rfl (hb hby d3_3) rfl k) ?_
    by_cases c4 : (3 : Int32) < p3
    · refine own_step (T' := s₁) (g' := (mkF m 7 #[.val (.ref a1), .val (.int p2), .val (.int p3), .val (.int (3 : Int32))] [])) (fun t k => XS.icmpNo X0.here hx rfl (hb hby d3_4) rfl (tlt c4).2.1 k) ?_
      refine own_step (T' := s₁) (g' := (mkF m 8 #[.val (.ref a1), .val (.int p2), .val (.int p3), .val (.int (3 : Int32))] [(.ref a1)])) (fun t k => XS.aloadN X0.here hx rfl (hb hby d3_7) rfl rfl k) ?_
      refine own_step (T' := s₁) (g' := (mkF m 9 #[.val (.ref a1), .val (.int p2), .val (.int p3), .val (.int (3 : Int32))] [(.int (3 : Int32)), (.ref a1)])) (fun t k => XS.iloadN X0.here hx rfl (hb hby d3_8) rfl k) ?_
      obtain ⟨cl4, Ar4, qa4, S4, M4, H4, U4⟩ := id V_a
      have hi4 := inb_of S4 (j := (3 : Int32)) ⟨by decide, by decide⟩
      have hat4 := H4.at hi4 (v := (.int y3)) rfl
      refine own_step (T' := s₁) (g' := (mkF m 10 #[.val (.ref a1), .val (.int p2), .val (.int p3), .val (.int (3 : Int32))] [(.int y3)])) (fun t k => X0.baloadBytes hx (j := (3 : Int32)) (v := (.int y3)) (by rw [e0]; exact Ar4.1) (State.isArrayOf_alike hZ.alike Ar4.2.1) Ar4.2.2 hi4 hat4 (g := (mkF m 9 #[.val (.ref a1), .val (.int p2), .val (.int p3), .val (.int (3 : Int32))] [(.int (3 : Int32)), (.ref a1)])) rfl rfl (hb hby d3_9) t k) ?_
      refine own_step (T' := s₁) (g' := (mkF m 12 #[.val (.ref a1), .val (.int p2), .val (.int p3), .val (.int (3 : Int32))] [(.int (10 : Int32)), (.int y3)])) (fun t k => XS.bipush X0.here hx rfl (hb hby d3_10) k) ?_
      by_cases c12 : y3 = (10 : Int32)
      · refine own_step (T' := s₁) (g' := (mkF m 18 #[.val (.ref a1), .val (.int p2), .val (.int p3), .val (.int (3 : Int32))] [])) (fun t k => XS.icmpYes X0.here hx rfl (pc0 := 12) (pc' := 18) rfl (hb hby d3_12) rfl (teq c12).1 (by decide) (by decide) k) ?_
        refine own_step (T' := s₁) (g' := (mkF m 19 #[.val (.ref a1), .val (.int p2), .val (.int p3), .val (.int (3 : Int32))] [(.int (3 : Int32))])) (fun t k => XS.iloadN X0.here hx rfl (hb hby d3_18) rfl k) ?_
        refine own_step (T' := s₁) (g' := (mkF m 20 #[.val (.ref a1), .val (.int p2), .val (.int p3), .val (.int (3 : Int32))] [(.int (1 : Int32)), (.int (3 : Int32))])) (fun t k => XS.iconst X0.here hx rfl (hb hby d3_19) k) ?_
        refine own_step (T' := s₁) (g' := (mkF m 21 #[.val (.ref a1), .val (.int p2), .val (.int p3), .val (.int (3 : Int32))] [(.int (4 : Int32))])) (fun t k => XS.iadd X0.here hx rfl (hb hby d3_20) rfl k) ?_
        refine own_step (T' := s₁) (g' := (mkF m 22 #[.val (.ref a1), .val (.int p2), .val (.int p3), .val (.int (3 : Int32))] [(.int p3), (.int (4 : Int32))])) (fun t k => XS.iloadN X0.here hx rfl (hb hby d3_21) rfl k) ?_
        by_cases c22 : (4 : Int32) < p3
        · refine own_step (T' := s₁) (g' := (mkF m 25 #[.val (.ref a1), .val (.int p2), .val (.int p3), .val (.int (3 : Int32))] [])) (fun t k => XS.icmpNo X0.here hx rfl (hb hby d3_22) rfl (tlt c22).2.1 k) ?_
          refine own_step (T' := s₁) (g' := (mkF m 26 #[.val (.ref a1), .val (.int p2), .val (.int p3), .val (.int (3 : Int32))] [(.ref a1)])) (fun t k => XS.aloadN X0.here hx rfl (hb hby d3_25) rfl rfl k) ?_
          refine own_step (T' := s₁) (g' := (mkF m 27 #[.val (.ref a1), .val (.int p2), .val (.int p3), .val (.int (3 : Int32))] [(.int (3 : Int32)), (.ref a1)])) (fun t k => XS.iloadN X0.here hx rfl (hb hby d3_26) rfl k) ?_
          refine own_step (T' := s₁) (g' := (mkF m 28 #[.val (.ref a1), .val (.int p2), .val (.int p3), .val (.int (3 : Int32))] [(.int (1 : Int32)), (.int (3 : Int32)), (.ref a1)])) (fun t k => XS.iconst X0.here hx rfl (hb hby d3_27) k) ?_
          refine own_step (T' := s₁) (g' := (mkF m 29 #[.val (.ref a1), .val (.int p2), .val (.int p3), .val (.int (3 : Int32))] [(.int (4 : Int32)), (.ref a1)])) (fun t k => XS.iadd X0.here hx rfl (hb hby d3_28) rfl k) ?_
          obtain ⟨cl5, Ar5, qa5, S5, M5, H5, U5⟩ := id V_a
          have hi5 := inb_of S5 (j := (4 : Int32)) ⟨by decide, by decide⟩
          have hat5 := H5.at hi5 (v := (.int y4)) rfl
          refine own_step (T' := s₁) (g' := (mkF m 30 #[.val (.ref a1), .val (.int p2), .val (.int p3), .val (.int (3 : Int32))] [(.int y4)])) (fun t k => X0.baloadBytes hx (j := (4 : Int32)) (v := (.int y4)) (by rw [e0]; exact Ar5.1) (State.isArrayOf_alike hZ.alike Ar5.2.1) Ar5.2.2 hi5 hat5 (g := (mkF m 29 #[.val (.ref a1), .val (.int p2), .val (.int p3), .val (.int (3 : Int32))] [(.int (4 : Int32)), (.ref a1)])) rfl rfl (hb hby d3_29) t k) ?_
          refine own_step (T' := s₁) (g' := (mkF m 32 #[.val (.ref a1), .val (.int p2), .val (.int p3), .val (.int (3 : Int32))] [(.int (10 : Int32)), (.int y4)])) (fun t k => XS.bipush X0.here hx rfl (hb hby d3_30) k) ?_
          by_cases c32 : y4 = (10 : Int32)
          · refine own_step (T' := s₁) (g' := (mkF m 35 #[.val (.ref a1), .val (.int p2), .val (.int p3), .val (.int (3 : Int32))] [])) (fun t k => XS.icmpNo X0.here hx rfl (hb hby d3_32) rfl (teq c32).2 k) ?_
            refine own_step (T' := s₁) (g' := (mkF m 36 #[.val (.ref a1), .val (.int p2), .val (.int p3), .val (.int (3 : Int32))] [(.int (3 : Int32))])) (fun t k => XS.iloadN X0.here hx rfl (hb hby d3_35) rfl k) ?_
            refine own_step (T' := s₁) (g' := (mkF m 37 #[.val (.ref a1), .val (.int p2), .val (.int p3), .val (.int (3 : Int32))] [(.int (2 : Int32)), (.int (3 : Int32))])) (fun t k => XS.iconst X0.here hx rfl (hb hby d3_36) k) ?_
            refine own_step (T' := s₁) (g' := (mkF m 38 #[.val (.ref a1), .val (.int p2), .val (.int p3), .val (.int (3 : Int32))] [(.int (5 : Int32))])) (fun t k => XS.iadd X0.here hx rfl (hb hby d3_37) rfl k) ?_
            refine own_rI X0 hx hlk Bd.returns (hb hby d3_38) ?_ (by decide) (by decide)
            rw [e0]
            exact ⟨by rw [hr3]; rw [own_E3, if_pos (decide_eq_true c4), if_pos (decide_eq_true c12), if_pos (decide_eq_true c22), if_pos (decide_eq_true c32)], N0, rfl⟩
          · refine own_step (T' := s₁) (g' := (mkF m 39 #[.val (.ref a1), .val (.int p2), .val (.int p3), .val (.int (3 : Int32))] [])) (fun t k => XS.icmpYes X0.here hx rfl (pc0 := 32) (pc' := 39) rfl (hb hby d3_32) rfl (feq c32).2 (by decide) (by decide) k) ?_
            refine own_step (T' := s₁) (g' := (mkF m 40 #[.val (.ref a1), .val (.int p2), .val (.int p3), .val (.int (3 : Int32))] [(.int (3 : Int32))])) (fun t k => XS.iloadN X0.here hx rfl (hb hby d3_39) rfl k) ?_
            refine own_step (T' := s₁) (g' := (mkF m 41 #[.val (.ref a1), .val (.int p2), .val (.int p3), .val (.int (3 : Int32))] [(.int (2 : Int32)), (.int (3 : Int32))])) (fun t k => XS.iconst X0.here hx rfl (hb hby d3_40) k) ?_
            refine own_step (T' := s₁) (g' := (mkF m 42 #[.val (.ref a1), .val (.int p2), .val (.int p3), .val (.int (3 : Int32))] [(.int (5 : Int32))])) (fun t k => XS.iadd X0.here hx rfl (hb hby d3_41) rfl k) ?_
            refine own_step (T' := s₁) (g' := (mkF m 43 #[.val (.ref a1), .val (.int p2), .val (.int p3), .val (.int (3 : Int32))] [(.int p3), (.int (5 : Int32))])) (fun t k => XS.iloadN X0.here hx rfl (hb hby d3_42) rfl k) ?_
            by_cases c43 : (5 : Int32) < p3
            · refine own_step (T' := s₁) (g' := (mkF m 46 #[.val (.ref a1), .val (.int p2), .val (.int p3), .val (.int (3 : Int32))] [])) (fun t k => XS.icmpNo X0.here hx rfl (hb hby d3_43) rfl (tlt c43).2.1 k) ?_
              refine own_step (T' := s₁) (g' := (mkF m 47 #[.val (.ref a1), .val (.int p2), .val (.int p3), .val (.int (3 : Int32))] [(.ref a1)])) (fun t k => XS.aloadN X0.here hx rfl (hb hby d3_46) rfl rfl k) ?_
              refine own_step (T' := s₁) (g' := (mkF m 48 #[.val (.ref a1), .val (.int p2), .val (.int p3), .val (.int (3 : Int32))] [(.int (3 : Int32)), (.ref a1)])) (fun t k => XS.iloadN X0.here hx rfl (hb hby d3_47) rfl k) ?_
              refine own_step (T' := s₁) (g' := (mkF m 49 #[.val (.ref a1), .val (.int p2), .val (.int p3), .val (.int (3 : Int32))] [(.int (1 : Int32)), (.int (3 : Int32)), (.ref a1)])) (fun t k => XS.iconst X0.here hx rfl (hb hby d3_48) k) ?_
              refine own_step (T' := s₁) (g' := (mkF m 50 #[.val (.ref a1), .val (.int p2), .val (.int p3), .val (.int (3 : Int32))] [(.int (4 : Int32)), (.ref a1)])) (fun t k => XS.iadd X0.here hx rfl (hb hby d3_49) rfl k) ?_
              obtain ⟨cl6, Ar6, qa6, S6, M6, H6, U6⟩ := id V_a
              have hi6 := inb_of S6 (j := (4 : Int32)) ⟨by decide, by decide⟩
              have hat6 := H6.at hi6 (v := (.int y4)) rfl
              refine own_step (T' := s₁) (g' := (mkF m 51 #[.val (.ref a1), .val (.int p2), .val (.int p3), .val (.int (3 : Int32))] [(.int y4)])) (fun t k => X0.baloadBytes hx (j := (4 : Int32)) (v := (.int y4)) (by rw [e0]; exact Ar6.1) (State.isArrayOf_alike hZ.alike Ar6.2.1) Ar6.2.2 hi6 hat6 (g := (mkF m 50 #[.val (.ref a1), .val (.int p2), .val (.int p3), .val (.int (3 : Int32))] [(.int (4 : Int32)), (.ref a1)])) rfl rfl (hb hby d3_50) t k) ?_
              refine own_step (T' := s₁) (g' := (mkF m 53 #[.val (.ref a1), .val (.int p2), .val (.int p3), .val (.int (3 : Int32))] [(.int (13 : Int32)), (.int y4)])) (fun t k => XS.bipush X0.here hx rfl (hb hby d3_51) k) ?_
              by_cases c53 : y4 = (13 : Int32)
              · refine own_step (T' := s₁) (g' := (mkF m 56 #[.val (.ref a1), .val (.int p2), .val (.int p3), .val (.int (3 : Int32))] [])) (fun t k => XS.icmpNo X0.here hx rfl (hb hby d3_53) rfl (teq c53).2 k) ?_
                refine own_step (T' := s₁) (g' := (mkF m 57 #[.val (.ref a1), .val (.int p2), .val (.int p3), .val (.int (3 : Int32))] [(.ref a1)])) (fun t k => XS.aloadN X0.here hx rfl (hb hby d3_56) rfl rfl k) ?_
                refine own_step (T' := s₁) (g' := (mkF m 58 #[.val (.ref a1), .val (.int p2), .val (.int p3), .val (.int (3 : Int32))] [(.int (3 : Int32)), (.ref a1)])) (fun t k => XS.iloadN X0.here hx rfl (hb hby d3_57) rfl k) ?_
                refine own_step (T' := s₁) (g' := (mkF m 59 #[.val (.ref a1), .val (.int p2), .val (.int p3), .val (.int (3 : Int32))] [(.int (2 : Int32)), (.int (3 : Int32)), (.ref a1)])) (fun t k => XS.iconst X0.here hx rfl (hb hby d3_58) k) ?_
                refine own_step (T' := s₁) (g' := (mkF m 60 #[.val (.ref a1), .val (.int p2), .val (.int p3), .val (.int (3 : Int32))] [(.int (5 : Int32)), (.ref a1)])) (fun t k => XS.iadd X0.here hx rfl (hb hby d3_59) rfl k) ?_
                obtain ⟨cl7, Ar7, qa7, S7, M7, H7, U7⟩ := id V_a
                have hi7 := inb_of S7 (j := (5 : Int32)) ⟨by decide, by decide⟩
                have hat7 := H7.at hi7 (v := (.int y5)) rfl
                refine own_step (T' := s₁) (g' := (mkF m 61 #[.val (.ref a1), .val (.int p2), .val (.int p3), .val (.int (3 : Int32))] [(.int y5)])) (fun t k => X0.baloadBytes hx (j := (5 : Int32)) (v := (.int y5)) (by rw [e0]; exact Ar7.1) (State.isArrayOf_alike hZ.alike Ar7.2.1) Ar7.2.2 hi7 hat7 (g := (mkF m 60 #[.val (.ref a1), .val (.int p2), .val (.int p3), .val (.int (3 : Int32))] [(.int (5 : Int32)), (.ref a1)])) rfl rfl (hb hby d3_60) t k) ?_
                refine own_step (T' := s₁) (g' := (mkF m 63 #[.val (.ref a1), .val (.int p2), .val (.int p3), .val (.int (3 : Int32))] [(.int (10 : Int32)), (.int y5)])) (fun t k => XS.bipush X0.here hx rfl (hb hby d3_61) k) ?_
                by_cases c63 : y5 = (10 : Int32)
                · refine own_step (T' := s₁) (g' := (mkF m 66 #[.val (.ref a1), .val (.int p2), .val (.int p3), .val (.int (3 : Int32))] [])) (fun t k => XS.icmpNo X0.here hx rfl (hb hby d3_63) rfl (teq c63).2 k) ?_
                  refine own_step (T' := s₁) (g' := (mkF m 67 #[.val (.ref a1), .val (.int p2), .val (.int p3), .val (.int (3 : Int32))] [(.int (3 : Int32))])) (fun t k => XS.iloadN X0.here hx rfl (hb hby d3_66) rfl k) ?_
                  refine own_step (T' := s₁) (g' := (mkF m 68 #[.val (.ref a1), .val (.int p2), .val (.int p3), .val (.int (3 : Int32))] [(.int (3 : Int32)), (.int (3 : Int32))])) (fun t k => XS.iconst X0.here hx rfl (hb hby d3_67) k) ?_
                  refine own_step (T' := s₁) (g' := (mkF m 69 #[.val (.ref a1), .val (.int p2), .val (.int p3), .val (.int (3 : Int32))] [(.int (6 : Int32))])) (fun t k => XS.iadd X0.here hx rfl (hb hby d3_68) rfl k) ?_
                  refine own_rI X0 hx hlk Bd.returns (hb hby d3_69) ?_ (by decide) (by decide)
                  rw [e0]
                  exact ⟨by rw [hr3]; rw [own_E3, if_pos (decide_eq_true c4), if_pos (decide_eq_true c12), if_pos (decide_eq_true c22), if_neg (fun z => c32 (of_decide_eq_true z)), if_pos (decide_eq_true c43), if_pos (decide_eq_true c53), if_pos (decide_eq_true c63)], N0, rfl⟩
                · refine own_step (T' := s₁) (g' := (mkF m 70 #[.val (.ref a1), .val (.int p2), .val (.int p3), .val (.int (3 : Int32))] [])) (fun t k => XS.icmpYes X0.here hx rfl (pc0 := 63) (pc' := 70) rfl (hb hby d3_63) rfl (feq c63).2 (by decide) (by decide) k) ?_
                  refine own_step (T' := s₁) (g' := (mkF m 73 #[.val (.ref a1), .val (.int p2), .val (.int p3), .val (.int (4 : Int32))] [])) (fun t k => XS.iinc X0.here hx rfl (hb hby d3_70) rfl (l' := #[.val (.ref a1), .val (.int p2), .val (.int p3), .val (.int (4 : Int32))]) rfl k) ?_
                  refine own_step (T' := s₁) (g' := (mkF m 2 #[.val (.ref a1), .val (.int p2), .val (.int p3), .val (.int (4 : Int32))] [])) (fun t k => XS.goto X0.here hx rfl (pc0 := 73) (pc' := 2) rfl (hb hby d3_73) (by decide) (by decide) k) ?_
                  exact L4 (hr3.trans (by rw [own_E3, if_pos (decide_eq_true c4), if_pos (decide_eq_true c12), if_pos (decide_eq_true c22), if_neg (fun z => c32 (of_decide_eq_true z)), if_pos (decide_eq_true c43), if_pos (decide_eq_true c53), if_neg (fun z => c63 (of_decide_eq_true z))]))
              · refine own_step (T' := s₁) (g' := (mkF m 70 #[.val (.ref a1), .val (.int p2), .val (.int p3), .val (.int (3 : Int32))] [])) (fun t k => XS.icmpYes X0.here hx rfl (pc0 := 53) (pc' := 70) rfl (hb hby d3_53) rfl (feq c53).2 (by decide) (by decide) k) ?_
                refine own_step (T' := s₁) (g' := (mkF m 73 #[.val (.ref a1), .val (.int p2), .val (.int p3), .val (.int (4 : Int32))] [])) (fun t k => XS.iinc X0.here hx rfl (hb hby d3_70) rfl (l' := #[.val (.ref a1), .val (.int p2), .val (.int p3), .val (.int (4 : Int32))]) rfl k) ?_
                refine own_step (T' := s₁) (g' := (mkF m 2 #[.val (.ref a1), .val (.int p2), .val (.int p3), .val (.int (4 : Int32))] [])) (fun t k => XS.goto X0.here hx rfl (pc0 := 73) (pc' := 2) rfl (hb hby d3_73) (by decide) (by decide) k) ?_
                exact L4 (hr3.trans (by rw [own_E3, if_pos (decide_eq_true c4), if_pos (decide_eq_true c12), if_pos (decide_eq_true c22), if_neg (fun z => c32 (of_decide_eq_true z)), if_pos (decide_eq_true c43), if_neg (fun z => c53 (of_decide_eq_true z))]))
            · refine own_step (T' := s₁) (g' := (mkF m 70 #[.val (.ref a1), .val (.int p2), .val (.int p3), .val (.int (3 : Int32))] [])) (fun t k => XS.icmpYes X0.here hx rfl (pc0 := 43) (pc' := 70) rfl (hb hby d3_43) rfl (flt c43).2.1 (by decide) (by decide) k) ?_
              refine own_step (T' := s₁) (g' := (mkF m 73 #[.val (.ref a1), .val (.int p2), .val (.int p3), .val (.int (4 : Int32))] [])) (fun t k => XS.iinc X0.here hx rfl (hb hby d3_70) rfl (l' := #[.val (.ref a1), .val (.int p2), .val (.int p3), .val (.int (4 : Int32))]) rfl k) ?_
              refine own_step (T' := s₁) (g' := (mkF m 2 #[.val (.ref a1), .val (.int p2), .val (.int p3), .val (.int (4 : Int32))] [])) (fun t k => XS.goto X0.here hx rfl (pc0 := 73) (pc' := 2) rfl (hb hby d3_73) (by decide) (by decide) k) ?_
              exact L4 (hr3.trans (by rw [own_E3, if_pos (decide_eq_true c4), if_pos (decide_eq_true c12), if_pos (decide_eq_true c22), if_neg (fun z => c32 (of_decide_eq_true z)), if_neg (fun z => c43 (of_decide_eq_true z))]))
        · refine own_step (T' := s₁) (g' := (mkF m 39 #[.val (.ref a1), .val (.int p2), .val (.int p3), .val (.int (3 : Int32))] [])) (fun t k => XS.icmpYes X0.here hx rfl (pc0 := 22) (pc' := 39) rfl (hb hby d3_22) rfl (flt c22).2.1 (by decide) (by decide) k) ?_
          refine own_step (T' := s₁) (g' := (mkF m 40 #[.val (.ref a1), .val (.int p2), .val (.int p3), .val (.int (3 : Int32))] [(.int (3 : Int32))])) (fun t k => XS.iloadN X0.here hx rfl (hb hby d3_39) rfl k) ?_
          refine own_step (T' := s₁) (g' := (mkF m 41 #[.val (.ref a1), .val (.int p2), .val (.int p3), .val (.int (3 : Int32))] [(.int (2 : Int32)), (.int (3 : Int32))])) (fun t k => XS.iconst X0.here hx rfl (hb hby d3_40) k) ?_
          refine own_step (T' := s₁) (g' := (mkF m 42 #[.val (.ref a1), .val (.int p2), .val (.int p3), .val (.int (3 : Int32))] [(.int (5 : Int32))])) (fun t k => XS.iadd X0.here hx rfl (hb hby d3_41) rfl k) ?_
          refine own_step (T' := s₁) (g' := (mkF m 43 #[.val (.ref a1), .val (.int p2), .val (.int p3), .val (.int (3 : Int32))] [(.int p3), (.int (5 : Int32))])) (fun t k => XS.iloadN X0.here hx rfl (hb hby d3_42) rfl k) ?_
          by_cases c43 : (5 : Int32) < p3
          · refine own_step (T' := s₁) (g' := (mkF m 46 #[.val (.ref a1), .val (.int p2), .val (.int p3), .val (.int (3 : Int32))] [])) (fun t k => XS.icmpNo X0.here hx rfl (hb hby d3_43) rfl (tlt c43).2.1 k) ?_
            refine own_step (T' := s₁) (g' := (mkF m 47 #[.val (.ref a1), .val (.int p2), .val (.int p3), .val (.int (3 : Int32))] [(.ref a1)])) (fun t k => XS.aloadN X0.here hx rfl (hb hby d3_46) rfl rfl k) ?_
            refine own_step (T' := s₁) (g' := (mkF m 48 #[.val (.ref a1), .val (.int p2), .val (.int p3), .val (.int (3 : Int32))] [(.int (3 : Int32)), (.ref a1)])) (fun t k => XS.iloadN X0.here hx rfl (hb hby d3_47) rfl k) ?_
            refine own_step (T' := s₁) (g' := (mkF m 49 #[.val (.ref a1), .val (.int p2), .val (.int p3), .val (.int (3 : Int32))] [(.int (1 : Int32)), (.int (3 : Int32)), (.ref a1)])) (fun t k => XS.iconst X0.here hx rfl (hb hby d3_48) k) ?_
            refine own_step (T' := s₁) (g' := (mkF m 50 #[.val (.ref a1), .val (.int p2), .val (.int p3), .val (.int (3 : Int32))] [(.int (4 : Int32)), (.ref a1)])) (fun t k => XS.iadd X0.here hx rfl (hb hby d3_49) rfl k) ?_
            obtain ⟨cl8, Ar8, qa8, S8, M8, H8, U8⟩ := id V_a
            have hi8 := inb_of S8 (j := (4 : Int32)) ⟨by decide, by decide⟩
            have hat8 := H8.at hi8 (v := (.int y4)) rfl
            refine own_step (T' := s₁) (g' := (mkF m 51 #[.val (.ref a1), .val (.int p2), .val (.int p3), .val (.int (3 : Int32))] [(.int y4)])) (fun t k => X0.baloadBytes hx (j := (4 : Int32)) (v := (.int y4)) (by rw [e0]; exact Ar8.1) (State.isArrayOf_alike hZ.alike Ar8.2.1) Ar8.2.2 hi8 hat8 (g := (mkF m 50 #[.val (.ref a1), .val (.int p2), .val (.int p3), .val (.int (3 : Int32))] [(.int (4 : Int32)), (.ref a1)])) rfl rfl (hb hby d3_50) t k) ?_
            refine own_step (T' := s₁) (g' := (mkF m 53 #[.val (.ref a1), .val (.int p2), .val (.int p3), .val (.int (3 : Int32))] [(.int (13 : Int32)), (.int y4)])) (fun t k => XS.bipush X0.here hx rfl (hb hby d3_51) k) ?_
            by_cases c53 : y4 = (13 : Int32)
            · refine own_step (T' := s₁) (g' := (mkF m 56 #[.val (.ref a1), .val (.int p2), .val (.int p3), .val (.int (3 : Int32))] [])) (fun t k => XS.icmpNo X0.here hx rfl (hb hby d3_53) rfl (teq c53).2 k) ?_
              refine own_step (T' := s₁) (g' := (mkF m 57 #[.val (.ref a1), .val (.int p2), .val (.int p3), .val (.int (3 : Int32))] [(.ref a1)])) (fun t k => XS.aloadN X0.here hx rfl (hb hby d3_56) rfl rfl k) ?_
              refine own_step (T' := s₁) (g' := (mkF m 58 #[.val (.ref a1), .val (.int p2), .val (.int p3), .val (.int (3 : Int32))] [(.int (3 : Int32)), (.ref a1)])) (fun t k => XS.iloadN X0.here hx rfl (hb hby d3_57) rfl k) ?_
              refine own_step (T' := s₁) (g' := (mkF m 59 #[.val (.ref a1), .val (.int p2), .val (.int p3), .val (.int (3 : Int32))] [(.int (2 : Int32)), (.int (3 : Int32)), (.ref a1)])) (fun t k => XS.iconst X0.here hx rfl (hb hby d3_58) k) ?_
              refine own_step (T' := s₁) (g' := (mkF m 60 #[.val (.ref a1), .val (.int p2), .val (.int p3), .val (.int (3 : Int32))] [(.int (5 : Int32)), (.ref a1)])) (fun t k => XS.iadd X0.here hx rfl (hb hby d3_59) rfl k) ?_
              obtain ⟨cl9, Ar9, qa9, S9, M9, H9, U9⟩ := id V_a
              have hi9 := inb_of S9 (j := (5 : Int32)) ⟨by decide, by decide⟩
              have hat9 := H9.at hi9 (v := (.int y5)) rfl
              refine own_step (T' := s₁) (g' := (mkF m 61 #[.val (.ref a1), .val (.int p2), .val (.int p3), .val (.int (3 : Int32))] [(.int y5)])) (fun t k => X0.baloadBytes hx (j := (5 : Int32)) (v := (.int y5)) (by rw [e0]; exact Ar9.1) (State.isArrayOf_alike hZ.alike Ar9.2.1) Ar9.2.2 hi9 hat9 (g := (mkF m 60 #[.val (.ref a1), .val (.int p2), .val (.int p3), .val (.int (3 : Int32))] [(.int (5 : Int32)), (.ref a1)])) rfl rfl (hb hby d3_60) t k) ?_
              refine own_step (T' := s₁) (g' := (mkF m 63 #[.val (.ref a1), .val (.int p2), .val (.int p3), .val (.int (3 : Int32))] [(.int (10 : Int32)), (.int y5)])) (fun t k => XS.bipush X0.here hx rfl (hb hby d3_61) k) ?_
              by_cases c63 : y5 = (10 : Int32)
              · refine own_step (T' := s₁) (g' := (mkF m 66 #[.val (.ref a1), .val (.int p2), .val (.int p3), .val (.int (3 : Int32))] [])) (fun t k => XS.icmpNo X0.here hx rfl (hb hby d3_63) rfl (teq c63).2 k) ?_
                refine own_step (T' := s₁) (g' := (mkF m 67 #[.val (.ref a1), .val (.int p2), .val (.int p3), .val (.int (3 : Int32))] [(.int (3 : Int32))])) (fun t k => XS.iloadN X0.here hx rfl (hb hby d3_66) rfl k) ?_
                refine own_step (T' := s₁) (g' := (mkF m 68 #[.val (.ref a1), .val (.int p2), .val (.int p3), .val (.int (3 : Int32))] [(.int (3 : Int32)), (.int (3 : Int32))])) (fun t k => XS.iconst X0.here hx rfl (hb hby d3_67) k) ?_
                refine own_step (T' := s₁) (g' := (mkF m 69 #[.val (.ref a1), .val (.int p2), .val (.int p3), .val (.int (3 : Int32))] [(.int (6 : Int32))])) (fun t k => XS.iadd X0.here hx rfl (hb hby d3_68) rfl k) ?_
                refine own_rI X0 hx hlk Bd.returns (hb hby d3_69) ?_ (by decide) (by decide)
                rw [e0]
                exact ⟨by rw [hr3]; rw [own_E3, if_pos (decide_eq_true c4), if_pos (decide_eq_true c12), if_neg (fun z => c22 (of_decide_eq_true z)), if_pos (decide_eq_true c43), if_pos (decide_eq_true c53), if_pos (decide_eq_true c63)], N0, rfl⟩
              · refine own_step (T' := s₁) (g' := (mkF m 70 #[.val (.ref a1), .val (.int p2), .val (.int p3), .val (.int (3 : Int32))] [])) (fun t k => XS.icmpYes X0.here hx rfl (pc0 := 63) (pc' := 70) rfl (hb hby d3_63) rfl (feq c63).2 (by decide) (by decide) k) ?_
                refine own_step (T' := s₁) (g' := (mkF m 73 #[.val (.ref a1), .val (.int p2), .val (.int p3), .val (.int (4 : Int32))] [])) (fun t k => XS.iinc X0.here hx rfl (hb hby d3_70) rfl (l' := #[.val (.ref a1), .val (.int p2), .val (.int p3), .val (.int (4 : Int32))]) rfl k) ?_
                refine own_step (T' := s₁) (g' := (mkF m 2 #[.val (.ref a1), .val (.int p2), .val (.int p3), .val (.int (4 : Int32))] [])) (fun t k => XS.goto X0.here hx rfl (pc0 := 73) (pc' := 2) rfl (hb hby d3_73) (by decide) (by decide) k) ?_
                exact L4 (hr3.trans (by rw [own_E3, if_pos (decide_eq_true c4), if_pos (decide_eq_true c12), if_neg (fun z => c22 (of_decide_eq_true z)), if_pos (decide_eq_true c43), if_pos (decide_eq_true c53), if_neg (fun z => c63 (of_decide_eq_true z))]))
            · refine own_step (T' := s₁) (g' := (mkF m 70 #[.val (.ref a1), .val (.int p2), .val (.int p3), .val (.int (3 : Int32))] [])) (fun t k => XS.icmpYes X0.here hx rfl (pc0 := 53) (pc' := 70) rfl (hb hby d3_53) rfl (feq c53).2 (by decide) (by decide) k) ?_
              refine own_step (T' := s₁) (g' := (mkF m 73 #[.val (.ref a1), .val (.int p2), .val (.int p3), .val (.int (4 : Int32))] [])) (fun t k => XS.iinc X0.here hx rfl (hb hby d3_70) rfl (l' := #[.val (.ref a1), .val (.int p2), .val (.int p3), .val (.int (4 : Int32))]) rfl k) ?_
              refine own_step (T' := s₁) (g' := (mkF m 2 #[.val (.ref a1), .val (.int p2), .val (.int p3), .val (.int (4 : Int32))] [])) (fun t k => XS.goto X0.here hx rfl (pc0 := 73) (pc' := 2) rfl (hb hby d3_73) (by decide) (by decide) k) ?_
              exact L4 (hr3.trans (by rw [own_E3, if_pos (decide_eq_true c4), if_pos (decide_eq_true c12), if_neg (fun z => c22 (of_decide_eq_true z)), if_pos (decide_eq_true c43), if_neg (fun z => c53 (of_decide_eq_true z))]))
          · refine own_step (T' := s₁) (g' := (mkF m 70 #[.val (.ref a1), .val (.int p2), .val (.int p3), .val (.int (3 : Int32))] [])) (fun t k => XS.icmpYes X0.here hx rfl (pc0 := 43) (pc' := 70) rfl (hb hby d3_43) rfl (flt c43).2.1 (by decide) (by decide) k) ?_
            refine own_step (T' := s₁) (g' := (mkF m 73 #[.val (.ref a1), .val (.int p2), .val (.int p3), .val (.int (4 : Int32))] [])) (fun t k => XS.iinc X0.here hx rfl (hb hby d3_70) rfl (l' := #[.val (.ref a1), .val (.int p2), .val (.int p3), .val (.int (4 : Int32))]) rfl k) ?_
            refine own_step (T' := s₁) (g' := (mkF m 2 #[.val (.ref a1), .val (.int p2), .val (.int p3), .val (.int (4 : Int32))] [])) (fun t k => XS.goto X0.here hx rfl (pc0 := 73) (pc' := 2) rfl (hb hby d3_73) (by decide) (by decide) k) ?_
            exact L4 (hr3.trans (by rw [own_E3, if_pos (decide_eq_true c4), if_pos (decide_eq_true c12), if_neg (fun z => c22 (of_decide_eq_true z)), if_neg (fun z => c43 (of_decide_eq_true z))]))
      · refine own_step (T' := s₁) (g' := (mkF m 15 #[.val (.ref a1), .val (.int p2), .val (.int p3), .val (.int (3 : Int32))] [])) (fun t k => XS.icmpNo X0.here hx rfl (hb hby d3_12) rfl (feq c12).1 k) ?_
        refine own_step (T' := s₁) (g' := (mkF m 70 #[.val (.ref a1), .val (.int p2), .val (.int p3), .val (.int (3 : Int32))] [])) (fun t k => XS.goto X0.here hx rfl (pc0 := 15) (pc' := 70) rfl (hb hby d3_15) (by decide) (by decide) k) ?_
        refine own_step (T' := s₁) (g' := (mkF m 73 #[.val (.ref a1), .val (.int p2), .val (.int p3), .val (.int (4 : Int32))] [])) (fun t k => XS.iinc X0.here hx rfl (hb hby d3_70) rfl (l' := #[.val (.ref a1), .val (.int p2), .val (.int p3), .val (.int (4 : Int32))]) rfl k) ?_
        refine own_step (T' := s₁) (g' := (mkF m 2 #[.val (.ref a1), .val (.int p2), .val (.int p3), .val (.int (4 : Int32))] [])) (fun t k => XS.goto X0.here hx rfl (pc0 := 73) (pc' := 2) rfl (hb hby d3_73) (by decide) (by decide) k) ?_
        exact L4 (hr3.trans (by rw [own_E3, if_pos (decide_eq_true c4), if_neg (fun z => c12 (of_decide_eq_true z))]))
    · refine own_step (T' := s₁) (g' := (mkF m 76 #[.val (.ref a1), .val (.int p2), .val (.int p3), .val (.int (3 : Int32))] [])) (fun t k => XS.icmpYes X0.here hx rfl (pc0 := 4) (pc' := 76) rfl (hb hby d3_4) rfl (flt c4).2.1 (by decide) (by decide) k) ?_
      refine own_step (T' := s₁) (g' := (mkF m 77 #[.val (.ref a1), .val (.int p2), .val (.int p3), .val (.int (3 : Int32))] [(.int ((-1) : Int32))])) (fun t k => XS.iconst X0.here hx rfl (hb hby d3_76) k) ?_
      refine own_rI X0 hx hlk Bd.returns (hb hby d3_77) ?_ (by decide) (by decide)
      rw [e0]
      exact ⟨by rw [hr3]; rw [own_E3, if_neg (fun z => c4 (of_decide_eq_true z))], N0, rfl⟩
  have L2 : own_end p2 p3 y0 y1 y2 y3 y4 y5 = (own_E2 (decide ((2 : Int32) < p3)) (decide ((3 : Int32) < p3)) (decide ((4 : Int32) < p3)) (decide ((5 : Int32) < p3)) (decide (y2 = (10 : Int32))) (decide (y3 = (10 : Int32))) (decide (y4 = (10 : Int32))) (decide (y5 = (10 : Int32))) (decide (y3 = (13 : Int32))) (decide (y4 = (13 : Int32)))) → own_Go p e below s (Q_end p2 p3 y0 y1 y2 y3 y4 y5 h0 n0) ({ frames := 0, cells := 0, slots := 0, locals := 0 } : Room).cells ({ frames := 0, cells := 0, slots := 0, locals := 0 } : Room).slots s₁ (mkF m 2 #[.val (.ref a1), .val (.int p2), .val (.int p3), .val (.int (2 : Int32))] []) := by
    intro hr2
    refine own_step (T' := s₁) (g' := (mkF m 3 #[.val (.ref a1), .val (.int p2), .val (.int p3), .val (.int (2 : Int32))] [(.int (2 : Int32))])) (fun t k => XS.iloadN X0.here hx rfl (hb hby d3_2) rfl k) ?_
    refine own_step (T' := s₁) (g' := (mkF m 4 #[.val (.ref a1), .val (.int p2), .val (.int p3), .val (.int (2 : Int32))] [(.int p3), (.int (2 : Int32))])) (fun t k => XS.iloadN X0.here hx rfl (hb hby d3_3) rfl k) ?_
    by_cases c4 : (2 : Int32) < p3
    · refine own_step (T' := s₁) (g' := (mkF m 7 #[.val (.ref a1), .val (.int p2), .val (.int p3), .val (.int (2 : Int32))] [])) (fun t k => XS.icmpNo X0.here hx rfl (hb hby d3_4) rfl (tlt c4).2.1 k) ?_
      refine own_step (T' := s₁) (g' := (mkF m 8 #[.val (.ref a1), .val (.int p2), .val (.int p3), .val (.int (2 : Int32))] [(.ref a1)])) (fun t k => XS.aloadN X0.here hx rfl (hb hby d3_7) rfl rfl k) ?_
      refine own_step (T' := s₁) (g' := (mkF m 9 #[.val (.ref a1), .val (.int p2), .val (.int p3), .val (.int (2 : Int32))] [(.int (2 : Int32)), (.ref a1)])) (fun t k => XS.iloadN X0.here hx rfl (hb hby d3_8) rfl k) ?_
      obtain ⟨cl10, Ar10, qa10, S10, M10, H10, U10⟩ := id V_a
      have hi10 := inb_of S10 (j := (2 : Int32)) ⟨by decide, by decide⟩
      have hat10 := H10.at hi10 (v := (.int y2)) rfl
      refine own_step (T' := s₁) (g' := (mkF m 10 #[.val (.ref a1), .val (.int p2), .val (.int p3), .val (.int (2 : Int32))] [(.int y2)])) (fun t k => X0.baloadBytes hx (j := (2 : Int32)) (v := (.int y2)) (by rw [e0]; exact Ar10.1) (State.isArrayOf_alike hZ.alike Ar10.2.1) Ar10.2.2 hi10 hat10 (g := (mkF m 9 #[.val (.ref a1), .val (.int p2), .val (.int p3), .val (.int (2 : Int32))] [(.int (2 : Int32)), (.ref a1)])) rfl rfl (hb hby d3_9) t k) ?_
      refine own_step (T' := s₁) (g' := (mkF m 12 #[.val (.ref a1), .val (.int p2), .val (.int p3), .val (.int (2 : Int32))] [(.int (10 : Int32)), (.int y2)])) (fun t k => XS.bipush X0.here hx rfl (hb hby d3_10) k) ?_
      by_cases c12 : y2 = (10 : Int32)
      · refine own_step (T' := s₁) (g' := (mkF m 18 #[.val (.ref a1), .val (.int p2), .val (.int p3), .val (.int (2 : Int32))] [])) (fun t k => XS.icmpYes X0.here hx rfl (pc0 := 12) (pc' := 18) rfl (hb hby d3_12) rfl (teq c12).1 (by decide) (by decide) k) ?_
        refine own_step (T' := s₁) (g' := (mkF m 19 #[.val (.ref a1), .val (.int p2), .val (.int p3), .val (.int (2 : Int32))] [(.int (2 : Int32))])) (fun t k => XS.iloadN X0.here hx rfl (hb hby d3_18) rfl k) ?_
        refine own_step (T' := s₁) (g' := (mkF m 20 #[.val (.ref a1), .val (.int p2), .val (.int p3), .val (.int (2 : Int32))] [(.int (1 : Int32)), (.int (2 : Int32))])) (fun t k => XS.iconst X0.here hx rfl (hb hby d3_19) k) ?_
        refine own_step (T' := s₁) (g' := (mkF m 21 #[.val (.ref a1), .val (.int p2), .val (.int p3), .val (.int (2 : Int32))] [(.int (3 : Int32))])) (fun t k => XS.iadd X0.here hx rfl (hb hby d3_20) rfl k) ?_
        refine own_step (T' := s₁) (g' := (mkF m 22 #[.val (.ref a1), .val (.int p2), .val (.int p3), .val (.int (2 : Int32))] [(.int p3), (.int (3 : Int32))])) (fun t k => XS.iloadN X0.here hx rfl (hb hby d3_21) rfl k) ?_
        by_cases c22 : (3 : Int32) < p3
        · refine own_step (T' := s₁) (g' := (mkF m 25 #[.val (.ref a1), .val (.int p2), .val (.int p3), .val (.int (2 : Int32))] [])) (fun t k => XS.icmpNo X0.here hx rfl (hb hby d3_22) rfl (tlt c22).2.1 k) ?_
          refine own_step (T' := s₁) (g' := (mkF m 26 #[.val (.ref a1), .val (.int p2), .val (.int p3), .val (.int (2 : Int32))] [(.ref a1)])) (fun t k => XS.aloadN X0.here hx rfl (hb hby d3_25) rfl rfl k) ?_
          refine own_step (T' := s₁) (g' := (mkF m 27 #[.val (.ref a1), .val (.int p2), .val (.int p3), .val (.int (2 : Int32))] [(.int (2 : Int32)), (.ref a1)])) (fun t k => XS.iloadN X0.here hx rfl (hb hby d3_26) rfl k) ?_
          refine own_step (T' := s₁) (g' := (mkF m 28 #[.val (.ref a1), .val (.int p2), .val (.int p3), .val (.int (2 : Int32))] [(.int (1 : Int32)), (.int (2 : Int32)), (.ref a1)])) (fun t k => XS.iconst X0.here hx rfl (hb hby d3_27) k) ?_
          refine own_step (T' := s₁) (g' := (mkF m 29 #[.val (.ref a1), .val (.int p2), .val (.int p3), .val (.int (2 : Int32))] [(.int (3 : Int32)), (.ref a1)])) (fun t k => XS.iadd X0.here hx rfl (hb hby d3_28) rfl k) ?_
          obtain ⟨cl11, Ar11, qa11, S11, M11, H11, U11⟩ := id V_a
          have hi11 := inb_of S11 (j := (3 : Int32)) ⟨by decide, by decide⟩
          have hat11 := H11.at hi11 (v := (.int y3)) rfl
          refine own_step (T' := s₁) (g' := (mkF m 30 #[.val (.ref a1), .val (.int p2), .val (.int p3), .val (.int (2 : Int32))] [(.int y3)])) (fun t k => X0.baloadBytes hx (j := (3 : Int32)) (v := (.int y3)) (by rw [e0]; exact Ar11.1) (State.isArrayOf_alike hZ.alike Ar11.2.1) Ar11.2.2 hi11 hat11 (g := (mkF m 29 #[.val (.ref a1), .val (.int p2), .val (.int p3), .val (.int (2 : Int32))] [(.int (3 : Int32)), (.ref a1)])) rfl rfl (hb hby d3_29) t k) ?_
          refine own_step (T' := s₁) (g' := (mkF m 32 #[.val (.ref a1), .val (.int p2), .val (.int p3), .val (.int (2 : Int32))] [(.int (10 : Int32)), (.int y3)])) (fun t k => XS.bipush X0.here hx rfl (hb hby d3_30) k) ?_
          by_cases c32 : y3 = (10 : Int32)
          · refine own_step (T' := s₁) (g' := (mkF m 35 #[.val (.ref a1), .val (.int p2), .val (.int p3), .val (.int (2 : Int32))] [])) (fun t k => XS.icmpNo X0.here hx rfl (hb hby d3_32) rfl (teq c32).2 k) ?_
            refine own_step (T' := s₁) (g' := (mkF m 36 #[.val (.ref a1), .val (.int p2), .val (.int p3), .val (.int (2 : Int32))] [(.int (2 : Int32))])) (fun t k => XS.iloadN X0.here hx rfl (hb hby d3_35) rfl k) ?_
            refine own_step (T' := s₁) (g' := (mkF m 37 #[.val (.ref a1), .val (.int p2), .val (.int p3), .val (.int (2 : Int32))] [(.int (2 : Int32)), (.int (2 : Int32))])) (fun t k => XS.iconst X0.here hx rfl (hb hby d3_36) k) ?_
            refine own_step (T' := s₁) (g' := (mkF m 38 #[.val (.ref a1), .val (.int p2), .val (.int p3), .val (.int (2 : Int32))] [(.int (4 : Int32))])) (fun t k => XS.iadd X0.here hx rfl (hb hby d3_37) rfl k) ?_
            refine own_rI X0 hx hlk Bd.returns (hb hby d3_38) ?_ (by decide) (by decide)
            rw [e0]
            exact ⟨by rw [hr2]; rw [own_E2, if_pos (decide_eq_true c4), if_pos (decide_eq_true c12), if_pos (decide_eq_true c22), if_pos (decide_eq_true c32)], N0, rfl⟩
          · refine own_step (T' := s₁) (g' := (mkF m 39 #[.val (.ref a1), .val (.int p2), .val (.int p3), .val (.int (2 : Int32))] [])) (fun t k => XS.icmpYes X0.here hx rfl (pc0 := 32) (pc' := 39) rfl (hb hby d3_32) rfl (feq c32).2 (by decide) (by decide) k) ?_
            refine own_step (T' := s₁) (g' := (mkF m 40 #[.val (.ref a1), .val (.int p2), .val (.int p3), .val (.int (2 : Int32))] [(.int (2 : Int32))])) (fun t k => XS.iloadN X0.here hx rfl (hb hby d3_39) rfl k) ?_
            refine own_step (T' := s₁) (g' := (mkF m 41 #[.val (.ref a1), .val (.int p2), .val (.int p3), .val (.int (2 : Int32))] [(.int (2 : Int32)), (.int (2 : Int32))])) (fun t k => XS.iconst X0.here hx rfl (hb hby d3_40) k) ?_
            refine own_step (T' := s₁) (g' := (mkF m 42 #[.val (.ref a1), .val (.int p2), .val (.int p3), .val (.int (2 : Int32))] [(.int (4 : Int32))])) (fun t k => XS.iadd X0.here hx rfl (hb hby d3_41) rfl k) ?_
            refine own_step (T' := s₁) (g' := (mkF m 43 #[.val (.ref a1), .val (.int p2), .val (.int p3), .val (.int (2 : Int32))] [(.int p3), (.int (4 : Int32))])) (fun t k => XS.iloadN X0.here hx rfl (hb hby d3_42) rfl k) ?_
            by_cases c43 : (4 : Int32) < p3
            · refine own_step (T' := s₁) (g' := (mkF m 46 #[.val (.ref a1), .val (.int p2), .val (.int p3), .val (.int (2 : Int32))] [])) (fun t k => XS.icmpNo X0.here hx rfl (hb hby d3_43) rfl (tlt c43).2.1 k) ?_
              refine own_step (T' := s₁) (g' := (mkF m 47 #[.val (.ref a1), .val (.int p2), .val (.int p3), .val (.int (2 : Int32))] [(.ref a1)])) (fun t k => XS.aloadN X0.here hx rfl (hb hby d3_46) rfl rfl k) ?_
              refine own_step (T' := s₁) (g' := (mkF m 48 #[.val (.ref a1), .val (.int p2), .val (.int p3), .val (.int (2 : Int32))] [(.int (2 : Int32)), (.ref a1)])) (fun t k => XS.iloadN X0.here hx rfl (hb hby d3_47) rfl k) ?_
              refine own_step (T' := s₁) (g' := (mkF m 49 #[.val (.ref a1), .val (.int p2), .val (.int p3), .val (.int (2 : Int32))] [(.int (1 : Int32)), (.int (2 : Int32)), (.ref a1)])) (fun t k => XS.iconst X0.here hx rfl (hb hby d3_48) k) ?_
              refine own_step (T' := s₁) (g' := (mkF m 50 #[.val (.ref a1), .val (.int p2), .val (.int p3), .val (.int (2 : Int32))] [(.int (3 : Int32)), (.ref a1)])) (fun t k => XS.iadd X0.here hx rfl (hb hby d3_49) rfl k) ?_
              obtain ⟨cl12, Ar12, qa12, S12, M12, H12, U12⟩ := id V_a
              have hi12 := inb_of S12 (j := (3 : Int32)) ⟨by decide, by decide⟩
              have hat12 := H12.at hi12 (v := (.int y3)) rfl
              refine own_step (T' := s₁) (g' := (mkF m 51 #[.val (.ref a1), .val (.int p2), .val (.int p3), .val (.int (2 : Int32))] [(.int y3)])) (fun t k => X0.baloadBytes hx (j := (3 : Int32)) (v := (.int y3)) (by rw [e0]; exact Ar12.1) (State.isArrayOf_alike hZ.alike Ar12.2.1) Ar12.2.2 hi12 hat12 (g := (mkF m 50 #[.val (.ref a1), .val (.int p2), .val (.int p3), .val (.int (2 : Int32))] [(.int (3 : Int32)), (.ref a1)])) rfl rfl (hb hby d3_50) t k) ?_
              refine own_step (T' := s₁) (g' := (mkF m 53 #[.val (.ref a1), .val (.int p2), .val (.int p3), .val (.int (2 : Int32))] [(.int (13 : Int32)), (.int y3)])) (fun t k => XS.bipush X0.here hx rfl (hb hby d3_51) k) ?_
              by_cases c53 : y3 = (13 : Int32)
              · refine own_step (T' := s₁) (g' := (mkF m 56 #[.val (.ref a1), .val (.int p2), .val (.int p3), .val (.int (2 : Int32))] [])) (fun t k => XS.icmpNo X0.here hx rfl (hb hby d3_53) rfl (teq c53).2 k) ?_
                refine own_step (T' := s₁) (g' := (mkF m 57 #[.val (.ref a1), .val (.int p2), .val (.int p3), .val (.int (2 : Int32))] [(.ref a1)])) (fun t k => XS.aloadN X0.here hx rfl (hb hby d3_56) rfl rfl k) ?_
                refine own_step (T' := s₁) (g' := (mkF m 58 #[.val (.ref a1), .val (.int p2), .val (.int p3), .val (.int (2 : Int32))] [(.int (2 : Int32)), (.ref a1)])) (fun t k => XS.iloadN X0.here hx rfl (hb hby d3_57) rfl k) ?_
                refine own_step (T' := s₁) (g' := (mkF m 59 #[.val (.ref a1), .val (.int p2), .val (.int p3), .val (.int (2 : Int32))] [(.int (2 : Int32)), (.int (2 : Int32)), (.ref a1)])) (fun t k => XS.iconst X0.here hx rfl (hb hby d3_58) k) ?_
                refine own_step (T' := s₁) (g' := (mkF m 60 #[.val (.ref a1), .val (.int p2), .val (.int p3), .val (.int (2 : Int32))] [(.int (4 : Int32)), (.ref a1)])) (fun t k => XS.iadd X0.here hx rfl (hb hby d3_59) rfl k) ?_
                obtain ⟨cl13, Ar13, qa13, S13, M13, H13, U13⟩ := id V_a
                have hi13 := inb_of S13 (j := (4 : Int32)) ⟨by decide, by decide⟩
                have hat13 := H13.at hi13 (v := (.int y4)) rfl
                refine own_step (T' := s₁) (g' := (mkF m 61 #[.val (.ref a1), .val (.int p2), .val (.int p3), .val (.int (2 : Int32))] [(.int y4)])) (fun t k => X0.baloadBytes hx (j := (4 : Int32)) (v := (.int y4)) (by rw [e0]; exact Ar13.1) (State.isArrayOf_alike hZ.alike Ar13.2.1) Ar13.2.2 hi13 hat13 (g := (mkF m 60 #[.val (.ref a1), .val (.int p2), .val (.int p3), .val (.int (2 : Int32))] [(.int (4 : Int32)), (.ref a1)])) rfl rfl (hb hby d3_60) t k) ?_
                refine own_step (T' := s₁) (g' := (mkF m 63 #[.val (.ref a1), .val (.int p2), .val (.int p3), .val (.int (2 : Int32))] [(.int (10 : Int32)), (.int y4)])) (fun t k => XS.bipush X0.here hx rfl (hb hby d3_61) k) ?_
                by_cases c63 : y4 = (10 : Int32)
                · refine own_step (T' := s₁) (g' := (mkF m 66 #[.val (.ref a1), .val (.int p2), .val (.int p3), .val (.int (2 : Int32))] [])) (fun t k => XS.icmpNo X0.here hx rfl (hb hby d3_63) rfl (teq c63).2 k) ?_
                  refine own_step (T' := s₁) (g' := (mkF m 67 #[.val (.ref a1), .val (.int p2), .val (.int p3), .val (.int (2 : Int32))] [(.int (2 : Int32))])) (fun t k => XS.iloadN X0.here hx rfl (hb hby d3_66) rfl k) ?_
                  refine own_step (T' := s₁) (g' := (mkF m 68 #[.val (.ref a1), .val (.int p2), .val (.int p3), .val (.int (2 : Int32))] [(.int (3 : Int32)), (.int (2 : Int32))])) (fun t k => XS.iconst X0.here hx rfl (hb hby d3_67) k) ?_
                  refine own_step (T' := s₁) (g' := (mkF m 69 #[.val (.ref a1), .val (.int p2), .val (.int p3), .val (.int (2 : Int32))] [(.int (5 : Int32))])) (fun t k => XS.iadd X0.here hx rfl (hb hby d3_68) rfl k) ?_
                  refine own_rI X0 hx hlk Bd.returns (hb hby d3_69) ?_ (by decide) (by decide)
                  rw [e0]
                  exact ⟨by rw [hr2]; rw [own_E2, if_pos (decide_eq_true c4), if_pos (decide_eq_true c12), if_pos (decide_eq_true c22), if_neg (fun z => c32 (of_decide_eq_true z)), if_pos (decide_eq_true c43), if_pos (decide_eq_true c53), if_pos (decide_eq_true c63)], N0, rfl⟩
                · refine own_step (T' := s₁) (g' := (mkF m 70 #[.val (.ref a1), .val (.int p2), .val (.int p3), .val (.int (2 : Int32))] [])) (fun t k => XS.icmpYes X0.here hx rfl (pc0 := 63) (pc' := 70) rfl (hb hby d3_63) rfl (feq c63).2 (by decide) (by decide) k) ?_
                  refine own_step (T' := s₁) (g' := (mkF m 73 #[.val (.ref a1), .val (.int p2), .val (.int p3), .val (.int (3 : Int32))] [])) (fun t k => XS.iinc X0.here hx rfl (hb hby d3_70) rfl (l' := #[.val (.ref a1), .val (.int p2), .val (.int p3), .val (.int (3 : Int32))]) rfl k) ?_
                  refine own_step (T' := s₁) (g' := (mkF m 2 #[.val (.ref a1), .val (.int p2), .val (.int p3), .val (.int (3 : Int32))] [])) (fun t k => XS.goto X0.here hx rfl (pc0 := 73) (pc' := 2) rfl (hb hby d3_73) (by decide) (by decide) k) ?_
                  exact L3 (hr2.trans (by rw [own_E2, if_pos (decide_eq_true c4), if_pos (decide_eq_true c12), if_pos (decide_eq_true c22), if_neg (fun z => c32 (of_decide_eq_true z)), if_pos (decide_eq_true c43), if_pos (decide_eq_true c53), if_neg (fun z => c63 (of_decide_eq_true z))]))
              · refine own_step (T' := s₁) (g' := (mkF m 70 #[.val (.ref a1), .val (.int p2), .val (.int p3), .val (.int (2 : Int32))] [])) (fun t k => XS.icmpYes X0.here hx rfl (pc0 := 53) (pc' := 70) rfl (hb hby d3_53) rfl (feq c53).2 (by decide) (by decide) k) ?_
                refine own_step (T' := s₁) (g' := (mkF m 73 #[.val (.ref a1), .val (.int p2), .val (.int p3), .val (.int (3 : Int32))] [])) (fun t k => XS.iinc X0.here hx rfl (hb hby d3_70) rfl (l' := #[.val (.ref a1), .val (.int p2), .val (.int p3), .val (.int (3 : Int32))]) rfl k) ?_
                refine own_step (T' := s₁) (g' := (mkF m 2 #[.val (.ref a1), .val (.int p2), .val (.int p3), .val (.int (3 : Int32))] [])) (fun t k => XS.goto X0.here hx rfl (pc0 := 73) (pc' := 2) rfl (hb hby d3_73) (by decide) (by decide) k) ?_
                exact L3 (hr2.trans (by rw [own_E2, if_pos (decide_eq_true c4), if_pos (decide_eq_true c12), if_pos (decide_eq_true c22), if_neg (fun z => c32 (of_decide_eq_true z)), if_pos (decide_eq_true c43), if_neg (fun z => c53 (of_decide_eq_true z))]))
            · refine own_step (T' := s₁) (g' := (mkF m 70 #[.val (.ref a1), .val (.int p2), .val (.int p3), .val (.int (2 : Int32))] [])) (fun t k => XS.icmpYes X0.here hx rfl (pc0 := 43) (pc' := 70) rfl (hb hby d3_43) rfl (flt c43).2.1 (by decide) (by decide) k) ?_
              refine own_step (T' := s₁) (g' := (mkF m 73 #[.val (.ref a1), .val (.int p2), .val (.int p3), .val (.int (3 : Int32))] [])) (fun t k => XS.iinc X0.here hx rfl (hb hby d3_70) rfl (l' := #[.val (.ref a1), .val (.int p2), .val (.int p3), .val (.int (3 : Int32))]) rfl k) ?_
              refine own_step (T' := s₁) (g' := (mkF m 2 #[.val (.ref a1), .val (.int p2), .val (.int p3), .val (.int (3 : Int32))] [])) (fun t k => XS.goto X0.here hx rfl (pc0 := 73) (pc' := 2) rfl (hb hby d3_73) (by decide) (by decide) k) ?_
              exact L3 (hr2.trans (by rw [own_E2, if_pos (decide_eq_true c4), if_pos (decide_eq_true c12), if_pos (decide_eq_true c22), if_neg (fun z => c32 (of_decide_eq_true z)), if_neg (fun z => c43 (of_decide_eq_true z))]))
        · refine own_step (T' := s₁) (g' := (mkF m 39 #[.val (.ref a1), .val (.int p2), .val (.int p3), .val (.int (2 : Int32))] [])) (fun t k => XS.icmpYes X0.here hx rfl (pc0 := 22) (pc' := 39) rfl (hb hby d3_22) rfl (flt c22).2.1 (by decide) (by decide) k) ?_
          refine own_step (T' := s₁) (g' := (mkF m 40 #[.val (.ref a1), .val (.int p2), .val (.int p3), .val (.int (2 : Int32))] [(.int (2 : Int32))])) (fun t k => XS.iloadN X0.here hx rfl (hb hby d3_39) rfl k) ?_
          refine own_step (T' := s₁) (g' := (mkF m 41 #[.val (.ref a1), .val (.int p2), .val (.int p3), .val (.int (2 : Int32))] [(.int (2 : Int32)), (.int (2 : Int32))])) (fun t k => XS.iconst X0.here hx rfl (hb hby d3_40) k) ?_
          refine own_step (T' := s₁) (g' := (mkF m 42 #[.val (.ref a1), .val (.int p2), .val (.int p3), .val (.int (2 : Int32))] [(.int (4 : Int32))])) (fun t k => XS.iadd X0.here hx rfl (hb hby d3_41) rfl k) ?_
          refine own_step (T' := s₁) (g' := (mkF m 43 #[.val (.ref a1), .val (.int p2), .val (.int p3), .val (.int (2 : Int32))] [(.int p3), (.int (4 : Int32))])) (fun t k => XS.iloadN X0.here hx rfl (hb hby d3_42) rfl k) ?_
          by_cases c43 : (4 : Int32) < p3
          · refine own_step (T' := s₁) (g' := (mkF m 46 #[.val (.ref a1), .val (.int p2), .val (.int p3), .val (.int (2 : Int32))] [])) (fun t k => XS.icmpNo X0.here hx rfl (hb hby d3_43) rfl (tlt c43).2.1 k) ?_
            refine own_step (T' := s₁) (g' := (mkF m 47 #[.val (.ref a1), .val (.int p2), .val (.int p3), .val (.int (2 : Int32))] [(.ref a1)])) (fun t k => XS.aloadN X0.here hx rfl (hb hby d3_46) rfl rfl k) ?_
            refine own_step (T' := s₁) (g' := (mkF m 48 #[.val (.ref a1), .val (.int p2), .val (.int p3), .val (.int (2 : Int32))] [(.int (2 : Int32)), (.ref a1)])) (fun t k => XS.iloadN X0.here hx rfl (hb hby d3_47) rfl k) ?_
            refine own_step (T' := s₁) (g' := (mkF m 49 #[.val (.ref a1), .val (.int p2), .val (.int p3), .val (.int (2 : Int32))] [(.int (1 : Int32)), (.int (2 : Int32)), (.ref a1)])) (fun t k => XS.iconst X0.here hx rfl (hb hby d3_48) k) ?_
            refine own_step (T' := s₁) (g' := (mkF m 50 #[.val (.ref a1), .val (.int p2), .val (.int p3), .val (.int (2 : Int32))] [(.int (3 : Int32)), (.ref a1)])) (fun t k => XS.iadd X0.here hx rfl (hb hby d3_49) rfl k) ?_
            obtain ⟨cl14, Ar14, qa14, S14, M14, H14, U14⟩ := id V_a
            have hi14 := inb_of S14 (j := (3 : Int32)) ⟨by decide, by decide⟩
            have hat14 := H14.at hi14 (v := (.int y3)) rfl
            refine own_step (T' := s₁) (g' := (mkF m 51 #[.val (.ref a1), .val (.int p2), .val (.int p3), .val (.int (2 : Int32))] [(.int y3)])) (fun t k => X0.baloadBytes hx (j := (3 : Int32)) (v := (.int y3)) (by rw [e0]; exact Ar14.1) (State.isArrayOf_alike hZ.alike Ar14.2.1) Ar14.2.2 hi14 hat14 (g := (mkF m 50 #[.val (.ref a1), .val (.int p2), .val (.int p3), .val (.int (2 : Int32))] [(.int (3 : Int32)), (.ref a1)])) rfl rfl (hb hby d3_50) t k) ?_
            refine own_step (T' := s₁) (g' := (mkF m 53 #[.val (.ref a1), .val (.int p2), .val (.int p3), .val (.int (2 : Int32))] [(.int (13 : Int32)), (.int y3)])) (fun t k => XS.bipush X0.here hx rfl (hb hby d3_51) k) ?_
            by_cases c53 : y3 = (13 : Int32)
            · refine own_step (T' := s₁) (g' := (mkF m 56 #[.val (.ref a1), .val (.int p2), .val (.int p3), .val (.int (2 : Int32))] [])) (fun t k => XS.icmpNo X0.here hx rfl (hb hby d3_53) rfl (teq c53).2 k) ?_
              refine own_step (T' := s₁) (g' := (mkF m 57 #[.val (.ref a1), .val (.int p2), .val (.int p3), .val (.int (2 : Int32))] [(.ref a1)])) (fun t k => XS.aloadN X0.here hx rfl (hb hby d3_56) rfl rfl k) ?_
              refine own_step (T' := s₁) (g' := (mkF m 58 #[.val (.ref a1), .val (.int p2), .val (.int p3), .val (.int (2 : Int32))] [(.int (2 : Int32)), (.ref a1)])) (fun t k => XS.iloadN X0.here hx rfl (hb hby d3_57) rfl k) ?_
              refine own_step (T' := s₁) (g' := (mkF m 59 #[.val (.ref a1), .val (.int p2), .val (.int p3), .val (.int (2 : Int32))] [(.int (2 : Int32)), (.int (2 : Int32)), (.ref a1)])) (fun t k => XS.iconst X0.here hx rfl (hb hby d3_58) k) ?_
              refine own_step (T' := s₁) (g' := (mkF m 60 #[.val (.ref a1), .val (.int p2), .val (.int p3), .val (.int (2 : Int32))] [(.int (4 : Int32)), (.ref a1)])) (fun t k => XS.iadd X0.here hx rfl (hb hby d3_59) rfl k) ?_
              obtain ⟨cl15, Ar15, qa15, S15, M15, H15, U15⟩ := id V_a
              have hi15 := inb_of S15 (j := (4 : Int32)) ⟨by decide, by decide⟩
              have hat15 := H15.at hi15 (v := (.int y4)) rfl
              refine own_step (T' := s₁) (g' := (mkF m 61 #[.val (.ref a1), .val (.int p2), .val (.int p3), .val (.int (2 : Int32))] [(.int y4)])) (fun t k => X0.baloadBytes hx (j := (4 : Int32)) (v := (.int y4)) (by rw [e0]; exact Ar15.1) (State.isArrayOf_alike hZ.alike Ar15.2.1) Ar15.2.2 hi15 hat15 (g := (mkF m 60 #[.val (.ref a1), .val (.int p2), .val (.int p3), .val (.int (2 : Int32))] [(.int (4 : Int32)), (.ref a1)])) rfl rfl (hb hby d3_60) t k) ?_
              refine own_step (T' := s₁) (g' := (mkF m 63 #[.val (.ref a1), .val (.int p2), .val (.int p3), .val (.int (2 : Int32))] [(.int (10 : Int32)), (.int y4)])) (fun t k => XS.bipush X0.here hx rfl (hb hby d3_61) k) ?_
              by_cases c63 : y4 = (10 : Int32)
              · refine own_step (T' := s₁) (g' := (mkF m 66 #[.val (.ref a1), .val (.int p2), .val (.int p3), .val (.int (2 : Int32))] [])) (fun t k => XS.icmpNo X0.here hx rfl (hb hby d3_63) rfl (teq c63).2 k) ?_
                refine own_step (T' := s₁) (g' := (mkF m 67 #[.val (.ref a1), .val (.int p2), .val (.int p3), .val (.int (2 : Int32))] [(.int (2 : Int32))])) (fun t k => XS.iloadN X0.here hx rfl (hb hby d3_66) rfl k) ?_
                refine own_step (T' := s₁) (g' := (mkF m 68 #[.val (.ref a1), .val (.int p2), .val (.int p3), .val (.int (2 : Int32))] [(.int (3 : Int32)), (.int (2 : Int32))])) (fun t k => XS.iconst X0.here hx rfl (hb hby d3_67) k) ?_
                refine own_step (T' := s₁) (g' := (mkF m 69 #[.val (.ref a1), .val (.int p2), .val (.int p3), .val (.int (2 : Int32))] [(.int (5 : Int32))])) (fun t k => XS.iadd X0.here hx rfl (hb hby d3_68) rfl k) ?_
                refine own_rI X0 hx hlk Bd.returns (hb hby d3_69) ?_ (by decide) (by decide)
                rw [e0]
                exact ⟨by rw [hr2]; rw [own_E2, if_pos (decide_eq_true c4), if_pos (decide_eq_true c12), if_neg (fun z => c22 (of_decide_eq_true z)), if_pos (decide_eq_true c43), if_pos (decide_eq_true c53), if_pos (decide_eq_true c63)], N0, rfl⟩
              · refine own_step (T' := s₁) (g' := (mkF m 70 #[.val (.ref a1), .val (.int p2), .val (.int p3), .val (.int (2 : Int32))] [])) (fun t k => XS.icmpYes X0.here hx rfl (pc0 := 63) (pc' := 70) rfl (hb hby d3_63) rfl (feq c63).2 (by decide) (by decide) k) ?_
                refine own_step (T' := s₁) (g' := (mkF m 73 #[.val (.ref a1), .val (.int p2), .val (.int p3), .val (.int (3 : Int32))] [])) (fun t k => XS.iinc X0.here hx rfl (hb hby d3_70) rfl (l' := #[.val (.ref a1), .val (.int p2), .val (.int p3), .val (.int (3 : Int32))]) rfl k) ?_
                refine own_step (T' := s₁) (g' := (mkF m 2 #[.val (.ref a1), .val (.int p2), .val (.int p3), .val (.int (3 : Int32))] [])) (fun t k => XS.goto X0.here hx rfl (pc0 := 73) (pc' := 2) rfl (hb hby d3_73) (by decide) (by decide) k) ?_
                exact L3 (hr2.trans (by rw [own_E2, if_pos (decide_eq_true c4), if_pos (decide_eq_true c12), if_neg (fun z => c22 (of_decide_eq_true z)), if_pos (decide_eq_true c43), if_pos (decide_eq_true c53), if_neg (fun z => c63 (of_decide_eq_true z))]))
            · refine own_step (T' := s₁) (g' := (mkF m 70 #[.val (.ref a1), .val (.int p2), .val (.int p3), .val (.int (2 : Int32))] [])) (fun t k => XS.icmpYes X0.here hx rfl (pc0 := 53) (pc' := 70) rfl (hb hby d3_53) rfl (feq c53).2 (by decide) (by decide) k) ?_
              refine own_step (T' := s₁) (g' := (mkF m 73 #[.val (.ref a1), .val (.int p2), .val (.int p3), .val (.int (3 : Int32))] [])) (fun t k => XS.iinc X0.here hx rfl (hb hby d3_70) rfl (l' := #[.val (.ref a1), .val (.int p2), .val (.int p3), .val (.int (3 : Int32))]) rfl k) ?_
              refine own_step (T' := s₁) (g' := (mkF m 2 #[.val (.ref a1), .val (.int p2), .val (.int p3), .val (.int (3 : Int32))] [])) (fun t k => XS.goto X0.here hx rfl (pc0 := 73) (pc' := 2) rfl (hb hby d3_73) (by decide) (by decide) k) ?_
              exact L3 (hr2.trans (by rw [own_E2, if_pos (decide_eq_true c4), if_pos (decide_eq_true c12), if_neg (fun z => c22 (of_decide_eq_true z)), if_pos (decide_eq_true c43), if_neg (fun z => c53 (of_decide_eq_true z))]))
          · refine own_step (T' := s₁) (g' := (mkF m 70 #[.val (.ref a1), .val (.int p2), .val (.int p3), .val (.int (2 : Int32))] [])) (fun t k => XS.icmpYes X0.here hx rfl (pc0 := 43) (pc' := 70) rfl (hb hby d3_43) rfl (flt c43).2.1 (by decide) (by decide) k) ?_
            refine own_step (T' := s₁) (g' := (mkF m 73 #[.val (.ref a1), .val (.int p2), .val (.int p3), .val (.int (3 : Int32))] [])) (fun t k => XS.iinc X0.here hx rfl (hb hby d3_70) rfl (l' := #[.val (.ref a1), .val (.int p2), .val (.int p3), .val (.int (3 : Int32))]) rfl k) ?_
            refine own_step (T' := s₁) (g' := (mkF m 2 #[.val (.ref a1), .val (.int p2), .val (.int p3), .val (.int (3 : Int32))] [])) (fun t k => XS.goto X0.here hx rfl (pc0 := 73) (pc' := 2) rfl (hb hby d3_73) (by decide) (by decide) k) ?_
            exact L3 (hr2.trans (by rw [own_E2, if_pos (decide_eq_true c4), if_pos (decide_eq_true c12), if_neg (fun z => c22 (of_decide_eq_true z)), if_neg (fun z => c43 (of_decide_eq_true z))]))
      · refine own_step (T' := s₁) (g' := (mkF m 15 #[.val (.ref a1), .val (.int p2), .val (.int p3), .val (.int (2 : Int32))] [])) (fun t k => XS.icmpNo X0.here hx rfl (hb hby d3_12) rfl (feq c12).1 k) ?_
        refine own_step (T' := s₁) (g' := (mkF m 70 #[.val (.ref a1), .val (.int p2), .val (.int p3), .val (.int (2 : Int32))] [])) (fun t k => XS.goto X0.here hx rfl (pc0 := 15) (pc' := 70) rfl (hb hby d3_15) (by decide) (by decide) k) ?_
        refine own_step (T' := s₁) (g' := (mkF m 73 #[.val (.ref a1), .val (.int p2), .val (.int p3), .val (.int (3 : Int32))] [])) (fun t k => XS.iinc X0.here hx rfl (hb hby d3_70) rfl (l' := #[.val (.ref a1), .val (.int p2), .val (.int p3), .val (.int (3 : Int32))]) rfl k) ?_
        refine own_step (T' := s₁) (g' := (mkF m 2 #[.val (.ref a1), .val (.int p2), .val (.int p3), .val (.int (3 : Int32))] [])) (fun t k => XS.goto X0.here hx rfl (pc0 := 73) (pc' := 2) rfl (hb hby d3_73) (by decide) (by decide) k) ?_
        exact L3 (hr2.trans (by rw [own_E2, if_pos (decide_eq_true c4), if_neg (fun z => c12 (of_decide_eq_true z))]))
    · refine own_step (T' := s₁) (g' := (mkF m 76 #[.val (.ref a1), .val (.int p2), .val (.int p3), .val (.int (2 : Int32))] [])) (fun t k => XS.icmpYes X0.here hx rfl (pc0 := 4) (pc' := 76) rfl (hb hby d3_4) rfl (flt c4).2.1 (by decide) (by decide) k) ?_
      refine own_step (T' := s₁) (g' := (mkF m 77 #[.val (.ref a1), .val (.int p2), .val (.int p3), .val (.int (2 : Int32))] [(.int ((-1) : Int32))])) (fun t k => XS.iconst X0.here hx rfl (hb hby d3_76) k) ?_
      refine own_rI X0 hx hlk Bd.returns (hb hby d3_77) ?_ (by decide) (by decide)
      rw [e0]
      exact ⟨by rw [hr2]; rw [own_E2, if_neg (fun z => c4 (of_decide_eq_true z))], N0, rfl⟩
  have L1 : own_end p2 p3 y0 y1 y2 y3 y4 y5 = (own_E1 (decide ((1 : Int32) < p3)) (decide ((2 : Int32) < p3)) (decide ((3 : Int32) < p3)) (decide ((4 : Int32) < p3)) (decide ((5 : Int32) < p3)) (decide (y1 = (10 : Int32))) (decide (y2 = (10 : Int32))) (decide (y3 = (10 : Int32))) (decide (y4 = (10 : Int32))) (decide (y5 = (10 : Int32))) (decide (y2 = (13 : Int32))) (decide (y3 = (13 : Int32))) (decide (y4 = (13 : Int32)))) → own_Go p e below s (Q_end p2 p3 y0 y1 y2 y3 y4 y5 h0 n0) ({ frames := 0, cells := 0, slots := 0, locals := 0 } : Room).cells ({ frames := 0, cells := 0, slots := 0, locals := 0 } : Room).slots s₁ (mkF m 2 #[.val (.ref a1), .val (.int p2), .val (.int p3), .val (.int (1 : Int32))] []) := by
    intro hr1
    refine own_step (T' := s₁) (g' := (mkF m 3 #[.val (.ref a1), .val (.int p2), .val (.int p3), .val (.int (1 : Int32))] [(.int (1 : Int32))])) (fun t k => XS.iloadN X0.here hx rfl (hb hby d3_2) rfl k) ?_
    refine own_step (T' := s₁) (g' := (mkF m 4 #[.val (.ref a1), .val (.int p2), .val (.int p3), .val (.int (1 : Int32))] [(.int p3), (.int (1 : Int32))])) (fun t k => XS.iloadN X0.here hx rfl (hb hby d3_3) rfl k) ?_
    by_cases c4 : (1 : Int32) < p3
    · refine own_step (T' := s₁) (g' := (mkF m 7 #[.val (.ref a1), .val (.int p2), .val (.int p3), .val (.int (1 : Int32))] [])) (fun t k => XS.icmpNo X0.here hx rfl (hb hby d3_4) rfl (tlt c4).2.1 k) ?_
      refine own_step (T' := s₁) (g' := (mkF m 8 #[.val (.ref a1), .val (.int p2), .val (.int p3), .val (.int (1 : Int32))] [(.ref a1)])) (fun t k => XS.aloadN X0.here hx rfl (hb hby d3_7) rfl rfl k) ?_
      refine own_step (T' := s₁) (g' := (mkF m 9 #[.val (.ref a1), .val (.int p2), .val (.int p3), .val (.int (1 : Int32))] [(.int (1 : Int32)), (.ref a1)])) (fun t k => XS.iloadN X0.here hx rfl (hb hby d3_8) rfl k) ?_
      obtain ⟨cl16, Ar16, qa16, S16, M16, H16, U16⟩ := id V_a
      have hi16 := inb_of S16 (j := (1 : Int32)) ⟨by decide, by decide⟩
      have hat16 := H16.at hi16 (v := (.int y1)) rfl
      refine own_step (T' := s₁) (g' := (mkF m 10 #[.val (.ref a1), .val (.int p2), .val (.int p3), .val (.int (1 : Int32))] [(.int y1)])) (fun t k => X0.baloadBytes hx (j := (1 : Int32)) (v := (.int y1)) (by rw [e0]; exact Ar16.1) (State.isArrayOf_alike hZ.alike Ar16.2.1) Ar16.2.2 hi16 hat16 (g := (mkF m 9 #[.val (.ref a1), .val (.int p2), .val (.int p3), .val (.int (1 : Int32))] [(.int (1 : Int32)), (.ref a1)])) rfl rfl (hb hby d3_9) t k) ?_
      refine own_step (T' := s₁) (g' := (mkF m 12 #[.val (.ref a1), .val (.int p2), .val (.int p3), .val (.int (1 : Int32))] [(.int (10 : Int32)), (.int y1)])) (fun t k => XS.bipush X0.here hx rfl (hb hby d3_10) k) ?_
      by_cases c12 : y1 = (10 : Int32)
      · refine own_step (T' := s₁) (g' := (mkF m 18 #[.val (.ref a1), .val (.int p2), .val (.int p3), .val (.int (1 : Int32))] [])) (fun t k => XS.icmpYes X0.here hx rfl (pc0 := 12) (pc' := 18) rfl (hb hby d3_12) rfl (teq c12).1 (by decide) (by decide) k) ?_
        refine own_step (T' := s₁) (g' := (mkF m 19 #[.val (.ref a1), .val (.int p2), .val (.int p3), .val (.int (1 : Int32))] [(.int (1 : Int32))])) (fun t k => XS.iloadN X0.here hx rfl (hb hby d3_18) rfl k) ?_
        refine own_step (T' := s₁) (g' := (mkF m 20 #[.val (.ref a1), .val (.int p2), .val (.int p3), .val (.int (1 : Int32))] [(.int (1 : Int32)), (.int (1 : Int32))])) (fun t k => XS.iconst X0.here hx rfl (hb hby d3_19) k) ?_
        refine own_step (T' := s₁) (g' := (mkF m 21 #[.val (.ref a1), .val (.int p2), .val (.int p3), .val (.int (1 : Int32))] [(.int (2 : Int32))])) (fun t k => XS.iadd X0.here hx rfl (hb hby d3_20) rfl k) ?_
        refine own_step (T' := s₁) (g' := (mkF m 22 #[.val (.ref a1), .val (.int p2), .val (.int p3), .val (.int (1 : Int32))] [(.int p3), (.int (2 : Int32))])) (fun t k => XS.iloadN X0.here hx rfl (hb hby d3_21) rfl k) ?_
        by_cases c22 : (2 : Int32) < p3
        · refine own_step (T' := s₁) (g' := (mkF m 25 #[.val (.ref a1), .val (.int p2), .val (.int p3), .val (.int (1 : Int32))] [])) (fun t k => XS.icmpNo X0.here hx rfl (hb hby d3_22) rfl (tlt c22).2.1 k) ?_
          refine own_step (T' := s₁) (g' := (mkF m 26 #[.val (.ref a1), .val (.int p2), .val (.int p3), .val (.int (1 : Int32))] [(.ref a1)])) (fun t k => XS.aloadN X0.here hx rfl (hb hby d3_25) rfl rfl k) ?_
          refine own_step (T' := s₁) (g' := (mkF m 27 #[.val (.ref a1), .val (.int p2), .val (.int p3), .val (.int (1 : Int32))] [(.int (1 : Int32)), (.ref a1)])) (fun t k => XS.iloadN X0.here hx rfl (hb hby d3_26) rfl k) ?_
          refine own_step (T' := s₁) (g' := (mkF m 28 #[.val (.ref a1), .val (.int p2), .val (.int p3), .val (.int (1 : Int32))] [(.int (1 : Int32)), (.int (1 : Int32)), (.ref a1)])) (fun t k => XS.iconst X0.here hx rfl (hb hby d3_27) k) ?_
          refine own_step (T' := s₁) (g' := (mkF m 29 #[.val (.ref a1), .val (.int p2), .val (.int p3), .val (.int (1 : Int32))] [(.int (2 : Int32)), (.ref a1)])) (fun t k => XS.iadd X0.here hx rfl (hb hby d3_28) rfl k) ?_
          obtain ⟨cl17, Ar17, qa17, S17, M17, H17, U17⟩ := id V_a
          have hi17 := inb_of S17 (j := (2 : Int32)) ⟨by decide, by decide⟩
          have hat17 := H17.at hi17 (v := (.int y2)) rfl
          refine own_step (T' := s₁) (g' := (mkF m 30 #[.val (.ref a1), .val (.int p2), .val (.int p3), .val (.int (1 : Int32))] [(.int y2)])) (fun t k => X0.baloadBytes hx (j := (2 : Int32)) (v := (.int y2)) (by rw [e0]; exact Ar17.1) (State.isArrayOf_alike hZ.alike Ar17.2.1) Ar17.2.2 hi17 hat17 (g := (mkF m 29 #[.val (.ref a1), .val (.int p2), .val (.int p3), .val (.int (1 : Int32))] [(.int (2 : Int32)), (.ref a1)])) rfl rfl (hb hby d3_29) t k) ?_
          refine own_step (T' := s₁) (g' := (mkF m 32 #[.val (.ref a1), .val (.int p2), .val (.int p3), .val (.int (1 : Int32))] [(.int (10 : Int32)), (.int y2)])) (fun t k => XS.bipush X0.here hx rfl (hb hby d3_30) k) ?_
          by_cases c32 : y2 = (10 : Int32)
          · refine own_step (T' := s₁) (g' := (mkF m 35 #[.val (.ref a1), .val (.int p2), .val (.int p3), .val (.int (1 : Int32))] [])) (fun t k => XS.icmpNo X0.here hx rfl (hb hby d3_32) rfl (teq c32).2 k) ?_
            refine own_step (T' := s₁) (g' := (mkF m 36 #[.val (.ref a1), .val (.int p2), .val (.int p3), .val (.int (1 : Int32))] [(.int (1 : Int32))])) (fun t k => XS.iloadN X0.here hx rfl (hb hby d3_35) rfl k) ?_
            refine own_step (T' := s₁) (g' := (mkF m 37 #[.val (.ref a1), .val (.int p2), .val (.int p3), .val (.int (1 : Int32))] [(.int (2 : Int32)), (.int (1 : Int32))])) (fun t k => XS.iconst X0.here hx rfl (hb hby d3_36) k) ?_
            refine own_step (T' := s₁) (g' := (mkF m 38 #[.val (.ref a1), .val (.int p2), .val (.int p3), .val (.int (1 : Int32))] [(.int (3 : Int32))])) (fun t k => XS.iadd X0.here hx rfl (hb hby d3_37) rfl k) ?_
            refine own_rI X0 hx hlk Bd.returns (hb hby d3_38) ?_ (by decide) (by decide)
            rw [e0]
            exact ⟨by rw [hr1]; rw [own_E1, if_pos (decide_eq_true c4), if_pos (decide_eq_true c12), if_pos (decide_eq_true c22), if_pos (decide_eq_true c32)], N0, rfl⟩
          · refine own_step (T' := s₁) (g' := (mkF m 39 #[.val (.ref a1), .val (.int p2), .val (.int p3), .val (.int (1 : Int32))] [])) (fun t k => XS.icmpYes X0.here hx rfl (pc0 := 32) (pc' := 39) rfl (hb hby d3_32) rfl (feq c32).2 (by decide) (by decide) k) ?_
            refine own_step (T' := s₁) (g' := (mkF m 40 #[.val (.ref a1), .val (.int p2), .val (.int p3), .val (.int (1 : Int32))] [(.int (1 : Int32))])) (fun t k => XS.iloadN X0.here hx rfl (hb hby d3_39) rfl k) ?_
            refine own_step (T' := s₁) (g' := (mkF m 41 #[.val (.ref a1), .val (.int p2), .val (.int p3), .val (.int (1 : Int32))] [(.int (2 : Int32)), (.int (1 : Int32))])) (fun t k => XS.iconst X0.here hx rfl (hb hby d3_40) k) ?_
            refine own_step (T' := s₁) (g' := (mkF m 42 #[.val (.ref a1), .val (.int p2), .val (.int p3), .val (.int (1 : Int32))] [(.int (3 : Int32))])) (fun t k => XS.iadd X0.here hx rfl (hb hby d3_41) rfl k) ?_
            refine own_step (T' := s₁) (g' := (mkF m 43 #[.val (.ref a1), .val (.int p2), .val (.int p3), .val (.int (1 : Int32))] [(.int p3), (.int (3 : Int32))])) (fun t k => XS.iloadN X0.here hx rfl (hb hby d3_42) rfl k) ?_
            by_cases c43 : (3 : Int32) < p3
            · refine own_step (T' := s₁) (g' := (mkF m 46 #[.val (.ref a1), .val (.int p2), .val (.int p3), .val (.int (1 : Int32))] [])) (fun t k => XS.icmpNo X0.here hx rfl (hb hby d3_43) rfl (tlt c43).2.1 k) ?_
              refine own_step (T' := s₁) (g' := (mkF m 47 #[.val (.ref a1), .val (.int p2), .val (.int p3), .val (.int (1 : Int32))] [(.ref a1)])) (fun t k => XS.aloadN X0.here hx rfl (hb hby d3_46) rfl rfl k) ?_
              refine own_step (T' := s₁) (g' := (mkF m 48 #[.val (.ref a1), .val (.int p2), .val (.int p3), .val (.int (1 : Int32))] [(.int (1 : Int32)), (.ref a1)])) (fun t k => XS.iloadN X0.here hx rfl (hb hby d3_47) rfl k) ?_
              refine own_step (T' := s₁) (g' := (mkF m 49 #[.val (.ref a1), .val (.int p2), .val (.int p3), .val (.int (1 : Int32))] [(.int (1 : Int32)), (.int (1 : Int32)), (.ref a1)])) (fun t k => XS.iconst X0.here hx rfl (hb hby d3_48) k) ?_
              refine own_step (T' := s₁) (g' := (mkF m 50 #[.val (.ref a1), .val (.int p2), .val (.int p3), .val (.int (1 : Int32))] [(.int (2 : Int32)), (.ref a1)])) (fun t k => XS.iadd X0.here hx rfl (hb hby d3_49) rfl k) ?_
              obtain ⟨cl18, Ar18, qa18, S18, M18, H18, U18⟩ := id V_a
              have hi18 := inb_of S18 (j := (2 : Int32)) ⟨by decide, by decide⟩
              have hat18 := H18.at hi18 (v := (.int y2)) rfl
              refine own_step (T' := s₁) (g' := (mkF m 51 #[.val (.ref a1), .val (.int p2), .val (.int p3), .val (.int (1 : Int32))] [(.int y2)])) (fun t k => X0.baloadBytes hx (j := (2 : Int32)) (v := (.int y2)) (by rw [e0]; exact Ar18.1) (State.isArrayOf_alike hZ.alike Ar18.2.1) Ar18.2.2 hi18 hat18 (g := (mkF m 50 #[.val (.ref a1), .val (.int p2), .val (.int p3), .val (.int (1 : Int32))] [(.int (2 : Int32)), (.ref a1)])) rfl rfl (hb hby d3_50) t k) ?_
              refine own_step (T' := s₁) (g' := (mkF m 53 #[.val (.ref a1), .val (.int p2), .val (.int p3), .val (.int (1 : Int32))] [(.int (13 : Int32)), (.int y2)])) (fun t k => XS.bipush X0.here hx rfl (hb hby d3_51) k) ?_
              by_cases c53 : y2 = (13 : Int32)
              · refine own_step (T' := s₁) (g' := (mkF m 56 #[.val (.ref a1), .val (.int p2), .val (.int p3), .val (.int (1 : Int32))] [])) (fun t k => XS.icmpNo X0.here hx rfl (hb hby d3_53) rfl (teq c53).2 k) ?_
                refine own_step (T' := s₁) (g' := (mkF m 57 #[.val (.ref a1), .val (.int p2), .val (.int p3), .val (.int (1 : Int32))] [(.ref a1)])) (fun t k => XS.aloadN X0.here hx rfl (hb hby d3_56) rfl rfl k) ?_
                refine own_step (T' := s₁) (g' := (mkF m 58 #[.val (.ref a1), .val (.int p2), .val (.int p3), .val (.int (1 : Int32))] [(.int (1 : Int32)), (.ref a1)])) (fun t k => XS.iloadN X0.here hx rfl (hb hby d3_57) rfl k) ?_
                refine own_step (T' := s₁) (g' := (mkF m 59 #[.val (.ref a1), .val (.int p2), .val (.int p3), .val (.int (1 : Int32))] [(.int (2 : Int32)), (.int (1 : Int32)), (.ref a1)])) (fun t k => XS.iconst X0.here hx rfl (hb hby d3_58) k) ?_
                refine own_step (T' := s₁) (g' := (mkF m 60 #[.val (.ref a1), .val (.int p2), .val (.int p3), .val (.int (1 : Int32))] [(.int (3 : Int32)), (.ref a1)])) (fun t k => XS.iadd X0.here hx rfl (hb hby d3_59) rfl k) ?_
                obtain ⟨cl19, Ar19, qa19, S19, M19, H19, U19⟩ := id V_a
                have hi19 := inb_of S19 (j := (3 : Int32)) ⟨by decide, by decide⟩
                have hat19 := H19.at hi19 (v := (.int y3)) rfl
                refine own_step (T' := s₁) (g' := (mkF m 61 #[.val (.ref a1), .val (.int p2), .val (.int p3), .val (.int (1 : Int32))] [(.int y3)])) (fun t k => X0.baloadBytes hx (j := (3 : Int32)) (v := (.int y3)) (by rw [e0]; exact Ar19.1) (State.isArrayOf_alike hZ.alike Ar19.2.1) Ar19.2.2 hi19 hat19 (g := (mkF m 60 #[.val (.ref a1), .val (.int p2), .val (.int p3), .val (.int (1 : Int32))] [(.int (3 : Int32)), (.ref a1)])) rfl rfl (hb hby d3_60) t k) ?_
                refine own_step (T' := s₁) (g' := (mkF m 63 #[.val (.ref a1), .val (.int p2), .val (.int p3), .val (.int (1 : Int32))] [(.int (10 : Int32)), (.int y3)])) (fun t k => XS.bipush X0.here hx rfl (hb hby d3_61) k) ?_
                by_cases c63 : y3 = (10 : Int32)
                · refine own_step (T' := s₁) (g' := (mkF m 66 #[.val (.ref a1), .val (.int p2), .val (.int p3), .val (.int (1 : Int32))] [])) (fun t k => XS.icmpNo X0.here hx rfl (hb hby d3_63) rfl (teq c63).2 k) ?_
                  refine own_step (T' := s₁) (g' := (mkF m 67 #[.val (.ref a1), .val (.int p2), .val (.int p3), .val (.int (1 : Int32))] [(.int (1 : Int32))])) (fun t k => XS.iloadN X0.here hx rfl (hb hby d3_66) rfl k) ?_
                  refine own_step (T' := s₁) (g' := (mkF m 68 #[.val (.ref a1), .val (.int p2), .val (.int p3), .val (.int (1 : Int32))] [(.int (3 : Int32)), (.int (1 : Int32))])) (fun t k => XS.iconst X0.here hx rfl (hb hby d3_67) k) ?_
                  refine own_step (T' := s₁) (g' := (mkF m 69 #[.val (.ref a1), .val (.int p2), .val (.int p3), .val (.int (1 : Int32))] [(.int (4 : Int32))])) (fun t k => XS.iadd X0.here hx rfl (hb hby d3_68) rfl k) ?_
                  refine own_rI X0 hx hlk Bd.returns (hb hby d3_69) ?_ (by decide) (by decide)
                  rw [e0]
                  exact ⟨by rw [hr1]; rw [own_E1, if_pos (decide_eq_true c4), if_pos (decide_eq_true c12), if_pos (decide_eq_true c22), if_neg (fun z => c32 (of_decide_eq_true z)), if_pos (decide_eq_true c43), if_pos (decide_eq_true c53), if_pos (decide_eq_true c63)], N0, rfl⟩
                · refine own_step (T' := s₁) (g' := (mkF m 70 #[.val (.ref a1), .val (.int p2), .val (.int p3), .val (.int (1 : Int32))] [])) (fun t k => XS.icmpYes X0.here hx rfl (pc0 := 63) (pc' := 70) rfl (hb hby d3_63) rfl (feq c63).2 (by decide) (by decide) k) ?_
                  refine own_step (T' := s₁) (g' := (mkF m 73 #[.val (.ref a1), .val (.int p2), .val (.int p3), .val (.int (2 : Int32))] [])) (fun t k => XS.iinc X0.here hx rfl (hb hby d3_70) rfl (l' := #[.val (.ref a1), .val (.int p2), .val (.int p3), .val (.int (2 : Int32))]) rfl k) ?_
                  refine own_step (T' := s₁) (g' := (mkF m 2 #[.val (.ref a1), .val (.int p2), .val (.int p3), .val (.int (2 : Int32))] [])) (fun t k => XS.goto X0.here hx rfl (pc0 := 73) (pc' := 2) rfl (hb hby d3_73) (by decide) (by decide) k) ?_
                  exact L2 (hr1.trans (by rw [own_E1, if_pos (decide_eq_true c4), if_pos (decide_eq_true c12), if_pos (decide_eq_true c22), if_neg (fun z => c32 (of_decide_eq_true z)), if_pos (decide_eq_true c43), if_pos (decide_eq_true c53), if_neg (fun z => c63 (of_decide_eq_true z))]))
              · refine own_step (T' := s₁) (g' := (mkF m 70 #[.val (.ref a1), .val (.int p2), .val (.int p3), .val (.int (1 : Int32))] [])) (fun t k => XS.icmpYes X0.here hx rfl (pc0 := 53) (pc' := 70) rfl (hb hby d3_53) rfl (feq c53).2 (by decide) (by decide) k) ?_
                refine own_step (T' := s₁) (g' := (mkF m 73 #[.val (.ref a1), .val (.int p2), .val (.int p3), .val (.int (2 : Int32))] [])) (fun t k => XS.iinc X0.here hx rfl (hb hby d3_70) rfl (l' := #[.val (.ref a1), .val (.int p2), .val (.int p3), .val (.int (2 : Int32))]) rfl k) ?_
                refine own_step (T' := s₁) (g' := (mkF m 2 #[.val (.ref a1), .val (.int p2), .val (.int p3), .val (.int (2 : Int32))] [])) (fun t k => XS.goto X0.here hx rfl (pc0 := 73) (pc' := 2) rfl (hb hby d3_73) (by decide) (by decide) k) ?_
                exact L2 (hr1.trans (by rw [own_E1, if_pos (decide_eq_true c4), if_pos (decide_eq_true c12), if_pos (decide_eq_true c22), if_neg (fun z => c32 (of_decide_eq_true z)), if_pos (decide_eq_true c43), if_neg (fun z => c53 (of_decide_eq_true z))]))
            · refine own_step (T' := s₁) (g' := (mkF m 70 #[.val (.ref a1), .val (.int p2), .val (.int p3), .val (.int (1 : Int32))] [])) (fun t k => XS.icmpYes X0.here hx rfl (pc0 := 43) (pc' := 70) rfl (hb hby d3_43) rfl (flt c43).2.1 (by decide) (by decide) k) ?_
              refine own_step (T' := s₁) (g' := (mkF m 73 #[.val (.ref a1), .val (.int p2), .val (.int p3), .val (.int (2 : Int32))] [])) (fun t k => XS.iinc X0.here hx rfl (hb hby d3_70) rfl (l' := #[.val (.ref a1), .val (.int p2), .val (.int p3), .val (.int (2 : Int32))]) rfl k) ?_
              refine own_step (T' := s₁) (g' := (mkF m 2 #[.val (.ref a1), .val (.int p2), .val (.int p3), .val (.int (2 : Int32))] [])) (fun t k => XS.goto X0.here hx rfl (pc0 := 73) (pc' := 2) rfl (hb hby d3_73) (by decide) (by decide) k) ?_
              exact L2 (hr1.trans (by rw [own_E1, if_pos (decide_eq_true c4), if_pos (decide_eq_true c12), if_pos (decide_eq_true c22), if_neg (fun z => c32 (of_decide_eq_true z)), if_neg (fun z => c43 (of_decide_eq_true z))]))
        · refine own_step (T' := s₁) (g' := (mkF m 39 #[.val (.ref a1), .val (.int p2), .val (.int p3), .val (.int (1 : Int32))] [])) (fun t k => XS.icmpYes X0.here hx rfl (pc0 := 22) (pc' := 39) rfl (hb hby d3_22) rfl (flt c22).2.1 (by decide) (by decide) k) ?_
          refine own_step (T' := s₁) (g' := (mkF m 40 #[.val (.ref a1), .val (.int p2), .val (.int p3), .val (.int (1 : Int32))] [(.int (1 : Int32))])) (fun t k => XS.iloadN X0.here hx rfl (hb hby d3_39) rfl k) ?_
          refine own_step (T' := s₁) (g' := (mkF m 41 #[.val (.ref a1), .val (.int p2), .val (.int p3), .val (.int (1 : Int32))] [(.int (2 : Int32)), (.int (1 : Int32))])) (fun t k => XS.iconst X0.here hx rfl (hb hby d3_40) k) ?_
          refine own_step (T' := s₁) (g' := (mkF m 42 #[.val (.ref a1), .val (.int p2), .val (.int p3), .val (.int (1 : Int32))] [(.int (3 : Int32))])) (fun t k => XS.iadd X0.here hx rfl (hb hby d3_41) rfl k) ?_
          refine own_step (T' := s₁) (g' := (mkF m 43 #[.val (.ref a1), .val (.int p2), .val (.int p3), .val (.int (1 : Int32))] [(.int p3), (.int (3 : Int32))])) (fun t k => XS.iloadN X0.here hx rfl (hb hby d3_42) rfl k) ?_
          by_cases c43 : (3 : Int32) < p3
          · refine own_step (T' := s₁) (g' := (mkF m 46 #[.val (.ref a1), .val (.int p2), .val (.int p3), .val (.int (1 : Int32))] [])) (fun t k => XS.icmpNo X0.here hx rfl (hb hby d3_43) rfl (tlt c43).2.1 k) ?_
            refine own_step (T' := s₁) (g' := (mkF m 47 #[.val (.ref a1), .val (.int p2), .val (.int p3), .val (.int (1 : Int32))] [(.ref a1)])) (fun t k => XS.aloadN X0.here hx rfl (hb hby d3_46) rfl rfl k) ?_
            refine own_step (T' := s₁) (g' := (mkF m 48 #[.val (.ref a1), .val (.int p2), .val (.int p3), .val (.int (1 : Int32))] [(.int (1 : Int32)), (.ref a1)])) (fun t k => XS.iloadN X0.here hx rfl (hb hby d3_47) rfl k) ?_
            refine own_step (T' := s₁) (g' := (mkF m 49 #[.val (.ref a1), .val (.int p2), .val (.int p3), .val (.int (1 : Int32))] [(.int (1 : Int32)), (.int (1 : Int32)), (.ref a1)])) (fun t k => XS.iconst X0.here hx rfl (hb hby d3_48) k) ?_
            refine own_step (T' := s₁) (g' := (mkF m 50 #[.val (.ref a1), .val (.int p2), .val (.int p3), .val (.int (1 : Int32))] [(.int (2 : Int32)), (.ref a1)])) (fun t k => XS.iadd X0.here hx rfl (hb hby d3_49) rfl k) ?_
            obtain ⟨cl20, Ar20, qa20, S20, M20, H20, U20⟩ := id V_a
            have hi20 := inb_of S20 (j := (2 : Int32)) ⟨by decide, by decide⟩
            have hat20 := H20.at hi20 (v := (.int y2)) rfl
            refine own_step (T' := s₁) (g' := (mkF m 51 #[.val (.ref a1), .val (.int p2), .val (.int p3), .val (.int (1 : Int32))] [(.int y2)])) (fun t k => X0.baloadBytes hx (j := (2 : Int32)) (v := (.int y2)) (by rw [e0]; exact Ar20.1) (State.isArrayOf_alike hZ.alike Ar20.2.1) Ar20.2.2 hi20 hat20 (g := (mkF m 50 #[.val (.ref a1), .val (.int p2), .val (.int p3), .val (.int (1 : Int32))] [(.int (2 : Int32)), (.ref a1)])) rfl rfl (hb hby d3_50) t k) ?_
            refine own_step (T' := s₁) (g' := (mkF m 53 #[.val (.ref a1), .val (.int p2), .val (.int p3), .val (.int (1 : Int32))] [(.int (13 : Int32)), (.int y2)])) (fun t k => XS.bipush X0.here hx rfl (hb hby d3_51) k) ?_
            by_cases c53 : y2 = (13 : Int32)
            · refine own_step (T' := s₁) (g' := (mkF m 56 #[.val (.ref a1), .val (.int p2), .val (.int p3), .val (.int (1 : Int32))] [])) (fun t k => XS.icmpNo X0.here hx rfl (hb hby d3_53) rfl (teq c53).2 k) ?_
              refine own_step (T' := s₁) (g' := (mkF m 57 #[.val (.ref a1), .val (.int p2), .val (.int p3), .val (.int (1 : Int32))] [(.ref a1)])) (fun t k => XS.aloadN X0.here hx rfl (hb hby d3_56) rfl rfl k) ?_
              refine own_step (T' := s₁) (g' := (mkF m 58 #[.val (.ref a1), .val (.int p2), .val (.int p3), .val (.int (1 : Int32))] [(.int (1 : Int32)), (.ref a1)])) (fun t k => XS.iloadN X0.here hx rfl (hb hby d3_57) rfl k) ?_
              refine own_step (T' := s₁) (g' := (mkF m 59 #[.val (.ref a1), .val (.int p2), .val (.int p3), .val (.int (1 : Int32))] [(.int (2 : Int32)), (.int (1 : Int32)), (.ref a1)])) (fun t k => XS.iconst X0.here hx rfl (hb hby d3_58) k) ?_
              refine own_step (T' := s₁) (g' := (mkF m 60 #[.val (.ref a1), .val (.int p2), .val (.int p3), .val (.int (1 : Int32))] [(.int (3 : Int32)), (.ref a1)])) (fun t k => XS.iadd X0.here hx rfl (hb hby d3_59) rfl k) ?_
              obtain ⟨cl21, Ar21, qa21, S21, M21, H21, U21⟩ := id V_a
              have hi21 := inb_of S21 (j := (3 : Int32)) ⟨by decide, by decide⟩
              have hat21 := H21.at hi21 (v := (.int y3)) rfl
              refine own_step (T' := s₁) (g' := (mkF m 61 #[.val (.ref a1), .val (.int p2), .val (.int p3), .val (.int (1 : Int32))] [(.int y3)])) (fun t k => X0.baloadBytes hx (j := (3 : Int32)) (v := (.int y3)) (by rw [e0]; exact Ar21.1) (State.isArrayOf_alike hZ.alike Ar21.2.1) Ar21.2.2 hi21 hat21 (g := (mkF m 60 #[.val (.ref a1), .val (.int p2), .val (.int p3), .val (.int (1 : Int32))] [(.int (3 : Int32)), (.ref a1)])) rfl rfl (hb hby d3_60) t k) ?_
              refine own_step (T' := s₁) (g' := (mkF m 63 #[.val (.ref a1), .val (.int p2), .val (.int p3), .val (.int (1 : Int32))] [(.int (10 : Int32)), (.int y3)])) (fun t k => XS.bipush X0.here hx rfl (hb hby d3_61) k) ?_
              by_cases c63 : y3 = (10 : Int32)
              · refine own_step (T' := s₁) (g' := (mkF m 66 #[.val (.ref a1), .val (.int p2), .val (.int p3), .val (.int (1 : Int32))] [])) (fun t k => XS.icmpNo X0.here hx rfl (hb hby d3_63) rfl (teq c63).2 k) ?_
                refine own_step (T' := s₁) (g' := (mkF m 67 #[.val (.ref a1), .val (.int p2), .val (.int p3), .val (.int (1 : Int32))] [(.int (1 : Int32))])) (fun t k => XS.iloadN X0.here hx rfl (hb hby d3_66) rfl k) ?_
                refine own_step (T' := s₁) (g' := (mkF m 68 #[.val (.ref a1), .val (.int p2), .val (.int p3), .val (.int (1 : Int32))] [(.int (3 : Int32)), (.int (1 : Int32))])) (fun t k => XS.iconst X0.here hx rfl (hb hby d3_67) k) ?_
                refine own_step (T' := s₁) (g' := (mkF m 69 #[.val (.ref a1), .val (.int p2), .val (.int p3), .val (.int (1 : Int32))] [(.int (4 : Int32))])) (fun t k => XS.iadd X0.here hx rfl (hb hby d3_68) rfl k) ?_
                refine own_rI X0 hx hlk Bd.returns (hb hby d3_69) ?_ (by decide) (by decide)
                rw [e0]
                exact ⟨by rw [hr1]; rw [own_E1, if_pos (decide_eq_true c4), if_pos (decide_eq_true c12), if_neg (fun z => c22 (of_decide_eq_true z)), if_pos (decide_eq_true c43), if_pos (decide_eq_true c53), if_pos (decide_eq_true c63)], N0, rfl⟩
              · refine own_step (T' := s₁) (g' := (mkF m 70 #[.val (.ref a1), .val (.int p2), .val (.int p3), .val (.int (1 : Int32))] [])) (fun t k => XS.icmpYes X0.here hx rfl (pc0 := 63) (pc' := 70) rfl (hb hby d3_63) rfl (feq c63).2 (by decide) (by decide) k) ?_
                refine own_step (T' := s₁) (g' := (mkF m 73 #[.val (.ref a1), .val (.int p2), .val (.int p3), .val (.int (2 : Int32))] [])) (fun t k => XS.iinc X0.here hx rfl (hb hby d3_70) rfl (l' := #[.val (.ref a1), .val (.int p2), .val (.int p3), .val (.int (2 : Int32))]) rfl k) ?_
                refine own_step (T' := s₁) (g' := (mkF m 2 #[.val (.ref a1), .val (.int p2), .val (.int p3), .val (.int (2 : Int32))] [])) (fun t k => XS.goto X0.here hx rfl (pc0 := 73) (pc' := 2) rfl (hb hby d3_73) (by decide) (by decide) k) ?_
                exact L2 (hr1.trans (by rw [own_E1, if_pos (decide_eq_true c4), if_pos (decide_eq_true c12), if_neg (fun z => c22 (of_decide_eq_true z)), if_pos (decide_eq_true c43), if_pos (decide_eq_true c53), if_neg (fun z => c63 (of_decide_eq_true z))]))
            · refine own_step (T' := s₁) (g' := (mkF m 70 #[.val (.ref a1), .val (.int p2), .val (.int p3), .val (.int (1 : Int32))] [])) (fun t k => XS.icmpYes X0.here hx rfl (pc0 := 53) (pc' := 70) rfl (hb hby d3_53) rfl (feq c53).2 (by decide) (by decide) k) ?_
              refine own_step (T' := s₁) (g' := (mkF m 73 #[.val (.ref a1), .val (.int p2), .val (.int p3), .val (.int (2 : Int32))] [])) (fun t k => XS.iinc X0.here hx rfl (hb hby d3_70) rfl (l' := #[.val (.ref a1), .val (.int p2), .val (.int p3), .val (.int (2 : Int32))]) rfl k) ?_
              refine own_step (T' := s₁) (g' := (mkF m 2 #[.val (.ref a1), .val (.int p2), .val (.int p3), .val (.int (2 : Int32))] [])) (fun t k => XS.goto X0.here hx rfl (pc0 := 73) (pc' := 2) rfl (hb hby d3_73) (by decide) (by decide) k) ?_
              exact L2 (hr1.trans (by rw [own_E1, if_pos (decide_eq_true c4), if_pos (decide_eq_true c12), if_neg (fun z => c22 (of_decide_eq_true z)), if_pos (decide_eq_true c43), if_neg (fun z => c53 (of_decide_eq_true z))]))
          · refine own_step (T' := s₁) (g' := (mkF m 70 #[.val (.ref a1), .val (.int p2), .val (.int p3), .val (.int (1 : Int32))] [])) (fun t k => XS.icmpYes X0.here hx rfl (pc0 := 43) (pc' := 70) rfl (hb hby d3_43) rfl (flt c43).2.1 (by decide) (by decide) k) ?_
            refine own_step (T' := s₁) (g' := (mkF m 73 #[.val (.ref a1), .val (.int p2), .val (.int p3), .val (.int (2 : Int32))] [])) (fun t k => XS.iinc X0.here hx rfl (hb hby d3_70) rfl (l' := #[.val (.ref a1), .val (.int p2), .val (.int p3), .val (.int (2 : Int32))]) rfl k) ?_
            refine own_step (T' := s₁) (g' := (mkF m 2 #[.val (.ref a1), .val (.int p2), .val (.int p3), .val (.int (2 : Int32))] [])) (fun t k => XS.goto X0.here hx rfl (pc0 := 73) (pc' := 2) rfl (hb hby d3_73) (by decide) (by decide) k) ?_
            exact L2 (hr1.trans (by rw [own_E1, if_pos (decide_eq_true c4), if_pos (decide_eq_true c12), if_neg (fun z => c22 (of_decide_eq_true z)), if_neg (fun z => c43 (of_decide_eq_true z))]))
      · refine own_step (T' := s₁) (g' := (mkF m 15 #[.val (.ref a1), .val (.int p2), .val (.int p3), .val (.int (1 : Int32))] [])) (fun t k => XS.icmpNo X0.here hx rfl (hb hby d3_12) rfl (feq c12).1 k) ?_
        refine own_step (T' := s₁) (g' := (mkF m 70 #[.val (.ref a1), .val (.int p2), .val (.int p3), .val (.int (1 : Int32))] [])) (fun t k => XS.goto X0.here hx rfl (pc0 := 15) (pc' := 70) rfl (hb hby d3_15) (by decide) (by decide) k) ?_
        refine own_step (T' := s₁) (g' := (mkF m 73 #[.val (.ref a1), .val (.int p2), .val (.int p3), .val (.int (2 : Int32))] [])) (fun t k => XS.iinc X0.here hx rfl (hb hby d3_70) rfl (l' := #[.val (.ref a1), .val (.int p2), .val (.int p3), .val (.int (2 : Int32))]) rfl k) ?_
        refine own_step (T' := s₁) (g' := (mkF m 2 #[.val (.ref a1), .val (.int p2), .val (.int p3), .val (.int (2 : Int32))] [])) (fun t k => XS.goto X0.here hx rfl (pc0 := 73) (pc' := 2) rfl (hb hby d3_73) (by decide) (by decide) k) ?_
        exact L2 (hr1.trans (by rw [own_E1, if_pos (decide_eq_true c4), if_neg (fun z => c12 (of_decide_eq_true z))]))
    · refine own_step (T' := s₁) (g' := (mkF m 76 #[.val (.ref a1), .val (.int p2), .val (.int p3), .val (.int (1 : Int32))] [])) (fun t k => XS.icmpYes X0.here hx rfl (pc0 := 4) (pc' := 76) rfl (hb hby d3_4) rfl (flt c4).2.1 (by decide) (by decide) k) ?_
      refine own_step (T' := s₁) (g' := (mkF m 77 #[.val (.ref a1), .val (.int p2), .val (.int p3), .val (.int (1 : Int32))] [(.int ((-1) : Int32))])) (fun t k => XS.iconst X0.here hx rfl (hb hby d3_76) k) ?_
      refine own_rI X0 hx hlk Bd.returns (hb hby d3_77) ?_ (by decide) (by decide)
      rw [e0]
      exact ⟨by rw [hr1]; rw [own_E1, if_neg (fun z => c4 (of_decide_eq_true z))], N0, rfl⟩
  have L0 : own_end p2 p3 y0 y1 y2 y3 y4 y5 = (own_E0 (decide ((0 : Int32) < p3)) (decide ((1 : Int32) < p3)) (decide ((2 : Int32) < p3)) (decide ((3 : Int32) < p3)) (decide ((4 : Int32) < p3)) (decide ((5 : Int32) < p3)) (decide (y0 = (10 : Int32))) (decide (y1 = (10 : Int32))) (decide (y2 = (10 : Int32))) (decide (y3 = (10 : Int32))) (decide (y4 = (10 : Int32))) (decide (y5 = (10 : Int32))) (decide (y1 = (13 : Int32))) (decide (y2 = (13 : Int32))) (decide (y3 = (13 : Int32))) (decide (y4 = (13 : Int32)))) → own_Go p e below s (Q_end p2 p3 y0 y1 y2 y3 y4 y5 h0 n0) ({ frames := 0, cells := 0, slots := 0, locals := 0 } : Room).cells ({ frames := 0, cells := 0, slots := 0, locals := 0 } : Room).slots s₁ (mkF m 2 #[.val (.ref a1), .val (.int p2), .val (.int p3), .val (.int (0 : Int32))] []) := by
    intro hr0
    refine own_step (T' := s₁) (g' := (mkF m 3 #[.val (.ref a1), .val (.int p2), .val (.int p3), .val (.int (0 : Int32))] [(.int (0 : Int32))])) (fun t k => XS.iloadN X0.here hx rfl (hb hby d3_2) rfl k) ?_
    refine own_step (T' := s₁) (g' := (mkF m 4 #[.val (.ref a1), .val (.int p2), .val (.int p3), .val (.int (0 : Int32))] [(.int p3), (.int (0 : Int32))])) (fun t k => XS.iloadN X0.here hx rfl (hb hby d3_3) rfl k) ?_
    by_cases c4 : (0 : Int32) < p3
    · refine own_step (T' := s₁) (g' := (mkF m 7 #[.val (.ref a1), .val (.int p2), .val (.int p3), .val (.int (0 : Int32))] [])) (fun t k => XS.icmpNo X0.here hx rfl (hb hby d3_4) rfl (tlt c4).2.1 k) ?_
      refine own_step (T' := s₁) (g' := (mkF m 8 #[.val (.ref a1), .val (.int p2), .val (.int p3), .val (.int (0 : Int32))] [(.ref a1)])) (fun t k => XS.aloadN X0.here hx rfl (hb hby d3_7) rfl rfl k) ?_
      refine own_step (T' := s₁) (g' := (mkF m 9 #[.val (.ref a1), .val (.int p2), .val (.int p3), .val (.int (0 : Int32))] [(.int (0 : Int32)), (.ref a1)])) (fun t k => XS.iloadN X0.here hx rfl (hb hby d3_8) rfl k) ?_
      obtain ⟨cl22, Ar22, qa22, S22, M22, H22, U22⟩ := id V_a
      have hi22 := inb_of S22 (j := (0 : Int32)) ⟨by decide, by decide⟩
      have hat22 := H22.at hi22 (v := (.int y0)) rfl
      refine own_step (T' := s₁) (g' := (mkF m 10 #[.val (.ref a1), .val (.int p2), .val (.int p3), .val (.int (0 : Int32))] [(.int y0)])) (fun t k => X0.baloadBytes hx (j := (0 : Int32)) (v := (.int y0)) (by rw [e0]; exact Ar22.1) (State.isArrayOf_alike hZ.alike Ar22.2.1) Ar22.2.2 hi22 hat22 (g := (mkF m 9 #[.val (.ref a1), .val (.int p2), .val (.int p3), .val (.int (0 : Int32))] [(.int (0 : Int32)), (.ref a1)])) rfl rfl (hb hby d3_9) t k) ?_
      refine own_step (T' := s₁) (g' := (mkF m 12 #[.val (.ref a1), .val (.int p2), .val (.int p3), .val (.int (0 : Int32))] [(.int (10 : Int32)), (.int y0)])) (fun t k => XS.bipush X0.here hx rfl (hb hby d3_10) k) ?_
      by_cases c12 : y0 = (10 : Int32)
      · refine own_step (T' := s₁) (g' := (mkF m 18 #[.val (.ref a1), .val (.int p2), .val (.int p3), .val (.int (0 : Int32))] [])) (fun t k => XS.icmpYes X0.here hx rfl (pc0 := 12) (pc' := 18) rfl (hb hby d3_12) rfl (teq c12).1 (by decide) (by decide) k) ?_
        refine own_step (T' := s₁) (g' := (mkF m 19 #[.val (.ref a1), .val (.int p2), .val (.int p3), .val (.int (0 : Int32))] [(.int (0 : Int32))])) (fun t k => XS.iloadN X0.here hx rfl (hb hby d3_18) rfl k) ?_
        refine own_step (T' := s₁) (g' := (mkF m 20 #[.val (.ref a1), .val (.int p2), .val (.int p3), .val (.int (0 : Int32))] [(.int (1 : Int32)), (.int (0 : Int32))])) (fun t k => XS.iconst X0.here hx rfl (hb hby d3_19) k) ?_
        refine own_step (T' := s₁) (g' := (mkF m 21 #[.val (.ref a1), .val (.int p2), .val (.int p3), .val (.int (0 : Int32))] [(.int (1 : Int32))])) (fun t k => XS.iadd X0.here hx rfl (hb hby d3_20) rfl k) ?_
        refine own_step (T' := s₁) (g' := (mkF m 22 #[.val (.ref a1), .val (.int p2), .val (.int p3), .val (.int (0 : Int32))] [(.int p3), (.int (1 : Int32))])) (fun t k => XS.iloadN X0.here hx rfl (hb hby d3_21) rfl k) ?_
        by_cases c22 : (1 : Int32) < p3
        · refine own_step (T' := s₁) (g' := (mkF m 25 #[.val (.ref a1), .val (.int p2), .val (.int p3), .val (.int (0 : Int32))] [])) (fun t k => XS.icmpNo X0.here hx rfl (hb hby d3_22) rfl (tlt c22).2.1 k) ?_
          refine own_step (T' := s₁) (g' := (mkF m 26 #[.val (.ref a1), .val (.int p2), .val (.int p3), .val (.int (0 : Int32))] [(.ref a1)])) (fun t k => XS.aloadN X0.here hx rfl (hb hby d3_25) rfl rfl k) ?_
          refine own_step (T' := s₁) (g' := (mkF m 27 #[.val (.ref a1), .val (.int p2), .val (.int p3), .val (.int (0 : Int32))] [(.int (0 : Int32)), (.ref a1)])) (fun t k => XS.iloadN X0.here hx rfl (hb hby d3_26) rfl k) ?_
          refine own_step (T' := s₁) (g' := (mkF m 28 #[.val (.ref a1), .val (.int p2), .val (.int p3), .val (.int (0 : Int32))] [(.int (1 : Int32)), (.int (0 : Int32)), (.ref a1)])) (fun t k => XS.iconst X0.here hx rfl (hb hby d3_27) k) ?_
          refine own_step (T' := s₁) (g' := (mkF m 29 #[.val (.ref a1), .val (.int p2), .val (.int p3), .val (.int (0 : Int32))] [(.int (1 : Int32)), (.ref a1)])) (fun t k => XS.iadd X0.here hx rfl (hb hby d3_28) rfl k) ?_
          obtain ⟨cl23, Ar23, qa23, S23, M23, H23, U23⟩ := id V_a
          have hi23 := inb_of S23 (j := (1 : Int32)) ⟨by decide, by decide⟩
          have hat23 := H23.at hi23 (v := (.int y1)) rfl
          refine own_step (T' := s₁) (g' := (mkF m 30 #[.val (.ref a1), .val (.int p2), .val (.int p3), .val (.int (0 : Int32))] [(.int y1)])) (fun t k => X0.baloadBytes hx (j := (1 : Int32)) (v := (.int y1)) (by rw [e0]; exact Ar23.1) (State.isArrayOf_alike hZ.alike Ar23.2.1) Ar23.2.2 hi23 hat23 (g := (mkF m 29 #[.val (.ref a1), .val (.int p2), .val (.int p3), .val (.int (0 : Int32))] [(.int (1 : Int32)), (.ref a1)])) rfl rfl (hb hby d3_29) t k) ?_
          refine own_step (T' := s₁) (g' := (mkF m 32 #[.val (.ref a1), .val (.int p2), .val (.int p3), .val (.int (0 : Int32))] [(.int (10 : Int32)), (.int y1)])) (fun t k => XS.bipush X0.here hx rfl (hb hby d3_30) k) ?_
          by_cases c32 : y1 = (10 : Int32)
          · refine own_step (T' := s₁) (g' := (mkF m 35 #[.val (.ref a1), .val (.int p2), .val (.int p3), .val (.int (0 : Int32))] [])) (fun t k => XS.icmpNo X0.here hx rfl (hb hby d3_32) rfl (teq c32).2 k) ?_
            refine own_step (T' := s₁) (g' := (mkF m 36 #[.val (.ref a1), .val (.int p2), .val (.int p3), .val (.int (0 : Int32))] [(.int (0 : Int32))])) (fun t k => XS.iloadN X0.here hx rfl (hb hby d3_35) rfl k) ?_
            refine own_step (T' := s₁) (g' := (mkF m 37 #[.val (.ref a1), .val (.int p2), .val (.int p3), .val (.int (0 : Int32))] [(.int (2 : Int32)), (.int (0 : Int32))])) (fun t k => XS.iconst X0.here hx rfl (hb hby d3_36) k) ?_
            refine own_step (T' := s₁) (g' := (mkF m 38 #[.val (.ref a1), .val (.int p2), .val (.int p3), .val (.int (0 : Int32))] [(.int (2 : Int32))])) (fun t k => XS.iadd X0.here hx rfl (hb hby d3_37) rfl k) ?_
            refine own_rI X0 hx hlk Bd.returns (hb hby d3_38) ?_ (by decide) (by decide)
            rw [e0]
            exact ⟨by rw [hr0]; rw [own_E0, if_pos (decide_eq_true c4), if_pos (decide_eq_true c12), if_pos (decide_eq_true c22), if_pos (decide_eq_true c32)], N0, rfl⟩
          · refine own_step (T' := s₁) (g' := (mkF m 39 #[.val (.ref a1), .val (.int p2), .val (.int p3), .val (.int (0 : Int32))] [])) (fun t k => XS.icmpYes X0.here hx rfl (pc0 := 32) (pc' := 39) rfl (hb hby d3_32) rfl (feq c32).2 (by decide) (by decide) k) ?_
            refine own_step (T' := s₁) (g' := (mkF m 40 #[.val (.ref a1), .val (.int p2), .val (.int p3), .val (.int (0 : Int32))] [(.int (0 : Int32))])) (fun t k => XS.iloadN X0.here hx rfl (hb hby d3_39) rfl k) ?_
            refine own_step (T' := s₁) (g' := (mkF m 41 #[.val (.ref a1), .val (.int p2), .val (.int p3), .val (.int (0 : Int32))] [(.int (2 : Int32)), (.int (0 : Int32))])) (fun t k => XS.iconst X0.here hx rfl (hb hby d3_40) k) ?_
            refine own_step (T' := s₁) (g' := (mkF m 42 #[.val (.ref a1), .val (.int p2), .val (.int p3), .val (.int (0 : Int32))] [(.int (2 : Int32))])) (fun t k => XS.iadd X0.here hx rfl (hb hby d3_41) rfl k) ?_
            refine own_step (T' := s₁) (g' := (mkF m 43 #[.val (.ref a1), .val (.int p2), .val (.int p3), .val (.int (0 : Int32))] [(.int p3), (.int (2 : Int32))])) (fun t k => XS.iloadN X0.here hx rfl (hb hby d3_42) rfl k) ?_
            by_cases c43 : (2 : Int32) < p3
            · refine own_step (T' := s₁) (g' := (mkF m 46 #[.val (.ref a1), .val (.int p2), .val (.int p3), .val (.int (0 : Int32))] [])) (fun t k => XS.icmpNo X0.here hx rfl (hb hby d3_43) rfl (tlt c43).2.1 k) ?_
              refine own_step (T' := s₁) (g' := (mkF m 47 #[.val (.ref a1), .val (.int p2), .val (.int p3), .val (.int (0 : Int32))] [(.ref a1)])) (fun t k => XS.aloadN X0.here hx rfl (hb hby d3_46) rfl rfl k) ?_
              refine own_step (T' := s₁) (g' := (mkF m 48 #[.val (.ref a1), .val (.int p2), .val (.int p3), .val (.int (0 : Int32))] [(.int (0 : Int32)), (.ref a1)])) (fun t k => XS.iloadN X0.here hx rfl (hb hby d3_47) rfl k) ?_
              refine own_step (T' := s₁) (g' := (mkF m 49 #[.val (.ref a1), .val (.int p2), .val (.int p3), .val (.int (0 : Int32))] [(.int (1 : Int32)), (.int (0 : Int32)), (.ref a1)])) (fun t k => XS.iconst X0.here hx rfl (hb hby d3_48) k) ?_
              refine own_step (T' := s₁) (g' := (mkF m 50 #[.val (.ref a1), .val (.int p2), .val (.int p3), .val (.int (0 : Int32))] [(.int (1 : Int32)), (.ref a1)])) (fun t k => XS.iadd X0.here hx rfl (hb hby d3_49) rfl k) ?_
              obtain ⟨cl24, Ar24, qa24, S24, M24, H24, U24⟩ := id V_a
              have hi24 := inb_of S24 (j := (1 : Int32)) ⟨by decide, by decide⟩
              have hat24 := H24.at hi24 (v := (.int y1)) rfl
              refine own_step (T' := s₁) (g' := (mkF m 51 #[.val (.ref a1), .val (.int p2), .val (.int p3), .val (.int (0 : Int32))] [(.int y1)])) (fun t k => X0.baloadBytes hx (j := (1 : Int32)) (v := (.int y1)) (by rw [e0]; exact Ar24.1) (State.isArrayOf_alike hZ.alike Ar24.2.1) Ar24.2.2 hi24 hat24 (g := (mkF m 50 #[.val (.ref a1), .val (.int p2), .val (.int p3), .val (.int (0 : Int32))] [(.int (1 : Int32)), (.ref a1)])) rfl rfl (hb hby d3_50) t k) ?_
              refine own_step (T' := s₁) (g' := (mkF m 53 #[.val (.ref a1), .val (.int p2), .val (.int p3), .val (.int (0 : Int32))] [(.int (13 : Int32)), (.int y1)])) (fun t k => XS.bipush X0.here hx rfl (hb hby d3_51) k) ?_
              by_cases c53 : y1 = (13 : Int32)
              · refine own_step (T' := s₁) (g' := (mkF m 56 #[.val (.ref a1), .val (.int p2), .val (.int p3), .val (.int (0 : Int32))] [])) (fun t k => XS.icmpNo X0.here hx rfl (hb hby d3_53) rfl (teq c53).2 k) ?_
                refine own_step (T' := s₁) (g' := (mkF m 57 #[.val (.ref a1), .val (.int p2), .val (.int p3), .val (.int (0 : Int32))] [(.ref a1)])) (fun t k => XS.aloadN X0.here hx rfl (hb hby d3_56) rfl rfl k) ?_
                refine own_step (T' := s₁) (g' := (mkF m 58 #[.val (.ref a1), .val (.int p2), .val (.int p3), .val (.int (0 : Int32))] [(.int (0 : Int32)), (.ref a1)])) (fun t k => XS.iloadN X0.here hx rfl (hb hby d3_57) rfl k) ?_
                refine own_step (T' := s₁) (g' := (mkF m 59 #[.val (.ref a1), .val (.int p2), .val (.int p3), .val (.int (0 : Int32))] [(.int (2 : Int32)), (.int (0 : Int32)), (.ref a1)])) (fun t k => XS.iconst X0.here hx rfl (hb hby d3_58) k) ?_
                refine own_step (T' := s₁) (g' := (mkF m 60 #[.val (.ref a1), .val (.int p2), .val (.int p3), .val (.int (0 : Int32))] [(.int (2 : Int32)), (.ref a1)])) (fun t k => XS.iadd X0.here hx rfl (hb hby d3_59) rfl k) ?_
                obtain ⟨cl25, Ar25, qa25, S25, M25, H25, U25⟩ := id V_a
                have hi25 := inb_of S25 (j := (2 : Int32)) ⟨by decide, by decide⟩
                have hat25 := H25.at hi25 (v := (.int y2)) rfl
                refine own_step (T' := s₁) (g' := (mkF m 61 #[.val (.ref a1), .val (.int p2), .val (.int p3), .val (.int (0 : Int32))] [(.int y2)])) (fun t k => X0.baloadBytes hx (j := (2 : Int32)) (v := (.int y2)) (by rw [e0]; exact Ar25.1) (State.isArrayOf_alike hZ.alike Ar25.2.1) Ar25.2.2 hi25 hat25 (g := (mkF m 60 #[.val (.ref a1), .val (.int p2), .val (.int p3), .val (.int (0 : Int32))] [(.int (2 : Int32)), (.ref a1)])) rfl rfl (hb hby d3_60) t k) ?_
                refine own_step (T' := s₁) (g' := (mkF m 63 #[.val (.ref a1), .val (.int p2), .val (.int p3), .val (.int (0 : Int32))] [(.int (10 : Int32)), (.int y2)])) (fun t k => XS.bipush X0.here hx rfl (hb hby d3_61) k) ?_
                by_cases c63 : y2 = (10 : Int32)
                · refine own_step (T' := s₁) (g' := (mkF m 66 #[.val (.ref a1), .val (.int p2), .val (.int p3), .val (.int (0 : Int32))] [])) (fun t k => XS.icmpNo X0.here hx rfl (hb hby d3_63) rfl (teq c63).2 k) ?_
                  refine own_step (T' := s₁) (g' := (mkF m 67 #[.val (.ref a1), .val (.int p2), .val (.int p3), .val (.int (0 : Int32))] [(.int (0 : Int32))])) (fun t k => XS.iloadN X0.here hx rfl (hb hby d3_66) rfl k) ?_
                  refine own_step (T' := s₁) (g' := (mkF m 68 #[.val (.ref a1), .val (.int p2), .val (.int p3), .val (.int (0 : Int32))] [(.int (3 : Int32)), (.int (0 : Int32))])) (fun t k => XS.iconst X0.here hx rfl (hb hby d3_67) k) ?_
                  refine own_step (T' := s₁) (g' := (mkF m 69 #[.val (.ref a1), .val (.int p2), .val (.int p3), .val (.int (0 : Int32))] [(.int (3 : Int32))])) (fun t k => XS.iadd X0.here hx rfl (hb hby d3_68) rfl k) ?_
                  refine own_rI X0 hx hlk Bd.returns (hb hby d3_69) ?_ (by decide) (by decide)
                  rw [e0]
                  exact ⟨by rw [hr0]; rw [own_E0, if_pos (decide_eq_true c4), if_pos (decide_eq_true c12), if_pos (decide_eq_true c22), if_neg (fun z => c32 (of_decide_eq_true z)), if_pos (decide_eq_true c43), if_pos (decide_eq_true c53), if_pos (decide_eq_true c63)], N0, rfl⟩
                · refine own_step (T' := s₁) (g' := (mkF m 70 #[.val (.ref a1), .val (.int p2), .val (.int p3), .val (.int (0 : Int32))] [])) (fun t k => XS.icmpYes X0.here hx rfl (pc0 := 63) (pc' := 70) rfl (hb hby d3_63) rfl (feq c63).2 (by decide) (by decide) k) ?_
                  refine own_step (T' := s₁) (g' := (mkF m 73 #[.val (.ref a1), .val (.int p2), .val (.int p3), .val (.int (1 : Int32))] [])) (fun t k => XS.iinc X0.here hx rfl (hb hby d3_70) rfl (l' := #[.val (.ref a1), .val (.int p2), .val (.int p3), .val (.int (1 : Int32))]) rfl k) ?_
                  refine own_step (T' := s₁) (g' := (mkF m 2 #[.val (.ref a1), .val (.int p2), .val (.int p3), .val (.int (1 : Int32))] [])) (fun t k => XS.goto X0.here hx rfl (pc0 := 73) (pc' := 2) rfl (hb hby d3_73) (by decide) (by decide) k) ?_
                  exact L1 (hr0.trans (by rw [own_E0, if_pos (decide_eq_true c4), if_pos (decide_eq_true c12), if_pos (decide_eq_true c22), if_neg (fun z => c32 (of_decide_eq_true z)), if_pos (decide_eq_true c43), if_pos (decide_eq_true c53), if_neg (fun z => c63 (of_decide_eq_true z))]))
              · refine own_step (T' := s₁) (g' := (mkF m 70 #[.val (.ref a1), .val (.int p2), .val (.int p3), .val (.int (0 : Int32))] [])) (fun t k => XS.icmpYes X0.here hx rfl (pc0 := 53) (pc' := 70) rfl (hb hby d3_53) rfl (feq c53).2 (by decide) (by decide) k) ?_
                refine own_step (T' := s₁) (g' := (mkF m 73 #[.val (.ref a1), .val (.int p2), .val (.int p3), .val (.int (1 : Int32))] [])) (fun t k => XS.iinc X0.here hx rfl (hb hby d3_70) rfl (l' := #[.val (.ref a1), .val (.int p2), .val (.int p3), .val (.int (1 : Int32))]) rfl k) ?_
                refine own_step (T' := s₁) (g' := (mkF m 2 #[.val (.ref a1), .val (.int p2), .val (.int p3), .val (.int (1 : Int32))] [])) (fun t k => XS.goto X0.here hx rfl (pc0 := 73) (pc' := 2) rfl (hb hby d3_73) (by decide) (by decide) k) ?_
                exact L1 (hr0.trans (by rw [own_E0, if_pos (decide_eq_true c4), if_pos (decide_eq_true c12), if_pos (decide_eq_true c22), if_neg (fun z => c32 (of_decide_eq_true z)), if_pos (decide_eq_true c43), if_neg (fun z => c53 (of_decide_eq_true z))]))
            · refine own_step (T' := s₁) (g' := (mkF m 70 #[.val (.ref a1), .val (.int p2), .val (.int p3), .val (.int (0 : Int32))] [])) (fun t k => XS.icmpYes X0.here hx rfl (pc0 := 43) (pc' := 70) rfl (hb hby d3_43) rfl (flt c43).2.1 (by decide) (by decide) k) ?_
              refine own_step (T' := s₁) (g' := (mkF m 73 #[.val (.ref a1), .val (.int p2), .val (.int p3), .val (.int (1 : Int32))] [])) (fun t k => XS.iinc X0.here hx rfl (hb hby d3_70) rfl (l' := #[.val (.ref a1), .val (.int p2), .val (.int p3), .val (.int (1 : Int32))]) rfl k) ?_
              refine own_step (T' := s₁) (g' := (mkF m 2 #[.val (.ref a1), .val (.int p2), .val (.int p3), .val (.int (1 : Int32))] [])) (fun t k => XS.goto X0.here hx rfl (pc0 := 73) (pc' := 2) rfl (hb hby d3_73) (by decide) (by decide) k) ?_
              exact L1 (hr0.trans (by rw [own_E0, if_pos (decide_eq_true c4), if_pos (decide_eq_true c12), if_pos (decide_eq_true c22), if_neg (fun z => c32 (of_decide_eq_true z)), if_neg (fun z => c43 (of_decide_eq_true z))]))
        · refine own_step (T' := s₁) (g' := (mkF m 39 #[.val (.ref a1), .val (.int p2), .val (.int p3), .val (.int (0 : Int32))] [])) (fun t k => XS.icmpYes X0.here hx rfl (pc0 := 22) (pc' := 39) rfl (hb hby d3_22) rfl (flt c22).2.1 (by decide) (by decide) k) ?_
          refine own_step (T' := s₁) (g' := (mkF m 40 #[.val (.ref a1), .val (.int p2), .val (.int p3), .val (.int (0 : Int32))] [(.int (0 : Int32))])) (fun t k => XS.iloadN X0.here hx rfl (hb hby d3_39) rfl k) ?_
          refine own_step (T' := s₁) (g' := (mkF m 41 #[.val (.ref a1), .val (.int p2), .val (.int p3), .val (.int (0 : Int32))] [(.int (2 : Int32)), (.int (0 : Int32))])) (fun t k => XS.iconst X0.here hx rfl (hb hby d3_40) k) ?_
          refine own_step (T' := s₁) (g' := (mkF m 42 #[.val (.ref a1), .val (.int p2), .val (.int p3), .val (.int (0 : Int32))] [(.int (2 : Int32))])) (fun t k => XS.iadd X0.here hx rfl (hb hby d3_41) rfl k) ?_
          refine own_step (T' := s₁) (g' := (mkF m 43 #[.val (.ref a1), .val (.int p2), .val (.int p3), .val (.int (0 : Int32))] [(.int p3), (.int (2 : Int32))])) (fun t k => XS.iloadN X0.here hx rfl (hb hby d3_42) rfl k) ?_
          by_cases c43 : (2 : Int32) < p3
          · refine own_step (T' := s₁) (g' := (mkF m 46 #[.val (.ref a1), .val (.int p2), .val (.int p3), .val (.int (0 : Int32))] [])) (fun t k => XS.icmpNo X0.here hx rfl (hb hby d3_43) rfl (tlt c43).2.1 k) ?_
            refine own_step (T' := s₁) (g' := (mkF m 47 #[.val (.ref a1), .val (.int p2), .val (.int p3), .val (.int (0 : Int32))] [(.ref a1)])) (fun t k => XS.aloadN X0.here hx rfl (hb hby d3_46) rfl rfl k) ?_
            refine own_step (T' := s₁) (g' := (mkF m 48 #[.val (.ref a1), .val (.int p2), .val (.int p3), .val (.int (0 : Int32))] [(.int (0 : Int32)), (.ref a1)])) (fun t k => XS.iloadN X0.here hx rfl (hb hby d3_47) rfl k) ?_
            refine own_step (T' := s₁) (g' := (mkF m 49 #[.val (.ref a1), .val (.int p2), .val (.int p3), .val (.int (0 : Int32))] [(.int (1 : Int32)), (.int (0 : Int32)), (.ref a1)])) (fun t k => XS.iconst X0.here hx rfl (hb hby d3_48) k) ?_
            refine own_step (T' := s₁) (g' := (mkF m 50 #[.val (.ref a1), .val (.int p2), .val (.int p3), .val (.int (0 : Int32))] [(.int (1 : Int32)), (.ref a1)])) (fun t k => XS.iadd X0.here hx rfl (hb hby d3_49) rfl k) ?_
            obtain ⟨cl26, Ar26, qa26, S26, M26, H26, U26⟩ := id V_a
            have hi26 := inb_of S26 (j := (1 : Int32)) ⟨by decide, by decide⟩
            have hat26 := H26.at hi26 (v := (.int y1)) rfl
            refine own_step (T' := s₁) (g' := (mkF m 51 #[.val (.ref a1), .val (.int p2), .val (.int p3), .val (.int (0 : Int32))] [(.int y1)])) (fun t k => X0.baloadBytes hx (j := (1 : Int32)) (v := (.int y1)) (by rw [e0]; exact Ar26.1) (State.isArrayOf_alike hZ.alike Ar26.2.1) Ar26.2.2 hi26 hat26 (g := (mkF m 50 #[.val (.ref a1), .val (.int p2), .val (.int p3), .val (.int (0 : Int32))] [(.int (1 : Int32)), (.ref a1)])) rfl rfl (hb hby d3_50) t k) ?_
            refine own_step (T' := s₁) (g' := (mkF m 53 #[.val (.ref a1), .val (.int p2), .val (.int p3), .val (.int (0 : Int32))] [(.int (13 : Int32)), (.int y1)])) (fun t k => XS.bipush X0.here hx rfl (hb hby d3_51) k) ?_
            by_cases c53 : y1 = (13 : Int32)
            · refine own_step (T' := s₁) (g' := (mkF m 56 #[.val (.ref a1), .val (.int p2), .val (.int p3), .val (.int (0 : Int32))] [])) (fun t k => XS.icmpNo X0.here hx rfl (hb hby d3_53) rfl (teq c53).2 k) ?_
              refine own_step (T' := s₁) (g' := (mkF m 57 #[.val (.ref a1), .val (.int p2), .val (.int p3), .val (.int (0 : Int32))] [(.ref a1)])) (fun t k => XS.aloadN X0.here hx rfl (hb hby d3_56) rfl rfl k) ?_
              refine own_step (T' := s₁) (g' := (mkF m 58 #[.val (.ref a1), .val (.int p2), .val (.int p3), .val (.int (0 : Int32))] [(.int (0 : Int32)), (.ref a1)])) (fun t k => XS.iloadN X0.here hx rfl (hb hby d3_57) rfl k) ?_
              refine own_step (T' := s₁) (g' := (mkF m 59 #[.val (.ref a1), .val (.int p2), .val (.int p3), .val (.int (0 : Int32))] [(.int (2 : Int32)), (.int (0 : Int32)), (.ref a1)])) (fun t k => XS.iconst X0.here hx rfl (hb hby d3_58) k) ?_
              refine own_step (T' := s₁) (g' := (mkF m 60 #[.val (.ref a1), .val (.int p2), .val (.int p3), .val (.int (0 : Int32))] [(.int (2 : Int32)), (.ref a1)])) (fun t k => XS.iadd X0.here hx rfl (hb hby d3_59) rfl k) ?_
              obtain ⟨cl27, Ar27, qa27, S27, M27, H27, U27⟩ := id V_a
              have hi27 := inb_of S27 (j := (2 : Int32)) ⟨by decide, by decide⟩
              have hat27 := H27.at hi27 (v := (.int y2)) rfl
              refine own_step (T' := s₁) (g' := (mkF m 61 #[.val (.ref a1), .val (.int p2), .val (.int p3), .val (.int (0 : Int32))] [(.int y2)])) (fun t k => X0.baloadBytes hx (j := (2 : Int32)) (v := (.int y2)) (by rw [e0]; exact Ar27.1) (State.isArrayOf_alike hZ.alike Ar27.2.1) Ar27.2.2 hi27 hat27 (g := (mkF m 60 #[.val (.ref a1), .val (.int p2), .val (.int p3), .val (.int (0 : Int32))] [(.int (2 : Int32)), (.ref a1)])) rfl rfl (hb hby d3_60) t k) ?_
              refine own_step (T' := s₁) (g' := (mkF m 63 #[.val (.ref a1), .val (.int p2), .val (.int p3), .val (.int (0 : Int32))] [(.int (10 : Int32)), (.int y2)])) (fun t k => XS.bipush X0.here hx rfl (hb hby d3_61) k) ?_
              by_cases c63 : y2 = (10 : Int32)
              · refine own_step (T' := s₁) (g' := (mkF m 66 #[.val (.ref a1), .val (.int p2), .val (.int p3), .val (.int (0 : Int32))] [])) (fun t k => XS.icmpNo X0.here hx rfl (hb hby d3_63) rfl (teq c63).2 k) ?_
                refine own_step (T' := s₁) (g' := (mkF m 67 #[.val (.ref a1), .val (.int p2), .val (.int p3), .val (.int (0 : Int32))] [(.int (0 : Int32))])) (fun t k => XS.iloadN X0.here hx rfl (hb hby d3_66) rfl k) ?_
                refine own_step (T' := s₁) (g' := (mkF m 68 #[.val (.ref a1), .val (.int p2), .val (.int p3), .val (.int (0 : Int32))] [(.int (3 : Int32)), (.int (0 : Int32))])) (fun t k => XS.iconst X0.here hx rfl (hb hby d3_67) k) ?_
                refine own_step (T' := s₁) (g' := (mkF m 69 #[.val (.ref a1), .val (.int p2), .val (.int p3), .val (.int (0 : Int32))] [(.int (3 : Int32))])) (fun t k => XS.iadd X0.here hx rfl (hb hby d3_68) rfl k) ?_
                refine own_rI X0 hx hlk Bd.returns (hb hby d3_69) ?_ (by decide) (by decide)
                rw [e0]
                exact ⟨by rw [hr0]; rw [own_E0, if_pos (decide_eq_true c4), if_pos (decide_eq_true c12), if_neg (fun z => c22 (of_decide_eq_true z)), if_pos (decide_eq_true c43), if_pos (decide_eq_true c53), if_pos (decide_eq_true c63)], N0, rfl⟩
              · refine own_step (T' := s₁) (g' := (mkF m 70 #[.val (.ref a1), .val (.int p2), .val (.int p3), .val (.int (0 : Int32))] [])) (fun t k => XS.icmpYes X0.here hx rfl (pc0 := 63) (pc' := 70) rfl (hb hby d3_63) rfl (feq c63).2 (by decide) (by decide) k) ?_
                refine own_step (T' := s₁) (g' := (mkF m 73 #[.val (.ref a1), .val (.int p2), .val (.int p3), .val (.int (1 : Int32))] [])) (fun t k => XS.iinc X0.here hx rfl (hb hby d3_70) rfl (l' := #[.val (.ref a1), .val (.int p2), .val (.int p3), .val (.int (1 : Int32))]) rfl k) ?_
                refine own_step (T' := s₁) (g' := (mkF m 2 #[.val (.ref a1), .val (.int p2), .val (.int p3), .val (.int (1 : Int32))] [])) (fun t k => XS.goto X0.here hx rfl (pc0 := 73) (pc' := 2) rfl (hb hby d3_73) (by decide) (by decide) k) ?_
                exact L1 (hr0.trans (by rw [own_E0, if_pos (decide_eq_true c4), if_pos (decide_eq_true c12), if_neg (fun z => c22 (of_decide_eq_true z)), if_pos (decide_eq_true c43), if_pos (decide_eq_true c53), if_neg (fun z => c63 (of_decide_eq_true z))]))
            · refine own_step (T' := s₁) (g' := (mkF m 70 #[.val (.ref a1), .val (.int p2), .val (.int p3), .val (.int (0 : Int32))] [])) (fun t k => XS.icmpYes X0.here hx rfl (pc0 := 53) (pc' := 70) rfl (hb hby d3_53) rfl (feq c53).2 (by decide) (by decide) k) ?_
              refine own_step (T' := s₁) (g' := (mkF m 73 #[.val (.ref a1), .val (.int p2), .val (.int p3), .val (.int (1 : Int32))] [])) (fun t k => XS.iinc X0.here hx rfl (hb hby d3_70) rfl (l' := #[.val (.ref a1), .val (.int p2), .val (.int p3), .val (.int (1 : Int32))]) rfl k) ?_
              refine own_step (T' := s₁) (g' := (mkF m 2 #[.val (.ref a1), .val (.int p2), .val (.int p3), .val (.int (1 : Int32))] [])) (fun t k => XS.goto X0.here hx rfl (pc0 := 73) (pc' := 2) rfl (hb hby d3_73) (by decide) (by decide) k) ?_
              exact L1 (hr0.trans (by rw [own_E0, if_pos (decide_eq_true c4), if_pos (decide_eq_true c12), if_neg (fun z => c22 (of_decide_eq_true z)), if_pos (decide_eq_true c43), if_neg (fun z => c53 (of_decide_eq_true z))]))
          · refine own_step (T' := s₁) (g' := (mkF m 70 #[.val (.ref a1), .val (.int p2), .val (.int p3), .val (.int (0 : Int32))] [])) (fun t k => XS.icmpYes X0.here hx rfl (pc0 := 43) (pc' := 70) rfl (hb hby d3_43) rfl (flt c43).2.1 (by decide) (by decide) k) ?_
            refine own_step (T' := s₁) (g' := (mkF m 73 #[.val (.ref a1), .val (.int p2), .val (.int p3), .val (.int (1 : Int32))] [])) (fun t k => XS.iinc X0.here hx rfl (hb hby d3_70) rfl (l' := #[.val (.ref a1), .val (.int p2), .val (.int p3), .val (.int (1 : Int32))]) rfl k) ?_
            refine own_step (T' := s₁) (g' := (mkF m 2 #[.val (.ref a1), .val (.int p2), .val (.int p3), .val (.int (1 : Int32))] [])) (fun t k => XS.goto X0.here hx rfl (pc0 := 73) (pc' := 2) rfl (hb hby d3_73) (by decide) (by decide) k) ?_
            exact L1 (hr0.trans (by rw [own_E0, if_pos (decide_eq_true c4), if_pos (decide_eq_true c12), if_neg (fun z => c22 (of_decide_eq_true z)), if_neg (fun z => c43 (of_decide_eq_true z))]))
      · refine own_step (T' := s₁) (g' := (mkF m 15 #[.val (.ref a1), .val (.int p2), .val (.int p3), .val (.int (0 : Int32))] [])) (fun t k => XS.icmpNo X0.here hx rfl (hb hby d3_12) rfl (feq c12).1 k) ?_
        refine own_step (T' := s₁) (g' := (mkF m 70 #[.val (.ref a1), .val (.int p2), .val (.int p3), .val (.int (0 : Int32))] [])) (fun t k => XS.goto X0.here hx rfl (pc0 := 15) (pc' := 70) rfl (hb hby d3_15) (by decide) (by decide) k) ?_
        refine own_step (T' := s₁) (g' := (mkF m 73 #[.val (.ref a1), .val (.int p2), .val (.int p3), .val (.int (1 : Int32))] [])) (fun t k => XS.iinc X0.here hx rfl (hb hby d3_70) rfl (l' := #[.val (.ref a1), .val (.int p2), .val (.int p3), .val (.int (1 : Int32))]) rfl k) ?_
        refine own_step (T' := s₁) (g' := (mkF m 2 #[.val (.ref a1), .val (.int p2), .val (.int p3), .val (.int (1 : Int32))] [])) (fun t k => XS.goto X0.here hx rfl (pc0 := 73) (pc' := 2) rfl (hb hby d3_73) (by decide) (by decide) k) ?_
        exact L1 (hr0.trans (by rw [own_E0, if_pos (decide_eq_true c4), if_neg (fun z => c12 (of_decide_eq_true z))]))
    · refine own_step (T' := s₁) (g' := (mkF m 76 #[.val (.ref a1), .val (.int p2), .val (.int p3), .val (.int (0 : Int32))] [])) (fun t k => XS.icmpYes X0.here hx rfl (pc0 := 4) (pc' := 76) rfl (hb hby d3_4) rfl (flt c4).2.1 (by decide) (by decide) k) ?_
      refine own_step (T' := s₁) (g' := (mkF m 77 #[.val (.ref a1), .val (.int p2), .val (.int p3), .val (.int (0 : Int32))] [(.int ((-1) : Int32))])) (fun t k => XS.iconst X0.here hx rfl (hb hby d3_76) k) ?_
      refine own_rI X0 hx hlk Bd.returns (hb hby d3_77) ?_ (by decide) (by decide)
      rw [e0]
      exact ⟨by rw [hr0]; rw [own_E0, if_neg (fun z => c4 (of_decide_eq_true z))], N0, rfl⟩
  rcases own_rng7 hf with q | q | q | q | q | q | q
  · subst q
    refine own_step (T' := s₁) (g' := (mkF m 1 #[.val (.ref a1), .val (.int (0 : Int32)), .val (.int p3), .unset] [(.int (0 : Int32))])) (fun t k => XS.iloadN X0.here hx rfl (hb hby d3_0) rfl k) ?_
    refine own_step (T' := s₁) (g' := (mkF m 2 #[.val (.ref a1), .val (.int (0 : Int32)), .val (.int p3), .val (.int (0 : Int32))] [])) (fun t k => XS.istoreN X0.here hx rfl (hb hby d3_1) rfl (l' := #[.val (.ref a1), .val (.int (0 : Int32)), .val (.int p3), .val (.int (0 : Int32))]) rfl k) ?_
    exact L0 (by rw [own_end, if_pos rfl])
  · subst q
    refine own_step (T' := s₁) (g' := (mkF m 1 #[.val (.ref a1), .val (.int (1 : Int32)), .val (.int p3), .unset] [(.int (1 : Int32))])) (fun t k => XS.iloadN X0.here hx rfl (hb hby d3_0) rfl k) ?_
    refine own_step (T' := s₁) (g' := (mkF m 2 #[.val (.ref a1), .val (.int (1 : Int32)), .val (.int p3), .val (.int (1 : Int32))] [])) (fun t k => XS.istoreN X0.here hx rfl (hb hby d3_1) rfl (l' := #[.val (.ref a1), .val (.int (1 : Int32)), .val (.int p3), .val (.int (1 : Int32))]) rfl k) ?_
    exact L1 (by rw [own_end, if_neg (by decide), if_pos rfl])
  · subst q
    refine own_step (T' := s₁) (g' := (mkF m 1 #[.val (.ref a1), .val (.int (2 : Int32)), .val (.int p3), .unset] [(.int (2 : Int32))])) (fun t k => XS.iloadN X0.here hx rfl (hb hby d3_0) rfl k) ?_
    refine own_step (T' := s₁) (g' := (mkF m 2 #[.val (.ref a1), .val (.int (2 : Int32)), .val (.int p3), .val (.int (2 : Int32))] [])) (fun t k => XS.istoreN X0.here hx rfl (hb hby d3_1) rfl (l' := #[.val (.ref a1), .val (.int (2 : Int32)), .val (.int p3), .val (.int (2 : Int32))]) rfl k) ?_
    exact L2 (by rw [own_end, if_neg (by decide), if_neg (by decide), if_pos rfl])
  · subst q
    refine own_step (T' := s₁) (g' := (mkF m 1 #[.val (.ref a1), .val (.int (3 : Int32)), .val (.int p3), .unset] [(.int (3 : Int32))])) (fun t k => XS.iloadN X0.here hx rfl (hb hby d3_0) rfl k) ?_
    refine own_step (T' := s₁) (g' := (mkF m 2 #[.val (.ref a1), .val (.int (3 : Int32)), .val (.int p3), .val (.int (3 : Int32))] [])) (fun t k => XS.istoreN X0.here hx rfl (hb hby d3_1) rfl (l' := #[.val (.ref a1), .val (.int (3 : Int32)), .val (.int p3), .val (.int (3 : Int32))]) rfl k) ?_
    exact L3 (by rw [own_end, if_neg (by decide), if_neg (by decide), if_neg (by decide), if_pos rfl])
  · subst q
    refine own_step (T' := s₁) (g' := (mkF m 1 #[.val (.ref a1), .val (.int (4 : Int32)), .val (.int p3), .unset] [(.int (4 : Int32))])) (fun t k => XS.iloadN X0.here hx rfl (hb hby d3_0) rfl k) ?_
    refine own_step (T' := s₁) (g' := (mkF m 2 #[.val (.ref a1), .val (.int (4 : Int32)), .val (.int p3), .val (.int (4 : Int32))] [])) (fun t k => XS.istoreN X0.here hx rfl (hb hby d3_1) rfl (l' := #[.val (.ref a1), .val (.int (4 : Int32)), .val (.int p3), .val (.int (4 : Int32))]) rfl k) ?_
    exact L4 (by rw [own_end, if_neg (by decide), if_neg (by decide), if_neg (by decide), if_neg (by decide), if_pos rfl])
  · subst q
    refine own_step (T' := s₁) (g' := (mkF m 1 #[.val (.ref a1), .val (.int (5 : Int32)), .val (.int p3), .unset] [(.int (5 : Int32))])) (fun t k => XS.iloadN X0.here hx rfl (hb hby d3_0) rfl k) ?_
    refine own_step (T' := s₁) (g' := (mkF m 2 #[.val (.ref a1), .val (.int (5 : Int32)), .val (.int p3), .val (.int (5 : Int32))] [])) (fun t k => XS.istoreN X0.here hx rfl (hb hby d3_1) rfl (l' := #[.val (.ref a1), .val (.int (5 : Int32)), .val (.int p3), .val (.int (5 : Int32))]) rfl k) ?_
    exact L5 (by rw [own_end, if_neg (by decide), if_neg (by decide), if_neg (by decide), if_neg (by decide), if_neg (by decide), if_pos rfl])
  · subst q
    refine own_step (T' := s₁) (g' := (mkF m 1 #[.val (.ref a1), .val (.int (6 : Int32)), .val (.int p3), .unset] [(.int (6 : Int32))])) (fun t k => XS.iloadN X0.here hx rfl (hb hby d3_0) rfl k) ?_
    refine own_step (T' := s₁) (g' := (mkF m 2 #[.val (.ref a1), .val (.int (6 : Int32)), .val (.int p3), .val (.int (6 : Int32))] [])) (fun t k => XS.istoreN X0.here hx rfl (hb hby d3_1) rfl (l' := #[.val (.ref a1), .val (.int (6 : Int32)), .val (.int p3), .val (.int (6 : Int32))]) rfl k) ?_
    exact L6 (by rw [own_end, if_neg (by decide), if_neg (by decide), if_neg (by decide), if_neg (by decide), if_neg (by decide), if_neg (by decide)])
def own_first (a2 a3 a4 a5 a6 : Int32) : Int32 := if a2 = 0 then (if a3 = 0 then (if a4 = 0 then (if a5 = 0 then (if a6 = 0 then ((-1) : Int32) else 6) else 5) else 4) else 3) else 2
theorem own_fin0 : ∀ (t : Fin 7) (n0 n1 n2 n3 n4 n5 r1 r2 r3 r4 : Bool), (own_E0 (decide (0 < t.val)) (decide (1 < t.val)) (decide (2 < t.val)) (decide (3 < t.val)) (decide (4 < t.val)) (decide (5 < t.val)) n0 n1 n2 n3 n4 n5 r1 r2 r3 r4) = own_first (own_ea2 (decide (t.val < 2)) (decide (0 < 0)) n1 n0) (own_ea3 (decide (t.val < 3)) (decide (1 < 0)) (decide (0 < 0)) n2 n1 r1 n0) (own_ea4 (decide (t.val < 4)) (decide (2 < 0)) (decide (1 < 0)) n3 n2 r2 n1) (own_ea5 (decide (t.val < 5)) (decide (3 < 0)) (decide (2 < 0)) n4 n3 r3 n2) (own_ea6 (decide (t.val < 6)) (decide (4 < 0)) (decide (3 < 0)) n5 n4 r4 n3) := by decide +kernel
theorem own_fin1 : ∀ (t : Fin 7) (n0 n1 n2 n3 n4 n5 r1 r2 r3 r4 : Bool), (own_E1 (decide (1 < t.val)) (decide (2 < t.val)) (decide (3 < t.val)) (decide (4 < t.val)) (decide (5 < t.val)) n1 n2 n3 n4 n5 r2 r3 r4) = own_first (own_ea2 (decide (t.val < 2)) (decide (0 < 1)) n1 n0) (own_ea3 (decide (t.val < 3)) (decide (1 < 1)) (decide (0 < 1)) n2 n1 r1 n0) (own_ea4 (decide (t.val < 4)) (decide (2 < 1)) (decide (1 < 1)) n3 n2 r2 n1) (own_ea5 (decide (t.val < 5)) (decide (3 < 1)) (decide (2 < 1)) n4 n3 r3 n2) (own_ea6 (decide (t.val < 6)) (decide (4 < 1)) (decide (3 < 1)) n5 n4 r4 n3) := by decide +kernel
theorem own_fin2 : ∀ (t : Fin 7) (n0 n1 n2 n3 n4 n5 r1 r2 r3 r4 : Bool), (own_E2 (decide (2 < t.val)) (decide (3 < t.val)) (decide (4 < t.val)) (decide (5 < t.val)) n2 n3 n4 n5 r3 r4) = own_first (own_ea2 (decide (t.val < 2)) (decide (0 < 2)) n1 n0) (own_ea3 (decide (t.val < 3)) (decide (1 < 2)) (decide (0 < 2)) n2 n1 r1 n0) (own_ea4 (decide (t.val < 4)) (decide (2 < 2)) (decide (1 < 2)) n3 n2 r2 n1) (own_ea5 (decide (t.val < 5)) (decide (3 < 2)) (decide (2 < 2)) n4 n3 r3 n2) (own_ea6 (decide (t.val < 6)) (decide (4 < 2)) (decide (3 < 2)) n5 n4 r4 n3) := by decide +kernel
theorem own_fin3 : ∀ (t : Fin 7) (n0 n1 n2 n3 n4 n5 r1 r2 r3 r4 : Bool), (own_E3 (decide (3 < t.val)) (decide (4 < t.val)) (decide (5 < t.val)) n3 n4 n5 r4) = own_first (own_ea2 (decide (t.val < 2)) (decide (0 < 3)) n1 n0) (own_ea3 (decide (t.val < 3)) (decide (1 < 3)) (decide (0 < 3)) n2 n1 r1 n0) (own_ea4 (decide (t.val < 4)) (decide (2 < 3)) (decide (1 < 3)) n3 n2 r2 n1) (own_ea5 (decide (t.val < 5)) (decide (3 < 3)) (decide (2 < 3)) n4 n3 r3 n2) (own_ea6 (decide (t.val < 6)) (decide (4 < 3)) (decide (3 < 3)) n5 n4 r4 n3) := by decide +kernel
theorem own_fin4 : ∀ (t : Fin 7) (n0 n1 n2 n3 n4 n5 r1 r2 r3 r4 : Bool), (own_E4 (decide (4 < t.val)) (decide (5 < t.val)) n4 n5) = own_first (own_ea2 (decide (t.val < 2)) (decide (0 < 4)) n1 n0) (own_ea3 (decide (t.val < 3)) (decide (1 < 4)) (decide (0 < 4)) n2 n1 r1 n0) (own_ea4 (decide (t.val < 4)) (decide (2 < 4)) (decide (1 < 4)) n3 n2 r2 n1) (own_ea5 (decide (t.val < 5)) (decide (3 < 4)) (decide (2 < 4)) n4 n3 r3 n2) (own_ea6 (decide (t.val < 6)) (decide (4 < 4)) (decide (3 < 4)) n5 n4 r4 n3) := by decide +kernel
theorem own_fin5 : ∀ (t : Fin 7) (n0 n1 n2 n3 n4 n5 r1 r2 r3 r4 : Bool), (own_E5 (decide (5 < t.val)) n5) = own_first (own_ea2 (decide (t.val < 2)) (decide (0 < 5)) n1 n0) (own_ea3 (decide (t.val < 3)) (decide (1 < 5)) (decide (0 < 5)) n2 n1 r1 n0) (own_ea4 (decide (t.val < 4)) (decide (2 < 5)) (decide (1 < 5)) n3 n2 r2 n1) (own_ea5 (decide (t.val < 5)) (decide (3 < 5)) (decide (2 < 5)) n4 n3 r3 n2) (own_ea6 (decide (t.val < 6)) (decide (4 < 5)) (decide (3 < 5)) n5 n4 r4 n3) := by decide +kernel
theorem own_fin6 : ∀ (t : Fin 7) (n0 n1 n2 n3 n4 n5 r1 r2 r3 r4 : Bool), own_E6 = own_first (own_ea2 (decide (t.val < 2)) (decide (0 < 6)) n1 n0) (own_ea3 (decide (t.val < 3)) (decide (1 < 6)) (decide (0 < 6)) n2 n1 r1 n0) (own_ea4 (decide (t.val < 4)) (decide (2 < 6)) (decide (1 < 6)) n3 n2 r2 n1) (own_ea5 (decide (t.val < 5)) (decide (3 < 6)) (decide (2 < 6)) n4 n3 r3 n2) (own_ea6 (decide (t.val < 6)) (decide (4 < 6)) (decide (3 < 6)) n5 n4 r4 n3) := by decide +kernel
theorem own_plain (f t y0 y1 y2 y3 y4 y5 : Int32) (hf : ¬ f < 0 ∧ ¬ 6 < f) (ht : ¬ t < 0 ∧ ¬ 6 < t) : own_end f t y0 y1 y2 y3 y4 y5 = own_first (own_ea2 (decide (t < (2 : Int32))) (decide ((0 : Int32) < f)) (decide (y1 = (10 : Int32))) (decide (y0 = (10 : Int32)))) (own_ea3 (decide (t < (3 : Int32))) (decide ((1 : Int32) < f)) (decide ((0 : Int32) < f)) (decide (y2 = (10 : Int32))) (decide (y1 = (10 : Int32))) (decide (y1 = (13 : Int32))) (decide (y0 = (10 : Int32)))) (own_ea4 (decide (t < (4 : Int32))) (decide ((2 : Int32) < f)) (decide ((1 : Int32) < f)) (decide (y3 = (10 : Int32))) (decide (y2 = (10 : Int32))) (decide (y2 = (13 : Int32))) (decide (y1 = (10 : Int32)))) (own_ea5 (decide (t < (5 : Int32))) (decide ((3 : Int32) < f)) (decide ((2 : Int32) < f)) (decide (y4 = (10 : Int32))) (decide (y3 = (10 : Int32))) (decide (y3 = (13 : Int32))) (decide (y2 = (10 : Int32)))) (own_ea6 (decide (t < (6 : Int32))) (decide ((4 : Int32) < f)) (decide ((3 : Int32) < f)) (decide (y5 = (10 : Int32))) (decide (y4 = (10 : Int32))) (decide (y4 = (13 : Int32))) (decide (y3 = (10 : Int32)))) := by
  rcases own_rng7 hf with rfl | rfl | rfl | rfl | rfl | rfl | rfl
  · rw [own_end, if_pos rfl]
    rcases own_rng7 ht with rfl | rfl | rfl | rfl | rfl | rfl | rfl
    · exact own_fin0 0 (decide (y0 = (10 : Int32))) (decide (y1 = (10 : Int32))) (decide (y2 = (10 : Int32))) (decide (y3 = (10 : Int32))) (decide (y4 = (10 : Int32))) (decide (y5 = (10 : Int32))) (decide (y1 = (13 : Int32))) (decide (y2 = (13 : Int32))) (decide (y3 = (13 : Int32))) (decide (y4 = (13 : Int32)))
    · exact own_fin0 1 (decide (y0 = (10 : Int32))) (decide (y1 = (10 : Int32))) (decide (y2 = (10 : Int32))) (decide (y3 = (10 : Int32))) (decide (y4 = (10 : Int32))) (decide (y5 = (10 : Int32))) (decide (y1 = (13 : Int32))) (decide (y2 = (13 : Int32))) (decide (y3 = (13 : Int32))) (decide (y4 = (13 : Int32)))
    · exact own_fin0 2 (decide (y0 = (10 : Int32))) (decide (y1 = (10 : Int32))) (decide (y2 = (10 : Int32))) (decide (y3 = (10 : Int32))) (decide (y4 = (10 : Int32))) (decide (y5 = (10 : Int32))) (decide (y1 = (13 : Int32))) (decide (y2 = (13 : Int32))) (decide (y3 = (13 : Int32))) (decide (y4 = (13 : Int32)))
    · exact own_fin0 3 (decide (y0 = (10 : Int32))) (decide (y1 = (10 : Int32))) (decide (y2 = (10 : Int32))) (decide (y3 = (10 : Int32))) (decide (y4 = (10 : Int32))) (decide (y5 = (10 : Int32))) (decide (y1 = (13 : Int32))) (decide (y2 = (13 : Int32))) (decide (y3 = (13 : Int32))) (decide (y4 = (13 : Int32)))
    · exact own_fin0 4 (decide (y0 = (10 : Int32))) (decide (y1 = (10 : Int32))) (decide (y2 = (10 : Int32))) (decide (y3 = (10 : Int32))) (decide (y4 = (10 : Int32))) (decide (y5 = (10 : Int32))) (decide (y1 = (13 : Int32))) (decide (y2 = (13 : Int32))) (decide (y3 = (13 : Int32))) (decide (y4 = (13 : Int32)))
    · exact own_fin0 5 (decide (y0 = (10 : Int32))) (decide (y1 = (10 : Int32))) (decide (y2 = (10 : Int32))) (decide (y3 = (10 : Int32))) (decide (y4 = (10 : Int32))) (decide (y5 = (10 : Int32))) (decide (y1 = (13 : Int32))) (decide (y2 = (13 : Int32))) (decide (y3 = (13 : Int32))) (decide (y4 = (13 : Int32)))
    · exact own_fin0 6 (decide (y0 = (10 : Int32))) (decide (y1 = (10 : Int32))) (decide (y2 = (10 : Int32))) (decide (y3 = (10 : Int32))) (decide (y4 = (10 : Int32))) (decide (y5 = (10 : Int32))) (decide (y1 = (13 : Int32))) (decide (y2 = (13 : Int32))) (decide (y3 = (13 : Int32))) (decide (y4 = (13 : Int32)))
  · rw [own_end, if_neg (by decide), if_pos rfl]
    rcases own_rng7 ht with rfl | rfl | rfl | rfl | rfl | rfl | rfl
    · exact own_fin1 0 (decide (y0 = (10 : Int32))) (decide (y1 = (10 : Int32))) (decide (y2 = (10 : Int32))) (decide (y3 = (10 : Int32))) (decide (y4 = (10 : Int32))) (decide (y5 = (10 : Int32))) (decide (y1 = (13 : Int32))) (decide (y2 = (13 : Int32))) (decide (y3 = (13 : Int32))) (decide (y4 = (13 : Int32)))
    · exact own_fin1 1 (decide (y0 = (10 : Int32))) (decide (y1 = (10 : Int32))) (decide (y2 = (10 : Int32))) (decide (y3 = (10 : Int32))) (decide (y4 = (10 : Int32))) (decide (y5 = (10 : Int32))) (decide (y1 = (13 : Int32))) (decide (y2 = (13 : Int32))) (decide (y3 = (13 : Int32))) (decide (y4 = (13 : Int32)))
    · exact own_fin1 2 (decide (y0 = (10 : Int32))) (decide (y1 = (10 : Int32))) (decide (y2 = (10 : Int32))) (decide (y3 = (10 : Int32))) (decide (y4 = (10 : Int32))) (decide (y5 = (10 : Int32))) (decide (y1 = (13 : Int32))) (decide (y2 = (13 : Int32))) (decide (y3 = (13 : Int32))) (decide (y4 = (13 : Int32)))
    · exact own_fin1 3 (decide (y0 = (10 : Int32))) (decide (y1 = (10 : Int32))) (decide (y2 = (10 : Int32))) (decide (y3 = (10 : Int32))) (decide (y4 = (10 : Int32))) (decide (y5 = (10 : Int32))) (decide (y1 = (13 : Int32))) (decide (y2 = (13 : Int32))) (decide (y3 = (13 : Int32))) (decide (y4 = (13 : Int32)))
    · exact own_fin1 4 (decide (y0 = (10 : Int32))) (decide (y1 = (10 : Int32))) (decide (y2 = (10 : Int32))) (decide (y3 = (10 : Int32))) (decide (y4 = (10 : Int32))) (decide (y5 = (10 : Int32))) (decide (y1 = (13 : Int32))) (decide (y2 = (13 : Int32))) (decide (y3 = (13 : Int32))) (decide (y4 = (13 : Int32)))
    · exact own_fin1 5 (decide (y0 = (10 : Int32))) (decide (y1 = (10 : Int32))) (decide (y2 = (10 : Int32))) (decide (y3 = (10 : Int32))) (decide (y4 = (10 : Int32))) (decide (y5 = (10 : Int32))) (decide (y1 = (13 : Int32))) (decide (y2 = (13 : Int32))) (decide (y3 = (13 : Int32))) (decide (y4 = (13 : Int32)))
    · exact own_fin1 6 (decide (y0 = (10 : Int32))) (decide (y1 = (10 : Int32))) (decide (y2 = (10 : Int32))) (decide (y3 = (10 : Int32))) (decide (y4 = (10 : Int32))) (decide (y5 = (10 : Int32))) (decide (y1 = (13 : Int32))) (decide (y2 = (13 : Int32))) (decide (y3 = (13 : Int32))) (decide (y4 = (13 : Int32)))
  · rw [own_end, if_neg (by decide), if_neg (by decide), if_pos rfl]
    rcases own_rng7 ht with rfl | rfl | rfl | rfl | rfl | rfl | rfl
    · exact own_fin2 0 (decide (y0 = (10 : Int32))) (decide (y1 = (10 : Int32))) (decide (y2 = (10 : Int32))) (decide (y3 = (10 : Int32))) (decide (y4 = (10 : Int32))) (decide (y5 = (10 : Int32))) (decide (y1 = (13 : Int32))) (decide (y2 = (13 : Int32))) (decide (y3 = (13 : Int32))) (decide (y4 = (13 : Int32)))
    · exact own_fin2 1 (decide (y0 = (10 : Int32))) (decide (y1 = (10 : Int32))) (decide (y2 = (10 : Int32))) (decide (y3 = (10 : Int32))) (decide (y4 = (10 : Int32))) (decide (y5 = (10 : Int32))) (decide (y1 = (13 : Int32))) (decide (y2 = (13 : Int32))) (decide (y3 = (13 : Int32))) (decide (y4 = (13 : Int32)))
    · exact own_fin2 2 (decide (y0 = (10 : Int32))) (decide (y1 = (10 : Int32))) (decide (y2 = (10 : Int32))) (decide (y3 = (10 : Int32))) (decide (y4 = (10 : Int32))) (decide (y5 = (10 : Int32))) (decide (y1 = (13 : Int32))) (decide (y2 = (13 : Int32))) (decide (y3 = (13 : Int32))) (decide (y4 = (13 : Int32)))
    · exact own_fin2 3 (decide (y0 = (10 : Int32))) (decide (y1 = (10 : Int32))) (decide (y2 = (10 : Int32))) (decide (y3 = (10 : Int32))) (decide (y4 = (10 : Int32))) (decide (y5 = (10 : Int32))) (decide (y1 = (13 : Int32))) (decide (y2 = (13 : Int32))) (decide (y3 = (13 : Int32))) (decide (y4 = (13 : Int32)))
    · exact own_fin2 4 (decide (y0 = (10 : Int32))) (decide (y1 = (10 : Int32))) (decide (y2 = (10 : Int32))) (decide (y3 = (10 : Int32))) (decide (y4 = (10 : Int32))) (decide (y5 = (10 : Int32))) (decide (y1 = (13 : Int32))) (decide (y2 = (13 : Int32))) (decide (y3 = (13 : Int32))) (decide (y4 = (13 : Int32)))
    · exact own_fin2 5 (decide (y0 = (10 : Int32))) (decide (y1 = (10 : Int32))) (decide (y2 = (10 : Int32))) (decide (y3 = (10 : Int32))) (decide (y4 = (10 : Int32))) (decide (y5 = (10 : Int32))) (decide (y1 = (13 : Int32))) (decide (y2 = (13 : Int32))) (decide (y3 = (13 : Int32))) (decide (y4 = (13 : Int32)))
    · exact own_fin2 6 (decide (y0 = (10 : Int32))) (decide (y1 = (10 : Int32))) (decide (y2 = (10 : Int32))) (decide (y3 = (10 : Int32))) (decide (y4 = (10 : Int32))) (decide (y5 = (10 : Int32))) (decide (y1 = (13 : Int32))) (decide (y2 = (13 : Int32))) (decide (y3 = (13 : Int32))) (decide (y4 = (13 : Int32)))
  · rw [own_end, if_neg (by decide), if_neg (by decide), if_neg (by decide), if_pos rfl]
    rcases own_rng7 ht with rfl | rfl | rfl | rfl | rfl | rfl | rfl
    · exact own_fin3 0 (decide (y0 = (10 : Int32))) (decide (y1 = (10 : Int32))) (decide (y2 = (10 : Int32))) (decide (y3 = (10 : Int32))) (decide (y4 = (10 : Int32))) (decide (y5 = (10 : Int32))) (decide (y1 = (13 : Int32))) (decide (y2 = (13 : Int32))) (decide (y3 = (13 : Int32))) (decide (y4 = (13 : Int32)))
    · exact own_fin3 1 (decide (y0 = (10 : Int32))) (decide (y1 = (10 : Int32))) (decide (y2 = (10 : Int32))) (decide (y3 = (10 : Int32))) (decide (y4 = (10 : Int32))) (decide (y5 = (10 : Int32))) (decide (y1 = (13 : Int32))) (decide (y2 = (13 : Int32))) (decide (y3 = (13 : Int32))) (decide (y4 = (13 : Int32)))
    · exact own_fin3 2 (decide (y0 = (10 : Int32))) (decide (y1 = (10 : Int32))) (decide (y2 = (10 : Int32))) (decide (y3 = (10 : Int32))) (decide (y4 = (10 : Int32))) (decide (y5 = (10 : Int32))) (decide (y1 = (13 : Int32))) (decide (y2 = (13 : Int32))) (decide (y3 = (13 : Int32))) (decide (y4 = (13 : Int32)))
    · exact own_fin3 3 (decide (y0 = (10 : Int32))) (decide (y1 = (10 : Int32))) (decide (y2 = (10 : Int32))) (decide (y3 = (10 : Int32))) (decide (y4 = (10 : Int32))) (decide (y5 = (10 : Int32))) (decide (y1 = (13 : Int32))) (decide (y2 = (13 : Int32))) (decide (y3 = (13 : Int32))) (decide (y4 = (13 : Int32)))
    · exact own_fin3 4 (decide (y0 = (10 : Int32))) (decide (y1 = (10 : Int32))) (decide (y2 = (10 : Int32))) (decide (y3 = (10 : Int32))) (decide (y4 = (10 : Int32))) (decide (y5 = (10 : Int32))) (decide (y1 = (13 : Int32))) (decide (y2 = (13 : Int32))) (decide (y3 = (13 : Int32))) (decide (y4 = (13 : Int32)))
    · exact own_fin3 5 (decide (y0 = (10 : Int32))) (decide (y1 = (10 : Int32))) (decide (y2 = (10 : Int32))) (decide (y3 = (10 : Int32))) (decide (y4 = (10 : Int32))) (decide (y5 = (10 : Int32))) (decide (y1 = (13 : Int32))) (decide (y2 = (13 : Int32))) (decide (y3 = (13 : Int32))) (decide (y4 = (13 : Int32)))
    · exact own_fin3 6 (decide (y0 = (10 : Int32))) (decide (y1 = (10 : Int32))) (decide (y2 = (10 : Int32))) (decide (y3 = (10 : Int32))) (decide (y4 = (10 : Int32))) (decide (y5 = (10 : Int32))) (decide (y1 = (13 : Int32))) (decide (y2 = (13 : Int32))) (decide (y3 = (13 : Int32))) (decide (y4 = (13 : Int32)))
  · rw [own_end, if_neg (by decide), if_neg (by decide), if_neg (by decide), if_neg (by decide), if_pos rfl]
    rcases own_rng7 ht with rfl | rfl | rfl | rfl | rfl | rfl | rfl
    · exact own_fin4 0 (decide (y0 = (10 : Int32))) (decide (y1 = (10 : Int32))) (decide (y2 = (10 : Int32))) (decide (y3 = (10 : Int32))) (decide (y4 = (10 : Int32))) (decide (y5 = (10 : Int32))) (decide (y1 = (13 : Int32))) (decide (y2 = (13 : Int32))) (decide (y3 = (13 : Int32))) (decide (y4 = (13 : Int32)))
    · exact own_fin4 1 (decide (y0 = (10 : Int32))) (decide (y1 = (10 : Int32))) (decide (y2 = (10 : Int32))) (decide (y3 = (10 : Int32))) (decide (y4 = (10 : Int32))) (decide (y5 = (10 : Int32))) (decide (y1 = (13 : Int32))) (decide (y2 = (13 : Int32))) (decide (y3 = (13 : Int32))) (decide (y4 = (13 : Int32)))
    · exact own_fin4 2 (decide (y0 = (10 : Int32))) (decide (y1 = (10 : Int32))) (decide (y2 = (10 : Int32))) (decide (y3 = (10 : Int32))) (decide (y4 = (10 : Int32))) (decide (y5 = (10 : Int32))) (decide (y1 = (13 : Int32))) (decide (y2 = (13 : Int32))) (decide (y3 = (13 : Int32))) (decide (y4 = (13 : Int32)))
    · exact own_fin4 3 (decide (y0 = (10 : Int32))) (decide (y1 = (10 : Int32))) (decide (y2 = (10 : Int32))) (decide (y3 = (10 : Int32))) (decide (y4 = (10 : Int32))) (decide (y5 = (10 : Int32))) (decide (y1 = (13 : Int32))) (decide (y2 = (13 : Int32))) (decide (y3 = (13 : Int32))) (decide (y4 = (13 : Int32)))
    · exact own_fin4 4 (decide (y0 = (10 : Int32))) (decide (y1 = (10 : Int32))) (decide (y2 = (10 : Int32))) (decide (y3 = (10 : Int32))) (decide (y4 = (10 : Int32))) (decide (y5 = (10 : Int32))) (decide (y1 = (13 : Int32))) (decide (y2 = (13 : Int32))) (decide (y3 = (13 : Int32))) (decide (y4 = (13 : Int32)))
    · exact own_fin4 5 (decide (y0 = (10 : Int32))) (decide (y1 = (10 : Int32))) (decide (y2 = (10 : Int32))) (decide (y3 = (10 : Int32))) (decide (y4 = (10 : Int32))) (decide (y5 = (10 : Int32))) (decide (y1 = (13 : Int32))) (decide (y2 = (13 : Int32))) (decide (y3 = (13 : Int32))) (decide (y4 = (13 : Int32)))
    · exact own_fin4 6 (decide (y0 = (10 : Int32))) (decide (y1 = (10 : Int32))) (decide (y2 = (10 : Int32))) (decide (y3 = (10 : Int32))) (decide (y4 = (10 : Int32))) (decide (y5 = (10 : Int32))) (decide (y1 = (13 : Int32))) (decide (y2 = (13 : Int32))) (decide (y3 = (13 : Int32))) (decide (y4 = (13 : Int32)))
  · rw [own_end, if_neg (by decide), if_neg (by decide), if_neg (by decide), if_neg (by decide), if_neg (by decide), if_pos rfl]
    rcases own_rng7 ht with rfl | rfl | rfl | rfl | rfl | rfl | rfl
    · exact own_fin5 0 (decide (y0 = (10 : Int32))) (decide (y1 = (10 : Int32))) (decide (y2 = (10 : Int32))) (decide (y3 = (10 : Int32))) (decide (y4 = (10 : Int32))) (decide (y5 = (10 : Int32))) (decide (y1 = (13 : Int32))) (decide (y2 = (13 : Int32))) (decide (y3 = (13 : Int32))) (decide (y4 = (13 : Int32)))
    · exact own_fin5 1 (decide (y0 = (10 : Int32))) (decide (y1 = (10 : Int32))) (decide (y2 = (10 : Int32))) (decide (y3 = (10 : Int32))) (decide (y4 = (10 : Int32))) (decide (y5 = (10 : Int32))) (decide (y1 = (13 : Int32))) (decide (y2 = (13 : Int32))) (decide (y3 = (13 : Int32))) (decide (y4 = (13 : Int32)))
    · exact own_fin5 2 (decide (y0 = (10 : Int32))) (decide (y1 = (10 : Int32))) (decide (y2 = (10 : Int32))) (decide (y3 = (10 : Int32))) (decide (y4 = (10 : Int32))) (decide (y5 = (10 : Int32))) (decide (y1 = (13 : Int32))) (decide (y2 = (13 : Int32))) (decide (y3 = (13 : Int32))) (decide (y4 = (13 : Int32)))
    · exact own_fin5 3 (decide (y0 = (10 : Int32))) (decide (y1 = (10 : Int32))) (decide (y2 = (10 : Int32))) (decide (y3 = (10 : Int32))) (decide (y4 = (10 : Int32))) (decide (y5 = (10 : Int32))) (decide (y1 = (13 : Int32))) (decide (y2 = (13 : Int32))) (decide (y3 = (13 : Int32))) (decide (y4 = (13 : Int32)))
    · exact own_fin5 4 (decide (y0 = (10 : Int32))) (decide (y1 = (10 : Int32))) (decide (y2 = (10 : Int32))) (decide (y3 = (10 : Int32))) (decide (y4 = (10 : Int32))) (decide (y5 = (10 : Int32))) (decide (y1 = (13 : Int32))) (decide (y2 = (13 : Int32))) (decide (y3 = (13 : Int32))) (decide (y4 = (13 : Int32)))
    · exact own_fin5 5 (decide (y0 = (10 : Int32))) (decide (y1 = (10 : Int32))) (decide (y2 = (10 : Int32))) (decide (y3 = (10 : Int32))) (decide (y4 = (10 : Int32))) (decide (y5 = (10 : Int32))) (decide (y1 = (13 : Int32))) (decide (y2 = (13 : Int32))) (decide (y3 = (13 : Int32))) (decide (y4 = (13 : Int32)))
    · exact own_fin5 6 (decide (y0 = (10 : Int32))) (decide (y1 = (10 : Int32))) (decide (y2 = (10 : Int32))) (decide (y3 = (10 : Int32))) (decide (y4 = (10 : Int32))) (decide (y5 = (10 : Int32))) (decide (y1 = (13 : Int32))) (decide (y2 = (13 : Int32))) (decide (y3 = (13 : Int32))) (decide (y4 = (13 : Int32)))
  · rw [own_end, if_neg (by decide), if_neg (by decide), if_neg (by decide), if_neg (by decide), if_neg (by decide), if_neg (by decide)]
    rcases own_rng7 ht with rfl | rfl | rfl | rfl | rfl | rfl | rfl
    · exact own_fin6 0 (decide (y0 = (10 : Int32))) (decide (y1 = (10 : Int32))) (decide (y2 = (10 : Int32))) (decide (y3 = (10 : Int32))) (decide (y4 = (10 : Int32))) (decide (y5 = (10 : Int32))) (decide (y1 = (13 : Int32))) (decide (y2 = (13 : Int32))) (decide (y3 = (13 : Int32))) (decide (y4 = (13 : Int32)))
    · exact own_fin6 1 (decide (y0 = (10 : Int32))) (decide (y1 = (10 : Int32))) (decide (y2 = (10 : Int32))) (decide (y3 = (10 : Int32))) (decide (y4 = (10 : Int32))) (decide (y5 = (10 : Int32))) (decide (y1 = (13 : Int32))) (decide (y2 = (13 : Int32))) (decide (y3 = (13 : Int32))) (decide (y4 = (13 : Int32)))
    · exact own_fin6 2 (decide (y0 = (10 : Int32))) (decide (y1 = (10 : Int32))) (decide (y2 = (10 : Int32))) (decide (y3 = (10 : Int32))) (decide (y4 = (10 : Int32))) (decide (y5 = (10 : Int32))) (decide (y1 = (13 : Int32))) (decide (y2 = (13 : Int32))) (decide (y3 = (13 : Int32))) (decide (y4 = (13 : Int32)))
    · exact own_fin6 3 (decide (y0 = (10 : Int32))) (decide (y1 = (10 : Int32))) (decide (y2 = (10 : Int32))) (decide (y3 = (10 : Int32))) (decide (y4 = (10 : Int32))) (decide (y5 = (10 : Int32))) (decide (y1 = (13 : Int32))) (decide (y2 = (13 : Int32))) (decide (y3 = (13 : Int32))) (decide (y4 = (13 : Int32)))
    · exact own_fin6 4 (decide (y0 = (10 : Int32))) (decide (y1 = (10 : Int32))) (decide (y2 = (10 : Int32))) (decide (y3 = (10 : Int32))) (decide (y4 = (10 : Int32))) (decide (y5 = (10 : Int32))) (decide (y1 = (13 : Int32))) (decide (y2 = (13 : Int32))) (decide (y3 = (13 : Int32))) (decide (y4 = (13 : Int32)))
    · exact own_fin6 5 (decide (y0 = (10 : Int32))) (decide (y1 = (10 : Int32))) (decide (y2 = (10 : Int32))) (decide (y3 = (10 : Int32))) (decide (y4 = (10 : Int32))) (decide (y5 = (10 : Int32))) (decide (y1 = (13 : Int32))) (decide (y2 = (13 : Int32))) (decide (y3 = (13 : Int32))) (decide (y4 = (13 : Int32)))
    · exact own_fin6 6 (decide (y0 = (10 : Int32))) (decide (y1 = (10 : Int32))) (decide (y2 = (10 : Int32))) (decide (y3 = (10 : Int32))) (decide (y4 = (10 : Int32))) (decide (y5 = (10 : Int32))) (decide (y1 = (13 : Int32))) (decide (y2 = (13 : Int32))) (decide (y3 = (13 : Int32))) (decide (y4 = (13 : Int32)))
theorem own_rem7 (x : Int32) : ¬ ((x &&& (2147483647 : Int32)) % (7 : Int32)) < 0 ∧ ¬ 6 < ((x &&& (2147483647 : Int32)) % (7 : Int32)) := by
  have h : (x &&& (2147483647 : Int32)).toInt = x.toInt % 2 ^ 31 := Jvm.Kit.i32_mask x 2147483647 (k := 31) (by decide) (by decide)
  have z0 : (0 : Int32).toInt = 0 := by decide
  have z6 : (6 : Int32).toInt = 6 := by decide
  have z7 : (7 : Int32).toInt = 7 := by decide
  have hr : ((x &&& (2147483647 : Int32)) % (7 : Int32)).toInt = (x.toInt % 2 ^ 31) % 7 := by
    rw [Jvm.Kit.i32_rem_nonneg (by rw [h]; omega), h, z7]
  rw [Int32.lt_iff_toInt_lt, Int32.lt_iff_toInt_lt, hr, z0, z6]
  omega
def Q_law (n0 : Nat) (v : Option Value) (h : Heap) (L : List Loc) : Prop := v = some (.int 1) ∧ Fr n0 L
theorem ef_rm_law (m : MethodId) (x0 : Int32) (x1 : Int32) (x2 : Int32) (x3 : Int64) : entryFrame m #[(.int x0), (.int x1), (.int x2), (.long x3)] maxLocals = mkF m 0 #[.val (.int x0), .val (.int x1), .val (.int x2), .val (.long x3), .second, .unset, .unset, .unset, .unset] [] := by first | (simp [entryFrame, mkF, argsToLocals, Value.category, maxLocals]; done) | rfl | (simp [entryFrame, mkF, argsToLocals, Value.category, maxLocals] <;> rfl)
theorem pd_0 : parseMethodDescriptor "(IJI)B" = some ⟨[.int, .long, .int], some (.byte)⟩ := by decide +kernel
theorem pd_1 : parseMethodDescriptor "([BII)I" = some ⟨[.array .byte, .int, .int], some (.int)⟩ := by decide +kernel
theorem pd_2 : parseMethodDescriptor "([BIII)Z" = some ⟨[.array .byte, .int, .int, .int], some (.boolean)⟩ := by decide +kernel
set_option maxRecDepth 65536 in
set_option maxHeartbeats 40000000 in
theorem rm_law (l : Launch) (Z : State) (a0 : Array Value) (hw : ∀ d ∈ tables_1, d.before a0 Z = true) (ws : List Jvm.Cond) (p0 : Int32) (p1 : Int32) (p2 : Int32) (p3 : Int64) (h0 : Heap) (n0 : Nat) (Z0 : n0 ≤ h0.size)  :
    MetFree l x (head1 (Jvm.Cond.code x code maxLocals ret :: ws) room_1) (fun a U => a = #[(.int p0), (.int p1), (.int p2), (.long p3)] ∧ Z.Warmed39 U.vm ∧ U.heap = h0) (fun _ _ _ _ _ => True) (fun _ U o U' => ∃ v L, o = .returned v ∧ (Q_law n0) v U'.heap L ∧ FrameEnd U o U' L 16 128) := by
  refine MetFree.of_bodySF (plainFor_of_name pn_0) hisR ?_
  intro p e s m args below meth c s₁ Bd hml0 hP hK
  obtain ⟨rfl, hZ, hh⟩ := hP
  have hx := Bd.exec
  have hby := Bd.bytes
  have hlk : meth.locks = false := BodyLoose.notSynchronized Bd
  have hml : c.maxLocals = 9 := hml0
  have hown : s.vm.findClass "com/example/pollster/pollster/HttpHeadEndPinLaw" = some m.cls := findClass_of_methodNamed Bd.named
  have hnm := (name_of_methodNamed Bd.named Bd.method).1
  have X0 : Stand p l e room_1 s m #[(.int p0), (.int p1), (.int p2), (.long p3)] below meth c s₁ [] 0 0 := Stand.of_body Bd
  have e0 : s₁.heap = h0 := by rw [← hh, Bd.state]; rfl
  have N0 := Fr.nil n0
  show own_Go p e below s (Q_law n0) 16 128 s₁ (entryFrame m #[(.int p0), (.int p1), (.int p2), (.long p3)] maxLocals)
  refine own_cast (g' := (mkF m 0 #[.val (.int p0), .val (.int p1), .val (.int p2), .val (.long p3), .second, .unset, .unset, .unset, .unset] [])) (ef_rm_law m p0 p1 p2 p3) ?_
  refine own_step (T' := s₁) (g' := (mkF m 2 #[.val (.int p0), .val (.int p1), .val (.int p2), .val (.long p3), .second, .unset, .unset, .unset, .unset] [(.int (6 : Int32))])) (fun t k => XS.bipush X0.here hx rfl (hb hby at_0) k) ?_
  obtain ⟨T1, h1, k1, X1, e1, E1, A1, st1⟩ := newP X0 hx hZ (hw _ (List.mem_of_getElem? (i := 0) rfl)) e0 (g := (mkF m 2 #[.val (.int p0), .val (.int p1), .val (.int p2), .val (.long p3), .second, .unset, .unset, .unset, .unset] [(.int (6 : Int32))])) rfl (hb hby at_2) rfl (by decide) (cap := 6) (by decide) (by decide) (by decide : 0 + 1 ≤ _) (by decide : 0 + 6 ≤ _)
  obtain ⟨ad1, g_ad1⟩ : ∃ z, z = h0.size := ⟨_, rfl⟩
  rw [← g_ad1] at A1 st1
  have o1 : n0 ≤ ad1 := (Nat.le_trans Z0 (Nat.le_of_eq g_ad1.symm))
  have Z1 : n0 ≤ h1.size := (Nat.le_trans Z0 E1.1)
  have V1 : Arv Z h1 ad1 k1 .byte (6 : Int32) [(.int (0 : Int32)), (.int (0 : Int32)), (.int (0 : Int32)), (.int (0 : Int32)), (.int (0 : Int32)), (.int (0 : Int32))] (.int (0 : Int32)) := (Arv.new A1 (by decide)).pad (pad_rep [] (.int (0 : Int32)) 6)
  refine own_step (T' := T1) (g' := (mkF m 4 #[.val (.int p0), .val (.int p1), .val (.int p2), .val (.long p3), .second, .unset, .unset, .unset, .unset] [(.ref ad1)])) st1 ?_
  refine own_step (T' := T1) (g' := (mkF m 6 #[.val (.int p0), .val (.int p1), .val (.int p2), .val (.long p3), .second, .val (.ref ad1), .unset, .unset, .unset] [])) (fun t k => XS.astore X1.here hx rfl (hb hby at_4) rfl rfl (l' := #[.val (.int p0), .val (.int p1), .val (.int p2), .val (.long p3), .second, .val (.ref ad1), .unset, .unset, .unset]) rfl k) ?_
  refine own_step (T' := T1) (g' := (mkF m 8 #[.val (.int p0), .val (.int p1), .val (.int p2), .val (.long p3), .second, .val (.ref ad1), .unset, .unset, .unset] [(.ref ad1)])) (fun t k => XS.aload X1.here hx rfl (hb hby at_6) rfl rfl k) ?_
  refine own_step (T' := T1) (g' := (mkF m 9 #[.val (.int p0), .val (.int p1), .val (.int p2), .val (.long p3), .second, .val (.ref ad1), .unset, .unset, .unset] [(.int (0 : Int32)), (.ref ad1)])) (fun t k => XS.iconst X1.here hx rfl (hb hby at_8) k) ?_
  refine own_step (T' := T1) (g' := (mkF m 10 #[.val (.int p0), .val (.int p1), .val (.int p2), .val (.long p3), .second, .val (.ref ad1), .unset, .unset, .unset] [(.int p0), (.int (0 : Int32)), (.ref ad1)])) (fun t k => XS.iloadN X1.here hx rfl (hb hby at_9) rfl k) ?_
  refine own_step (T' := T1) (g' := (mkF m 11 #[.val (.int p0), .val (.int p1), .val (.int p2), .val (.long p3), .second, .val (.ref ad1), .unset, .unset, .unset] [(.long p3), (.int p0), (.int (0 : Int32)), (.ref ad1)])) (fun t k => XS.lloadN X1.here hx rfl (hb hby at_10) rfl k) ?_
  refine own_step (T' := T1) (g' := (mkF m 12 #[.val (.int p0), .val (.int p1), .val (.int p2), .val (.long p3), .second, .val (.ref ad1), .unset, .unset, .unset] [(.int (0 : Int32)), (.long p3), (.int p0), (.int (0 : Int32)), (.ref ad1)])) (fun t k => XS.iconst X1.here hx rfl (hb hby at_11) k) ?_
  obtain ⟨_, _, ⟨T3, L3, k3, n3⟩, -, X3, ⟨Lc3, hQ3, lq3, yq3, zq3⟩, st3⟩ := Jvm.LawKit.callS X1 hx (y := (⟨"com/example/pollster/pollster/HttpHeadEndPinLaw", "pick", "(IJI)B"⟩ : MethodName)) hown (mvT hZ (hw _ (List.mem_of_getElem? (i := 1) rfl))) (mvT hZ (hw _ (List.mem_of_getElem? (i := 2) rfl))) (mvT hZ (hw _ (List.mem_of_getElem? (i := 3) rfl))) (mvT hZ (hw _ (List.mem_of_getElem? (i := 4) rfl))) (by decide) (backOf (W := 2) (rm_pick l Z a0 hw [] p0 p3 (0 : Int32) h1 n0 Z1 ) hZ (hw _ (List.mem_of_getElem? (i := 4) rfl)) (hw _ (List.mem_of_getElem? (i := 3) rfl)) (by decide) (by decide)) (g := (mkF m 12 #[.val (.int p0), .val (.int p1), .val (.int p2), .val (.long p3), .second, .val (.ref ad1), .unset, .unset, .unset] [(.int (0 : Int32)), (.long p3), (.int p0), (.int (0 : Int32)), (.ref ad1)])) rfl (by rw [hml]; rfl) (argsL := [(.int p0), (.long p3), (.int (0 : Int32))]) (rest := [(.int (0 : Int32)), (.ref ad1)]) (lenOf pd_0 rfl) rfl (by show 2 * 0 + _ ≤ _; exact Nat.le_of_eq rfl) (hb hby at_12) (fun _ _ => ⟨rfl, e1, (by decide : 1 + 0 ≤ _), (by decide : 6 + 0 ≤ _)⟩)
  dsimp only [Pt.U, Pt.locs, Pt.cells, Pt.slots] at X3 lq3 yq3 zq3 st3 hQ3
  subst lq3 yq3 zq3
  obtain ⟨rfl, Nq3, eq2⟩ := hQ3
  have N3 := Fr.app N0 Nq3
  refine own_step (T' := T3) (g' := (mkF m 15 #[.val (.int p0), .val (.int p1), .val (.int p2), .val (.long p3), .second, .val (.ref ad1), .unset, .unset, .unset] [(.int (own_pick p0 p3 (0 : Int32))), (.int (0 : Int32)), (.ref ad1)])) st3 ?_
  obtain ⟨cl4, Ar4, qa4, S4, M4, H4, U4⟩ := id V1
  obtain ⟨T4, h4, X4, e4, W4, st4⟩ := stB X3 hx hZ eq2 Ar4 (j := (0 : Int32)) (inb_of S4 ⟨by decide, by decide⟩) (g := (mkF m 15 #[.val (.int p0), .val (.int p1), .val (.int p2), .val (.long p3), .second, .val (.ref ad1), .unset, .unset, .unset] [(.int (own_pick p0 p3 (0 : Int32))), (.int (0 : Int32)), (.ref ad1)])) rfl rfl (hb hby at_15)
  have g5 : Arv Z h4 ad1 k1 .byte (6 : Int32) [(.int (nar .byte (own_pick p0 p3 (0 : Int32)))), (.int (0 : Int32)), (.int (0 : Int32)), (.int (0 : Int32)), (.int (0 : Int32)), (.int (0 : Int32))] (.int (0 : Int32)) := Arv.set Ar4 qa4 S4 M4 H4 U4 (fits_nar_byte _) W4 0 rfl (Nat.le_of_ble_eq_true rfl)
  have N4 := Fr.snoc X4 N3 o1
  have Z4 : n0 ≤ h4.size := (Nat.le_trans Z1 (Nat.le_of_eq W4.size.symm))
  refine own_step (T' := T4) (g' := (mkF m 16 #[.val (.int p0), .val (.int p1), .val (.int p2), .val (.long p3), .second, .val (.ref ad1), .unset, .unset, .unset] [])) st4 ?_
  refine own_step (T' := T4) (g' := (mkF m 18 #[.val (.int p0), .val (.int p1), .val (.int p2), .val (.long p3), .second, .val (.ref ad1), .unset, .unset, .unset] [(.ref ad1)])) (fun t k => XS.aload X4.here hx rfl (hb hby at_16) rfl rfl k) ?_
  refine own_step (T' := T4) (g' := (mkF m 19 #[.val (.int p0), .val (.int p1), .val (.int p2), .val (.long p3), .second, .val (.ref ad1), .unset, .unset, .unset] [(.int (1 : Int32)), (.ref ad1)])) (fun t k => XS.iconst X4.here hx rfl (hb hby at_18) k) ?_
  refine own_step (T' := T4) (g' := (mkF m 20 #[.val (.int p0), .val (.int p1), .val (.int p2), .val (.long p3), .second, .val (.ref ad1), .unset, .unset, .unset] [(.int p0), (.int (1 : Int32)), (.ref ad1)])) (fun t k => XS.iloadN X4.here hx rfl (hb hby at_19) rfl k) ?_
  refine own_step (T' := T4) (g' := (mkF m 21 #[.val (.int p0), .val (.int p1), .val (.int p2), .val (.long p3), .second, .val (.ref ad1), .unset, .unset, .unset] [(.long p3), (.int p0), (.int (1 : Int32)), (.ref ad1)])) (fun t k => XS.lloadN X4.here hx rfl (hb hby at_20) rfl k) ?_
  refine own_step (T' := T4) (g' := (mkF m 22 #[.val (.int p0), .val (.int p1), .val (.int p2), .val (.long p3), .second, .val (.ref ad1), .unset, .unset, .unset] [(.int (1 : Int32)), (.long p3), (.int p0), (.int (1 : Int32)), (.ref ad1)])) (fun t k => XS.iconst X4.here hx rfl (hb hby at_21) k) ?_
  obtain ⟨_, _, ⟨T7, L7, k7, n7⟩, -, X7, ⟨Lc7, hQ7, lq7, yq7, zq7⟩, st7⟩ := Jvm.LawKit.callS X4 hx (y := (⟨"com/example/pollster/pollster/HttpHeadEndPinLaw", "pick", "(IJI)B"⟩ : MethodName)) hown (mvT hZ (hw _ (List.mem_of_getElem? (i := 1) rfl))) (mvT hZ (hw _ (List.mem_of_getElem? (i := 2) rfl))) (mvT hZ (hw _ (List.mem_of_getElem? (i := 3) rfl))) (mvT hZ (hw _ (List.mem_of_getElem? (i := 4) rfl))) (by decide) (backOf (W := 2) (rm_pick l Z a0 hw [] p0 p3 (1 : Int32) h4 n0 Z4 ) hZ (hw _ (List.mem_of_getElem? (i := 4) rfl)) (hw _ (List.mem_of_getElem? (i := 3) rfl)) (by decide) (by decide)) (g := (mkF m 22 #[.val (.int p0), .val (.int p1), .val (.int p2), .val (.long p3), .second, .val (.ref ad1), .unset, .unset, .unset] [(.int (1 : Int32)), (.long p3), (.int p0), (.int (1 : Int32)), (.ref ad1)])) rfl (by rw [hml]; rfl) (argsL := [(.int p0), (.long p3), (.int (1 : Int32))]) (rest := [(.int (1 : Int32)), (.ref ad1)]) (lenOf pd_0 rfl) rfl (by show 2 * 0 + _ ≤ _; exact Nat.le_of_eq rfl) (hb hby at_22) (fun _ _ => ⟨rfl, e4, (by decide : 1 + 0 ≤ _), (by decide : 6 + 0 ≤ _)⟩)
  dsimp only [Pt.U, Pt.locs, Pt.cells, Pt.slots] at X7 lq7 yq7 zq7 st7 hQ7
  subst lq7 yq7 zq7
  obtain ⟨rfl, Nq7, eq6⟩ := hQ7
  have N7 := Fr.app N4 Nq7
  refine own_step (T' := T7) (g' := (mkF m 25 #[.val (.int p0), .val (.int p1), .val (.int p2), .val (.long p3), .second, .val (.ref ad1), .unset, .unset, .unset] [(.int (own_pick p0 p3 (1 : Int32))), (.int (1 : Int32)), (.ref ad1)])) st7 ?_
  obtain ⟨cl8, Ar8, qa8, S8, M8, H8, U8⟩ := id g5
  obtain ⟨T8, h8, X8, e8, W8, st8⟩ := stB X7 hx hZ eq6 Ar8 (j := (1 : Int32)) (inb_of S8 ⟨by decide, by decide⟩) (g := (mkF m 25 #[.val (.int p0), .val (.int p1), .val (.int p2), .val (.long p3), .second, .val (.ref ad1), .unset, .unset, .unset] [(.int (own_pick p0 p3 (1 : Int32))), (.int (1 : Int32)), (.ref ad1)])) rfl rfl (hb hby at_25)
  have g9 : Arv Z h8 ad1 k1 .byte (6 : Int32) [(.int (nar .byte (own_pick p0 p3 (0 : Int32)))), (.int (nar .byte (own_pick p0 p3 (1 : Int32)))), (.int (0 : Int32)), (.int (0 : Int32)), (.int (0 : Int32)), (.int (0 : Int32))] (.int (0 : Int32)) := Arv.set Ar8 qa8 S8 M8 H8 U8 (fits_nar_byte _) W8 1 rfl (Nat.le_of_ble_eq_true rfl)
  have N8 := Fr.snoc X8 N7 o1
  have Z8 : n0 ≤ h8.size := (Nat.le_trans Z4 (Nat.le_of_eq W8.size.symm))
  refine own_step (T' := T8) (g' := (mkF m 26 #[.val (.int p0), .val (.int p1), .val (.int p2), .val (.long p3), .second, .val (.ref ad1), .unset, .unset, .unset] [])) st8 ?_
  refine own_step (T' := T8) (g' := (mkF m 28 #[.val (.int p0), .val (.int p1), .val (.int p2), .val (.long p3), .second, .val (.ref ad1), .unset, .unset, .unset] [(.ref ad1)])) (fun t k => XS.aload X8.here hx rfl (hb hby at_26) rfl rfl k) ?_
  refine own_step (T' := T8) (g' := (mkF m 29 #[.val (.int p0), .val (.int p1), .val (.int p2), .val (.long p3), .second, .val (.ref ad1), .unset, .unset, .unset] [(.int (2 : Int32)), (.ref ad1)])) (fun t k => XS.iconst X8.here hx rfl (hb hby at_28) k) ?_
  refine own_step (T' := T8) (g' := (mkF m 30 #[.val (.int p0), .val (.int p1), .val (.int p2), .val (.long p3), .second, .val (.ref ad1), .unset, .unset, .unset] [(.int p0), (.int (2 : Int32)), (.ref ad1)])) (fun t k => XS.iloadN X8.here hx rfl (hb hby at_29) rfl k) ?_
  refine own_step (T' := T8) (g' := (mkF m 31 #[.val (.int p0), .val (.int p1), .val (.int p2), .val (.long p3), .second, .val (.ref ad1), .unset, .unset, .unset] [(.long p3), (.int p0), (.int (2 : Int32)), (.ref ad1)])) (fun t k => XS.lloadN X8.here hx rfl (hb hby at_30) rfl k) ?_
  refine own_step (T' := T8) (g' := (mkF m 32 #[.val (.int p0), .val (.int p1), .val (.int p2), .val (.long p3), .second, .val (.ref ad1), .unset, .unset, .unset] [(.int (2 : Int32)), (.long p3), (.int p0), (.int (2 : Int32)), (.ref ad1)])) (fun t k => XS.iconst X8.here hx rfl (hb hby at_31) k) ?_
  obtain ⟨_, _, ⟨T11, L11, k11, n11⟩, -, X11, ⟨Lc11, hQ11, lq11, yq11, zq11⟩, st11⟩ := Jvm.LawKit.callS X8 hx (y := (⟨"com/example/pollster/pollster/HttpHeadEndPinLaw", "pick", "(IJI)B"⟩ : MethodName)) hown (mvT hZ (hw _ (List.mem_of_getElem? (i := 1) rfl))) (mvT hZ (hw _ (List.mem_of_getElem? (i := 2) rfl))) (mvT hZ (hw _ (List.mem_of_getElem? (i := 3) rfl))) (mvT hZ (hw _ (List.mem_of_getElem? (i := 4) rfl))) (by decide) (backOf (W := 2) (rm_pick l Z a0 hw [] p0 p3 (2 : Int32) h8 n0 Z8 ) hZ (hw _ (List.mem_of_getElem? (i := 4) rfl)) (hw _ (List.mem_of_getElem? (i := 3) rfl)) (by decide) (by decide)) (g := (mkF m 32 #[.val (.int p0), .val (.int p1), .val (.int p2), .val (.long p3), .second, .val (.ref ad1), .unset, .unset, .unset] [(.int (2 : Int32)), (.long p3), (.int p0), (.int (2 : Int32)), (.ref ad1)])) rfl (by rw [hml]; rfl) (argsL := [(.int p0), (.long p3), (.int (2 : Int32))]) (rest := [(.int (2 : Int32)), (.ref ad1)]) (lenOf pd_0 rfl) rfl (by show 2 * 0 + _ ≤ _; exact Nat.le_of_eq rfl) (hb hby at_32) (fun _ _ => ⟨rfl, e8, (by decide : 1 + 0 ≤ _), (by decide : 6 + 0 ≤ _)⟩)
  dsimp only [Pt.U, Pt.locs, Pt.cells, Pt.slots] at X11 lq11 yq11 zq11 st11 hQ11
  subst lq11 yq11 zq11
  obtain ⟨rfl, Nq11, eq10⟩ := hQ11
  have N11 := Fr.app N8 Nq11
  refine own_step (T' := T11) (g' := (mkF m 35 #[.val (.int p0), .val (.int p1), .val (.int p2), .val (.long p3), .second, .val (.ref ad1), .unset, .unset, .unset] [(.int (own_pick p0 p3 (2 : Int32))), (.int (2 : Int32)), (.ref ad1)])) st11 ?_
  obtain ⟨cl12, Ar12, qa12, S12, M12, H12, U12⟩ := id g9
  obtain ⟨T12, h12, X12, e12, W12, st12⟩ := stB X11 hx hZ eq10 Ar12 (j := (2 : Int32)) (inb_of S12 ⟨by decide, by decide⟩) (g := (mkF m 35 #[.val (.int p0), .val (.int p1), .val (.int p2), .val (.long p3), .second, .val (.ref ad1), .unset, .unset, .unset] [(.int (own_pick p0 p3 (2 : Int32))), (.int (2 : Int32)), (.ref ad1)])) rfl rfl (hb hby at_35)
  have g13 : Arv Z h12 ad1 k1 .byte (6 : Int32) [(.int (nar .byte (own_pick p0 p3 (0 : Int32)))), (.int (nar .byte (own_pick p0 p3 (1 : Int32)))), (.int (nar .byte (own_pick p0 p3 (2 : Int32)))), (.int (0 : Int32)), (.int (0 : Int32)), (.int (0 : Int32))] (.int (0 : Int32)) := Arv.set Ar12 qa12 S12 M12 H12 U12 (fits_nar_byte _) W12 2 rfl (Nat.le_of_ble_eq_true rfl)
  have N12 := Fr.snoc X12 N11 o1
  have Z12 : n0 ≤ h12.size := (Nat.le_trans Z8 (Nat.le_of_eq W12.size.symm))
  refine own_step (T' := T12) (g' := (mkF m 36 #[.val (.int p0), .val (.int p1), .val (.int p2), .val (.long p3), .second, .val (.ref ad1), .unset, .unset, .unset] [])) st12 ?_
  refine own_step (T' := T12) (g' := (mkF m 38 #[.val (.int p0), .val (.int p1), .val (.int p2), .val (.long p3), .second, .val (.ref ad1), .unset, .unset, .unset] [(.ref ad1)])) (fun t k => XS.aload X12.here hx rfl (hb hby at_36) rfl rfl k) ?_
  refine own_step (T' := T12) (g' := (mkF m 39 #[.val (.int p0), .val (.int p1), .val (.int p2), .val (.long p3), .second, .val (.ref ad1), .unset, .unset, .unset] [(.int (3 : Int32)), (.ref ad1)])) (fun t k => XS.iconst X12.here hx rfl (hb hby at_38) k) ?_
  refine own_step (T' := T12) (g' := (mkF m 40 #[.val (.int p0), .val (.int p1), .val (.int p2), .val (.long p3), .second, .val (.ref ad1), .unset, .unset, .unset] [(.int p0), (.int (3 : Int32)), (.ref ad1)])) (fun t k => XS.iloadN X12.here hx rfl (hb hby at_39) rfl k) ?_
  refine own_step (T' := T12) (g' := (mkF m 41 #[.val (.int p0), .val (.int p1), .val (.int p2), .val (.long p3), .second, .val (.ref ad1), .unset, .unset, .unset] [(.long p3), (.int p0), (.int (3 : Int32)), (.ref ad1)])) (fun t k => XS.lloadN X12.here hx rfl (hb hby at_40) rfl k) ?_
  refine own_step (T' := T12) (g' := (mkF m 42 #[.val (.int p0), .val (.int p1), .val (.int p2), .val (.long p3), .second, .val (.ref ad1), .unset, .unset, .unset] [(.int (3 : Int32)), (.long p3), (.int p0), (.int (3 : Int32)), (.ref ad1)])) (fun t k => XS.iconst X12.here hx rfl (hb hby at_41) k) ?_
  obtain ⟨_, _, ⟨T15, L15, k15, n15⟩, -, X15, ⟨Lc15, hQ15, lq15, yq15, zq15⟩, st15⟩ := Jvm.LawKit.callS X12 hx (y := (⟨"com/example/pollster/pollster/HttpHeadEndPinLaw", "pick", "(IJI)B"⟩ : MethodName)) hown (mvT hZ (hw _ (List.mem_of_getElem? (i := 1) rfl))) (mvT hZ (hw _ (List.mem_of_getElem? (i := 2) rfl))) (mvT hZ (hw _ (List.mem_of_getElem? (i := 3) rfl))) (mvT hZ (hw _ (List.mem_of_getElem? (i := 4) rfl))) (by decide) (backOf (W := 2) (rm_pick l Z a0 hw [] p0 p3 (3 : Int32) h12 n0 Z12 ) hZ (hw _ (List.mem_of_getElem? (i := 4) rfl)) (hw _ (List.mem_of_getElem? (i := 3) rfl)) (by decide) (by decide)) (g := (mkF m 42 #[.val (.int p0), .val (.int p1), .val (.int p2), .val (.long p3), .second, .val (.ref ad1), .unset, .unset, .unset] [(.int (3 : Int32)), (.long p3), (.int p0), (.int (3 : Int32)), (.ref ad1)])) rfl (by rw [hml]; rfl) (argsL := [(.int p0), (.long p3), (.int (3 : Int32))]) (rest := [(.int (3 : Int32)), (.ref ad1)]) (lenOf pd_0 rfl) rfl (by show 2 * 0 + _ ≤ _; exact Nat.le_of_eq rfl) (hb hby at_42) (fun _ _ => ⟨rfl, e12, (by decide : 1 + 0 ≤ _), (by decide : 6 + 0 ≤ _)⟩)
  dsimp only [Pt.U, Pt.locs, Pt.cells, Pt.slots] at X15 lq15 yq15 zq15 st15 hQ15
  subst lq15 yq15 zq15
  obtain ⟨rfl, Nq15, eq14⟩ := hQ15
  have N15 := Fr.app N12 Nq15
  refine own_step (T' := T15) (g' := (mkF m 45 #[.val (.int p0), .val (.int p1), .val (.int p2), .val (.long p3), .second, .val (.ref ad1), .unset, .unset, .unset] [(.int (own_pick p0 p3 (3 : Int32))), (.int (3 : Int32)), (.ref ad1)])) st15 ?_
  obtain ⟨cl16, Ar16, qa16, S16, M16, H16, U16⟩ := id g13
  obtain ⟨T16, h16, X16, e16, W16, st16⟩ := stB X15 hx hZ eq14 Ar16 (j := (3 : Int32)) (inb_of S16 ⟨by decide, by decide⟩) (g := (mkF m 45 #[.val (.int p0), .val (.int p1), .val (.int p2), .val (.long p3), .second, .val (.ref ad1), .unset, .unset, .unset] [(.int (own_pick p0 p3 (3 : Int32))), (.int (3 : Int32)), (.ref ad1)])) rfl rfl (hb hby at_45)
  have g17 : Arv Z h16 ad1 k1 .byte (6 : Int32) [(.int (nar .byte (own_pick p0 p3 (0 : Int32)))), (.int (nar .byte (own_pick p0 p3 (1 : Int32)))), (.int (nar .byte (own_pick p0 p3 (2 : Int32)))), (.int (nar .byte (own_pick p0 p3 (3 : Int32)))), (.int (0 : Int32)), (.int (0 : Int32))] (.int (0 : Int32)) := Arv.set Ar16 qa16 S16 M16 H16 U16 (fits_nar_byte _) W16 3 rfl (Nat.le_of_ble_eq_true rfl)
  have N16 := Fr.snoc X16 N15 o1
  have Z16 : n0 ≤ h16.size := (Nat.le_trans Z12 (Nat.le_of_eq W16.size.symm))
  refine own_step (T' := T16) (g' := (mkF m 46 #[.val (.int p0), .val (.int p1), .val (.int p2), .val (.long p3), .second, .val (.ref ad1), .unset, .unset, .unset] [])) st16 ?_
  refine own_step (T' := T16) (g' := (mkF m 48 #[.val (.int p0), .val (.int p1), .val (.int p2), .val (.long p3), .second, .val (.ref ad1), .unset, .unset, .unset] [(.ref ad1)])) (fun t k => XS.aload X16.here hx rfl (hb hby at_46) rfl rfl k) ?_
  refine own_step (T' := T16) (g' := (mkF m 49 #[.val (.int p0), .val (.int p1), .val (.int p2), .val (.long p3), .second, .val (.ref ad1), .unset, .unset, .unset] [(.int (4 : Int32)), (.ref ad1)])) (fun t k => XS.iconst X16.here hx rfl (hb hby at_48) k) ?_
  refine own_step (T' := T16) (g' := (mkF m 50 #[.val (.int p0), .val (.int p1), .val (.int p2), .val (.long p3), .second, .val (.ref ad1), .unset, .unset, .unset] [(.int p0), (.int (4 : Int32)), (.ref ad1)])) (fun t k => XS.iloadN X16.here hx rfl (hb hby at_49) rfl k) ?_
  refine own_step (T' := T16) (g' := (mkF m 51 #[.val (.int p0), .val (.int p1), .val (.int p2), .val (.long p3), .second, .val (.ref ad1), .unset, .unset, .unset] [(.long p3), (.int p0), (.int (4 : Int32)), (.ref ad1)])) (fun t k => XS.lloadN X16.here hx rfl (hb hby at_50) rfl k) ?_
  refine own_step (T' := T16) (g' := (mkF m 52 #[.val (.int p0), .val (.int p1), .val (.int p2), .val (.long p3), .second, .val (.ref ad1), .unset, .unset, .unset] [(.int (4 : Int32)), (.long p3), (.int p0), (.int (4 : Int32)), (.ref ad1)])) (fun t k => XS.iconst X16.here hx rfl (hb hby at_51) k) ?_
  obtain ⟨_, _, ⟨T19, L19, k19, n19⟩, -, X19, ⟨Lc19, hQ19, lq19, yq19, zq19⟩, st19⟩ := Jvm.LawKit.callS X16 hx (y := (⟨"com/example/pollster/pollster/HttpHeadEndPinLaw", "pick", "(IJI)B"⟩ : MethodName)) hown (mvT hZ (hw _ (List.mem_of_getElem? (i := 1) rfl))) (mvT hZ (hw _ (List.mem_of_getElem? (i := 2) rfl))) (mvT hZ (hw _ (List.mem_of_getElem? (i := 3) rfl))) (mvT hZ (hw _ (List.mem_of_getElem? (i := 4) rfl))) (by decide) (backOf (W := 2) (rm_pick l Z a0 hw [] p0 p3 (4 : Int32) h16 n0 Z16 ) hZ (hw _ (List.mem_of_getElem? (i := 4) rfl)) (hw _ (List.mem_of_getElem? (i := 3) rfl)) (by decide) (by decide)) (g := (mkF m 52 #[.val (.int p0), .val (.int p1), .val (.int p2), .val (.long p3), .second, .val (.ref ad1), .unset, .unset, .unset] [(.int (4 : Int32)), (.long p3), (.int p0), (.int (4 : Int32)), (.ref ad1)])) rfl (by rw [hml]; rfl) (argsL := [(.int p0), (.long p3), (.int (4 : Int32))]) (rest := [(.int (4 : Int32)), (.ref ad1)]) (lenOf pd_0 rfl) rfl (by show 2 * 0 + _ ≤ _; exact Nat.le_of_eq rfl) (hb hby at_52) (fun _ _ => ⟨rfl, e16, (by decide : 1 + 0 ≤ _), (by decide : 6 + 0 ≤ _)⟩)
  dsimp only [Pt.U, Pt.locs, Pt.cells, Pt.slots] at X19 lq19 yq19 zq19 st19 hQ19
  subst lq19 yq19 zq19
  obtain ⟨rfl, Nq19, eq18⟩ := hQ19
  have N19 := Fr.app N16 Nq19
  refine own_step (T' := T19) (g' := (mkF m 55 #[.val (.int p0), .val (.int p1), .val (.int p2), .val (.long p3), .second, .val (.ref ad1), .unset, .unset, .unset] [(.int (own_pick p0 p3 (4 : Int32))), (.int (4 : Int32)), (.ref ad1)])) st19 ?_
  obtain ⟨cl20, Ar20, qa20, S20, M20, H20, U20⟩ := id g17
  obtain ⟨T20, h20, X20, e20, W20, st20⟩ := stB X19 hx hZ eq18 Ar20 (j := (4 : Int32)) (inb_of S20 ⟨by decide, by decide⟩) (g := (mkF m 55 #[.val (.int p0), .val (.int p1), .val (.int p2), .val (.long p3), .second, .val (.ref ad1), .unset, .unset, .unset] [(.int (own_pick p0 p3 (4 : Int32))), (.int (4 : Int32)), (.ref ad1)])) rfl rfl (hb hby at_55)
  have g21 : Arv Z h20 ad1 k1 .byte (6 : Int32) [(.int (nar .byte (own_pick p0 p3 (0 : Int32)))), (.int (nar .byte (own_pick p0 p3 (1 : Int32)))), (.int (nar .byte (own_pick p0 p3 (2 : Int32)))), (.int (nar .byte (own_pick p0 p3 (3 : Int32)))), (.int (nar .byte (own_pick p0 p3 (4 : Int32)))), (.int (0 : Int32))] (.int (0 : Int32)) := Arv.set Ar20 qa20 S20 M20 H20 U20 (fits_nar_byte _) W20 4 rfl (Nat.le_of_ble_eq_true rfl)
  have N20 := Fr.snoc X20 N19 o1
  have Z20 : n0 ≤ h20.size := (Nat.le_trans Z16 (Nat.le_of_eq W20.size.symm))
  refine own_step (T' := T20) (g' := (mkF m 56 #[.val (.int p0), .val (.int p1), .val (.int p2), .val (.long p3), .second, .val (.ref ad1), .unset, .unset, .unset] [])) st20 ?_
  refine own_step (T' := T20) (g' := (mkF m 58 #[.val (.int p0), .val (.int p1), .val (.int p2), .val (.long p3), .second, .val (.ref ad1), .unset, .unset, .unset] [(.ref ad1)])) (fun t k => XS.aload X20.here hx rfl (hb hby at_56) rfl rfl k) ?_
  refine own_step (T' := T20) (g' := (mkF m 59 #[.val (.int p0), .val (.int p1), .val (.int p2), .val (.long p3), .second, .val (.ref ad1), .unset, .unset, .unset] [(.int (5 : Int32)), (.ref ad1)])) (fun t k => XS.iconst X20.here hx rfl (hb hby at_58) k) ?_
  refine own_step (T' := T20) (g' := (mkF m 60 #[.val (.int p0), .val (.int p1), .val (.int p2), .val (.long p3), .second, .val (.ref ad1), .unset, .unset, .unset] [(.int p0), (.int (5 : Int32)), (.ref ad1)])) (fun t k => XS.iloadN X20.here hx rfl (hb hby at_59) rfl k) ?_
  refine own_step (T' := T20) (g' := (mkF m 61 #[.val (.int p0), .val (.int p1), .val (.int p2), .val (.long p3), .second, .val (.ref ad1), .unset, .unset, .unset] [(.long p3), (.int p0), (.int (5 : Int32)), (.ref ad1)])) (fun t k => XS.lloadN X20.here hx rfl (hb hby at_60) rfl k) ?_
  refine own_step (T' := T20) (g' := (mkF m 62 #[.val (.int p0), .val (.int p1), .val (.int p2), .val (.long p3), .second, .val (.ref ad1), .unset, .unset, .unset] [(.int (5 : Int32)), (.long p3), (.int p0), (.int (5 : Int32)), (.ref ad1)])) (fun t k => XS.iconst X20.here hx rfl (hb hby at_61) k) ?_
  obtain ⟨_, _, ⟨T23, L23, k23, n23⟩, -, X23, ⟨Lc23, hQ23, lq23, yq23, zq23⟩, st23⟩ := Jvm.LawKit.callS X20 hx (y := (⟨"com/example/pollster/pollster/HttpHeadEndPinLaw", "pick", "(IJI)B"⟩ : MethodName)) hown (mvT hZ (hw _ (List.mem_of_getElem? (i := 1) rfl))) (mvT hZ (hw _ (List.mem_of_getElem? (i := 2) rfl))) (mvT hZ (hw _ (List.mem_of_getElem? (i := 3) rfl))) (mvT hZ (hw _ (List.mem_of_getElem? (i := 4) rfl))) (by decide) (backOf (W := 2) (rm_pick l Z a0 hw [] p0 p3 (5 : Int32) h20 n0 Z20 ) hZ (hw _ (List.mem_of_getElem? (i := 4) rfl)) (hw _ (List.mem_of_getElem? (i := 3) rfl)) (by decide) (by decide)) (g := (mkF m 62 #[.val (.int p0), .val (.int p1), .val (.int p2), .val (.long p3), .second, .val (.ref ad1), .unset, .unset, .unset] [(.int (5 : Int32)), (.long p3), (.int p0), (.int (5 : Int32)), (.ref ad1)])) rfl (by rw [hml]; rfl) (argsL := [(.int p0), (.long p3), (.int (5 : Int32))]) (rest := [(.int (5 : Int32)), (.ref ad1)]) (lenOf pd_0 rfl) rfl (by show 2 * 0 + _ ≤ _; exact Nat.le_of_eq rfl) (hb hby at_62) (fun _ _ => ⟨rfl, e20, (by decide : 1 + 0 ≤ _), (by decide : 6 + 0 ≤ _)⟩)
  dsimp only [Pt.U, Pt.locs, Pt.cells, Pt.slots] at X23 lq23 yq23 zq23 st23 hQ23
  subst lq23 yq23 zq23
  obtain ⟨rfl, Nq23, eq22⟩ := hQ23
  have N23 := Fr.app N20 Nq23
  refine own_step (T' := T23) (g' := (mkF m 65 #[.val (.int p0), .val (.int p1), .val (.int p2), .val (.long p3), .second, .val (.ref ad1), .unset, .unset, .unset] [(.int (own_pick p0 p3 (5 : Int32))), (.int (5 : Int32)), (.ref ad1)])) st23 ?_
  obtain ⟨cl24, Ar24, qa24, S24, M24, H24, U24⟩ := id g21
  obtain ⟨T24, h24, X24, e24, W24, st24⟩ := stB X23 hx hZ eq22 Ar24 (j := (5 : Int32)) (inb_of S24 ⟨by decide, by decide⟩) (g := (mkF m 65 #[.val (.int p0), .val (.int p1), .val (.int p2), .val (.long p3), .second, .val (.ref ad1), .unset, .unset, .unset] [(.int (own_pick p0 p3 (5 : Int32))), (.int (5 : Int32)), (.ref ad1)])) rfl rfl (hb hby at_65)
  have g25 : Arv Z h24 ad1 k1 .byte (6 : Int32) [(.int (nar .byte (own_pick p0 p3 (0 : Int32)))), (.int (nar .byte (own_pick p0 p3 (1 : Int32)))), (.int (nar .byte (own_pick p0 p3 (2 : Int32)))), (.int (nar .byte (own_pick p0 p3 (3 : Int32)))), (.int (nar .byte (own_pick p0 p3 (4 : Int32)))), (.int (nar .byte (own_pick p0 p3 (5 : Int32))))] (.int (0 : Int32)) := Arv.set Ar24 qa24 S24 M24 H24 U24 (fits_nar_byte _) W24 5 rfl (Nat.le_of_ble_eq_true rfl)
  have N24 := Fr.snoc X24 N23 o1
  have Z24 : n0 ≤ h24.size := (Nat.le_trans Z20 (Nat.le_of_eq W24.size.symm))
  refine own_step (T' := T24) (g' := (mkF m 66 #[.val (.int p0), .val (.int p1), .val (.int p2), .val (.long p3), .second, .val (.ref ad1), .unset, .unset, .unset] [])) st24 ?_
  obtain ⟨y0, hy0⟩ : ∃ z, z = (nar .byte (own_pick p0 p3 (0 : Int32))) := ⟨_, rfl⟩
  obtain ⟨y1, hy1⟩ : ∃ z, z = (nar .byte (own_pick p0 p3 (1 : Int32))) := ⟨_, rfl⟩
  obtain ⟨y2, hy2⟩ : ∃ z, z = (nar .byte (own_pick p0 p3 (2 : Int32))) := ⟨_, rfl⟩
  obtain ⟨y3, hy3⟩ : ∃ z, z = (nar .byte (own_pick p0 p3 (3 : Int32))) := ⟨_, rfl⟩
  obtain ⟨y4, hy4⟩ : ∃ z, z = (nar .byte (own_pick p0 p3 (4 : Int32))) := ⟨_, rfl⟩
  obtain ⟨y5, hy5⟩ : ∃ z, z = (nar .byte (own_pick p0 p3 (5 : Int32))) := ⟨_, rfl⟩
  rw [← hy0, ← hy1, ← hy2, ← hy3, ← hy4, ← hy5] at g25
  refine own_step (T' := T24) (g' := (mkF m 67 #[.val (.int p0), .val (.int p1), .val (.int p2), .val (.long p3), .second, .val (.ref ad1), .unset, .unset, .unset] [(.int p1)])) (fun t k => XS.iloadN X24.here hx rfl (hb hby at_66) rfl k) ?_
  refine own_step (T' := T24) (g' := (mkF m 69 #[.val (.int p0), .val (.int p1), .val (.int p2), .val (.long p3), .second, .val (.ref ad1), .unset, .unset, .unset] [(.int (2147483647 : Int32)), (.int p1)])) (X24.ldcInt hx hown (mvT hZ (hw _ (List.mem_of_getElem? (i := 5) rfl))) (g := (mkF m 67 #[.val (.int p0), .val (.int p1), .val (.int p2), .val (.long p3), .second, .val (.ref ad1), .unset, .unset, .unset] [(.int p1)])) rfl (hb hby at_67)) ?_
  refine own_step (T' := T24) (g' := (mkF m 70 #[.val (.int p0), .val (.int p1), .val (.int p2), .val (.long p3), .second, .val (.ref ad1), .unset, .unset, .unset] [(.int (p1 &&& (2147483647 : Int32)))])) (fun t k => XS.iand X24.here hx rfl (hb hby at_69) rfl k) ?_
  refine own_step (T' := T24) (g' := (mkF m 72 #[.val (.int p0), .val (.int p1), .val (.int p2), .val (.long p3), .second, .val (.ref ad1), .unset, .unset, .unset] [(.int (7 : Int32)), (.int (p1 &&& (2147483647 : Int32)))])) (fun t k => XS.bipush X24.here hx rfl (hb hby at_70) k) ?_
  refine own_step (T' := T24) (g' := (mkF m 73 #[.val (.int p0), .val (.int p1), .val (.int p2), .val (.long p3), .second, .val (.ref ad1), .unset, .unset, .unset] [(.int ((p1 &&& (2147483647 : Int32)) % (7 : Int32)))])) (fun t k => iremM (g := (mkF m 72 #[.val (.int p0), .val (.int p1), .val (.int p2), .val (.long p3), .second, .val (.ref ad1), .unset, .unset, .unset] [(.int (7 : Int32)), (.int (p1 &&& (2147483647 : Int32)))])) X24 hx rfl (hb hby at_72) rfl (by decide) k) ?_
  generalize hd_fr : ((p1 &&& (2147483647 : Int32)) % (7 : Int32)) = fr
  refine own_step (T' := T24) (g' := (mkF m 75 #[.val (.int p0), .val (.int p1), .val (.int p2), .val (.long p3), .second, .val (.ref ad1), .val (.int fr), .unset, .unset] [])) (fun t k => XS.istore X24.here hx rfl (hb hby at_73) rfl (l' := #[.val (.int p0), .val (.int p1), .val (.int p2), .val (.long p3), .second, .val (.ref ad1), .val (.int fr), .unset, .unset]) rfl k) ?_
  refine own_step (T' := T24) (g' := (mkF m 76 #[.val (.int p0), .val (.int p1), .val (.int p2), .val (.long p3), .second, .val (.ref ad1), .val (.int fr), .unset, .unset] [(.int p2)])) (fun t k => XS.iloadN X24.here hx rfl (hb hby at_75) rfl k) ?_
  refine own_step (T' := T24) (g' := (mkF m 78 #[.val (.int p0), .val (.int p1), .val (.int p2), .val (.long p3), .second, .val (.ref ad1), .val (.int fr), .unset, .unset] [(.int (2147483647 : Int32)), (.int p2)])) (X24.ldcInt hx hown (mvT hZ (hw _ (List.mem_of_getElem? (i := 5) rfl))) (g := (mkF m 76 #[.val (.int p0), .val (.int p1), .val (.int p2), .val (.long p3), .second, .val (.ref ad1), .val (.int fr), .unset, .unset] [(.int p2)])) rfl (hb hby at_76)) ?_
  refine own_step (T' := T24) (g' := (mkF m 79 #[.val (.int p0), .val (.int p1), .val (.int p2), .val (.long p3), .second, .val (.ref ad1), .val (.int fr), .unset, .unset] [(.int (p2 &&& (2147483647 : Int32)))])) (fun t k => XS.iand X24.here hx rfl (hb hby at_78) rfl k) ?_
  refine own_step (T' := T24) (g' := (mkF m 81 #[.val (.int p0), .val (.int p1), .val (.int p2), .val (.long p3), .second, .val (.ref ad1), .val (.int fr), .unset, .unset] [(.int (7 : Int32)), (.int (p2 &&& (2147483647 : Int32)))])) (fun t k => XS.bipush X24.here hx rfl (hb hby at_79) k) ?_
  refine own_step (T' := T24) (g' := (mkF m 82 #[.val (.int p0), .val (.int p1), .val (.int p2), .val (.long p3), .second, .val (.ref ad1), .val (.int fr), .unset, .unset] [(.int ((p2 &&& (2147483647 : Int32)) % (7 : Int32)))])) (fun t k => iremM (g := (mkF m 81 #[.val (.int p0), .val (.int p1), .val (.int p2), .val (.long p3), .second, .val (.ref ad1), .val (.int fr), .unset, .unset] [(.int (7 : Int32)), (.int (p2 &&& (2147483647 : Int32)))])) X24 hx rfl (hb hby at_81) rfl (by decide) k) ?_
  generalize hd_to : ((p2 &&& (2147483647 : Int32)) % (7 : Int32)) = to
  refine own_step (T' := T24) (g' := (mkF m 84 #[.val (.int p0), .val (.int p1), .val (.int p2), .val (.long p3), .second, .val (.ref ad1), .val (.int fr), .val (.int to), .unset] [])) (fun t k => XS.istore X24.here hx rfl (hb hby at_82) rfl (l' := #[.val (.int p0), .val (.int p1), .val (.int p2), .val (.long p3), .second, .val (.ref ad1), .val (.int fr), .val (.int to), .unset]) rfl k) ?_
  have hfr : ¬ fr < 0 ∧ ¬ 6 < fr := by rw [← hd_fr]; exact own_rem7 p1
  have hto : ¬ to < 0 ∧ ¬ 6 < to := by rw [← hd_to]; exact own_rem7 p2
  have hpl := own_plain fr to y0 y1 y2 y3 y4 y5 hfr hto
  have j184 : ∀ (TJ184 : State) (lJ184 : List Loc) (_ : Stand p l e room_1 s m #[(.int p0), (.int p1), (.int p2), (.long p3)] below meth c TJ184 lJ184 1 6) (_ : TJ184.heap = h24) (_ : Fr n0 lJ184) (ex : Int32), own_end fr to y0 y1 y2 y3 y4 y5 = ex → own_Go p e below s (Q_law n0) 16 128 TJ184 (mkF m 184 #[.val (.int p0), .val (.int p1), .val (.int p2), .val (.long p3), .second, .val (.ref ad1), .val (.int fr), .val (.int to), .val (.int ex)] []) := by
    intro TJ184 lJ184 XJ184 eJ184 NJ184 ex hex
    refine own_step (T' := TJ184) (g' := (mkF m 186 #[.val (.int p0), .val (.int p1), .val (.int p2), .val (.long p3), .second, .val (.ref ad1), .val (.int fr), .val (.int to), .val (.int ex)] [(.ref ad1)])) (fun t k => XS.aload XJ184.here hx rfl (hb hby at_184) rfl rfl k) ?_
    refine own_step (T' := TJ184) (g' := (mkF m 188 #[.val (.int p0), .val (.int p1), .val (.int p2), .val (.long p3), .second, .val (.ref ad1), .val (.int fr), .val (.int to), .val (.int ex)] [(.int fr), (.ref ad1)])) (fun t k => XS.iload XJ184.here hx rfl (hb hby at_186) rfl k) ?_
    refine own_step (T' := TJ184) (g' := (mkF m 190 #[.val (.int p0), .val (.int p1), .val (.int p2), .val (.long p3), .second, .val (.ref ad1), .val (.int fr), .val (.int to), .val (.int ex)] [(.int to), (.int fr), (.ref ad1)])) (fun t k => XS.iload XJ184.here hx rfl (hb hby at_188) rfl k) ?_
    obtain ⟨_, _, ⟨T27, L27, k27, n27⟩, -, X27, ⟨Lc27, hQ27, lq27, yq27, zq27⟩, st27⟩ := Jvm.LawKit.callS XJ184 hx (y := (⟨"com/example/pollster/pollster/HttpHead", "end", "([BII)I"⟩ : MethodName)) hown (mvT hZ (hw _ (List.mem_of_getElem? (i := 9) rfl))) (mvT hZ (hw _ (List.mem_of_getElem? (i := 10) rfl))) (mvT hZ (hw _ (List.mem_of_getElem? (i := 11) rfl))) (mvT hZ (hw _ (List.mem_of_getElem? (i := 12) rfl))) (by decide) (backOf (W := 0) (rm_end l Z a0 hw [] ad1 fr to y0 y1 y2 y3 y4 y5 k1 h24 n0 Z24 g25 hfr hto.2) hZ (hw _ (List.mem_of_getElem? (i := 12) rfl)) (hw _ (List.mem_of_getElem? (i := 11) rfl)) (by decide) (by decide)) (g := (mkF m 190 #[.val (.int p0), .val (.int p1), .val (.int p2), .val (.long p3), .second, .val (.ref ad1), .val (.int fr), .val (.int to), .val (.int ex)] [(.int to), (.int fr), (.ref ad1)])) rfl (by rw [hml]; rfl) (argsL := [(.ref ad1), (.int fr), (.int to)]) (rest := []) (lenOf pd_1 rfl) rfl (by show 2 * 0 + _ ≤ _; exact Nat.le_of_eq rfl) (hb hby at_190) (fun _ _ => ⟨rfl, eJ184, (by decide : 1 + 0 ≤ _), (by decide : 6 + 0 ≤ _)⟩)
    dsimp only [Pt.U, Pt.locs, Pt.cells, Pt.slots] at X27 lq27 yq27 zq27 st27 hQ27
    subst lq27 yq27 zq27
    obtain ⟨rfl, Nq27, eq26⟩ := hQ27
    have N27 := Fr.app NJ184 Nq27
    refine own_step (T' := T27) (g' := (mkF m 193 #[.val (.int p0), .val (.int p1), .val (.int p2), .val (.long p3), .second, .val (.ref ad1), .val (.int fr), .val (.int to), .val (.int ex)] [(.int (own_end fr to y0 y1 y2 y3 y4 y5))])) st27 ?_
    refine own_step (T' := T27) (g' := (mkF m 195 #[.val (.int p0), .val (.int p1), .val (.int p2), .val (.long p3), .second, .val (.ref ad1), .val (.int fr), .val (.int to), .val (.int ex)] [(.int ex), (.int (own_end fr to y0 y1 y2 y3 y4 y5))])) (fun t k => XS.iload X27.here hx rfl (hb hby at_193) rfl k) ?_
    refine own_step (T' := T27) (g' := (mkF m 198 #[.val (.int p0), .val (.int p1), .val (.int p2), .val (.long p3), .second, .val (.ref ad1), .val (.int fr), .val (.int to), .val (.int ex)] [])) (fun t k => XS.icmpNo X27.here hx rfl (hb hby at_195) rfl (teq hex).2 k) ?_
    refine own_step (T' := T27) (g' := (mkF m 199 #[.val (.int p0), .val (.int p1), .val (.int p2), .val (.long p3), .second, .val (.ref ad1), .val (.int fr), .val (.int to), .val (.int ex)] [(.int (1 : Int32))])) (fun t k => XS.iconst X27.here hx rfl (hb hby at_198) k) ?_
    refine own_step (T' := T27) (g' := (mkF m 203 #[.val (.int p0), .val (.int p1), .val (.int p2), .val (.long p3), .second, .val (.ref ad1), .val (.int fr), .val (.int to), .val (.int ex)] [(.int (1 : Int32))])) (fun t k => XS.goto X27.here hx rfl (pc0 := 199) (pc' := 203) rfl (hb hby at_199) (by decide) (by decide) k) ?_
    refine own_rN X27 hx hlk Bd.returns (by simp) (hb hby at_203) ?_ (by decide) (by decide)
    rw [eq26]
    exact ⟨rfl, N27⟩
  refine own_step (T' := T24) (g' := (mkF m 86 #[.val (.int p0), .val (.int p1), .val (.int p2), .val (.long p3), .second, .val (.ref ad1), .val (.int fr), .val (.int to), .unset] [(.ref ad1)])) (fun t k => XS.aload X24.here hx rfl (hb hby at_84) rfl rfl k) ?_
  refine own_step (T' := T24) (g' := (mkF m 87 #[.val (.int p0), .val (.int p1), .val (.int p2), .val (.long p3), .second, .val (.ref ad1), .val (.int fr), .val (.int to), .unset] [(.int (2 : Int32)), (.ref ad1)])) (fun t k => XS.iconst X24.here hx rfl (hb hby at_86) k) ?_
  refine own_step (T' := T24) (g' := (mkF m 89 #[.val (.int p0), .val (.int p1), .val (.int p2), .val (.long p3), .second, .val (.ref ad1), .val (.int fr), .val (.int to), .unset] [(.int fr), (.int (2 : Int32)), (.ref ad1)])) (fun t k => XS.iload X24.here hx rfl (hb hby at_87) rfl k) ?_
  refine own_step (T' := T24) (g' := (mkF m 91 #[.val (.int p0), .val (.int p1), .val (.int p2), .val (.long p3), .second, .val (.ref ad1), .val (.int fr), .val (.int to), .unset] [(.int to), (.int fr), (.int (2 : Int32)), (.ref ad1)])) (fun t k => XS.iload X24.here hx rfl (hb hby at_89) rfl k) ?_
  obtain ⟨_, _, ⟨T29, L29, k29, n29⟩, -, X29, ⟨Lc29, hQ29, lq29, yq29, zq29⟩, st29⟩ := Jvm.LawKit.callS X24 hx (y := (⟨"com/example/pollster/pollster/HttpHeadEndPinLaw", "endsAt", "([BIII)Z"⟩ : MethodName)) hown (mvT hZ (hw _ (List.mem_of_getElem? (i := 6) rfl))) (mvT hZ (hw _ (List.mem_of_getElem? (i := 7) rfl))) (mvT hZ (hw _ (List.mem_of_getElem? (i := 3) rfl))) (mvT hZ (hw _ (List.mem_of_getElem? (i := 8) rfl))) (by decide) (backOf (W := 0) (rm_ea2 l Z a0 hw [] ad1 fr to y0 y1 y2 y3 y4 y5 k1 h24 n0 Z24 g25 hfr.1) hZ (hw _ (List.mem_of_getElem? (i := 8) rfl)) (hw _ (List.mem_of_getElem? (i := 3) rfl)) (by decide) (by decide)) (g := (mkF m 91 #[.val (.int p0), .val (.int p1), .val (.int p2), .val (.long p3), .second, .val (.ref ad1), .val (.int fr), .val (.int to), .unset] [(.int to), (.int fr), (.int (2 : Int32)), (.ref ad1)])) rfl (by rw [hml]; rfl) (argsL := [(.ref ad1), (.int (2 : Int32)), (.int fr), (.int to)]) (rest := []) (lenOf pd_2 rfl) rfl (by show 2 * 0 + _ ≤ _; exact Nat.le_of_eq rfl) (hb hby at_91) (fun _ _ => ⟨rfl, e24, (by decide : 1 + 0 ≤ _), (by decide : 6 + 0 ≤ _)⟩)
  dsimp only [Pt.U, Pt.locs, Pt.cells, Pt.slots] at X29 lq29 yq29 zq29 st29 hQ29
  subst lq29 yq29 zq29
  obtain ⟨rfl, Nq29, eq28⟩ := hQ29
  have N29 := Fr.app N24 Nq29
  refine own_step (T' := T29) (g' := (mkF m 94 #[.val (.int p0), .val (.int p1), .val (.int p2), .val (.long p3), .second, .val (.ref ad1), .val (.int fr), .val (.int to), .unset] [(.int (own_ea2 (decide (to < (2 : Int32))) (decide ((0 : Int32) < fr)) (decide (y1 = (10 : Int32))) (decide (y0 = (10 : Int32)))))])) st29 ?_
  by_cases c94 : (own_ea2 (decide (to < (2 : Int32))) (decide ((0 : Int32) < fr)) (decide (y1 = (10 : Int32))) (decide (y0 = (10 : Int32)))) = (0 : Int32)
  · refine own_step (T' := T29) (g' := (mkF m 103 #[.val (.int p0), .val (.int p1), .val (.int p2), .val (.long p3), .second, .val (.ref ad1), .val (.int fr), .val (.int to), .unset] [])) (fun t k => XS.ifYes X29.here hx rfl (pc0 := 94) (pc' := 103) rfl (hb hby at_94) rfl ((if0 _ _).trans (teq c94).1) (by decide) (by decide) k) ?_
    refine own_step (T' := T29) (g' := (mkF m 105 #[.val (.int p0), .val (.int p1), .val (.int p2), .val (.long p3), .second, .val (.ref ad1), .val (.int fr), .val (.int to), .unset] [(.ref ad1)])) (fun t k => XS.aload X29.here hx rfl (hb hby at_103) rfl rfl k) ?_
    refine own_step (T' := T29) (g' := (mkF m 106 #[.val (.int p0), .val (.int p1), .val (.int p2), .val (.long p3), .second, .val (.ref ad1), .val (.int fr), .val (.int to), .unset] [(.int (3 : Int32)), (.ref ad1)])) (fun t k => XS.iconst X29.here hx rfl (hb hby at_105) k) ?_
    refine own_step (T' := T29) (g' := (mkF m 108 #[.val (.int p0), .val (.int p1), .val (.int p2), .val (.long p3), .second, .val (.ref ad1), .val (.int fr), .val (.int to), .unset] [(.int fr), (.int (3 : Int32)), (.ref ad1)])) (fun t k => XS.iload X29.here hx rfl (hb hby at_106) rfl k) ?_
    refine own_step (T' := T29) (g' := (mkF m 110 #[.val (.int p0), .val (.int p1), .val (.int p2), .val (.long p3), .second, .val (.ref ad1), .val (.int fr), .val (.int to), .unset] [(.int to), (.int fr), (.int (3 : Int32)), (.ref ad1)])) (fun t k => XS.iload X29.here hx rfl (hb hby at_108) rfl k) ?_
    obtain ⟨_, _, ⟨T31, L31, k31, n31⟩, -, X31, ⟨Lc31, hQ31, lq31, yq31, zq31⟩, st31⟩ := Jvm.LawKit.callS X29 hx (y := (⟨"com/example/pollster/pollster/HttpHeadEndPinLaw", "endsAt", "([BIII)Z"⟩ : MethodName)) hown (mvT hZ (hw _ (List.mem_of_getElem? (i := 6) rfl))) (mvT hZ (hw _ (List.mem_of_getElem? (i := 7) rfl))) (mvT hZ (hw _ (List.mem_of_getElem? (i := 3) rfl))) (mvT hZ (hw _ (List.mem_of_getElem? (i := 8) rfl))) (by decide) (backOf (W := 0) (rm_ea3 l Z a0 hw [] ad1 fr to y0 y1 y2 y3 y4 y5 k1 h24 n0 Z24 g25 hfr.1) hZ (hw _ (List.mem_of_getElem? (i := 8) rfl)) (hw _ (List.mem_of_getElem? (i := 3) rfl)) (by decide) (by decide)) (g := (mkF m 110 #[.val (.int p0), .val (.int p1), .val (.int p2), .val (.long p3), .second, .val (.ref ad1), .val (.int fr), .val (.int to), .unset] [(.int to), (.int fr), (.int (3 : Int32)), (.ref ad1)])) rfl (by rw [hml]; rfl) (argsL := [(.ref ad1), (.int (3 : Int32)), (.int fr), (.int to)]) (rest := []) (lenOf pd_2 rfl) rfl (by show 2 * 0 + _ ≤ _; exact Nat.le_of_eq rfl) (hb hby at_110) (fun _ _ => ⟨rfl, eq28, (by decide : 1 + 0 ≤ _), (by decide : 6 + 0 ≤ _)⟩)
    dsimp only [Pt.U, Pt.locs, Pt.cells, Pt.slots] at X31 lq31 yq31 zq31 st31 hQ31
    subst lq31 yq31 zq31
    obtain ⟨rfl, Nq31, eq30⟩ := hQ31
    have N31 := Fr.app N29 Nq31
    refine own_step (T' := T31) (g' := (mkF m 113 #[.val (.int p0), .val (.int p1), .val (.int p2), .val (.long p3), .second, .val (.ref ad1), .val (.int fr), .val (.int to), .unset] [(.int (own_ea3 (decide (to < (3 : Int32))) (decide ((1 : Int32) < fr)) (decide ((0 : Int32) < fr)) (decide (y2 = (10 : Int32))) (decide (y1 = (10 : Int32))) (decide (y1 = (13 : Int32))) (decide (y0 = (10 : Int32)))))])) st31 ?_
    by_cases c113 : (own_ea3 (decide (to < (3 : Int32))) (decide ((1 : Int32) < fr)) (decide ((0 : Int32) < fr)) (decide (y2 = (10 : Int32))) (decide (y1 = (10 : Int32))) (decide (y1 = (13 : Int32))) (decide (y0 = (10 : Int32)))) = (0 : Int32)
    · refine own_step (T' := T31) (g' := (mkF m 122 #[.val (.int p0), .val (.int p1), .val (.int p2), .val (.long p3), .second, .val (.ref ad1), .val (.int fr), .val (.int to), .unset] [])) (fun t k => XS.ifYes X31.here hx rfl (pc0 := 113) (pc' := 122) rfl (hb hby at_113) rfl ((if0 _ _).trans (teq c113).1) (by decide) (by decide) k) ?_
      refine own_step (T' := T31) (g' := (mkF m 124 #[.val (.int p0), .val (.int p1), .val (.int p2), .val (.long p3), .second, .val (.ref ad1), .val (.int fr), .val (.int to), .unset] [(.ref ad1)])) (fun t k => XS.aload X31.here hx rfl (hb hby at_122) rfl rfl k) ?_
      refine own_step (T' := T31) (g' := (mkF m 125 #[.val (.int p0), .val (.int p1), .val (.int p2), .val (.long p3), .second, .val (.ref ad1), .val (.int fr), .val (.int to), .unset] [(.int (4 : Int32)), (.ref ad1)])) (fun t k => XS.iconst X31.here hx rfl (hb hby at_124) k) ?_
      refine own_step (T' := T31) (g' := (mkF m 127 #[.val (.int p0), .val (.int p1), .val (.int p2), .val (.long p3), .second, .val (.ref ad1), .val (.int fr), .val (.int to), .unset] [(.int fr), (.int (4 : Int32)), (.ref ad1)])) (fun t k => XS.iload X31.here hx rfl (hb hby at_125) rfl k) ?_
      refine own_step (T' := T31) (g' := (mkF m 129 #[.val (.int p0), .val (.int p1), .val (.int p2), .val (.long p3), .second, .val (.ref ad1), .val (.int fr), .val (.int to), .unset] [(.int to), (.int fr), (.int (4 : Int32)), (.ref ad1)])) (fun t k => XS.iload X31.here hx rfl (hb hby at_127) rfl k) ?_
      obtain ⟨_, _, ⟨T33, L33, k33, n33⟩, -, X33, ⟨Lc33, hQ33, lq33, yq33, zq33⟩, st33⟩ := Jvm.LawKit.callS X31 hx (y := (⟨"com/example/pollster/pollster/HttpHeadEndPinLaw", "endsAt", "([BIII)Z"⟩ : MethodName)) hown (mvT hZ (hw _ (List.mem_of_getElem? (i := 6) rfl))) (mvT hZ (hw _ (List.mem_of_getElem? (i := 7) rfl))) (mvT hZ (hw _ (List.mem_of_getElem? (i := 3) rfl))) (mvT hZ (hw _ (List.mem_of_getElem? (i := 8) rfl))) (by decide) (backOf (W := 0) (rm_ea4 l Z a0 hw [] ad1 fr to y0 y1 y2 y3 y4 y5 k1 h24 n0 Z24 g25 hfr.1) hZ (hw _ (List.mem_of_getElem? (i := 8) rfl)) (hw _ (List.mem_of_getElem? (i := 3) rfl)) (by decide) (by decide)) (g := (mkF m 129 #[.val (.int p0), .val (.int p1), .val (.int p2), .val (.long p3), .second, .val (.ref ad1), .val (.int fr), .val (.int to), .unset] [(.int to), (.int fr), (.int (4 : Int32)), (.ref ad1)])) rfl (by rw [hml]; rfl) (argsL := [(.ref ad1), (.int (4 : Int32)), (.int fr), (.int to)]) (rest := []) (lenOf pd_2 rfl) rfl (by show 2 * 0 + _ ≤ _; exact Nat.le_of_eq rfl) (hb hby at_129) (fun _ _ => ⟨rfl, eq30, (by decide : 1 + 0 ≤ _), (by decide : 6 + 0 ≤ _)⟩)
      dsimp only [Pt.U, Pt.locs, Pt.cells, Pt.slots] at X33 lq33 yq33 zq33 st33 hQ33
      subst lq33 yq33 zq33
      obtain ⟨rfl, Nq33, eq32⟩ := hQ33
      have N33 := Fr.app N31 Nq33
      refine own_step (T' := T33) (g' := (mkF m 132 #[.val (.int p0), .val (.int p1), .val (.int p2), .val (.long p3), .second, .val (.ref ad1), .val (.int fr), .val (.int to), .unset] [(.int (own_ea4 (decide (to < (4 : Int32))) (decide ((2 : Int32) < fr)) (decide ((1 : Int32) < fr)) (decide (y3 = (10 : Int32))) (decide (y2 = (10 : Int32))) (decide (y2 = (13 : Int32))) (decide (y1 = (10 : Int32)))))])) st33 ?_
      by_cases c132 : (own_ea4 (decide (to < (4 : Int32))) (decide ((2 : Int32) < fr)) (decide ((1 : Int32) < fr)) (decide (y3 = (10 : Int32))) (decide (y2 = (10 : Int32))) (decide (y2 = (13 : Int32))) (decide (y1 = (10 : Int32)))) = (0 : Int32)
      · refine own_step (T' := T33) (g' := (mkF m 141 #[.val (.int p0), .val (.int p1), .val (.int p2), .val (.long p3), .second, .val (.ref ad1), .val (.int fr), .val (.int to), .unset] [])) (fun t k => XS.ifYes X33.here hx rfl (pc0 := 132) (pc' := 141) rfl (hb hby at_132) rfl ((if0 _ _).trans (teq c132).1) (by decide) (by decide) k) ?_
        refine own_step (T' := T33) (g' := (mkF m 143 #[.val (.int p0), .val (.int p1), .val (.int p2), .val (.long p3), .second, .val (.ref ad1), .val (.int fr), .val (.int to), .unset] [(.ref ad1)])) (fun t k => XS.aload X33.here hx rfl (hb hby at_141) rfl rfl k) ?_
        refine own_step (T' := T33) (g' := (mkF m 144 #[.val (.int p0), .val (.int p1), .val (.int p2), .val (.long p3), .second, .val (.ref ad1), .val (.int fr), .val (.int to), .unset] [(.int (5 : Int32)), (.ref ad1)])) (fun t k => XS.iconst X33.here hx rfl (hb hby at_143) k) ?_
        refine own_step (T' := T33) (g' := (mkF m 146 #[.val (.int p0), .val (.int p1), .val (.int p2), .val (.long p3), .second, .val (.ref ad1), .val (.int fr), .val (.int to), .unset] [(.int fr), (.int (5 : Int32)), (.ref ad1)])) (fun t k => XS.iload X33.here hx rfl (hb hby at_144) rfl k) ?_
        refine own_step (T' := T33) (g' := (mkF m 148 #[.val (.int p0), .val (.int p1), .val (.int p2), .val (.long p3), .second, .val (.ref ad1), .val (.int fr), .val (.int to), .unset] [(.int to), (.int fr), (.int (5 : Int32)), (.ref ad1)])) (fun t k => XS.iload X33.here hx rfl (hb hby at_146) rfl k) ?_
        obtain ⟨_, _, ⟨T35, L35, k35, n35⟩, -, X35, ⟨Lc35, hQ35, lq35, yq35, zq35⟩, st35⟩ := Jvm.LawKit.callS X33 hx (y := (⟨"com/example/pollster/pollster/HttpHeadEndPinLaw", "endsAt", "([BIII)Z"⟩ : MethodName)) hown (mvT hZ (hw _ (List.mem_of_getElem? (i := 6) rfl))) (mvT hZ (hw _ (List.mem_of_getElem? (i := 7) rfl))) (mvT hZ (hw _ (List.mem_of_getElem? (i := 3) rfl))) (mvT hZ (hw _ (List.mem_of_getElem? (i := 8) rfl))) (by decide) (backOf (W := 0) (rm_ea5 l Z a0 hw [] ad1 fr to y0 y1 y2 y3 y4 y5 k1 h24 n0 Z24 g25 hfr.1) hZ (hw _ (List.mem_of_getElem? (i := 8) rfl)) (hw _ (List.mem_of_getElem? (i := 3) rfl)) (by decide) (by decide)) (g := (mkF m 148 #[.val (.int p0), .val (.int p1), .val (.int p2), .val (.long p3), .second, .val (.ref ad1), .val (.int fr), .val (.int to), .unset] [(.int to), (.int fr), (.int (5 : Int32)), (.ref ad1)])) rfl (by rw [hml]; rfl) (argsL := [(.ref ad1), (.int (5 : Int32)), (.int fr), (.int to)]) (rest := []) (lenOf pd_2 rfl) rfl (by show 2 * 0 + _ ≤ _; exact Nat.le_of_eq rfl) (hb hby at_148) (fun _ _ => ⟨rfl, eq32, (by decide : 1 + 0 ≤ _), (by decide : 6 + 0 ≤ _)⟩)
        dsimp only [Pt.U, Pt.locs, Pt.cells, Pt.slots] at X35 lq35 yq35 zq35 st35 hQ35
        subst lq35 yq35 zq35
        obtain ⟨rfl, Nq35, eq34⟩ := hQ35
        have N35 := Fr.app N33 Nq35
        refine own_step (T' := T35) (g' := (mkF m 151 #[.val (.int p0), .val (.int p1), .val (.int p2), .val (.long p3), .second, .val (.ref ad1), .val (.int fr), .val (.int to), .unset] [(.int (own_ea5 (decide (to < (5 : Int32))) (decide ((3 : Int32) < fr)) (decide ((2 : Int32) < fr)) (decide (y4 = (10 : Int32))) (decide (y3 = (10 : Int32))) (decide (y3 = (13 : Int32))) (decide (y2 = (10 : Int32)))))])) st35 ?_
        by_cases c151 : (own_ea5 (decide (to < (5 : Int32))) (decide ((3 : Int32) < fr)) (decide ((2 : Int32) < fr)) (decide (y4 = (10 : Int32))) (decide (y3 = (10 : Int32))) (decide (y3 = (13 : Int32))) (decide (y2 = (10 : Int32)))) = (0 : Int32)
        · refine own_step (T' := T35) (g' := (mkF m 160 #[.val (.int p0), .val (.int p1), .val (.int p2), .val (.long p3), .second, .val (.ref ad1), .val (.int fr), .val (.int to), .unset] [])) (fun t k => XS.ifYes X35.here hx rfl (pc0 := 151) (pc' := 160) rfl (hb hby at_151) rfl ((if0 _ _).trans (teq c151).1) (by decide) (by decide) k) ?_
          refine own_step (T' := T35) (g' := (mkF m 162 #[.val (.int p0), .val (.int p1), .val (.int p2), .val (.long p3), .second, .val (.ref ad1), .val (.int fr), .val (.int to), .unset] [(.ref ad1)])) (fun t k => XS.aload X35.here hx rfl (hb hby at_160) rfl rfl k) ?_
          refine own_step (T' := T35) (g' := (mkF m 164 #[.val (.int p0), .val (.int p1), .val (.int p2), .val (.long p3), .second, .val (.ref ad1), .val (.int fr), .val (.int to), .unset] [(.int (6 : Int32)), (.ref ad1)])) (fun t k => XS.bipush X35.here hx rfl (hb hby at_162) k) ?_
          refine own_step (T' := T35) (g' := (mkF m 166 #[.val (.int p0), .val (.int p1), .val (.int p2), .val (.long p3), .second, .val (.ref ad1), .val (.int fr), .val (.int to), .unset] [(.int fr), (.int (6 : Int32)), (.ref ad1)])) (fun t k => XS.iload X35.here hx rfl (hb hby at_164) rfl k) ?_
          refine own_step (T' := T35) (g' := (mkF m 168 #[.val (.int p0), .val (.int p1), .val (.int p2), .val (.long p3), .second, .val (.ref ad1), .val (.int fr), .val (.int to), .unset] [(.int to), (.int fr), (.int (6 : Int32)), (.ref ad1)])) (fun t k => XS.iload X35.here hx rfl (hb hby at_166) rfl k) ?_
          obtain ⟨_, _, ⟨T37, L37, k37, n37⟩, -, X37, ⟨Lc37, hQ37, lq37, yq37, zq37⟩, st37⟩ := Jvm.LawKit.callS X35 hx (y := (⟨"com/example/pollster/pollster/HttpHeadEndPinLaw", "endsAt", "([BIII)Z"⟩ : MethodName)) hown (mvT hZ (hw _ (List.mem_of_getElem? (i := 6) rfl))) (mvT hZ (hw _ (List.mem_of_getElem? (i := 7) rfl))) (mvT hZ (hw _ (List.mem_of_getElem? (i := 3) rfl))) (mvT hZ (hw _ (List.mem_of_getElem? (i := 8) rfl))) (by decide) (backOf (W := 0) (rm_ea6 l Z a0 hw [] ad1 fr to y0 y1 y2 y3 y4 y5 k1 h24 n0 Z24 g25 hfr.1) hZ (hw _ (List.mem_of_getElem? (i := 8) rfl)) (hw _ (List.mem_of_getElem? (i := 3) rfl)) (by decide) (by decide)) (g := (mkF m 168 #[.val (.int p0), .val (.int p1), .val (.int p2), .val (.long p3), .second, .val (.ref ad1), .val (.int fr), .val (.int to), .unset] [(.int to), (.int fr), (.int (6 : Int32)), (.ref ad1)])) rfl (by rw [hml]; rfl) (argsL := [(.ref ad1), (.int (6 : Int32)), (.int fr), (.int to)]) (rest := []) (lenOf pd_2 rfl) rfl (by show 2 * 0 + _ ≤ _; exact Nat.le_of_eq rfl) (hb hby at_168) (fun _ _ => ⟨rfl, eq34, (by decide : 1 + 0 ≤ _), (by decide : 6 + 0 ≤ _)⟩)
          dsimp only [Pt.U, Pt.locs, Pt.cells, Pt.slots] at X37 lq37 yq37 zq37 st37 hQ37
          subst lq37 yq37 zq37
          obtain ⟨rfl, Nq37, eq36⟩ := hQ37
          have N37 := Fr.app N35 Nq37
          refine own_step (T' := T37) (g' := (mkF m 171 #[.val (.int p0), .val (.int p1), .val (.int p2), .val (.long p3), .second, .val (.ref ad1), .val (.int fr), .val (.int to), .unset] [(.int (own_ea6 (decide (to < (6 : Int32))) (decide ((4 : Int32) < fr)) (decide ((3 : Int32) < fr)) (decide (y5 = (10 : Int32))) (decide (y4 = (10 : Int32))) (decide (y4 = (13 : Int32))) (decide (y3 = (10 : Int32)))))])) st37 ?_
          by_cases c171 : (own_ea6 (decide (to < (6 : Int32))) (decide ((4 : Int32) < fr)) (decide ((3 : Int32) < fr)) (decide (y5 = (10 : Int32))) (decide (y4 = (10 : Int32))) (decide (y4 = (13 : Int32))) (decide (y3 = (10 : Int32)))) = (0 : Int32)
          · refine own_step (T' := T37) (g' := (mkF m 181 #[.val (.int p0), .val (.int p1), .val (.int p2), .val (.long p3), .second, .val (.ref ad1), .val (.int fr), .val (.int to), .unset] [])) (fun t k => XS.ifYes X37.here hx rfl (pc0 := 171) (pc' := 181) rfl (hb hby at_171) rfl ((if0 _ _).trans (teq c171).1) (by decide) (by decide) k) ?_
            refine own_step (T' := T37) (g' := (mkF m 182 #[.val (.int p0), .val (.int p1), .val (.int p2), .val (.long p3), .second, .val (.ref ad1), .val (.int fr), .val (.int to), .unset] [(.int ((-1) : Int32))])) (fun t k => XS.iconst X37.here hx rfl (hb hby at_181) k) ?_
            refine own_step (T' := T37) (g' := (mkF m 184 #[.val (.int p0), .val (.int p1), .val (.int p2), .val (.long p3), .second, .val (.ref ad1), .val (.int fr), .val (.int to), .val (.int ((-1) : Int32))] [])) (fun t k => XS.istore X37.here hx rfl (hb hby at_182) rfl (l' := #[.val (.int p0), .val (.int p1), .val (.int p2), .val (.long p3), .second, .val (.ref ad1), .val (.int fr), .val (.int to), .val (.int ((-1) : Int32))]) rfl k) ?_
            exact j184 T37 _ X37 eq36 N37 _ (by rw [hpl, own_first, if_pos c94, if_pos c113, if_pos c132, if_pos c151, if_pos c171])
          · refine own_step (T' := T37) (g' := (mkF m 174 #[.val (.int p0), .val (.int p1), .val (.int p2), .val (.long p3), .second, .val (.ref ad1), .val (.int fr), .val (.int to), .unset] [])) (fun t k => XS.ifNo X37.here hx rfl (hb hby at_171) rfl ((if0 _ _).trans (feq c171).1) k) ?_
            refine own_step (T' := T37) (g' := (mkF m 176 #[.val (.int p0), .val (.int p1), .val (.int p2), .val (.long p3), .second, .val (.ref ad1), .val (.int fr), .val (.int to), .unset] [(.int (6 : Int32))])) (fun t k => XS.bipush X37.here hx rfl (hb hby at_174) k) ?_
            refine own_step (T' := T37) (g' := (mkF m 178 #[.val (.int p0), .val (.int p1), .val (.int p2), .val (.long p3), .second, .val (.ref ad1), .val (.int fr), .val (.int to), .val (.int (6 : Int32))] [])) (fun t k => XS.istore X37.here hx rfl (hb hby at_176) rfl (l' := #[.val (.int p0), .val (.int p1), .val (.int p2), .val (.long p3), .second, .val (.ref ad1), .val (.int fr), .val (.int to), .val (.int (6 : Int32))]) rfl k) ?_
            refine own_step (T' := T37) (g' := (mkF m 184 #[.val (.int p0), .val (.int p1), .val (.int p2), .val (.long p3), .second, .val (.ref ad1), .val (.int fr), .val (.int to), .val (.int (6 : Int32))] [])) (fun t k => XS.goto X37.here hx rfl (pc0 := 178) (pc' := 184) rfl (hb hby at_178) (by decide) (by decide) k) ?_
            exact j184 T37 _ X37 eq36 N37 _ (by rw [hpl, own_first, if_pos c94, if_pos c113, if_pos c132, if_pos c151, if_neg c171])
        · refine own_step (T' := T35) (g' := (mkF m 154 #[.val (.int p0), .val (.int p1), .val (.int p2), .val (.long p3), .second, .val (.ref ad1), .val (.int fr), .val (.int to), .unset] [])) (fun t k => XS.ifNo X35.here hx rfl (hb hby at_151) rfl ((if0 _ _).trans (feq c151).1) k) ?_
          refine own_step (T' := T35) (g' := (mkF m 155 #[.val (.int p0), .val (.int p1), .val (.int p2), .val (.long p3), .second, .val (.ref ad1), .val (.int fr), .val (.int to), .unset] [(.int (5 : Int32))])) (fun t k => XS.iconst X35.here hx rfl (hb hby at_154) k) ?_
          refine own_step (T' := T35) (g' := (mkF m 157 #[.val (.int p0), .val (.int p1), .val (.int p2), .val (.long p3), .second, .val (.ref ad1), .val (.int fr), .val (.int to), .val (.int (5 : Int32))] [])) (fun t k => XS.istore X35.here hx rfl (hb hby at_155) rfl (l' := #[.val (.int p0), .val (.int p1), .val (.int p2), .val (.long p3), .second, .val (.ref ad1), .val (.int fr), .val (.int to), .val (.int (5 : Int32))]) rfl k) ?_
          refine own_step (T' := T35) (g' := (mkF m 184 #[.val (.int p0), .val (.int p1), .val (.int p2), .val (.long p3), .second, .val (.ref ad1), .val (.int fr), .val (.int to), .val (.int (5 : Int32))] [])) (fun t k => XS.goto X35.here hx rfl (pc0 := 157) (pc' := 184) rfl (hb hby at_157) (by decide) (by decide) k) ?_
          exact j184 T35 _ X35 eq34 N35 _ (by rw [hpl, own_first, if_pos c94, if_pos c113, if_pos c132, if_neg c151])
      · refine own_step (T' := T33) (g' := (mkF m 135 #[.val (.int p0), .val (.int p1), .val (.int p2), .val (.long p3), .second, .val (.ref ad1), .val (.int fr), .val (.int to), .unset] [])) (fun t k => XS.ifNo X33.here hx rfl (hb hby at_132) rfl ((if0 _ _).trans (feq c132).1) k) ?_
        refine own_step (T' := T33) (g' := (mkF m 136 #[.val (.int p0), .val (.int p1), .val (.int p2), .val (.long p3), .second, .val (.ref ad1), .val (.int fr), .val (.int to), .unset] [(.int (4 : Int32))])) (fun t k => XS.iconst X33.here hx rfl (hb hby at_135) k) ?_
        refine own_step (T' := T33) (g' := (mkF m 138 #[.val (.int p0), .val (.int p1), .val (.int p2), .val (.long p3), .second, .val (.ref ad1), .val (.int fr), .val (.int to), .val (.int (4 : Int32))] [])) (fun t k => XS.istore X33.here hx rfl (hb hby at_136) rfl (l' := #[.val (.int p0), .val (.int p1), .val (.int p2), .val (.long p3), .second, .val (.ref ad1), .val (.int fr), .val (.int to), .val (.int (4 : Int32))]) rfl k) ?_
        refine own_step (T' := T33) (g' := (mkF m 184 #[.val (.int p0), .val (.int p1), .val (.int p2), .val (.long p3), .second, .val (.ref ad1), .val (.int fr), .val (.int to), .val (.int (4 : Int32))] [])) (fun t k => XS.goto X33.here hx rfl (pc0 := 138) (pc' := 184) rfl (hb hby at_138) (by decide) (by decide) k) ?_
        exact j184 T33 _ X33 eq32 N33 _ (by rw [hpl, own_first, if_pos c94, if_pos c113, if_neg c132])
    · refine own_step (T' := T31) (g' := (mkF m 116 #[.val (.int p0), .val (.int p1), .val (.int p2), .val (.long p3), .second, .val (.ref ad1), .val (.int fr), .val (.int to), .unset] [])) (fun t k => XS.ifNo X31.here hx rfl (hb hby at_113) rfl ((if0 _ _).trans (feq c113).1) k) ?_
      refine own_step (T' := T31) (g' := (mkF m 117 #[.val (.int p0), .val (.int p1), .val (.int p2), .val (.long p3), .second, .val (.ref ad1), .val (.int fr), .val (.int to), .unset] [(.int (3 : Int32))])) (fun t k => XS.iconst X31.here hx rfl (hb hby at_116) k) ?_
      refine own_step (T' := T31) (g' := (mkF m 119 #[.val (.int p0), .val (.int p1), .val (.int p2), .val (.long p3), .second, .val (.ref ad1), .val (.int fr), .val (.int to), .val (.int (3 : Int32))] [])) (fun t k => XS.istore X31.here hx rfl (hb hby at_117) rfl (l' := #[.val (.int p0), .val (.int p1), .val (.int p2), .val (.long p3), .second, .val (.ref ad1), .val (.int fr), .val (.int to), .val (.int (3 : Int32))]) rfl k) ?_
      refine own_step (T' := T31) (g' := (mkF m 184 #[.val (.int p0), .val (.int p1), .val (.int p2), .val (.long p3), .second, .val (.ref ad1), .val (.int fr), .val (.int to), .val (.int (3 : Int32))] [])) (fun t k => XS.goto X31.here hx rfl (pc0 := 119) (pc' := 184) rfl (hb hby at_119) (by decide) (by decide) k) ?_
      exact j184 T31 _ X31 eq30 N31 _ (by rw [hpl, own_first, if_pos c94, if_neg c113])
  · refine own_step (T' := T29) (g' := (mkF m 97 #[.val (.int p0), .val (.int p1), .val (.int p2), .val (.long p3), .second, .val (.ref ad1), .val (.int fr), .val (.int to), .unset] [])) (fun t k => XS.ifNo X29.here hx rfl (hb hby at_94) rfl ((if0 _ _).trans (feq c94).1) k) ?_
    refine own_step (T' := T29) (g' := (mkF m 98 #[.val (.int p0), .val (.int p1), .val (.int p2), .val (.long p3), .second, .val (.ref ad1), .val (.int fr), .val (.int to), .unset] [(.int (2 : Int32))])) (fun t k => XS.iconst X29.here hx rfl (hb hby at_97) k) ?_
    refine own_step (T' := T29) (g' := (mkF m 100 #[.val (.int p0), .val (.int p1), .val (.int p2), .val (.long p3), .second, .val (.ref ad1), .val (.int fr), .val (.int to), .val (.int (2 : Int32))] [])) (fun t k => XS.istore X29.here hx rfl (hb hby at_98) rfl (l' := #[.val (.int p0), .val (.int p1), .val (.int p2), .val (.long p3), .second, .val (.ref ad1), .val (.int fr), .val (.int to), .val (.int (2 : Int32))]) rfl k) ?_
    refine own_step (T' := T29) (g' := (mkF m 184 #[.val (.int p0), .val (.int p1), .val (.int p2), .val (.long p3), .second, .val (.ref ad1), .val (.int fr), .val (.int to), .val (.int (2 : Int32))] [])) (fun t k => XS.goto X29.here hx rfl (pc0 := 100) (pc' := 184) rfl (hb hby at_100) (by decide) (by decide) k) ?_
    exact j184 T29 _ X29 eq28 N29 _ (by rw [hpl, own_first, if_neg c94])
set_option maxRecDepth 65536 in
set_option maxHeartbeats 40000000 in
theorem comes_1 {Post : Tables → Env → Array Value → State → Outcome → State → Prop} (hpost : ∀ tb e args s v u, (limb_1_1.after args s (.returned v) u = true ∧ limb_1_2.after args s (.returned v) u = true ∧ True) → FrameEnd s (.returned v) u (Jvm.fieldLocs frame_1_writes args s ++ Jvm.arrayLocs frame_1_arrays args s ++ Jvm.staticLocs frame_1_statics s) 16 128 → Post tb e args s (.returned v) u) :
    ArmFor flags0 classFile x code maxLocals ret World_1 tables_1 room_1 Calls_1 rest_1 Pre_1 Post := by
  intro l hfl _ _ p e ha hc hk s m args below hf hA hF happ hP
  obtain ⟨hcalls, hrest, hpre⟩ := hP
  obtain ⟨-, -, -, hnamed, -, -, -, hat⟩ := (Spec.applies_iff hf).mp happ
  obtain ⟨hg, hn⟩ := and_e (Cond.before_iff.mp (show (Jvm.Cond.and given_1 narrow_1).before args s = true from hpre))
  obtain ⟨hc0, hg0⟩ := and_e hg
  obtain ⟨hc1, hg1⟩ := and_e hg0
  obtain ⟨hc2, hg2⟩ := and_e hg1
  obtain ⟨hc3, hg3⟩ := and_e hg2
  obtain ⟨w0, w1, w2, w3, rfl⟩ : ∃ w0 w1 w2 w3 : Value, args = #[w0, w1, w2, w3] := by
    have hs : args.size = 4 := by simpa [Cond.value, given_1] using hc0
    obtain ⟨L⟩ := args
    match L, hs with
    | [w0, w1, w2, w3], _ => exact ⟨w0, w1, w2, w3, rfl⟩
  have hw := fun d (hd : d ∈ tables_1) => atoms_spec (ws := Jvm.Cond.code x code maxLocals ret :: tables_1) hat d (List.mem_cons_of_mem _ hd)
  have hfit : Fit s := fun {y c} hc i hi => by
    obtain ⟨ha, rfl⟩ := Array.getElem?_eq_some_iff.mp hc
    have q := List.all_eq_true.mp ((Array.all_eq_true_iff_forall_mem.mp hF) _ (Array.getElem_mem ha)) i (List.mem_range.mpr hi)
    simpa [Array.getElem?_eq_getElem hi] using q
  obtain ⟨i0, ev0⟩ := is_v hc1
  obtain rfl : w0 = (.int i0) := Option.some.inj ev0
  obtain ⟨i1, ev1⟩ := is_v hc2
  obtain rfl : w1 = (.int i1) := Option.some.inj ev1
  obtain ⟨i2, ev2⟩ := is_v hc3
  obtain rfl : w2 = (.int i2) := Option.some.inj ev2
  obtain ⟨i3, ev3⟩ := isL_v hg3
  obtain rfl : w3 = (.long i3) := Option.some.inj ev3

  obtain ⟨n, o, h1, h2, h3, _, L, rfl, ⟨rfl, N⟩, hq⟩ := rm_law l s _ hw tables_1 i0 i1 i2 i3  s.heap s.heap.size (Nat.le_refl _)  p e ha hc hk s m _ below hf ((Spec.applies_iff_loose hf).mp happ).1 ⟨rfl, State.Warmed39.refl s, rfl⟩ trivial
  refine ⟨n, _, h1, h2, h3, hpost _ _ _ _ _ _ ⟨Cond.after_iff.mpr rfl, Cond.after_iff.mpr (eq_i res_at (Term.int_eval (1)) rfl), trivial⟩ ⟨hq.1, hq.2.1, (hq.2.2.sift fun y hy => Or.inr (N y hy)).mono (by decide) (by decide)⟩⟩
theorem main_1_1 : Claimed_1_1 := comes_1 fun _ _ _ _ _ _ h hF => ⟨h.1, hF⟩
theorem main_1_2 : Claimed_1_2 := comes_1 fun _ _ _ _ _ _ h hF => ⟨h.2.1, hF⟩

end Jvm.Pilot.@@N@@
namespace Jvm.Pilot.@@N@@
open Jvm Jvm.ClassFile Sem Op Lib Jvm.Free Jvm.Stand Jvm.Pilot.@@N@@.Jvm.D
/-! MADE BY PROGRAM (witnessworld.py) out of the Statement's table words and the real class files: 9 classes; the members and pool entries that the words name. The judged class is class 1, her method 3. -/
namespace start1
open Jvm.ClassFile
def u (s : String) : CpInfo := .utf8 (stringToUtf16 s)
/-- a pool by its gaps: so many unusable entries, then the entry; so many at the end -/
def gap : Nat → List CpInfo → List CpInfo
  | 0, r => r
  | n + 1, r => .unusable :: gap n r
def poolList (es : List (Nat × CpInfo)) (last : Nat) : List CpInfo := es.foldr (fun e r => gap e.1 (e.2 :: r)) (gap last [])
def pool (es : List (Nat × CpInfo)) (last : Nat) : Array CpInfo := ⟨poolList es last⟩
def fileOf (pool : Array CpInfo) (this : Nat) (attrs : Array Attribute := #[]) (ms : Array MethodInfo := #[]) (fl : Nat := 33) (sup : Nat := 0) (ifs : Array Nat := #[]) (fds : Array FieldInfo := #[]) : ClassFile where
  minorVersion := 0
  majorVersion := 65
  constantPool := pool
  accessFlags := fl
  thisClass := this
  superClass := sup
  interfaces := ifs
  fields := fds
  methods := ms
  attributes := attrs
def plain (name : String) (sup : Option ClassId) : Class where
  name := name
  kind := .ordinary
  loader := none
  accessFlags := 33
  super := sup
  interfaces := #[]
  cf := none
  fields := #[]
  methods := #[]
  instanceTypes := #[]
  staticTypes := #[]
  resolved := #[]
  callSites := []
  init := .initialized
  statics := none
  mirror := none

def pool0 : Array CpInfo := pool [(5, u "<init>"), (0, u "()V"), (1, .class_ 10), (1, u "java/lang/Object")] 113

def k0m0 : Method := { name := "<init>", desc := "()V", sig := { parameters := [], returnType := none }, accessFlags := 1, code := none }
/-- java/lang/Object -/
def k0 : Class := { plain "java/lang/Object" none with
  accessFlags := 33
  interfaces := #[]
  cf := some (fileOf pool0 8 #[] #[{ accessFlags := 1, nameIndex := 5, descriptorIndex := 6, attributes := #[] }] 33 0 #[] #[])
  fields := #[]
  methods := #[k0m0]
  instanceTypes := #[]
  staticTypes := #[]
  resolved := Array.replicate 124 none
  statics := none }

def pool1 : Array CpInfo := pool [(2, .class_ 4), (1, u "java/lang/Object"), (0, u "<init>"), (0, u "()V"), (0, .methodref 8 9), (0, .class_ 10), (0, .nameAndType 11 12), (0, u "com/example/pollster/pollster/HttpHeadEndPinLaw"), (0, u "pick"), (0, u "(IJI)B"), (0, .integer 2147483647), (0, .methodref 8 15), (0, .nameAndType 16 17), (0, u "endsAt"), (0, u "([BIII)Z"), (0, .methodref 19 20), (0, .class_ 21), (0, .nameAndType 22 23), (0, u "com/example/pollster/pollster/HttpHead"), (0, u "end"), (0, u "([BII)I"), (3, u "law"), (0, u "(IIIJ)Z")] 4

def k1m0 : Method := { name := "<init>", desc := "()V", sig := { parameters := [], returnType := none }, accessFlags := 1, code := none }
def k1c1 : Code := { maxStack := 4, maxLocals := 5, code := method_2_code, exceptionTable := #[], attributes := #[] }
def k1m1 : Method := { name := "pick", desc := "(IJI)B", sig := { parameters := [.int, .long, .int], returnType := some .byte }, accessFlags := 10, code := some k1c1 }
def k1c2 : Code := { maxStack := 3, maxLocals := 4, code := method_3_code, exceptionTable := #[], attributes := #[] }
def k1m2 : Method := { name := "endsAt", desc := "([BIII)Z", sig := { parameters := [(.array .byte), .int, .int, .int], returnType := some .boolean }, accessFlags := 10, code := some k1c2 }
def k1c3 : Code := { maxStack := 6, maxLocals := 9, code := code, exceptionTable := #[], attributes := #[] }
def k1m3 : Method := { name := "law", desc := "(IIIJ)Z", sig := { parameters := [.int, .int, .int, .long], returnType := some .boolean }, accessFlags := 9, code := some k1c3 }
/-- com/example/pollster/pollster/HttpHeadEndPinLaw -/
def k1 : Class := { plain "com/example/pollster/pollster/HttpHeadEndPinLaw" (some 0) with
  accessFlags := 49
  interfaces := #[]
  cf := some (fileOf pool1 8 #[] #[{ accessFlags := 1, nameIndex := 5, descriptorIndex := 6, attributes := #[] }, { accessFlags := 10, nameIndex := 11, descriptorIndex := 12, attributes := #[] }, { accessFlags := 10, nameIndex := 16, descriptorIndex := 17, attributes := #[] }, { accessFlags := 9, nameIndex := 27, descriptorIndex := 28, attributes := #[] }] 49 2 #[] #[])
  fields := #[]
  methods := #[k1m0, k1m1, k1m2, k1m3]
  instanceTypes := #[]
  staticTypes := #[]
  resolved := Array.replicate 33 none
  statics := none }

def pool2 : Array CpInfo := pool [(2, .class_ 4), (1, u "java/lang/Object"), (3, .class_ 10), (1, u "com/example/pollster/pollster/HttpHead"), (0, u "startLine"), (0, u "[Ljava/lang/String;"), (2, u "fields"), (0, u "Ljava/util/Map;"), (29, .class_ 47), (0, u "com/example/pollster/pollster/HttpHead$Malformed"), (118, u "MAX_BYTES"), (0, u "I"), (2, u "CHUNKED"), (0, u "J"), (0, u "UNSTATED"), (0, u "MOST_FIELDS"), (6, u "end"), (0, u "([BII)I")] 42

def k2c0 : Code := { maxStack := 3, maxLocals := 4, code := prog_31_method_2_code, exceptionTable := #[], attributes := #[] }
def k2m0 : Method := { name := "end", desc := "([BII)I", sig := { parameters := [(.array .byte), .int, .int], returnType := some .int }, accessFlags := 8, code := some k2c0 }
/-- com/example/pollster/pollster/HttpHead -/
def k2 : Class := { plain "com/example/pollster/pollster/HttpHead" (some 0) with
  accessFlags := 48
  interfaces := #[]
  cf := some (fileOf pool2 8 #[.nestMembers #[46]] #[{ accessFlags := 8, nameIndex := 180, descriptorIndex := 181, attributes := #[] }] 48 2 #[] #[{ accessFlags := 24, nameIndex := 166, descriptorIndex := 167, attributes := #[] }, { accessFlags := 24, nameIndex := 170, descriptorIndex := 171, attributes := #[] }, { accessFlags := 24, nameIndex := 172, descriptorIndex := 171, attributes := #[] }, { accessFlags := 26, nameIndex := 173, descriptorIndex := 167, attributes := #[] }, { accessFlags := 18, nameIndex := 11, descriptorIndex := 12, attributes := #[] }, { accessFlags := 18, nameIndex := 15, descriptorIndex := 16, attributes := #[] }])
  fields := #[{ name := "MAX_BYTES", type := .int, accessFlags := 24, slot := 0, constantValue := 0 }, { name := "CHUNKED", type := .long, accessFlags := 24, slot := 1, constantValue := 0 }, { name := "UNSTATED", type := .long, accessFlags := 24, slot := 2, constantValue := 0 }, { name := "MOST_FIELDS", type := .int, accessFlags := 26, slot := 3, constantValue := 0 }, { name := "startLine", type := (.array (.object "java/lang/String")), accessFlags := 18, slot := 0, constantValue := 0 }, { name := "fields", type := (.object "java/util/Map"), accessFlags := 18, slot := 1, constantValue := 0 }]
  methods := #[k2m0]
  instanceTypes := #[(.array (.object "java/lang/String")), (.object "java/util/Map")]
  staticTypes := #[.int, .long, .long, .int]
  resolved := Array.replicate 224 none
  statics := none }

def pool3 : Array CpInfo := pool [(1, u "java/lang/Cloneable"), (0, .class_ 1), (0, u "java/lang/Object"), (0, .class_ 3)] 3

/-- java/lang/Cloneable -/
def k3 : Class := { plain "java/lang/Cloneable" (some 0) with
  accessFlags := 1537
  interfaces := #[]
  cf := some (fileOf pool3 2 #[] #[] 1537 4 #[] #[])
  fields := #[]
  methods := #[]
  instanceTypes := #[]
  staticTypes := #[]
  resolved := Array.replicate 8 none
  statics := none }

def pool4 : Array CpInfo := pool [(1, u "java/io/Serializable"), (0, .class_ 1), (0, u "java/lang/Object"), (0, .class_ 3)] 3

/-- java/io/Serializable -/
def k4 : Class := { plain "java/io/Serializable" (some 0) with
  accessFlags := 1537
  interfaces := #[]
  cf := some (fileOf pool4 2 #[] #[] 1537 4 #[] #[])
  fields := #[]
  methods := #[]
  instanceTypes := #[]
  staticTypes := #[]
  resolved := Array.replicate 8 none
  statics := none }

/-- the primitive byte -/
def k5 : Class := { plain "byte" none with kind := .primitive 'B', accessFlags := 0x411 }
/-- [B -/
def k6 : Class := { plain "[B" (some 0) with kind := .array 5 .byte, interfaces := #[3, 4], accessFlags := 1041 }

/-- the primitive int -/
def k7 : Class := { plain "int" none with kind := .primitive 'I', accessFlags := 0x411 }
/-- [I -/
def k8 : Class := { plain "[I" (some 0) with kind := .array 7 .int, interfaces := #[3, 4], accessFlags := 1041 }

def heap : Heap := #[]
def classes : Array Class := #[k0, k1, k2, k3, k4, k5, k6, k7, k8]
def interned : List (Array UInt16 × Addr) := []
def slotsUsed : Nat := 0
def theMethod : MethodId := ⟨1, 3⟩
def args0 : Array Value := #[.int 2, .int 3, .int 4, .long 5]
def aboutOver (below : List Frame) : State where
  vm := { classes := classes, interned := interned.toArray }
  heap := heap
  slotsUsed := slotsUsed
  threads := #[{ frames := .invoking theMethod args0 :: below }]
def below0 : List Frame := [.native { method := ⟨0, 0⟩, args := #[] }]
def about1 : State := aboutOver below0
def p0 : Program := .bare "" "" ""
def e0 : Env := launch0.env 0 0 0
theorem w_frames : about1.frames = Frame.invoking theMethod args0 :: below0 := rfl
set_option maxRecDepth 65536 in
theorem w_args : argsFit about1.vm theMethod args0 = true := by decide +kernel
set_option maxRecDepth 65536 in
theorem w_heap : heapFits about1 = true := by decide +kernel
set_option maxRecDepth 65536 in
theorem w_runnable : about1.curStatus? = some .runnable := by decide +kernel
set_option maxRecDepth 65536 in
theorem w_alone : about1.alone = true := by decide +kernel
set_option maxRecDepth 65536 in
theorem w_named : about1.methodNamed? x = some theMethod := by decide +kernel
set_option maxRecDepth 65536 in
theorem w_hears : about1.hears theMethod below0 = true := by decide +kernel
set_option maxRecDepth 65536 in
theorem w_ripe : about1.ripe theMethod args0 below0 = true := by decide +kernel
theorem w_running : about1.status = .running := rfl
set_option maxRecDepth 65536 in
theorem w_room : about1.hasRoom e0.platform room_1 = true :=
  launch0.hasRoom_least _ room_1 (by decide +kernel) (by decide +kernel) (by decide +kernel) (by decide +kernel) (by decide +kernel) (by decide +kernel)
theorem allAtoms_all (ts : List Jvm.Cond) (a : Array Jvm.Value) (st : Jvm.State) : (allAtoms ts).before a st = ts.all (fun c => c.before a st) := by
  induction ts with
  | nil => rfl
  | cons c t ih =>
    show (Jvm.Cond.and c (allAtoms t)).before a st = _
    rw [Jvm.Cond.before_and, ih, List.all_cons]
def words1 : List Jvm.Cond := Jvm.Cond.code x code maxLocals ret :: tables_1
/-- a 'code' word, met by the world's own term for the bytes: nothing is compared byte by byte -/
theorem code_word {y : MethodName} {bytes : ByteArray} {mx : Nat} {rt : Option FieldType} {a : Array Value} {s : State} {m : MethodId} {meth : Method} {c : Code} (h1 : s.methodNamed? y = some m) (h2 : s.vm.method? m = some meth) (h3 : meth.code = some c) (h4 : c.code = bytes)
    (h5 : (c.maxLocals == mx && c.exceptionTable.isEmpty && decide (c.maxStack ≤ mostOperands) && decide (meth.sig.returnType = rt) && !meth.locks && decide (parseMethodDescriptor y.desc = some meth.sig)) = true) : (Jvm.Cond.code y bytes mx rt).before a s = true := by
  simp only [Bool.and_eq_true, beq_iff_eq, Bool.not_eq_true', decide_eq_true_eq] at h5
  obtain ⟨⟨⟨⟨⟨g1, g2⟩, g3⟩, g4⟩, g5⟩, g6⟩ := h5
  simp [Cond.before, Cond.holds, Cond.value, h1, h2, h3, h4, g1, g2, g3, g4, g5, g6]
def isCode : Jvm.Cond → Bool
  | .code _ _ _ _ => true
  | _ => false
theorem all_split {L : List Jvm.Cond} {P : Jvm.Cond → Bool} (h1 : L.all (fun c => isCode c || P c) = true) (h2 : ∀ c ∈ L.filter isCode, P c = true) : L.all P = true := by
  refine List.all_eq_true.mpr fun c hc => ?_
  have h := List.all_eq_true.mp h1 c hc
  rcases Bool.eq_false_or_eq_true (isCode c) with hi | hi
  · exact h2 c (List.mem_filter.mpr ⟨hc, hi⟩)
  · simpa [hi] using h
set_option maxRecDepth 65536 in
theorem w_c0 : (Jvm.Cond.code x code maxLocals ret).before args0 about1 = true := code_word (m := ⟨1, 3⟩) (meth := k1m3) (c := k1c3) (by decide +kernel) rfl rfl rfl (by decide +kernel)
set_option maxRecDepth 65536 in
theorem w_c1 : (Jvm.Cond.code ({ cls := "com/example/pollster/pollster/HttpHeadEndPinLaw", name := "pick", desc := "(IJI)B" } : Jvm.MethodName) method_2_code (5 : Nat) (Option.some Jvm.ClassFile.FieldType.byte)).before args0 about1 = true := code_word (m := ⟨1, 1⟩) (meth := k1m1) (c := k1c1) (by decide +kernel) rfl rfl rfl (by decide +kernel)
set_option maxRecDepth 65536 in
theorem w_c2 : (Jvm.Cond.code ({ cls := "com/example/pollster/pollster/HttpHeadEndPinLaw", name := "endsAt", desc := "([BIII)Z" } : Jvm.MethodName) method_3_code (4 : Nat) (Option.some Jvm.ClassFile.FieldType.boolean)).before args0 about1 = true := code_word (m := ⟨1, 2⟩) (meth := k1m2) (c := k1c2) (by decide +kernel) rfl rfl rfl (by decide +kernel)
set_option maxRecDepth 65536 in
theorem w_c3 : (Jvm.Cond.code ({ cls := "com/example/pollster/pollster/HttpHead", name := "end", desc := "([BII)I" } : Jvm.MethodName) prog_31_method_2_code (4 : Nat) (Option.some Jvm.ClassFile.FieldType.int)).before args0 about1 = true := code_word (m := ⟨2, 0⟩) (meth := k2m0) (c := k2c0) (by decide +kernel) rfl rfl rfl (by decide +kernel)
def codes1 : List Jvm.Cond := [Jvm.Cond.code x code maxLocals ret, Jvm.Cond.code ({ cls := "com/example/pollster/pollster/HttpHeadEndPinLaw", name := "pick", desc := "(IJI)B" } : Jvm.MethodName) method_2_code (5 : Nat) (Option.some Jvm.ClassFile.FieldType.byte), Jvm.Cond.code ({ cls := "com/example/pollster/pollster/HttpHeadEndPinLaw", name := "endsAt", desc := "([BIII)Z" } : Jvm.MethodName) method_3_code (4 : Nat) (Option.some Jvm.ClassFile.FieldType.boolean), Jvm.Cond.code ({ cls := "com/example/pollster/pollster/HttpHead", name := "end", desc := "([BII)I" } : Jvm.MethodName) prog_31_method_2_code (4 : Nat) (Option.some Jvm.ClassFile.FieldType.int)]
set_option maxRecDepth 65536 in
theorem codes_eq : words1.filter isCode = codes1 := rfl
theorem w_codes : ∀ c ∈ words1.filter isCode, c.before args0 about1 = true := by
  rw [codes_eq]
  intro c hc
  simp only [codes1, List.mem_cons, List.not_mem_nil, or_false] at hc
  rcases hc with rfl | rfl | rfl | rfl
  · exact w_c0
  · exact w_c1
  · exact w_c2
  · exact w_c3
set_option maxRecDepth 65536 in
theorem w_t1 : words1.all (fun c => isCode c || c.before args0 about1) = true := by decide +kernel
theorem w_tables : (allAtoms (Jvm.Cond.code x code maxLocals ret :: tables_1)).before args0 about1 = true := by
  rw [allAtoms_all]
  show words1.all (fun c => c.before args0 about1) = true
  refine all_split ?_ w_codes
  rw [w_t1]
set_option maxRecDepth 65536 in
theorem w_case : (Jvm.Cond.and given_1 narrow_1).before args0 about1 = true := by decide +kernel
theorem w_applies : (headSpec (Jvm.Cond.code x code maxLocals ret :: tables_1) room_1).applies x e0.platform about1 = true :=
  (Spec.applies_iff w_frames).mpr ⟨w_running, w_runnable, w_alone, w_named, w_hears, w_ripe, w_room, w_tables⟩
theorem atStart : AtStart classFile x code maxLocals ret World_1 tables_1 room_1 Calls_1 rest_1 Pre_1 launch0 p0 e0 about1 theMethod args0 below0 :=
  ⟨lists_1, trivial, launch0.admits_env _ _ _, launch0.least_env, fairChoices_fair.cas, fairChoices_fair.clock, w_frames, w_args, w_heap, w_applies, trivial, trivial, w_case⟩
end start1
theorem witness_1 : WitnessClaimed_1 := ⟨start1.p0, start1.e0, start1.about1, start1.theMethod, start1.args0, start1.below0, start1.atStart⟩
end Jvm.Pilot.@@N@@
