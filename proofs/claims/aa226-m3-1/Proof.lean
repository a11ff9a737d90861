import JvmDerived
import JvmDerived.Pilot.@@N@@Statement
import JvmDerived.Pilot.@@N@@Code
set_option linter.unusedVariables false
set_option linter.unusedSimpArgs false
@@BLOCK:NumsL.lean.txt@@
namespace Jvm.Pilot.@@N@@
open Jvm Jvm.ClassFile Sem Op Lib Jvm.Free Jvm.Stand Jvm.LawKit Jvm.RoadKit Bundle Jvm.Pilot.@@N@@.Jvm.D

section OwnKit
variable {p : Program} {l : Launch} {e : Env} {R : Room} {s : State} {m : MethodId} {args : Array Value} {below : List Frame} {meth : Method} {c : Code} {T : State} {locs : List Loc} {cells slots : Nat}
def own_Go (p : Program) (e : Env) (below : List Frame) (s : State) (Q : Option Value → Heap → List Loc → Prop) (rc rs : Nat) (T : State) (g : JFrame) : Prop :=
  ∃ s₂ o, Steps p.tables e below (T.setTop g) s₂ ∧ s₂.status = .running ∧ Ended s₂ below o ∧ ∃ v L, o = .returned v ∧ Q v s₂.heap L ∧ FrameEnd s o s₂ L rc rs
variable {Q : Option Value → Heap → List Loc → Prop} {rc rs : Nat} {T' : State} {g g' : JFrame}
theorem own_step (st : ∀ target, Steps p.tables e below (T'.setTop g') target → Steps p.tables e below (T.setTop g) target) (k : own_Go p e below s Q rc rs T' g') : own_Go p e below s Q rc rs T g := by
  obtain ⟨s₂, o, h1, h2⟩ := k
  exact ⟨s₂, o, st _ h1, h2⟩
theorem own_tr (st : Steps p.tables e below (T.setTop g) (T'.setTop g')) (k : own_Go p e below s Q rc rs T' g') : own_Go p e below s Q rc rs T g := by
  obtain ⟨s₂, o, h1, h2⟩ := k
  exact ⟨s₂, o, st.trans h1, h2⟩
theorem own_cast (q : g = g') (k : own_Go p e below s Q rc rs T g') : own_Go p e below s Q rc rs T g := q ▸ k
theorem own_done (X : Stand p l e R s m args below meth c T locs cells slots) {v : Option Value} (hv : meth.sig.returnType = none → v = none) (hlk : meth.locks = false)
    (st : ∀ fs, (∀ (f : JFrame) (acts : List Action), f.method = m → f.locked = none → f.entered = [] → (doReturn e (T.setTop f) acts v).1 = T.setFrames fs) → Steps p.tables e below (T.setTop g) (T.setFrames fs))
    (hQ : Q v T.heap locs) (hc : cells ≤ rc) (hs : slots ≤ rs) : own_Go p e below s Q rc rs T g := by
  obtain ⟨fs, hr, hrun, hended, hW, hsame⟩ := X.leave (v := v) hv hlk
  exact ⟨_, _, st fs hr, hrun, hended, v, locs, rfl, hQ, ⟨_, rfl⟩, hW, hsame.mono hc hs⟩
theorem own_rN (X : Stand p l e R s m args below meth c T locs cells slots) (hx : p.tables.exec = Jvm.exec) (hlk : meth.locks = false) {t : FieldType} (hret : meth.sig.returnType = some t) (ht : t = .boolean ∨ t = .byte ∨ t = .char ∨ t = .short) {pc : Nat} {Ls : Array Slot} {z : Int32} {rest : List Value}
    (hd : decode c.code pc = .ok (.ireturn, 1)) (hQ : Q (some (.int (nar t z))) T.heap locs) (hc : cells ≤ rc) (hs : slots ≤ rs) : own_Go p e below s Q rc rs T (mkF m pc Ls (.int z :: rest)) :=
  own_done X (fun h => by rw [hret] at h; cases h) hlk (fun fs hr => retN X hx hret ht hd hr) hQ hc hs
theorem own_rI (X : Stand p l e R s m args below meth c T locs cells slots) (hx : p.tables.exec = Jvm.exec) (hlk : meth.locks = false) (hret : meth.sig.returnType = some .int) {pc : Nat} {Ls : Array Slot} {z : Int32} {rest : List Value}
    (hd : decode c.code pc = .ok (.ireturn, 1)) (hQ : Q (some (.int z)) T.heap locs) (hc : cells ≤ rc) (hs : slots ≤ rs) : own_Go p e below s Q rc rs T (mkF m pc Ls (.int z :: rest)) :=
  own_done X (fun h => by rw [hret] at h; cases h) hlk (fun fs hr => retOut X hx hret rfl (Or.inl ⟨rfl, Or.inl rfl, _, rfl⟩) hd hr) hQ hc hs
theorem own_rJ (X : Stand p l e R s m args below meth c T locs cells slots) (hx : p.tables.exec = Jvm.exec) (hlk : meth.locks = false) (hret : meth.sig.returnType = some .long) {pc : Nat} {Ls : Array Slot} {z : Int64} {rest : List Value}
    (hd : decode c.code pc = .ok (.lreturn, 1)) (hQ : Q (some (.long z)) T.heap locs) (hc : cells ≤ rc) (hs : slots ≤ rs) : own_Go p e below s Q rc rs T (mkF m pc Ls (.long z :: rest)) :=
  own_done X (fun h => by rw [hret] at h; cases h) hlk (fun fs hr => retOut X hx hret rfl (Or.inr (Or.inl ⟨rfl, rfl, _, rfl⟩)) hd hr) hQ hc hs
theorem own_narA {t : FieldType} {w : Value} (ht : t.isReference = true) (hw : w.isRef = true) : narrow t w = w := by cases t <;> cases w <;> first | rfl | cases ht | cases hw
theorem own_rA (X : Stand p l e R s m args below meth c T locs cells slots) (hx : p.tables.exec = Jvm.exec) (hlk : meth.locks = false) {t : FieldType} (hret : meth.sig.returnType = some t) (ht : t.isReference = true) {pc : Nat} {Ls : Array Slot} {w : Value} {rest : List Value} (hw : w.isRef = true)
    (hd : decode c.code pc = .ok (.areturn, 1)) (hQ : Q (some w) T.heap locs) (hc : cells ≤ rc) (hs : slots ≤ rs) : own_Go p e below s Q rc rs T (mkF m pc Ls (w :: rest)) :=
  own_done X (fun h => by rw [hret] at h; cases h) hlk (fun fs hr => retOut X hx hret (own_narA ht hw) (Or.inr (Or.inr (Or.inr (Or.inr ⟨rfl, ht, hw⟩)))) hd hr) hQ hc hs
theorem own_rV (X : Stand p l e R s m args below meth c T locs cells slots) (hx : p.tables.exec = Jvm.exec) (hlk : meth.locks = false) (hret : meth.sig.returnType = none) {pc : Nat} {Ls : Array Slot}
    (hd : decode c.code pc = .ok (.return_, 1)) (hQ : Q none T.heap locs) (hc : cells ≤ rc) (hs : slots ≤ rs) : own_Go p e below s Q rc rs T (mkF m pc Ls []) :=
  own_done X (fun _ => rfl) hlk (fun fs hr => X.returnOut hx hret hd hr) hQ hc hs
end OwnKit
def Q_i5null (Z : State) (a1 : Addr) (x2 : Int64) (x3 : Int32) (x4 : Int64) (x6 : Int64) (h0 : Heap) (n0 : Nat) (v : Option Value) (h : Heap) (L : List Loc) : Prop := v = none ∧ Fr n0 L ∧ Keep h0 h [a1] ∧ Exa Z h a1 "com/example/pollster/pollster/QueuePops$Popped" ∧ Fld Z h a1 "com/example/pollster/pollster/QueuePops$Popped" "serial" "J" (.long x2) ∧ Fld Z h a1 "com/example/pollster/pollster/QueuePops$Popped" "reconsumeTimes" "I" (.int x3) ∧ Fld Z h a1 "com/example/pollster/pollster/QueuePops$Popped" "invisibleUntil" "J" (.long x4) ∧ Fld Z h a1 "com/example/pollster/pollster/QueuePops$Popped" "deadLetterMsgId" "Ljava/lang/String;" .null ∧ Fld Z h a1 "com/example/pollster/pollster/QueuePops$Popped" "deadLetterFrom" "J" (.long x6)
theorem ef_rm_i5null (m : MethodId) (x0 : Addr) (x1 : Int64) (x2 : Int32) (x3 : Int64) (x5 : Int64) : entryFrame m #[(.ref x0), (.long x1), (.int x2), (.long x3), .null, (.long x5)] 9 = mkF m 0 #[.val (.ref x0), .val (.long x1), .second, .val (.int x2), .val (.long x3), .second, .val .null, .val (.long x5), .second] [] := by first | (simp [entryFrame, mkF, argsToLocals, Value.category]; done) | rfl | (simp [entryFrame, mkF, argsToLocals, Value.category] <;> rfl)
theorem pn_0 : plainName "com/example/pollster/pollster/QueuePops$Popped" = true := by first | (simp [plainName, overriddenIn]; done) | decide +kernel
theorem d2_0 : decode prog_56_method_2_code 0 = .ok (.aload_n 0, 1) := by decide +kernel
theorem d2_1 : decode prog_56_method_2_code 1 = .ok (.invokespecial 7, 3) := by decide +kernel
theorem d2_4 : decode prog_56_method_2_code 4 = .ok (.aload_n 0, 1) := by decide +kernel
theorem d2_5 : decode prog_56_method_2_code 5 = .ok (.lload_n 1, 1) := by decide +kernel
theorem d2_6 : decode prog_56_method_2_code 6 = .ok (.putfield 12, 3) := by decide +kernel
theorem d2_9 : decode prog_56_method_2_code 9 = .ok (.aload_n 0, 1) := by decide +kernel
theorem d2_10 : decode prog_56_method_2_code 10 = .ok (.iload_n 3, 1) := by decide +kernel
theorem d2_11 : decode prog_56_method_2_code 11 = .ok (.putfield 16, 3) := by decide +kernel
theorem d2_14 : decode prog_56_method_2_code 14 = .ok (.aload_n 0, 1) := by decide +kernel
theorem d2_15 : decode prog_56_method_2_code 15 = .ok (.lload 4, 2) := by decide +kernel
theorem d2_17 : decode prog_56_method_2_code 17 = .ok (.putfield 20, 3) := by decide +kernel
theorem d2_20 : decode prog_56_method_2_code 20 = .ok (.aload_n 0, 1) := by decide +kernel
theorem d2_21 : decode prog_56_method_2_code 21 = .ok (.aload 6, 2) := by decide +kernel
theorem d2_23 : decode prog_56_method_2_code 23 = .ok (.putfield 23, 3) := by decide +kernel
theorem d2_26 : decode prog_56_method_2_code 26 = .ok (.aload_n 0, 1) := by decide +kernel
theorem d2_27 : decode prog_56_method_2_code 27 = .ok (.lload 7, 2) := by decide +kernel
theorem d2_29 : decode prog_56_method_2_code 29 = .ok (.putfield 27, 3) := by decide +kernel
theorem d2_32 : decode prog_56_method_2_code 32 = .ok (.return_, 1) := by decide +kernel
set_option maxRecDepth 65536 in
set_option maxHeartbeats 40000000 in
theorem rm_i5null (l : Launch) (Z : State) (a0 : Array Value) (hw : ∀ d ∈ tables_1, d.before a0 Z = true) (ws : List Jvm.Cond) (a1 : Addr) (x2 : Int64) (x3 : Int32) (x4 : Int64) (x6 : Int64) (u0 : Value) (u1 : Value) (u2 : Value) (u3 : Value) (u4 : Value) (h0 : Heap) (n0 : Nat) (Z0 : n0 ≤ h0.size) (E_a : Exa Z h0 a1 "com/example/pollster/pollster/QueuePops$Popped") (F0 : Fld Z h0 a1 "com/example/pollster/pollster/QueuePops$Popped" "serial" "J" u0) (F1 : Fld Z h0 a1 "com/example/pollster/pollster/QueuePops$Popped" "reconsumeTimes" "I" u1) (F2 : Fld Z h0 a1 "com/example/pollster/pollster/QueuePops$Popped" "invisibleUntil" "J" u2) (F3 : Fld Z h0 a1 "com/example/pollster/pollster/QueuePops$Popped" "deadLetterMsgId" "Ljava/lang/String;" u3) (F4 : Fld Z h0 a1 "com/example/pollster/pollster/QueuePops$Popped" "deadLetterFrom" "J" u4) (o_a : n0 ≤ a1) :
    MetFree l (⟨"com/example/pollster/pollster/QueuePops$Popped", "<init>", "(JIJLjava/lang/String;J)V"⟩ : MethodName) (head1 (Jvm.Cond.code (⟨"com/example/pollster/pollster/QueuePops$Popped", "<init>", "(JIJLjava/lang/String;J)V"⟩ : MethodName) prog_56_method_2_code 9 none :: ws) ({ frames := 1, cells := 0, slots := 0, locals := 12 } : Room)) (fun a U => a = #[(.ref a1), (.long x2), (.int x3), (.long x4), .null, (.long x6)] ∧ Z.Warmed39 U.vm ∧ U.heap = h0) (fun _ _ _ _ _ => True) (fun _ U o U' => ∃ v L, o = .returned v ∧ (Q_i5null Z a1 x2 x3 x4 x6 h0 n0) v U'.heap L ∧ FrameEnd U o U' L ({ frames := 1, cells := 0, slots := 0, locals := 12 } : Room).cells ({ frames := 1, cells := 0, slots := 0, locals := 12 } : Room).slots) := by
  refine MetFree.of_bodySF (plainFor_of_name pn_0) hisR ?_
  intro p e s m args below meth c s₁ Bd hml0 hP hK
  obtain ⟨rfl, hZ, hh⟩ := hP
  have hx := Bd.exec
  have hby := Bd.bytes
  have hlk : meth.locks = false := BodyLoose.notSynchronized Bd
  have hml : c.maxLocals = 9 := hml0
  have hown : s.vm.findClass "com/example/pollster/pollster/QueuePops$Popped" = some m.cls := findClass_of_methodNamed Bd.named
  have hnm := (name_of_methodNamed Bd.named Bd.method).1
  have X0 : Stand p l e ({ frames := 1, cells := 0, slots := 0, locals := 12 } : Room) s m #[(.ref a1), (.long x2), (.int x3), (.long x4), .null, (.long x6)] below meth c s₁ [] 0 0 := Stand.of_body Bd
  have e0 : s₁.heap = h0 := by rw [← hh, Bd.state]; rfl
  have N0 := Fr.nil n0
  show own_Go p e below s (Q_i5null Z a1 x2 x3 x4 x6 h0 n0) ({ frames := 1, cells := 0, slots := 0, locals := 12 } : Room).cells ({ frames := 1, cells := 0, slots := 0, locals := 12 } : Room).slots s₁ (entryFrame m #[(.ref a1), (.long x2), (.int x3), (.long x4), .null, (.long x6)] 9)
  refine own_cast (g' := (mkF m 0 #[.val (.ref a1), .val (.long x2), .second, .val (.int x3), .val (.long x4), .second, .val .null, .val (.long x6), .second] [])) (ef_rm_i5null m a1 x2 x3 x4 x6) ?_
  have K0 : Keep h0 h0 [a1] := Keep.refl _ _
  refine own_step (T' := s₁) (g' := (mkF m 1 #[.val (.ref a1), .val (.long x2), .second, .val (.int x3), .val (.long x4), .second, .val .null, .val (.long x6), .second] [(.ref a1)])) (fun t k => XS.aloadN X0.here hx rfl (hb hby d2_0) rfl rfl k) ?_
  obtain ⟨T1, X1, e1, st1⟩ := initO X0 hx hZ hown (hw _ (List.mem_of_getElem? (i := 9) rfl)) (hw _ (List.mem_of_getElem? (i := 10) rfl)) (hw _ (List.mem_of_getElem? (i := 11) rfl)) e0 (g := (mkF m 1 #[.val (.ref a1), .val (.long x2), .second, .val (.int x3), .val (.long x4), .second, .val .null, .val (.long x6), .second] [(.ref a1)])) rfl (by rw [hml]; rfl) rfl (hb hby d2_1) (by decide) (W := 0) (by show 2 * 0 + _ ≤ _; exact Nat.le_of_eq rfl) (by decide)
  refine own_step (T' := T1) (g' := (mkF m 4 #[.val (.ref a1), .val (.long x2), .second, .val (.int x3), .val (.long x4), .second, .val .null, .val (.long x6), .second] [])) st1 ?_
  refine own_step (T' := T1) (g' := (mkF m 5 #[.val (.ref a1), .val (.long x2), .second, .val (.int x3), .val (.long x4), .second, .val .null, .val (.long x6), .second] [(.ref a1)])) (fun t k => XS.aloadN X1.here hx rfl (hb hby d2_4) rfl rfl k) ?_
  refine own_step (T' := T1) (g' := (mkF m 6 #[.val (.ref a1), .val (.long x2), .second, .val (.int x3), .val (.long x4), .second, .val .null, .val (.long x6), .second] [(.long x2), (.ref a1)])) (fun t k => XS.lloadN X1.here hx rfl (hb hby d2_5) rfl k) ?_
  obtain ⟨T2, h2, X2, e2, W2, st2⟩ := putF X1 hx hZ hown (host := "") (Or.inl (hw _ (List.mem_of_getElem? (i := 12) rfl))) Via.refl e1 F0 E_a (Or.inr ⟨(hw _ (List.mem_of_getElem? (i := 13) rfl)), rfl, hnm⟩) (hw _ (List.mem_of_getElem? (i := 1) rfl)) (ty := .long) (by decide) rfl rfl (g := (mkF m 6 #[.val (.ref a1), .val (.long x2), .second, .val (.int x3), .val (.long x4), .second, .val .null, .val (.long x6), .second] [(.long x2), (.ref a1)])) rfl rfl (hb hby d2_6)
  have g3 : Exa Z h2 a1 "com/example/pollster/pollster/QueuePops$Popped" := E_a.wr W2
  have g4 : Fld Z h2 a1 "com/example/pollster/pollster/QueuePops$Popped" "serial" "J" (.long x2) := F0.same W2
  have g5 : Fld Z h2 a1 "com/example/pollster/pollster/QueuePops$Popped" "reconsumeTimes" "I" u1 := F1.other W2 (Or.inr (slot_ne (Or.inr (hw _ (List.mem_of_getElem? (i := 15) rfl))) (Or.inr (hw _ (List.mem_of_getElem? (i := 13) rfl))) (by decide) (t := .int) (t' := .long) (by decide) (by decide)))
  have g6 : Fld Z h2 a1 "com/example/pollster/pollster/QueuePops$Popped" "invisibleUntil" "J" u2 := F2.other W2 (Or.inr (slot_ne (Or.inr (hw _ (List.mem_of_getElem? (i := 17) rfl))) (Or.inr (hw _ (List.mem_of_getElem? (i := 13) rfl))) (by decide) (t := .long) (t' := .long) (by decide) (by decide)))
  have g7 : Fld Z h2 a1 "com/example/pollster/pollster/QueuePops$Popped" "deadLetterMsgId" "Ljava/lang/String;" u3 := F3.other W2 (Or.inr (slot_ne (Or.inr (hw _ (List.mem_of_getElem? (i := 19) rfl))) (Or.inr (hw _ (List.mem_of_getElem? (i := 13) rfl))) (by decide) (t := .object "java/lang/String") (t' := .long) (by decide) (by decide)))
  have g8 : Fld Z h2 a1 "com/example/pollster/pollster/QueuePops$Popped" "deadLetterFrom" "J" u4 := F4.other W2 (Or.inr (slot_ne (Or.inr (hw _ (List.mem_of_getElem? (i := 21) rfl))) (Or.inr (hw _ (List.mem_of_getElem? (i := 13) rfl))) (by decide) (t := .long) (t' := .long) (by decide) (by decide)))
  have K9 : Keep h0 h2 [a1] := K0.wr W2 (Or.inl (List.mem_of_getElem? (i := 0) rfl))
  have N2 := Fr.snoc X2 N0 o_a
  have Z2 : n0 ≤ h2.size := (Nat.le_trans Z0 (Nat.le_of_eq W2.size.symm))
  refine own_step (T' := T2) (g' := (mkF m 9 #[.val (.ref a1), .val (.long x2), .second, .val (.int x3), .val (.long x4), .second, .val .null, .val (.long x6), .second] [])) st2 ?_
  refine own_step (T' := T2) (g' := (mkF m 10 #[.val (.ref a1), .val (.long x2), .second, .val (.int x3), .val (.long x4), .second, .val .null, .val (.long x6), .second] [(.ref a1)])) (fun t k => XS.aloadN X2.here hx rfl (hb hby d2_9) rfl rfl k) ?_
  refine own_step (T' := T2) (g' := (mkF m 11 #[.val (.ref a1), .val (.long x2), .second, .val (.int x3), .val (.long x4), .second, .val .null, .val (.long x6), .second] [(.int x3), (.ref a1)])) (fun t k => XS.iloadN X2.here hx rfl (hb hby d2_10) rfl k) ?_
  obtain ⟨T10, h10, X10, e10, W10, st10⟩ := putF X2 hx hZ hown (host := "") (Or.inl (hw _ (List.mem_of_getElem? (i := 14) rfl))) Via.refl e2 g5 g3 (Or.inr ⟨(hw _ (List.mem_of_getElem? (i := 15) rfl)), rfl, hnm⟩) (hw _ (List.mem_of_getElem? (i := 1) rfl)) (ty := .int) (by decide) rfl rfl (g := (mkF m 11 #[.val (.ref a1), .val (.long x2), .second, .val (.int x3), .val (.long x4), .second, .val .null, .val (.long x6), .second] [(.int x3), (.ref a1)])) rfl rfl (hb hby d2_11)
  have g11 : Exa Z h10 a1 "com/example/pollster/pollster/QueuePops$Popped" := g3.wr W10
  have g12 : Fld Z h10 a1 "com/example/pollster/pollster/QueuePops$Popped" "serial" "J" (.long x2) := g4.other W10 (Or.inr (slot_ne (Or.inr (hw _ (List.mem_of_getElem? (i := 13) rfl))) (Or.inr (hw _ (List.mem_of_getElem? (i := 15) rfl))) (by decide) (t := .long) (t' := .int) (by decide) (by decide)))
  have g13 : Fld Z h10 a1 "com/example/pollster/pollster/QueuePops$Popped" "reconsumeTimes" "I" (.int x3) := g5.same W10
  have g14 : Fld Z h10 a1 "com/example/pollster/pollster/QueuePops$Popped" "invisibleUntil" "J" u2 := g6.other W10 (Or.inr (slot_ne (Or.inr (hw _ (List.mem_of_getElem? (i := 17) rfl))) (Or.inr (hw _ (List.mem_of_getElem? (i := 15) rfl))) (by decide) (t := .long) (t' := .int) (by decide) (by decide)))
  have g15 : Fld Z h10 a1 "com/example/pollster/pollster/QueuePops$Popped" "deadLetterMsgId" "Ljava/lang/String;" u3 := g7.other W10 (Or.inr (slot_ne (Or.inr (hw _ (List.mem_of_getElem? (i := 19) rfl))) (Or.inr (hw _ (List.mem_of_getElem? (i := 15) rfl))) (by decide) (t := .object "java/lang/String") (t' := .int) (by decide) (by decide)))
  have g16 : Fld Z h10 a1 "com/example/pollster/pollster/QueuePops$Popped" "deadLetterFrom" "J" u4 := g8.other W10 (Or.inr (slot_ne (Or.inr (hw _ (List.mem_of_getElem? (i := 21) rfl))) (Or.inr (hw _ (List.mem_of_getElem? (i := 15) rfl))) (by decide) (t := .long) (t' := .int) (by decide) (by decide)))
  have K17 : Keep h0 h10 [a1] := K9.wr W10 (Or.inl (List.mem_of_getElem? (i := 0) rfl))
  have N10 := Fr.snoc X10 N2 o_a
  have Z10 : n0 ≤ h10.size := (Nat.le_trans Z2 (Nat.le_of_eq W10.size.symm))
  refine own_step (T' := T10) (g' := (mkF m 14 #[.val (.ref a1), .val (.long x2), .second, .val (.int x3), .val (.long x4), .second, .val .null, .val (.long x6), .second] [])) st10 ?_
  refine own_step (T' := T10) (g' := (mkF m 15 #[.val (.ref a1), .val (.long x2), .second, .val (.int x3), .val (.long x4), .second, .val .null, .val (.long x6), .second] [(.ref a1)])) (fun t k => XS.aloadN X10.here hx rfl (hb hby d2_14) rfl rfl k) ?_
  refine own_step (T' := T10) (g' := (mkF m 17 #[.val (.ref a1), .val (.long x2), .second, .val (.int x3), .val (.long x4), .second, .val .null, .val (.long x6), .second] [(.long x4), (.ref a1)])) (fun t k => XS.lload X10.here hx rfl (hb hby d2_15) rfl k) ?_
  obtain ⟨T18, h18, X18, e18, W18, st18⟩ := putF X10 hx hZ hown (host := "") (Or.inl (hw _ (List.mem_of_getElem? (i := 16) rfl))) Via.refl e10 g14 g11 (Or.inr ⟨(hw _ (List.mem_of_getElem? (i := 17) rfl)), rfl, hnm⟩) (hw _ (List.mem_of_getElem? (i := 1) rfl)) (ty := .long) (by decide) rfl rfl (g := (mkF m 17 #[.val (.ref a1), .val (.long x2), .second, .val (.int x3), .val (.long x4), .second, .val .null, .val (.long x6), .second] [(.long x4), (.ref a1)])) rfl rfl (hb hby d2_17)
  have g19 : Exa Z h18 a1 "com/example/pollster/pollster/QueuePops$Popped" := g11.wr W18
  have g20 : Fld Z h18 a1 "com/example/pollster/pollster/QueuePops$Popped" "serial" "J" (.long x2) := g12.other W18 (Or.inr (slot_ne (Or.inr (hw _ (List.mem_of_getElem? (i := 13) rfl))) (Or.inr (hw _ (List.mem_of_getElem? (i := 17) rfl))) (by decide) (t := .long) (t' := .long) (by decide) (by decide)))
  have g21 : Fld Z h18 a1 "com/example/pollster/pollster/QueuePops$Popped" "reconsumeTimes" "I" (.int x3) := g13.other W18 (Or.inr (slot_ne (Or.inr (hw _ (List.mem_of_getElem? (i := 15) rfl))) (Or.inr (hw _ (List.mem_of_getElem? (i := 17) rfl))) (by decide) (t := .int) (t' := .long) (by decide) (by decide)))
  have g22 : Fld Z h18 a1 "com/example/pollster/pollster/QueuePops$Popped" "invisibleUntil" "J" (.long x4) := g14.same W18
  have g23 : Fld Z h18 a1 "com/example/pollster/pollster/QueuePops$Popped" "deadLetterMsgId" "Ljava/lang/String;" u3 := g15.other W18 (Or.inr (slot_ne (Or.inr (hw _ (List.mem_of_getElem? (i := 19) rfl))) (Or.inr (hw _ (List.mem_of_getElem? (i := 17) rfl))) (by decide) (t := .object "java/lang/String") (t' := .long) (by decide) (by decide)))
  have g24 : Fld Z h18 a1 "com/example/pollster/pollster/QueuePops$Popped" "deadLetterFrom" "J" u4 := g16.other W18 (Or.inr (slot_ne (Or.inr (hw _ (List.mem_of_getElem? (i := 21) rfl))) (Or.inr (hw _ (List.mem_of_getElem? (i := 17) rfl))) (by decide) (t := .long) (t' := .long) (by decide) (by decide)))
  have K25 : Keep h0 h18 [a1] := K17.wr W18 (Or.inl (List.mem_of_getElem? (i := 0) rfl))
  have N18 := Fr.snoc X18 N10 o_a
  have Z18 : n0 ≤ h18.size := (Nat.le_trans Z10 (Nat.le_of_eq W18.size.symm))
  refine own_step (T' := T18) (g' := (mkF m 20 #[.val (.ref a1), .val (.long x2), .second, .val (.int x3), .val (.long x4), .second, .val .null, .val (.long x6), .second] [])) st18 ?_
  refine own_step (T' := T18) (g' := (mkF m 21 #[.val (.ref a1), .val (.long x2), .second, .val (.int x3), .val (.long x4), .second, .val .null, .val (.long x6), .second] [(.ref a1)])) (fun t k => XS.aloadN X18.here hx rfl (hb hby d2_20) rfl rfl k) ?_
  refine own_step (T' := T18) (g' := (mkF m 23 #[.val (.ref a1), .val (.long x2), .second, .val (.int x3), .val (.long x4), .second, .val .null, .val (.long x6), .second] [.null, (.ref a1)])) (fun t k => XS.aload X18.here hx rfl (hb hby d2_21) rfl rfl k) ?_
  obtain ⟨T26, h26, X26, e26, W26, st26⟩ := putF X18 hx hZ hown (host := "") (Or.inl (hw _ (List.mem_of_getElem? (i := 18) rfl))) Via.refl e18 g23 g19 (Or.inr ⟨(hw _ (List.mem_of_getElem? (i := 19) rfl)), rfl, hnm⟩) (hw _ (List.mem_of_getElem? (i := 1) rfl)) (ty := .object "java/lang/String") (by decide) rfl rfl (g := (mkF m 23 #[.val (.ref a1), .val (.long x2), .second, .val (.int x3), .val (.long x4), .second, .val .null, .val (.long x6), .second] [.null, (.ref a1)])) rfl rfl (hb hby d2_23)
  have g27 : Exa Z h26 a1 "com/example/pollster/pollster/QueuePops$Popped" := g19.wr W26
  have g28 : Fld Z h26 a1 "com/example/pollster/pollster/QueuePops$Popped" "serial" "J" (.long x2) := g20.other W26 (Or.inr (slot_ne (Or.inr (hw _ (List.mem_of_getElem? (i := 13) rfl))) (Or.inr (hw _ (List.mem_of_getElem? (i := 19) rfl))) (by decide) (t := .long) (t' := .object "java/lang/String") (by decide) (by decide)))
  have g29 : Fld Z h26 a1 "com/example/pollster/pollster/QueuePops$Popped" "reconsumeTimes" "I" (.int x3) := g21.other W26 (Or.inr (slot_ne (Or.inr (hw _ (List.mem_of_getElem? (i := 15) rfl))) (Or.inr (hw _ (List.mem_of_getElem? (i := 19) rfl))) (by decide) (t := .int) (t' := .object "java/lang/String") (by decide) (by decide)))
  have g30 : Fld Z h26 a1 "com/example/pollster/pollster/QueuePops$Popped" "invisibleUntil" "J" (.long x4) := g22.other W26 (Or.inr (slot_ne (Or.inr (hw _ (List.mem_of_getElem? (i := 17) rfl))) (Or.inr (hw _ (List.mem_of_getElem? (i := 19) rfl))) (by decide) (t := .long) (t' := .object "java/lang/String") (by decide) (by decide)))
  have g31 : Fld Z h26 a1 "com/example/pollster/pollster/QueuePops$Popped" "deadLetterMsgId" "Ljava/lang/String;" .null := g23.same W26
  have g32 : Fld Z h26 a1 "com/example/pollster/pollster/QueuePops$Popped" "deadLetterFrom" "J" u4 := g24.other W26 (Or.inr (slot_ne (Or.inr (hw _ (List.mem_of_getElem? (i := 21) rfl))) (Or.inr (hw _ (List.mem_of_getElem? (i := 19) rfl))) (by decide) (t := .long) (t' := .object "java/lang/String") (by decide) (by decide)))
  have K33 : Keep h0 h26 [a1] := K25.wr W26 (Or.inl (List.mem_of_getElem? (i := 0) rfl))
  have N26 := Fr.snoc X26 N18 o_a
  have Z26 : n0 ≤ h26.size := (Nat.le_trans Z18 (Nat.le_of_eq W26.size.symm))
  refine own_step (T' := T26) (g' := (mkF m 26 #[.val (.ref a1), .val (.long x2), .second, .val (.int x3), .val (.long x4), .second, .val .null, .val (.long x6), .second] [])) st26 ?_
  refine own_step (T' := T26) (g' := (mkF m 27 #[.val (.ref a1), .val (.long x2), .second, .val (.int x3), .val (.long x4), .second, .val .null, .val (.long x6), .second] [(.ref a1)])) (fun t k => XS.aloadN X26.here hx rfl (hb hby d2_26) rfl rfl k) ?_
  refine own_step (T' := T26) (g' := (mkF m 29 #[.val (.ref a1), .val (.long x2), .second, .val (.int x3), .val (.long x4), .second, .val .null, .val (.long x6), .second] [(.long x6), (.ref a1)])) (fun t k => XS.lload X26.here hx rfl (hb hby d2_27) rfl k) ?_
  obtain ⟨T34, h34, X34, e34, W34, st34⟩ := putF X26 hx hZ hown (host := "") (Or.inl (hw _ (List.mem_of_getElem? (i := 20) rfl))) Via.refl e26 g32 g27 (Or.inr ⟨(hw _ (List.mem_of_getElem? (i := 21) rfl)), rfl, hnm⟩) (hw _ (List.mem_of_getElem? (i := 1) rfl)) (ty := .long) (by decide) rfl rfl (g := (mkF m 29 #[.val (.ref a1), .val (.long x2), .second, .val (.int x3), .val (.long x4), .second, .val .null, .val (.long x6), .second] [(.long x6), (.ref a1)])) rfl rfl (hb hby d2_29)
  have g35 : Exa Z h34 a1 "com/example/pollster/pollster/QueuePops$Popped" := g27.wr W34
  have g36 : Fld Z h34 a1 "com/example/pollster/pollster/QueuePops$Popped" "serial" "J" (.long x2) := g28.other W34 (Or.inr (slot_ne (Or.inr (hw _ (List.mem_of_getElem? (i := 13) rfl))) (Or.inr (hw _ (List.mem_of_getElem? (i := 21) rfl))) (by decide) (t := .long) (t' := .long) (by decide) (by decide)))
  have g37 : Fld Z h34 a1 "com/example/pollster/pollster/QueuePops$Popped" "reconsumeTimes" "I" (.int x3) := g29.other W34 (Or.inr (slot_ne (Or.inr (hw _ (List.mem_of_getElem? (i := 15) rfl))) (Or.inr (hw _ (List.mem_of_getElem? (i := 21) rfl))) (by decide) (t := .int) (t' := .long) (by decide) (by decide)))
  have g38 : Fld Z h34 a1 "com/example/pollster/pollster/QueuePops$Popped" "invisibleUntil" "J" (.long x4) := g30.other W34 (Or.inr (slot_ne (Or.inr (hw _ (List.mem_of_getElem? (i := 17) rfl))) (Or.inr (hw _ (List.mem_of_getElem? (i := 21) rfl))) (by decide) (t := .long) (t' := .long) (by decide) (by decide)))
  have g39 : Fld Z h34 a1 "com/example/pollster/pollster/QueuePops$Popped" "deadLetterMsgId" "Ljava/lang/String;" .null := g31.other W34 (Or.inr (slot_ne (Or.inr (hw _ (List.mem_of_getElem? (i := 19) rfl))) (Or.inr (hw _ (List.mem_of_getElem? (i := 21) rfl))) (by decide) (t := .object "java/lang/String") (t' := .long) (by decide) (by decide)))
  have g40 : Fld Z h34 a1 "com/example/pollster/pollster/QueuePops$Popped" "deadLetterFrom" "J" (.long x6) := g32.same W34
  have K41 : Keep h0 h34 [a1] := K33.wr W34 (Or.inl (List.mem_of_getElem? (i := 0) rfl))
  have N34 := Fr.snoc X34 N26 o_a
  have Z34 : n0 ≤ h34.size := (Nat.le_trans Z26 (Nat.le_of_eq W34.size.symm))
  refine own_step (T' := T34) (g' := (mkF m 32 #[.val (.ref a1), .val (.long x2), .second, .val (.int x3), .val (.long x4), .second, .val .null, .val (.long x6), .second] [])) st34 ?_
  refine own_rV X34 hx hlk Bd.returns (hb hby d2_32) ?_ (by decide) (by decide)
  rw [e34]
  exact ⟨rfl, N34, K41, g35, g36, g37, g38, g39, g40⟩
def Q_i5ref (Z : State) (a1 : Addr) (x2 : Int64) (x3 : Int32) (x4 : Int64) (x5 : Addr) (x6 : Int64) (h0 : Heap) (n0 : Nat) (v : Option Value) (h : Heap) (L : List Loc) : Prop := v = none ∧ Fr n0 L ∧ Keep h0 h [a1] ∧ Exa Z h a1 "com/example/pollster/pollster/QueuePops$Popped" ∧ Fld Z h a1 "com/example/pollster/pollster/QueuePops$Popped" "serial" "J" (.long x2) ∧ Fld Z h a1 "com/example/pollster/pollster/QueuePops$Popped" "reconsumeTimes" "I" (.int x3) ∧ Fld Z h a1 "com/example/pollster/pollster/QueuePops$Popped" "invisibleUntil" "J" (.long x4) ∧ Fld Z h a1 "com/example/pollster/pollster/QueuePops$Popped" "deadLetterMsgId" "Ljava/lang/String;" (.ref x5) ∧ Fld Z h a1 "com/example/pollster/pollster/QueuePops$Popped" "deadLetterFrom" "J" (.long x6)
theorem ef_rm_i5ref (m : MethodId) (x0 : Addr) (x1 : Int64) (x2 : Int32) (x3 : Int64) (x4 : Addr) (x5 : Int64) : entryFrame m #[(.ref x0), (.long x1), (.int x2), (.long x3), (.ref x4), (.long x5)] 9 = mkF m 0 #[.val (.ref x0), .val (.long x1), .second, .val (.int x2), .val (.long x3), .second, .val (.ref x4), .val (.long x5), .second] [] := by first | (simp [entryFrame, mkF, argsToLocals, Value.category]; done) | rfl | (simp [entryFrame, mkF, argsToLocals, Value.category] <;> rfl)
set_option maxRecDepth 65536 in
set_option maxHeartbeats 40000000 in
theorem rm_i5ref (l : Launch) (Z : State) (a0 : Array Value) (hw : ∀ d ∈ tables_1, d.before a0 Z = true) (ws : List Jvm.Cond) (a1 : Addr) (x2 : Int64) (x3 : Int32) (x4 : Int64) (x5 : Addr) (x6 : Int64) (u0 : Value) (u1 : Value) (u2 : Value) (u3 : Value) (u4 : Value) (h0 : Heap) (n0 : Nat) (Z0 : n0 ≤ h0.size) (E_a : Exa Z h0 a1 "com/example/pollster/pollster/QueuePops$Popped") (F0 : Fld Z h0 a1 "com/example/pollster/pollster/QueuePops$Popped" "serial" "J" u0) (F1 : Fld Z h0 a1 "com/example/pollster/pollster/QueuePops$Popped" "reconsumeTimes" "I" u1) (F2 : Fld Z h0 a1 "com/example/pollster/pollster/QueuePops$Popped" "invisibleUntil" "J" u2) (F3 : Fld Z h0 a1 "com/example/pollster/pollster/QueuePops$Popped" "deadLetterMsgId" "Ljava/lang/String;" u3) (F4 : Fld Z h0 a1 "com/example/pollster/pollster/QueuePops$Popped" "deadLetterFrom" "J" u4) (o_a : n0 ≤ a1) :
    MetFree l (⟨"com/example/pollster/pollster/QueuePops$Popped", "<init>", "(JIJLjava/lang/String;J)V"⟩ : MethodName) (head1 (Jvm.Cond.code (⟨"com/example/pollster/pollster/QueuePops$Popped", "<init>", "(JIJLjava/lang/String;J)V"⟩ : MethodName) prog_56_method_2_code 9 none :: ws) ({ frames := 1, cells := 0, slots := 0, locals := 12 } : Room)) (fun a U => a = #[(.ref a1), (.long x2), (.int x3), (.long x4), (.ref x5), (.long x6)] ∧ Z.Warmed39 U.vm ∧ U.heap = h0) (fun _ _ _ _ _ => True) (fun _ U o U' => ∃ v L, o = .returned v ∧ (Q_i5ref Z a1 x2 x3 x4 x5 x6 h0 n0) v U'.heap L ∧ FrameEnd U o U' L ({ frames := 1, cells := 0, slots := 0, locals := 12 } : Room).cells ({ frames := 1, cells := 0, slots := 0, locals := 12 } : Room).slots) := by
  refine MetFree.of_bodySF (plainFor_of_name pn_0) hisR ?_
  intro p e s m args below meth c s₁ Bd hml0 hP hK
  obtain ⟨rfl, hZ, hh⟩ := hP
  have hx := Bd.exec
  have hby := Bd.bytes
  have hlk : meth.locks = false := BodyLoose.notSynchronized Bd
  have hml : c.maxLocals = 9 := hml0
  have hown : s.vm.findClass "com/example/pollster/pollster/QueuePops$Popped" = some m.cls := findClass_of_methodNamed Bd.named
  have hnm := (name_of_methodNamed Bd.named Bd.method).1
  have X0 : Stand p l e ({ frames := 1, cells := 0, slots := 0, locals := 12 } : Room) s m #[(.ref a1), (.long x2), (.int x3), (.long x4), (.ref x5), (.long x6)] below meth c s₁ [] 0 0 := Stand.of_body Bd
  have e0 : s₁.heap = h0 := by rw [← hh, Bd.state]; rfl
  have N0 := Fr.nil n0
  show own_Go p e below s (Q_i5ref Z a1 x2 x3 x4 x5 x6 h0 n0) ({ frames := 1, cells := 0, slots := 0, locals := 12 } : Room).cells ({ frames := 1, cells := 0, slots := 0, locals := 12 } : Room).slots s₁ (entryFrame m #[(.ref a1), (.long x2), (.int x3), (.long x4), (.ref x5), (.long x6)] 9)
  refine own_cast (g' := (mkF m 0 #[.val (.ref a1), .val (.long x2), .second, .val (.int x3), .val (.long x4), .second, .val (.ref x5), .val (.long x6), .second] [])) (ef_rm_i5ref m a1 x2 x3 x4 x5 x6) ?_
  have K0 : Keep h0 h0 [a1] := Keep.refl _ _
  refine own_step (T' := s₁) (g' := (mkF m 1 #[.val (.ref a1), .val (.long x2), .second, .val (.int x3), .val (.long x4), .second, .val (.ref x5), .val (.long x6), .second] [(.ref a1)])) (fun t k => XS.aloadN X0.here hx rfl (hb hby d2_0) rfl rfl k) ?_
  obtain ⟨T1, X1, e1, st1⟩ := initO X0 hx hZ hown (hw _ (List.mem_of_getElem? (i := 9) rfl)) (hw _ (List.mem_of_getElem? (i := 10) rfl)) (hw _ (List.mem_of_getElem? (i := 11) rfl)) e0 (g := (mkF m 1 #[.val (.ref a1), .val (.long x2), .second, .val (.int x3), .val (.long x4), .second, .val (.ref x5), .val (.long x6), .second] [(.ref a1)])) rfl (by rw [hml]; rfl) rfl (hb hby d2_1) (by decide) (W := 0) (by show 2 * 0 + _ ≤ _; exact Nat.le_of_eq rfl) (by decide)
  refine own_step (T' := T1) (g' := (mkF m 4 #[.val (.ref a1), .val (.long x2), .second, .val (.int x3), .val (.long x4), .second, .val (.ref x5), .val (.long x6), .second] [])) st1 ?_
  refine own_step (T' := T1) (g' := (mkF m 5 #[.val (.ref a1), .val (.long x2), .second, .val (.int x3), .val (.long x4), .second, .val (.ref x5), .val (.long x6), .second] [(.ref a1)])) (fun t k => XS.aloadN X1.here hx rfl (hb hby d2_4) rfl rfl k) ?_
  refine own_step (T' := T1) (g' := (mkF m 6 #[.val (.ref a1), .val (.long x2), .second, .val (.int x3), .val (.long x4), .second, .val (.ref x5), .val (.long x6), .second] [(.long x2), (.ref a1)])) (fun t k => XS.lloadN X1.here hx rfl (hb hby d2_5) rfl k) ?_
  obtain ⟨T2, h2, X2, e2, W2, st2⟩ := putF X1 hx hZ hown (host := "") (Or.inl (hw _ (List.mem_of_getElem? (i := 12) rfl))) Via.refl e1 F0 E_a (Or.inr ⟨(hw _ (List.mem_of_getElem? (i := 13) rfl)), rfl, hnm⟩) (hw _ (List.mem_of_getElem? (i := 1) rfl)) (ty := .long) (by decide) rfl rfl (g := (mkF m 6 #[.val (.ref a1), .val (.long x2), .second, .val (.int x3), .val (.long x4), .second, .val (.ref x5), .val (.long x6), .second] [(.long x2), (.ref a1)])) rfl rfl (hb hby d2_6)
  have g3 : Exa Z h2 a1 "com/example/pollster/pollster/QueuePops$Popped" := E_a.wr W2
  have g4 : Fld Z h2 a1 "com/example/pollster/pollster/QueuePops$Popped" "serial" "J" (.long x2) := F0.same W2
  have g5 : Fld Z h2 a1 "com/example/pollster/pollster/QueuePops$Popped" "reconsumeTimes" "I" u1 := F1.other W2 (Or.inr (slot_ne (Or.inr (hw _ (List.mem_of_getElem? (i := 15) rfl))) (Or.inr (hw _ (List.mem_of_getElem? (i := 13) rfl))) (by decide) (t := .int) (t' := .long) (by decide) (by decide)))
  have g6 : Fld Z h2 a1 "com/example/pollster/pollster/QueuePops$Popped" "invisibleUntil" "J" u2 := F2.other W2 (Or.inr (slot_ne (Or.inr (hw _ (List.mem_of_getElem? (i := 17) rfl))) (Or.inr (hw _ (List.mem_of_getElem? (i := 13) rfl))) (by decide) (t := .long) (t' := .long) (by decide) (by decide)))
  have g7 : Fld Z h2 a1 "com/example/pollster/pollster/QueuePops$Popped" "deadLetterMsgId" "Ljava/lang/String;" u3 := F3.other W2 (Or.inr (slot_ne (Or.inr (hw _ (List.mem_of_getElem? (i := 19) rfl))) (Or.inr (hw _ (List.mem_of_getElem? (i := 13) rfl))) (by decide) (t := .object "java/lang/String") (t' := .long) (by decide) (by decide)))
  have g8 : Fld Z h2 a1 "com/example/pollster/pollster/QueuePops$Popped" "deadLetterFrom" "J" u4 := F4.other W2 (Or.inr (slot_ne (Or.inr (hw _ (List.mem_of_getElem? (i := 21) rfl))) (Or.inr (hw _ (List.mem_of_getElem? (i := 13) rfl))) (by decide) (t := .long) (t' := .long) (by decide) (by decide)))
  have K9 : Keep h0 h2 [a1] := K0.wr W2 (Or.inl (List.mem_of_getElem? (i := 0) rfl))
  have N2 := Fr.snoc X2 N0 o_a
  have Z2 : n0 ≤ h2.size := (Nat.le_trans Z0 (Nat.le_of_eq W2.size.symm))
  refine own_step (T' := T2) (g' := (mkF m 9 #[.val (.ref a1), .val (.long x2), .second, .val (.int x3), .val (.long x4), .second, .val (.ref x5), .val (.long x6), .second] [])) st2 ?_
  refine own_step (T' := T2) (g' := (mkF m 10 #[.val (.ref a1), .val (.long x2), .second, .val (.int x3), .val (.long x4), .second, .val (.ref x5), .val (.long x6), .second] [(.ref a1)])) (fun t k => XS.aloadN X2.here hx rfl (hb hby d2_9) rfl rfl k) ?_
  refine own_step (T' := T2) (g' := (mkF m 11 #[.val (.ref a1), .val (.long x2), .second, .val (.int x3), .val (.long x4), .second, .val (.ref x5), .val (.long x6), .second] [(.int x3), (.ref a1)])) (fun t k => XS.iloadN X2.here hx rfl (hb hby d2_10) rfl k) ?_
  obtain ⟨T10, h10, X10, e10, W10, st10⟩ := putF X2 hx hZ hown (host := "") (Or.inl (hw _ (List.mem_of_getElem? (i := 14) rfl))) Via.refl e2 g5 g3 (Or.inr ⟨(hw _ (List.mem_of_getElem? (i := 15) rfl)), rfl, hnm⟩) (hw _ (List.mem_of_getElem? (i := 1) rfl)) (ty := .int) (by decide) rfl rfl (g := (mkF m 11 #[.val (.ref a1), .val (.long x2), .second, .val (.int x3), .val (.long x4), .second, .val (.ref x5), .val (.long x6), .second] [(.int x3), (.ref a1)])) rfl rfl (hb hby d2_11)
  have g11 : Exa Z h10 a1 "com/example/pollster/pollster/QueuePops$Popped" := g3.wr W10
  have g12 : Fld Z h10 a1 "com/example/pollster/pollster/QueuePops$Popped" "serial" "J" (.long x2) := g4.other W10 (Or.inr (slot_ne (Or.inr (hw _ (List.mem_of_getElem? (i := 13) rfl))) (Or.inr (hw _ (List.mem_of_getElem? (i := 15) rfl))) (by decide) (t := .long) (t' := .int) (by decide) (by decide)))
  have g13 : Fld Z h10 a1 "com/example/pollster/pollster/QueuePops$Popped" "reconsumeTimes" "I" (.int x3) := g5.same W10
  have g14 : Fld Z h10 a1 "com/example/pollster/pollster/QueuePops$Popped" "invisibleUntil" "J" u2 := g6.other W10 (Or.inr (slot_ne (Or.inr (hw _ (List.mem_of_getElem? (i := 17) rfl))) (Or.inr (hw _ (List.mem_of_getElem? (i := 15) rfl))) (by decide) (t := .long) (t' := .int) (by decide) (by decide)))
  have g15 : Fld Z h10 a1 "com/example/pollster/pollster/QueuePops$Popped" "deadLetterMsgId" "Ljava/lang/String;" u3 := g7.other W10 (Or.inr (slot_ne (Or.inr (hw _ (List.mem_of_getElem? (i := 19) rfl))) (Or.inr (hw _ (List.mem_of_getElem? (i := 15) rfl))) (by decide) (t := .object "java/lang/String") (t' := .int) (by decide) (by decide)))
  have g16 : Fld Z h10 a1 "com/example/pollster/pollster/QueuePops$Popped" "deadLetterFrom" "J" u4 := g8.other W10 (Or.inr (slot_ne (Or.inr (hw _ (List.mem_of_getElem? (i := 21) rfl))) (Or.inr (hw _ (List.mem_of_getElem? (i := 15) rfl))) (by decide) (t := .long) (t' := .int) (by decide) (by decide)))
  have K17 : Keep h0 h10 [a1] := K9.wr W10 (Or.inl (List.mem_of_getElem? (i := 0) rfl))
  have N10 := Fr.snoc X10 N2 o_a
  have Z10 : n0 ≤ h10.size := (Nat.le_trans Z2 (Nat.le_of_eq W10.size.symm))
  refine own_step (T' := T10) (g' := (mkF m 14 #[.val (.ref a1), .val (.long x2), .second, .val (.int x3), .val (.long x4), .second, .val (.ref x5), .val (.long x6), .second] [])) st10 ?_
  refine own_step (T' := T10) (g' := (mkF m 15 #[.val (.ref a1), .val (.long x2), .second, .val (.int x3), .val (.long x4), .second, .val (.ref x5), .val (.long x6), .second] [(.ref a1)])) (fun t k => XS.aloadN X10.here hx rfl (hb hby d2_14) rfl rfl k) ?_
  refine own_step (T' := T10) (g' := (mkF m 17 #[.val (.ref a1), .val (.long x2), .second, .val (.int x3), .val (.long x4), .second, .val (.ref x5), .val (.long x6), .second] [(.long x4), (.ref a1)])) (fun t k => XS.lload X10.here hx rfl (hb hby d2_15) rfl k) ?_
  obtain ⟨T18, h18, X18, e18, W18, st18⟩ := putF X10 hx hZ hown (host := "") (Or.inl (hw _ (List.mem_of_getElem? (i := 16) rfl))) Via.refl e10 g14 g11 (Or.inr ⟨(hw _ (List.mem_of_getElem? (i := 17) rfl)), rfl, hnm⟩) (hw _ (List.mem_of_getElem? (i := 1) rfl)) (ty := .long) (by decide) rfl rfl (g := (mkF m 17 #[.val (.ref a1), .val (.long x2), .second, .val (.int x3), .val (.long x4), .second, .val (.ref x5), .val (.long x6), .second] [(.long x4), (.ref a1)])) rfl rfl (hb hby d2_17)
  have g19 : Exa Z h18 a1 "com/example/pollster/pollster/QueuePops$Popped" := g11.wr W18
  have g20 : Fld Z h18 a1 "com/example/pollster/pollster/QueuePops$Popped" "serial" "J" (.long x2) := g12.other W18 (Or.inr (slot_ne (Or.inr (hw _ (List.mem_of_getElem? (i := 13) rfl))) (Or.inr (hw _ (List.mem_of_getElem? (i := 17) rfl))) (by decide) (t := .long) (t' := .long) (by decide) (by decide)))
  have g21 : Fld Z h18 a1 "com/example/pollster/pollster/QueuePops$Popped" "reconsumeTimes" "I" (.int x3) := g13.other W18 (Or.inr (slot_ne (Or.inr (hw _ (List.mem_of_getElem? (i := 15) rfl))) (Or.inr (hw _ (List.mem_of_getElem? (i := 17) rfl))) (by decide) (t := .int) (t' := .long) (by decide) (by decide)))
  have g22 : Fld Z h18 a1 "com/example/pollster/pollster/QueuePops$Popped" "invisibleUntil" "J" (.long x4) := g14.same W18
  have g23 : Fld Z h18 a1 "com/example/pollster/pollster/QueuePops$Popped" "deadLetterMsgId" "Ljava/lang/String;" u3 := g15.other W18 (Or.inr (slot_ne (Or.inr (hw _ (List.mem_of_getElem? (i := 19) rfl))) (Or.inr (hw _ (List.mem_of_getElem? (i := 17) rfl))) (by decide) (t := .object "java/lang/String") (t' := .long) (by decide) (by decide)))
  have g24 : Fld Z h18 a1 "com/example/pollster/pollster/QueuePops$Popped" "deadLetterFrom" "J" u4 := g16.other W18 (Or.inr (slot_ne (Or.inr (hw _ (List.mem_of_getElem? (i := 21) rfl))) (Or.inr (hw _ (List.mem_of_getElem? (i := 17) rfl))) (by decide) (t := .long) (t' := .long) (by decide) (by decide)))
  have K25 : Keep h0 h18 [a1] := K17.wr W18 (Or.inl (List.mem_of_getElem? (i := 0) rfl))
  have N18 := Fr.snoc X18 N10 o_a
  have Z18 : n0 ≤ h18.size := (Nat.le_trans Z10 (Nat.le_of_eq W18.size.symm))
  refine own_step (T' := T18) (g' := (mkF m 20 #[.val (.ref a1), .val (.long x2), .second, .val (.int x3), .val (.long x4), .second, .val (.ref x5), .val (.long x6), .second] [])) st18 ?_
  refine own_step (T' := T18) (g' := (mkF m 21 #[.val (.ref a1), .val (.long x2), .second, .val (.int x3), .val (.long x4), .second, .val (.ref x5), .val (.long x6), .second] [(.ref a1)])) (fun t k => XS.aloadN X18.here hx rfl (hb hby d2_20) rfl rfl k) ?_
  refine own_step (T' := T18) (g' := (mkF m 23 #[.val (.ref a1), .val (.long x2), .second, .val (.int x3), .val (.long x4), .second, .val (.ref x5), .val (.long x6), .second] [(.ref x5), (.ref a1)])) (fun t k => XS.aload X18.here hx rfl (hb hby d2_21) rfl rfl k) ?_
  obtain ⟨T26, h26, X26, e26, W26, st26⟩ := putF X18 hx hZ hown (host := "") (Or.inl (hw _ (List.mem_of_getElem? (i := 18) rfl))) Via.refl e18 g23 g19 (Or.inr ⟨(hw _ (List.mem_of_getElem? (i := 19) rfl)), rfl, hnm⟩) (hw _ (List.mem_of_getElem? (i := 1) rfl)) (ty := .object "java/lang/String") (by decide) rfl rfl (g := (mkF m 23 #[.val (.ref a1), .val (.long x2), .second, .val (.int x3), .val (.long x4), .second, .val (.ref x5), .val (.long x6), .second] [(.ref x5), (.ref a1)])) rfl rfl (hb hby d2_23)
  have g27 : Exa Z h26 a1 "com/example/pollster/pollster/QueuePops$Popped" := g19.wr W26
  have g28 : Fld Z h26 a1 "com/example/pollster/pollster/QueuePops$Popped" "serial" "J" (.long x2) := g20.other W26 (Or.inr (slot_ne (Or.inr (hw _ (List.mem_of_getElem? (i := 13) rfl))) (Or.inr (hw _ (List.mem_of_getElem? (i := 19) rfl))) (by decide) (t := .long) (t' := .object "java/lang/String") (by decide) (by decide)))
  have g29 : Fld Z h26 a1 "com/example/pollster/pollster/QueuePops$Popped" "reconsumeTimes" "I" (.int x3) := g21.other W26 (Or.inr (slot_ne (Or.inr (hw _ (List.mem_of_getElem? (i := 15) rfl))) (Or.inr (hw _ (List.mem_of_getElem? (i := 19) rfl))) (by decide) (t := .int) (t' := .object "java/lang/String") (by decide) (by decide)))
  have g30 : Fld Z h26 a1 "com/example/pollster/pollster/QueuePops$Popped" "invisibleUntil" "J" (.long x4) := g22.other W26 (Or.inr (slot_ne (Or.inr (hw _ (List.mem_of_getElem? (i := 17) rfl))) (Or.inr (hw _ (List.mem_of_getElem? (i := 19) rfl))) (by decide) (t := .long) (t' := .object "java/lang/String") (by decide) (by decide)))
  have g31 : Fld Z h26 a1 "com/example/pollster/pollster/QueuePops$Popped" "deadLetterMsgId" "Ljava/lang/String;" (.ref x5) := g23.same W26
  have g32 : Fld Z h26 a1 "com/example/pollster/pollster/QueuePops$Popped" "deadLetterFrom" "J" u4 := g24.other W26 (Or.inr (slot_ne (Or.inr (hw _ (List.mem_of_getElem? (i := 21) rfl))) (Or.inr (hw _ (List.mem_of_getElem? (i := 19) rfl))) (by decide) (t := .long) (t' := .object "java/lang/String") (by decide) (by decide)))
  have K33 : Keep h0 h26 [a1] := K25.wr W26 (Or.inl (List.mem_of_getElem? (i := 0) rfl))
  have N26 := Fr.snoc X26 N18 o_a
  have Z26 : n0 ≤ h26.size := (Nat.le_trans Z18 (Nat.le_of_eq W26.size.symm))
  refine own_step (T' := T26) (g' := (mkF m 26 #[.val (.ref a1), .val (.long x2), .second, .val (.int x3), .val (.long x4), .second, .val (.ref x5), .val (.long x6), .second] [])) st26 ?_
  refine own_step (T' := T26) (g' := (mkF m 27 #[.val (.ref a1), .val (.long x2), .second, .val (.int x3), .val (.long x4), .second, .val (.ref x5), .val (.long x6), .second] [(.ref a1)])) (fun t k => XS.aloadN X26.here hx rfl (hb hby d2_26) rfl rfl k) ?_
  refine own_step (T' := T26) (g' := (mkF m 29 #[.val (.ref a1), .val (.long x2), .second, .val (.int x3), .val (.long x4), .second, .val (.ref x5), .val (.long x6), .second] [(.long x6), (.ref a1)])) (fun t k => XS.lload X26.here hx rfl (hb hby d2_27) rfl k) ?_
  obtain ⟨T34, h34, X34, e34, W34, st34⟩ := putF X26 hx hZ hown (host := "") (Or.inl (hw _ (List.mem_of_getElem? (i := 20) rfl))) Via.refl e26 g32 g27 (Or.inr ⟨(hw _ (List.mem_of_getElem? (i := 21) rfl)), rfl, hnm⟩) (hw _ (List.mem_of_getElem? (i := 1) rfl)) (ty := .long) (by decide) rfl rfl (g := (mkF m 29 #[.val (.ref a1), .val (.long x2), .second, .val (.int x3), .val (.long x4), .second, .val (.ref x5), .val (.long x6), .second] [(.long x6), (.ref a1)])) rfl rfl (hb hby d2_29)
  have g35 : Exa Z h34 a1 "com/example/pollster/pollster/QueuePops$Popped" := g27.wr W34
  have g36 : Fld Z h34 a1 "com/example/pollster/pollster/QueuePops$Popped" "serial" "J" (.long x2) := g28.other W34 (Or.inr (slot_ne (Or.inr (hw _ (List.mem_of_getElem? (i := 13) rfl))) (Or.inr (hw _ (List.mem_of_getElem? (i := 21) rfl))) (by decide) (t := .long) (t' := .long) (by decide) (by decide)))
  have g37 : Fld Z h34 a1 "com/example/pollster/pollster/QueuePops$Popped" "reconsumeTimes" "I" (.int x3) := g29.other W34 (Or.inr (slot_ne (Or.inr (hw _ (List.mem_of_getElem? (i := 15) rfl))) (Or.inr (hw _ (List.mem_of_getElem? (i := 21) rfl))) (by decide) (t := .int) (t' := .long) (by decide) (by decide)))
  have g38 : Fld Z h34 a1 "com/example/pollster/pollster/QueuePops$Popped" "invisibleUntil" "J" (.long x4) := g30.other W34 (Or.inr (slot_ne (Or.inr (hw _ (List.mem_of_getElem? (i := 17) rfl))) (Or.inr (hw _ (List.mem_of_getElem? (i := 21) rfl))) (by decide) (t := .long) (t' := .long) (by decide) (by decide)))
  have g39 : Fld Z h34 a1 "com/example/pollster/pollster/QueuePops$Popped" "deadLetterMsgId" "Ljava/lang/String;" (.ref x5) := g31.other W34 (Or.inr (slot_ne (Or.inr (hw _ (List.mem_of_getElem? (i := 19) rfl))) (Or.inr (hw _ (List.mem_of_getElem? (i := 21) rfl))) (by decide) (t := .object "java/lang/String") (t' := .long) (by decide) (by decide)))
  have g40 : Fld Z h34 a1 "com/example/pollster/pollster/QueuePops$Popped" "deadLetterFrom" "J" (.long x6) := g32.same W34
  have K41 : Keep h0 h34 [a1] := K33.wr W34 (Or.inl (List.mem_of_getElem? (i := 0) rfl))
  have N34 := Fr.snoc X34 N26 o_a
  have Z34 : n0 ≤ h34.size := (Nat.le_trans Z26 (Nat.le_of_eq W34.size.symm))
  refine own_step (T' := T34) (g' := (mkF m 32 #[.val (.ref a1), .val (.long x2), .second, .val (.int x3), .val (.long x4), .second, .val (.ref x5), .val (.long x6), .second] [])) st34 ?_
  refine own_rV X34 hx hlk Bd.returns (hb hby d2_32) ?_ (by decide) (by decide)
  rw [e34]
  exact ⟨rfl, N34, K41, g35, g36, g37, g38, g39, g40⟩
def Q_i3 (Z : State) (a1 : Addr) (x2 : Int64) (x3 : Int32) (x4 : Int64) (h0 : Heap) (n0 : Nat) (v : Option Value) (h : Heap) (L : List Loc) : Prop := v = none ∧ Fr n0 L ∧ Keep h0 h [a1] ∧ Exa Z h a1 "com/example/pollster/pollster/QueuePops$Popped" ∧ Fld Z h a1 "com/example/pollster/pollster/QueuePops$Popped" "serial" "J" (.long x2) ∧ Fld Z h a1 "com/example/pollster/pollster/QueuePops$Popped" "reconsumeTimes" "I" (.int x3) ∧ Fld Z h a1 "com/example/pollster/pollster/QueuePops$Popped" "invisibleUntil" "J" (.long x4) ∧ Fld Z h a1 "com/example/pollster/pollster/QueuePops$Popped" "deadLetterMsgId" "Ljava/lang/String;" .null ∧ Fld Z h a1 "com/example/pollster/pollster/QueuePops$Popped" "deadLetterFrom" "J" (.long (0 : Int64))
theorem ef_rm_i3 (m : MethodId) (x0 : Addr) (x1 : Int64) (x2 : Int32) (x3 : Int64) : entryFrame m #[(.ref x0), (.long x1), (.int x2), (.long x3)] 6 = mkF m 0 #[.val (.ref x0), .val (.long x1), .second, .val (.int x2), .val (.long x3), .second] [] := by first | (simp [entryFrame, mkF, argsToLocals, Value.category]; done) | rfl | (simp [entryFrame, mkF, argsToLocals, Value.category] <;> rfl)
theorem d1_0 : decode prog_56_method_1_code 0 = .ok (.aload_n 0, 1) := by decide +kernel
theorem d1_1 : decode prog_56_method_1_code 1 = .ok (.lload_n 1, 1) := by decide +kernel
theorem d1_2 : decode prog_56_method_1_code 2 = .ok (.iload_n 3, 1) := by decide +kernel
theorem d1_3 : decode prog_56_method_1_code 3 = .ok (.lload 4, 2) := by decide +kernel
theorem d1_5 : decode prog_56_method_1_code 5 = .ok (.aconst_null, 1) := by decide +kernel
theorem d1_6 : decode prog_56_method_1_code 6 = .ok (.lconst 0, 1) := by decide +kernel
theorem pd_0 : parseMethodDescriptor "(JIJLjava/lang/String;J)V" = some ⟨[.long, .int, .long, .object "java/lang/String", .long], none⟩ := by decide +kernel
theorem d1_7 : decode prog_56_method_1_code 7 = .ok (.invokespecial 1, 3) := by decide +kernel
theorem d1_10 : decode prog_56_method_1_code 10 = .ok (.return_, 1) := by decide +kernel
set_option maxRecDepth 65536 in
set_option maxHeartbeats 40000000 in
theorem rm_i3 (l : Launch) (Z : State) (a0 : Array Value) (hw : ∀ d ∈ tables_1, d.before a0 Z = true) (ws : List Jvm.Cond) (a1 : Addr) (x2 : Int64) (x3 : Int32) (x4 : Int64) (u0 : Value) (u1 : Value) (u2 : Value) (u3 : Value) (u4 : Value) (h0 : Heap) (n0 : Nat) (Z0 : n0 ≤ h0.size) (E_a : Exa Z h0 a1 "com/example/pollster/pollster/QueuePops$Popped") (F0 : Fld Z h0 a1 "com/example/pollster/pollster/QueuePops$Popped" "serial" "J" u0) (F1 : Fld Z h0 a1 "com/example/pollster/pollster/QueuePops$Popped" "reconsumeTimes" "I" u1) (F2 : Fld Z h0 a1 "com/example/pollster/pollster/QueuePops$Popped" "invisibleUntil" "J" u2) (F3 : Fld Z h0 a1 "com/example/pollster/pollster/QueuePops$Popped" "deadLetterMsgId" "Ljava/lang/String;" u3) (F4 : Fld Z h0 a1 "com/example/pollster/pollster/QueuePops$Popped" "deadLetterFrom" "J" u4) (o_a : n0 ≤ a1) :
    MetFree l (⟨"com/example/pollster/pollster/QueuePops$Popped", "<init>", "(JIJ)V"⟩ : MethodName) (head1 (Jvm.Cond.code (⟨"com/example/pollster/pollster/QueuePops$Popped", "<init>", "(JIJ)V"⟩ : MethodName) prog_56_method_1_code 6 none :: ws) ({ frames := 2, cells := 0, slots := 0, locals := 32 } : Room)) (fun a U => a = #[(.ref a1), (.long x2), (.int x3), (.long x4)] ∧ Z.Warmed39 U.vm ∧ U.heap = h0) (fun _ _ _ _ _ => True) (fun _ U o U' => ∃ v L, o = .returned v ∧ (Q_i3 Z a1 x2 x3 x4 h0 n0) v U'.heap L ∧ FrameEnd U o U' L ({ frames := 2, cells := 0, slots := 0, locals := 32 } : Room).cells ({ frames := 2, cells := 0, slots := 0, locals := 32 } : Room).slots) := by
  refine MetFree.of_bodySF (plainFor_of_name pn_0) hisR ?_
  intro p e s m args below meth c s₁ Bd hml0 hP hK
  obtain ⟨rfl, hZ, hh⟩ := hP
  have hx := Bd.exec
  have hby := Bd.bytes
  have hlk : meth.locks = false := BodyLoose.notSynchronized Bd
  have hml : c.maxLocals = 6 := hml0
  have hown : s.vm.findClass "com/example/pollster/pollster/QueuePops$Popped" = some m.cls := findClass_of_methodNamed Bd.named
  have hnm := (name_of_methodNamed Bd.named Bd.method).1
  have X0 : Stand p l e ({ frames := 2, cells := 0, slots := 0, locals := 32 } : Room) s m #[(.ref a1), (.long x2), (.int x3), (.long x4)] below meth c s₁ [] 0 0 := Stand.of_body Bd
  have e0 : s₁.heap = h0 := by rw [← hh, Bd.state]; rfl
  have N0 := Fr.nil n0
  show own_Go p e below s (Q_i3 Z a1 x2 x3 x4 h0 n0) ({ frames := 2, cells := 0, slots := 0, locals := 32 } : Room).cells ({ frames := 2, cells := 0, slots := 0, locals := 32 } : Room).slots s₁ (entryFrame m #[(.ref a1), (.long x2), (.int x3), (.long x4)] 6)
  refine own_cast (g' := (mkF m 0 #[.val (.ref a1), .val (.long x2), .second, .val (.int x3), .val (.long x4), .second] [])) (ef_rm_i3 m a1 x2 x3 x4) ?_
  have K0 : Keep h0 h0 [a1] := Keep.refl _ _
  refine own_step (T' := s₁) (g' := (mkF m 1 #[.val (.ref a1), .val (.long x2), .second, .val (.int x3), .val (.long x4), .second] [(.ref a1)])) (fun t k => XS.aloadN X0.here hx rfl (hb hby d1_0) rfl rfl k) ?_
  refine own_step (T' := s₁) (g' := (mkF m 2 #[.val (.ref a1), .val (.long x2), .second, .val (.int x3), .val (.long x4), .second] [(.long x2), (.ref a1)])) (fun t k => XS.lloadN X0.here hx rfl (hb hby d1_1) rfl k) ?_
  refine own_step (T' := s₁) (g' := (mkF m 3 #[.val (.ref a1), .val (.long x2), .second, .val (.int x3), .val (.long x4), .second] [(.int x3), (.long x2), (.ref a1)])) (fun t k => XS.iloadN X0.here hx rfl (hb hby d1_2) rfl k) ?_
  refine own_step (T' := s₁) (g' := (mkF m 5 #[.val (.ref a1), .val (.long x2), .second, .val (.int x3), .val (.long x4), .second] [(.long x4), (.int x3), (.long x2), (.ref a1)])) (fun t k => XS.lload X0.here hx rfl (hb hby d1_3) rfl k) ?_
  refine own_step (T' := s₁) (g' := (mkF m 6 #[.val (.ref a1), .val (.long x2), .second, .val (.int x3), .val (.long x4), .second] [.null, (.long x4), (.int x3), (.long x2), (.ref a1)])) (fun t k => XS.aconstNull X0.here hx rfl (hb hby d1_5) k) ?_
  refine own_step (T' := s₁) (g' := (mkF m 7 #[.val (.ref a1), .val (.long x2), .second, .val (.int x3), .val (.long x4), .second] [(.long (0 : Int64)), .null, (.long x4), (.int x3), (.long x2), (.ref a1)])) (fun t k => XS.lconst X0.here hx rfl (hb hby d1_6) k) ?_
  obtain ⟨_, _, ⟨T8, L8, k8, n8⟩, -, X8, ⟨Lc8, hQ8, lq8, yq8, zq8⟩, st8⟩ := X0.specialBack hx (y := (⟨"com/example/pollster/pollster/QueuePops$Popped", "<init>", "(JIJLjava/lang/String;J)V"⟩ : MethodName)) rfl hown (mvT hZ (hw _ (List.mem_of_getElem? (i := 6) rfl))) (mvT hZ (hw _ (List.mem_of_getElem? (i := 7) rfl))) (mvT hZ (hw _ (List.mem_of_getElem? (i := 8) rfl))) (by decide) (backOf (W := 0) (rm_i5null l Z a0 hw [] a1 x2 x3 x4 (0 : Int64) _ _ _ _ _ h0 n0 Z0 E_a F0 F1 F2 F3 F4 o_a) hZ (hw _ (List.mem_of_getElem? (i := 8) rfl)) (hw _ (List.mem_of_getElem? (i := 2) rfl)) (by decide) (by decide)) (g := (mkF m 7 #[.val (.ref a1), .val (.long x2), .second, .val (.int x3), .val (.long x4), .second] [(.long (0 : Int64)), .null, (.long x4), (.int x3), (.long x2), (.ref a1)])) rfl (by rw [hml]; rfl) (Steps.refl _) (a := a1) (argsL := [(.long x2), (.int x3), (.long x4), .null, (.long (0 : Int64))]) (rest := []) (lenOf pd_0 rfl) rfl (by show 2 * 0 + _ ≤ _; exact Nat.le_of_eq rfl) (hb hby d1_7) (fun _ _ => ⟨rfl, e0, (by decide : 0 + 0 ≤ _), (by decide : 0 + 0 ≤ _)⟩)
  dsimp only [Pt.U, Pt.locs, Pt.cells, Pt.slots] at X8 lq8 yq8 zq8 st8 hQ8
  subst lq8 yq8 zq8
  obtain ⟨rfl, Nq8, K1, g2, g3, g4, g5, g6, g7⟩ := hQ8
  have N8 := Fr.app N0 Nq8
  have Z1 : n0 ≤ T8.heap.size := (Nat.le_trans Z0 K1.1)
  have K9 : Keep h0 T8.heap [a1] := K0.trans K1 (allS (P := fun x => x ∈ [a1] ∨ h0.size ≤ x) (Or.inl (List.mem_of_getElem? (i := 0) rfl)) all0)
  refine own_tr (T' := T8) (g' := (mkF m 10 #[.val (.ref a1), .val (.long x2), .second, .val (.int x3), .val (.long x4), .second] [])) st8 ?_
  refine own_rV X8 hx hlk Bd.returns (hb hby d1_10) ?_ (by decide) (by decide)
  exact ⟨rfl, N8, K9, g2, g3, g4, g5, g6, g7⟩
def own_hid (a u : Int64) : Int32 := if a < u then 1 else 0
def own_min (a b : Int64) : Int64 := if b < a then b else a
def own_max (a b : Int64) : Int64 := if a < b then b else a
def Q_hid (a1 : Addr) (q2 : Int64) (u : Int64) (h0 : Heap) (n0 : Nat) (v : Option Value) (h : Heap) (L : List Loc) : Prop := v = some (.int (own_hid q2 u)) ∧ Fr n0 L ∧ h = h0
theorem ef_rm_hid (m : MethodId) (x0 : Addr) (x1 : Int64) : entryFrame m #[(.ref x0), (.long x1)] 3 = mkF m 0 #[.val (.ref x0), .val (.long x1), .second] [] := by first | (simp [entryFrame, mkF, argsToLocals, Value.category]; done) | rfl | (simp [entryFrame, mkF, argsToLocals, Value.category] <;> rfl)
theorem d10_0 : decode prog_56_method_7_code 0 = .ok (.lload_n 1, 1) := by decide +kernel
theorem d10_1 : decode prog_56_method_7_code 1 = .ok (.aload_n 0, 1) := by decide +kernel
theorem d10_2 : decode prog_56_method_7_code 2 = .ok (.getfield 20, 3) := by decide +kernel
theorem d10_5 : decode prog_56_method_7_code 5 = .ok (.lcmp, 1) := by decide +kernel
theorem d10_6 : decode prog_56_method_7_code 6 = .ok (.ifCond .ge 7, 3) := by decide +kernel
theorem d10_9 : decode prog_56_method_7_code 9 = .ok (.iconst 1, 1) := by decide +kernel
theorem d10_10 : decode prog_56_method_7_code 10 = .ok (.goto 4, 3) := by decide +kernel
theorem d10_14 : decode prog_56_method_7_code 14 = .ok (.ireturn, 1) := by decide +kernel
theorem d10_13 : decode prog_56_method_7_code 13 = .ok (.iconst 0, 1) := by decide +kernel
set_option maxRecDepth 65536 in
set_option maxHeartbeats 40000000 in
theorem rm_hid (l : Launch) (Z : State) (a0 : Array Value) (hw : ∀ d ∈ tables_1, d.before a0 Z = true) (ws : List Jvm.Cond) (a1 : Addr) (q2 : Int64) (u : Int64) (h0 : Heap) (n0 : Nat) (Z0 : n0 ≤ h0.size) (F_u : Fld Z h0 a1 "com/example/pollster/pollster/QueuePops$Popped" "invisibleUntil" "J" (.long u)) :
    MetFree l (⟨"com/example/pollster/pollster/QueuePops$Popped", "hiddenAt", "(J)Z"⟩ : MethodName) (head1 (Jvm.Cond.code (⟨"com/example/pollster/pollster/QueuePops$Popped", "hiddenAt", "(J)Z"⟩ : MethodName) prog_56_method_7_code 3 (some (.boolean)) :: ws) ({ frames := 0, cells := 0, slots := 0, locals := 0 } : Room)) (fun a U => a = #[(.ref a1), (.long q2)] ∧ Z.Warmed39 U.vm ∧ U.heap = h0) (fun _ _ _ _ _ => True) (fun _ U o U' => ∃ v L, o = .returned v ∧ (Q_hid a1 q2 u h0 n0) v U'.heap L ∧ FrameEnd U o U' L ({ frames := 0, cells := 0, slots := 0, locals := 0 } : Room).cells ({ frames := 0, cells := 0, slots := 0, locals := 0 } : Room).slots) := by
  refine MetFree.of_bodySF (plainFor_of_name pn_0) hisR ?_
  intro p e s m args below meth c s₁ Bd hml0 hP hK
  obtain ⟨rfl, hZ, hh⟩ := hP
  have hx := Bd.exec
  have hby := Bd.bytes
  have hlk : meth.locks = false := BodyLoose.notSynchronized Bd
  have hml : c.maxLocals = 3 := hml0
  have hown : s.vm.findClass "com/example/pollster/pollster/QueuePops$Popped" = some m.cls := findClass_of_methodNamed Bd.named
  have hnm := (name_of_methodNamed Bd.named Bd.method).1
  have X0 : Stand p l e ({ frames := 0, cells := 0, slots := 0, locals := 0 } : Room) s m #[(.ref a1), (.long q2)] below meth c s₁ [] 0 0 := Stand.of_body Bd
  have e0 : s₁.heap = h0 := by rw [← hh, Bd.state]; rfl
  have N0 := Fr.nil n0
  show own_Go p e below s (Q_hid a1 q2 u h0 n0) ({ frames := 0, cells := 0, slots := 0, locals := 0 } : Room).cells ({ frames := 0, cells := 0, slots := 0, locals := 0 } : Room).slots s₁ (entryFrame m #[(.ref a1), (.long q2)] 3)
  refine own_cast (g' := (mkF m 0 #[.val (.ref a1), .val (.long q2), .second] [])) (ef_rm_hid m a1 q2) ?_
  refine own_step (T' := s₁) (g' := (mkF m 1 #[.val (.ref a1), .val (.long q2), .second] [(.long q2)])) (fun t k => XS.lloadN X0.here hx rfl (hb hby d10_0) rfl k) ?_
  refine own_step (T' := s₁) (g' := (mkF m 2 #[.val (.ref a1), .val (.long q2), .second] [(.ref a1), (.long q2)])) (fun t k => XS.aloadN X0.here hx rfl (hb hby d10_1) rfl rfl k) ?_
  obtain ⟨T1, X1, e1, st1⟩ := getF X0 hx hZ hown (host := "") (Or.inl (hw _ (List.mem_of_getElem? (i := 16) rfl))) Via.refl e0 F_u (g := (mkF m 2 #[.val (.ref a1), .val (.long q2), .second] [(.ref a1), (.long q2)])) rfl rfl (hb hby d10_2)
  refine own_step (T' := T1) (g' := (mkF m 5 #[.val (.ref a1), .val (.long q2), .second] [(.long u), (.long q2)])) st1 ?_
  refine own_step (T' := T1) (g' := (mkF m 6 #[.val (.ref a1), .val (.long q2), .second] [(.int (lcmpW q2 u))])) (fun t k => XS.lcmp X1.here hx rfl (hb hby d10_5) rfl k) ?_
  by_cases c6 : q2 < u
  · refine own_step (T' := T1) (g' := (mkF m 9 #[.val (.ref a1), .val (.long q2), .second] [])) (fun t k => XS.ifNo X1.here hx rfl (hb hby d10_6) rfl ((if0 _ _).trans (tlt ((lw_lt _ _).mpr c6)).2.1) k) ?_
    refine own_step (T' := T1) (g' := (mkF m 10 #[.val (.ref a1), .val (.long q2), .second] [(.int (1 : Int32))])) (fun t k => XS.iconst X1.here hx rfl (hb hby d10_9) k) ?_
    refine own_step (T' := T1) (g' := (mkF m 14 #[.val (.ref a1), .val (.long q2), .second] [(.int (1 : Int32))])) (fun t k => XS.goto X1.here hx rfl (pc0 := 10) (pc' := 14) rfl (hb hby d10_10) (by decide) (by decide) k) ?_
    refine own_rN X1 hx hlk Bd.returns (by simp) (hb hby d10_14) ?_ (by decide) (by decide)
    rw [e1]
    exact ⟨by rw [own_hid, if_pos c6]; rfl, N0, rfl⟩
  · refine own_step (T' := T1) (g' := (mkF m 13 #[.val (.ref a1), .val (.long q2), .second] [])) (fun t k => XS.ifYes X1.here hx rfl (pc0 := 6) (pc' := 13) rfl (hb hby d10_6) rfl ((if0 _ _).trans (flt (fun q => c6 ((lw_lt _ _).mp q))).2.1) (by decide) (by decide) k) ?_
    refine own_step (T' := T1) (g' := (mkF m 14 #[.val (.ref a1), .val (.long q2), .second] [(.int (0 : Int32))])) (fun t k => XS.iconst X1.here hx rfl (hb hby d10_13) k) ?_
    refine own_rN X1 hx hlk Bd.returns (by simp) (hb hby d10_14) ?_ (by decide) (by decide)
    rw [e1]
    exact ⟨by rw [own_hid, if_neg c6]; rfl, N0, rfl⟩
def Q_inv (a1 : Addr) (u : Int64) (h0 : Heap) (n0 : Nat) (v : Option Value) (h : Heap) (L : List Loc) : Prop := v = some (.long u) ∧ Fr n0 L ∧ h = h0
theorem ef_rm_inv (m : MethodId) (x0 : Addr) : entryFrame m #[(.ref x0)] 1 = mkF m 0 #[.val (.ref x0)] [] := by first | (simp [entryFrame, mkF, argsToLocals, Value.category]; done) | rfl | (simp [entryFrame, mkF, argsToLocals, Value.category] <;> rfl)
theorem d13_0 : decode prog_56_method_6_code 0 = .ok (.aload_n 0, 1) := by decide +kernel
theorem d13_1 : decode prog_56_method_6_code 1 = .ok (.getfield 20, 3) := by decide +kernel
theorem d13_4 : decode prog_56_method_6_code 4 = .ok (.lreturn, 1) := by decide +kernel
set_option maxRecDepth 65536 in
set_option maxHeartbeats 40000000 in
theorem rm_inv (l : Launch) (Z : State) (a0 : Array Value) (hw : ∀ d ∈ tables_1, d.before a0 Z = true) (ws : List Jvm.Cond) (a1 : Addr) (u : Int64) (h0 : Heap) (n0 : Nat) (Z0 : n0 ≤ h0.size) (F_u : Fld Z h0 a1 "com/example/pollster/pollster/QueuePops$Popped" "invisibleUntil" "J" (.long u)) :
    MetFree l (⟨"com/example/pollster/pollster/QueuePops$Popped", "invisibleUntil", "()J"⟩ : MethodName) (head1 (Jvm.Cond.code (⟨"com/example/pollster/pollster/QueuePops$Popped", "invisibleUntil", "()J"⟩ : MethodName) prog_56_method_6_code 1 (some (.long)) :: ws) ({ frames := 0, cells := 0, slots := 0, locals := 0 } : Room)) (fun a U => a = #[(.ref a1)] ∧ Z.Warmed39 U.vm ∧ U.heap = h0) (fun _ _ _ _ _ => True) (fun _ U o U' => ∃ v L, o = .returned v ∧ (Q_inv a1 u h0 n0) v U'.heap L ∧ FrameEnd U o U' L ({ frames := 0, cells := 0, slots := 0, locals := 0 } : Room).cells ({ frames := 0, cells := 0, slots := 0, locals := 0 } : Room).slots) := by
  refine MetFree.of_bodySF (plainFor_of_name pn_0) hisR ?_
  intro p e s m args below meth c s₁ Bd hml0 hP hK
  obtain ⟨rfl, hZ, hh⟩ := hP
  have hx := Bd.exec
  have hby := Bd.bytes
  have hlk : meth.locks = false := BodyLoose.notSynchronized Bd
  have hml : c.maxLocals = 1 := hml0
  have hown : s.vm.findClass "com/example/pollster/pollster/QueuePops$Popped" = some m.cls := findClass_of_methodNamed Bd.named
  have hnm := (name_of_methodNamed Bd.named Bd.method).1
  have X0 : Stand p l e ({ frames := 0, cells := 0, slots := 0, locals := 0 } : Room) s m #[(.ref a1)] below meth c s₁ [] 0 0 := Stand.of_body Bd
  have e0 : s₁.heap = h0 := by rw [← hh, Bd.state]; rfl
  have N0 := Fr.nil n0
  show own_Go p e below s (Q_inv a1 u h0 n0) ({ frames := 0, cells := 0, slots := 0, locals := 0 } : Room).cells ({ frames := 0, cells := 0, slots := 0, locals := 0 } : Room).slots s₁ (entryFrame m #[(.ref a1)] 1)
  refine own_cast (g' := (mkF m 0 #[.val (.ref a1)] [])) (ef_rm_inv m a1) ?_
  refine own_step (T' := s₁) (g' := (mkF m 1 #[.val (.ref a1)] [(.ref a1)])) (fun t k => XS.aloadN X0.here hx rfl (hb hby d13_0) rfl rfl k) ?_
  obtain ⟨T1, X1, e1, st1⟩ := getF X0 hx hZ hown (host := "") (Or.inl (hw _ (List.mem_of_getElem? (i := 16) rfl))) Via.refl e0 F_u (g := (mkF m 1 #[.val (.ref a1)] [(.ref a1)])) rfl rfl (hb hby d13_1)
  refine own_step (T' := T1) (g' := (mkF m 4 #[.val (.ref a1)] [(.long u)])) st1 ?_
  refine own_rJ X1 hx hlk Bd.returns (hb hby d13_4) ?_ (by decide) (by decide)
  rw [e1]
  exact ⟨rfl, N0, rfl⟩
def Q_min (q1 : Int64) (q2 : Int64) (h0 : Heap) (n0 : Nat) (v : Option Value) (h : Heap) (L : List Loc) : Prop := v = some (.long (own_min q1 q2)) ∧ Fr n0 L ∧ h = h0
theorem ef_rm_min (m : MethodId) (x0 : Int64) (x1 : Int64) : entryFrame m #[(.long x0), (.long x1)] 4 = mkF m 0 #[.val (.long x0), .second, .val (.long x1), .second] [] := by first | (simp [entryFrame, mkF, argsToLocals, Value.category]; done) | rfl | (simp [entryFrame, mkF, argsToLocals, Value.category] <;> rfl)
theorem d11_0 : decode jdk_29_method_70_code 0 = .ok (.lload_n 0, 1) := by decide +kernel
theorem d11_1 : decode jdk_29_method_70_code 1 = .ok (.lload_n 2, 1) := by decide +kernel
theorem d11_2 : decode jdk_29_method_70_code 2 = .ok (.lcmp, 1) := by decide +kernel
theorem d11_3 : decode jdk_29_method_70_code 3 = .ok (.ifCond .gt 7, 3) := by decide +kernel
theorem d11_10 : decode jdk_29_method_70_code 10 = .ok (.lload_n 2, 1) := by decide +kernel
theorem d11_11 : decode jdk_29_method_70_code 11 = .ok (.lreturn, 1) := by decide +kernel
theorem d11_6 : decode jdk_29_method_70_code 6 = .ok (.lload_n 0, 1) := by decide +kernel
theorem d11_7 : decode jdk_29_method_70_code 7 = .ok (.goto 4, 3) := by decide +kernel
set_option maxRecDepth 65536 in
set_option maxHeartbeats 40000000 in
theorem rm_min (l : Launch) (Z : State) (a0 : Array Value) (hw : ∀ d ∈ tables_1, d.before a0 Z = true) (ws : List Jvm.Cond) (q1 : Int64) (q2 : Int64) (h0 : Heap) (n0 : Nat) (Z0 : n0 ≤ h0.size)  :
    MetFree l (⟨"java/lang/Math", "min", "(JJ)J"⟩ : MethodName) (head1 (Jvm.Cond.code (⟨"java/lang/Math", "min", "(JJ)J"⟩ : MethodName) jdk_29_method_70_code 4 (some (.long)) :: ws) ({ frames := 0, cells := 0, slots := 0, locals := 0 } : Room)) (fun a U => a = #[(.long q1), (.long q2)] ∧ Z.Warmed39 U.vm ∧ U.heap = h0) (fun _ _ _ _ _ => True) (fun _ U o U' => ∃ v L, o = .returned v ∧ (Q_min q1 q2 h0 n0) v U'.heap L ∧ FrameEnd U o U' L ({ frames := 0, cells := 0, slots := 0, locals := 0 } : Room).cells ({ frames := 0, cells := 0, slots := 0, locals := 0 } : Room).slots) := by
  refine MetFree.of_bodySF (Jvm.Free.JP.mathPlain rfl (by decide +kernel)) hisR ?_
  intro p e s m args below meth c s₁ Bd hml0 hP hK
  obtain ⟨rfl, hZ, hh⟩ := hP
  have hx := Bd.exec
  have hby := Bd.bytes
  have hlk : meth.locks = false := BodyLoose.notSynchronized Bd
  have hml : c.maxLocals = 4 := hml0
  have hown : s.vm.findClass "java/lang/Math" = some m.cls := findClass_of_methodNamed Bd.named
  have hnm := (name_of_methodNamed Bd.named Bd.method).1
  have X0 : Stand p l e ({ frames := 0, cells := 0, slots := 0, locals := 0 } : Room) s m #[(.long q1), (.long q2)] below meth c s₁ [] 0 0 := Stand.of_body Bd
  have e0 : s₁.heap = h0 := by rw [← hh, Bd.state]; rfl
  have N0 := Fr.nil n0
  show own_Go p e below s (Q_min q1 q2 h0 n0) ({ frames := 0, cells := 0, slots := 0, locals := 0 } : Room).cells ({ frames := 0, cells := 0, slots := 0, locals := 0 } : Room).slots s₁ (entryFrame m #[(.long q1), (.long q2)] 4)
  refine own_cast (g' := (mkF m 0 #[.val (.long q1), .second, .val (.long q2), .second] [])) (ef_rm_min m q1 q2) ?_
  refine own_step (T' := s₁) (g' := (mkF m 1 #[.val (.long q1), .second, .val (.long q2), .second] [(.long q1)])) (fun t k => XS.lloadN X0.here hx rfl (hb hby d11_0) rfl k) ?_
  refine own_step (T' := s₁) (g' := (mkF m 2 #[.val (.long q1), .second, .val (.long q2), .second] [(.long q2), (.long q1)])) (fun t k => XS.lloadN X0.here hx rfl (hb hby d11_1) rfl k) ?_
  refine own_step (T' := s₁) (g' := (mkF m 3 #[.val (.long q1), .second, .val (.long q2), .second] [(.int (lcmpW q1 q2))])) (fun t k => XS.lcmp X0.here hx rfl (hb hby d11_2) rfl k) ?_
  by_cases c3 : q2 < q1
  · refine own_step (T' := s₁) (g' := (mkF m 10 #[.val (.long q1), .second, .val (.long q2), .second] [])) (fun t k => XS.ifYes X0.here hx rfl (pc0 := 3) (pc' := 10) rfl (hb hby d11_3) rfl ((if0 _ _).trans (tlt ((lw_gt _ _).mpr c3)).2.2.1) (by decide) (by decide) k) ?_
    refine own_step (T' := s₁) (g' := (mkF m 11 #[.val (.long q1), .second, .val (.long q2), .second] [(.long q2)])) (fun t k => XS.lloadN X0.here hx rfl (hb hby d11_10) rfl k) ?_
    refine own_rJ X0 hx hlk Bd.returns (hb hby d11_11) ?_ (by decide) (by decide)
    rw [e0]
    exact ⟨by rw [own_min, if_pos c3], N0, rfl⟩
  · refine own_step (T' := s₁) (g' := (mkF m 6 #[.val (.long q1), .second, .val (.long q2), .second] [])) (fun t k => XS.ifNo X0.here hx rfl (hb hby d11_3) rfl ((if0 _ _).trans (flt (fun q => c3 ((lw_gt _ _).mp q))).2.2.1) k) ?_
    refine own_step (T' := s₁) (g' := (mkF m 7 #[.val (.long q1), .second, .val (.long q2), .second] [(.long q1)])) (fun t k => XS.lloadN X0.here hx rfl (hb hby d11_6) rfl k) ?_
    refine own_step (T' := s₁) (g' := (mkF m 11 #[.val (.long q1), .second, .val (.long q2), .second] [(.long q1)])) (fun t k => XS.goto X0.here hx rfl (pc0 := 7) (pc' := 11) rfl (hb hby d11_7) (by decide) (by decide) k) ?_
    refine own_rJ X0 hx hlk Bd.returns (hb hby d11_11) ?_ (by decide) (by decide)
    rw [e0]
    exact ⟨by rw [own_min, if_neg c3], N0, rfl⟩
def Q_max (q1 : Int64) (q2 : Int64) (h0 : Heap) (n0 : Nat) (v : Option Value) (h : Heap) (L : List Loc) : Prop := v = some (.long (own_max q1 q2)) ∧ Fr n0 L ∧ h = h0
theorem ef_rm_max (m : MethodId) (x0 : Int64) (x1 : Int64) : entryFrame m #[(.long x0), (.long x1)] 4 = mkF m 0 #[.val (.long x0), .second, .val (.long x1), .second] [] := by first | (simp [entryFrame, mkF, argsToLocals, Value.category]; done) | rfl | (simp [entryFrame, mkF, argsToLocals, Value.category] <;> rfl)
theorem d12_0 : decode jdk_29_method_66_code 0 = .ok (.lload_n 0, 1) := by decide +kernel
theorem d12_1 : decode jdk_29_method_66_code 1 = .ok (.lload_n 2, 1) := by decide +kernel
theorem d12_2 : decode jdk_29_method_66_code 2 = .ok (.lcmp, 1) := by decide +kernel
theorem d12_3 : decode jdk_29_method_66_code 3 = .ok (.ifCond .lt 7, 3) := by decide +kernel
theorem d12_10 : decode jdk_29_method_66_code 10 = .ok (.lload_n 2, 1) := by decide +kernel
theorem d12_11 : decode jdk_29_method_66_code 11 = .ok (.lreturn, 1) := by decide +kernel
theorem d12_6 : decode jdk_29_method_66_code 6 = .ok (.lload_n 0, 1) := by decide +kernel
theorem d12_7 : decode jdk_29_method_66_code 7 = .ok (.goto 4, 3) := by decide +kernel
set_option maxRecDepth 65536 in
set_option maxHeartbeats 40000000 in
theorem rm_max (l : Launch) (Z : State) (a0 : Array Value) (hw : ∀ d ∈ tables_1, d.before a0 Z = true) (ws : List Jvm.Cond) (q1 : Int64) (q2 : Int64) (h0 : Heap) (n0 : Nat) (Z0 : n0 ≤ h0.size)  :
    MetFree l (⟨"java/lang/Math", "max", "(JJ)J"⟩ : MethodName) (head1 (Jvm.Cond.code (⟨"java/lang/Math", "max", "(JJ)J"⟩ : MethodName) jdk_29_method_66_code 4 (some (.long)) :: ws) ({ frames := 0, cells := 0, slots := 0, locals := 0 } : Room)) (fun a U => a = #[(.long q1), (.long q2)] ∧ Z.Warmed39 U.vm ∧ U.heap = h0) (fun _ _ _ _ _ => True) (fun _ U o U' => ∃ v L, o = .returned v ∧ (Q_max q1 q2 h0 n0) v U'.heap L ∧ FrameEnd U o U' L ({ frames := 0, cells := 0, slots := 0, locals := 0 } : Room).cells ({ frames := 0, cells := 0, slots := 0, locals := 0 } : Room).slots) := by
  refine MetFree.of_bodySF (Jvm.Free.JP.mathPlain rfl (by decide +kernel)) hisR ?_
  intro p e s m args below meth c s₁ Bd hml0 hP hK
  obtain ⟨rfl, hZ, hh⟩ := hP
  have hx := Bd.exec
  have hby := Bd.bytes
  have hlk : meth.locks = false := BodyLoose.notSynchronized Bd
  have hml : c.maxLocals = 4 := hml0
  have hown : s.vm.findClass "java/lang/Math" = some m.cls := findClass_of_methodNamed Bd.named
  have hnm := (name_of_methodNamed Bd.named Bd.method).1
  have X0 : Stand p l e ({ frames := 0, cells := 0, slots := 0, locals := 0 } : Room) s m #[(.long q1), (.long q2)] below meth c s₁ [] 0 0 := Stand.of_body Bd
  have e0 : s₁.heap = h0 := by rw [← hh, Bd.state]; rfl
  have N0 := Fr.nil n0
  show own_Go p e below s (Q_max q1 q2 h0 n0) ({ frames := 0, cells := 0, slots := 0, locals := 0 } : Room).cells ({ frames := 0, cells := 0, slots := 0, locals := 0 } : Room).slots s₁ (entryFrame m #[(.long q1), (.long q2)] 4)
  refine own_cast (g' := (mkF m 0 #[.val (.long q1), .second, .val (.long q2), .second] [])) (ef_rm_max m q1 q2) ?_
  refine own_step (T' := s₁) (g' := (mkF m 1 #[.val (.long q1), .second, .val (.long q2), .second] [(.long q1)])) (fun t k => XS.lloadN X0.here hx rfl (hb hby d12_0) rfl k) ?_
  refine own_step (T' := s₁) (g' := (mkF m 2 #[.val (.long q1), .second, .val (.long q2), .second] [(.long q2), (.long q1)])) (fun t k => XS.lloadN X0.here hx rfl (hb hby d12_1) rfl k) ?_
  refine own_step (T' := s₁) (g' := (mkF m 3 #[.val (.long q1), .second, .val (.long q2), .second] [(.int (lcmpW q1 q2))])) (fun t k => XS.lcmp X0.here hx rfl (hb hby d12_2) rfl k) ?_
  by_cases c3 : q1 < q2
  · refine own_step (T' := s₁) (g' := (mkF m 10 #[.val (.long q1), .second, .val (.long q2), .second] [])) (fun t k => XS.ifYes X0.here hx rfl (pc0 := 3) (pc' := 10) rfl (hb hby d12_3) rfl ((if0 _ _).trans (tlt ((lw_lt _ _).mpr c3)).1) (by decide) (by decide) k) ?_
    refine own_step (T' := s₁) (g' := (mkF m 11 #[.val (.long q1), .second, .val (.long q2), .second] [(.long q2)])) (fun t k => XS.lloadN X0.here hx rfl (hb hby d12_10) rfl k) ?_
    refine own_rJ X0 hx hlk Bd.returns (hb hby d12_11) ?_ (by decide) (by decide)
    rw [e0]
    exact ⟨by rw [own_max, if_pos c3], N0, rfl⟩
  · refine own_step (T' := s₁) (g' := (mkF m 6 #[.val (.long q1), .second, .val (.long q2), .second] [])) (fun t k => XS.ifNo X0.here hx rfl (hb hby d12_3) rfl ((if0 _ _).trans (flt (fun q => c3 ((lw_lt _ _).mp q))).1) k) ?_
    refine own_step (T' := s₁) (g' := (mkF m 7 #[.val (.long q1), .second, .val (.long q2), .second] [(.long q1)])) (fun t k => XS.lloadN X0.here hx rfl (hb hby d12_6) rfl k) ?_
    refine own_step (T' := s₁) (g' := (mkF m 11 #[.val (.long q1), .second, .val (.long q2), .second] [(.long q1)])) (fun t k => XS.goto X0.here hx rfl (pc0 := 7) (pc' := 11) rfl (hb hby d12_7) (by decide) (by decide) k) ?_
    refine own_rJ X0 hx hlk Bd.returns (hb hby d12_11) ?_ (by decide) (by decide)
    rw [e0]
    exact ⟨by rw [own_max, if_neg c3], N0, rfl⟩
def Q_cod (a1 : Addr) (y : Int32) (ka : ClassId) (h0 : Heap) (n0 : Nat) (v : Option Value) (h : Heap) (L : List Loc) : Prop := v = some (.int (0 : Int32)) ∧ Fr n0 L ∧ h = h0
theorem ef_rm_cod (m : MethodId) (x0 : Addr) (x1 : Int32) : entryFrame m #[(.ref x0), (.int x1)] 2 = mkF m 0 #[.val (.ref x0), .val (.int x1)] [] := by first | (simp [entryFrame, mkF, argsToLocals, Value.category]; done) | rfl | (simp [entryFrame, mkF, argsToLocals, Value.category] <;> rfl)
theorem pn_1 : plainName "java/lang/StringUTF16" = true := by first | (simp [plainName, overriddenIn]; done) | decide +kernel
theorem d8_0 : decode jdk_52_method_15_code 0 = .ok (.iload_n 1, 1) := by decide +kernel
theorem d8_1 : decode jdk_52_method_15_code 1 = .ok (.aload_n 0, 1) := by decide +kernel
theorem d8_2 : decode jdk_52_method_15_code 2 = .ok (.arraylength, 1) := by decide +kernel
theorem d8_3 : decode jdk_52_method_15_code 3 = .ok (.isub, 1) := by decide +kernel
theorem d8_4 : decode jdk_52_method_15_code 4 = .ok (.bipush 31, 2) := by decide +kernel
theorem d8_6 : decode jdk_52_method_15_code 6 = .ok (.iushr, 1) := by decide +kernel
theorem d8_7 : decode jdk_52_method_15_code 7 = .ok (.i2b, 1) := by decide +kernel
theorem d8_8 : decode jdk_52_method_15_code 8 = .ok (.ireturn, 1) := by decide +kernel
set_option maxRecDepth 65536 in
set_option maxHeartbeats 40000000 in
theorem rm_cod (l : Launch) (Z : State) (a0 : Array Value) (hw : ∀ d ∈ tables_1, d.before a0 Z = true) (ws : List Jvm.Cond) (a1 : Addr) (y : Int32) (ka : ClassId) (h0 : Heap) (n0 : Nat) (Z0 : n0 ≤ h0.size) (V_a : Arv Z h0 a1 ka .byte (1 : Int32) [(.int y)] (.int (0 : Int32))) :
    MetFree l (⟨"java/lang/StringUTF16", "coderFromArrayLen", "([BI)B"⟩ : MethodName) (head1 (Jvm.Cond.code (⟨"java/lang/StringUTF16", "coderFromArrayLen", "([BI)B"⟩ : MethodName) jdk_52_method_15_code 2 (some (.byte)) :: ws) ({ frames := 0, cells := 0, slots := 0, locals := 0 } : Room)) (fun a U => a = #[(.ref a1), (.int (1 : Int32))] ∧ Z.Warmed39 U.vm ∧ U.heap = h0) (fun _ _ _ _ _ => True) (fun _ U o U' => ∃ v L, o = .returned v ∧ (Q_cod a1 y ka h0 n0) v U'.heap L ∧ FrameEnd U o U' L ({ frames := 0, cells := 0, slots := 0, locals := 0 } : Room).cells ({ frames := 0, cells := 0, slots := 0, locals := 0 } : Room).slots) := by
  refine MetFree.of_bodySF (plainFor_of_name pn_1) hisR ?_
  intro p e s m args below meth c s₁ Bd hml0 hP hK
  obtain ⟨rfl, hZ, hh⟩ := hP
  have hx := Bd.exec
  have hby := Bd.bytes
  have hlk : meth.locks = false := BodyLoose.notSynchronized Bd
  have hml : c.maxLocals = 2 := hml0
  have hown : s.vm.findClass "java/lang/StringUTF16" = some m.cls := findClass_of_methodNamed Bd.named
  have hnm := (name_of_methodNamed Bd.named Bd.method).1
  have X0 : Stand p l e ({ frames := 0, cells := 0, slots := 0, locals := 0 } : Room) s m #[(.ref a1), (.int (1 : Int32))] below meth c s₁ [] 0 0 := Stand.of_body Bd
  have e0 : s₁.heap = h0 := by rw [← hh, Bd.state]; rfl
  have N0 := Fr.nil n0
  show own_Go p e below s (Q_cod a1 y ka h0 n0) ({ frames := 0, cells := 0, slots := 0, locals := 0 } : Room).cells ({ frames := 0, cells := 0, slots := 0, locals := 0 } : Room).slots s₁ (entryFrame m #[(.ref a1), (.int (1 : Int32))] 2)
  refine own_cast (g' := (mkF m 0 #[.val (.ref a1), .val (.int (1 : Int32))] [])) (ef_rm_cod m a1 (1 : Int32)) ?_
  refine own_step (T' := s₁) (g' := (mkF m 1 #[.val (.ref a1), .val (.int (1 : Int32))] [(.int (1 : Int32))])) (fun t k => XS.iloadN X0.here hx rfl (hb hby d8_0) rfl k) ?_
  refine own_step (T' := s₁) (g' := (mkF m 2 #[.val (.ref a1), .val (.int (1 : Int32))] [(.ref a1), (.int (1 : Int32))])) (fun t k => XS.aloadN X0.here hx rfl (hb hby d8_1) rfl rfl k) ?_
  obtain ⟨cl1, Ar1, qa1, S1, M1, H1, U1⟩ := id V_a
  have ln1 := len_of S1 M1
  refine own_step (T' := s₁) (g' := (mkF m 3 #[.val (.ref a1), .val (.int (1 : Int32))] [(.int (1 : Int32)), (.int (1 : Int32))])) (fun t k => X0.arraylength hx (cell := cl1) (by rw [e0]; exact Ar1.1) (State.isArrayOf_alike hZ.alike Ar1.2.1) (g := (mkF m 2 #[.val (.ref a1), .val (.int (1 : Int32))] [(.ref a1), (.int (1 : Int32))])) rfl rfl (hb hby d8_2) t (by rw [ln1]; exact k)) ?_
  refine own_step (T' := s₁) (g' := (mkF m 4 #[.val (.ref a1), .val (.int (1 : Int32))] [(.int (0 : Int32))])) (fun t k => XS.isub X0.here hx rfl (hb hby d8_3) rfl k) ?_
  refine own_step (T' := s₁) (g' := (mkF m 6 #[.val (.ref a1), .val (.int (1 : Int32))] [(.int (31 : Int32)), (.int (0 : Int32))])) (fun t k => XS.bipush X0.here hx rfl (hb hby d8_4) k) ?_
  refine own_step (T' := s₁) (g' := (mkF m 7 #[.val (.ref a1), .val (.int (1 : Int32))] [(.int (((0 : Int32).toUInt32 >>> (31 : UInt32)).toInt32))])) (fun t k => XS.iushr X0.here hx rfl (hb hby d8_6) rfl k) ?_
  refine own_step (T' := s₁) (g' := (mkF m 8 #[.val (.ref a1), .val (.int (1 : Int32))] [(.int ((((0 : Int32).toUInt32 >>> (31 : UInt32)).toInt32).toInt8.toInt32))])) (fun t k => XS.i2b X0.here hx rfl (hb hby d8_7) rfl k) ?_
  refine own_rN X0 hx hlk Bd.returns (by simp) (hb hby d8_8) ?_ (by decide) (by decide)
  rw [e0]
  exact ⟨rfl, N0, rfl⟩
def Q_cp5 (Z : State) (a2 : Addr) (kb : ClassId) (h0 : Heap) (n0 : Nat) (v : Option Value) (h : Heap) (L : List Loc) : Prop := ∃ y : Int32, v = some (.int (1 : Int32)) ∧ Fr n0 L ∧ Keep h0 h [a2] ∧ Arv Z h a2 kb .byte (1 : Int32) [(.int y)] (.int (0 : Int32))
theorem ef_rm_cp5 (m : MethodId) (x0 : Addr) (x1 : Int32) (x2 : Addr) (x3 : Int32) (x4 : Int32) : entryFrame m #[(.ref x0), (.int x1), (.ref x2), (.int x3), (.int x4)] 7 = mkF m 0 #[.val (.ref x0), .val (.int x1), .val (.ref x2), .val (.int x3), .val (.int x4), .unset, .unset] [] := by first | (simp [entryFrame, mkF, argsToLocals, Value.category]; done) | rfl | (simp [entryFrame, mkF, argsToLocals, Value.category] <;> rfl)
theorem d7_0 : decode jdk_52_method_21_code 0 = .ok (.iconst 0, 1) := by decide +kernel
theorem d7_1 : decode jdk_52_method_21_code 1 = .ok (.istore 5, 2) := by decide +kernel
theorem d7_3 : decode jdk_52_method_21_code 3 = .ok (.iload 5, 2) := by decide +kernel
theorem d7_5 : decode jdk_52_method_21_code 5 = .ok (.iload 4, 2) := by decide +kernel
theorem d7_7 : decode jdk_52_method_21_code 7 = .ok (.if_icmp .ge 37, 3) := by decide +kernel
theorem d7_10 : decode jdk_52_method_21_code 10 = .ok (.aload_n 0, 1) := by decide +kernel
theorem d7_11 : decode jdk_52_method_21_code 11 = .ok (.iload_n 1, 1) := by decide +kernel
theorem d7_12 : decode jdk_52_method_21_code 12 = .ok (.caload, 1) := by decide +kernel
theorem d7_13 : decode jdk_52_method_21_code 13 = .ok (.istore 6, 2) := by decide +kernel
theorem d7_15 : decode jdk_52_method_21_code 15 = .ok (.iload 6, 2) := by decide +kernel
theorem d7_17 : decode jdk_52_method_21_code 17 = .ok (.sipush 255, 3) := by decide +kernel
theorem d7_20 : decode jdk_52_method_21_code 20 = .ok (.if_icmp .le 6, 3) := by decide +kernel
theorem d7_26 : decode jdk_52_method_21_code 26 = .ok (.aload_n 2, 1) := by decide +kernel
theorem d7_27 : decode jdk_52_method_21_code 27 = .ok (.iload_n 3, 1) := by decide +kernel
theorem d7_28 : decode jdk_52_method_21_code 28 = .ok (.iload 6, 2) := by decide +kernel
theorem d7_30 : decode jdk_52_method_21_code 30 = .ok (.i2b, 1) := by decide +kernel
theorem d7_31 : decode jdk_52_method_21_code 31 = .ok (.bastore, 1) := by decide +kernel
theorem d7_32 : decode jdk_52_method_21_code 32 = .ok (.iinc 1 1, 3) := by decide +kernel
theorem d7_35 : decode jdk_52_method_21_code 35 = .ok (.iinc 3 1, 3) := by decide +kernel
theorem d7_38 : decode jdk_52_method_21_code 38 = .ok (.iinc 5 1, 3) := by decide +kernel
theorem d7_41 : decode jdk_52_method_21_code 41 = .ok (.goto (-38), 3) := by decide +kernel
theorem d7_44 : decode jdk_52_method_21_code 44 = .ok (.iload 4, 2) := by decide +kernel
theorem d7_46 : decode jdk_52_method_21_code 46 = .ok (.ireturn, 1) := by decide +kernel
set_option maxRecDepth 65536 in
set_option maxHeartbeats 40000000 in
theorem rm_cp5 (l : Launch) (Z : State) (a0 : Array Value) (hw : ∀ d ∈ tables_1, d.before a0 Z = true) (ws : List Jvm.Cond) (a1 : Addr) (a2 : Addr) (y : Int32) (ka : ClassId) (kb : ClassId) (h0 : Heap) (n0 : Nat) (Z0 : n0 ≤ h0.size) (V_a : Arv Z h0 a1 ka .char (1 : Int32) [(.int y)] (.int (0 : Int32))) (V_b : Arv Z h0 a2 kb .byte (1 : Int32) [(.int (0 : Int32))] (.int (0 : Int32))) (hy : ¬ 255 < y) (hne : a1 ≠ a2) (o_b : n0 ≤ a2) :
    MetFree l (⟨"java/lang/StringUTF16", "compress", "([CI[BII)I"⟩ : MethodName) (head1 (Jvm.Cond.code (⟨"java/lang/StringUTF16", "compress", "([CI[BII)I"⟩ : MethodName) jdk_52_method_21_code 7 (some (.int)) :: ws) ({ frames := 0, cells := 0, slots := 0, locals := 0 } : Room)) (fun a U => a = #[(.ref a1), (.int (0 : Int32)), (.ref a2), (.int (0 : Int32)), (.int (1 : Int32))] ∧ Z.Warmed39 U.vm ∧ U.heap = h0) (fun _ _ _ _ _ => True) (fun _ U o U' => ∃ v L, o = .returned v ∧ (Q_cp5 Z a2 kb h0 n0) v U'.heap L ∧ FrameEnd U o U' L ({ frames := 0, cells := 0, slots := 0, locals := 0 } : Room).cells ({ frames := 0, cells := 0, slots := 0, locals := 0 } : Room).slots) := by
  refine MetFree.of_bodySF (plainFor_of_name pn_1) hisR ?_
  intro p e s m args below meth c s₁ Bd hml0 hP hK
  obtain ⟨rfl, hZ, hh⟩ := hP
  have hx := Bd.exec
  have hby := Bd.bytes
  have hlk : meth.locks = false := BodyLoose.notSynchronized Bd
  have hml : c.maxLocals = 7 := hml0
  have hown : s.vm.findClass "java/lang/StringUTF16" = some m.cls := findClass_of_methodNamed Bd.named
  have hnm := (name_of_methodNamed Bd.named Bd.method).1
  have X0 : Stand p l e ({ frames := 0, cells := 0, slots := 0, locals := 0 } : Room) s m #[(.ref a1), (.int (0 : Int32)), (.ref a2), (.int (0 : Int32)), (.int (1 : Int32))] below meth c s₁ [] 0 0 := Stand.of_body Bd
  have e0 : s₁.heap = h0 := by rw [← hh, Bd.state]; rfl
  have N0 := Fr.nil n0
  show own_Go p e below s (Q_cp5 Z a2 kb h0 n0) ({ frames := 0, cells := 0, slots := 0, locals := 0 } : Room).cells ({ frames := 0, cells := 0, slots := 0, locals := 0 } : Room).slots s₁ (entryFrame m #[(.ref a1), (.int (0 : Int32)), (.ref a2), (.int (0 : Int32)), (.int (1 : Int32))] 7)
  refine own_cast (g' := (mkF m 0 #[.val (.ref a1), .val (.int (0 : Int32)), .val (.ref a2), .val (.int (0 : Int32)), .val (.int (1 : Int32)), .unset, .unset] [])) (ef_rm_cp5 m a1 (0 : Int32) a2 (0 : Int32) (1 : Int32)) ?_
  have K0 : Keep h0 h0 [a2] := Keep.refl _ _
  refine own_step (T' := s₁) (g' := (mkF m 1 #[.val (.ref a1), .val (.int (0 : Int32)), .val (.ref a2), .val (.int (0 : Int32)), .val (.int (1 : Int32)), .unset, .unset] [(.int (0 : Int32))])) (fun t k => XS.iconst X0.here hx rfl (hb hby d7_0) k) ?_
  refine own_step (T' := s₁) (g' := (mkF m 3 #[.val (.ref a1), .val (.int (0 : Int32)), .val (.ref a2), .val (.int (0 : Int32)), .val (.int (1 : Int32)), .val (.int (0 : Int32)), .unset] [])) (fun t k => XS.istore X0.here hx rfl (hb hby d7_1) rfl (l' := #[.val (.ref a1), .val (.int (0 : Int32)), .val (.ref a2), .val (.int (0 : Int32)), .val (.int (1 : Int32)), .val (.int (0 : Int32)), .unset]) rfl k) ?_
  refine own_step (T' := s₁) (g' := (mkF m 5 #[.val (.ref a1), .val (.int (0 : Int32)), .val (.ref a2), .val (.int (0 : Int32)), .val (.int (1 : Int32)), .val (.int (0 : Int32)), .unset] [(.int (0 : Int32))])) (fun t k => XS.iload X0.here hx rfl (hb hby d7_3) rfl k) ?_
  refine own_step (T' := s₁) (g' := (mkF m 7 #[.val (.ref a1), .val (.int (0 : Int32)), .val (.ref a2), .val (.int (0 : Int32)), .val (.int (1 : Int32)), .val (.int (0 : Int32)), .unset] [(.int (1 : Int32)), (.int (0 : Int32))])) (fun t k => XS.iload X0.here hx rfl (hb hby d7_5) rfl k) ?_
  refine own_step (T' := s₁) (g' := (mkF m 10 #[.val (.ref a1), .val (.int (0 : Int32)), .val (.ref a2), .val (.int (0 : Int32)), .val (.int (1 : Int32)), .val (.int (0 : Int32)), .unset] [])) (fun t k => XS.icmpNo X0.here hx rfl (hb hby d7_7) rfl (tlt (by decide : ((0 : Int32) < (1 : Int32)))).2.1 k) ?_
  refine own_step (T' := s₁) (g' := (mkF m 11 #[.val (.ref a1), .val (.int (0 : Int32)), .val (.ref a2), .val (.int (0 : Int32)), .val (.int (1 : Int32)), .val (.int (0 : Int32)), .unset] [(.ref a1)])) (fun t k => XS.aloadN X0.here hx rfl (hb hby d7_10) rfl rfl k) ?_
  refine own_step (T' := s₁) (g' := (mkF m 12 #[.val (.ref a1), .val (.int (0 : Int32)), .val (.ref a2), .val (.int (0 : Int32)), .val (.int (1 : Int32)), .val (.int (0 : Int32)), .unset] [(.int (0 : Int32)), (.ref a1)])) (fun t k => XS.iloadN X0.here hx rfl (hb hby d7_11) rfl k) ?_
  obtain ⟨cl1, Ar1, qa1, S1, M1, H1, U1⟩ := id V_a
  have hi1 := inb_of S1 (j := (0 : Int32)) ⟨by decide, by decide⟩
  have hat1 := H1.at hi1 (v := (.int y)) rfl
  refine own_step (T' := s₁) (g' := (mkF m 13 #[.val (.ref a1), .val (.int (0 : Int32)), .val (.ref a2), .val (.int (0 : Int32)), .val (.int (1 : Int32)), .val (.int (0 : Int32)), .unset] [(.int y)])) (fun t k => X0.caload hx (j := (0 : Int32)) (v := (.int y)) (by rw [e0]; exact Ar1.1) (State.isArrayOf_alike hZ.alike Ar1.2.1) Ar1.2.2 hi1 hat1 (g := (mkF m 12 #[.val (.ref a1), .val (.int (0 : Int32)), .val (.ref a2), .val (.int (0 : Int32)), .val (.int (1 : Int32)), .val (.int (0 : Int32)), .unset] [(.int (0 : Int32)), (.ref a1)])) rfl rfl (hb hby d7_12) t k) ?_
  refine own_step (T' := s₁) (g' := (mkF m 15 #[.val (.ref a1), .val (.int (0 : Int32)), .val (.ref a2), .val (.int (0 : Int32)), .val (.int (1 : Int32)), .val (.int (0 : Int32)), .val (.int y)] [])) (fun t k => XS.istore X0.here hx rfl (hb hby d7_13) rfl (l' := #[.val (.ref a1), .val (.int (0 : Int32)), .val (.ref a2), .val (.int (0 : Int32)), .val (.int (1 : Int32)), .val (.int (0 : Int32)), .val (.int y)]) rfl k) ?_
  refine own_step (T' := s₁) (g' := (mkF m 17 #[.val (.ref a1), .val (.int (0 : Int32)), .val (.ref a2), .val (.int (0 : Int32)), .val (.int (1 : Int32)), .val (.int (0 : Int32)), .val (.int y)] [(.int y)])) (fun t k => XS.iload X0.here hx rfl (hb hby d7_15) rfl k) ?_
  refine own_step (T' := s₁) (g' := (mkF m 20 #[.val (.ref a1), .val (.int (0 : Int32)), .val (.ref a2), .val (.int (0 : Int32)), .val (.int (1 : Int32)), .val (.int (0 : Int32)), .val (.int y)] [(.int (255 : Int32)), (.int y)])) (fun t k => XS.sipush X0.here hx rfl (hb hby d7_17) k) ?_
  refine own_step (T' := s₁) (g' := (mkF m 26 #[.val (.ref a1), .val (.int (0 : Int32)), .val (.ref a2), .val (.int (0 : Int32)), .val (.int (1 : Int32)), .val (.int (0 : Int32)), .val (.int y)] [])) (fun t k => XS.icmpYes X0.here hx rfl (pc0 := 20) (pc' := 26) rfl (hb hby d7_20) rfl (flt hy).2.2.2 (by decide) (by decide) k) ?_
  refine own_step (T' := s₁) (g' := (mkF m 27 #[.val (.ref a1), .val (.int (0 : Int32)), .val (.ref a2), .val (.int (0 : Int32)), .val (.int (1 : Int32)), .val (.int (0 : Int32)), .val (.int y)] [(.ref a2)])) (fun t k => XS.aloadN X0.here hx rfl (hb hby d7_26) rfl rfl k) ?_
  refine own_step (T' := s₁) (g' := (mkF m 28 #[.val (.ref a1), .val (.int (0 : Int32)), .val (.ref a2), .val (.int (0 : Int32)), .val (.int (1 : Int32)), .val (.int (0 : Int32)), .val (.int y)] [(.int (0 : Int32)), (.ref a2)])) (fun t k => XS.iloadN X0.here hx rfl (hb hby d7_27) rfl k) ?_
  refine own_step (T' := s₁) (g' := (mkF m 30 #[.val (.ref a1), .val (.int (0 : Int32)), .val (.ref a2), .val (.int (0 : Int32)), .val (.int (1 : Int32)), .val (.int (0 : Int32)), .val (.int y)] [(.int y), (.int (0 : Int32)), (.ref a2)])) (fun t k => XS.iload X0.here hx rfl (hb hby d7_28) rfl k) ?_
  refine own_step (T' := s₁) (g' := (mkF m 31 #[.val (.ref a1), .val (.int (0 : Int32)), .val (.ref a2), .val (.int (0 : Int32)), .val (.int (1 : Int32)), .val (.int (0 : Int32)), .val (.int y)] [(.int (y.toInt8.toInt32)), (.int (0 : Int32)), (.ref a2)])) (fun t k => XS.i2b X0.here hx rfl (hb hby d7_30) rfl k) ?_
  obtain ⟨cl2, Ar2, qa2, S2, M2, H2, U2⟩ := id V_b
  obtain ⟨T2, h2, X2, e2, W2, st2⟩ := stB X0 hx hZ e0 Ar2 (j := (0 : Int32)) (inb_of S2 ⟨by decide, by decide⟩) (g := (mkF m 31 #[.val (.ref a1), .val (.int (0 : Int32)), .val (.ref a2), .val (.int (0 : Int32)), .val (.int (1 : Int32)), .val (.int (0 : Int32)), .val (.int y)] [(.int (y.toInt8.toInt32)), (.int (0 : Int32)), (.ref a2)])) rfl rfl (hb hby d7_31)
  have g3 : Arv Z h2 a1 ka .char (1 : Int32) [(.int y)] (.int (0 : Int32)) := V_a.other W2 hne
  have g4 : Arv Z h2 a2 kb .byte (1 : Int32) [(.int (nar .byte (y.toInt8.toInt32)))] (.int (0 : Int32)) := Arv.set Ar2 qa2 S2 M2 H2 U2 (fits_nar_byte _) W2 0 rfl (Nat.le_of_ble_eq_true rfl)
  have K5 : Keep h0 h2 [a2] := K0.wr W2 (Or.inl (List.mem_of_getElem? (i := 0) rfl))
  have N2 := Fr.snoc X2 N0 o_b
  have Z2 : n0 ≤ h2.size := (Nat.le_trans Z0 (Nat.le_of_eq W2.size.symm))
  refine own_step (T' := T2) (g' := (mkF m 32 #[.val (.ref a1), .val (.int (0 : Int32)), .val (.ref a2), .val (.int (0 : Int32)), .val (.int (1 : Int32)), .val (.int (0 : Int32)), .val (.int y)] [])) st2 ?_
  refine own_step (T' := T2) (g' := (mkF m 35 #[.val (.ref a1), .val (.int (1 : Int32)), .val (.ref a2), .val (.int (0 : Int32)), .val (.int (1 : Int32)), .val (.int (0 : Int32)), .val (.int y)] [])) (fun t k => XS.iinc X2.here hx rfl (hb hby d7_32) rfl (l' := #[.val (.ref a1), .val (.int (1 : Int32)), .val (.ref a2), .val (.int (0 : Int32)), .val (.int (1 : Int32)), .val (.int (0 : Int32)), .val (.int y)]) rfl k) ?_
  refine own_step (T' := T2) (g' := (mkF m 38 #[.val (.ref a1), .val (.int (1 : Int32)), .val (.ref a2), .val (.int (1 : Int32)), .val (.int (1 : Int32)), .val (.int (0 : Int32)), .val (.int y)] [])) (fun t k => XS.iinc X2.here hx rfl (hb hby d7_35) rfl (l' := #[.val (.ref a1), .val (.int (1 : Int32)), .val (.ref a2), .val (.int (1 : Int32)), .val (.int (1 : Int32)), .val (.int (0 : Int32)), .val (.int y)]) rfl k) ?_
  refine own_step (T' := T2) (g' := (mkF m 41 #[.val (.ref a1), .val (.int (1 : Int32)), .val (.ref a2), .val (.int (1 : Int32)), .val (.int (1 : Int32)), .val (.int (1 : Int32)), .val (.int y)] [])) (fun t k => XS.iinc X2.here hx rfl (hb hby d7_38) rfl (l' := #[.val (.ref a1), .val (.int (1 : Int32)), .val (.ref a2), .val (.int (1 : Int32)), .val (.int (1 : Int32)), .val (.int (1 : Int32)), .val (.int y)]) rfl k) ?_
  refine own_step (T' := T2) (g' := (mkF m 3 #[.val (.ref a1), .val (.int (1 : Int32)), .val (.ref a2), .val (.int (1 : Int32)), .val (.int (1 : Int32)), .val (.int (1 : Int32)), .val (.int y)] [])) (fun t k => XS.goto X2.here hx rfl (pc0 := 41) (pc' := 3) rfl (hb hby d7_41) (by decide) (by decide) k) ?_
  refine own_step (T' := T2) (g' := (mkF m 5 #[.val (.ref a1), .val (.int (1 : Int32)), .val (.ref a2), .val (.int (1 : Int32)), .val (.int (1 : Int32)), .val (.int (1 : Int32)), .val (.int y)] [(.int (1 : Int32))])) (fun t k => XS.iload X2.here hx rfl (hb hby d7_3) rfl k) ?_
  refine own_step (T' := T2) (g' := (mkF m 7 #[.val (.ref a1), .val (.int (1 : Int32)), .val (.ref a2), .val (.int (1 : Int32)), .val (.int (1 : Int32)), .val (.int (1 : Int32)), .val (.int y)] [(.int (1 : Int32)), (.int (1 : Int32))])) (fun t k => XS.iload X2.here hx rfl (hb hby d7_5) rfl k) ?_
  refine own_step (T' := T2) (g' := (mkF m 44 #[.val (.ref a1), .val (.int (1 : Int32)), .val (.ref a2), .val (.int (1 : Int32)), .val (.int (1 : Int32)), .val (.int (1 : Int32)), .val (.int y)] [])) (fun t k => XS.icmpYes X2.here hx rfl (pc0 := 7) (pc' := 44) rfl (hb hby d7_7) rfl (flt (by decide : ¬ ((1 : Int32) < (1 : Int32)))).2.1 (by decide) (by decide) k) ?_
  refine own_step (T' := T2) (g' := (mkF m 46 #[.val (.ref a1), .val (.int (1 : Int32)), .val (.ref a2), .val (.int (1 : Int32)), .val (.int (1 : Int32)), .val (.int (1 : Int32)), .val (.int y)] [(.int (1 : Int32))])) (fun t k => XS.iload X2.here hx rfl (hb hby d7_44) rfl k) ?_
  refine own_rI X2 hx hlk Bd.returns (hb hby d7_46) ?_ (by decide) (by decide)
  rw [e2]
  exact ⟨_, rfl, N2, K5, g4⟩
def Q_cp3 (Z : State) (h0 : Heap) (n0 : Nat) (v : Option Value) (h : Heap) (L : List Loc) : Prop := ∃ (b : Addr) (y : Int32) (kb : ClassId), v = some (.ref b) ∧ Fr n0 L ∧ Keep h0 h [] ∧ h0.size ≤ b ∧ Arv Z h b kb .byte (1 : Int32) [(.int y)] (.int (0 : Int32))
theorem ef_rm_cp3 (m : MethodId) (x0 : Addr) (x1 : Int32) (x2 : Int32) : entryFrame m #[(.ref x0), (.int x1), (.int x2)] 6 = mkF m 0 #[.val (.ref x0), .val (.int x1), .val (.int x2), .unset, .unset, .unset] [] := by first | (simp [entryFrame, mkF, argsToLocals, Value.category]; done) | rfl | (simp [entryFrame, mkF, argsToLocals, Value.category] <;> rfl)
theorem d6_0 : decode jdk_52_method_16_code 0 = .ok (.iload_n 2, 1) := by decide +kernel
theorem d6_1 : decode jdk_52_method_16_code 1 = .ok (.newarray .byte, 2) := by decide +kernel
theorem d6_3 : decode jdk_52_method_16_code 3 = .ok (.astore_n 3, 1) := by decide +kernel
theorem d6_4 : decode jdk_52_method_16_code 4 = .ok (.aload_n 0, 1) := by decide +kernel
theorem d6_5 : decode jdk_52_method_16_code 5 = .ok (.iload_n 1, 1) := by decide +kernel
theorem d6_6 : decode jdk_52_method_16_code 6 = .ok (.aload_n 3, 1) := by decide +kernel
theorem d6_7 : decode jdk_52_method_16_code 7 = .ok (.iconst 0, 1) := by decide +kernel
theorem d6_8 : decode jdk_52_method_16_code 8 = .ok (.iload_n 2, 1) := by decide +kernel
theorem pd_1 : parseMethodDescriptor "([CI[BII)I" = some ⟨[.array .char, .int, .array .byte, .int, .int], some (.int)⟩ := by decide +kernel
theorem d6_9 : decode jdk_52_method_16_code 9 = .ok (.invokestatic 115, 3) := by decide +kernel
theorem d6_12 : decode jdk_52_method_16_code 12 = .ok (.istore 4, 2) := by decide +kernel
theorem d6_14 : decode jdk_52_method_16_code 14 = .ok (.iload 4, 2) := by decide +kernel
theorem d6_16 : decode jdk_52_method_16_code 16 = .ok (.iload_n 2, 1) := by decide +kernel
theorem d6_17 : decode jdk_52_method_16_code 17 = .ok (.if_icmp .eq 40, 3) := by decide +kernel
theorem d6_57 : decode jdk_52_method_16_code 57 = .ok (.aload_n 3, 1) := by decide +kernel
theorem d6_58 : decode jdk_52_method_16_code 58 = .ok (.areturn, 1) := by decide +kernel
set_option maxRecDepth 65536 in
set_option maxHeartbeats 40000000 in
theorem rm_cp3 (l : Launch) (Z : State) (a0 : Array Value) (hw : ∀ d ∈ tables_1, d.before a0 Z = true) (ws : List Jvm.Cond) (a1 : Addr) (y : Int32) (ka : ClassId) (h0 : Heap) (n0 : Nat) (Z0 : n0 ≤ h0.size) (V_a : Arv Z h0 a1 ka .char (1 : Int32) [(.int y)] (.int (0 : Int32))) (hy : ¬ 255 < y) :
    MetFree l (⟨"java/lang/StringUTF16", "compress", "([CII)[B"⟩ : MethodName) (head1 (Jvm.Cond.code (⟨"java/lang/StringUTF16", "compress", "([CII)[B"⟩ : MethodName) jdk_52_method_16_code 6 (some (.array .byte)) :: ws) ({ frames := 1, cells := 1, slots := 1, locals := 18 } : Room)) (fun a U => a = #[(.ref a1), (.int (0 : Int32)), (.int (1 : Int32))] ∧ Z.Warmed39 U.vm ∧ U.heap = h0) (fun _ _ _ _ _ => True) (fun _ U o U' => ∃ v L, o = .returned v ∧ (Q_cp3 Z h0 n0) v U'.heap L ∧ FrameEnd U o U' L ({ frames := 1, cells := 1, slots := 1, locals := 18 } : Room).cells ({ frames := 1, cells := 1, slots := 1, locals := 18 } : Room).slots) := by
  refine MetFree.of_bodySF (plainFor_of_name pn_1) hisR ?_
  intro p e s m args below meth c s₁ Bd hml0 hP hK
  obtain ⟨rfl, hZ, hh⟩ := hP
  have hx := Bd.exec
  have hby := Bd.bytes
  have hlk : meth.locks = false := BodyLoose.notSynchronized Bd
  have hml : c.maxLocals = 6 := hml0
  have hown : s.vm.findClass "java/lang/StringUTF16" = some m.cls := findClass_of_methodNamed Bd.named
  have hnm := (name_of_methodNamed Bd.named Bd.method).1
  have X0 : Stand p l e ({ frames := 1, cells := 1, slots := 1, locals := 18 } : Room) s m #[(.ref a1), (.int (0 : Int32)), (.int (1 : Int32))] below meth c s₁ [] 0 0 := Stand.of_body Bd
  have e0 : s₁.heap = h0 := by rw [← hh, Bd.state]; rfl
  have N0 := Fr.nil n0
  show own_Go p e below s (Q_cp3 Z h0 n0) ({ frames := 1, cells := 1, slots := 1, locals := 18 } : Room).cells ({ frames := 1, cells := 1, slots := 1, locals := 18 } : Room).slots s₁ (entryFrame m #[(.ref a1), (.int (0 : Int32)), (.int (1 : Int32))] 6)
  refine own_cast (g' := (mkF m 0 #[.val (.ref a1), .val (.int (0 : Int32)), .val (.int (1 : Int32)), .unset, .unset, .unset] [])) (ef_rm_cp3 m a1 (0 : Int32) (1 : Int32)) ?_
  have K0 : Keep h0 h0 [] := Keep.refl _ _
  refine own_step (T' := s₁) (g' := (mkF m 1 #[.val (.ref a1), .val (.int (0 : Int32)), .val (.int (1 : Int32)), .unset, .unset, .unset] [(.int (1 : Int32))])) (fun t k => XS.iloadN X0.here hx rfl (hb hby d6_0) rfl k) ?_
  obtain ⟨T1, h1, k1, X1, e1, E1, A1, st1⟩ := newP X0 hx hZ (hw _ (List.mem_of_getElem? (i := 39) rfl)) e0 (g := (mkF m 1 #[.val (.ref a1), .val (.int (0 : Int32)), .val (.int (1 : Int32)), .unset, .unset, .unset] [(.int (1 : Int32))])) rfl (hb hby d6_1) rfl (by decide) (cap := 1) (by decide) (by decide) (by decide : 0 + 1 ≤ _) (by decide : 0 + 1 ≤ _)
  obtain ⟨ad1, g_ad1⟩ : ∃ z, z = h0.size := ⟨_, rfl⟩
  rw [← g_ad1] at A1 st1
  have g2 : Arv Z h1 a1 ka .char (1 : Int32) [(.int y)] (.int (0 : Int32)) := V_a.ext E1
  have ne1_1 : a1 ≠ ad1 := Nat.ne_of_lt (by rw [g_ad1]; exact V_a.lt)
  have o1 : n0 ≤ ad1 := (Nat.le_trans Z0 (Nat.le_of_eq g_ad1.symm))
  have Z1 : n0 ≤ h1.size := (Nat.le_trans Z0 E1.1)
  have f1 : h0.size ≤ ad1 := by rw [g_ad1]; exact K0.1
  have K3 : Keep h0 h1 [] := K0.ext E1
  have V1 : Arv Z h1 ad1 k1 .byte (1 : Int32) [(.int (0 : Int32))] (.int (0 : Int32)) := (Arv.new A1 (by decide)).pad (pad_rep [] (.int (0 : Int32)) 1)
  refine own_step (T' := T1) (g' := (mkF m 3 #[.val (.ref a1), .val (.int (0 : Int32)), .val (.int (1 : Int32)), .unset, .unset, .unset] [(.ref ad1)])) st1 ?_
  refine own_step (T' := T1) (g' := (mkF m 4 #[.val (.ref a1), .val (.int (0 : Int32)), .val (.int (1 : Int32)), .val (.ref ad1), .unset, .unset] [])) (fun t k => XS.astoreN X1.here hx rfl (hb hby d6_3) rfl rfl (l' := #[.val (.ref a1), .val (.int (0 : Int32)), .val (.int (1 : Int32)), .val (.ref ad1), .unset, .unset]) rfl k) ?_
  refine own_step (T' := T1) (g' := (mkF m 5 #[.val (.ref a1), .val (.int (0 : Int32)), .val (.int (1 : Int32)), .val (.ref ad1), .unset, .unset] [(.ref a1)])) (fun t k => XS.aloadN X1.here hx rfl (hb hby d6_4) rfl rfl k) ?_
  refine own_step (T' := T1) (g' := (mkF m 6 #[.val (.ref a1), .val (.int (0 : Int32)), .val (.int (1 : Int32)), .val (.ref ad1), .unset, .unset] [(.int (0 : Int32)), (.ref a1)])) (fun t k => XS.iloadN X1.here hx rfl (hb hby d6_5) rfl k) ?_
  refine own_step (T' := T1) (g' := (mkF m 7 #[.val (.ref a1), .val (.int (0 : Int32)), .val (.int (1 : Int32)), .val (.ref ad1), .unset, .unset] [(.ref ad1), (.int (0 : Int32)), (.ref a1)])) (fun t k => XS.aloadN X1.here hx rfl (hb hby d6_6) rfl rfl k) ?_
  refine own_step (T' := T1) (g' := (mkF m 8 #[.val (.ref a1), .val (.int (0 : Int32)), .val (.int (1 : Int32)), .val (.ref ad1), .unset, .unset] [(.int (0 : Int32)), (.ref ad1), (.int (0 : Int32)), (.ref a1)])) (fun t k => XS.iconst X1.here hx rfl (hb hby d6_7) k) ?_
  refine own_step (T' := T1) (g' := (mkF m 9 #[.val (.ref a1), .val (.int (0 : Int32)), .val (.int (1 : Int32)), .val (.ref ad1), .unset, .unset] [(.int (1 : Int32)), (.int (0 : Int32)), (.ref ad1), (.int (0 : Int32)), (.ref a1)])) (fun t k => XS.iloadN X1.here hx rfl (hb hby d6_8) rfl k) ?_
  obtain ⟨_, _, ⟨T7, L7, k7, n7⟩, -, X7, ⟨Lc7, hQ7, lq7, yq7, zq7⟩, st7⟩ := Jvm.LawKit.callS X1 hx (y := (⟨"java/lang/StringUTF16", "compress", "([CI[BII)I"⟩ : MethodName)) hown (mvT hZ (hw _ (List.mem_of_getElem? (i := 40) rfl))) (mvT hZ (hw _ (List.mem_of_getElem? (i := 41) rfl))) (mvT hZ (hw _ (List.mem_of_getElem? (i := 37) rfl))) (mvT hZ (hw _ (List.mem_of_getElem? (i := 42) rfl))) (by decide) (backOf (W := 0) (rm_cp5 l Z a0 hw [] a1 ad1 y ka k1 h1 n0 Z1 g2 V1 hy ne1_1 o1) hZ (hw _ (List.mem_of_getElem? (i := 42) rfl)) (hw _ (List.mem_of_getElem? (i := 37) rfl)) (by decide) (by decide)) (g := (mkF m 9 #[.val (.ref a1), .val (.int (0 : Int32)), .val (.int (1 : Int32)), .val (.ref ad1), .unset, .unset] [(.int (1 : Int32)), (.int (0 : Int32)), (.ref ad1), (.int (0 : Int32)), (.ref a1)])) rfl (by rw [hml]; rfl) (argsL := [(.ref a1), (.int (0 : Int32)), (.ref ad1), (.int (0 : Int32)), (.int (1 : Int32))]) (rest := []) (lenOf pd_1 rfl) rfl (by show 2 * 0 + _ ≤ _; exact Nat.le_of_eq rfl) (hb hby d6_9) (fun _ _ => ⟨rfl, e1, (by decide : 1 + 0 ≤ _), (by decide : 1 + 0 ≤ _)⟩)
  dsimp only [Pt.U, Pt.locs, Pt.cells, Pt.slots] at X7 lq7 yq7 zq7 st7 hQ7
  subst lq7 yq7 zq7
  obtain ⟨y4, rfl, Nq7, K5, g6⟩ := hQ7
  have N7 := Fr.app N0 Nq7
  have g8 : Arv Z T7.heap a1 ka .char (1 : Int32) [(.int y)] (.int (0 : Int32)) := g2.keep K5 (ninS ne1_1 nin0)
  have Z5 : n0 ≤ T7.heap.size := (Nat.le_trans Z1 K5.1)
  have K9 : Keep h0 T7.heap [] := K3.trans K5 (allS (P := fun x => x ∈ [] ∨ h0.size ≤ x) (Or.inr f1) all0)
  refine own_step (T' := T7) (g' := (mkF m 12 #[.val (.ref a1), .val (.int (0 : Int32)), .val (.int (1 : Int32)), .val (.ref ad1), .unset, .unset] [(.int (1 : Int32))])) st7 ?_
  refine own_step (T' := T7) (g' := (mkF m 14 #[.val (.ref a1), .val (.int (0 : Int32)), .val (.int (1 : Int32)), .val (.ref ad1), .val (.int (1 : Int32)), .unset] [])) (fun t k => XS.istore X7.here hx rfl (hb hby d6_12) rfl (l' := #[.val (.ref a1), .val (.int (0 : Int32)), .val (.int (1 : Int32)), .val (.ref ad1), .val (.int (1 : Int32)), .unset]) rfl k) ?_
  refine own_step (T' := T7) (g' := (mkF m 16 #[.val (.ref a1), .val (.int (0 : Int32)), .val (.int (1 : Int32)), .val (.ref ad1), .val (.int (1 : Int32)), .unset] [(.int (1 : Int32))])) (fun t k => XS.iload X7.here hx rfl (hb hby d6_14) rfl k) ?_
  refine own_step (T' := T7) (g' := (mkF m 17 #[.val (.ref a1), .val (.int (0 : Int32)), .val (.int (1 : Int32)), .val (.ref ad1), .val (.int (1 : Int32)), .unset] [(.int (1 : Int32)), (.int (1 : Int32))])) (fun t k => XS.iloadN X7.here hx rfl (hb hby d6_16) rfl k) ?_
  refine own_step (T' := T7) (g' := (mkF m 57 #[.val (.ref a1), .val (.int (0 : Int32)), .val (.int (1 : Int32)), .val (.ref ad1), .val (.int (1 : Int32)), .unset] [])) (fun t k => XS.icmpYes X7.here hx rfl (pc0 := 17) (pc' := 57) rfl (hb hby d6_17) rfl (teq (by decide : ((1 : Int32) = (1 : Int32)))).1 (by decide) (by decide) k) ?_
  refine own_step (T' := T7) (g' := (mkF m 58 #[.val (.ref a1), .val (.int (0 : Int32)), .val (.int (1 : Int32)), .val (.ref ad1), .val (.int (1 : Int32)), .unset] [(.ref ad1)])) (fun t k => XS.aloadN X7.here hx rfl (hb hby d6_57) rfl rfl k) ?_
  refine own_rA X7 hx hlk Bd.returns rfl (w := (.ref ad1)) rfl (hb hby d6_58) ?_ (by decide) (by decide)
  exact ⟨ad1, _, _, rfl, N7, K9, f1, g6⟩
def Q_s4 (Z : State) (a0s : Addr) (h0 : Heap) (n0 : Nat) (v : Option Value) (h : Heap) (L : List Loc) : Prop := v = none ∧ Fr n0 L ∧ Keep h0 h [a0s] ∧ Exa Z h a0s "java/lang/String"
theorem ef_rm_s4 (m : MethodId) (x0 : Addr) (x1 : Addr) (x2 : Int32) (x3 : Int32) : entryFrame m #[(.ref x0), (.ref x1), (.int x2), (.int x3), .null] 6 = mkF m 0 #[.val (.ref x0), .val (.ref x1), .val (.int x2), .val (.int x3), .val .null, .unset] [] := by first | (simp [entryFrame, mkF, argsToLocals, Value.category]; done) | rfl | (simp [entryFrame, mkF, argsToLocals, Value.category] <;> rfl)
theorem pn_2 : plainName "java/lang/String" = true := by first | (simp [plainName, overriddenIn]; done) | decide +kernel
theorem d5_0 : decode jdk_42_method_149_code 0 = .ok (.aload_n 0, 1) := by decide +kernel
theorem d5_1 : decode jdk_42_method_149_code 1 = .ok (.invokespecial 1, 3) := by decide +kernel
theorem d5_4 : decode jdk_42_method_149_code 4 = .ok (.iload_n 3, 1) := by decide +kernel
theorem d5_5 : decode jdk_42_method_149_code 5 = .ok (.ifCond .ne 22, 3) := by decide +kernel
theorem d5_27 : decode jdk_42_method_149_code 27 = .ok (.getstatic 38, 3) := by decide +kernel
theorem d5_30 : decode jdk_42_method_149_code 30 = .ok (.ifCond .eq 28, 3) := by decide +kernel
theorem d5_33 : decode jdk_42_method_149_code 33 = .ok (.aload_n 1, 1) := by decide +kernel
theorem d5_34 : decode jdk_42_method_149_code 34 = .ok (.iload_n 2, 1) := by decide +kernel
theorem d5_35 : decode jdk_42_method_149_code 35 = .ok (.iload_n 3, 1) := by decide +kernel
theorem pd_2 : parseMethodDescriptor "([CII)[B" = some ⟨[.array .char, .int, .int], some (.array .byte)⟩ := by decide +kernel
theorem d5_36 : decode jdk_42_method_149_code 36 = .ok (.invokestatic 177, 3) := by decide +kernel
theorem d5_39 : decode jdk_42_method_149_code 39 = .ok (.astore 5, 2) := by decide +kernel
theorem d5_41 : decode jdk_42_method_149_code 41 = .ok (.aload_n 0, 1) := by decide +kernel
theorem d5_42 : decode jdk_42_method_149_code 42 = .ok (.aload 5, 2) := by decide +kernel
theorem d5_44 : decode jdk_42_method_149_code 44 = .ok (.iload_n 3, 1) := by decide +kernel
theorem pd_3 : parseMethodDescriptor "([BI)B" = some ⟨[.array .byte, .int], some (.byte)⟩ := by decide +kernel
theorem d5_45 : decode jdk_42_method_149_code 45 = .ok (.invokestatic 47, 3) := by decide +kernel
theorem d5_48 : decode jdk_42_method_149_code 48 = .ok (.putfield 15, 3) := by decide +kernel
theorem d5_51 : decode jdk_42_method_149_code 51 = .ok (.aload_n 0, 1) := by decide +kernel
theorem d5_52 : decode jdk_42_method_149_code 52 = .ok (.aload 5, 2) := by decide +kernel
theorem d5_54 : decode jdk_42_method_149_code 54 = .ok (.putfield 9, 3) := by decide +kernel
theorem d5_57 : decode jdk_42_method_149_code 57 = .ok (.return_, 1) := by decide +kernel
set_option maxRecDepth 65536 in
set_option maxHeartbeats 40000000 in
theorem rm_s4 (l : Launch) (Z : State) (a0 : Array Value) (hw : ∀ d ∈ tables_1, d.before a0 Z = true) (ws : List Jvm.Cond) (a0s : Addr) (a1 : Addr) (y : Int32) (ka : ClassId) (ic : Int32) (u1 : Value) (u2 : Value) (h0 : Heap) (n0 : Nat) (Z0 : n0 ≤ h0.size) (V_a : Arv Z h0 a1 ka .char (1 : Int32) [(.int y)] (.int (0 : Int32))) (hy : ¬ 255 < y) (O0 : Old Z n0 h0) (S_c : Sta Z Z.heap "java/lang/String" "COMPACT_STRINGS" "Z" (.int ic)) (hic : ¬ ic = 0) (E_a : Exa Z h0 a0s "java/lang/String") (F_v : Fld Z h0 a0s "java/lang/String" "value" "[B" u1) (F_c : Fld Z h0 a0s "java/lang/String" "coder" "B" u2) (o_a : n0 ≤ a0s) (hne : a0s ≠ a1) :
    MetFree l (⟨"java/lang/String", "<init>", "([CIILjava/lang/Void;)V"⟩ : MethodName) (head1 (Jvm.Cond.code (⟨"java/lang/String", "<init>", "([CIILjava/lang/Void;)V"⟩ : MethodName) jdk_42_method_149_code 6 none :: ws) ({ frames := 2, cells := 1, slots := 1, locals := 35 } : Room)) (fun a U => a = #[(.ref a0s), (.ref a1), (.int (0 : Int32)), (.int (1 : Int32)), .null] ∧ Z.Warmed39 U.vm ∧ U.heap = h0) (fun _ _ _ _ _ => True) (fun _ U o U' => ∃ v L, o = .returned v ∧ (Q_s4 Z a0s h0 n0) v U'.heap L ∧ FrameEnd U o U' L ({ frames := 2, cells := 1, slots := 1, locals := 35 } : Room).cells ({ frames := 2, cells := 1, slots := 1, locals := 35 } : Room).slots) := by
  refine MetFree.of_bodySF (plainFor_of_name pn_2) hisR ?_
  intro p e s m args below meth c s₁ Bd hml0 hP hK
  obtain ⟨rfl, hZ, hh⟩ := hP
  have hx := Bd.exec
  have hby := Bd.bytes
  have hlk : meth.locks = false := BodyLoose.notSynchronized Bd
  have hml : c.maxLocals = 6 := hml0
  have hown : s.vm.findClass "java/lang/String" = some m.cls := findClass_of_methodNamed Bd.named
  have hnm := (name_of_methodNamed Bd.named Bd.method).1
  have X0 : Stand p l e ({ frames := 2, cells := 1, slots := 1, locals := 35 } : Room) s m #[(.ref a0s), (.ref a1), (.int (0 : Int32)), (.int (1 : Int32)), .null] below meth c s₁ [] 0 0 := Stand.of_body Bd
  have e0 : s₁.heap = h0 := by rw [← hh, Bd.state]; rfl
  have N0 := Fr.nil n0
  show own_Go p e below s (Q_s4 Z a0s h0 n0) ({ frames := 2, cells := 1, slots := 1, locals := 35 } : Room).cells ({ frames := 2, cells := 1, slots := 1, locals := 35 } : Room).slots s₁ (entryFrame m #[(.ref a0s), (.ref a1), (.int (0 : Int32)), (.int (1 : Int32)), .null] 6)
  refine own_cast (g' := (mkF m 0 #[.val (.ref a0s), .val (.ref a1), .val (.int (0 : Int32)), .val (.int (1 : Int32)), .val .null, .unset] [])) (ef_rm_s4 m a0s a1 (0 : Int32) (1 : Int32)) ?_
  have K0 : Keep h0 h0 [a0s] := Keep.refl _ _
  refine own_step (T' := s₁) (g' := (mkF m 1 #[.val (.ref a0s), .val (.ref a1), .val (.int (0 : Int32)), .val (.int (1 : Int32)), .val .null, .unset] [(.ref a0s)])) (fun t k => XS.aloadN X0.here hx rfl (hb hby d5_0) rfl rfl k) ?_
  obtain ⟨T1, X1, e1, st1⟩ := initO X0 hx hZ hown (hw _ (List.mem_of_getElem? (i := 33) rfl)) (hw _ (List.mem_of_getElem? (i := 10) rfl)) (hw _ (List.mem_of_getElem? (i := 11) rfl)) e0 (g := (mkF m 1 #[.val (.ref a0s), .val (.ref a1), .val (.int (0 : Int32)), .val (.int (1 : Int32)), .val .null, .unset] [(.ref a0s)])) rfl (by rw [hml]; rfl) rfl (hb hby d5_1) (by decide) (W := 0) (by show 2 * 0 + _ ≤ _; exact Nat.le_of_eq rfl) (by decide)
  refine own_step (T' := T1) (g' := (mkF m 4 #[.val (.ref a0s), .val (.ref a1), .val (.int (0 : Int32)), .val (.int (1 : Int32)), .val .null, .unset] [])) st1 ?_
  refine own_step (T' := T1) (g' := (mkF m 5 #[.val (.ref a0s), .val (.ref a1), .val (.int (0 : Int32)), .val (.int (1 : Int32)), .val .null, .unset] [(.int (1 : Int32))])) (fun t k => XS.iloadN X1.here hx rfl (hb hby d5_4) rfl k) ?_
  refine own_step (T' := T1) (g' := (mkF m 27 #[.val (.ref a0s), .val (.ref a1), .val (.int (0 : Int32)), .val (.int (1 : Int32)), .val .null, .unset] [])) (fun t k => XS.ifYes X1.here hx rfl (pc0 := 5) (pc' := 27) rfl (hb hby d5_5) rfl ((if0 _ _).trans (feq (by decide : ¬ ((1 : Int32) = (0 : Int32)))).2) (by decide) (by decide) k) ?_
  obtain ⟨T2, X2, e2, st2⟩ := getS2 X1 hx hZ hown (host := "") (Or.inl (hw _ (List.mem_of_getElem? (i := 34) rfl))) Via.refl e1 (S_c.ext O0.2) (g := (mkF m 27 #[.val (.ref a0s), .val (.ref a1), .val (.int (0 : Int32)), .val (.int (1 : Int32)), .val .null, .unset] [])) rfl (hb hby d5_27)
  refine own_step (T' := T2) (g' := (mkF m 30 #[.val (.ref a0s), .val (.ref a1), .val (.int (0 : Int32)), .val (.int (1 : Int32)), .val .null, .unset] [(.int ic)])) st2 ?_
  refine own_step (T' := T2) (g' := (mkF m 33 #[.val (.ref a0s), .val (.ref a1), .val (.int (0 : Int32)), .val (.int (1 : Int32)), .val .null, .unset] [])) (fun t k => XS.ifNo X2.here hx rfl (hb hby d5_30) rfl ((if0 _ _).trans (feq hic).1) k) ?_
  refine own_step (T' := T2) (g' := (mkF m 34 #[.val (.ref a0s), .val (.ref a1), .val (.int (0 : Int32)), .val (.int (1 : Int32)), .val .null, .unset] [(.ref a1)])) (fun t k => XS.aloadN X2.here hx rfl (hb hby d5_33) rfl rfl k) ?_
  refine own_step (T' := T2) (g' := (mkF m 35 #[.val (.ref a0s), .val (.ref a1), .val (.int (0 : Int32)), .val (.int (1 : Int32)), .val .null, .unset] [(.int (0 : Int32)), (.ref a1)])) (fun t k => XS.iloadN X2.here hx rfl (hb hby d5_34) rfl k) ?_
  refine own_step (T' := T2) (g' := (mkF m 36 #[.val (.ref a0s), .val (.ref a1), .val (.int (0 : Int32)), .val (.int (1 : Int32)), .val .null, .unset] [(.int (1 : Int32)), (.int (0 : Int32)), (.ref a1)])) (fun t k => XS.iloadN X2.here hx rfl (hb hby d5_35) rfl k) ?_
  obtain ⟨_, _, ⟨T8, L8, k8, n8⟩, -, X8, ⟨Lc8, hQ8, lq8, yq8, zq8⟩, st8⟩ := Jvm.LawKit.callS X2 hx (y := (⟨"java/lang/StringUTF16", "compress", "([CII)[B"⟩ : MethodName)) hown (mvT hZ (hw _ (List.mem_of_getElem? (i := 35) rfl))) (mvT hZ (hw _ (List.mem_of_getElem? (i := 36) rfl))) (mvT hZ (hw _ (List.mem_of_getElem? (i := 37) rfl))) (mvT hZ (hw _ (List.mem_of_getElem? (i := 38) rfl))) (by decide) (backOf (W := 0) (rm_cp3 l Z a0 hw [] a1 y ka h0 n0 Z0 V_a hy) hZ (hw _ (List.mem_of_getElem? (i := 38) rfl)) (hw _ (List.mem_of_getElem? (i := 37) rfl)) (by decide) (by decide)) (g := (mkF m 36 #[.val (.ref a0s), .val (.ref a1), .val (.int (0 : Int32)), .val (.int (1 : Int32)), .val .null, .unset] [(.int (1 : Int32)), (.int (0 : Int32)), (.ref a1)])) rfl (by rw [hml]; rfl) (argsL := [(.ref a1), (.int (0 : Int32)), (.int (1 : Int32))]) (rest := []) (lenOf pd_2 rfl) rfl (by show 2 * 0 + _ ≤ _; exact Nat.le_of_eq rfl) (hb hby d5_36) (fun _ _ => ⟨rfl, e2, (by decide : 0 + 1 ≤ _), (by decide : 0 + 1 ≤ _)⟩)
  dsimp only [Pt.U, Pt.locs, Pt.cells, Pt.slots] at X8 lq8 yq8 zq8 st8 hQ8
  subst lq8 yq8 zq8
  obtain ⟨a3b, y4, k5, rfl, Nq8, K6, fz_a3b, g7⟩ := hQ8
  have N8 := Fr.app N0 Nq8
  have oz_a3b : n0 ≤ a3b := Nat.le_trans Z0 fz_a3b
  have nz_a1_a3b : a1 ≠ a3b := Nat.ne_of_lt (Nat.lt_of_lt_of_le V_a.lt fz_a3b)
  have nz_a0s_a3b : a0s ≠ a3b := Nat.ne_of_lt (Nat.lt_of_lt_of_le E_a.lt fz_a3b)
  have fr_a3b : h0.size ≤ a3b := Nat.le_trans K0.1 fz_a3b
  have g9 : Arv Z T8.heap a1 ka .char (1 : Int32) [(.int y)] (.int (0 : Int32)) := V_a.keep K6 nin0
  have g10 : Exa Z T8.heap a0s "java/lang/String" := E_a.keep K6
  have g11 : Fld Z T8.heap a0s "java/lang/String" "value" "[B" u1 := F_v.keep K6 nin0
  have g12 : Fld Z T8.heap a0s "java/lang/String" "coder" "B" u2 := F_c.keep K6 nin0
  have Z6 : n0 ≤ T8.heap.size := (Nat.le_trans Z0 K6.1)
  have O6 : Old Z n0 T8.heap := O0.keep K6 (all0 (P := fun x => n0 ≤ x))
  have K13 : Keep h0 T8.heap [a0s] := K0.trans K6 (all0 (P := fun x => x ∈ [a0s] ∨ h0.size ≤ x))
  refine own_step (T' := T8) (g' := (mkF m 39 #[.val (.ref a0s), .val (.ref a1), .val (.int (0 : Int32)), .val (.int (1 : Int32)), .val .null, .unset] [(.ref a3b)])) st8 ?_
  refine own_step (T' := T8) (g' := (mkF m 41 #[.val (.ref a0s), .val (.ref a1), .val (.int (0 : Int32)), .val (.int (1 : Int32)), .val .null, .val (.ref a3b)] [])) (fun t k => XS.astore X8.here hx rfl (hb hby d5_39) rfl rfl (l' := #[.val (.ref a0s), .val (.ref a1), .val (.int (0 : Int32)), .val (.int (1 : Int32)), .val .null, .val (.ref a3b)]) rfl k) ?_
  refine own_step (T' := T8) (g' := (mkF m 42 #[.val (.ref a0s), .val (.ref a1), .val (.int (0 : Int32)), .val (.int (1 : Int32)), .val .null, .val (.ref a3b)] [(.ref a0s)])) (fun t k => XS.aloadN X8.here hx rfl (hb hby d5_41) rfl rfl k) ?_
  refine own_step (T' := T8) (g' := (mkF m 44 #[.val (.ref a0s), .val (.ref a1), .val (.int (0 : Int32)), .val (.int (1 : Int32)), .val .null, .val (.ref a3b)] [(.ref a3b), (.ref a0s)])) (fun t k => XS.aload X8.here hx rfl (hb hby d5_42) rfl rfl k) ?_
  refine own_step (T' := T8) (g' := (mkF m 45 #[.val (.ref a0s), .val (.ref a1), .val (.int (0 : Int32)), .val (.int (1 : Int32)), .val .null, .val (.ref a3b)] [(.int (1 : Int32)), (.ref a3b), (.ref a0s)])) (fun t k => XS.iloadN X8.here hx rfl (hb hby d5_44) rfl k) ?_
  obtain ⟨_, _, ⟨T15, L15, k15, n15⟩, -, X15, ⟨Lc15, hQ15, lq15, yq15, zq15⟩, st15⟩ := Jvm.LawKit.callS X8 hx (y := (⟨"java/lang/StringUTF16", "coderFromArrayLen", "([BI)B"⟩ : MethodName)) hown (mvT hZ (hw _ (List.mem_of_getElem? (i := 43) rfl))) (mvT hZ (hw _ (List.mem_of_getElem? (i := 44) rfl))) (mvT hZ (hw _ (List.mem_of_getElem? (i := 37) rfl))) (mvT hZ (hw _ (List.mem_of_getElem? (i := 45) rfl))) (by decide) (backOf (W := 1) (rm_cod l Z a0 hw [] a3b y4 k5 T8.heap n0 Z6 g7) hZ (hw _ (List.mem_of_getElem? (i := 45) rfl)) (hw _ (List.mem_of_getElem? (i := 37) rfl)) (by decide) (by decide)) (g := (mkF m 45 #[.val (.ref a0s), .val (.ref a1), .val (.int (0 : Int32)), .val (.int (1 : Int32)), .val .null, .val (.ref a3b)] [(.int (1 : Int32)), (.ref a3b), (.ref a0s)])) rfl (by rw [hml]; rfl) (argsL := [(.ref a3b), (.int (1 : Int32))]) (rest := [(.ref a0s)]) (lenOf pd_3 rfl) rfl (by show 2 * 0 + _ ≤ _; exact Nat.le_of_eq rfl) (hb hby d5_45) (fun _ _ => ⟨rfl, rfl, (by decide : 1 + 0 ≤ _), (by decide : 1 + 0 ≤ _)⟩)
  dsimp only [Pt.U, Pt.locs, Pt.cells, Pt.slots] at X15 lq15 yq15 zq15 st15 hQ15
  subst lq15 yq15 zq15
  obtain ⟨rfl, Nq15, eq14⟩ := hQ15
  have N15 := Fr.app N8 Nq15
  refine own_step (T' := T15) (g' := (mkF m 48 #[.val (.ref a0s), .val (.ref a1), .val (.int (0 : Int32)), .val (.int (1 : Int32)), .val .null, .val (.ref a3b)] [(.int (0 : Int32)), (.ref a0s)])) st15 ?_
  obtain ⟨T16, h16, X16, e16, W16, st16⟩ := putF X15 hx hZ hown (host := "") (Or.inl (hw _ (List.mem_of_getElem? (i := 46) rfl))) Via.refl eq14 g12 g10 (Or.inr ⟨(hw _ (List.mem_of_getElem? (i := 47) rfl)), rfl, hnm⟩) (hw _ (List.mem_of_getElem? (i := 24) rfl)) (ty := .byte) (by decide) rfl rfl (g := (mkF m 48 #[.val (.ref a0s), .val (.ref a1), .val (.int (0 : Int32)), .val (.int (1 : Int32)), .val .null, .val (.ref a3b)] [(.int (0 : Int32)), (.ref a0s)])) rfl rfl (hb hby d5_48)
  have g17 : Arv Z h16 a1 ka .char (1 : Int32) [(.int y)] (.int (0 : Int32)) := g9.other W16 (Ne.symm hne)
  have g18 : Exa Z h16 a0s "java/lang/String" := g10.wr W16
  have g19 : Fld Z h16 a0s "java/lang/String" "value" "[B" u1 := g11.other W16 (Or.inr (slot_ne (Or.inr (hw _ (List.mem_of_getElem? (i := 49) rfl))) (Or.inr (hw _ (List.mem_of_getElem? (i := 47) rfl))) (by decide) (t := .array .byte) (t' := .byte) (by decide) (by decide)))
  have g20 : Fld Z h16 a0s "java/lang/String" "coder" "B" (.int (0 : Int32)) := g12.same W16
  have g21 : Arv Z h16 a3b k5 .byte (1 : Int32) [(.int y4)] (.int (0 : Int32)) := g7.other W16 (Ne.symm nz_a0s_a3b)
  have K22 : Keep h0 h16 [a0s] := K13.wr W16 (Or.inl (List.mem_of_getElem? (i := 0) rfl))
  have N16 := Fr.snoc X16 N15 o_a
  have Z16 : n0 ≤ h16.size := (Nat.le_trans Z6 (Nat.le_of_eq W16.size.symm))
  have O16 : Old Z n0 h16 := O6.wr W16 o_a
  refine own_step (T' := T16) (g' := (mkF m 51 #[.val (.ref a0s), .val (.ref a1), .val (.int (0 : Int32)), .val (.int (1 : Int32)), .val .null, .val (.ref a3b)] [])) st16 ?_
  refine own_step (T' := T16) (g' := (mkF m 52 #[.val (.ref a0s), .val (.ref a1), .val (.int (0 : Int32)), .val (.int (1 : Int32)), .val .null, .val (.ref a3b)] [(.ref a0s)])) (fun t k => XS.aloadN X16.here hx rfl (hb hby d5_51) rfl rfl k) ?_
  refine own_step (T' := T16) (g' := (mkF m 54 #[.val (.ref a0s), .val (.ref a1), .val (.int (0 : Int32)), .val (.int (1 : Int32)), .val .null, .val (.ref a3b)] [(.ref a3b), (.ref a0s)])) (fun t k => XS.aload X16.here hx rfl (hb hby d5_52) rfl rfl k) ?_
  obtain ⟨T23, h23, X23, e23, W23, st23⟩ := putF X16 hx hZ hown (host := "") (Or.inl (hw _ (List.mem_of_getElem? (i := 48) rfl))) Via.refl e16 g19 g18 (Or.inr ⟨(hw _ (List.mem_of_getElem? (i := 49) rfl)), rfl, hnm⟩) (hw _ (List.mem_of_getElem? (i := 24) rfl)) (ty := .array .byte) (by decide) rfl rfl (g := (mkF m 54 #[.val (.ref a0s), .val (.ref a1), .val (.int (0 : Int32)), .val (.int (1 : Int32)), .val .null, .val (.ref a3b)] [(.ref a3b), (.ref a0s)])) rfl rfl (hb hby d5_54)
  have g24 : Arv Z h23 a1 ka .char (1 : Int32) [(.int y)] (.int (0 : Int32)) := g17.other W23 (Ne.symm hne)
  have g25 : Exa Z h23 a0s "java/lang/String" := g18.wr W23
  have g26 : Fld Z h23 a0s "java/lang/String" "value" "[B" (.ref a3b) := g19.same W23
  have g27 : Fld Z h23 a0s "java/lang/String" "coder" "B" (.int (0 : Int32)) := g20.other W23 (Or.inr (slot_ne (Or.inr (hw _ (List.mem_of_getElem? (i := 47) rfl))) (Or.inr (hw _ (List.mem_of_getElem? (i := 49) rfl))) (by decide) (t := .byte) (t' := .array .byte) (by decide) (by decide)))
  have g28 : Arv Z h23 a3b k5 .byte (1 : Int32) [(.int y4)] (.int (0 : Int32)) := g21.other W23 (Ne.symm nz_a0s_a3b)
  have K29 : Keep h0 h23 [a0s] := K22.wr W23 (Or.inl (List.mem_of_getElem? (i := 0) rfl))
  have N23 := Fr.snoc X23 N16 o_a
  have Z23 : n0 ≤ h23.size := (Nat.le_trans Z16 (Nat.le_of_eq W23.size.symm))
  have O23 : Old Z n0 h23 := O16.wr W23 o_a
  refine own_step (T' := T23) (g' := (mkF m 57 #[.val (.ref a0s), .val (.ref a1), .val (.int (0 : Int32)), .val (.int (1 : Int32)), .val .null, .val (.ref a3b)] [])) st23 ?_
  refine own_rV X23 hx hlk Bd.returns (hb hby d5_57) ?_ (by decide) (by decide)
  rw [e23]
  exact ⟨rfl, N23, K29, g25⟩
def Q_s1 (Z : State) (a0s : Addr) (h0 : Heap) (n0 : Nat) (v : Option Value) (h : Heap) (L : List Loc) : Prop := v = none ∧ Fr n0 L ∧ Keep h0 h [a0s] ∧ Exa Z h a0s "java/lang/String"
theorem ef_rm_s1 (m : MethodId) (x0 : Addr) (x1 : Addr) : entryFrame m #[(.ref x0), (.ref x1)] 2 = mkF m 0 #[.val (.ref x0), .val (.ref x1)] [] := by first | (simp [entryFrame, mkF, argsToLocals, Value.category]; done) | rfl | (simp [entryFrame, mkF, argsToLocals, Value.category] <;> rfl)
theorem d4_0 : decode jdk_42_method_3_code 0 = .ok (.aload_n 0, 1) := by decide +kernel
theorem d4_1 : decode jdk_42_method_3_code 1 = .ok (.aload_n 1, 1) := by decide +kernel
theorem d4_2 : decode jdk_42_method_3_code 2 = .ok (.iconst 0, 1) := by decide +kernel
theorem d4_3 : decode jdk_42_method_3_code 3 = .ok (.aload_n 1, 1) := by decide +kernel
theorem d4_4 : decode jdk_42_method_3_code 4 = .ok (.arraylength, 1) := by decide +kernel
theorem d4_5 : decode jdk_42_method_3_code 5 = .ok (.aconst_null, 1) := by decide +kernel
theorem pd_4 : parseMethodDescriptor "([CIILjava/lang/Void;)V" = some ⟨[.array .char, .int, .int, .object "java/lang/Void"], none⟩ := by decide +kernel
theorem d4_6 : decode jdk_42_method_3_code 6 = .ok (.invokespecial 27, 3) := by decide +kernel
theorem d4_9 : decode jdk_42_method_3_code 9 = .ok (.return_, 1) := by decide +kernel
set_option maxRecDepth 65536 in
set_option maxHeartbeats 40000000 in
theorem rm_s1 (l : Launch) (Z : State) (a0 : Array Value) (hw : ∀ d ∈ tables_1, d.before a0 Z = true) (ws : List Jvm.Cond) (a0s : Addr) (a1 : Addr) (y : Int32) (ka : ClassId) (ic : Int32) (u1 : Value) (u2 : Value) (h0 : Heap) (n0 : Nat) (Z0 : n0 ≤ h0.size) (V_a : Arv Z h0 a1 ka .char (1 : Int32) [(.int y)] (.int (0 : Int32))) (hy : ¬ 255 < y) (O0 : Old Z n0 h0) (S_c : Sta Z Z.heap "java/lang/String" "COMPACT_STRINGS" "Z" (.int ic)) (hic : ¬ ic = 0) (E_a : Exa Z h0 a0s "java/lang/String") (F_v : Fld Z h0 a0s "java/lang/String" "value" "[B" u1) (F_c : Fld Z h0 a0s "java/lang/String" "coder" "B" u2) (o_a : n0 ≤ a0s) (hne : a0s ≠ a1) :
    MetFree l (⟨"java/lang/String", "<init>", "([C)V"⟩ : MethodName) (head1 (Jvm.Cond.code (⟨"java/lang/String", "<init>", "([C)V"⟩ : MethodName) jdk_42_method_3_code 2 none :: ws) ({ frames := 3, cells := 1, slots := 1, locals := 52 } : Room)) (fun a U => a = #[(.ref a0s), (.ref a1)] ∧ Z.Warmed39 U.vm ∧ U.heap = h0) (fun _ _ _ _ _ => True) (fun _ U o U' => ∃ v L, o = .returned v ∧ (Q_s1 Z a0s h0 n0) v U'.heap L ∧ FrameEnd U o U' L ({ frames := 3, cells := 1, slots := 1, locals := 52 } : Room).cells ({ frames := 3, cells := 1, slots := 1, locals := 52 } : Room).slots) := by
  refine MetFree.of_bodySF (plainFor_of_name pn_2) hisR ?_
  intro p e s m args below meth c s₁ Bd hml0 hP hK
  obtain ⟨rfl, hZ, hh⟩ := hP
  have hx := Bd.exec
  have hby := Bd.bytes
  have hlk : meth.locks = false := BodyLoose.notSynchronized Bd
  have hml : c.maxLocals = 2 := hml0
  have hown : s.vm.findClass "java/lang/String" = some m.cls := findClass_of_methodNamed Bd.named
  have hnm := (name_of_methodNamed Bd.named Bd.method).1
  have X0 : Stand p l e ({ frames := 3, cells := 1, slots := 1, locals := 52 } : Room) s m #[(.ref a0s), (.ref a1)] below meth c s₁ [] 0 0 := Stand.of_body Bd
  have e0 : s₁.heap = h0 := by rw [← hh, Bd.state]; rfl
  have N0 := Fr.nil n0
  show own_Go p e below s (Q_s1 Z a0s h0 n0) ({ frames := 3, cells := 1, slots := 1, locals := 52 } : Room).cells ({ frames := 3, cells := 1, slots := 1, locals := 52 } : Room).slots s₁ (entryFrame m #[(.ref a0s), (.ref a1)] 2)
  refine own_cast (g' := (mkF m 0 #[.val (.ref a0s), .val (.ref a1)] [])) (ef_rm_s1 m a0s a1) ?_
  have K0 : Keep h0 h0 [a0s] := Keep.refl _ _
  refine own_step (T' := s₁) (g' := (mkF m 1 #[.val (.ref a0s), .val (.ref a1)] [(.ref a0s)])) (fun t k => XS.aloadN X0.here hx rfl (hb hby d4_0) rfl rfl k) ?_
  refine own_step (T' := s₁) (g' := (mkF m 2 #[.val (.ref a0s), .val (.ref a1)] [(.ref a1), (.ref a0s)])) (fun t k => XS.aloadN X0.here hx rfl (hb hby d4_1) rfl rfl k) ?_
  refine own_step (T' := s₁) (g' := (mkF m 3 #[.val (.ref a0s), .val (.ref a1)] [(.int (0 : Int32)), (.ref a1), (.ref a0s)])) (fun t k => XS.iconst X0.here hx rfl (hb hby d4_2) k) ?_
  refine own_step (T' := s₁) (g' := (mkF m 4 #[.val (.ref a0s), .val (.ref a1)] [(.ref a1), (.int (0 : Int32)), (.ref a1), (.ref a0s)])) (fun t k => XS.aloadN X0.here hx rfl (hb hby d4_3) rfl rfl k) ?_
  obtain ⟨cl1, Ar1, qa1, S1, M1, H1, U1⟩ := id V_a
  have ln1 := len_of S1 M1
  refine own_step (T' := s₁) (g' := (mkF m 5 #[.val (.ref a0s), .val (.ref a1)] [(.int (1 : Int32)), (.int (0 : Int32)), (.ref a1), (.ref a0s)])) (fun t k => X0.arraylength hx (cell := cl1) (by rw [e0]; exact Ar1.1) (State.isArrayOf_alike hZ.alike Ar1.2.1) (g := (mkF m 4 #[.val (.ref a0s), .val (.ref a1)] [(.ref a1), (.int (0 : Int32)), (.ref a1), (.ref a0s)])) rfl rfl (hb hby d4_4) t (by rw [ln1]; exact k)) ?_
  refine own_step (T' := s₁) (g' := (mkF m 6 #[.val (.ref a0s), .val (.ref a1)] [.null, (.int (1 : Int32)), (.int (0 : Int32)), (.ref a1), (.ref a0s)])) (fun t k => XS.aconstNull X0.here hx rfl (hb hby d4_5) k) ?_
  obtain ⟨_, _, ⟨T4, L4, k4, n4⟩, -, X4, ⟨Lc4, hQ4, lq4, yq4, zq4⟩, st4⟩ := X0.specialBack hx (y := (⟨"java/lang/String", "<init>", "([CIILjava/lang/Void;)V"⟩ : MethodName)) rfl hown (mvT hZ (hw _ (List.mem_of_getElem? (i := 29) rfl))) (mvT hZ (hw _ (List.mem_of_getElem? (i := 30) rfl))) (mvT hZ (hw _ (List.mem_of_getElem? (i := 32) rfl))) (by decide) (backOf (W := 0) (rm_s4 l Z a0 hw [] a0s a1 y ka ic _ _ h0 n0 Z0 V_a hy O0 S_c hic E_a F_v F_c o_a hne) hZ (hw _ (List.mem_of_getElem? (i := 32) rfl)) (hw _ (List.mem_of_getElem? (i := 25) rfl)) (by decide) (by decide)) (g := (mkF m 6 #[.val (.ref a0s), .val (.ref a1)] [.null, (.int (1 : Int32)), (.int (0 : Int32)), (.ref a1), (.ref a0s)])) rfl (by rw [hml]; rfl) (Steps.refl _) (a := a0s) (argsL := [(.ref a1), (.int (0 : Int32)), (.int (1 : Int32)), .null]) (rest := []) (lenOf pd_4 rfl) rfl (by show 2 * 0 + _ ≤ _; exact Nat.le_of_eq rfl) (hb hby d4_6) (fun _ _ => ⟨rfl, e0, (by decide : 0 + 1 ≤ _), (by decide : 0 + 1 ≤ _)⟩)
  dsimp only [Pt.U, Pt.locs, Pt.cells, Pt.slots] at X4 lq4 yq4 zq4 st4 hQ4
  subst lq4 yq4 zq4
  obtain ⟨rfl, Nq4, K2, g3⟩ := hQ4
  have N4 := Fr.app N0 Nq4
  have g5 : Arv Z T4.heap a1 ka .char (1 : Int32) [(.int y)] (.int (0 : Int32)) := V_a.keep K2 (ninS (Ne.symm hne) nin0)
  have Z2 : n0 ≤ T4.heap.size := (Nat.le_trans Z0 K2.1)
  have O2 : Old Z n0 T4.heap := O0.keep K2 (allS (P := fun x => n0 ≤ x) o_a all0)
  have K6 : Keep h0 T4.heap [a0s] := K0.trans K2 (allS (P := fun x => x ∈ [a0s] ∨ h0.size ≤ x) (Or.inl (List.mem_of_getElem? (i := 0) rfl)) all0)
  refine own_tr (T' := T4) (g' := (mkF m 9 #[.val (.ref a0s), .val (.ref a1)] [])) st4 ?_
  refine own_rV X4 hx hlk Bd.returns (hb hby d4_9) ?_ (by decide) (by decide)
  exact ⟨rfl, N4, K6, g3⟩
def Q_gu (Z : State) (u : Int64) (h0 : Heap) (n0 : Nat) (v : Option Value) (h : Heap) (L : List Loc) : Prop := ∃ b : Addr, v = some (.ref b) ∧ Fr n0 L ∧ Keep h0 h [] ∧ h0.size ≤ b ∧ Exa Z h b "com/example/pollster/pollster/QueuePops$Popped" ∧ Fld Z h b "com/example/pollster/pollster/QueuePops$Popped" "invisibleUntil" "J" (.long u)
theorem ef_rm_gu (m : MethodId) (x0 : Addr) (x1 : Addr) (x2 : Int64) : entryFrame m #[(.ref x0), (.ref x1), (.long x2)] 4 = mkF m 0 #[.val (.ref x0), .val (.ref x1), .val (.long x2), .second] [] := by first | (simp [entryFrame, mkF, argsToLocals, Value.category]; done) | rfl | (simp [entryFrame, mkF, argsToLocals, Value.category] <;> rfl)
theorem d9_0 : decode prog_56_method_3_code 0 = .ok (.new 2, 3) := by decide +kernel
theorem d9_3 : decode prog_56_method_3_code 3 = .ok (.dup, 1) := by decide +kernel
theorem d9_4 : decode prog_56_method_3_code 4 = .ok (.aload_n 0, 1) := by decide +kernel
theorem d9_5 : decode prog_56_method_3_code 5 = .ok (.getfield 12, 3) := by decide +kernel
theorem d9_8 : decode prog_56_method_3_code 8 = .ok (.aload_n 0, 1) := by decide +kernel
theorem d9_9 : decode prog_56_method_3_code 9 = .ok (.getfield 16, 3) := by decide +kernel
theorem d9_12 : decode prog_56_method_3_code 12 = .ok (.aload_n 0, 1) := by decide +kernel
theorem d9_13 : decode prog_56_method_3_code 13 = .ok (.getfield 20, 3) := by decide +kernel
theorem d9_16 : decode prog_56_method_3_code 16 = .ok (.aload_n 1, 1) := by decide +kernel
theorem d9_17 : decode prog_56_method_3_code 17 = .ok (.lload_n 2, 1) := by decide +kernel
theorem d9_18 : decode prog_56_method_3_code 18 = .ok (.invokespecial 1, 3) := by decide +kernel
theorem d9_21 : decode prog_56_method_3_code 21 = .ok (.areturn, 1) := by decide +kernel
set_option maxRecDepth 65536 in
set_option maxHeartbeats 40000000 in
theorem rm_gu (l : Launch) (Z : State) (a0 : Array Value) (hw : ∀ d ∈ tables_1, d.before a0 Z = true) (ws : List Jvm.Cond) (a1 : Addr) (a2 : Addr) (q3 : Int64) (sr : Int64) (rt : Int32) (u : Int64) (h0 : Heap) (n0 : Nat) (Z0 : n0 ≤ h0.size) (F_s : Fld Z h0 a1 "com/example/pollster/pollster/QueuePops$Popped" "serial" "J" (.long sr)) (F_r : Fld Z h0 a1 "com/example/pollster/pollster/QueuePops$Popped" "reconsumeTimes" "I" (.int rt)) (F_u : Fld Z h0 a1 "com/example/pollster/pollster/QueuePops$Popped" "invisibleUntil" "J" (.long u)) :
    MetFree l (⟨"com/example/pollster/pollster/QueuePops$Popped", "givenUp", "(Ljava/lang/String;J)Lcom/example/pollster/pollster/QueuePops$Popped;"⟩ : MethodName) (head1 (Jvm.Cond.code (⟨"com/example/pollster/pollster/QueuePops$Popped", "givenUp", "(Ljava/lang/String;J)Lcom/example/pollster/pollster/QueuePops$Popped;"⟩ : MethodName) prog_56_method_3_code 4 (some (.object "com/example/pollster/pollster/QueuePops$Popped")) :: ws) ({ frames := 2, cells := 1, slots := 6, locals := 33 } : Room)) (fun a U => a = #[(.ref a1), (.ref a2), (.long q3)] ∧ Z.Warmed39 U.vm ∧ U.heap = h0) (fun _ _ _ _ _ => True) (fun _ U o U' => ∃ v L, o = .returned v ∧ (Q_gu Z u h0 n0) v U'.heap L ∧ FrameEnd U o U' L ({ frames := 2, cells := 1, slots := 6, locals := 33 } : Room).cells ({ frames := 2, cells := 1, slots := 6, locals := 33 } : Room).slots) := by
  refine MetFree.of_bodySF (plainFor_of_name pn_0) hisR ?_
  intro p e s m args below meth c s₁ Bd hml0 hP hK
  obtain ⟨rfl, hZ, hh⟩ := hP
  have hx := Bd.exec
  have hby := Bd.bytes
  have hlk : meth.locks = false := BodyLoose.notSynchronized Bd
  have hml : c.maxLocals = 4 := hml0
  have hown : s.vm.findClass "com/example/pollster/pollster/QueuePops$Popped" = some m.cls := findClass_of_methodNamed Bd.named
  have hnm := (name_of_methodNamed Bd.named Bd.method).1
  have X0 : Stand p l e ({ frames := 2, cells := 1, slots := 6, locals := 33 } : Room) s m #[(.ref a1), (.ref a2), (.long q3)] below meth c s₁ [] 0 0 := Stand.of_body Bd
  have e0 : s₁.heap = h0 := by rw [← hh, Bd.state]; rfl
  have N0 := Fr.nil n0
  show own_Go p e below s (Q_gu Z u h0 n0) ({ frames := 2, cells := 1, slots := 6, locals := 33 } : Room).cells ({ frames := 2, cells := 1, slots := 6, locals := 33 } : Room).slots s₁ (entryFrame m #[(.ref a1), (.ref a2), (.long q3)] 4)
  refine own_cast (g' := (mkF m 0 #[.val (.ref a1), .val (.ref a2), .val (.long q3), .second] [])) (ef_rm_gu m a1 a2 q3) ?_
  have K0 : Keep h0 h0 [] := Keep.refl _ _
  obtain ⟨T1, h1, X1, e1, E1, A1, D1, -, st1⟩ := newO X0 hx hZ hown (hw _ (List.mem_of_getElem? (i := 55) rfl)) (hw _ (List.mem_of_getElem? (i := 1) rfl)) (hw _ (List.mem_of_getElem? (i := 2) rfl)) e0 (g := (mkF m 0 #[.val (.ref a1), .val (.ref a2), .val (.long q3), .second] [])) rfl (hb hby d9_0) (by decide : 0 + 1 ≤ _) (by decide : 0 + 6 ≤ _)
  obtain ⟨ad1, g_ad1⟩ : ∃ z, z = h0.size := ⟨_, rfl⟩
  rw [← g_ad1] at A1 D1 st1
  have g2 : Fld Z h1 a1 "com/example/pollster/pollster/QueuePops$Popped" "serial" "J" (.long sr) := F_s.ext E1
  have g3 : Fld Z h1 a1 "com/example/pollster/pollster/QueuePops$Popped" "reconsumeTimes" "I" (.int rt) := F_r.ext E1
  have g4 : Fld Z h1 a1 "com/example/pollster/pollster/QueuePops$Popped" "invisibleUntil" "J" (.long u) := F_u.ext E1
  have ne1_1 : a1 ≠ ad1 := Nat.ne_of_lt (by rw [g_ad1]; exact F_s.lt)
  have o1 : n0 ≤ ad1 := (Nat.le_trans Z0 (Nat.le_of_eq g_ad1.symm))
  have Z1 : n0 ≤ h1.size := (Nat.le_trans Z0 E1.1)
  have f1 : h0.size ≤ ad1 := by rw [g_ad1]; exact K0.1
  have K5 : Keep h0 h1 [] := K0.ext E1
  have g6 : Fld Z h1 ad1 "com/example/pollster/pollster/QueuePops$Popped" "serial" "J" (.long (0 : Int64)) := D1 (Or.inr (hw _ (List.mem_of_getElem? (i := 13) rfl))) (ty := .long) (by decide)
  have g7 : Fld Z h1 ad1 "com/example/pollster/pollster/QueuePops$Popped" "reconsumeTimes" "I" (.int (0 : Int32)) := D1 (Or.inr (hw _ (List.mem_of_getElem? (i := 15) rfl))) (ty := .int) (by decide)
  have g8 : Fld Z h1 ad1 "com/example/pollster/pollster/QueuePops$Popped" "invisibleUntil" "J" (.long (0 : Int64)) := D1 (Or.inr (hw _ (List.mem_of_getElem? (i := 17) rfl))) (ty := .long) (by decide)
  have g9 : Fld Z h1 ad1 "com/example/pollster/pollster/QueuePops$Popped" "deadLetterMsgId" "Ljava/lang/String;" .null := D1 (Or.inr (hw _ (List.mem_of_getElem? (i := 19) rfl))) (ty := .object "java/lang/String") (by decide)
  have g10 : Fld Z h1 ad1 "com/example/pollster/pollster/QueuePops$Popped" "deadLetterFrom" "J" (.long (0 : Int64)) := D1 (Or.inr (hw _ (List.mem_of_getElem? (i := 21) rfl))) (ty := .long) (by decide)
  refine own_step (T' := T1) (g' := (mkF m 3 #[.val (.ref a1), .val (.ref a2), .val (.long q3), .second] [(.ref ad1)])) st1 ?_
  refine own_step (T' := T1) (g' := (mkF m 4 #[.val (.ref a1), .val (.ref a2), .val (.long q3), .second] [(.ref ad1), (.ref ad1)])) (fun t k => XS.dup X1.here hx rfl (hb hby d9_3) rfl rfl k) ?_
  refine own_step (T' := T1) (g' := (mkF m 5 #[.val (.ref a1), .val (.ref a2), .val (.long q3), .second] [(.ref a1), (.ref ad1), (.ref ad1)])) (fun t k => XS.aloadN X1.here hx rfl (hb hby d9_4) rfl rfl k) ?_
  obtain ⟨T11, X11, e11, st11⟩ := getF X1 hx hZ hown (host := "") (Or.inl (hw _ (List.mem_of_getElem? (i := 12) rfl))) Via.refl e1 g2 (g := (mkF m 5 #[.val (.ref a1), .val (.ref a2), .val (.long q3), .second] [(.ref a1), (.ref ad1), (.ref ad1)])) rfl rfl (hb hby d9_5)
  refine own_step (T' := T11) (g' := (mkF m 8 #[.val (.ref a1), .val (.ref a2), .val (.long q3), .second] [(.long sr), (.ref ad1), (.ref ad1)])) st11 ?_
  refine own_step (T' := T11) (g' := (mkF m 9 #[.val (.ref a1), .val (.ref a2), .val (.long q3), .second] [(.ref a1), (.long sr), (.ref ad1), (.ref ad1)])) (fun t k => XS.aloadN X11.here hx rfl (hb hby d9_8) rfl rfl k) ?_
  obtain ⟨T12, X12, e12, st12⟩ := getF X11 hx hZ hown (host := "") (Or.inl (hw _ (List.mem_of_getElem? (i := 14) rfl))) Via.refl e11 g3 (g := (mkF m 9 #[.val (.ref a1), .val (.ref a2), .val (.long q3), .second] [(.ref a1), (.long sr), (.ref ad1), (.ref ad1)])) rfl rfl (hb hby d9_9)
  refine own_step (T' := T12) (g' := (mkF m 12 #[.val (.ref a1), .val (.ref a2), .val (.long q3), .second] [(.int rt), (.long sr), (.ref ad1), (.ref ad1)])) st12 ?_
  refine own_step (T' := T12) (g' := (mkF m 13 #[.val (.ref a1), .val (.ref a2), .val (.long q3), .second] [(.ref a1), (.int rt), (.long sr), (.ref ad1), (.ref ad1)])) (fun t k => XS.aloadN X12.here hx rfl (hb hby d9_12) rfl rfl k) ?_
  obtain ⟨T13, X13, e13, st13⟩ := getF X12 hx hZ hown (host := "") (Or.inl (hw _ (List.mem_of_getElem? (i := 16) rfl))) Via.refl e12 g4 (g := (mkF m 13 #[.val (.ref a1), .val (.ref a2), .val (.long q3), .second] [(.ref a1), (.int rt), (.long sr), (.ref ad1), (.ref ad1)])) rfl rfl (hb hby d9_13)
  refine own_step (T' := T13) (g' := (mkF m 16 #[.val (.ref a1), .val (.ref a2), .val (.long q3), .second] [(.long u), (.int rt), (.long sr), (.ref ad1), (.ref ad1)])) st13 ?_
  refine own_step (T' := T13) (g' := (mkF m 17 #[.val (.ref a1), .val (.ref a2), .val (.long q3), .second] [(.ref a2), (.long u), (.int rt), (.long sr), (.ref ad1), (.ref ad1)])) (fun t k => XS.aloadN X13.here hx rfl (hb hby d9_16) rfl rfl k) ?_
  refine own_step (T' := T13) (g' := (mkF m 18 #[.val (.ref a1), .val (.ref a2), .val (.long q3), .second] [(.long q3), (.ref a2), (.long u), (.int rt), (.long sr), (.ref ad1), (.ref ad1)])) (fun t k => XS.lloadN X13.here hx rfl (hb hby d9_17) rfl k) ?_
  obtain ⟨_, _, ⟨T21, L21, k21, n21⟩, -, X21, ⟨Lc21, hQ21, lq21, yq21, zq21⟩, st21⟩ := X13.specialBack hx (y := (⟨"com/example/pollster/pollster/QueuePops$Popped", "<init>", "(JIJLjava/lang/String;J)V"⟩ : MethodName)) rfl hown (mvT hZ (hw _ (List.mem_of_getElem? (i := 6) rfl))) (mvT hZ (hw _ (List.mem_of_getElem? (i := 7) rfl))) (mvT hZ (hw _ (List.mem_of_getElem? (i := 8) rfl))) (by decide) (backOf (W := 1) (rm_i5ref l Z a0 hw [] ad1 sr rt u a2 q3 _ _ _ _ _ h1 n0 Z1 A1 g6 g7 g8 g9 g10 o1) hZ (hw _ (List.mem_of_getElem? (i := 8) rfl)) (hw _ (List.mem_of_getElem? (i := 2) rfl)) (by decide) (by decide)) (g := (mkF m 18 #[.val (.ref a1), .val (.ref a2), .val (.long q3), .second] [(.long q3), (.ref a2), (.long u), (.int rt), (.long sr), (.ref ad1), (.ref ad1)])) rfl (by rw [hml]; rfl) (Steps.refl _) (a := ad1) (argsL := [(.long sr), (.int rt), (.long u), (.ref a2), (.long q3)]) (rest := [(.ref ad1)]) (lenOf pd_0 rfl) rfl (by show 2 * 0 + _ ≤ _; exact Nat.le_of_eq rfl) (hb hby d9_18) (fun _ _ => ⟨rfl, e13, (by decide : 1 + 0 ≤ _), (by decide : 6 + 0 ≤ _)⟩)
  dsimp only [Pt.U, Pt.locs, Pt.cells, Pt.slots] at X21 lq21 yq21 zq21 st21 hQ21
  subst lq21 yq21 zq21
  obtain ⟨rfl, Nq21, K14, g15, g16, g17, g18, g19, g20⟩ := hQ21
  have N21 := Fr.app N0 Nq21
  have g22 : Fld Z T21.heap a1 "com/example/pollster/pollster/QueuePops$Popped" "serial" "J" (.long sr) := g2.keep K14 (ninS ne1_1 nin0)
  have g23 : Fld Z T21.heap a1 "com/example/pollster/pollster/QueuePops$Popped" "reconsumeTimes" "I" (.int rt) := g3.keep K14 (ninS ne1_1 nin0)
  have g24 : Fld Z T21.heap a1 "com/example/pollster/pollster/QueuePops$Popped" "invisibleUntil" "J" (.long u) := g4.keep K14 (ninS ne1_1 nin0)
  have Z14 : n0 ≤ T21.heap.size := (Nat.le_trans Z1 K14.1)
  have K25 : Keep h0 T21.heap [] := K5.trans K14 (allS (P := fun x => x ∈ [] ∨ h0.size ≤ x) (Or.inr f1) all0)
  refine own_tr (T' := T21) (g' := (mkF m 21 #[.val (.ref a1), .val (.ref a2), .val (.long q3), .second] [(.ref ad1)])) st21 ?_
  refine own_rA X21 hx hlk Bd.returns rfl (w := (.ref ad1)) rfl (hb hby d9_21) ?_ (by decide) (by decide)
  exact ⟨ad1, rfl, N21, K25, f1, g15, g18⟩
theorem own_ch (x : Int32) : ¬ 255 < nar .char ((x &&& (255 : Int32)).toUInt32.toUInt16.toUInt32.toInt32) := by
  have e1 : nar .char ((x &&& (255 : Int32)).toUInt32.toUInt16.toUInt32.toInt32) = (x &&& (255 : Int32)) := by
    rw [i2c_mask]
    show (x &&& (255 : Int32)).toUInt32.toUInt16.toUInt32.toInt32 = _
    rw [i2c_mask]
  have h : (x &&& (255 : Int32)).toInt = x.toInt % 2 ^ 8 := Jvm.Kit.i32_mask x 255 (k := 8) (by decide) (by decide)
  rw [e1, Int32.lt_iff_toInt_lt, h]
  have z : (255 : Int32).toInt = 255 := by decide
  rw [z]; omega
theorem own_h1 {a u : Int64} (h : a < u) : own_hid a u = 1 := by rw [own_hid, if_pos h]
theorem own_h0 {a u : Int64} (h : ¬ a < u) : own_hid a u = 0 := by rw [own_hid, if_neg h]
theorem own_irr (u : Int64) : ¬ u < u := by rw [Int64.lt_iff_toInt_lt]; omega
theorem own_pred {u : Int64} (h : ¬ u = ((-9223372036854775808) : Int64)) : (u - (1 : Int64)) < u := by
  have r := rng64 u
  have z1 : (1 : Int64).toInt = 1 := by decide
  have zm : ((-9223372036854775808) : Int64).toInt = -9223372036854775808 := by decide
  have hne : u.toInt ≠ -9223372036854775808 := fun q => h (Int64.toInt_inj.mp (by rw [q, zm]))
  rw [Int64.lt_iff_toInt_lt, Jvm.Kit.i64_sub (by rw [z1]; omega) (by rw [z1]; omega), z1]
  omega
theorem own_mono {a b u : Int64} (h : own_max a b < u) : own_min a b < u := by
  unfold own_max at h
  unfold own_min
  rw [Int64.lt_iff_toInt_lt] at *
  split at h <;> rename_i c <;> rw [Int64.lt_iff_toInt_lt] at c <;> split <;> rename_i d <;> rw [Int64.lt_iff_toInt_lt] at d <;> omega
def Q_law (n0 : Nat) (v : Option Value) (h : Heap) (L : List Loc) : Prop := v = some (.int 1) ∧ Fr n0 L
theorem ef_rm_law (m : MethodId) (x0 : Int64) (x1 : Int32) (x2 : Int64) (x3 : Int64) (x4 : Int64) (x5 : Int32) : entryFrame m #[(.long x0), (.int x1), (.long x2), (.long x3), (.long x4), (.int x5)] maxLocals = mkF m 0 #[.val (.long x0), .second, .val (.int x1), .val (.long x2), .second, .val (.long x3), .second, .val (.long x4), .second, .val (.int x5), .unset, .unset, .unset, .unset, .unset, .unset, .unset, .unset] [] := by first | (simp [entryFrame, mkF, argsToLocals, Value.category, maxLocals]; done) | rfl | (simp [entryFrame, mkF, argsToLocals, Value.category, maxLocals] <;> rfl)
theorem pn_3 : plainName "com/example/pollster/pollster/PoppedHiddenAtPinLaw" = true := by first | (simp [plainName, overriddenIn]; done) | decide +kernel
theorem own_hid1 {a u : Int64} (h : ¬ own_hid a u = 0) : a < u := by
  by_cases c : a < u
  · exact c
  · exact absurd (own_h0 c) h
theorem pd_5 : parseMethodDescriptor "(JIJ)V" = some ⟨[.long, .int, .long], none⟩ := by decide +kernel
theorem pd_6 : parseMethodDescriptor "([C)V" = some ⟨[.array .char], none⟩ := by decide +kernel
theorem pd_7 : parseMethodDescriptor "(Ljava/lang/String;J)Lcom/example/pollster/pollster/QueuePops$Popped;" = some ⟨[.object "java/lang/String", .long], some (.object "com/example/pollster/pollster/QueuePops$Popped")⟩ := by decide +kernel
theorem pd_8 : parseMethodDescriptor "(J)Z" = some ⟨[.long], some (.boolean)⟩ := by decide +kernel
theorem pd_9 : parseMethodDescriptor "(JJ)J" = some ⟨[.long, .long], some (.long)⟩ := by decide +kernel
theorem pd_10 : parseMethodDescriptor "()J" = some ⟨[], some (.long)⟩ := by decide +kernel
set_option maxRecDepth 65536 in
set_option maxHeartbeats 40000000 in
theorem rm_law (l : Launch) (Z : State) (a0 : Array Value) (hw : ∀ d ∈ tables_1, d.before a0 Z = true) (ws : List Jvm.Cond) (p0 : Int64) (p1 : Int32) (p2 : Int64) (p3 : Int64) (p4 : Int64) (p5 : Int32) (ic : Int32) (h0 : Heap) (n0 : Nat) (Z0 : n0 ≤ h0.size) (O0 : Old Z n0 h0) (S_c : Sta Z Z.heap "java/lang/String" "COMPACT_STRINGS" "Z" (.int ic)) (hic : ¬ ic = 0) :
    MetFree l x (head1 (Jvm.Cond.code x code maxLocals ret :: ws) room_1) (fun a U => a = #[(.long p0), (.int p1), (.long p2), (.long p3), (.long p4), (.int p5)] ∧ Z.Warmed39 U.vm ∧ U.heap = h0) (fun _ _ _ _ _ => True) (fun _ U o U' => ∃ v L, o = .returned v ∧ (Q_law n0) v U'.heap L ∧ FrameEnd U o U' L 24 128) := by
  refine MetFree.of_bodySF (plainFor_of_name pn_3) hisR ?_
  intro p e s m args below meth c s₁ Bd hml0 hP hK
  obtain ⟨rfl, hZ, hh⟩ := hP
  have hx := Bd.exec
  have hby := Bd.bytes
  have hlk : meth.locks = false := BodyLoose.notSynchronized Bd
  have hml : c.maxLocals = 18 := hml0
  have hown : s.vm.findClass "com/example/pollster/pollster/PoppedHiddenAtPinLaw" = some m.cls := findClass_of_methodNamed Bd.named
  have hnm := (name_of_methodNamed Bd.named Bd.method).1
  have X0 : Stand p l e room_1 s m #[(.long p0), (.int p1), (.long p2), (.long p3), (.long p4), (.int p5)] below meth c s₁ [] 0 0 := Stand.of_body Bd
  have e0 : s₁.heap = h0 := by rw [← hh, Bd.state]; rfl
  have N0 := Fr.nil n0
  show own_Go p e below s (Q_law n0) 24 128 s₁ (entryFrame m #[(.long p0), (.int p1), (.long p2), (.long p3), (.long p4), (.int p5)] maxLocals)
  refine own_cast (g' := (mkF m 0 #[.val (.long p0), .second, .val (.int p1), .val (.long p2), .second, .val (.long p3), .second, .val (.long p4), .second, .val (.int p5), .unset, .unset, .unset, .unset, .unset, .unset, .unset, .unset] [])) (ef_rm_law m p0 p1 p2 p3 p4 p5) ?_
  have hy := own_ch p5
  obtain ⟨T1, h1, X1, e1, E1, A1, D1, -, st1⟩ := newO X0 hx hZ hown (hw _ (List.mem_of_getElem? (i := 0) rfl)) (hw _ (List.mem_of_getElem? (i := 1) rfl)) (hw _ (List.mem_of_getElem? (i := 2) rfl)) e0 (g := (mkF m 0 #[.val (.long p0), .second, .val (.int p1), .val (.long p2), .second, .val (.long p3), .second, .val (.long p4), .second, .val (.int p5), .unset, .unset, .unset, .unset, .unset, .unset, .unset, .unset] [])) rfl (hb hby at_0) (by decide : 0 + 1 ≤ _) (by decide : 0 + 6 ≤ _)
  obtain ⟨ad1, g_ad1⟩ : ∃ z, z = h0.size := ⟨_, rfl⟩
  rw [← g_ad1] at A1 D1 st1
  have o1 : n0 ≤ ad1 := (Nat.le_trans Z0 (Nat.le_of_eq g_ad1.symm))
  have Z1 : n0 ≤ h1.size := (Nat.le_trans Z0 E1.1)
  have O1 : Old Z n0 h1 := O0.ext E1
  have g2 : Fld Z h1 ad1 "com/example/pollster/pollster/QueuePops$Popped" "serial" "J" (.long (0 : Int64)) := D1 (Or.inr (hw _ (List.mem_of_getElem? (i := 13) rfl))) (ty := .long) (by decide)
  have g3 : Fld Z h1 ad1 "com/example/pollster/pollster/QueuePops$Popped" "reconsumeTimes" "I" (.int (0 : Int32)) := D1 (Or.inr (hw _ (List.mem_of_getElem? (i := 15) rfl))) (ty := .int) (by decide)
  have g4 : Fld Z h1 ad1 "com/example/pollster/pollster/QueuePops$Popped" "invisibleUntil" "J" (.long (0 : Int64)) := D1 (Or.inr (hw _ (List.mem_of_getElem? (i := 17) rfl))) (ty := .long) (by decide)
  have g5 : Fld Z h1 ad1 "com/example/pollster/pollster/QueuePops$Popped" "deadLetterMsgId" "Ljava/lang/String;" .null := D1 (Or.inr (hw _ (List.mem_of_getElem? (i := 19) rfl))) (ty := .object "java/lang/String") (by decide)
  have g6 : Fld Z h1 ad1 "com/example/pollster/pollster/QueuePops$Popped" "deadLetterFrom" "J" (.long (0 : Int64)) := D1 (Or.inr (hw _ (List.mem_of_getElem? (i := 21) rfl))) (ty := .long) (by decide)
  refine own_step (T' := T1) (g' := (mkF m 3 #[.val (.long p0), .second, .val (.int p1), .val (.long p2), .second, .val (.long p3), .second, .val (.long p4), .second, .val (.int p5), .unset, .unset, .unset, .unset, .unset, .unset, .unset, .unset] [(.ref ad1)])) st1 ?_
  refine own_step (T' := T1) (g' := (mkF m 4 #[.val (.long p0), .second, .val (.int p1), .val (.long p2), .second, .val (.long p3), .second, .val (.long p4), .second, .val (.int p5), .unset, .unset, .unset, .unset, .unset, .unset, .unset, .unset] [(.ref ad1), (.ref ad1)])) (fun t k => XS.dup X1.here hx rfl (hb hby at_3) rfl rfl k) ?_
  refine own_step (T' := T1) (g' := (mkF m 5 #[.val (.long p0), .second, .val (.int p1), .val (.long p2), .second, .val (.long p3), .second, .val (.long p4), .second, .val (.int p5), .unset, .unset, .unset, .unset, .unset, .unset, .unset, .unset] [(.long p0), (.ref ad1), (.ref ad1)])) (fun t k => XS.lloadN X1.here hx rfl (hb hby at_4) rfl k) ?_
  refine own_step (T' := T1) (g' := (mkF m 6 #[.val (.long p0), .second, .val (.int p1), .val (.long p2), .second, .val (.long p3), .second, .val (.long p4), .second, .val (.int p5), .unset, .unset, .unset, .unset, .unset, .unset, .unset, .unset] [(.int p1), (.long p0), (.ref ad1), (.ref ad1)])) (fun t k => XS.iloadN X1.here hx rfl (hb hby at_5) rfl k) ?_
  refine own_step (T' := T1) (g' := (mkF m 7 #[.val (.long p0), .second, .val (.int p1), .val (.long p2), .second, .val (.long p3), .second, .val (.long p4), .second, .val (.int p5), .unset, .unset, .unset, .unset, .unset, .unset, .unset, .unset] [(.long p2), (.int p1), (.long p0), (.ref ad1), (.ref ad1)])) (fun t k => XS.lloadN X1.here hx rfl (hb hby at_6) rfl k) ?_
  obtain ⟨_, _, ⟨T14, L14, k14, n14⟩, -, X14, ⟨Lc14, hQ14, lq14, yq14, zq14⟩, st14⟩ := X1.specialBack hx (y := (⟨"com/example/pollster/pollster/QueuePops$Popped", "<init>", "(JIJ)V"⟩ : MethodName)) rfl hown (mvT hZ (hw _ (List.mem_of_getElem? (i := 3) rfl))) (mvT hZ (hw _ (List.mem_of_getElem? (i := 4) rfl))) (mvT hZ (hw _ (List.mem_of_getElem? (i := 5) rfl))) (by decide) (backOf (W := 1) (rm_i3 l Z a0 hw [] ad1 p0 p1 p2 _ _ _ _ _ h1 n0 Z1 A1 g2 g3 g4 g5 g6 o1) hZ (hw _ (List.mem_of_getElem? (i := 5) rfl)) (hw _ (List.mem_of_getElem? (i := 2) rfl)) (by decide) (by decide)) (g := (mkF m 7 #[.val (.long p0), .second, .val (.int p1), .val (.long p2), .second, .val (.long p3), .second, .val (.long p4), .second, .val (.int p5), .unset, .unset, .unset, .unset, .unset, .unset, .unset, .unset] [(.long p2), (.int p1), (.long p0), (.ref ad1), (.ref ad1)])) rfl (by rw [hml]; rfl) (Steps.refl _) (a := ad1) (argsL := [(.long p0), (.int p1), (.long p2)]) (rest := [(.ref ad1)]) (lenOf pd_5 rfl) rfl (by show 2 * 0 + _ ≤ _; exact Nat.le_of_eq rfl) (hb hby at_7) (fun _ _ => ⟨rfl, e1, (by decide : 1 + 0 ≤ _), (by decide : 6 + 0 ≤ _)⟩)
  dsimp only [Pt.U, Pt.locs, Pt.cells, Pt.slots] at X14 lq14 yq14 zq14 st14 hQ14
  subst lq14 yq14 zq14
  obtain ⟨rfl, Nq14, K7, g8, g9, g10, g11, g12, g13⟩ := hQ14
  have N14 := Fr.app N0 Nq14
  have Z7 : n0 ≤ T14.heap.size := (Nat.le_trans Z1 K7.1)
  have O7 : Old Z n0 T14.heap := O1.keep K7 (allS (P := fun x => n0 ≤ x) o1 all0)
  refine own_tr (T' := T14) (g' := (mkF m 10 #[.val (.long p0), .second, .val (.int p1), .val (.long p2), .second, .val (.long p3), .second, .val (.long p4), .second, .val (.int p5), .unset, .unset, .unset, .unset, .unset, .unset, .unset, .unset] [(.ref ad1)])) st14 ?_
  refine own_step (T' := T14) (g' := (mkF m 12 #[.val (.long p0), .second, .val (.int p1), .val (.long p2), .second, .val (.long p3), .second, .val (.long p4), .second, .val (.int p5), .val (.ref ad1), .unset, .unset, .unset, .unset, .unset, .unset, .unset] [])) (fun t k => XS.astore X14.here hx rfl (hb hby at_10) rfl rfl (l' := #[.val (.long p0), .second, .val (.int p1), .val (.long p2), .second, .val (.long p3), .second, .val (.long p4), .second, .val (.int p5), .val (.ref ad1), .unset, .unset, .unset, .unset, .unset, .unset, .unset]) rfl k) ?_
  refine own_step (T' := T14) (g' := (mkF m 13 #[.val (.long p0), .second, .val (.int p1), .val (.long p2), .second, .val (.long p3), .second, .val (.long p4), .second, .val (.int p5), .val (.ref ad1), .unset, .unset, .unset, .unset, .unset, .unset, .unset] [(.int (1 : Int32))])) (fun t k => XS.iconst X14.here hx rfl (hb hby at_12) k) ?_
  obtain ⟨T15, h15, k15, X15, e15, E15, A15, st15⟩ := newP X14 hx hZ (hw _ (List.mem_of_getElem? (i := 22) rfl)) rfl (g := (mkF m 13 #[.val (.long p0), .second, .val (.int p1), .val (.long p2), .second, .val (.long p3), .second, .val (.long p4), .second, .val (.int p5), .val (.ref ad1), .unset, .unset, .unset, .unset, .unset, .unset, .unset] [(.int (1 : Int32))])) rfl (hb hby at_13) rfl (by decide) (cap := 1) (by decide) (by decide) (by decide : 1 + 1 ≤ _) (by decide : 6 + 1 ≤ _)
  obtain ⟨ad15, g_ad15⟩ : ∃ z, z = T14.heap.size := ⟨_, rfl⟩
  rw [← g_ad15] at A15 st15
  have g16 : Exa Z h15 ad1 "com/example/pollster/pollster/QueuePops$Popped" := g8.ext E15
  have g17 : Fld Z h15 ad1 "com/example/pollster/pollster/QueuePops$Popped" "serial" "J" (.long p0) := g9.ext E15
  have g18 : Fld Z h15 ad1 "com/example/pollster/pollster/QueuePops$Popped" "reconsumeTimes" "I" (.int p1) := g10.ext E15
  have g19 : Fld Z h15 ad1 "com/example/pollster/pollster/QueuePops$Popped" "invisibleUntil" "J" (.long p2) := g11.ext E15
  have g20 : Fld Z h15 ad1 "com/example/pollster/pollster/QueuePops$Popped" "deadLetterMsgId" "Ljava/lang/String;" .null := g12.ext E15
  have g21 : Fld Z h15 ad1 "com/example/pollster/pollster/QueuePops$Popped" "deadLetterFrom" "J" (.long (0 : Int64)) := g13.ext E15
  have ne15_1 : ad1 ≠ ad15 := Nat.ne_of_lt (by rw [g_ad15]; exact g8.lt)
  have o15 : n0 ≤ ad15 := (Nat.le_trans Z7 (Nat.le_of_eq g_ad15.symm))
  have Z15 : n0 ≤ h15.size := (Nat.le_trans Z7 E15.1)
  have O15 : Old Z n0 h15 := O7.ext E15
  have V15 : Arv Z h15 ad15 k15 .char (1 : Int32) [(.int (0 : Int32))] (.int (0 : Int32)) := (Arv.new A15 (by decide)).pad (pad_rep [] (.int (0 : Int32)) 1)
  refine own_step (T' := T15) (g' := (mkF m 15 #[.val (.long p0), .second, .val (.int p1), .val (.long p2), .second, .val (.long p3), .second, .val (.long p4), .second, .val (.int p5), .val (.ref ad1), .unset, .unset, .unset, .unset, .unset, .unset, .unset] [(.ref ad15)])) st15 ?_
  refine own_step (T' := T15) (g' := (mkF m 17 #[.val (.long p0), .second, .val (.int p1), .val (.long p2), .second, .val (.long p3), .second, .val (.long p4), .second, .val (.int p5), .val (.ref ad1), .val (.ref ad15), .unset, .unset, .unset, .unset, .unset, .unset] [])) (fun t k => XS.astore X15.here hx rfl (hb hby at_15) rfl rfl (l' := #[.val (.long p0), .second, .val (.int p1), .val (.long p2), .second, .val (.long p3), .second, .val (.long p4), .second, .val (.int p5), .val (.ref ad1), .val (.ref ad15), .unset, .unset, .unset, .unset, .unset, .unset]) rfl k) ?_
  refine own_step (T' := T15) (g' := (mkF m 19 #[.val (.long p0), .second, .val (.int p1), .val (.long p2), .second, .val (.long p3), .second, .val (.long p4), .second, .val (.int p5), .val (.ref ad1), .val (.ref ad15), .unset, .unset, .unset, .unset, .unset, .unset] [(.ref ad15)])) (fun t k => XS.aload X15.here hx rfl (hb hby at_17) rfl rfl k) ?_
  refine own_step (T' := T15) (g' := (mkF m 20 #[.val (.long p0), .second, .val (.int p1), .val (.long p2), .second, .val (.long p3), .second, .val (.long p4), .second, .val (.int p5), .val (.ref ad1), .val (.ref ad15), .unset, .unset, .unset, .unset, .unset, .unset] [(.int (0 : Int32)), (.ref ad15)])) (fun t k => XS.iconst X15.here hx rfl (hb hby at_19) k) ?_
  refine own_step (T' := T15) (g' := (mkF m 22 #[.val (.long p0), .second, .val (.int p1), .val (.long p2), .second, .val (.long p3), .second, .val (.long p4), .second, .val (.int p5), .val (.ref ad1), .val (.ref ad15), .unset, .unset, .unset, .unset, .unset, .unset] [(.int p5), (.int (0 : Int32)), (.ref ad15)])) (fun t k => XS.iload X15.here hx rfl (hb hby at_20) rfl k) ?_
  refine own_step (T' := T15) (g' := (mkF m 25 #[.val (.long p0), .second, .val (.int p1), .val (.long p2), .second, .val (.long p3), .second, .val (.long p4), .second, .val (.int p5), .val (.ref ad1), .val (.ref ad15), .unset, .unset, .unset, .unset, .unset, .unset] [(.int (255 : Int32)), (.int p5), (.int (0 : Int32)), (.ref ad15)])) (fun t k => XS.sipush X15.here hx rfl (hb hby at_22) k) ?_
  refine own_step (T' := T15) (g' := (mkF m 26 #[.val (.long p0), .second, .val (.int p1), .val (.long p2), .second, .val (.long p3), .second, .val (.long p4), .second, .val (.int p5), .val (.ref ad1), .val (.ref ad15), .unset, .unset, .unset, .unset, .unset, .unset] [(.int (p5 &&& (255 : Int32))), (.int (0 : Int32)), (.ref ad15)])) (fun t k => XS.iand X15.here hx rfl (hb hby at_25) rfl k) ?_
  refine own_step (T' := T15) (g' := (mkF m 27 #[.val (.long p0), .second, .val (.int p1), .val (.long p2), .second, .val (.long p3), .second, .val (.long p4), .second, .val (.int p5), .val (.ref ad1), .val (.ref ad15), .unset, .unset, .unset, .unset, .unset, .unset] [(.int ((p5 &&& (255 : Int32)).toUInt32.toUInt16.toUInt32.toInt32)), (.int (0 : Int32)), (.ref ad15)])) (fun t k => XS.i2c X15.here hx rfl (hb hby at_26) rfl k) ?_
  obtain ⟨cl22, Ar22, qa22, S22, M22, H22, U22⟩ := id V15
  obtain ⟨T22, h22, X22, e22, W22, st22⟩ := stC X15 hx hZ e15 Ar22 (j := (0 : Int32)) (inb_of S22 ⟨by decide, by decide⟩) (g := (mkF m 27 #[.val (.long p0), .second, .val (.int p1), .val (.long p2), .second, .val (.long p3), .second, .val (.long p4), .second, .val (.int p5), .val (.ref ad1), .val (.ref ad15), .unset, .unset, .unset, .unset, .unset, .unset] [(.int ((p5 &&& (255 : Int32)).toUInt32.toUInt16.toUInt32.toInt32)), (.int (0 : Int32)), (.ref ad15)])) rfl rfl (hb hby at_27)
  have g23 : Exa Z h22 ad1 "com/example/pollster/pollster/QueuePops$Popped" := g16.wr W22
  have g24 : Fld Z h22 ad1 "com/example/pollster/pollster/QueuePops$Popped" "serial" "J" (.long p0) := g17.other W22 (Or.inl ne15_1)
  have g25 : Fld Z h22 ad1 "com/example/pollster/pollster/QueuePops$Popped" "reconsumeTimes" "I" (.int p1) := g18.other W22 (Or.inl ne15_1)
  have g26 : Fld Z h22 ad1 "com/example/pollster/pollster/QueuePops$Popped" "invisibleUntil" "J" (.long p2) := g19.other W22 (Or.inl ne15_1)
  have g27 : Fld Z h22 ad1 "com/example/pollster/pollster/QueuePops$Popped" "deadLetterMsgId" "Ljava/lang/String;" .null := g20.other W22 (Or.inl ne15_1)
  have g28 : Fld Z h22 ad1 "com/example/pollster/pollster/QueuePops$Popped" "deadLetterFrom" "J" (.long (0 : Int64)) := g21.other W22 (Or.inl ne15_1)
  have g29 : Arv Z h22 ad15 k15 .char (1 : Int32) [(.int (nar .char ((p5 &&& (255 : Int32)).toUInt32.toUInt16.toUInt32.toInt32)))] (.int (0 : Int32)) := Arv.set Ar22 qa22 S22 M22 H22 U22 (fits_nar_char _) W22 0 rfl (Nat.le_of_ble_eq_true rfl)
  have N22 := Fr.snoc X22 N14 o15
  have Z22 : n0 ≤ h22.size := (Nat.le_trans Z15 (Nat.le_of_eq W22.size.symm))
  have O22 : Old Z n0 h22 := O15.wr W22 o15
  refine own_step (T' := T22) (g' := (mkF m 28 #[.val (.long p0), .second, .val (.int p1), .val (.long p2), .second, .val (.long p3), .second, .val (.long p4), .second, .val (.int p5), .val (.ref ad1), .val (.ref ad15), .unset, .unset, .unset, .unset, .unset, .unset] [])) st22 ?_
  refine own_step (T' := T22) (g' := (mkF m 30 #[.val (.long p0), .second, .val (.int p1), .val (.long p2), .second, .val (.long p3), .second, .val (.long p4), .second, .val (.int p5), .val (.ref ad1), .val (.ref ad15), .unset, .unset, .unset, .unset, .unset, .unset] [(.ref ad1)])) (fun t k => XS.aload X22.here hx rfl (hb hby at_28) rfl rfl k) ?_
  obtain ⟨T30, h30, X30, e30, E30, A30, D30, -, st30⟩ := newO X22 hx hZ hown (hw _ (List.mem_of_getElem? (i := 23) rfl)) (hw _ (List.mem_of_getElem? (i := 24) rfl)) (hw _ (List.mem_of_getElem? (i := 25) rfl)) e22 (g := (mkF m 30 #[.val (.long p0), .second, .val (.int p1), .val (.long p2), .second, .val (.long p3), .second, .val (.long p4), .second, .val (.int p5), .val (.ref ad1), .val (.ref ad15), .unset, .unset, .unset, .unset, .unset, .unset] [(.ref ad1)])) rfl (hb hby at_30) (by decide : 2 + 1 ≤ _) (by decide : 7 + 4 ≤ _)
  obtain ⟨ad30, g_ad30⟩ : ∃ z, z = h22.size := ⟨_, rfl⟩
  rw [← g_ad30] at A30 D30 st30
  have g31 : Exa Z h30 ad1 "com/example/pollster/pollster/QueuePops$Popped" := g23.ext E30
  have g32 : Fld Z h30 ad1 "com/example/pollster/pollster/QueuePops$Popped" "serial" "J" (.long p0) := g24.ext E30
  have g33 : Fld Z h30 ad1 "com/example/pollster/pollster/QueuePops$Popped" "reconsumeTimes" "I" (.int p1) := g25.ext E30
  have g34 : Fld Z h30 ad1 "com/example/pollster/pollster/QueuePops$Popped" "invisibleUntil" "J" (.long p2) := g26.ext E30
  have g35 : Fld Z h30 ad1 "com/example/pollster/pollster/QueuePops$Popped" "deadLetterMsgId" "Ljava/lang/String;" .null := g27.ext E30
  have g36 : Fld Z h30 ad1 "com/example/pollster/pollster/QueuePops$Popped" "deadLetterFrom" "J" (.long (0 : Int64)) := g28.ext E30
  have g37 : Arv Z h30 ad15 k15 .char (1 : Int32) [(.int (nar .char ((p5 &&& (255 : Int32)).toUInt32.toUInt16.toUInt32.toInt32)))] (.int (0 : Int32)) := g29.ext E30
  have ne30_1 : ad1 ≠ ad30 := Nat.ne_of_lt (by rw [g_ad30]; exact g23.lt)
  have ne30_2 : ad15 ≠ ad30 := Nat.ne_of_lt (by rw [g_ad30]; exact g29.lt)
  have o30 : n0 ≤ ad30 := (Nat.le_trans Z22 (Nat.le_of_eq g_ad30.symm))
  have Z30 : n0 ≤ h30.size := (Nat.le_trans Z22 E30.1)
  have O30 : Old Z n0 h30 := O22.ext E30
  have g38 : Fld Z h30 ad30 "java/lang/String" "coder" "B" (.int (0 : Int32)) := D30 (Or.inr (hw _ (List.mem_of_getElem? (i := 47) rfl))) (ty := .byte) (by decide)
  have g39 : Fld Z h30 ad30 "java/lang/String" "value" "[B" .null := D30 (Or.inr (hw _ (List.mem_of_getElem? (i := 49) rfl))) (ty := .array .byte) (by decide)
  refine own_step (T' := T30) (g' := (mkF m 33 #[.val (.long p0), .second, .val (.int p1), .val (.long p2), .second, .val (.long p3), .second, .val (.long p4), .second, .val (.int p5), .val (.ref ad1), .val (.ref ad15), .unset, .unset, .unset, .unset, .unset, .unset] [(.ref ad30), (.ref ad1)])) st30 ?_
  refine own_step (T' := T30) (g' := (mkF m 34 #[.val (.long p0), .second, .val (.int p1), .val (.long p2), .second, .val (.long p3), .second, .val (.long p4), .second, .val (.int p5), .val (.ref ad1), .val (.ref ad15), .unset, .unset, .unset, .unset, .unset, .unset] [(.ref ad30), (.ref ad30), (.ref ad1)])) (fun t k => XS.dup X30.here hx rfl (hb hby at_33) rfl rfl k) ?_
  refine own_step (T' := T30) (g' := (mkF m 36 #[.val (.long p0), .second, .val (.int p1), .val (.long p2), .second, .val (.long p3), .second, .val (.long p4), .second, .val (.int p5), .val (.ref ad1), .val (.ref ad15), .unset, .unset, .unset, .unset, .unset, .unset] [(.ref ad15), (.ref ad30), (.ref ad30), (.ref ad1)])) (fun t k => XS.aload X30.here hx rfl (hb hby at_34) rfl rfl k) ?_
  obtain ⟨_, _, ⟨T42, L42, k42, n42⟩, -, X42, ⟨Lc42, hQ42, lq42, yq42, zq42⟩, st42⟩ := X30.specialBack hx (y := (⟨"java/lang/String", "<init>", "([C)V"⟩ : MethodName)) rfl hown (mvT hZ (hw _ (List.mem_of_getElem? (i := 26) rfl))) (mvT hZ (hw _ (List.mem_of_getElem? (i := 27) rfl))) (mvT hZ (hw _ (List.mem_of_getElem? (i := 28) rfl))) (by decide) (backOf (W := 2) (rm_s1 l Z a0 hw [] ad30 ad15 (nar .char ((p5 &&& (255 : Int32)).toUInt32.toUInt16.toUInt32.toInt32)) k15 ic _ _ h30 n0 Z30 g37 hy O30 S_c hic A30 g39 g38 o30 (Ne.symm ne30_2)) hZ (hw _ (List.mem_of_getElem? (i := 28) rfl)) (hw _ (List.mem_of_getElem? (i := 25) rfl)) (by decide) (by decide)) (g := (mkF m 36 #[.val (.long p0), .second, .val (.int p1), .val (.long p2), .second, .val (.long p3), .second, .val (.long p4), .second, .val (.int p5), .val (.ref ad1), .val (.ref ad15), .unset, .unset, .unset, .unset, .unset, .unset] [(.ref ad15), (.ref ad30), (.ref ad30), (.ref ad1)])) rfl (by rw [hml]; rfl) (Steps.refl _) (a := ad30) (argsL := [(.ref ad15)]) (rest := [(.ref ad30), (.ref ad1)]) (lenOf pd_6 rfl) rfl (by show 2 * 0 + _ ≤ _; exact Nat.le_of_eq rfl) (hb hby at_36) (fun _ _ => ⟨rfl, e30, (by decide : 3 + 1 ≤ _), (by decide : 11 + 1 ≤ _)⟩)
  dsimp only [Pt.U, Pt.locs, Pt.cells, Pt.slots] at X42 lq42 yq42 zq42 st42 hQ42
  subst lq42 yq42 zq42
  obtain ⟨rfl, Nq42, K40, g41⟩ := hQ42
  have N42 := Fr.app N22 Nq42
  have g43 : Exa Z T42.heap ad1 "com/example/pollster/pollster/QueuePops$Popped" := g31.keep K40
  have g44 : Fld Z T42.heap ad1 "com/example/pollster/pollster/QueuePops$Popped" "serial" "J" (.long p0) := g32.keep K40 (ninS ne30_1 nin0)
  have g45 : Fld Z T42.heap ad1 "com/example/pollster/pollster/QueuePops$Popped" "reconsumeTimes" "I" (.int p1) := g33.keep K40 (ninS ne30_1 nin0)
  have g46 : Fld Z T42.heap ad1 "com/example/pollster/pollster/QueuePops$Popped" "invisibleUntil" "J" (.long p2) := g34.keep K40 (ninS ne30_1 nin0)
  have g47 : Fld Z T42.heap ad1 "com/example/pollster/pollster/QueuePops$Popped" "deadLetterMsgId" "Ljava/lang/String;" .null := g35.keep K40 (ninS ne30_1 nin0)
  have g48 : Fld Z T42.heap ad1 "com/example/pollster/pollster/QueuePops$Popped" "deadLetterFrom" "J" (.long (0 : Int64)) := g36.keep K40 (ninS ne30_1 nin0)
  have g49 : Arv Z T42.heap ad15 k15 .char (1 : Int32) [(.int (nar .char ((p5 &&& (255 : Int32)).toUInt32.toUInt16.toUInt32.toInt32)))] (.int (0 : Int32)) := g37.keep K40 (ninS ne30_2 nin0)
  have Z40 : n0 ≤ T42.heap.size := (Nat.le_trans Z30 K40.1)
  have O40 : Old Z n0 T42.heap := O30.keep K40 (allS (P := fun x => n0 ≤ x) o30 all0)
  refine own_tr (T' := T42) (g' := (mkF m 39 #[.val (.long p0), .second, .val (.int p1), .val (.long p2), .second, .val (.long p3), .second, .val (.long p4), .second, .val (.int p5), .val (.ref ad1), .val (.ref ad15), .unset, .unset, .unset, .unset, .unset, .unset] [(.ref ad30), (.ref ad1)])) st42 ?_
  refine own_step (T' := T42) (g' := (mkF m 41 #[.val (.long p0), .second, .val (.int p1), .val (.long p2), .second, .val (.long p3), .second, .val (.long p4), .second, .val (.int p5), .val (.ref ad1), .val (.ref ad15), .unset, .unset, .unset, .unset, .unset, .unset] [(.long p4), (.ref ad30), (.ref ad1)])) (fun t k => XS.lload X42.here hx rfl (hb hby at_39) rfl k) ?_
  obtain ⟨cq55, kq55, q55a, q55b, q55c⟩ := isOf hZ rfl g43
  obtain ⟨_, _, ⟨T54, L54, k54, n54⟩, -, X54, ⟨Lc54, hQ54, lq54, yq54, zq54⟩, st54⟩ := X42.virtualBack hx (y := (⟨"com/example/pollster/pollster/QueuePops$Popped", "givenUp", "(Ljava/lang/String;J)Lcom/example/pollster/pollster/QueuePops$Popped;"⟩ : MethodName)) (z := (⟨"com/example/pollster/pollster/QueuePops$Popped", "givenUp", "(Ljava/lang/String;J)Lcom/example/pollster/pollster/QueuePops$Popped;"⟩ : MethodName)) hown (mvT hZ (hw _ (List.mem_of_getElem? (i := 50) rfl))) (mvT hZ (hw _ (List.mem_of_getElem? (i := 51) rfl))) (notFace_of_selects (args := #[]) (mvT hZ (hw _ (List.mem_of_getElem? (i := 53) rfl)))) (mvT hZ (hw _ (List.mem_of_getElem? (i := 53) rfl))) (mvT hZ (hw _ (List.mem_of_getElem? (i := 52) rfl))) (by decide) (backOf (W := 0) (rm_gu l Z a0 hw [] ad1 ad30 p4 p0 p1 p2 T42.heap n0 Z40 g44 g45 g46) hZ (hw _ (List.mem_of_getElem? (i := 54) rfl)) (hw _ (List.mem_of_getElem? (i := 2) rfl)) (by decide) (by decide)) q55a q55c (g := (mkF m 41 #[.val (.long p0), .second, .val (.int p1), .val (.long p2), .second, .val (.long p3), .second, .val (.long p4), .second, .val (.int p5), .val (.ref ad1), .val (.ref ad15), .unset, .unset, .unset, .unset, .unset, .unset] [(.long p4), (.ref ad30), (.ref ad1)])) rfl (by rw [hml]; rfl) (Steps.refl _) (argsL := [(.ref ad30), (.long p4)]) (rest := []) (lenOf pd_7 rfl) rfl (by show 2 * 0 + _ ≤ _; exact Nat.le_of_eq rfl) (hb hby at_41) (fun _ _ => ⟨rfl, rfl, (by decide : 4 + 1 ≤ _), (by decide : 12 + 6 ≤ _)⟩)
  dsimp only [Pt.U, Pt.locs, Pt.cells, Pt.slots] at X54 lq54 yq54 zq54 st54 hQ54
  subst lq54 yq54 zq54
  obtain ⟨a50b, rfl, Nq54, K51, fz_a50b, g52, g53⟩ := hQ54
  have N54 := Fr.app N42 Nq54
  have oz_a50b : n0 ≤ a50b := Nat.le_trans Z40 fz_a50b
  have nz_ad1_a50b : ad1 ≠ a50b := Nat.ne_of_lt (Nat.lt_of_lt_of_le g43.lt fz_a50b)
  have nz_ad15_a50b : ad15 ≠ a50b := Nat.ne_of_lt (Nat.lt_of_lt_of_le g49.lt fz_a50b)
  have nz_ad30_a50b : ad30 ≠ a50b := Nat.ne_of_lt (Nat.lt_of_lt_of_le g41.lt fz_a50b)
  have g56 : Exa Z T54.heap ad1 "com/example/pollster/pollster/QueuePops$Popped" := g43.keep K51
  have g57 : Fld Z T54.heap ad1 "com/example/pollster/pollster/QueuePops$Popped" "serial" "J" (.long p0) := g44.keep K51 nin0
  have g58 : Fld Z T54.heap ad1 "com/example/pollster/pollster/QueuePops$Popped" "reconsumeTimes" "I" (.int p1) := g45.keep K51 nin0
  have g59 : Fld Z T54.heap ad1 "com/example/pollster/pollster/QueuePops$Popped" "invisibleUntil" "J" (.long p2) := g46.keep K51 nin0
  have g60 : Fld Z T54.heap ad1 "com/example/pollster/pollster/QueuePops$Popped" "deadLetterMsgId" "Ljava/lang/String;" .null := g47.keep K51 nin0
  have g61 : Fld Z T54.heap ad1 "com/example/pollster/pollster/QueuePops$Popped" "deadLetterFrom" "J" (.long (0 : Int64)) := g48.keep K51 nin0
  have g62 : Arv Z T54.heap ad15 k15 .char (1 : Int32) [(.int (nar .char ((p5 &&& (255 : Int32)).toUInt32.toUInt16.toUInt32.toInt32)))] (.int (0 : Int32)) := g49.keep K51 nin0
  have g63 : Exa Z T54.heap ad30 "java/lang/String" := g41.keep K51
  have Z51 : n0 ≤ T54.heap.size := (Nat.le_trans Z40 K51.1)
  have O51 : Old Z n0 T54.heap := O40.keep K51 (all0 (P := fun x => n0 ≤ x))
  refine own_tr (T' := T54) (g' := (mkF m 44 #[.val (.long p0), .second, .val (.int p1), .val (.long p2), .second, .val (.long p3), .second, .val (.long p4), .second, .val (.int p5), .val (.ref ad1), .val (.ref ad15), .unset, .unset, .unset, .unset, .unset, .unset] [(.ref a50b)])) st54 ?_
  refine own_step (T' := T54) (g' := (mkF m 46 #[.val (.long p0), .second, .val (.int p1), .val (.long p2), .second, .val (.long p3), .second, .val (.long p4), .second, .val (.int p5), .val (.ref ad1), .val (.ref ad15), .val (.ref a50b), .unset, .unset, .unset, .unset, .unset] [])) (fun t k => XS.astore X54.here hx rfl (hb hby at_44) rfl rfl (l' := #[.val (.long p0), .second, .val (.int p1), .val (.long p2), .second, .val (.long p3), .second, .val (.long p4), .second, .val (.int p5), .val (.ref ad1), .val (.ref ad15), .val (.ref a50b), .unset, .unset, .unset, .unset, .unset]) rfl k) ?_
  refine own_step (T' := T54) (g' := (mkF m 48 #[.val (.long p0), .second, .val (.int p1), .val (.long p2), .second, .val (.long p3), .second, .val (.long p4), .second, .val (.int p5), .val (.ref ad1), .val (.ref ad15), .val (.ref a50b), .unset, .unset, .unset, .unset, .unset] [(.ref ad1)])) (fun t k => XS.aload X54.here hx rfl (hb hby at_46) rfl rfl k) ?_
  refine own_step (T' := T54) (g' := (mkF m 50 #[.val (.long p0), .second, .val (.int p1), .val (.long p2), .second, .val (.long p3), .second, .val (.long p4), .second, .val (.int p5), .val (.ref ad1), .val (.ref ad15), .val (.ref a50b), .unset, .unset, .unset, .unset, .unset] [(.long p3), (.ref ad1)])) (fun t k => XS.lload X54.here hx rfl (hb hby at_48) rfl k) ?_
  obtain ⟨cq66, kq66, q66a, q66b, q66c⟩ := isOf hZ rfl g56
  obtain ⟨_, _, ⟨T65, L65, k65, n65⟩, -, X65, ⟨Lc65, hQ65, lq65, yq65, zq65⟩, st65⟩ := X54.virtualBack hx (y := (⟨"com/example/pollster/pollster/QueuePops$Popped", "hiddenAt", "(J)Z"⟩ : MethodName)) (z := (⟨"com/example/pollster/pollster/QueuePops$Popped", "hiddenAt", "(J)Z"⟩ : MethodName)) hown (mvT hZ (hw _ (List.mem_of_getElem? (i := 56) rfl))) (mvT hZ (hw _ (List.mem_of_getElem? (i := 57) rfl))) (notFace_of_selects (args := #[]) (mvT hZ (hw _ (List.mem_of_getElem? (i := 59) rfl)))) (mvT hZ (hw _ (List.mem_of_getElem? (i := 59) rfl))) (mvT hZ (hw _ (List.mem_of_getElem? (i := 58) rfl))) (by decide) (backOf (W := 0) (rm_hid l Z a0 hw [] ad1 p3 p2 T54.heap n0 Z51 g59) hZ (hw _ (List.mem_of_getElem? (i := 60) rfl)) (hw _ (List.mem_of_getElem? (i := 2) rfl)) (by decide) (by decide)) q66a q66c (g := (mkF m 50 #[.val (.long p0), .second, .val (.int p1), .val (.long p2), .second, .val (.long p3), .second, .val (.long p4), .second, .val (.int p5), .val (.ref ad1), .val (.ref ad15), .val (.ref a50b), .unset, .unset, .unset, .unset, .unset] [(.long p3), (.ref ad1)])) rfl (by rw [hml]; rfl) (Steps.refl _) (argsL := [(.long p3)]) (rest := []) (lenOf pd_8 rfl) rfl (by show 2 * 0 + _ ≤ _; exact Nat.le_of_eq rfl) (hb hby at_50) (fun _ _ => ⟨rfl, rfl, (by decide : 5 + 0 ≤ _), (by decide : 18 + 0 ≤ _)⟩)
  dsimp only [Pt.U, Pt.locs, Pt.cells, Pt.slots] at X65 lq65 yq65 zq65 st65 hQ65
  subst lq65 yq65 zq65
  obtain ⟨rfl, Nq65, eq64⟩ := hQ65
  have N65 := Fr.app N54 Nq65
  refine own_tr (T' := T65) (g' := (mkF m 53 #[.val (.long p0), .second, .val (.int p1), .val (.long p2), .second, .val (.long p3), .second, .val (.long p4), .second, .val (.int p5), .val (.ref ad1), .val (.ref ad15), .val (.ref a50b), .unset, .unset, .unset, .unset, .unset] [(.int (own_hid p3 p2))])) st65 ?_
  refine own_step (T' := T65) (g' := (mkF m 55 #[.val (.long p0), .second, .val (.int p1), .val (.long p2), .second, .val (.long p3), .second, .val (.long p4), .second, .val (.int p5), .val (.ref ad1), .val (.ref ad15), .val (.ref a50b), .val (.int (own_hid p3 p2)), .unset, .unset, .unset, .unset] [])) (fun t k => XS.istore X65.here hx rfl (hb hby at_53) rfl (l' := #[.val (.long p0), .second, .val (.int p1), .val (.long p2), .second, .val (.long p3), .second, .val (.long p4), .second, .val (.int p5), .val (.ref ad1), .val (.ref ad15), .val (.ref a50b), .val (.int (own_hid p3 p2)), .unset, .unset, .unset, .unset]) rfl k) ?_
  refine own_step (T' := T65) (g' := (mkF m 57 #[.val (.long p0), .second, .val (.int p1), .val (.long p2), .second, .val (.long p3), .second, .val (.long p4), .second, .val (.int p5), .val (.ref ad1), .val (.ref ad15), .val (.ref a50b), .val (.int (own_hid p3 p2)), .unset, .unset, .unset, .unset] [(.int (own_hid p3 p2))])) (fun t k => XS.iload X65.here hx rfl (hb hby at_55) rfl k) ?_
  refine own_step (T' := T65) (g' := (mkF m 59 #[.val (.long p0), .second, .val (.int p1), .val (.long p2), .second, .val (.long p3), .second, .val (.long p4), .second, .val (.int p5), .val (.ref ad1), .val (.ref ad15), .val (.ref a50b), .val (.int (own_hid p3 p2)), .unset, .unset, .unset, .unset] [(.long p3), (.int (own_hid p3 p2))])) (fun t k => XS.lload X65.here hx rfl (hb hby at_57) rfl k) ?_
  refine own_step (T' := T65) (g' := (mkF m 60 #[.val (.long p0), .second, .val (.int p1), .val (.long p2), .second, .val (.long p3), .second, .val (.long p4), .second, .val (.int p5), .val (.ref ad1), .val (.ref ad15), .val (.ref a50b), .val (.int (own_hid p3 p2)), .unset, .unset, .unset, .unset] [(.long p2), (.long p3), (.int (own_hid p3 p2))])) (fun t k => XS.lloadN X65.here hx rfl (hb hby at_59) rfl k) ?_
  refine own_step (T' := T65) (g' := (mkF m 61 #[.val (.long p0), .second, .val (.int p1), .val (.long p2), .second, .val (.long p3), .second, .val (.long p4), .second, .val (.int p5), .val (.ref ad1), .val (.ref ad15), .val (.ref a50b), .val (.int (own_hid p3 p2)), .unset, .unset, .unset, .unset] [(.int (lcmpW p3 p2)), (.int (own_hid p3 p2))])) (fun t k => XS.lcmp X65.here hx rfl (hb hby at_60) rfl k) ?_
  by_cases c61 : p3 < p2
  · refine own_step (T' := T65) (g' := (mkF m 64 #[.val (.long p0), .second, .val (.int p1), .val (.long p2), .second, .val (.long p3), .second, .val (.long p4), .second, .val (.int p5), .val (.ref ad1), .val (.ref ad15), .val (.ref a50b), .val (.int (own_hid p3 p2)), .unset, .unset, .unset, .unset] [(.int (own_hid p3 p2))])) (fun t k => XS.ifNo X65.here hx rfl (hb hby at_61) rfl ((if0 _ _).trans (tlt ((lw_lt _ _).mpr c61)).2.1) k) ?_
    refine own_step (T' := T65) (g' := (mkF m 65 #[.val (.long p0), .second, .val (.int p1), .val (.long p2), .second, .val (.long p3), .second, .val (.long p4), .second, .val (.int p5), .val (.ref ad1), .val (.ref ad15), .val (.ref a50b), .val (.int (own_hid p3 p2)), .unset, .unset, .unset, .unset] [(.int (1 : Int32)), (.int (own_hid p3 p2))])) (fun t k => XS.iconst X65.here hx rfl (hb hby at_64) k) ?_
    refine own_step (T' := T65) (g' := (mkF m 69 #[.val (.long p0), .second, .val (.int p1), .val (.long p2), .second, .val (.long p3), .second, .val (.long p4), .second, .val (.int p5), .val (.ref ad1), .val (.ref ad15), .val (.ref a50b), .val (.int (own_hid p3 p2)), .unset, .unset, .unset, .unset] [(.int (1 : Int32)), (.int (own_hid p3 p2))])) (fun t k => XS.goto X65.here hx rfl (pc0 := 65) (pc' := 69) rfl (hb hby at_65) (by decide) (by decide) k) ?_
    refine own_step (T' := T65) (g' := (mkF m 74 #[.val (.long p0), .second, .val (.int p1), .val (.long p2), .second, .val (.long p3), .second, .val (.long p4), .second, .val (.int p5), .val (.ref ad1), .val (.ref ad15), .val (.ref a50b), .val (.int (own_hid p3 p2)), .unset, .unset, .unset, .unset] [])) (fun t k => XS.icmpYes X65.here hx rfl (pc0 := 69) (pc' := 74) rfl (hb hby at_69) rfl (teq (own_h1 c61)).1 (by decide) (by decide) k) ?_
    refine own_step (T' := T65) (g' := (mkF m 76 #[.val (.long p0), .second, .val (.int p1), .val (.long p2), .second, .val (.long p3), .second, .val (.long p4), .second, .val (.int p5), .val (.ref ad1), .val (.ref ad15), .val (.ref a50b), .val (.int (own_hid p3 p2)), .unset, .unset, .unset, .unset] [(.ref ad1)])) (fun t k => XS.aload X65.here hx rfl (hb hby at_74) rfl rfl k) ?_
    refine own_step (T' := T65) (g' := (mkF m 77 #[.val (.long p0), .second, .val (.int p1), .val (.long p2), .second, .val (.long p3), .second, .val (.long p4), .second, .val (.int p5), .val (.ref ad1), .val (.ref ad15), .val (.ref a50b), .val (.int (own_hid p3 p2)), .unset, .unset, .unset, .unset] [(.long p2), (.ref ad1)])) (fun t k => XS.lloadN X65.here hx rfl (hb hby at_76) rfl k) ?_
    obtain ⟨cq69, kq69, q69a, q69b, q69c⟩ := isOf hZ eq64 g56
    obtain ⟨_, _, ⟨T68, L68, k68, n68⟩, -, X68, ⟨Lc68, hQ68, lq68, yq68, zq68⟩, st68⟩ := X65.virtualBack hx (y := (⟨"com/example/pollster/pollster/QueuePops$Popped", "hiddenAt", "(J)Z"⟩ : MethodName)) (z := (⟨"com/example/pollster/pollster/QueuePops$Popped", "hiddenAt", "(J)Z"⟩ : MethodName)) hown (mvT hZ (hw _ (List.mem_of_getElem? (i := 56) rfl))) (mvT hZ (hw _ (List.mem_of_getElem? (i := 57) rfl))) (notFace_of_selects (args := #[]) (mvT hZ (hw _ (List.mem_of_getElem? (i := 59) rfl)))) (mvT hZ (hw _ (List.mem_of_getElem? (i := 59) rfl))) (mvT hZ (hw _ (List.mem_of_getElem? (i := 58) rfl))) (by decide) (backOf (W := 0) (rm_hid l Z a0 hw [] ad1 p2 p2 T54.heap n0 Z51 g59) hZ (hw _ (List.mem_of_getElem? (i := 60) rfl)) (hw _ (List.mem_of_getElem? (i := 2) rfl)) (by decide) (by decide)) q69a q69c (g := (mkF m 77 #[.val (.long p0), .second, .val (.int p1), .val (.long p2), .second, .val (.long p3), .second, .val (.long p4), .second, .val (.int p5), .val (.ref ad1), .val (.ref ad15), .val (.ref a50b), .val (.int (own_hid p3 p2)), .unset, .unset, .unset, .unset] [(.long p2), (.ref ad1)])) rfl (by rw [hml]; rfl) (Steps.refl _) (argsL := [(.long p2)]) (rest := []) (lenOf pd_8 rfl) rfl (by show 2 * 0 + _ ≤ _; exact Nat.le_of_eq rfl) (hb hby at_77) (fun _ _ => ⟨rfl, eq64, (by decide : 5 + 0 ≤ _), (by decide : 18 + 0 ≤ _)⟩)
    dsimp only [Pt.U, Pt.locs, Pt.cells, Pt.slots] at X68 lq68 yq68 zq68 st68 hQ68
    subst lq68 yq68 zq68
    obtain ⟨rfl, Nq68, eq67⟩ := hQ68
    have N68 := Fr.app N65 Nq68
    refine own_tr (T' := T68) (g' := (mkF m 80 #[.val (.long p0), .second, .val (.int p1), .val (.long p2), .second, .val (.long p3), .second, .val (.long p4), .second, .val (.int p5), .val (.ref ad1), .val (.ref ad15), .val (.ref a50b), .val (.int (own_hid p3 p2)), .unset, .unset, .unset, .unset] [(.int (own_hid p2 p2))])) st68 ?_
    refine own_step (T' := T68) (g' := (mkF m 85 #[.val (.long p0), .second, .val (.int p1), .val (.long p2), .second, .val (.long p3), .second, .val (.long p4), .second, .val (.int p5), .val (.ref ad1), .val (.ref ad15), .val (.ref a50b), .val (.int (own_hid p3 p2)), .unset, .unset, .unset, .unset] [])) (fun t k => XS.ifYes X68.here hx rfl (pc0 := 80) (pc' := 85) rfl (hb hby at_80) rfl ((if0 _ _).trans (teq (own_h0 (own_irr _))).1) (by decide) (by decide) k) ?_
    refine own_step (T' := T68) (g' := (mkF m 86 #[.val (.long p0), .second, .val (.int p1), .val (.long p2), .second, .val (.long p3), .second, .val (.long p4), .second, .val (.int p5), .val (.ref ad1), .val (.ref ad15), .val (.ref a50b), .val (.int (own_hid p3 p2)), .unset, .unset, .unset, .unset] [(.long p2)])) (fun t k => XS.lloadN X68.here hx rfl (hb hby at_85) rfl k) ?_
    refine own_step (T' := T68) (g' := (mkF m 89 #[.val (.long p0), .second, .val (.int p1), .val (.long p2), .second, .val (.long p3), .second, .val (.long p4), .second, .val (.int p5), .val (.ref ad1), .val (.ref ad15), .val (.ref a50b), .val (.int (own_hid p3 p2)), .unset, .unset, .unset, .unset] [(.long ((-9223372036854775808) : Int64)), (.long p2)])) (X68.ldc2Long hx hown (mvT hZ (hw _ (List.mem_of_getElem? (i := 61) rfl))) (g := (mkF m 86 #[.val (.long p0), .second, .val (.int p1), .val (.long p2), .second, .val (.long p3), .second, .val (.long p4), .second, .val (.int p5), .val (.ref ad1), .val (.ref ad15), .val (.ref a50b), .val (.int (own_hid p3 p2)), .unset, .unset, .unset, .unset] [(.long p2)])) rfl (hb hby at_86)) ?_
    refine own_step (T' := T68) (g' := (mkF m 90 #[.val (.long p0), .second, .val (.int p1), .val (.long p2), .second, .val (.long p3), .second, .val (.long p4), .second, .val (.int p5), .val (.ref ad1), .val (.ref ad15), .val (.ref a50b), .val (.int (own_hid p3 p2)), .unset, .unset, .unset, .unset] [(.int (lcmpW p2 ((-9223372036854775808) : Int64)))])) (fun t k => XS.lcmp X68.here hx rfl (hb hby at_89) rfl k) ?_
    by_cases c90 : p2 = ((-9223372036854775808) : Int64)
    · refine own_step (T' := T68) (g' := (mkF m 106 #[.val (.long p0), .second, .val (.int p1), .val (.long p2), .second, .val (.long p3), .second, .val (.long p4), .second, .val (.int p5), .val (.ref ad1), .val (.ref ad15), .val (.ref a50b), .val (.int (own_hid p3 p2)), .unset, .unset, .unset, .unset] [])) (fun t k => XS.ifYes X68.here hx rfl (pc0 := 90) (pc' := 106) rfl (hb hby at_90) rfl ((if0 _ _).trans (teq ((lw_eq _ _).mpr c90)).1) (by decide) (by decide) k) ?_
      refine own_step (T' := T68) (g' := (mkF m 108 #[.val (.long p0), .second, .val (.int p1), .val (.long p2), .second, .val (.long p3), .second, .val (.long p4), .second, .val (.int p5), .val (.ref ad1), .val (.ref ad15), .val (.ref a50b), .val (.int (own_hid p3 p2)), .unset, .unset, .unset, .unset] [(.long p3)])) (fun t k => XS.lload X68.here hx rfl (hb hby at_106) rfl k) ?_
      refine own_step (T' := T68) (g' := (mkF m 110 #[.val (.long p0), .second, .val (.int p1), .val (.long p2), .second, .val (.long p3), .second, .val (.long p4), .second, .val (.int p5), .val (.ref ad1), .val (.ref ad15), .val (.ref a50b), .val (.int (own_hid p3 p2)), .unset, .unset, .unset, .unset] [(.long p4), (.long p3)])) (fun t k => XS.lload X68.here hx rfl (hb hby at_108) rfl k) ?_
      obtain ⟨_, _, ⟨T71, L71, k71, n71⟩, -, X71, ⟨Lc71, hQ71, lq71, yq71, zq71⟩, st71⟩ := Jvm.LawKit.callS X68 hx (y := (⟨"java/lang/Math", "min", "(JJ)J"⟩ : MethodName)) hown (mvT hZ (hw _ (List.mem_of_getElem? (i := 62) rfl))) (mvT hZ (hw _ (List.mem_of_getElem? (i := 63) rfl))) (mvT hZ (hw _ (List.mem_of_getElem? (i := 64) rfl))) (mvT hZ (hw _ (List.mem_of_getElem? (i := 65) rfl))) (by decide) (backOf (W := 0) (rm_min l Z a0 hw [] p3 p4 T54.heap n0 Z51 ) hZ (hw _ (List.mem_of_getElem? (i := 65) rfl)) (hw _ (List.mem_of_getElem? (i := 64) rfl)) (by decide) (by decide)) (g := (mkF m 110 #[.val (.long p0), .second, .val (.int p1), .val (.long p2), .second, .val (.long p3), .second, .val (.long p4), .second, .val (.int p5), .val (.ref ad1), .val (.ref ad15), .val (.ref a50b), .val (.int (own_hid p3 p2)), .unset, .unset, .unset, .unset] [(.long p4), (.long p3)])) rfl (by rw [hml]; rfl) (argsL := [(.long p3), (.long p4)]) (rest := []) (lenOf pd_9 rfl) rfl (by show 2 * 0 + _ ≤ _; exact Nat.le_of_eq rfl) (hb hby at_110) (fun _ _ => ⟨rfl, eq67, (by decide : 5 + 0 ≤ _), (by decide : 18 + 0 ≤ _)⟩)
      dsimp only [Pt.U, Pt.locs, Pt.cells, Pt.slots] at X71 lq71 yq71 zq71 st71 hQ71
      subst lq71 yq71 zq71
      obtain ⟨rfl, Nq71, eq70⟩ := hQ71
      have N71 := Fr.app N68 Nq71
      refine own_step (T' := T71) (g' := (mkF m 113 #[.val (.long p0), .second, .val (.int p1), .val (.long p2), .second, .val (.long p3), .second, .val (.long p4), .second, .val (.int p5), .val (.ref ad1), .val (.ref ad15), .val (.ref a50b), .val (.int (own_hid p3 p2)), .unset, .unset, .unset, .unset] [(.long (own_min p3 p4))])) st71 ?_
      refine own_step (T' := T71) (g' := (mkF m 115 #[.val (.long p0), .second, .val (.int p1), .val (.long p2), .second, .val (.long p3), .second, .val (.long p4), .second, .val (.int p5), .val (.ref ad1), .val (.ref ad15), .val (.ref a50b), .val (.int (own_hid p3 p2)), .val (.long (own_min p3 p4)), .second, .unset, .unset] [])) (fun t k => XS.lstore X71.here hx rfl (hb hby at_113) rfl (l' := #[.val (.long p0), .second, .val (.int p1), .val (.long p2), .second, .val (.long p3), .second, .val (.long p4), .second, .val (.int p5), .val (.ref ad1), .val (.ref ad15), .val (.ref a50b), .val (.int (own_hid p3 p2)), .val (.long (own_min p3 p4)), .second, .unset, .unset]) rfl k) ?_
      refine own_step (T' := T71) (g' := (mkF m 117 #[.val (.long p0), .second, .val (.int p1), .val (.long p2), .second, .val (.long p3), .second, .val (.long p4), .second, .val (.int p5), .val (.ref ad1), .val (.ref ad15), .val (.ref a50b), .val (.int (own_hid p3 p2)), .val (.long (own_min p3 p4)), .second, .unset, .unset] [(.long p3)])) (fun t k => XS.lload X71.here hx rfl (hb hby at_115) rfl k) ?_
      refine own_step (T' := T71) (g' := (mkF m 119 #[.val (.long p0), .second, .val (.int p1), .val (.long p2), .second, .val (.long p3), .second, .val (.long p4), .second, .val (.int p5), .val (.ref ad1), .val (.ref ad15), .val (.ref a50b), .val (.int (own_hid p3 p2)), .val (.long (own_min p3 p4)), .second, .unset, .unset] [(.long p4), (.long p3)])) (fun t k => XS.lload X71.here hx rfl (hb hby at_117) rfl k) ?_
      obtain ⟨_, _, ⟨T73, L73, k73, n73⟩, -, X73, ⟨Lc73, hQ73, lq73, yq73, zq73⟩, st73⟩ := Jvm.LawKit.callS X71 hx (y := (⟨"java/lang/Math", "max", "(JJ)J"⟩ : MethodName)) hown (mvT hZ (hw _ (List.mem_of_getElem? (i := 66) rfl))) (mvT hZ (hw _ (List.mem_of_getElem? (i := 67) rfl))) (mvT hZ (hw _ (List.mem_of_getElem? (i := 64) rfl))) (mvT hZ (hw _ (List.mem_of_getElem? (i := 68) rfl))) (by decide) (backOf (W := 0) (rm_max l Z a0 hw [] p3 p4 T54.heap n0 Z51 ) hZ (hw _ (List.mem_of_getElem? (i := 68) rfl)) (hw _ (List.mem_of_getElem? (i := 64) rfl)) (by decide) (by decide)) (g := (mkF m 119 #[.val (.long p0), .second, .val (.int p1), .val (.long p2), .second, .val (.long p3), .second, .val (.long p4), .second, .val (.int p5), .val (.ref ad1), .val (.ref ad15), .val (.ref a50b), .val (.int (own_hid p3 p2)), .val (.long (own_min p3 p4)), .second, .unset, .unset] [(.long p4), (.long p3)])) rfl (by rw [hml]; rfl) (argsL := [(.long p3), (.long p4)]) (rest := []) (lenOf pd_9 rfl) rfl (by show 2 * 0 + _ ≤ _; exact Nat.le_of_eq rfl) (hb hby at_119) (fun _ _ => ⟨rfl, eq70, (by decide : 5 + 0 ≤ _), (by decide : 18 + 0 ≤ _)⟩)
      dsimp only [Pt.U, Pt.locs, Pt.cells, Pt.slots] at X73 lq73 yq73 zq73 st73 hQ73
      subst lq73 yq73 zq73
      obtain ⟨rfl, Nq73, eq72⟩ := hQ73
      have N73 := Fr.app N71 Nq73
      refine own_step (T' := T73) (g' := (mkF m 122 #[.val (.long p0), .second, .val (.int p1), .val (.long p2), .second, .val (.long p3), .second, .val (.long p4), .second, .val (.int p5), .val (.ref ad1), .val (.ref ad15), .val (.ref a50b), .val (.int (own_hid p3 p2)), .val (.long (own_min p3 p4)), .second, .unset, .unset] [(.long (own_max p3 p4))])) st73 ?_
      refine own_step (T' := T73) (g' := (mkF m 124 #[.val (.long p0), .second, .val (.int p1), .val (.long p2), .second, .val (.long p3), .second, .val (.long p4), .second, .val (.int p5), .val (.ref ad1), .val (.ref ad15), .val (.ref a50b), .val (.int (own_hid p3 p2)), .val (.long (own_min p3 p4)), .second, .val (.long (own_max p3 p4)), .second] [])) (fun t k => XS.lstore X73.here hx rfl (hb hby at_122) rfl (l' := #[.val (.long p0), .second, .val (.int p1), .val (.long p2), .second, .val (.long p3), .second, .val (.long p4), .second, .val (.int p5), .val (.ref ad1), .val (.ref ad15), .val (.ref a50b), .val (.int (own_hid p3 p2)), .val (.long (own_min p3 p4)), .second, .val (.long (own_max p3 p4)), .second]) rfl k) ?_
      refine own_step (T' := T73) (g' := (mkF m 126 #[.val (.long p0), .second, .val (.int p1), .val (.long p2), .second, .val (.long p3), .second, .val (.long p4), .second, .val (.int p5), .val (.ref ad1), .val (.ref ad15), .val (.ref a50b), .val (.int (own_hid p3 p2)), .val (.long (own_min p3 p4)), .second, .val (.long (own_max p3 p4)), .second] [(.ref ad1)])) (fun t k => XS.aload X73.here hx rfl (hb hby at_124) rfl rfl k) ?_
      refine own_step (T' := T73) (g' := (mkF m 128 #[.val (.long p0), .second, .val (.int p1), .val (.long p2), .second, .val (.long p3), .second, .val (.long p4), .second, .val (.int p5), .val (.ref ad1), .val (.ref ad15), .val (.ref a50b), .val (.int (own_hid p3 p2)), .val (.long (own_min p3 p4)), .second, .val (.long (own_max p3 p4)), .second] [(.long (own_max p3 p4)), (.ref ad1)])) (fun t k => XS.lload X73.here hx rfl (hb hby at_126) rfl k) ?_
      obtain ⟨cq76, kq76, q76a, q76b, q76c⟩ := isOf hZ eq72 g56
      obtain ⟨_, _, ⟨T75, L75, k75, n75⟩, -, X75, ⟨Lc75, hQ75, lq75, yq75, zq75⟩, st75⟩ := X73.virtualBack hx (y := (⟨"com/example/pollster/pollster/QueuePops$Popped", "hiddenAt", "(J)Z"⟩ : MethodName)) (z := (⟨"com/example/pollster/pollster/QueuePops$Popped", "hiddenAt", "(J)Z"⟩ : MethodName)) hown (mvT hZ (hw _ (List.mem_of_getElem? (i := 56) rfl))) (mvT hZ (hw _ (List.mem_of_getElem? (i := 57) rfl))) (notFace_of_selects (args := #[]) (mvT hZ (hw _ (List.mem_of_getElem? (i := 59) rfl)))) (mvT hZ (hw _ (List.mem_of_getElem? (i := 59) rfl))) (mvT hZ (hw _ (List.mem_of_getElem? (i := 58) rfl))) (by decide) (backOf (W := 0) (rm_hid l Z a0 hw [] ad1 (own_max p3 p4) p2 T54.heap n0 Z51 g59) hZ (hw _ (List.mem_of_getElem? (i := 60) rfl)) (hw _ (List.mem_of_getElem? (i := 2) rfl)) (by decide) (by decide)) q76a q76c (g := (mkF m 128 #[.val (.long p0), .second, .val (.int p1), .val (.long p2), .second, .val (.long p3), .second, .val (.long p4), .second, .val (.int p5), .val (.ref ad1), .val (.ref ad15), .val (.ref a50b), .val (.int (own_hid p3 p2)), .val (.long (own_min p3 p4)), .second, .val (.long (own_max p3 p4)), .second] [(.long (own_max p3 p4)), (.ref ad1)])) rfl (by rw [hml]; rfl) (Steps.refl _) (argsL := [(.long (own_max p3 p4))]) (rest := []) (lenOf pd_8 rfl) rfl (by show 2 * 0 + _ ≤ _; exact Nat.le_of_eq rfl) (hb hby at_128) (fun _ _ => ⟨rfl, eq72, (by decide : 5 + 0 ≤ _), (by decide : 18 + 0 ≤ _)⟩)
      dsimp only [Pt.U, Pt.locs, Pt.cells, Pt.slots] at X75 lq75 yq75 zq75 st75 hQ75
      subst lq75 yq75 zq75
      obtain ⟨rfl, Nq75, eq74⟩ := hQ75
      have N75 := Fr.app N73 Nq75
      refine own_tr (T' := T75) (g' := (mkF m 131 #[.val (.long p0), .second, .val (.int p1), .val (.long p2), .second, .val (.long p3), .second, .val (.long p4), .second, .val (.int p5), .val (.ref ad1), .val (.ref ad15), .val (.ref a50b), .val (.int (own_hid p3 p2)), .val (.long (own_min p3 p4)), .second, .val (.long (own_max p3 p4)), .second] [(.int (own_hid (own_max p3 p4) p2))])) st75 ?_
      by_cases c131 : (own_hid (own_max p3 p4) p2) = (0 : Int32)
      · refine own_step (T' := T75) (g' := (mkF m 146 #[.val (.long p0), .second, .val (.int p1), .val (.long p2), .second, .val (.long p3), .second, .val (.long p4), .second, .val (.int p5), .val (.ref ad1), .val (.ref ad15), .val (.ref a50b), .val (.int (own_hid p3 p2)), .val (.long (own_min p3 p4)), .second, .val (.long (own_max p3 p4)), .second] [])) (fun t k => XS.ifYes X75.here hx rfl (pc0 := 131) (pc' := 146) rfl (hb hby at_131) rfl ((if0 _ _).trans (teq c131).1) (by decide) (by decide) k) ?_
        refine own_step (T' := T75) (g' := (mkF m 148 #[.val (.long p0), .second, .val (.int p1), .val (.long p2), .second, .val (.long p3), .second, .val (.long p4), .second, .val (.int p5), .val (.ref ad1), .val (.ref ad15), .val (.ref a50b), .val (.int (own_hid p3 p2)), .val (.long (own_min p3 p4)), .second, .val (.long (own_max p3 p4)), .second] [(.ref a50b)])) (fun t k => XS.aload X75.here hx rfl (hb hby at_146) rfl rfl k) ?_
        refine own_step (T' := T75) (g' := (mkF m 150 #[.val (.long p0), .second, .val (.int p1), .val (.long p2), .second, .val (.long p3), .second, .val (.long p4), .second, .val (.int p5), .val (.ref ad1), .val (.ref ad15), .val (.ref a50b), .val (.int (own_hid p3 p2)), .val (.long (own_min p3 p4)), .second, .val (.long (own_max p3 p4)), .second] [(.long p3), (.ref a50b)])) (fun t k => XS.lload X75.here hx rfl (hb hby at_148) rfl k) ?_
        obtain ⟨cq79, kq79, q79a, q79b, q79c⟩ := isOf hZ eq74 g52
        obtain ⟨_, _, ⟨T78, L78, k78, n78⟩, -, X78, ⟨Lc78, hQ78, lq78, yq78, zq78⟩, st78⟩ := X75.virtualBack hx (y := (⟨"com/example/pollster/pollster/QueuePops$Popped", "hiddenAt", "(J)Z"⟩ : MethodName)) (z := (⟨"com/example/pollster/pollster/QueuePops$Popped", "hiddenAt", "(J)Z"⟩ : MethodName)) hown (mvT hZ (hw _ (List.mem_of_getElem? (i := 56) rfl))) (mvT hZ (hw _ (List.mem_of_getElem? (i := 57) rfl))) (notFace_of_selects (args := #[]) (mvT hZ (hw _ (List.mem_of_getElem? (i := 59) rfl)))) (mvT hZ (hw _ (List.mem_of_getElem? (i := 59) rfl))) (mvT hZ (hw _ (List.mem_of_getElem? (i := 58) rfl))) (by decide) (backOf (W := 0) (rm_hid l Z a0 hw [] a50b p3 p2 T54.heap n0 Z51 g53) hZ (hw _ (List.mem_of_getElem? (i := 60) rfl)) (hw _ (List.mem_of_getElem? (i := 2) rfl)) (by decide) (by decide)) q79a q79c (g := (mkF m 150 #[.val (.long p0), .second, .val (.int p1), .val (.long p2), .second, .val (.long p3), .second, .val (.long p4), .second, .val (.int p5), .val (.ref ad1), .val (.ref ad15), .val (.ref a50b), .val (.int (own_hid p3 p2)), .val (.long (own_min p3 p4)), .second, .val (.long (own_max p3 p4)), .second] [(.long p3), (.ref a50b)])) rfl (by rw [hml]; rfl) (Steps.refl _) (argsL := [(.long p3)]) (rest := []) (lenOf pd_8 rfl) rfl (by show 2 * 0 + _ ≤ _; exact Nat.le_of_eq rfl) (hb hby at_150) (fun _ _ => ⟨rfl, eq74, (by decide : 5 + 0 ≤ _), (by decide : 18 + 0 ≤ _)⟩)
        dsimp only [Pt.U, Pt.locs, Pt.cells, Pt.slots] at X78 lq78 yq78 zq78 st78 hQ78
        subst lq78 yq78 zq78
        obtain ⟨rfl, Nq78, eq77⟩ := hQ78
        have N78 := Fr.app N75 Nq78
        refine own_tr (T' := T78) (g' := (mkF m 153 #[.val (.long p0), .second, .val (.int p1), .val (.long p2), .second, .val (.long p3), .second, .val (.long p4), .second, .val (.int p5), .val (.ref ad1), .val (.ref ad15), .val (.ref a50b), .val (.int (own_hid p3 p2)), .val (.long (own_min p3 p4)), .second, .val (.long (own_max p3 p4)), .second] [(.int (own_hid p3 p2))])) st78 ?_
        refine own_step (T' := T78) (g' := (mkF m 155 #[.val (.long p0), .second, .val (.int p1), .val (.long p2), .second, .val (.long p3), .second, .val (.long p4), .second, .val (.int p5), .val (.ref ad1), .val (.ref ad15), .val (.ref a50b), .val (.int (own_hid p3 p2)), .val (.long (own_min p3 p4)), .second, .val (.long (own_max p3 p4)), .second] [(.int (own_hid p3 p2)), (.int (own_hid p3 p2))])) (fun t k => XS.iload X78.here hx rfl (hb hby at_153) rfl k) ?_
        refine own_step (T' := T78) (g' := (mkF m 160 #[.val (.long p0), .second, .val (.int p1), .val (.long p2), .second, .val (.long p3), .second, .val (.long p4), .second, .val (.int p5), .val (.ref ad1), .val (.ref ad15), .val (.ref a50b), .val (.int (own_hid p3 p2)), .val (.long (own_min p3 p4)), .second, .val (.long (own_max p3 p4)), .second] [])) (fun t k => XS.icmpYes X78.here hx rfl (pc0 := 155) (pc' := 160) rfl (hb hby at_155) rfl (teq rfl).1 (by decide) (by decide) k) ?_
        refine own_step (T' := T78) (g' := (mkF m 162 #[.val (.long p0), .second, .val (.int p1), .val (.long p2), .second, .val (.long p3), .second, .val (.long p4), .second, .val (.int p5), .val (.ref ad1), .val (.ref ad15), .val (.ref a50b), .val (.int (own_hid p3 p2)), .val (.long (own_min p3 p4)), .second, .val (.long (own_max p3 p4)), .second] [(.ref ad1)])) (fun t k => XS.aload X78.here hx rfl (hb hby at_160) rfl rfl k) ?_
        obtain ⟨cq82, kq82, q82a, q82b, q82c⟩ := isOf hZ eq77 g56
        obtain ⟨_, _, ⟨T81, L81, k81, n81⟩, -, X81, ⟨Lc81, hQ81, lq81, yq81, zq81⟩, st81⟩ := X78.virtualBack hx (y := (⟨"com/example/pollster/pollster/QueuePops$Popped", "invisibleUntil", "()J"⟩ : MethodName)) (z := (⟨"com/example/pollster/pollster/QueuePops$Popped", "invisibleUntil", "()J"⟩ : MethodName)) hown (mvT hZ (hw _ (List.mem_of_getElem? (i := 69) rfl))) (mvT hZ (hw _ (List.mem_of_getElem? (i := 70) rfl))) (notFace_of_selects (args := #[]) (mvT hZ (hw _ (List.mem_of_getElem? (i := 72) rfl)))) (mvT hZ (hw _ (List.mem_of_getElem? (i := 72) rfl))) (mvT hZ (hw _ (List.mem_of_getElem? (i := 71) rfl))) (by decide) (backOf (W := 0) (rm_inv l Z a0 hw [] ad1 p2 T54.heap n0 Z51 g59) hZ (hw _ (List.mem_of_getElem? (i := 73) rfl)) (hw _ (List.mem_of_getElem? (i := 2) rfl)) (by decide) (by decide)) q82a q82c (g := (mkF m 162 #[.val (.long p0), .second, .val (.int p1), .val (.long p2), .second, .val (.long p3), .second, .val (.long p4), .second, .val (.int p5), .val (.ref ad1), .val (.ref ad15), .val (.ref a50b), .val (.int (own_hid p3 p2)), .val (.long (own_min p3 p4)), .second, .val (.long (own_max p3 p4)), .second] [(.ref ad1)])) rfl (by rw [hml]; rfl) (Steps.refl _) (argsL := []) (rest := []) (lenOf pd_10 rfl) rfl (by show 2 * 0 + _ ≤ _; exact Nat.le_of_eq rfl) (hb hby at_162) (fun _ _ => ⟨rfl, eq77, (by decide : 5 + 0 ≤ _), (by decide : 18 + 0 ≤ _)⟩)
        dsimp only [Pt.U, Pt.locs, Pt.cells, Pt.slots] at X81 lq81 yq81 zq81 st81 hQ81
        subst lq81 yq81 zq81
        obtain ⟨rfl, Nq81, eq80⟩ := hQ81
        have N81 := Fr.app N78 Nq81
        refine own_tr (T' := T81) (g' := (mkF m 165 #[.val (.long p0), .second, .val (.int p1), .val (.long p2), .second, .val (.long p3), .second, .val (.long p4), .second, .val (.int p5), .val (.ref ad1), .val (.ref ad15), .val (.ref a50b), .val (.int (own_hid p3 p2)), .val (.long (own_min p3 p4)), .second, .val (.long (own_max p3 p4)), .second] [(.long p2)])) st81 ?_
        refine own_step (T' := T81) (g' := (mkF m 166 #[.val (.long p0), .second, .val (.int p1), .val (.long p2), .second, .val (.long p3), .second, .val (.long p4), .second, .val (.int p5), .val (.ref ad1), .val (.ref ad15), .val (.ref a50b), .val (.int (own_hid p3 p2)), .val (.long (own_min p3 p4)), .second, .val (.long (own_max p3 p4)), .second] [(.long p2), (.long p2)])) (fun t k => XS.lloadN X81.here hx rfl (hb hby at_165) rfl k) ?_
        refine own_step (T' := T81) (g' := (mkF m 167 #[.val (.long p0), .second, .val (.int p1), .val (.long p2), .second, .val (.long p3), .second, .val (.long p4), .second, .val (.int p5), .val (.ref ad1), .val (.ref ad15), .val (.ref a50b), .val (.int (own_hid p3 p2)), .val (.long (own_min p3 p4)), .second, .val (.long (own_max p3 p4)), .second] [(.int (lcmpW p2 p2))])) (fun t k => XS.lcmp X81.here hx rfl (hb hby at_166) rfl k) ?_
        refine own_step (T' := T81) (g' := (mkF m 170 #[.val (.long p0), .second, .val (.int p1), .val (.long p2), .second, .val (.long p3), .second, .val (.long p4), .second, .val (.int p5), .val (.ref ad1), .val (.ref ad15), .val (.ref a50b), .val (.int (own_hid p3 p2)), .val (.long (own_min p3 p4)), .second, .val (.long (own_max p3 p4)), .second] [])) (fun t k => XS.ifNo X81.here hx rfl (hb hby at_167) rfl ((if0 _ _).trans (teq ((lw_eq _ _).mpr rfl)).2) k) ?_
        refine own_step (T' := T81) (g' := (mkF m 171 #[.val (.long p0), .second, .val (.int p1), .val (.long p2), .second, .val (.long p3), .second, .val (.long p4), .second, .val (.int p5), .val (.ref ad1), .val (.ref ad15), .val (.ref a50b), .val (.int (own_hid p3 p2)), .val (.long (own_min p3 p4)), .second, .val (.long (own_max p3 p4)), .second] [(.int (1 : Int32))])) (fun t k => XS.iconst X81.here hx rfl (hb hby at_170) k) ?_
        refine own_step (T' := T81) (g' := (mkF m 175 #[.val (.long p0), .second, .val (.int p1), .val (.long p2), .second, .val (.long p3), .second, .val (.long p4), .second, .val (.int p5), .val (.ref ad1), .val (.ref ad15), .val (.ref a50b), .val (.int (own_hid p3 p2)), .val (.long (own_min p3 p4)), .second, .val (.long (own_max p3 p4)), .second] [(.int (1 : Int32))])) (fun t k => XS.goto X81.here hx rfl (pc0 := 171) (pc' := 175) rfl (hb hby at_171) (by decide) (by decide) k) ?_
        refine own_rN X81 hx hlk Bd.returns (by simp) (hb hby at_175) ?_ (by decide) (by decide)
        rw [eq80]
        exact ⟨rfl, N81⟩
      · refine own_step (T' := T75) (g' := (mkF m 134 #[.val (.long p0), .second, .val (.int p1), .val (.long p2), .second, .val (.long p3), .second, .val (.long p4), .second, .val (.int p5), .val (.ref ad1), .val (.ref ad15), .val (.ref a50b), .val (.int (own_hid p3 p2)), .val (.long (own_min p3 p4)), .second, .val (.long (own_max p3 p4)), .second] [])) (fun t k => XS.ifNo X75.here hx rfl (hb hby at_131) rfl ((if0 _ _).trans (feq c131).1) k) ?_
        refine own_step (T' := T75) (g' := (mkF m 136 #[.val (.long p0), .second, .val (.int p1), .val (.long p2), .second, .val (.long p3), .second, .val (.long p4), .second, .val (.int p5), .val (.ref ad1), .val (.ref ad15), .val (.ref a50b), .val (.int (own_hid p3 p2)), .val (.long (own_min p3 p4)), .second, .val (.long (own_max p3 p4)), .second] [(.ref ad1)])) (fun t k => XS.aload X75.here hx rfl (hb hby at_134) rfl rfl k) ?_
        refine own_step (T' := T75) (g' := (mkF m 138 #[.val (.long p0), .second, .val (.int p1), .val (.long p2), .second, .val (.long p3), .second, .val (.long p4), .second, .val (.int p5), .val (.ref ad1), .val (.ref ad15), .val (.ref a50b), .val (.int (own_hid p3 p2)), .val (.long (own_min p3 p4)), .second, .val (.long (own_max p3 p4)), .second] [(.long (own_min p3 p4)), (.ref ad1)])) (fun t k => XS.lload X75.here hx rfl (hb hby at_136) rfl k) ?_
        obtain ⟨cq85, kq85, q85a, q85b, q85c⟩ := isOf hZ eq74 g56
        obtain ⟨_, _, ⟨T84, L84, k84, n84⟩, -, X84, ⟨Lc84, hQ84, lq84, yq84, zq84⟩, st84⟩ := X75.virtualBack hx (y := (⟨"com/example/pollster/pollster/QueuePops$Popped", "hiddenAt", "(J)Z"⟩ : MethodName)) (z := (⟨"com/example/pollster/pollster/QueuePops$Popped", "hiddenAt", "(J)Z"⟩ : MethodName)) hown (mvT hZ (hw _ (List.mem_of_getElem? (i := 56) rfl))) (mvT hZ (hw _ (List.mem_of_getElem? (i := 57) rfl))) (notFace_of_selects (args := #[]) (mvT hZ (hw _ (List.mem_of_getElem? (i := 59) rfl)))) (mvT hZ (hw _ (List.mem_of_getElem? (i := 59) rfl))) (mvT hZ (hw _ (List.mem_of_getElem? (i := 58) rfl))) (by decide) (backOf (W := 0) (rm_hid l Z a0 hw [] ad1 (own_min p3 p4) p2 T54.heap n0 Z51 g59) hZ (hw _ (List.mem_of_getElem? (i := 60) rfl)) (hw _ (List.mem_of_getElem? (i := 2) rfl)) (by decide) (by decide)) q85a q85c (g := (mkF m 138 #[.val (.long p0), .second, .val (.int p1), .val (.long p2), .second, .val (.long p3), .second, .val (.long p4), .second, .val (.int p5), .val (.ref ad1), .val (.ref ad15), .val (.ref a50b), .val (.int (own_hid p3 p2)), .val (.long (own_min p3 p4)), .second, .val (.long (own_max p3 p4)), .second] [(.long (own_min p3 p4)), (.ref ad1)])) rfl (by rw [hml]; rfl) (Steps.refl _) (argsL := [(.long (own_min p3 p4))]) (rest := []) (lenOf pd_8 rfl) rfl (by show 2 * 0 + _ ≤ _; exact Nat.le_of_eq rfl) (hb hby at_138) (fun _ _ => ⟨rfl, eq74, (by decide : 5 + 0 ≤ _), (by decide : 18 + 0 ≤ _)⟩)
        dsimp only [Pt.U, Pt.locs, Pt.cells, Pt.slots] at X84 lq84 yq84 zq84 st84 hQ84
        subst lq84 yq84 zq84
        obtain ⟨rfl, Nq84, eq83⟩ := hQ84
        have N84 := Fr.app N75 Nq84
        refine own_tr (T' := T84) (g' := (mkF m 141 #[.val (.long p0), .second, .val (.int p1), .val (.long p2), .second, .val (.long p3), .second, .val (.long p4), .second, .val (.int p5), .val (.ref ad1), .val (.ref ad15), .val (.ref a50b), .val (.int (own_hid p3 p2)), .val (.long (own_min p3 p4)), .second, .val (.long (own_max p3 p4)), .second] [(.int (own_hid (own_min p3 p4) p2))])) st84 ?_
        refine own_step (T' := T84) (g' := (mkF m 146 #[.val (.long p0), .second, .val (.int p1), .val (.long p2), .second, .val (.long p3), .second, .val (.long p4), .second, .val (.int p5), .val (.ref ad1), .val (.ref ad15), .val (.ref a50b), .val (.int (own_hid p3 p2)), .val (.long (own_min p3 p4)), .second, .val (.long (own_max p3 p4)), .second] [])) (fun t k => XS.ifYes X84.here hx rfl (pc0 := 141) (pc' := 146) rfl (hb hby at_141) rfl ((if0 _ _).trans (feq (by rw [own_h1 (own_mono (own_hid1 c131))]; decide)).2) (by decide) (by decide) k) ?_
        refine own_step (T' := T84) (g' := (mkF m 148 #[.val (.long p0), .second, .val (.int p1), .val (.long p2), .second, .val (.long p3), .second, .val (.long p4), .second, .val (.int p5), .val (.ref ad1), .val (.ref ad15), .val (.ref a50b), .val (.int (own_hid p3 p2)), .val (.long (own_min p3 p4)), .second, .val (.long (own_max p3 p4)), .second] [(.ref a50b)])) (fun t k => XS.aload X84.here hx rfl (hb hby at_146) rfl rfl k) ?_
        refine own_step (T' := T84) (g' := (mkF m 150 #[.val (.long p0), .second, .val (.int p1), .val (.long p2), .second, .val (.long p3), .second, .val (.long p4), .second, .val (.int p5), .val (.ref ad1), .val (.ref ad15), .val (.ref a50b), .val (.int (own_hid p3 p2)), .val (.long (own_min p3 p4)), .second, .val (.long (own_max p3 p4)), .second] [(.long p3), (.ref a50b)])) (fun t k => XS.lload X84.here hx rfl (hb hby at_148) rfl k) ?_
        obtain ⟨cq88, kq88, q88a, q88b, q88c⟩ := isOf hZ eq83 g52
        obtain ⟨_, _, ⟨T87, L87, k87, n87⟩, -, X87, ⟨Lc87, hQ87, lq87, yq87, zq87⟩, st87⟩ := X84.virtualBack hx (y := (⟨"com/example/pollster/pollster/QueuePops$Popped", "hiddenAt", "(J)Z"⟩ : MethodName)) (z := (⟨"com/example/pollster/pollster/QueuePops$Popped", "hiddenAt", "(J)Z"⟩ : MethodName)) hown (mvT hZ (hw _ (List.mem_of_getElem? (i := 56) rfl))) (mvT hZ (hw _ (List.mem_of_getElem? (i := 57) rfl))) (notFace_of_selects (args := #[]) (mvT hZ (hw _ (List.mem_of_getElem? (i := 59) rfl)))) (mvT hZ (hw _ (List.mem_of_getElem? (i := 59) rfl))) (mvT hZ (hw _ (List.mem_of_getElem? (i := 58) rfl))) (by decide) (backOf (W := 0) (rm_hid l Z a0 hw [] a50b p3 p2 T54.heap n0 Z51 g53) hZ (hw _ (List.mem_of_getElem? (i := 60) rfl)) (hw _ (List.mem_of_getElem? (i := 2) rfl)) (by decide) (by decide)) q88a q88c (g := (mkF m 150 #[.val (.long p0), .second, .val (.int p1), .val (.long p2), .second, .val (.long p3), .second, .val (.long p4), .second, .val (.int p5), .val (.ref ad1), .val (.ref ad15), .val (.ref a50b), .val (.int (own_hid p3 p2)), .val (.long (own_min p3 p4)), .second, .val (.long (own_max p3 p4)), .second] [(.long p3), (.ref a50b)])) rfl (by rw [hml]; rfl) (Steps.refl _) (argsL := [(.long p3)]) (rest := []) (lenOf pd_8 rfl) rfl (by show 2 * 0 + _ ≤ _; exact Nat.le_of_eq rfl) (hb hby at_150) (fun _ _ => ⟨rfl, eq83, (by decide : 5 + 0 ≤ _), (by decide : 18 + 0 ≤ _)⟩)
        dsimp only [Pt.U, Pt.locs, Pt.cells, Pt.slots] at X87 lq87 yq87 zq87 st87 hQ87
        subst lq87 yq87 zq87
        obtain ⟨rfl, Nq87, eq86⟩ := hQ87
        have N87 := Fr.app N84 Nq87
        refine own_tr (T' := T87) (g' := (mkF m 153 #[.val (.long p0), .second, .val (.int p1), .val (.long p2), .second, .val (.long p3), .second, .val (.long p4), .second, .val (.int p5), .val (.ref ad1), .val (.ref ad15), .val (.ref a50b), .val (.int (own_hid p3 p2)), .val (.long (own_min p3 p4)), .second, .val (.long (own_max p3 p4)), .second] [(.int (own_hid p3 p2))])) st87 ?_
        refine own_step (T' := T87) (g' := (mkF m 155 #[.val (.long p0), .second, .val (.int p1), .val (.long p2), .second, .val (.long p3), .second, .val (.long p4), .second, .val (.int p5), .val (.ref ad1), .val (.ref ad15), .val (.ref a50b), .val (.int (own_hid p3 p2)), .val (.long (own_min p3 p4)), .second, .val (.long (own_max p3 p4)), .second] [(.int (own_hid p3 p2)), (.int (own_hid p3 p2))])) (fun t k => XS.iload X87.here hx rfl (hb hby at_153) rfl k) ?_
        refine own_step (T' := T87) (g' := (mkF m 160 #[.val (.long p0), .second, .val (.int p1), .val (.long p2), .second, .val (.long p3), .second, .val (.long p4), .second, .val (.int p5), .val (.ref ad1), .val (.ref ad15), .val (.ref a50b), .val (.int (own_hid p3 p2)), .val (.long (own_min p3 p4)), .second, .val (.long (own_max p3 p4)), .second] [])) (fun t k => XS.icmpYes X87.here hx rfl (pc0 := 155) (pc' := 160) rfl (hb hby at_155) rfl (teq rfl).1 (by decide) (by decide) k) ?_
        refine own_step (T' := T87) (g' := (mkF m 162 #[.val (.long p0), .second, .val (.int p1), .val (.long p2), .second, .val (.long p3), .second, .val (.long p4), .second, .val (.int p5), .val (.ref ad1), .val (.ref ad15), .val (.ref a50b), .val (.int (own_hid p3 p2)), .val (.long (own_min p3 p4)), .second, .val (.long (own_max p3 p4)), .second] [(.ref ad1)])) (fun t k => XS.aload X87.here hx rfl (hb hby at_160) rfl rfl k) ?_
        obtain ⟨cq91, kq91, q91a, q91b, q91c⟩ := isOf hZ eq86 g56
        obtain ⟨_, _, ⟨T90, L90, k90, n90⟩, -, X90, ⟨Lc90, hQ90, lq90, yq90, zq90⟩, st90⟩ := X87.virtualBack hx (y := (⟨"com/example/pollster/pollster/QueuePops$Popped", "invisibleUntil", "()J"⟩ : MethodName)) (z := (⟨"com/example/pollster/pollster/QueuePops$Popped", "invisibleUntil", "()J"⟩ : MethodName)) hown (mvT hZ (hw _ (List.mem_of_getElem? (i := 69) rfl))) (mvT hZ (hw _ (List.mem_of_getElem? (i := 70) rfl))) (notFace_of_selects (args := #[]) (mvT hZ (hw _ (List.mem_of_getElem? (i := 72) rfl)))) (mvT hZ (hw _ (List.mem_of_getElem? (i := 72) rfl))) (mvT hZ (hw _ (List.mem_of_getElem? (i := 71) rfl))) (by decide) (backOf (W := 0) (rm_inv l Z a0 hw [] ad1 p2 T54.heap n0 Z51 g59) hZ (hw _ (List.mem_of_getElem? (i := 73) rfl)) (hw _ (List.mem_of_getElem? (i := 2) rfl)) (by decide) (by decide)) q91a q91c (g := (mkF m 162 #[.val (.long p0), .second, .val (.int p1), .val (.long p2), .second, .val (.long p3), .second, .val (.long p4), .second, .val (.int p5), .val (.ref ad1), .val (.ref ad15), .val (.ref a50b), .val (.int (own_hid p3 p2)), .val (.long (own_min p3 p4)), .second, .val (.long (own_max p3 p4)), .second] [(.ref ad1)])) rfl (by rw [hml]; rfl) (Steps.refl _) (argsL := []) (rest := []) (lenOf pd_10 rfl) rfl (by show 2 * 0 + _ ≤ _; exact Nat.le_of_eq rfl) (hb hby at_162) (fun _ _ => ⟨rfl, eq86, (by decide : 5 + 0 ≤ _), (by decide : 18 + 0 ≤ _)⟩)
        dsimp only [Pt.U, Pt.locs, Pt.cells, Pt.slots] at X90 lq90 yq90 zq90 st90 hQ90
        subst lq90 yq90 zq90
        obtain ⟨rfl, Nq90, eq89⟩ := hQ90
        have N90 := Fr.app N87 Nq90
        refine own_tr (T' := T90) (g' := (mkF m 165 #[.val (.long p0), .second, .val (.int p1), .val (.long p2), .second, .val (.long p3), .second, .val (.long p4), .second, .val (.int p5), .val (.ref ad1), .val (.ref ad15), .val (.ref a50b), .val (.int (own_hid p3 p2)), .val (.long (own_min p3 p4)), .second, .val (.long (own_max p3 p4)), .second] [(.long p2)])) st90 ?_
        refine own_step (T' := T90) (g' := (mkF m 166 #[.val (.long p0), .second, .val (.int p1), .val (.long p2), .second, .val (.long p3), .second, .val (.long p4), .second, .val (.int p5), .val (.ref ad1), .val (.ref ad15), .val (.ref a50b), .val (.int (own_hid p3 p2)), .val (.long (own_min p3 p4)), .second, .val (.long (own_max p3 p4)), .second] [(.long p2), (.long p2)])) (fun t k => XS.lloadN X90.here hx rfl (hb hby at_165) rfl k) ?_
        refine own_step (T' := T90) (g' := (mkF m 167 #[.val (.long p0), .second, .val (.int p1), .val (.long p2), .second, .val (.long p3), .second, .val (.long p4), .second, .val (.int p5), .val (.ref ad1), .val (.ref ad15), .val (.ref a50b), .val (.int (own_hid p3 p2)), .val (.long (own_min p3 p4)), .second, .val (.long (own_max p3 p4)), .second] [(.int (lcmpW p2 p2))])) (fun t k => XS.lcmp X90.here hx rfl (hb hby at_166) rfl k) ?_
        refine own_step (T' := T90) (g' := (mkF m 170 #[.val (.long p0), .second, .val (.int p1), .val (.long p2), .second, .val (.long p3), .second, .val (.long p4), .second, .val (.int p5), .val (.ref ad1), .val (.ref ad15), .val (.ref a50b), .val (.int (own_hid p3 p2)), .val (.long (own_min p3 p4)), .second, .val (.long (own_max p3 p4)), .second] [])) (fun t k => XS.ifNo X90.here hx rfl (hb hby at_167) rfl ((if0 _ _).trans (teq ((lw_eq _ _).mpr rfl)).2) k) ?_
        refine own_step (T' := T90) (g' := (mkF m 171 #[.val (.long p0), .second, .val (.int p1), .val (.long p2), .second, .val (.long p3), .second, .val (.long p4), .second, .val (.int p5), .val (.ref ad1), .val (.ref ad15), .val (.ref a50b), .val (.int (own_hid p3 p2)), .val (.long (own_min p3 p4)), .second, .val (.long (own_max p3 p4)), .second] [(.int (1 : Int32))])) (fun t k => XS.iconst X90.here hx rfl (hb hby at_170) k) ?_
        refine own_step (T' := T90) (g' := (mkF m 175 #[.val (.long p0), .second, .val (.int p1), .val (.long p2), .second, .val (.long p3), .second, .val (.long p4), .second, .val (.int p5), .val (.ref ad1), .val (.ref ad15), .val (.ref a50b), .val (.int (own_hid p3 p2)), .val (.long (own_min p3 p4)), .second, .val (.long (own_max p3 p4)), .second] [(.int (1 : Int32))])) (fun t k => XS.goto X90.here hx rfl (pc0 := 171) (pc' := 175) rfl (hb hby at_171) (by decide) (by decide) k) ?_
        refine own_rN X90 hx hlk Bd.returns (by simp) (hb hby at_175) ?_ (by decide) (by decide)
        rw [eq89]
        exact ⟨rfl, N90⟩
    · refine own_step (T' := T68) (g' := (mkF m 93 #[.val (.long p0), .second, .val (.int p1), .val (.long p2), .second, .val (.long p3), .second, .val (.long p4), .second, .val (.int p5), .val (.ref ad1), .val (.ref ad15), .val (.ref a50b), .val (.int (own_hid p3 p2)), .unset, .unset, .unset, .unset] [])) (fun t k => XS.ifNo X68.here hx rfl (hb hby at_90) rfl ((if0 _ _).trans (feq (fun q => c90 ((lw_eq _ _).mp q))).1) k) ?_
      refine own_step (T' := T68) (g' := (mkF m 95 #[.val (.long p0), .second, .val (.int p1), .val (.long p2), .second, .val (.long p3), .second, .val (.long p4), .second, .val (.int p5), .val (.ref ad1), .val (.ref ad15), .val (.ref a50b), .val (.int (own_hid p3 p2)), .unset, .unset, .unset, .unset] [(.ref ad1)])) (fun t k => XS.aload X68.here hx rfl (hb hby at_93) rfl rfl k) ?_
      refine own_step (T' := T68) (g' := (mkF m 96 #[.val (.long p0), .second, .val (.int p1), .val (.long p2), .second, .val (.long p3), .second, .val (.long p4), .second, .val (.int p5), .val (.ref ad1), .val (.ref ad15), .val (.ref a50b), .val (.int (own_hid p3 p2)), .unset, .unset, .unset, .unset] [(.long p2), (.ref ad1)])) (fun t k => XS.lloadN X68.here hx rfl (hb hby at_95) rfl k) ?_
      refine own_step (T' := T68) (g' := (mkF m 97 #[.val (.long p0), .second, .val (.int p1), .val (.long p2), .second, .val (.long p3), .second, .val (.long p4), .second, .val (.int p5), .val (.ref ad1), .val (.ref ad15), .val (.ref a50b), .val (.int (own_hid p3 p2)), .unset, .unset, .unset, .unset] [(.long (1 : Int64)), (.long p2), (.ref ad1)])) (fun t k => XS.lconst X68.here hx rfl (hb hby at_96) k) ?_
      refine own_step (T' := T68) (g' := (mkF m 98 #[.val (.long p0), .second, .val (.int p1), .val (.long p2), .second, .val (.long p3), .second, .val (.long p4), .second, .val (.int p5), .val (.ref ad1), .val (.ref ad15), .val (.ref a50b), .val (.int (own_hid p3 p2)), .unset, .unset, .unset, .unset] [(.long (p2 - (1 : Int64))), (.ref ad1)])) (fun t k => XS.lsub X68.here hx rfl (hb hby at_97) rfl k) ?_
      obtain ⟨cq94, kq94, q94a, q94b, q94c⟩ := isOf hZ eq67 g56
      obtain ⟨_, _, ⟨T93, L93, k93, n93⟩, -, X93, ⟨Lc93, hQ93, lq93, yq93, zq93⟩, st93⟩ := X68.virtualBack hx (y := (⟨"com/example/pollster/pollster/QueuePops$Popped", "hiddenAt", "(J)Z"⟩ : MethodName)) (z := (⟨"com/example/pollster/pollster/QueuePops$Popped", "hiddenAt", "(J)Z"⟩ : MethodName)) hown (mvT hZ (hw _ (List.mem_of_getElem? (i := 56) rfl))) (mvT hZ (hw _ (List.mem_of_getElem? (i := 57) rfl))) (notFace_of_selects (args := #[]) (mvT hZ (hw _ (List.mem_of_getElem? (i := 59) rfl)))) (mvT hZ (hw _ (List.mem_of_getElem? (i := 59) rfl))) (mvT hZ (hw _ (List.mem_of_getElem? (i := 58) rfl))) (by decide) (backOf (W := 0) (rm_hid l Z a0 hw [] ad1 (p2 - (1 : Int64)) p2 T54.heap n0 Z51 g59) hZ (hw _ (List.mem_of_getElem? (i := 60) rfl)) (hw _ (List.mem_of_getElem? (i := 2) rfl)) (by decide) (by decide)) q94a q94c (g := (mkF m 98 #[.val (.long p0), .second, .val (.int p1), .val (.long p2), .second, .val (.long p3), .second, .val (.long p4), .second, .val (.int p5), .val (.ref ad1), .val (.ref ad15), .val (.ref a50b), .val (.int (own_hid p3 p2)), .unset, .unset, .unset, .unset] [(.long (p2 - (1 : Int64))), (.ref ad1)])) rfl (by rw [hml]; rfl) (Steps.refl _) (argsL := [(.long (p2 - (1 : Int64)))]) (rest := []) (lenOf pd_8 rfl) rfl (by show 2 * 0 + _ ≤ _; exact Nat.le_of_eq rfl) (hb hby at_98) (fun _ _ => ⟨rfl, eq67, (by decide : 5 + 0 ≤ _), (by decide : 18 + 0 ≤ _)⟩)
      dsimp only [Pt.U, Pt.locs, Pt.cells, Pt.slots] at X93 lq93 yq93 zq93 st93 hQ93
      subst lq93 yq93 zq93
      obtain ⟨rfl, Nq93, eq92⟩ := hQ93
      have N93 := Fr.app N68 Nq93
      refine own_tr (T' := T93) (g' := (mkF m 101 #[.val (.long p0), .second, .val (.int p1), .val (.long p2), .second, .val (.long p3), .second, .val (.long p4), .second, .val (.int p5), .val (.ref ad1), .val (.ref ad15), .val (.ref a50b), .val (.int (own_hid p3 p2)), .unset, .unset, .unset, .unset] [(.int (own_hid (p2 - (1 : Int64)) p2))])) st93 ?_
      refine own_step (T' := T93) (g' := (mkF m 106 #[.val (.long p0), .second, .val (.int p1), .val (.long p2), .second, .val (.long p3), .second, .val (.long p4), .second, .val (.int p5), .val (.ref ad1), .val (.ref ad15), .val (.ref a50b), .val (.int (own_hid p3 p2)), .unset, .unset, .unset, .unset] [])) (fun t k => XS.ifYes X93.here hx rfl (pc0 := 101) (pc' := 106) rfl (hb hby at_101) rfl ((if0 _ _).trans (feq (by rw [own_h1 (own_pred c90)]; decide)).2) (by decide) (by decide) k) ?_
      refine own_step (T' := T93) (g' := (mkF m 108 #[.val (.long p0), .second, .val (.int p1), .val (.long p2), .second, .val (.long p3), .second, .val (.long p4), .second, .val (.int p5), .val (.ref ad1), .val (.ref ad15), .val (.ref a50b), .val (.int (own_hid p3 p2)), .unset, .unset, .unset, .unset] [(.long p3)])) (fun t k => XS.lload X93.here hx rfl (hb hby at_106) rfl k) ?_
      refine own_step (T' := T93) (g' := (mkF m 110 #[.val (.long p0), .second, .val (.int p1), .val (.long p2), .second, .val (.long p3), .second, .val (.long p4), .second, .val (.int p5), .val (.ref ad1), .val (.ref ad15), .val (.ref a50b), .val (.int (own_hid p3 p2)), .unset, .unset, .unset, .unset] [(.long p4), (.long p3)])) (fun t k => XS.lload X93.here hx rfl (hb hby at_108) rfl k) ?_
      obtain ⟨_, _, ⟨T96, L96, k96, n96⟩, -, X96, ⟨Lc96, hQ96, lq96, yq96, zq96⟩, st96⟩ := Jvm.LawKit.callS X93 hx (y := (⟨"java/lang/Math", "min", "(JJ)J"⟩ : MethodName)) hown (mvT hZ (hw _ (List.mem_of_getElem? (i := 62) rfl))) (mvT hZ (hw _ (List.mem_of_getElem? (i := 63) rfl))) (mvT hZ (hw _ (List.mem_of_getElem? (i := 64) rfl))) (mvT hZ (hw _ (List.mem_of_getElem? (i := 65) rfl))) (by decide) (backOf (W := 0) (rm_min l Z a0 hw [] p3 p4 T54.heap n0 Z51 ) hZ (hw _ (List.mem_of_getElem? (i := 65) rfl)) (hw _ (List.mem_of_getElem? (i := 64) rfl)) (by decide) (by decide)) (g := (mkF m 110 #[.val (.long p0), .second, .val (.int p1), .val (.long p2), .second, .val (.long p3), .second, .val (.long p4), .second, .val (.int p5), .val (.ref ad1), .val (.ref ad15), .val (.ref a50b), .val (.int (own_hid p3 p2)), .unset, .unset, .unset, .unset] [(.long p4), (.long p3)])) rfl (by rw [hml]; rfl) (argsL := [(.long p3), (.long p4)]) (rest := []) (lenOf pd_9 rfl) rfl (by show 2 * 0 + _ ≤ _; exact Nat.le_of_eq rfl) (hb hby at_110) (fun _ _ => ⟨rfl, eq92, (by decide : 5 + 0 ≤ _), (by decide : 18 + 0 ≤ _)⟩)
      dsimp only [Pt.U, Pt.locs, Pt.cells, Pt.slots] at X96 lq96 yq96 zq96 st96 hQ96
      subst lq96 yq96 zq96
      obtain ⟨rfl, Nq96, eq95⟩ := hQ96
      have N96 := Fr.app N93 Nq96
      refine own_step (T' := T96) (g' := (mkF m 113 #[.val (.long p0), .second, .val (.int p1), .val (.long p2), .second, .val (.long p3), .second, .val (.long p4), .second, .val (.int p5), .val (.ref ad1), .val (.ref ad15), .val (.ref a50b), .val (.int (own_hid p3 p2)), .unset, .unset, .unset, .unset] [(.long (own_min p3 p4))])) st96 ?_
      refine own_step (T' := T96) (g' := (mkF m 115 #[.val (.long p0), .second, .val (.int p1), .val (.long p2), .second, .val (.long p3), .second, .val (.long p4), .second, .val (.int p5), .val (.ref ad1), .val (.ref ad15), .val (.ref a50b), .val (.int (own_hid p3 p2)), .val (.long (own_min p3 p4)), .second, .unset, .unset] [])) (fun t k => XS.lstore X96.here hx rfl (hb hby at_113) rfl (l' := #[.val (.long p0), .second, .val (.int p1), .val (.long p2), .second, .val (.long p3), .second, .val (.long p4), .second, .val (.int p5), .val (.ref ad1), .val (.ref ad15), .val (.ref a50b), .val (.int (own_hid p3 p2)), .val (.long (own_min p3 p4)), .second, .unset, .unset]) rfl k) ?_
      refine own_step (T' := T96) (g' := (mkF m 117 #[.val (.long p0), .second, .val (.int p1), .val (.long p2), .second, .val (.long p3), .second, .val (.long p4), .second, .val (.int p5), .val (.ref ad1), .val (.ref ad15), .val (.ref a50b), .val (.int (own_hid p3 p2)), .val (.long (own_min p3 p4)), .second, .unset, .unset] [(.long p3)])) (fun t k => XS.lload X96.here hx rfl (hb hby at_115) rfl k) ?_
      refine own_step (T' := T96) (g' := (mkF m 119 #[.val (.long p0), .second, .val (.int p1), .val (.long p2), .second, .val (.long p3), .second, .val (.long p4), .second, .val (.int p5), .val (.ref ad1), .val (.ref ad15), .val (.ref a50b), .val (.int (own_hid p3 p2)), .val (.long (own_min p3 p4)), .second, .unset, .unset] [(.long p4), (.long p3)])) (fun t k => XS.lload X96.here hx rfl (hb hby at_117) rfl k) ?_
      obtain ⟨_, _, ⟨T98, L98, k98, n98⟩, -, X98, ⟨Lc98, hQ98, lq98, yq98, zq98⟩, st98⟩ := Jvm.LawKit.callS X96 hx (y := (⟨"java/lang/Math", "max", "(JJ)J"⟩ : MethodName)) hown (mvT hZ (hw _ (List.mem_of_getElem? (i := 66) rfl))) (mvT hZ (hw _ (List.mem_of_getElem? (i := 67) rfl))) (mvT hZ (hw _ (List.mem_of_getElem? (i := 64) rfl))) (mvT hZ (hw _ (List.mem_of_getElem? (i := 68) rfl))) (by decide) (backOf (W := 0) (rm_max l Z a0 hw [] p3 p4 T54.heap n0 Z51 ) hZ (hw _ (List.mem_of_getElem? (i := 68) rfl)) (hw _ (List.mem_of_getElem? (i := 64) rfl)) (by decide) (by decide)) (g := (mkF m 119 #[.val (.long p0), .second, .val (.int p1), .val (.long p2), .second, .val (.long p3), .second, .val (.long p4), .second, .val (.int p5), .val (.ref ad1), .val (.ref ad15), .val (.ref a50b), .val (.int (own_hid p3 p2)), .val (.long (own_min p3 p4)), .second, .unset, .unset] [(.long p4), (.long p3)])) rfl (by rw [hml]; rfl) (argsL := [(.long p3), (.long p4)]) (rest := []) (lenOf pd_9 rfl) rfl (by show 2 * 0 + _ ≤ _; exact Nat.le_of_eq rfl) (hb hby at_119) (fun _ _ => ⟨rfl, eq95, (by decide : 5 + 0 ≤ _), (by decide : 18 + 0 ≤ _)⟩)
      dsimp only [Pt.U, Pt.locs, Pt.cells, Pt.slots] at X98 lq98 yq98 zq98 st98 hQ98
      subst lq98 yq98 zq98
      obtain ⟨rfl, Nq98, eq97⟩ := hQ98
      have N98 := Fr.app N96 Nq98
      refine own_step (T' := T98) (g' := (mkF m 122 #[.val (.long p0), .second, .val (.int p1), .val (.long p2), .second, .val (.long p3), .second, .val (.long p4), .second, .val (.int p5), .val (.ref ad1), .val (.ref ad15), .val (.ref a50b), .val (.int (own_hid p3 p2)), .val (.long (own_min p3 p4)), .second, .unset, .unset] [(.long (own_max p3 p4))])) st98 ?_
      refine own_step (T' := T98) (g' := (mkF m 124 #[.val (.long p0), .second, .val (.int p1), .val (.long p2), .second, .val (.long p3), .second, .val (.long p4), .second, .val (.int p5), .val (.ref ad1), .val (.ref ad15), .val (.ref a50b), .val (.int (own_hid p3 p2)), .val (.long (own_min p3 p4)), .second, .val (.long (own_max p3 p4)), .second] [])) (fun t k => XS.lstore X98.here hx rfl (hb hby at_122) rfl (l' := #[.val (.long p0), .second, .val (.int p1), .val (.long p2), .second, .val (.long p3), .second, .val (.long p4), .second, .val (.int p5), .val (.ref ad1), .val (.ref ad15), .val (.ref a50b), .val (.int (own_hid p3 p2)), .val (.long (own_min p3 p4)), .second, .val (.long (own_max p3 p4)), .second]) rfl k) ?_
      refine own_step (T' := T98) (g' := (mkF m 126 #[.val (.long p0), .second, .val (.int p1), .val (.long p2), .second, .val (.long p3), .second, .val (.long p4), .second, .val (.int p5), .val (.ref ad1), .val (.ref ad15), .val (.ref a50b), .val (.int (own_hid p3 p2)), .val (.long (own_min p3 p4)), .second, .val (.long (own_max p3 p4)), .second] [(.ref ad1)])) (fun t k => XS.aload X98.here hx rfl (hb hby at_124) rfl rfl k) ?_
      refine own_step (T' := T98) (g' := (mkF m 128 #[.val (.long p0), .second, .val (.int p1), .val (.long p2), .second, .val (.long p3), .second, .val (.long p4), .second, .val (.int p5), .val (.ref ad1), .val (.ref ad15), .val (.ref a50b), .val (.int (own_hid p3 p2)), .val (.long (own_min p3 p4)), .second, .val (.long (own_max p3 p4)), .second] [(.long (own_max p3 p4)), (.ref ad1)])) (fun t k => XS.lload X98.here hx rfl (hb hby at_126) rfl k) ?_
      obtain ⟨cq101, kq101, q101a, q101b, q101c⟩ := isOf hZ eq97 g56
      obtain ⟨_, _, ⟨T100, L100, k100, n100⟩, -, X100, ⟨Lc100, hQ100, lq100, yq100, zq100⟩, st100⟩ := X98.virtualBack hx (y := (⟨"com/example/pollster/pollster/QueuePops$Popped", "hiddenAt", "(J)Z"⟩ : MethodName)) (z := (⟨"com/example/pollster/pollster/QueuePops$Popped", "hiddenAt", "(J)Z"⟩ : MethodName)) hown (mvT hZ (hw _ (List.mem_of_getElem? (i := 56) rfl))) (mvT hZ (hw _ (List.mem_of_getElem? (i := 57) rfl))) (notFace_of_selects (args := #[]) (mvT hZ (hw _ (List.mem_of_getElem? (i := 59) rfl)))) (mvT hZ (hw _ (List.mem_of_getElem? (i := 59) rfl))) (mvT hZ (hw _ (List.mem_of_getElem? (i := 58) rfl))) (by decide) (backOf (W := 0) (rm_hid l Z a0 hw [] ad1 (own_max p3 p4) p2 T54.heap n0 Z51 g59) hZ (hw _ (List.mem_of_getElem? (i := 60) rfl)) (hw _ (List.mem_of_getElem? (i := 2) rfl)) (by decide) (by decide)) q101a q101c (g := (mkF m 128 #[.val (.long p0), .second, .val (.int p1), .val (.long p2), .second, .val (.long p3), .second, .val (.long p4), .second, .val (.int p5), .val (.ref ad1), .val (.ref ad15), .val (.ref a50b), .val (.int (own_hid p3 p2)), .val (.long (own_min p3 p4)), .second, .val (.long (own_max p3 p4)), .second] [(.long (own_max p3 p4)), (.ref ad1)])) rfl (by rw [hml]; rfl) (Steps.refl _) (argsL := [(.long (own_max p3 p4))]) (rest := []) (lenOf pd_8 rfl) rfl (by show 2 * 0 + _ ≤ _; exact Nat.le_of_eq rfl) (hb hby at_128) (fun _ _ => ⟨rfl, eq97, (by decide : 5 + 0 ≤ _), (by decide : 18 + 0 ≤ _)⟩)
      dsimp only [Pt.U, Pt.locs, Pt.cells, Pt.slots] at X100 lq100 yq100 zq100 st100 hQ100
      subst lq100 yq100 zq100
      obtain ⟨rfl, Nq100, eq99⟩ := hQ100
      have N100 := Fr.app N98 Nq100
      refine own_tr (T' := T100) (g' := (mkF m 131 #[.val (.long p0), .second, .val (.int p1), .val (.long p2), .second, .val (.long p3), .second, .val (.long p4), .second, .val (.int p5), .val (.ref ad1), .val (.ref ad15), .val (.ref a50b), .val (.int (own_hid p3 p2)), .val (.long (own_min p3 p4)), .second, .val (.long (own_max p3 p4)), .second] [(.int (own_hid (own_max p3 p4) p2))])) st100 ?_
      by_cases c131 : (own_hid (own_max p3 p4) p2) = (0 : Int32)
      · refine own_step (T' := T100) (g' := (mkF m 146 #[.val (.long p0), .second, .val (.int p1), .val (.long p2), .second, .val (.long p3), .second, .val (.long p4), .second, .val (.int p5), .val (.ref ad1), .val (.ref ad15), .val (.ref a50b), .val (.int (own_hid p3 p2)), .val (.long (own_min p3 p4)), .second, .val (.long (own_max p3 p4)), .second] [])) (fun t k => XS.ifYes X100.here hx rfl (pc0 := 131) (pc' := 146) rfl (hb hby at_131) rfl ((if0 _ _).trans (teq c131).1) (by decide) (by decide) k) ?_
        refine own_step (T' := T100) (g' := (mkF m 148 #[.val (.long p0), .second, .val (.int p1), .val (.long p2), .second, .val (.long p3), .second, .val (.long p4), .second, .val (.int p5), .val (.ref ad1), .val (.ref ad15), .val (.ref a50b), .val (.int (own_hid p3 p2)), .val (.long (own_min p3 p4)), .second, .val (.long (own_max p3 p4)), .second] [(.ref a50b)])) (fun t k => XS.aload X100.here hx rfl (hb hby at_146) rfl rfl k) ?_
        refine own_step (T' := T100) (g' := (mkF m 150 #[.val (.long p0), .second, .val (.int p1), .val (.long p2), .second, .val (.long p3), .second, .val (.long p4), .second, .val (.int p5), .val (.ref ad1), .val (.ref ad15), .val (.ref a50b), .val (.int (own_hid p3 p2)), .val (.long (own_min p3 p4)), .second, .val (.long (own_max p3 p4)), .second] [(.long p3), (.ref a50b)])) (fun t k => XS.lload X100.here hx rfl (hb hby at_148) rfl k) ?_
        obtain ⟨cq104, kq104, q104a, q104b, q104c⟩ := isOf hZ eq99 g52
        obtain ⟨_, _, ⟨T103, L103, k103, n103⟩, -, X103, ⟨Lc103, hQ103, lq103, yq103, zq103⟩, st103⟩ := X100.virtualBack hx (y := (⟨"com/example/pollster/pollster/QueuePops$Popped", "hiddenAt", "(J)Z"⟩ : MethodName)) (z := (⟨"com/example/pollster/pollster/QueuePops$Popped", "hiddenAt", "(J)Z"⟩ : MethodName)) hown (mvT hZ (hw _ (List.mem_of_getElem? (i := 56) rfl))) (mvT hZ (hw _ (List.mem_of_getElem? (i := 57) rfl))) (notFace_of_selects (args := #[]) (mvT hZ (hw _ (List.mem_of_getElem? (i := 59) rfl)))) (mvT hZ (hw _ (List.mem_of_getElem? (i := 59) rfl))) (mvT hZ (hw _ (List.mem_of_getElem? (i := 58) rfl))) (by decide) (backOf (W := 0) (rm_hid l Z a0 hw [] a50b p3 p2 T54.heap n0 Z51 g53) hZ (hw _ (List.mem_of_getElem? (i := 60) rfl)) (hw _ (List.mem_of_getElem? (i := 2) rfl)) (by decide) (by decide)) q104a q104c (g := (mkF m 150 #[.val (.long p0), .second, .val (.int p1), .val (.long p2), .second, .val (.long p3), .second, .val (.long p4), .second, .val (.int p5), .val (.ref ad1), .val (.ref ad15), .val (.ref a50b), .val (.int (own_hid p3 p2)), .val (.long (own_min p3 p4)), .second, .val (.long (own_max p3 p4)), .second] [(.long p3), (.ref a50b)])) rfl (by rw [hml]; rfl) (Steps.refl _) (argsL := [(.long p3)]) (rest := []) (lenOf pd_8 rfl) rfl (by show 2 * 0 + _ ≤ _; exact Nat.le_of_eq rfl) (hb hby at_150) (fun _ _ => ⟨rfl, eq99, (by decide : 5 + 0 ≤ _), (by decide : 18 + 0 ≤ _)⟩)
        dsimp only [Pt.U, Pt.locs, Pt.cells, Pt.slots] at X103 lq103 yq103 zq103 st103 hQ103
        subst lq103 yq103 zq103
        obtain ⟨rfl, Nq103, eq102⟩ := hQ103
        have N103 := Fr.app N100 Nq103
        refine own_tr (T' := T103) (g' := (mkF m 153 #[.val (.long p0), .second, .val (.int p1), .val (.long p2), .second, .val (.long p3), .second, .val (.long p4), .second, .val (.int p5), .val (.ref ad1), .val (.ref ad15), .val (.ref a50b), .val (.int (own_hid p3 p2)), .val (.long (own_min p3 p4)), .second, .val (.long (own_max p3 p4)), .second] [(.int (own_hid p3 p2))])) st103 ?_
        refine own_step (T' := T103) (g' := (mkF m 155 #[.val (.long p0), .second, .val (.int p1), .val (.long p2), .second, .val (.long p3), .second, .val (.long p4), .second, .val (.int p5), .val (.ref ad1), .val (.ref ad15), .val (.ref a50b), .val (.int (own_hid p3 p2)), .val (.long (own_min p3 p4)), .second, .val (.long (own_max p3 p4)), .second] [(.int (own_hid p3 p2)), (.int (own_hid p3 p2))])) (fun t k => XS.iload X103.here hx rfl (hb hby at_153) rfl k) ?_
        refine own_step (T' := T103) (g' := (mkF m 160 #[.val (.long p0), .second, .val (.int p1), .val (.long p2), .second, .val (.long p3), .second, .val (.long p4), .second, .val (.int p5), .val (.ref ad1), .val (.ref ad15), .val (.ref a50b), .val (.int (own_hid p3 p2)), .val (.long (own_min p3 p4)), .second, .val (.long (own_max p3 p4)), .second] [])) (fun t k => XS.icmpYes X103.here hx rfl (pc0 := 155) (pc' := 160) rfl (hb hby at_155) rfl (teq rfl).1 (by decide) (by decide) k) ?_
        refine own_step (T' := T103) (g' := (mkF m 162 #[.val (.long p0), .second, .val (.int p1), .val (.long p2), .second, .val (.long p3), .second, .val (.long p4), .second, .val (.int p5), .val (.ref ad1), .val (.ref ad15), .val (.ref a50b), .val (.int (own_hid p3 p2)), .val (.long (own_min p3 p4)), .second, .val (.long (own_max p3 p4)), .second] [(.ref ad1)])) (fun t k => XS.aload X103.here hx rfl (hb hby at_160) rfl rfl k) ?_
        obtain ⟨cq107, kq107, q107a, q107b, q107c⟩ := isOf hZ eq102 g56
        obtain ⟨_, _, ⟨T106, L106, k106, n106⟩, -, X106, ⟨Lc106, hQ106, lq106, yq106, zq106⟩, st106⟩ := X103.virtualBack hx (y := (⟨"com/example/pollster/pollster/QueuePops$Popped", "invisibleUntil", "()J"⟩ : MethodName)) (z := (⟨"com/example/pollster/pollster/QueuePops$Popped", "invisibleUntil", "()J"⟩ : MethodName)) hown (mvT hZ (hw _ (List.mem_of_getElem? (i := 69) rfl))) (mvT hZ (hw _ (List.mem_of_getElem? (i := 70) rfl))) (notFace_of_selects (args := #[]) (mvT hZ (hw _ (List.mem_of_getElem? (i := 72) rfl)))) (mvT hZ (hw _ (List.mem_of_getElem? (i := 72) rfl))) (mvT hZ (hw _ (List.mem_of_getElem? (i := 71) rfl))) (by decide) (backOf (W := 0) (rm_inv l Z a0 hw [] ad1 p2 T54.heap n0 Z51 g59) hZ (hw _ (List.mem_of_getElem? (i := 73) rfl)) (hw _ (List.mem_of_getElem? (i := 2) rfl)) (by decide) (by decide)) q107a q107c (g := (mkF m 162 #[.val (.long p0), .second, .val (.int p1), .val (.long p2), .second, .val (.long p3), .second, .val (.long p4), .second, .val (.int p5), .val (.ref ad1), .val (.ref ad15), .val (.ref a50b), .val (.int (own_hid p3 p2)), .val (.long (own_min p3 p4)), .second, .val (.long (own_max p3 p4)), .second] [(.ref ad1)])) rfl (by rw [hml]; rfl) (Steps.refl _) (argsL := []) (rest := []) (lenOf pd_10 rfl) rfl (by show 2 * 0 + _ ≤ _; exact Nat.le_of_eq rfl) (hb hby at_162) (fun _ _ => ⟨rfl, eq102, (by decide : 5 + 0 ≤ _), (by decide : 18 + 0 ≤ _)⟩)
        dsimp only [Pt.U, Pt.locs, Pt.cells, Pt.slots] at X106 lq106 yq106 zq106 st106 hQ106
        subst lq106 yq106 zq106
        obtain ⟨rfl, Nq106, eq105⟩ := hQ106
        have N106 := Fr.app N103 Nq106
        refine own_tr (T' := T106) (g' := (mkF m 165 #[.val (.long p0), .second, .val (.int p1), .val (.long p2), .second, .val (.long p3), .second, .val (.long p4), .second, .val (.int p5), .val (.ref ad1), .val (.ref ad15), .val (.ref a50b), .val (.int (own_hid p3 p2)), .val (.long (own_min p3 p4)), .second, .val (.long (own_max p3 p4)), .second] [(.long p2)])) st106 ?_
        refine own_step (T' := T106) (g' := (mkF m 166 #[.val (.long p0), .second, .val (.int p1), .val (.long p2), .second, .val (.long p3), .second, .val (.long p4), .second, .val (.int p5), .val (.ref ad1), .val (.ref ad15), .val (.ref a50b), .val (.int (own_hid p3 p2)), .val (.long (own_min p3 p4)), .second, .val (.long (own_max p3 p4)), .second] [(.long p2), (.long p2)])) (fun t k => XS.lloadN X106.here hx rfl (hb hby at_165) rfl k) ?_
        refine own_step (T' := T106) (g' := (mkF m 167 #[.val (.long p0), .second, .val (.int p1), .val (.long p2), .second, .val (.long p3), .second, .val (.long p4), .second, .val (.int p5), .val (.ref ad1), .val (.ref ad15), .val (.ref a50b), .val (.int (own_hid p3 p2)), .val (.long (own_min p3 p4)), .second, .val (.long (own_max p3 p4)), .second] [(.int (lcmpW p2 p2))])) (fun t k => XS.lcmp X106.here hx rfl (hb hby at_166) rfl k) ?_
        refine own_step (T' := T106) (g' := (mkF m 170 #[.val (.long p0), .second, .val (.int p1), .val (.long p2), .second, .val (.long p3), .second, .val (.long p4), .second, .val (.int p5), .val (.ref ad1), .val (.ref ad15), .val (.ref a50b), .val (.int (own_hid p3 p2)), .val (.long (own_min p3 p4)), .second, .val (.long (own_max p3 p4)), .second] [])) (fun t k => XS.ifNo X106.here hx rfl (hb hby at_167) rfl ((if0 _ _).trans (teq ((lw_eq _ _).mpr rfl)).2) k) ?_
        refine own_step (T' := T106) (g' := (mkF m 171 #[.val (.long p0), .second, .val (.int p1), .val (.long p2), .second, .val (.long p3), .second, .val (.long p4), .second, .val (.int p5), .val (.ref ad1), .val (.ref ad15), .val (.ref a50b), .val (.int (own_hid p3 p2)), .val (.long (own_min p3 p4)), .second, .val (.long (own_max p3 p4)), .second] [(.int (1 : Int32))])) (fun t k => XS.iconst X106.here hx rfl (hb hby at_170) k) ?_
        refine own_step (T' := T106) (g' := (mkF m 175 #[.val (.long p0), .second, .val (.int p1), .val (.long p2), .second, .val (.long p3), .second, .val (.long p4), .second, .val (.int p5), .val (.ref ad1), .val (.ref ad15), .val (.ref a50b), .val (.int (own_hid p3 p2)), .val (.long (own_min p3 p4)), .second, .val (.long (own_max p3 p4)), .second] [(.int (1 : Int32))])) (fun t k => XS.goto X106.here hx rfl (pc0 := 171) (pc' := 175) rfl (hb hby at_171) (by decide) (by decide) k) ?_
        refine own_rN X106 hx hlk Bd.returns (by simp) (hb hby at_175) ?_ (by decide) (by decide)
        rw [eq105]
        exact ⟨rfl, N106⟩
      · refine own_step (T' := T100) (g' := (mkF m 134 #[.val (.long p0), .second, .val (.int p1), .val (.long p2), .second, .val (.long p3), .second, .val (.long p4), .second, .val (.int p5), .val (.ref ad1), .val (.ref ad15), .val (.ref a50b), .val (.int (own_hid p3 p2)), .val (.long (own_min p3 p4)), .second, .val (.long (own_max p3 p4)), .second] [])) (fun t k => XS.ifNo X100.here hx rfl (hb hby at_131) rfl ((if0 _ _).trans (feq c131).1) k) ?_
        refine own_step (T' := T100) (g' := (mkF m 136 #[.val (.long p0), .second, .val (.int p1), .val (.long p2), .second, .val (.long p3), .second, .val (.long p4), .second, .val (.int p5), .val (.ref ad1), .val (.ref ad15), .val (.ref a50b), .val (.int (own_hid p3 p2)), .val (.long (own_min p3 p4)), .second, .val (.long (own_max p3 p4)), .second] [(.ref ad1)])) (fun t k => XS.aload X100.here hx rfl (hb hby at_134) rfl rfl k) ?_
        refine own_step (T' := T100) (g' := (mkF m 138 #[.val (.long p0), .second, .val (.int p1), .val (.long p2), .second, .val (.long p3), .second, .val (.long p4), .second, .val (.int p5), .val (.ref ad1), .val (.ref ad15), .val (.ref a50b), .val (.int (own_hid p3 p2)), .val (.long (own_min p3 p4)), .second, .val (.long (own_max p3 p4)), .second] [(.long (own_min p3 p4)), (.ref ad1)])) (fun t k => XS.lload X100.here hx rfl (hb hby at_136) rfl k) ?_
        obtain ⟨cq110, kq110, q110a, q110b, q110c⟩ := isOf hZ eq99 g56
        obtain ⟨_, _, ⟨T109, L109, k109, n109⟩, -, X109, ⟨Lc109, hQ109, lq109, yq109, zq109⟩, st109⟩ := X100.virtualBack hx (y := (⟨"com/example/pollster/pollster/QueuePops$Popped", "hiddenAt", "(J)Z"⟩ : MethodName)) (z := (⟨"com/example/pollster/pollster/QueuePops$Popped", "hiddenAt", "(J)Z"⟩ : MethodName)) hown (mvT hZ (hw _ (List.mem_of_getElem? (i := 56) rfl))) (mvT hZ (hw _ (List.mem_of_getElem? (i := 57) rfl))) (notFace_of_selects (args := #[]) (mvT hZ (hw _ (List.mem_of_getElem? (i := 59) rfl)))) (mvT hZ (hw _ (List.mem_of_getElem? (i := 59) rfl))) (mvT hZ (hw _ (List.mem_of_getElem? (i := 58) rfl))) (by decide) (backOf (W := 0) (rm_hid l Z a0 hw [] ad1 (own_min p3 p4) p2 T54.heap n0 Z51 g59) hZ (hw _ (List.mem_of_getElem? (i := 60) rfl)) (hw _ (List.mem_of_getElem? (i := 2) rfl)) (by decide) (by decide)) q110a q110c (g := (mkF m 138 #[.val (.long p0), .second, .val (.int p1), .val (.long p2), .second, .val (.long p3), .second, .val (.long p4), .second, .val (.int p5), .val (.ref ad1), .val (.ref ad15), .val (.ref a50b), .val (.int (own_hid p3 p2)), .val (.long (own_min p3 p4)), .second, .val (.long (own_max p3 p4)), .second] [(.long (own_min p3 p4)), (.ref ad1)])) rfl (by rw [hml]; rfl) (Steps.refl _) (argsL := [(.long (own_min p3 p4))]) (rest := []) (lenOf pd_8 rfl) rfl (by show 2 * 0 + _ ≤ _; exact Nat.le_of_eq rfl) (hb hby at_138) (fun _ _ => ⟨rfl, eq99, (by decide : 5 + 0 ≤ _), (by decide : 18 + 0 ≤ _)⟩)
        dsimp only [Pt.U, Pt.locs, Pt.cells, Pt.slots] at X109 lq109 yq109 zq109 st109 hQ109
        subst lq109 yq109 zq109
        obtain ⟨rfl, Nq109, eq108⟩ := hQ109
        have N109 := Fr.app N100 Nq109
        refine own_tr (T' := T109) (g' := (mkF m 141 #[.val (.long p0), .second, .val (.int p1), .val (.long p2), .second, .val (.long p3), .second, .val (.long p4), .second, .val (.int p5), .val (.ref ad1), .val (.ref ad15), .val (.ref a50b), .val (.int (own_hid p3 p2)), .val (.long (own_min p3 p4)), .second, .val (.long (own_max p3 p4)), .second] [(.int (own_hid (own_min p3 p4) p2))])) st109 ?_
        refine own_step (T' := T109) (g' := (mkF m 146 #[.val (.long p0), .second, .val (.int p1), .val (.long p2), .second, .val (.long p3), .second, .val (.long p4), .second, .val (.int p5), .val (.ref ad1), .val (.ref ad15), .val (.ref a50b), .val (.int (own_hid p3 p2)), .val (.long (own_min p3 p4)), .second, .val (.long (own_max p3 p4)), .second] [])) (fun t k => XS.ifYes X109.here hx rfl (pc0 := 141) (pc' := 146) rfl (hb hby at_141) rfl ((if0 _ _).trans (feq (by rw [own_h1 (own_mono (own_hid1 c131))]; decide)).2) (by decide) (by decide) k) ?_
        refine own_step (T' := T109) (g' := (mkF m 148 #[.val (.long p0), .second, .val (.int p1), .val (.long p2), .second, .val (.long p3), .second, .val (.long p4), .second, .val (.int p5), .val (.ref ad1), .val (.ref ad15), .val (.ref a50b), .val (.int (own_hid p3 p2)), .val (.long (own_min p3 p4)), .second, .val (.long (own_max p3 p4)), .second] [(.ref a50b)])) (fun t k => XS.aload X109.here hx rfl (hb hby at_146) rfl rfl k) ?_
        refine own_step (T' := T109) (g' := (mkF m 150 #[.val (.long p0), .second, .val (.int p1), .val (.long p2), .second, .val (.long p3), .second, .val (.long p4), .second, .val (.int p5), .val (.ref ad1), .val (.ref ad15), .val (.ref a50b), .val (.int (own_hid p3 p2)), .val (.long (own_min p3 p4)), .second, .val (.long (own_max p3 p4)), .second] [(.long p3), (.ref a50b)])) (fun t k => XS.lload X109.here hx rfl (hb hby at_148) rfl k) ?_
        obtain ⟨cq113, kq113, q113a, q113b, q113c⟩ := isOf hZ eq108 g52
        obtain ⟨_, _, ⟨T112, L112, k112, n112⟩, -, X112, ⟨Lc112, hQ112, lq112, yq112, zq112⟩, st112⟩ := X109.virtualBack hx (y := (⟨"com/example/pollster/pollster/QueuePops$Popped", "hiddenAt", "(J)Z"⟩ : MethodName)) (z := (⟨"com/example/pollster/pollster/QueuePops$Popped", "hiddenAt", "(J)Z"⟩ : MethodName)) hown (mvT hZ (hw _ (List.mem_of_getElem? (i := 56) rfl))) (mvT hZ (hw _ (List.mem_of_getElem? (i := 57) rfl))) (notFace_of_selects (args := #[]) (mvT hZ (hw _ (List.mem_of_getElem? (i := 59) rfl)))) (mvT hZ (hw _ (List.mem_of_getElem? (i := 59) rfl))) (mvT hZ (hw _ (List.mem_of_getElem? (i := 58) rfl))) (by decide) (backOf (W := 0) (rm_hid l Z a0 hw [] a50b p3 p2 T54.heap n0 Z51 g53) hZ (hw _ (List.mem_of_getElem? (i := 60) rfl)) (hw _ (List.mem_of_getElem? (i := 2) rfl)) (by decide) (by decide)) q113a q113c (g := (mkF m 150 #[.val (.long p0), .second, .val (.int p1), .val (.long p2), .second, .val (.long p3), .second, .val (.long p4), .second, .val (.int p5), .val (.ref ad1), .val (.ref ad15), .val (.ref a50b), .val (.int (own_hid p3 p2)), .val (.long (own_min p3 p4)), .second, .val (.long (own_max p3 p4)), .second] [(.long p3), (.ref a50b)])) rfl (by rw [hml]; rfl) (Steps.refl _) (argsL := [(.long p3)]) (rest := []) (lenOf pd_8 rfl) rfl (by show 2 * 0 + _ ≤ _; exact Nat.le_of_eq rfl) (hb hby at_150) (fun _ _ => ⟨rfl, eq108, (by decide : 5 + 0 ≤ _), (by decide : 18 + 0 ≤ _)⟩)
        dsimp only [Pt.U, Pt.locs, Pt.cells, Pt.slots] at X112 lq112 yq112 zq112 st112 hQ112
        subst lq112 yq112 zq112
        obtain ⟨rfl, Nq112, eq111⟩ := hQ112
        have N112 := Fr.app N109 Nq112
        refine own_tr (T' := T112) (g' := (mkF m 153 #[.val (.long p0), .second, .val (.int p1), .val (.long p2), .second, .val (.long p3), .second, .val (.long p4), .second, .val (.int p5), .val (.ref ad1), .val (.ref ad15), .val (.ref a50b), .val (.int (own_hid p3 p2)), .val (.long (own_min p3 p4)), .second, .val (.long (own_max p3 p4)), .second] [(.int (own_hid p3 p2))])) st112 ?_
        refine own_step (T' := T112) (g' := (mkF m 155 #[.val (.long p0), .second, .val (.int p1), .val (.long p2), .second, .val (.long p3), .second, .val (.long p4), .second, .val (.int p5), .val (.ref ad1), .val (.ref ad15), .val (.ref a50b), .val (.int (own_hid p3 p2)), .val (.long (own_min p3 p4)), .second, .val (.long (own_max p3 p4)), .second] [(.int (own_hid p3 p2)), (.int (own_hid p3 p2))])) (fun t k => XS.iload X112.here hx rfl (hb hby at_153) rfl k) ?_
        refine own_step (T' := T112) (g' := (mkF m 160 #[.val (.long p0), .second, .val (.int p1), .val (.long p2), .second, .val (.long p3), .second, .val (.long p4), .second, .val (.int p5), .val (.ref ad1), .val (.ref ad15), .val (.ref a50b), .val (.int (own_hid p3 p2)), .val (.long (own_min p3 p4)), .second, .val (.long (own_max p3 p4)), .second] [])) (fun t k => XS.icmpYes X112.here hx rfl (pc0 := 155) (pc' := 160) rfl (hb hby at_155) rfl (teq rfl).1 (by decide) (by decide) k) ?_
        refine own_step (T' := T112) (g' := (mkF m 162 #[.val (.long p0), .second, .val (.int p1), .val (.long p2), .second, .val (.long p3), .second, .val (.long p4), .second, .val (.int p5), .val (.ref ad1), .val (.ref ad15), .val (.ref a50b), .val (.int (own_hid p3 p2)), .val (.long (own_min p3 p4)), .second, .val (.long (own_max p3 p4)), .second] [(.ref ad1)])) (fun t k => XS.aload X112.here hx rfl (hb hby at_160) rfl rfl k) ?_
        obtain ⟨cq116, kq116, q116a, q116b, q116c⟩ := isOf hZ eq111 g56
        obtain ⟨_, _, ⟨T115, L115, k115, n115⟩, -, X115, ⟨Lc115, hQ115, lq115, yq115, zq115⟩, st115⟩ := X112.virtualBack hx (y := (⟨"com/example/pollster/pollster/QueuePops$Popped", "invisibleUntil", "()J"⟩ : MethodName)) (z := (⟨"com/example/pollster/pollster/QueuePops$Popped", "invisibleUntil", "()J"⟩ : MethodName)) hown (mvT hZ (hw _ (List.mem_of_getElem? (i := 69) rfl))) (mvT hZ (hw _ (List.mem_of_getElem? (i := 70) rfl))) (notFace_of_selects (args := #[]) (mvT hZ (hw _ (List.mem_of_getElem? (i := 72) rfl)))) (mvT hZ (hw _ (List.mem_of_getElem? (i := 72) rfl))) (mvT hZ (hw _ (List.mem_of_getElem? (i := 71) rfl))) (by decide) (backOf (W := 0) (rm_inv l Z a0 hw [] ad1 p2 T54.heap n0 Z51 g59) hZ (hw _ (List.mem_of_getElem? (i := 73) rfl)) (hw _ (List.mem_of_getElem? (i := 2) rfl)) (by decide) (by decide)) q116a q116c (g := (mkF m 162 #[.val (.long p0), .second, .val (.int p1), .val (.long p2), .second, .val (.long p3), .second, .val (.long p4), .second, .val (.int p5), .val (.ref ad1), .val (.ref ad15), .val (.ref a50b), .val (.int (own_hid p3 p2)), .val (.long (own_min p3 p4)), .second, .val (.long (own_max p3 p4)), .second] [(.ref ad1)])) rfl (by rw [hml]; rfl) (Steps.refl _) (argsL := []) (rest := []) (lenOf pd_10 rfl) rfl (by show 2 * 0 + _ ≤ _; exact Nat.le_of_eq rfl) (hb hby at_162) (fun _ _ => ⟨rfl, eq111, (by decide : 5 + 0 ≤ _), (by decide : 18 + 0 ≤ _)⟩)
        dsimp only [Pt.U, Pt.locs, Pt.cells, Pt.slots] at X115 lq115 yq115 zq115 st115 hQ115
        subst lq115 yq115 zq115
        obtain ⟨rfl, Nq115, eq114⟩ := hQ115
        have N115 := Fr.app N112 Nq115
        refine own_tr (T' := T115) (g' := (mkF m 165 #[.val (.long p0), .second, .val (.int p1), .val (.long p2), .second, .val (.long p3), .second, .val (.long p4), .second, .val (.int p5), .val (.ref ad1), .val (.ref ad15), .val (.ref a50b), .val (.int (own_hid p3 p2)), .val (.long (own_min p3 p4)), .second, .val (.long (own_max p3 p4)), .second] [(.long p2)])) st115 ?_
        refine own_step (T' := T115) (g' := (mkF m 166 #[.val (.long p0), .second, .val (.int p1), .val (.long p2), .second, .val (.long p3), .second, .val (.long p4), .second, .val (.int p5), .val (.ref ad1), .val (.ref ad15), .val (.ref a50b), .val (.int (own_hid p3 p2)), .val (.long (own_min p3 p4)), .second, .val (.long (own_max p3 p4)), .second] [(.long p2), (.long p2)])) (fun t k => XS.lloadN X115.here hx rfl (hb hby at_165) rfl k) ?_
        refine own_step (T' := T115) (g' := (mkF m 167 #[.val (.long p0), .second, .val (.int p1), .val (.long p2), .second, .val (.long p3), .second, .val (.long p4), .second, .val (.int p5), .val (.ref ad1), .val (.ref ad15), .val (.ref a50b), .val (.int (own_hid p3 p2)), .val (.long (own_min p3 p4)), .second, .val (.long (own_max p3 p4)), .second] [(.int (lcmpW p2 p2))])) (fun t k => XS.lcmp X115.here hx rfl (hb hby at_166) rfl k) ?_
        refine own_step (T' := T115) (g' := (mkF m 170 #[.val (.long p0), .second, .val (.int p1), .val (.long p2), .second, .val (.long p3), .second, .val (.long p4), .second, .val (.int p5), .val (.ref ad1), .val (.ref ad15), .val (.ref a50b), .val (.int (own_hid p3 p2)), .val (.long (own_min p3 p4)), .second, .val (.long (own_max p3 p4)), .second] [])) (fun t k => XS.ifNo X115.here hx rfl (hb hby at_167) rfl ((if0 _ _).trans (teq ((lw_eq _ _).mpr rfl)).2) k) ?_
        refine own_step (T' := T115) (g' := (mkF m 171 #[.val (.long p0), .second, .val (.int p1), .val (.long p2), .second, .val (.long p3), .second, .val (.long p4), .second, .val (.int p5), .val (.ref ad1), .val (.ref ad15), .val (.ref a50b), .val (.int (own_hid p3 p2)), .val (.long (own_min p3 p4)), .second, .val (.long (own_max p3 p4)), .second] [(.int (1 : Int32))])) (fun t k => XS.iconst X115.here hx rfl (hb hby at_170) k) ?_
        refine own_step (T' := T115) (g' := (mkF m 175 #[.val (.long p0), .second, .val (.int p1), .val (.long p2), .second, .val (.long p3), .second, .val (.long p4), .second, .val (.int p5), .val (.ref ad1), .val (.ref ad15), .val (.ref a50b), .val (.int (own_hid p3 p2)), .val (.long (own_min p3 p4)), .second, .val (.long (own_max p3 p4)), .second] [(.int (1 : Int32))])) (fun t k => XS.goto X115.here hx rfl (pc0 := 171) (pc' := 175) rfl (hb hby at_171) (by decide) (by decide) k) ?_
        refine own_rN X115 hx hlk Bd.returns (by simp) (hb hby at_175) ?_ (by decide) (by decide)
        rw [eq114]
        exact ⟨rfl, N115⟩
  · refine own_step (T' := T65) (g' := (mkF m 68 #[.val (.long p0), .second, .val (.int p1), .val (.long p2), .second, .val (.long p3), .second, .val (.long p4), .second, .val (.int p5), .val (.ref ad1), .val (.ref ad15), .val (.ref a50b), .val (.int (own_hid p3 p2)), .unset, .unset, .unset, .unset] [(.int (own_hid p3 p2))])) (fun t k => XS.ifYes X65.here hx rfl (pc0 := 61) (pc' := 68) rfl (hb hby at_61) rfl ((if0 _ _).trans (flt (fun q => c61 ((lw_lt _ _).mp q))).2.1) (by decide) (by decide) k) ?_
    refine own_step (T' := T65) (g' := (mkF m 69 #[.val (.long p0), .second, .val (.int p1), .val (.long p2), .second, .val (.long p3), .second, .val (.long p4), .second, .val (.int p5), .val (.ref ad1), .val (.ref ad15), .val (.ref a50b), .val (.int (own_hid p3 p2)), .unset, .unset, .unset, .unset] [(.int (0 : Int32)), (.int (own_hid p3 p2))])) (fun t k => XS.iconst X65.here hx rfl (hb hby at_68) k) ?_
    refine own_step (T' := T65) (g' := (mkF m 74 #[.val (.long p0), .second, .val (.int p1), .val (.long p2), .second, .val (.long p3), .second, .val (.long p4), .second, .val (.int p5), .val (.ref ad1), .val (.ref ad15), .val (.ref a50b), .val (.int (own_hid p3 p2)), .unset, .unset, .unset, .unset] [])) (fun t k => XS.icmpYes X65.here hx rfl (pc0 := 69) (pc' := 74) rfl (hb hby at_69) rfl (teq (own_h0 c61)).1 (by decide) (by decide) k) ?_
    refine own_step (T' := T65) (g' := (mkF m 76 #[.val (.long p0), .second, .val (.int p1), .val (.long p2), .second, .val (.long p3), .second, .val (.long p4), .second, .val (.int p5), .val (.ref ad1), .val (.ref ad15), .val (.ref a50b), .val (.int (own_hid p3 p2)), .unset, .unset, .unset, .unset] [(.ref ad1)])) (fun t k => XS.aload X65.here hx rfl (hb hby at_74) rfl rfl k) ?_
    refine own_step (T' := T65) (g' := (mkF m 77 #[.val (.long p0), .second, .val (.int p1), .val (.long p2), .second, .val (.long p3), .second, .val (.long p4), .second, .val (.int p5), .val (.ref ad1), .val (.ref ad15), .val (.ref a50b), .val (.int (own_hid p3 p2)), .unset, .unset, .unset, .unset] [(.long p2), (.ref ad1)])) (fun t k => XS.lloadN X65.here hx rfl (hb hby at_76) rfl k) ?_
    obtain ⟨cq119, kq119, q119a, q119b, q119c⟩ := isOf hZ eq64 g56
    obtain ⟨_, _, ⟨T118, L118, k118, n118⟩, -, X118, ⟨Lc118, hQ118, lq118, yq118, zq118⟩, st118⟩ := X65.virtualBack hx (y := (⟨"com/example/pollster/pollster/QueuePops$Popped", "hiddenAt", "(J)Z"⟩ : MethodName)) (z := (⟨"com/example/pollster/pollster/QueuePops$Popped", "hiddenAt", "(J)Z"⟩ : MethodName)) hown (mvT hZ (hw _ (List.mem_of_getElem? (i := 56) rfl))) (mvT hZ (hw _ (List.mem_of_getElem? (i := 57) rfl))) (notFace_of_selects (args := #[]) (mvT hZ (hw _ (List.mem_of_getElem? (i := 59) rfl)))) (mvT hZ (hw _ (List.mem_of_getElem? (i := 59) rfl))) (mvT hZ (hw _ (List.mem_of_getElem? (i := 58) rfl))) (by decide) (backOf (W := 0) (rm_hid l Z a0 hw [] ad1 p2 p2 T54.heap n0 Z51 g59) hZ (hw _ (List.mem_of_getElem? (i := 60) rfl)) (hw _ (List.mem_of_getElem? (i := 2) rfl)) (by decide) (by decide)) q119a q119c (g := (mkF m 77 #[.val (.long p0), .second, .val (.int p1), .val (.long p2), .second, .val (.long p3), .second, .val (.long p4), .second, .val (.int p5), .val (.ref ad1), .val (.ref ad15), .val (.ref a50b), .val (.int (own_hid p3 p2)), .unset, .unset, .unset, .unset] [(.long p2), (.ref ad1)])) rfl (by rw [hml]; rfl) (Steps.refl _) (argsL := [(.long p2)]) (rest := []) (lenOf pd_8 rfl) rfl (by show 2 * 0 + _ ≤ _; exact Nat.le_of_eq rfl) (hb hby at_77) (fun _ _ => ⟨rfl, eq64, (by decide : 5 + 0 ≤ _), (by decide : 18 + 0 ≤ _)⟩)
    dsimp only [Pt.U, Pt.locs, Pt.cells, Pt.slots] at X118 lq118 yq118 zq118 st118 hQ118
    subst lq118 yq118 zq118
    obtain ⟨rfl, Nq118, eq117⟩ := hQ118
    have N118 := Fr.app N65 Nq118
    refine own_tr (T' := T118) (g' := (mkF m 80 #[.val (.long p0), .second, .val (.int p1), .val (.long p2), .second, .val (.long p3), .second, .val (.long p4), .second, .val (.int p5), .val (.ref ad1), .val (.ref ad15), .val (.ref a50b), .val (.int (own_hid p3 p2)), .unset, .unset, .unset, .unset] [(.int (own_hid p2 p2))])) st118 ?_
    refine own_step (T' := T118) (g' := (mkF m 85 #[.val (.long p0), .second, .val (.int p1), .val (.long p2), .second, .val (.long p3), .second, .val (.long p4), .second, .val (.int p5), .val (.ref ad1), .val (.ref ad15), .val (.ref a50b), .val (.int (own_hid p3 p2)), .unset, .unset, .unset, .unset] [])) (fun t k => XS.ifYes X118.here hx rfl (pc0 := 80) (pc' := 85) rfl (hb hby at_80) rfl ((if0 _ _).trans (teq (own_h0 (own_irr _))).1) (by decide) (by decide) k) ?_
    refine own_step (T' := T118) (g' := (mkF m 86 #[.val (.long p0), .second, .val (.int p1), .val (.long p2), .second, .val (.long p3), .second, .val (.long p4), .second, .val (.int p5), .val (.ref ad1), .val (.ref ad15), .val (.ref a50b), .val (.int (own_hid p3 p2)), .unset, .unset, .unset, .unset] [(.long p2)])) (fun t k => XS.lloadN X118.here hx rfl (hb hby at_85) rfl k) ?_
    refine own_step (T' := T118) (g' := (mkF m 89 #[.val (.long p0), .second, .val (.int p1), .val (.long p2), .second, .val (.long p3), .second, .val (.long p4), .second, .val (.int p5), .val (.ref ad1), .val (.ref ad15), .val (.ref a50b), .val (.int (own_hid p3 p2)), .unset, .unset, .unset, .unset] [(.long ((-9223372036854775808) : Int64)), (.long p2)])) (X118.ldc2Long hx hown (mvT hZ (hw _ (List.mem_of_getElem? (i := 61) rfl))) (g := (mkF m 86 #[.val (.long p0), .second, .val (.int p1), .val (.long p2), .second, .val (.long p3), .second, .val (.long p4), .second, .val (.int p5), .val (.ref ad1), .val (.ref ad15), .val (.ref a50b), .val (.int (own_hid p3 p2)), .unset, .unset, .unset, .unset] [(.long p2)])) rfl (hb hby at_86)) ?_
    refine own_step (T' := T118) (g' := (mkF m 90 #[.val (.long p0), .second, .val (.int p1), .val (.long p2), .second, .val (.long p3), .second, .val (.long p4), .second, .val (.int p5), .val (.ref ad1), .val (.ref ad15), .val (.ref a50b), .val (.int (own_hid p3 p2)), .unset, .unset, .unset, .unset] [(.int (lcmpW p2 ((-9223372036854775808) : Int64)))])) (fun t k => XS.lcmp X118.here hx rfl (hb hby at_89) rfl k) ?_
    by_cases c90 : p2 = ((-9223372036854775808) : Int64)
    · refine own_step (T' := T118) (g' := (mkF m 106 #[.val (.long p0), .second, .val (.int p1), .val (.long p2), .second, .val (.long p3), .second, .val (.long p4), .second, .val (.int p5), .val (.ref ad1), .val (.ref ad15), .val (.ref a50b), .val (.int (own_hid p3 p2)), .unset, .unset, .unset, .unset] [])) (fun t k => XS.ifYes X118.here hx rfl (pc0 := 90) (pc' := 106) rfl (hb hby at_90) rfl ((if0 _ _).trans (teq ((lw_eq _ _).mpr c90)).1) (by decide) (by decide) k) ?_
      refine own_step (T' := T118) (g' := (mkF m 108 #[.val (.long p0), .second, .val (.int p1), .val (.long p2), .second, .val (.long p3), .second, .val (.long p4), .second, .val (.int p5), .val (.ref ad1), .val (.ref ad15), .val (.ref a50b), .val (.int (own_hid p3 p2)), .unset, .unset, .unset, .unset] [(.long p3)])) (fun t k => XS.lload X118.here hx rfl (hb hby at_106) rfl k) ?_
      refine own_step (T' := T118) (g' := (mkF m 110 #[.val (.long p0), .second, .val (.int p1), .val (.long p2), .second, .val (.long p3), .second, .val (.long p4), .second, .val (.int p5), .val (.ref ad1), .val (.ref ad15), .val (.ref a50b), .val (.int (own_hid p3 p2)), .unset, .unset, .unset, .unset] [(.long p4), (.long p3)])) (fun t k => XS.lload X118.here hx rfl (hb hby at_108) rfl k) ?_
      obtain ⟨_, _, ⟨T121, L121, k121, n121⟩, -, X121, ⟨Lc121, hQ121, lq121, yq121, zq121⟩, st121⟩ := Jvm.LawKit.callS X118 hx (y := (⟨"java/lang/Math", "min", "(JJ)J"⟩ : MethodName)) hown (mvT hZ (hw _ (List.mem_of_getElem? (i := 62) rfl))) (mvT hZ (hw _ (List.mem_of_getElem? (i := 63) rfl))) (mvT hZ (hw _ (List.mem_of_getElem? (i := 64) rfl))) (mvT hZ (hw _ (List.mem_of_getElem? (i := 65) rfl))) (by decide) (backOf (W := 0) (rm_min l Z a0 hw [] p3 p4 T54.heap n0 Z51 ) hZ (hw _ (List.mem_of_getElem? (i := 65) rfl)) (hw _ (List.mem_of_getElem? (i := 64) rfl)) (by decide) (by decide)) (g := (mkF m 110 #[.val (.long p0), .second, .val (.int p1), .val (.long p2), .second, .val (.long p3), .second, .val (.long p4), .second, .val (.int p5), .val (.ref ad1), .val (.ref ad15), .val (.ref a50b), .val (.int (own_hid p3 p2)), .unset, .unset, .unset, .unset] [(.long p4), (.long p3)])) rfl (by rw [hml]; rfl) (argsL := [(.long p3), (.long p4)]) (rest := []) (lenOf pd_9 rfl) rfl (by show 2 * 0 + _ ≤ _; exact Nat.le_of_eq rfl) (hb hby at_110) (fun _ _ => ⟨rfl, eq117, (by decide : 5 + 0 ≤ _), (by decide : 18 + 0 ≤ _)⟩)
      dsimp only [Pt.U, Pt.locs, Pt.cells, Pt.slots] at X121 lq121 yq121 zq121 st121 hQ121
      subst lq121 yq121 zq121
      obtain ⟨rfl, Nq121, eq120⟩ := hQ121
      have N121 := Fr.app N118 Nq121
      refine own_step (T' := T121) (g' := (mkF m 113 #[.val (.long p0), .second, .val (.int p1), .val (.long p2), .second, .val (.long p3), .second, .val (.long p4), .second, .val (.int p5), .val (.ref ad1), .val (.ref ad15), .val (.ref a50b), .val (.int (own_hid p3 p2)), .unset, .unset, .unset, .unset] [(.long (own_min p3 p4))])) st121 ?_
      refine own_step (T' := T121) (g' := (mkF m 115 #[.val (.long p0), .second, .val (.int p1), .val (.long p2), .second, .val (.long p3), .second, .val (.long p4), .second, .val (.int p5), .val (.ref ad1), .val (.ref ad15), .val (.ref a50b), .val (.int (own_hid p3 p2)), .val (.long (own_min p3 p4)), .second, .unset, .unset] [])) (fun t k => XS.lstore X121.here hx rfl (hb hby at_113) rfl (l' := #[.val (.long p0), .second, .val (.int p1), .val (.long p2), .second, .val (.long p3), .second, .val (.long p4), .second, .val (.int p5), .val (.ref ad1), .val (.ref ad15), .val (.ref a50b), .val (.int (own_hid p3 p2)), .val (.long (own_min p3 p4)), .second, .unset, .unset]) rfl k) ?_
      refine own_step (T' := T121) (g' := (mkF m 117 #[.val (.long p0), .second, .val (.int p1), .val (.long p2), .second, .val (.long p3), .second, .val (.long p4), .second, .val (.int p5), .val (.ref ad1), .val (.ref ad15), .val (.ref a50b), .val (.int (own_hid p3 p2)), .val (.long (own_min p3 p4)), .second, .unset, .unset] [(.long p3)])) (fun t k => XS.lload X121.here hx rfl (hb hby at_115) rfl k) ?_
      refine own_step (T' := T121) (g' := (mkF m 119 #[.val (.long p0), .second, .val (.int p1), .val (.long p2), .second, .val (.long p3), .second, .val (.long p4), .second, .val (.int p5), .val (.ref ad1), .val (.ref ad15), .val (.ref a50b), .val (.int (own_hid p3 p2)), .val (.long (own_min p3 p4)), .second, .unset, .unset] [(.long p4), (.long p3)])) (fun t k => XS.lload X121.here hx rfl (hb hby at_117) rfl k) ?_
      obtain ⟨_, _, ⟨T123, L123, k123, n123⟩, -, X123, ⟨Lc123, hQ123, lq123, yq123, zq123⟩, st123⟩ := Jvm.LawKit.callS X121 hx (y := (⟨"java/lang/Math", "max", "(JJ)J"⟩ : MethodName)) hown (mvT hZ (hw _ (List.mem_of_getElem? (i := 66) rfl))) (mvT hZ (hw _ (List.mem_of_getElem? (i := 67) rfl))) (mvT hZ (hw _ (List.mem_of_getElem? (i := 64) rfl))) (mvT hZ (hw _ (List.mem_of_getElem? (i := 68) rfl))) (by decide) (backOf (W := 0) (rm_max l Z a0 hw [] p3 p4 T54.heap n0 Z51 ) hZ (hw _ (List.mem_of_getElem? (i := 68) rfl)) (hw _ (List.mem_of_getElem? (i := 64) rfl)) (by decide) (by decide)) (g := (mkF m 119 #[.val (.long p0), .second, .val (.int p1), .val (.long p2), .second, .val (.long p3), .second, .val (.long p4), .second, .val (.int p5), .val (.ref ad1), .val (.ref ad15), .val (.ref a50b), .val (.int (own_hid p3 p2)), .val (.long (own_min p3 p4)), .second, .unset, .unset] [(.long p4), (.long p3)])) rfl (by rw [hml]; rfl) (argsL := [(.long p3), (.long p4)]) (rest := []) (lenOf pd_9 rfl) rfl (by show 2 * 0 + _ ≤ _; exact Nat.le_of_eq rfl) (hb hby at_119) (fun _ _ => ⟨rfl, eq120, (by decide : 5 + 0 ≤ _), (by decide : 18 + 0 ≤ _)⟩)
      dsimp only [Pt.U, Pt.locs, Pt.cells, Pt.slots] at X123 lq123 yq123 zq123 st123 hQ123
      subst lq123 yq123 zq123
      obtain ⟨rfl, Nq123, eq122⟩ := hQ123
      have N123 := Fr.app N121 Nq123
      refine own_step (T' := T123) (g' := (mkF m 122 #[.val (.long p0), .second, .val (.int p1), .val (.long p2), .second, .val (.long p3), .second, .val (.long p4), .second, .val (.int p5), .val (.ref ad1), .val (.ref ad15), .val (.ref a50b), .val (.int (own_hid p3 p2)), .val (.long (own_min p3 p4)), .second, .unset, .unset] [(.long (own_max p3 p4))])) st123 ?_
      refine own_step (T' := T123) (g' := (mkF m 124 #[.val (.long p0), .second, .val (.int p1), .val (.long p2), .second, .val (.long p3), .second, .val (.long p4), .second, .val (.int p5), .val (.ref ad1), .val (.ref ad15), .val (.ref a50b), .val (.int (own_hid p3 p2)), .val (.long (own_min p3 p4)), .second, .val (.long (own_max p3 p4)), .second] [])) (fun t k => XS.lstore X123.here hx rfl (hb hby at_122) rfl (l' := #[.val (.long p0), .second, .val (.int p1), .val (.long p2), .second, .val (.long p3), .second, .val (.long p4), .second, .val (.int p5), .val (.ref ad1), .val (.ref ad15), .val (.ref a50b), .val (.int (own_hid p3 p2)), .val (.long (own_min p3 p4)), .second, .val (.long (own_max p3 p4)), .second]) rfl k) ?_
      refine own_step (T' := T123) (g' := (mkF m 126 #[.val (.long p0), .second, .val (.int p1), .val (.long p2), .second, .val (.long p3), .second, .val (.long p4), .second, .val (.int p5), .val (.ref ad1), .val (.ref ad15), .val (.ref a50b), .val (.int (own_hid p3 p2)), .val (.long (own_min p3 p4)), .second, .val (.long (own_max p3 p4)), .second] [(.ref ad1)])) (fun t k => XS.aload X123.here hx rfl (hb hby at_124) rfl rfl k) ?_
      refine own_step (T' := T123) (g' := (mkF m 128 #[.val (.long p0), .second, .val (.int p1), .val (.long p2), .second, .val (.long p3), .second, .val (.long p4), .second, .val (.int p5), .val (.ref ad1), .val (.ref ad15), .val (.ref a50b), .val (.int (own_hid p3 p2)), .val (.long (own_min p3 p4)), .second, .val (.long (own_max p3 p4)), .second] [(.long (own_max p3 p4)), (.ref ad1)])) (fun t k => XS.lload X123.here hx rfl (hb hby at_126) rfl k) ?_
      obtain ⟨cq126, kq126, q126a, q126b, q126c⟩ := isOf hZ eq122 g56
      obtain ⟨_, _, ⟨T125, L125, k125, n125⟩, -, X125, ⟨Lc125, hQ125, lq125, yq125, zq125⟩, st125⟩ := X123.virtualBack hx (y := (⟨"com/example/pollster/pollster/QueuePops$Popped", "hiddenAt", "(J)Z"⟩ : MethodName)) (z := (⟨"com/example/pollster/pollster/QueuePops$Popped", "hiddenAt", "(J)Z"⟩ : MethodName)) hown (mvT hZ (hw _ (List.mem_of_getElem? (i := 56) rfl))) (mvT hZ (hw _ (List.mem_of_getElem? (i := 57) rfl))) (notFace_of_selects (args := #[]) (mvT hZ (hw _ (List.mem_of_getElem? (i := 59) rfl)))) (mvT hZ (hw _ (List.mem_of_getElem? (i := 59) rfl))) (mvT hZ (hw _ (List.mem_of_getElem? (i := 58) rfl))) (by decide) (backOf (W := 0) (rm_hid l Z a0 hw [] ad1 (own_max p3 p4) p2 T54.heap n0 Z51 g59) hZ (hw _ (List.mem_of_getElem? (i := 60) rfl)) (hw _ (List.mem_of_getElem? (i := 2) rfl)) (by decide) (by decide)) q126a q126c (g := (mkF m 128 #[.val (.long p0), .second, .val (.int p1), .val (.long p2), .second, .val (.long p3), .second, .val (.long p4), .second, .val (.int p5), .val (.ref ad1), .val (.ref ad15), .val (.ref a50b), .val (.int (own_hid p3 p2)), .val (.long (own_min p3 p4)), .second, .val (.long (own_max p3 p4)), .second] [(.long (own_max p3 p4)), (.ref ad1)])) rfl (by rw [hml]; rfl) (Steps.refl _) (argsL := [(.long (own_max p3 p4))]) (rest := []) (lenOf pd_8 rfl) rfl (by show 2 * 0 + _ ≤ _; exact Nat.le_of_eq rfl) (hb hby at_128) (fun _ _ => ⟨rfl, eq122, (by decide : 5 + 0 ≤ _), (by decide : 18 + 0 ≤ _)⟩)
      dsimp only [Pt.U, Pt.locs, Pt.cells, Pt.slots] at X125 lq125 yq125 zq125 st125 hQ125
      subst lq125 yq125 zq125
      obtain ⟨rfl, Nq125, eq124⟩ := hQ125
      have N125 := Fr.app N123 Nq125
      refine own_tr (T' := T125) (g' := (mkF m 131 #[.val (.long p0), .second, .val (.int p1), .val (.long p2), .second, .val (.long p3), .second, .val (.long p4), .second, .val (.int p5), .val (.ref ad1), .val (.ref ad15), .val (.ref a50b), .val (.int (own_hid p3 p2)), .val (.long (own_min p3 p4)), .second, .val (.long (own_max p3 p4)), .second] [(.int (own_hid (own_max p3 p4) p2))])) st125 ?_
      by_cases c131 : (own_hid (own_max p3 p4) p2) = (0 : Int32)
      · refine own_step (T' := T125) (g' := (mkF m 146 #[.val (.long p0), .second, .val (.int p1), .val (.long p2), .second, .val (.long p3), .second, .val (.long p4), .second, .val (.int p5), .val (.ref ad1), .val (.ref ad15), .val (.ref a50b), .val (.int (own_hid p3 p2)), .val (.long (own_min p3 p4)), .second, .val (.long (own_max p3 p4)), .second] [])) (fun t k => XS.ifYes X125.here hx rfl (pc0 := 131) (pc' := 146) rfl (hb hby at_131) rfl ((if0 _ _).trans (teq c131).1) (by decide) (by decide) k) ?_
        refine own_step (T' := T125) (g' := (mkF m 148 #[.val (.long p0), .second, .val (.int p1), .val (.long p2), .second, .val (.long p3), .second, .val (.long p4), .second, .val (.int p5), .val (.ref ad1), .val (.ref ad15), .val (.ref a50b), .val (.int (own_hid p3 p2)), .val (.long (own_min p3 p4)), .second, .val (.long (own_max p3 p4)), .second] [(.ref a50b)])) (fun t k => XS.aload X125.here hx rfl (hb hby at_146) rfl rfl k) ?_
        refine own_step (T' := T125) (g' := (mkF m 150 #[.val (.long p0), .second, .val (.int p1), .val (.long p2), .second, .val (.long p3), .second, .val (.long p4), .second, .val (.int p5), .val (.ref ad1), .val (.ref ad15), .val (.ref a50b), .val (.int (own_hid p3 p2)), .val (.long (own_min p3 p4)), .second, .val (.long (own_max p3 p4)), .second] [(.long p3), (.ref a50b)])) (fun t k => XS.lload X125.here hx rfl (hb hby at_148) rfl k) ?_
        obtain ⟨cq129, kq129, q129a, q129b, q129c⟩ := isOf hZ eq124 g52
        obtain ⟨_, _, ⟨T128, L128, k128, n128⟩, -, X128, ⟨Lc128, hQ128, lq128, yq128, zq128⟩, st128⟩ := X125.virtualBack hx (y := (⟨"com/example/pollster/pollster/QueuePops$Popped", "hiddenAt", "(J)Z"⟩ : MethodName)) (z := (⟨"com/example/pollster/pollster/QueuePops$Popped", "hiddenAt", "(J)Z"⟩ : MethodName)) hown (mvT hZ (hw _ (List.mem_of_getElem? (i := 56) rfl))) (mvT hZ (hw _ (List.mem_of_getElem? (i := 57) rfl))) (notFace_of_selects (args := #[]) (mvT hZ (hw _ (List.mem_of_getElem? (i := 59) rfl)))) (mvT hZ (hw _ (List.mem_of_getElem? (i := 59) rfl))) (mvT hZ (hw _ (List.mem_of_getElem? (i := 58) rfl))) (by decide) (backOf (W := 0) (rm_hid l Z a0 hw [] a50b p3 p2 T54.heap n0 Z51 g53) hZ (hw _ (List.mem_of_getElem? (i := 60) rfl)) (hw _ (List.mem_of_getElem? (i := 2) rfl)) (by decide) (by decide)) q129a q129c (g := (mkF m 150 #[.val (.long p0), .second, .val (.int p1), .val (.long p2), .second, .val (.long p3), .second, .val (.long p4), .second, .val (.int p5), .val (.ref ad1), .val (.ref ad15), .val (.ref a50b), .val (.int (own_hid p3 p2)), .val (.long (own_min p3 p4)), .second, .val (.long (own_max p3 p4)), .second] [(.long p3), (.ref a50b)])) rfl (by rw [hml]; rfl) (Steps.refl _) (argsL := [(.long p3)]) (rest := []) (lenOf pd_8 rfl) rfl (by show 2 * 0 + _ ≤ _; exact Nat.le_of_eq rfl) (hb hby at_150) (fun _ _ => ⟨rfl, eq124, (by decide : 5 + 0 ≤ _), (by decide : 18 + 0 ≤ _)⟩)
        dsimp only [Pt.U, Pt.locs, Pt.cells, Pt.slots] at X128 lq128 yq128 zq128 st128 hQ128
        subst lq128 yq128 zq128
        obtain ⟨rfl, Nq128, eq127⟩ := hQ128
        have N128 := Fr.app N125 Nq128
        refine own_tr (T' := T128) (g' := (mkF m 153 #[.val (.long p0), .second, .val (.int p1), .val (.long p2), .second, .val (.long p3), .second, .val (.long p4), .second, .val (.int p5), .val (.ref ad1), .val (.ref ad15), .val (.ref a50b), .val (.int (own_hid p3 p2)), .val (.long (own_min p3 p4)), .second, .val (.long (own_max p3 p4)), .second] [(.int (own_hid p3 p2))])) st128 ?_
        refine own_step (T' := T128) (g' := (mkF m 155 #[.val (.long p0), .second, .val (.int p1), .val (.long p2), .second, .val (.long p3), .second, .val (.long p4), .second, .val (.int p5), .val (.ref ad1), .val (.ref ad15), .val (.ref a50b), .val (.int (own_hid p3 p2)), .val (.long (own_min p3 p4)), .second, .val (.long (own_max p3 p4)), .second] [(.int (own_hid p3 p2)), (.int (own_hid p3 p2))])) (fun t k => XS.iload X128.here hx rfl (hb hby at_153) rfl k) ?_
        refine own_step (T' := T128) (g' := (mkF m 160 #[.val (.long p0), .second, .val (.int p1), .val (.long p2), .second, .val (.long p3), .second, .val (.long p4), .second, .val (.int p5), .val (.ref ad1), .val (.ref ad15), .val (.ref a50b), .val (.int (own_hid p3 p2)), .val (.long (own_min p3 p4)), .second, .val (.long (own_max p3 p4)), .second] [])) (fun t k => XS.icmpYes X128.here hx rfl (pc0 := 155) (pc' := 160) rfl (hb hby at_155) rfl (teq rfl).1 (by decide) (by decide) k) ?_
        refine own_step (T' := T128) (g' := (mkF m 162 #[.val (.long p0), .second, .val (.int p1), .val (.long p2), .second, .val (.long p3), .second, .val (.long p4), .second, .val (.int p5), .val (.ref ad1), .val (.ref ad15), .val (.ref a50b), .val (.int (own_hid p3 p2)), .val (.long (own_min p3 p4)), .second, .val (.long (own_max p3 p4)), .second] [(.ref ad1)])) (fun t k => XS.aload X128.here hx rfl (hb hby at_160) rfl rfl k) ?_
        obtain ⟨cq132, kq132, q132a, q132b, q132c⟩ := isOf hZ eq127 g56
        obtain ⟨_, _, ⟨T131, L131, k131, n131⟩, -, X131, ⟨Lc131, hQ131, lq131, yq131, zq131⟩, st131⟩ := X128.virtualBack hx (y := (⟨"com/example/pollster/pollster/QueuePops$Popped", "invisibleUntil", "()J"⟩ : MethodName)) (z := (⟨"com/example/pollster/pollster/QueuePops$Popped", "invisibleUntil", "()J"⟩ : MethodName)) hown (mvT hZ (hw _ (List.mem_of_getElem? (i := 69) rfl))) (mvT hZ (hw _ (List.mem_of_getElem? (i := 70) rfl))) (notFace_of_selects (args := #[]) (mvT hZ (hw _ (List.mem_of_getElem? (i := 72) rfl)))) (mvT hZ (hw _ (List.mem_of_getElem? (i := 72) rfl))) (mvT hZ (hw _ (List.mem_of_getElem? (i := 71) rfl))) (by decide) (backOf (W := 0) (rm_inv l Z a0 hw [] ad1 p2 T54.heap n0 Z51 g59) hZ (hw _ (List.mem_of_getElem? (i := 73) rfl)) (hw _ (List.mem_of_getElem? (i := 2) rfl)) (by decide) (by decide)) q132a q132c (g := (mkF m 162 #[.val (.long p0), .second, .val (.int p1), .val (.long p2), .second, .val (.long p3), .second, .val (.long p4), .second, .val (.int p5), .val (.ref ad1), .val (.ref ad15), .val (.ref a50b), .val (.int (own_hid p3 p2)), .val (.long (own_min p3 p4)), .second, .val (.long (own_max p3 p4)), .second] [(.ref ad1)])) rfl (by rw [hml]; rfl) (Steps.refl _) (argsL := []) (rest := []) (lenOf pd_10 rfl) rfl (by show 2 * 0 + _ ≤ _; exact Nat.le_of_eq rfl) (hb hby at_162) (fun _ _ => ⟨rfl, eq127, (by decide : 5 + 0 ≤ _), (by decide : 18 + 0 ≤ _)⟩)
        dsimp only [Pt.U, Pt.locs, Pt.cells, Pt.slots] at X131 lq131 yq131 zq131 st131 hQ131
        subst lq131 yq131 zq131
        obtain ⟨rfl, Nq131, eq130⟩ := hQ131
        have N131 := Fr.app N128 Nq131
        refine own_tr (T' := T131) (g' := (mkF m 165 #[.val (.long p0), .second, .val (.int p1), .val (.long p2), .second, .val (.long p3), .second, .val (.long p4), .second, .val (.int p5), .val (.ref ad1), .val (.ref ad15), .val (.ref a50b), .val (.int (own_hid p3 p2)), .val (.long (own_min p3 p4)), .second, .val (.long (own_max p3 p4)), .second] [(.long p2)])) st131 ?_
        refine own_step (T' := T131) (g' := (mkF m 166 #[.val (.long p0), .second, .val (.int p1), .val (.long p2), .second, .val (.long p3), .second, .val (.long p4), .second, .val (.int p5), .val (.ref ad1), .val (.ref ad15), .val (.ref a50b), .val (.int (own_hid p3 p2)), .val (.long (own_min p3 p4)), .second, .val (.long (own_max p3 p4)), .second] [(.long p2), (.long p2)])) (fun t k => XS.lloadN X131.here hx rfl (hb hby at_165) rfl k) ?_
        refine own_step (T' := T131) (g' := (mkF m 167 #[.val (.long p0), .second, .val (.int p1), .val (.long p2), .second, .val (.long p3), .second, .val (.long p4), .second, .val (.int p5), .val (.ref ad1), .val (.ref ad15), .val (.ref a50b), .val (.int (own_hid p3 p2)), .val (.long (own_min p3 p4)), .second, .val (.long (own_max p3 p4)), .second] [(.int (lcmpW p2 p2))])) (fun t k => XS.lcmp X131.here hx rfl (hb hby at_166) rfl k) ?_
        refine own_step (T' := T131) (g' := (mkF m 170 #[.val (.long p0), .second, .val (.int p1), .val (.long p2), .second, .val (.long p3), .second, .val (.long p4), .second, .val (.int p5), .val (.ref ad1), .val (.ref ad15), .val (.ref a50b), .val (.int (own_hid p3 p2)), .val (.long (own_min p3 p4)), .second, .val (.long (own_max p3 p4)), .second] [])) (fun t k => XS.ifNo X131.here hx rfl (hb hby at_167) rfl ((if0 _ _).trans (teq ((lw_eq _ _).mpr rfl)).2) k) ?_
        refine own_step (T' := T131) (g' := (mkF m 171 #[.val (.long p0), .second, .val (.int p1), .val (.long p2), .second, .val (.long p3), .second, .val (.long p4), .second, .val (.int p5), .val (.ref ad1), .val (.ref ad15), .val (.ref a50b), .val (.int (own_hid p3 p2)), .val (.long (own_min p3 p4)), .second, .val (.long (own_max p3 p4)), .second] [(.int (1 : Int32))])) (fun t k => XS.iconst X131.here hx rfl (hb hby at_170) k) ?_
        refine own_step (T' := T131) (g' := (mkF m 175 #[.val (.long p0), .second, .val (.int p1), .val (.long p2), .second, .val (.long p3), .second, .val (.long p4), .second, .val (.int p5), .val (.ref ad1), .val (.ref ad15), .val (.ref a50b), .val (.int (own_hid p3 p2)), .val (.long (own_min p3 p4)), .second, .val (.long (own_max p3 p4)), .second] [(.int (1 : Int32))])) (fun t k => XS.goto X131.here hx rfl (pc0 := 171) (pc' := 175) rfl (hb hby at_171) (by decide) (by decide) k) ?_
        refine own_rN X131 hx hlk Bd.returns (by simp) (hb hby at_175) ?_ (by decide) (by decide)
        rw [eq130]
        exact ⟨rfl, N131⟩
      · refine own_step (T' := T125) (g' := (mkF m 134 #[.val (.long p0), .second, .val (.int p1), .val (.long p2), .second, .val (.long p3), .second, .val (.long p4), .second, .val (.int p5), .val (.ref ad1), .val (.ref ad15), .val (.ref a50b), .val (.int (own_hid p3 p2)), .val (.long (own_min p3 p4)), .second, .val (.long (own_max p3 p4)), .second] [])) (fun t k => XS.ifNo X125.here hx rfl (hb hby at_131) rfl ((if0 _ _).trans (feq c131).1) k) ?_
        refine own_step (T' := T125) (g' := (mkF m 136 #[.val (.long p0), .second, .val (.int p1), .val (.long p2), .second, .val (.long p3), .second, .val (.long p4), .second, .val (.int p5), .val (.ref ad1), .val (.ref ad15), .val (.ref a50b), .val (.int (own_hid p3 p2)), .val (.long (own_min p3 p4)), .second, .val (.long (own_max p3 p4)), .second] [(.ref ad1)])) (fun t k => XS.aload X125.here hx rfl (hb hby at_134) rfl rfl k) ?_
        refine own_step (T' := T125) (g' := (mkF m 138 #[.val (.long p0), .second, .val (.int p1), .val (.long p2), .second, .val (.long p3), .second, .val (.long p4), .second, .val (.int p5), .val (.ref ad1), .val (.ref ad15), .val (.ref a50b), .val (.int (own_hid p3 p2)), .val (.long (own_min p3 p4)), .second, .val (.long (own_max p3 p4)), .second] [(.long (own_min p3 p4)), (.ref ad1)])) (fun t k => XS.lload X125.here hx rfl (hb hby at_136) rfl k) ?_
        obtain ⟨cq135, kq135, q135a, q135b, q135c⟩ := isOf hZ eq124 g56
        obtain ⟨_, _, ⟨T134, L134, k134, n134⟩, -, X134, ⟨Lc134, hQ134, lq134, yq134, zq134⟩, st134⟩ := X125.virtualBack hx (y := (⟨"com/example/pollster/pollster/QueuePops$Popped", "hiddenAt", "(J)Z"⟩ : MethodName)) (z := (⟨"com/example/pollster/pollster/QueuePops$Popped", "hiddenAt", "(J)Z"⟩ : MethodName)) hown (mvT hZ (hw _ (List.mem_of_getElem? (i := 56) rfl))) (mvT hZ (hw _ (List.mem_of_getElem? (i := 57) rfl))) (notFace_of_selects (args := #[]) (mvT hZ (hw _ (List.mem_of_getElem? (i := 59) rfl)))) (mvT hZ (hw _ (List.mem_of_getElem? (i := 59) rfl))) (mvT hZ (hw _ (List.mem_of_getElem? (i := 58) rfl))) (by decide) (backOf (W := 0) (rm_hid l Z a0 hw [] ad1 (own_min p3 p4) p2 T54.heap n0 Z51 g59) hZ (hw _ (List.mem_of_getElem? (i := 60) rfl)) (hw _ (List.mem_of_getElem? (i := 2) rfl)) (by decide) (by decide)) q135a q135c (g := (mkF m 138 #[.val (.long p0), .second, .val (.int p1), .val (.long p2), .second, .val (.long p3), .second, .val (.long p4), .second, .val (.int p5), .val (.ref ad1), .val (.ref ad15), .val (.ref a50b), .val (.int (own_hid p3 p2)), .val (.long (own_min p3 p4)), .second, .val (.long (own_max p3 p4)), .second] [(.long (own_min p3 p4)), (.ref ad1)])) rfl (by rw [hml]; rfl) (Steps.refl _) (argsL := [(.long (own_min p3 p4))]) (rest := []) (lenOf pd_8 rfl) rfl (by show 2 * 0 + _ ≤ _; exact Nat.le_of_eq rfl) (hb hby at_138) (fun _ _ => ⟨rfl, eq124, (by decide : 5 + 0 ≤ _), (by decide : 18 + 0 ≤ _)⟩)
        dsimp only [Pt.U, Pt.locs, Pt.cells, Pt.slots] at X134 lq134 yq134 zq134 st134 hQ134
        subst lq134 yq134 zq134
        obtain ⟨rfl, Nq134, eq133⟩ := hQ134
        have N134 := Fr.app N125 Nq134
        refine own_tr (T' := T134) (g' := (mkF m 141 #[.val (.long p0), .second, .val (.int p1), .val (.long p2), .second, .val (.long p3), .second, .val (.long p4), .second, .val (.int p5), .val (.ref ad1), .val (.ref ad15), .val (.ref a50b), .val (.int (own_hid p3 p2)), .val (.long (own_min p3 p4)), .second, .val (.long (own_max p3 p4)), .second] [(.int (own_hid (own_min p3 p4) p2))])) st134 ?_
        refine own_step (T' := T134) (g' := (mkF m 146 #[.val (.long p0), .second, .val (.int p1), .val (.long p2), .second, .val (.long p3), .second, .val (.long p4), .second, .val (.int p5), .val (.ref ad1), .val (.ref ad15), .val (.ref a50b), .val (.int (own_hid p3 p2)), .val (.long (own_min p3 p4)), .second, .val (.long (own_max p3 p4)), .second] [])) (fun t k => XS.ifYes X134.here hx rfl (pc0 := 141) (pc' := 146) rfl (hb hby at_141) rfl ((if0 _ _).trans (feq (by rw [own_h1 (own_mono (own_hid1 c131))]; decide)).2) (by decide) (by decide) k) ?_
        refine own_step (T' := T134) (g' := (mkF m 148 #[.val (.long p0), .second, .val (.int p1), .val (.long p2), .second, .val (.long p3), .second, .val (.long p4), .second, .val (.int p5), .val (.ref ad1), .val (.ref ad15), .val (.ref a50b), .val (.int (own_hid p3 p2)), .val (.long (own_min p3 p4)), .second, .val (.long (own_max p3 p4)), .second] [(.ref a50b)])) (fun t k => XS.aload X134.here hx rfl (hb hby at_146) rfl rfl k) ?_
        refine own_step (T' := T134) (g' := (mkF m 150 #[.val (.long p0), .second, .val (.int p1), .val (.long p2), .second, .val (.long p3), .second, .val (.long p4), .second, .val (.int p5), .val (.ref ad1), .val (.ref ad15), .val (.ref a50b), .val (.int (own_hid p3 p2)), .val (.long (own_min p3 p4)), .second, .val (.long (own_max p3 p4)), .second] [(.long p3), (.ref a50b)])) (fun t k => XS.lload X134.here hx rfl (hb hby at_148) rfl k) ?_
        obtain ⟨cq138, kq138, q138a, q138b, q138c⟩ := isOf hZ eq133 g52
        obtain ⟨_, _, ⟨T137, L137, k137, n137⟩, -, X137, ⟨Lc137, hQ137, lq137, yq137, zq137⟩, st137⟩ := X134.virtualBack hx (y := (⟨"com/example/pollster/pollster/QueuePops$Popped", "hiddenAt", "(J)Z"⟩ : MethodName)) (z := (⟨"com/example/pollster/pollster/QueuePops$Popped", "hiddenAt", "(J)Z"⟩ : MethodName)) hown (mvT hZ (hw _ (List.mem_of_getElem? (i := 56) rfl))) (mvT hZ (hw _ (List.mem_of_getElem? (i := 57) rfl))) (notFace_of_selects (args := #[]) (mvT hZ (hw _ (List.mem_of_getElem? (i := 59) rfl)))) (mvT hZ (hw _ (List.mem_of_getElem? (i := 59) rfl))) (mvT hZ (hw _ (List.mem_of_getElem? (i := 58) rfl))) (by decide) (backOf (W := 0) (rm_hid l Z a0 hw [] a50b p3 p2 T54.heap n0 Z51 g53) hZ (hw _ (List.mem_of_getElem? (i := 60) rfl)) (hw _ (List.mem_of_getElem? (i := 2) rfl)) (by decide) (by decide)) q138a q138c (g := (mkF m 150 #[.val (.long p0), .second, .val (.int p1), .val (.long p2), .second, .val (.long p3), .second, .val (.long p4), .second, .val (.int p5), .val (.ref ad1), .val (.ref ad15), .val (.ref a50b), .val (.int (own_hid p3 p2)), .val (.long (own_min p3 p4)), .second, .val (.long (own_max p3 p4)), .second] [(.long p3), (.ref a50b)])) rfl (by rw [hml]; rfl) (Steps.refl _) (argsL := [(.long p3)]) (rest := []) (lenOf pd_8 rfl) rfl (by show 2 * 0 + _ ≤ _; exact Nat.le_of_eq rfl) (hb hby at_150) (fun _ _ => ⟨rfl, eq133, (by decide : 5 + 0 ≤ _), (by decide : 18 + 0 ≤ _)⟩)
        dsimp only [Pt.U, Pt.locs, Pt.cells, Pt.slots] at X137 lq137 yq137 zq137 st137 hQ137
        subst lq137 yq137 zq137
        obtain ⟨rfl, Nq137, eq136⟩ := hQ137
        have N137 := Fr.app N134 Nq137
        refine own_tr (T' := T137) (g' := (mkF m 153 #[.val (.long p0), .second, .val (.int p1), .val (.long p2), .second, .val (.long p3), .second, .val (.long p4), .second, .val (.int p5), .val (.ref ad1), .val (.ref ad15), .val (.ref a50b), .val (.int (own_hid p3 p2)), .val (.long (own_min p3 p4)), .second, .val (.long (own_max p3 p4)), .second] [(.int (own_hid p3 p2))])) st137 ?_
        refine own_step (T' := T137) (g' := (mkF m 155 #[.val (.long p0), .second, .val (.int p1), .val (.long p2), .second, .val (.long p3), .second, .val (.long p4), .second, .val (.int p5), .val (.ref ad1), .val (.ref ad15), .val (.ref a50b), .val (.int (own_hid p3 p2)), .val (.long (own_min p3 p4)), .second, .val (.long (own_max p3 p4)), .second] [(.int (own_hid p3 p2)), (.int (own_hid p3 p2))])) (fun t k => XS.iload X137.here hx rfl (hb hby at_153) rfl k) ?_
        refine own_step (T' := T137) (g' := (mkF m 160 #[.val (.long p0), .second, .val (.int p1), .val (.long p2), .second, .val (.long p3), .second, .val (.long p4), .second, .val (.int p5), .val (.ref ad1), .val (.ref ad15), .val (.ref a50b), .val (.int (own_hid p3 p2)), .val (.long (own_min p3 p4)), .second, .val (.long (own_max p3 p4)), .second] [])) (fun t k => XS.icmpYes X137.here hx rfl (pc0 := 155) (pc' := 160) rfl (hb hby at_155) rfl (teq rfl).1 (by decide) (by decide) k) ?_
        refine own_step (T' := T137) (g' := (mkF m 162 #[.val (.long p0), .second, .val (.int p1), .val (.long p2), .second, .val (.long p3), .second, .val (.long p4), .second, .val (.int p5), .val (.ref ad1), .val (.ref ad15), .val (.ref a50b), .val (.int (own_hid p3 p2)), .val (.long (own_min p3 p4)), .second, .val (.long (own_max p3 p4)), .second] [(.ref ad1)])) (fun t k => XS.aload X137.here hx rfl (hb hby at_160) rfl rfl k) ?_
        obtain ⟨cq141, kq141, q141a, q141b, q141c⟩ := isOf hZ eq136 g56
        obtain ⟨_, _, ⟨T140, L140, k140, n140⟩, -, X140, ⟨Lc140, hQ140, lq140, yq140, zq140⟩, st140⟩ := X137.virtualBack hx (y := (⟨"com/example/pollster/pollster/QueuePops$Popped", "invisibleUntil", "()J"⟩ : MethodName)) (z := (⟨"com/example/pollster/pollster/QueuePops$Popped", "invisibleUntil", "()J"⟩ : MethodName)) hown (mvT hZ (hw _ (List.mem_of_getElem? (i := 69) rfl))) (mvT hZ (hw _ (List.mem_of_getElem? (i := 70) rfl))) (notFace_of_selects (args := #[]) (mvT hZ (hw _ (List.mem_of_getElem? (i := 72) rfl)))) (mvT hZ (hw _ (List.mem_of_getElem? (i := 72) rfl))) (mvT hZ (hw _ (List.mem_of_getElem? (i := 71) rfl))) (by decide) (backOf (W := 0) (rm_inv l Z a0 hw [] ad1 p2 T54.heap n0 Z51 g59) hZ (hw _ (List.mem_of_getElem? (i := 73) rfl)) (hw _ (List.mem_of_getElem? (i := 2) rfl)) (by decide) (by decide)) q141a q141c (g := (mkF m 162 #[.val (.long p0), .second, .val (.int p1), .val (.long p2), .second, .val (.long p3), .second, .val (.long p4), .second, .val (.int p5), .val (.ref ad1), .val (.ref ad15), .val (.ref a50b), .val (.int (own_hid p3 p2)), .val (.long (own_min p3 p4)), .second, .val (.long (own_max p3 p4)), .second] [(.ref ad1)])) rfl (by rw [hml]; rfl) (Steps.refl _) (argsL := []) (rest := []) (lenOf pd_10 rfl) rfl (by show 2 * 0 + _ ≤ _; exact Nat.le_of_eq rfl) (hb hby at_162) (fun _ _ => ⟨rfl, eq136, (by decide : 5 + 0 ≤ _), (by decide : 18 + 0 ≤ _)⟩)
        dsimp only [Pt.U, Pt.locs, Pt.cells, Pt.slots] at X140 lq140 yq140 zq140 st140 hQ140
        subst lq140 yq140 zq140
        obtain ⟨rfl, Nq140, eq139⟩ := hQ140
        have N140 := Fr.app N137 Nq140
        refine own_tr (T' := T140) (g' := (mkF m 165 #[.val (.long p0), .second, .val (.int p1), .val (.long p2), .second, .val (.long p3), .second, .val (.long p4), .second, .val (.int p5), .val (.ref ad1), .val (.ref ad15), .val (.ref a50b), .val (.int (own_hid p3 p2)), .val (.long (own_min p3 p4)), .second, .val (.long (own_max p3 p4)), .second] [(.long p2)])) st140 ?_
        refine own_step (T' := T140) (g' := (mkF m 166 #[.val (.long p0), .second, .val (.int p1), .val (.long p2), .second, .val (.long p3), .second, .val (.long p4), .second, .val (.int p5), .val (.ref ad1), .val (.ref ad15), .val (.ref a50b), .val (.int (own_hid p3 p2)), .val (.long (own_min p3 p4)), .second, .val (.long (own_max p3 p4)), .second] [(.long p2), (.long p2)])) (fun t k => XS.lloadN X140.here hx rfl (hb hby at_165) rfl k) ?_
        refine own_step (T' := T140) (g' := (mkF m 167 #[.val (.long p0), .second, .val (.int p1), .val (.long p2), .second, .val (.long p3), .second, .val (.long p4), .second, .val (.int p5), .val (.ref ad1), .val (.ref ad15), .val (.ref a50b), .val (.int (own_hid p3 p2)), .val (.long (own_min p3 p4)), .second, .val (.long (own_max p3 p4)), .second] [(.int (lcmpW p2 p2))])) (fun t k => XS.lcmp X140.here hx rfl (hb hby at_166) rfl k) ?_
        refine own_step (T' := T140) (g' := (mkF m 170 #[.val (.long p0), .second, .val (.int p1), .val (.long p2), .second, .val (.long p3), .second, .val (.long p4), .second, .val (.int p5), .val (.ref ad1), .val (.ref ad15), .val (.ref a50b), .val (.int (own_hid p3 p2)), .val (.long (own_min p3 p4)), .second, .val (.long (own_max p3 p4)), .second] [])) (fun t k => XS.ifNo X140.here hx rfl (hb hby at_167) rfl ((if0 _ _).trans (teq ((lw_eq _ _).mpr rfl)).2) k) ?_
        refine own_step (T' := T140) (g' := (mkF m 171 #[.val (.long p0), .second, .val (.int p1), .val (.long p2), .second, .val (.long p3), .second, .val (.long p4), .second, .val (.int p5), .val (.ref ad1), .val (.ref ad15), .val (.ref a50b), .val (.int (own_hid p3 p2)), .val (.long (own_min p3 p4)), .second, .val (.long (own_max p3 p4)), .second] [(.int (1 : Int32))])) (fun t k => XS.iconst X140.here hx rfl (hb hby at_170) k) ?_
        refine own_step (T' := T140) (g' := (mkF m 175 #[.val (.long p0), .second, .val (.int p1), .val (.long p2), .second, .val (.long p3), .second, .val (.long p4), .second, .val (.int p5), .val (.ref ad1), .val (.ref ad15), .val (.ref a50b), .val (.int (own_hid p3 p2)), .val (.long (own_min p3 p4)), .second, .val (.long (own_max p3 p4)), .second] [(.int (1 : Int32))])) (fun t k => XS.goto X140.here hx rfl (pc0 := 171) (pc' := 175) rfl (hb hby at_171) (by decide) (by decide) k) ?_
        refine own_rN X140 hx hlk Bd.returns (by simp) (hb hby at_175) ?_ (by decide) (by decide)
        rw [eq139]
        exact ⟨rfl, N140⟩
    · refine own_step (T' := T118) (g' := (mkF m 93 #[.val (.long p0), .second, .val (.int p1), .val (.long p2), .second, .val (.long p3), .second, .val (.long p4), .second, .val (.int p5), .val (.ref ad1), .val (.ref ad15), .val (.ref a50b), .val (.int (own_hid p3 p2)), .unset, .unset, .unset, .unset] [])) (fun t k => XS.ifNo X118.here hx rfl (hb hby at_90) rfl ((if0 _ _).trans (feq (fun q => c90 ((lw_eq _ _).mp q))).1) k) ?_
      refine own_step (T' := T118) (g' := (mkF m 95 #[.val (.long p0), .second, .val (.int p1), .val (.long p2), .second, .val (.long p3), .second, .val (.long p4), .second, .val (.int p5), .val (.ref ad1), .val (.ref ad15), .val (.ref a50b), .val (.int (own_hid p3 p2)), .unset, .unset, .unset, .unset] [(.ref ad1)])) (fun t k => XS.aload X118.here hx rfl (hb hby at_93) rfl rfl k) ?_
      refine own_step (T' := T118) (g' := (mkF m 96 #[.val (.long p0), .second, .val (.int p1), .val (.long p2), .second, .val (.long p3), .second, .val (.long p4), .second, .val (.int p5), .val (.ref ad1), .val (.ref ad15), .val (.ref a50b), .val (.int (own_hid p3 p2)), .unset, .unset, .unset, .unset] [(.long p2), (.ref ad1)])) (fun t k => XS.lloadN X118.here hx rfl (hb hby at_95) rfl k) ?_
      refine own_step (T' := T118) (g' := (mkF m 97 #[.val (.long p0), .second, .val (.int p1), .val (.long p2), .second, .val (.long p3), .second, .val (.long p4), .second, .val (.int p5), .val (.ref ad1), .val (.ref ad15), .val (.ref a50b), .val (.int (own_hid p3 p2)), .unset, .unset, .unset, .unset] [(.long (1 : Int64)), (.long p2), (.ref ad1)])) (fun t k => XS.lconst X118.here hx rfl (hb hby at_96) k) ?_
      refine own_step (T' := T118) (g' := (mkF m 98 #[.val (.long p0), .second, .val (.int p1), .val (.long p2), .second, .val (.long p3), .second, .val (.long p4), .second, .val (.int p5), .val (.ref ad1), .val (.ref ad15), .val (.ref a50b), .val (.int (own_hid p3 p2)), .unset, .unset, .unset, .unset] [(.long (p2 - (1 : Int64))), (.ref ad1)])) (fun t k => XS.lsub X118.here hx rfl (hb hby at_97) rfl k) ?_
      obtain ⟨cq144, kq144, q144a, q144b, q144c⟩ := isOf hZ eq117 g56
      obtain ⟨_, _, ⟨T143, L143, k143, n143⟩, -, X143, ⟨Lc143, hQ143, lq143, yq143, zq143⟩, st143⟩ := X118.virtualBack hx (y := (⟨"com/example/pollster/pollster/QueuePops$Popped", "hiddenAt", "(J)Z"⟩ : MethodName)) (z := (⟨"com/example/pollster/pollster/QueuePops$Popped", "hiddenAt", "(J)Z"⟩ : MethodName)) hown (mvT hZ (hw _ (List.mem_of_getElem? (i := 56) rfl))) (mvT hZ (hw _ (List.mem_of_getElem? (i := 57) rfl))) (notFace_of_selects (args := #[]) (mvT hZ (hw _ (List.mem_of_getElem? (i := 59) rfl)))) (mvT hZ (hw _ (List.mem_of_getElem? (i := 59) rfl))) (mvT hZ (hw _ (List.mem_of_getElem? (i := 58) rfl))) (by decide) (backOf (W := 0) (rm_hid l Z a0 hw [] ad1 (p2 - (1 : Int64)) p2 T54.heap n0 Z51 g59) hZ (hw _ (List.mem_of_getElem? (i := 60) rfl)) (hw _ (List.mem_of_getElem? (i := 2) rfl)) (by decide) (by decide)) q144a q144c (g := (mkF m 98 #[.val (.long p0), .second, .val (.int p1), .val (.long p2), .second, .val (.long p3), .second, .val (.long p4), .second, .val (.int p5), .val (.ref ad1), .val (.ref ad15), .val (.ref a50b), .val (.int (own_hid p3 p2)), .unset, .unset, .unset, .unset] [(.long (p2 - (1 : Int64))), (.ref ad1)])) rfl (by rw [hml]; rfl) (Steps.refl _) (argsL := [(.long (p2 - (1 : Int64)))]) (rest := []) (lenOf pd_8 rfl) rfl (by show 2 * 0 + _ ≤ _; exact Nat.le_of_eq rfl) (hb hby at_98) (fun _ _ => ⟨rfl, eq117, (by decide : 5 + 0 ≤ _), (by decide : 18 + 0 ≤ _)⟩)
      dsimp only [Pt.U, Pt.locs, Pt.cells, Pt.slots] at X143 lq143 yq143 zq143 st143 hQ143
      subst lq143 yq143 zq143
      obtain ⟨rfl, Nq143, eq142⟩ := hQ143
      have N143 := Fr.app N118 Nq143
      refine own_tr (T' := T143) (g' := (mkF m 101 #[.val (.long p0), .second, .val (.int p1), .val (.long p2), .second, .val (.long p3), .second, .val (.long p4), .second, .val (.int p5), .val (.ref ad1), .val (.ref ad15), .val (.ref a50b), .val (.int (own_hid p3 p2)), .unset, .unset, .unset, .unset] [(.int (own_hid (p2 - (1 : Int64)) p2))])) st143 ?_
      refine own_step (T' := T143) (g' := (mkF m 106 #[.val (.long p0), .second, .val (.int p1), .val (.long p2), .second, .val (.long p3), .second, .val (.long p4), .second, .val (.int p5), .val (.ref ad1), .val (.ref ad15), .val (.ref a50b), .val (.int (own_hid p3 p2)), .unset, .unset, .unset, .unset] [])) (fun t k => XS.ifYes X143.here hx rfl (pc0 := 101) (pc' := 106) rfl (hb hby at_101) rfl ((if0 _ _).trans (feq (by rw [own_h1 (own_pred c90)]; decide)).2) (by decide) (by decide) k) ?_
      refine own_step (T' := T143) (g' := (mkF m 108 #[.val (.long p0), .second, .val (.int p1), .val (.long p2), .second, .val (.long p3), .second, .val (.long p4), .second, .val (.int p5), .val (.ref ad1), .val (.ref ad15), .val (.ref a50b), .val (.int (own_hid p3 p2)), .unset, .unset, .unset, .unset] [(.long p3)])) (fun t k => XS.lload X143.here hx rfl (hb hby at_106) rfl k) ?_
      refine own_step (T' := T143) (g' := (mkF m 110 #[.val (.long p0), .second, .val (.int p1), .val (.long p2), .second, .val (.long p3), .second, .val (.long p4), .second, .val (.int p5), .val (.ref ad1), .val (.ref ad15), .val (.ref a50b), .val (.int (own_hid p3 p2)), .unset, .unset, .unset, .unset] [(.long p4), (.long p3)])) (fun t k => XS.lload X143.here hx rfl (hb hby at_108) rfl k) ?_
      obtain ⟨_, _, ⟨T146, L146, k146, n146⟩, -, X146, ⟨Lc146, hQ146, lq146, yq146, zq146⟩, st146⟩ := Jvm.LawKit.callS X143 hx (y := (⟨"java/lang/Math", "min", "(JJ)J"⟩ : MethodName)) hown (mvT hZ (hw _ (List.mem_of_getElem? (i := 62) rfl))) (mvT hZ (hw _ (List.mem_of_getElem? (i := 63) rfl))) (mvT hZ (hw _ (List.mem_of_getElem? (i := 64) rfl))) (mvT hZ (hw _ (List.mem_of_getElem? (i := 65) rfl))) (by decide) (backOf (W := 0) (rm_min l Z a0 hw [] p3 p4 T54.heap n0 Z51 ) hZ (hw _ (List.mem_of_getElem? (i := 65) rfl)) (hw _ (List.mem_of_getElem? (i := 64) rfl)) (by decide) (by decide)) (g := (mkF m 110 #[.val (.long p0), .second, .val (.int p1), .val (.long p2), .second, .val (.long p3), .second, .val (.long p4), .second, .val (.int p5), .val (.ref ad1), .val (.ref ad15), .val (.ref a50b), .val (.int (own_hid p3 p2)), .unset, .unset, .unset, .unset] [(.long p4), (.long p3)])) rfl (by rw [hml]; rfl) (argsL := [(.long p3), (.long p4)]) (rest := []) (lenOf pd_9 rfl) rfl (by show 2 * 0 + _ ≤ _; exact Nat.le_of_eq rfl) (hb hby at_110) (fun _ _ => ⟨rfl, eq142, (by decide : 5 + 0 ≤ _), (by decide : 18 + 0 ≤ _)⟩)
      dsimp only [Pt.U, Pt.locs, Pt.cells, Pt.slots] at X146 lq146 yq146 zq146 st146 hQ146
      subst lq146 yq146 zq146
      obtain ⟨rfl, Nq146, eq145⟩ := hQ146
      have N146 := Fr.app N143 Nq146
      refine own_step (T' := T146) (g' := (mkF m 113 #[.val (.long p0), .second, .val (.int p1), .val (.long p2), .second, .val (.long p3), .second, .val (.long p4), .second, .val (.int p5), .val (.ref ad1), .val (.ref ad15), .val (.ref a50b), .val (.int (own_hid p3 p2)), .unset, .unset, .unset, .unset] [(.long (own_min p3 p4))])) st146 ?_
      refine own_step (T' := T146) (g' := (mkF m 115 #[.val (.long p0), .second, .val (.int p1), .val (.long p2), .second, .val (.long p3), .second, .val (.long p4), .second, .val (.int p5), .val (.ref ad1), .val (.ref ad15), .val (.ref a50b), .val (.int (own_hid p3 p2)), .val (.long (own_min p3 p4)), .second, .unset, .unset] [])) (fun t k => XS.lstore X146.here hx rfl (hb hby at_113) rfl (l' := #[.val (.long p0), .second, .val (.int p1), .val (.long p2), .second, .val (.long p3), .second, .val (.long p4), .second, .val (.int p5), .val (.ref ad1), .val (.ref ad15), .val (.ref a50b), .val (.int (own_hid p3 p2)), .val (.long (own_min p3 p4)), .second, .unset, .unset]) rfl k) ?_
      refine own_step (T' := T146) (g' := (mkF m 117 #[.val (.long p0), .second, .val (.int p1), .val (.long p2), .second, .val (.long p3), .second, .val (.long p4), .second, .val (.int p5), .val (.ref ad1), .val (.ref ad15), .val (.ref a50b), .val (.int (own_hid p3 p2)), .val (.long (own_min p3 p4)), .second, .unset, .unset] [(.long p3)])) (fun t k => XS.lload X146.here hx rfl (hb hby at_115) rfl k) ?_
      refine own_step (T' := T146) (g' := (mkF m 119 #[.val (.long p0), .second, .val (.int p1), .val (.long p2), .second, .val (.long p3), .second, .val (.long p4), .second, .val (.int p5), .val (.ref ad1), .val (.ref ad15), .val (.ref a50b), .val (.int (own_hid p3 p2)), .val (.long (own_min p3 p4)), .second, .unset, .unset] [(.long p4), (.long p3)])) (fun t k => XS.lload X146.here hx rfl (hb hby at_117) rfl k) ?_
      obtain ⟨_, _, ⟨T148, L148, k148, n148⟩, -, X148, ⟨Lc148, hQ148, lq148, yq148, zq148⟩, st148⟩ := Jvm.LawKit.callS X146 hx (y := (⟨"java/lang/Math", "max", "(JJ)J"⟩ : MethodName)) hown (mvT hZ (hw _ (List.mem_of_getElem? (i := 66) rfl))) (mvT hZ (hw _ (List.mem_of_getElem? (i := 67) rfl))) (mvT hZ (hw _ (List.mem_of_getElem? (i := 64) rfl))) (mvT hZ (hw _ (List.mem_of_getElem? (i := 68) rfl))) (by decide) (backOf (W := 0) (rm_max l Z a0 hw [] p3 p4 T54.heap n0 Z51 ) hZ (hw _ (List.mem_of_getElem? (i := 68) rfl)) (hw _ (List.mem_of_getElem? (i := 64) rfl)) (by decide) (by decide)) (g := (mkF m 119 #[.val (.long p0), .second, .val (.int p1), .val (.long p2), .second, .val (.long p3), .second, .val (.long p4), .second, .val (.int p5), .val (.ref ad1), .val (.ref ad15), .val (.ref a50b), .val (.int (own_hid p3 p2)), .val (.long (own_min p3 p4)), .second, .unset, .unset] [(.long p4), (.long p3)])) rfl (by rw [hml]; rfl) (argsL := [(.long p3), (.long p4)]) (rest := []) (lenOf pd_9 rfl) rfl (by show 2 * 0 + _ ≤ _; exact Nat.le_of_eq rfl) (hb hby at_119) (fun _ _ => ⟨rfl, eq145, (by decide : 5 + 0 ≤ _), (by decide : 18 + 0 ≤ _)⟩)
      dsimp only [Pt.U, Pt.locs, Pt.cells, Pt.slots] at X148 lq148 yq148 zq148 st148 hQ148
      subst lq148 yq148 zq148
      obtain ⟨rfl, Nq148, eq147⟩ := hQ148
      have N148 := Fr.app N146 Nq148
      refine own_step (T' := T148) (g' := (mkF m 122 #[.val (.long p0), .second, .val (.int p1), .val (.long p2), .second, .val (.long p3), .second, .val (.long p4), .second, .val (.int p5), .val (.ref ad1), .val (.ref ad15), .val (.ref a50b), .val (.int (own_hid p3 p2)), .val (.long (own_min p3 p4)), .second, .unset, .unset] [(.long (own_max p3 p4))])) st148 ?_
      refine own_step (T' := T148) (g' := (mkF m 124 #[.val (.long p0), .second, .val (.int p1), .val (.long p2), .second, .val (.long p3), .second, .val (.long p4), .second, .val (.int p5), .val (.ref ad1), .val (.ref ad15), .val (.ref a50b), .val (.int (own_hid p3 p2)), .val (.long (own_min p3 p4)), .second, .val (.long (own_max p3 p4)), .second] [])) (fun t k => XS.lstore X148.here hx rfl (hb hby at_122) rfl (l' := #[.val (.long p0), .second, .val (.int p1), .val (.long p2), .second, .val (.long p3), .second, .val (.long p4), .second, .val (.int p5), .val (.ref ad1), .val (.ref ad15), .val (.ref a50b), .val (.int (own_hid p3 p2)), .val (.long (own_min p3 p4)), .second, .val (.long (own_max p3 p4)), .second]) rfl k) ?_
      refine own_step (T' := T148) (g' := (mkF m 126 #[.val (.long p0), .second, .val (.int p1), .val (.long p2), .second, .val (.long p3), .second, .val (.long p4), .second, .val (.int p5), .val (.ref ad1), .val (.ref ad15), .val (.ref a50b), .val (.int (own_hid p3 p2)), .val (.long (own_min p3 p4)), .second, .val (.long (own_max p3 p4)), .second] [(.ref ad1)])) (fun t k => XS.aload X148.here hx rfl (hb hby at_124) rfl rfl k) ?_
      refine own_step (T' := T148) (g' := (mkF m 128 #[.val (.long p0), .second, .val (.int p1), .val (.long p2), .second, .val (.long p3), .second, .val (.long p4), .second, .val (.int p5), .val (.ref ad1), .val (.ref ad15), .val (.ref a50b), .val (.int (own_hid p3 p2)), .val (.long (own_min p3 p4)), .second, .val (.long (own_max p3 p4)), .second] [(.long (own_max p3 p4)), (.ref ad1)])) (fun t k => XS.lload X148.here hx rfl (hb hby at_126) rfl k) ?_
      obtain ⟨cq151, kq151, q151a, q151b, q151c⟩ := isOf hZ eq147 g56
      obtain ⟨_, _, ⟨T150, L150, k150, n150⟩, -, X150, ⟨Lc150, hQ150, lq150, yq150, zq150⟩, st150⟩ := X148.virtualBack hx (y := (⟨"com/example/pollster/pollster/QueuePops$Popped", "hiddenAt", "(J)Z"⟩ : MethodName)) (z := (⟨"com/example/pollster/pollster/QueuePops$Popped", "hiddenAt", "(J)Z"⟩ : MethodName)) hown (mvT hZ (hw _ (List.mem_of_getElem? (i := 56) rfl))) (mvT hZ (hw _ (List.mem_of_getElem? (i := 57) rfl))) (notFace_of_selects (args := #[]) (mvT hZ (hw _ (List.mem_of_getElem? (i := 59) rfl)))) (mvT hZ (hw _ (List.mem_of_getElem? (i := 59) rfl))) (mvT hZ (hw _ (List.mem_of_getElem? (i := 58) rfl))) (by decide) (backOf (W := 0) (rm_hid l Z a0 hw [] ad1 (own_max p3 p4) p2 T54.heap n0 Z51 g59) hZ (hw _ (List.mem_of_getElem? (i := 60) rfl)) (hw _ (List.mem_of_getElem? (i := 2) rfl)) (by decide) (by decide)) q151a q151c (g := (mkF m 128 #[.val (.long p0), .second, .val (.int p1), .val (.long p2), .second, .val (.long p3), .second, .val (.long p4), .second, .val (.int p5), .val (.ref ad1), .val (.ref ad15), .val (.ref a50b), .val (.int (own_hid p3 p2)), .val (.long (own_min p3 p4)), .second, .val (.long (own_max p3 p4)), .second] [(.long (own_max p3 p4)), (.ref ad1)])) rfl (by rw [hml]; rfl) (Steps.refl _) (argsL := [(.long (own_max p3 p4))]) (rest := []) (lenOf pd_8 rfl) rfl (by show 2 * 0 + _ ≤ _; exact Nat.le_of_eq rfl) (hb hby at_128) (fun _ _ => ⟨rfl, eq147, (by decide : 5 + 0 ≤ _), (by decide : 18 + 0 ≤ _)⟩)
      dsimp only [Pt.U, Pt.locs, Pt.cells, Pt.slots] at X150 lq150 yq150 zq150 st150 hQ150
      subst lq150 yq150 zq150
      obtain ⟨rfl, Nq150, eq149⟩ := hQ150
      have N150 := Fr.app N148 Nq150
      refine own_tr (T' := T150) (g' := (mkF m 131 #[.val (.long p0), .second, .val (.int p1), .val (.long p2), .second, .val (.long p3), .second, .val (.long p4), .second, .val (.int p5), .val (.ref ad1), .val (.ref ad15), .val (.ref a50b), .val (.int (own_hid p3 p2)), .val (.long (own_min p3 p4)), .second, .val (.long (own_max p3 p4)), .second] [(.int (own_hid (own_max p3 p4) p2))])) st150 ?_
      by_cases c131 : (own_hid (own_max p3 p4) p2) = (0 : Int32)
      · refine own_step (T' := T150) (g' := (mkF m 146 #[.val (.long p0), .second, .val (.int p1), .val (.long p2), .second, .val (.long p3), .second, .val (.long p4), .second, .val (.int p5), .val (.ref ad1), .val (.ref ad15), .val (.ref a50b), .val (.int (own_hid p3 p2)), .val (.long (own_min p3 p4)), .second, .val (.long (own_max p3 p4)), .second] [])) (fun t k => XS.ifYes X150.here hx rfl (pc0 := 131) (pc' := 146) rfl (hb hby at_131) rfl ((if0 _ _).trans (teq c131).1) (by decide) (by decide) k) ?_
        refine own_step (T' := T150) (g' := (mkF m 148 #[.val (.long p0), .second, .val (.int p1), .val (.long p2), .second, .val (.long p3), .second, .val (.long p4), .second, .val (.int p5), .val (.ref ad1), .val (.ref ad15), .val (.ref a50b), .val (.int (own_hid p3 p2)), .val (.long (own_min p3 p4)), .second, .val (.long (own_max p3 p4)), .second] [(.ref a50b)])) (fun t k => XS.aload X150.here hx rfl (hb hby at_146) rfl rfl k) ?_
        refine own_step (T' := T150) (g' := (mkF m 150 #[.val (.long p0), .second, .val (.int p1), .val (.long p2), .second, .val (.long p3), .second, .val (.long p4), .second, .val (.int p5), .val (.ref ad1), .val (.ref ad15), .val (.ref a50b), .val (.int (own_hid p3 p2)), .val (.long (own_min p3 p4)), .second, .val (.long (own_max p3 p4)), .second] [(.long p3), (.ref a50b)])) (fun t k => XS.lload X150.here hx rfl (hb hby at_148) rfl k) ?_
        obtain ⟨cq154, kq154, q154a, q154b, q154c⟩ := isOf hZ eq149 g52
        obtain ⟨_, _, ⟨T153, L153, k153, n153⟩, -, X153, ⟨Lc153, hQ153, lq153, yq153, zq153⟩, st153⟩ := X150.virtualBack hx (y := (⟨"com/example/pollster/pollster/QueuePops$Popped", "hiddenAt", "(J)Z"⟩ : MethodName)) (z := (⟨"com/example/pollster/pollster/QueuePops$Popped", "hiddenAt", "(J)Z"⟩ : MethodName)) hown (mvT hZ (hw _ (List.mem_of_getElem? (i := 56) rfl))) (mvT hZ (hw _ (List.mem_of_getElem? (i := 57) rfl))) (notFace_of_selects (args := #[]) (mvT hZ (hw _ (List.mem_of_getElem? (i := 59) rfl)))) (mvT hZ (hw _ (List.mem_of_getElem? (i := 59) rfl))) (mvT hZ (hw _ (List.mem_of_getElem? (i := 58) rfl))) (by decide) (backOf (W := 0) (rm_hid l Z a0 hw [] a50b p3 p2 T54.heap n0 Z51 g53) hZ (hw _ (List.mem_of_getElem? (i := 60) rfl)) (hw _ (List.mem_of_getElem? (i := 2) rfl)) (by decide) (by decide)) q154a q154c (g := (mkF m 150 #[.val (.long p0), .second, .val (.int p1), .val (.long p2), .second, .val (.long p3), .second, .val (.long p4), .second, .val (.int p5), .val (.ref ad1), .val (.ref ad15), .val (.ref a50b), .val (.int (own_hid p3 p2)), .val (.long (own_min p3 p4)), .second, .val (.long (own_max p3 p4)), .second] [(.long p3), (.ref a50b)])) rfl (by rw [hml]; rfl) (Steps.refl _) (argsL := [(.long p3)]) (rest := []) (lenOf pd_8 rfl) rfl (by show 2 * 0 + _ ≤ _; exact Nat.le_of_eq rfl) (hb hby at_150) (fun _ _ => ⟨rfl, eq149, (by decide : 5 + 0 ≤ _), (by decide : 18 + 0 ≤ _)⟩)
        dsimp only [Pt.U, Pt.locs, Pt.cells, Pt.slots] at X153 lq153 yq153 zq153 st153 hQ153
        subst lq153 yq153 zq153
        obtain ⟨rfl, Nq153, eq152⟩ := hQ153
        have N153 := Fr.app N150 Nq153
        refine own_tr (T' := T153) (g' := (mkF m 153 #[.val (.long p0), .second, .val (.int p1), .val (.long p2), .second, .val (.long p3), .second, .val (.long p4), .second, .val (.int p5), .val (.ref ad1), .val (.ref ad15), .val (.ref a50b), .val (.int (own_hid p3 p2)), .val (.long (own_min p3 p4)), .second, .val (.long (own_max p3 p4)), .second] [(.int (own_hid p3 p2))])) st153 ?_
        refine own_step (T' := T153) (g' := (mkF m 155 #[.val (.long p0), .second, .val (.int p1), .val (.long p2), .second, .val (.long p3), .second, .val (.long p4), .second, .val (.int p5), .val (.ref ad1), .val (.ref ad15), .val (.ref a50b), .val (.int (own_hid p3 p2)), .val (.long (own_min p3 p4)), .second, .val (.long (own_max p3 p4)), .second] [(.int (own_hid p3 p2)), (.int (own_hid p3 p2))])) (fun t k => XS.iload X153.here hx rfl (hb hby at_153) rfl k) ?_
        refine own_step (T' := T153) (g' := (mkF m 160 #[.val (.long p0), .second, .val (.int p1), .val (.long p2), .second, .val (.long p3), .second, .val (.long p4), .second, .val (.int p5), .val (.ref ad1), .val (.ref ad15), .val (.ref a50b), .val (.int (own_hid p3 p2)), .val (.long (own_min p3 p4)), .second, .val (.long (own_max p3 p4)), .second] [])) (fun t k => XS.icmpYes X153.here hx rfl (pc0 := 155) (pc' := 160) rfl (hb hby at_155) rfl (teq rfl).1 (by decide) (by decide) k) ?_
        refine own_step (T' := T153) (g' := (mkF m 162 #[.val (.long p0), .second, .val (.int p1), .val (.long p2), .second, .val (.long p3), .second, .val (.long p4), .second, .val (.int p5), .val (.ref ad1), .val (.ref ad15), .val (.ref a50b), .val (.int (own_hid p3 p2)), .val (.long (own_min p3 p4)), .second, .val (.long (own_max p3 p4)), .second] [(.ref ad1)])) (fun t k => XS.aload X153.here hx rfl (hb hby at_160) rfl rfl k) ?_
        obtain ⟨cq157, kq157, q157a, q157b, q157c⟩ := isOf hZ eq152 g56
        obtain ⟨_, _, ⟨T156, L156, k156, n156⟩, -, X156, ⟨Lc156, hQ156, lq156, yq156, zq156⟩, st156⟩ := X153.virtualBack hx (y := (⟨"com/example/pollster/pollster/QueuePops$Popped", "invisibleUntil", "()J"⟩ : MethodName)) (z := (⟨"com/example/pollster/pollster/QueuePops$Popped", "invisibleUntil", "()J"⟩ : MethodName)) hown (mvT hZ (hw _ (List.mem_of_getElem? (i := 69) rfl))) (mvT hZ (hw _ (List.mem_of_getElem? (i := 70) rfl))) (notFace_of_selects (args := #[]) (mvT hZ (hw _ (List.mem_of_getElem? (i := 72) rfl)))) (mvT hZ (hw _ (List.mem_of_getElem? (i := 72) rfl))) (mvT hZ (hw _ (List.mem_of_getElem? (i := 71) rfl))) (by decide) (backOf (W := 0) (rm_inv l Z a0 hw [] ad1 p2 T54.heap n0 Z51 g59) hZ (hw _ (List.mem_of_getElem? (i := 73) rfl)) (hw _ (List.mem_of_getElem? (i := 2) rfl)) (by decide) (by decide)) q157a q157c (g := (mkF m 162 #[.val (.long p0), .second, .val (.int p1), .val (.long p2), .second, .val (.long p3), .second, .val (.long p4), .second, .val (.int p5), .val (.ref ad1), .val (.ref ad15), .val (.ref a50b), .val (.int (own_hid p3 p2)), .val (.long (own_min p3 p4)), .second, .val (.long (own_max p3 p4)), .second] [(.ref ad1)])) rfl (by rw [hml]; rfl) (Steps.refl _) (argsL := []) (rest := []) (lenOf pd_10 rfl) rfl (by show 2 * 0 + _ ≤ _; exact Nat.le_of_eq rfl) (hb hby at_162) (fun _ _ => ⟨rfl, eq152, (by decide : 5 + 0 ≤ _), (by decide : 18 + 0 ≤ _)⟩)
        dsimp only [Pt.U, Pt.locs, Pt.cells, Pt.slots] at X156 lq156 yq156 zq156 st156 hQ156
        subst lq156 yq156 zq156
        obtain ⟨rfl, Nq156, eq155⟩ := hQ156
        have N156 := Fr.app N153 Nq156
        refine own_tr (T' := T156) (g' := (mkF m 165 #[.val (.long p0), .second, .val (.int p1), .val (.long p2), .second, .val (.long p3), .second, .val (.long p4), .second, .val (.int p5), .val (.ref ad1), .val (.ref ad15), .val (.ref a50b), .val (.int (own_hid p3 p2)), .val (.long (own_min p3 p4)), .second, .val (.long (own_max p3 p4)), .second] [(.long p2)])) st156 ?_
        refine own_step (T' := T156) (g' := (mkF m 166 #[.val (.long p0), .second, .val (.int p1), .val (.long p2), .second, .val (.long p3), .second, .val (.long p4), .second, .val (.int p5), .val (.ref ad1), .val (.ref ad15), .val (.ref a50b), .val (.int (own_hid p3 p2)), .val (.long (own_min p3 p4)), .second, .val (.long (own_max p3 p4)), .second] [(.long p2), (.long p2)])) (fun t k => XS.lloadN X156.here hx rfl (hb hby at_165) rfl k) ?_
        refine own_step (T' := T156) (g' := (mkF m 167 #[.val (.long p0), .second, .val (.int p1), .val (.long p2), .second, .val (.long p3), .second, .val (.long p4), .second, .val (.int p5), .val (.ref ad1), .val (.ref ad15), .val (.ref a50b), .val (.int (own_hid p3 p2)), .val (.long (own_min p3 p4)), .second, .val (.long (own_max p3 p4)), .second] [(.int (lcmpW p2 p2))])) (fun t k => XS.lcmp X156.here hx rfl (hb hby at_166) rfl k) ?_
        refine own_step (T' := T156) (g' := (mkF m 170 #[.val (.long p0), .second, .val (.int p1), .val (.long p2), .second, .val (.long p3), .second, .val (.long p4), .second, .val (.int p5), .val (.ref ad1), .val (.ref ad15), .val (.ref a50b), .val (.int (own_hid p3 p2)), .val (.long (own_min p3 p4)), .second, .val (.long (own_max p3 p4)), .second] [])) (fun t k => XS.ifNo X156.here hx rfl (hb hby at_167) rfl ((if0 _ _).trans (teq ((lw_eq _ _).mpr rfl)).2) k) ?_
        refine own_step (T' := T156) (g' := (mkF m 171 #[.val (.long p0), .second, .val (.int p1), .val (.long p2), .second, .val (.long p3), .second, .val (.long p4), .second, .val (.int p5), .val (.ref ad1), .val (.ref ad15), .val (.ref a50b), .val (.int (own_hid p3 p2)), .val (.long (own_min p3 p4)), .second, .val (.long (own_max p3 p4)), .second] [(.int (1 : Int32))])) (fun t k => XS.iconst X156.here hx rfl (hb hby at_170) k) ?_
        refine own_step (T' := T156) (g' := (mkF m 175 #[.val (.long p0), .second, .val (.int p1), .val (.long p2), .second, .val (.long p3), .second, .val (.long p4), .second, .val (.int p5), .val (.ref ad1), .val (.ref ad15), .val (.ref a50b), .val (.int (own_hid p3 p2)), .val (.long (own_min p3 p4)), .second, .val (.long (own_max p3 p4)), .second] [(.int (1 : Int32))])) (fun t k => XS.goto X156.here hx rfl (pc0 := 171) (pc' := 175) rfl (hb hby at_171) (by decide) (by decide) k) ?_
        refine own_rN X156 hx hlk Bd.returns (by simp) (hb hby at_175) ?_ (by decide) (by decide)
        rw [eq155]
        exact ⟨rfl, N156⟩
      · refine own_step (T' := T150) (g' := (mkF m 134 #[.val (.long p0), .second, .val (.int p1), .val (.long p2), .second, .val (.long p3), .second, .val (.long p4), .second, .val (.int p5), .val (.ref ad1), .val (.ref ad15), .val (.ref a50b), .val (.int (own_hid p3 p2)), .val (.long (own_min p3 p4)), .second, .val (.long (own_max p3 p4)), .second] [])) (fun t k => XS.ifNo X150.here hx rfl (hb hby at_131) rfl ((if0 _ _).trans (feq c131).1) k) ?_
        refine own_step (T' := T150) (g' := (mkF m 136 #[.val (.long p0), .second, .val (.int p1), .val (.long p2), .second, .val (.long p3), .second, .val (.long p4), .second, .val (.int p5), .val (.ref ad1), .val (.ref ad15), .val (.ref a50b), .val (.int (own_hid p3 p2)), .val (.long (own_min p3 p4)), .second, .val (.long (own_max p3 p4)), .second] [(.ref ad1)])) (fun t k => XS.aload X150.here hx rfl (hb hby at_134) rfl rfl k) ?_
        refine own_step (T' := T150) (g' := (mkF m 138 #[.val (.long p0), .second, .val (.int p1), .val (.long p2), .second, .val (.long p3), .second, .val (.long p4), .second, .val (.int p5), .val (.ref ad1), .val (.ref ad15), .val (.ref a50b), .val (.int (own_hid p3 p2)), .val (.long (own_min p3 p4)), .second, .val (.long (own_max p3 p4)), .second] [(.long (own_min p3 p4)), (.ref ad1)])) (fun t k => XS.lload X150.here hx rfl (hb hby at_136) rfl k) ?_
        obtain ⟨cq160, kq160, q160a, q160b, q160c⟩ := isOf hZ eq149 g56
        obtain ⟨_, _, ⟨T159, L159, k159, n159⟩, -, X159, ⟨Lc159, hQ159, lq159, yq159, zq159⟩, st159⟩ := X150.virtualBack hx (y := (⟨"com/example/pollster/pollster/QueuePops$Popped", "hiddenAt", "(J)Z"⟩ : MethodName)) (z := (⟨"com/example/pollster/pollster/QueuePops$Popped", "hiddenAt", "(J)Z"⟩ : MethodName)) hown (mvT hZ (hw _ (List.mem_of_getElem? (i := 56) rfl))) (mvT hZ (hw _ (List.mem_of_getElem? (i := 57) rfl))) (notFace_of_selects (args := #[]) (mvT hZ (hw _ (List.mem_of_getElem? (i := 59) rfl)))) (mvT hZ (hw _ (List.mem_of_getElem? (i := 59) rfl))) (mvT hZ (hw _ (List.mem_of_getElem? (i := 58) rfl))) (by decide) (backOf (W := 0) (rm_hid l Z a0 hw [] ad1 (own_min p3 p4) p2 T54.heap n0 Z51 g59) hZ (hw _ (List.mem_of_getElem? (i := 60) rfl)) (hw _ (List.mem_of_getElem? (i := 2) rfl)) (by decide) (by decide)) q160a q160c (g := (mkF m 138 #[.val (.long p0), .second, .val (.int p1), .val (.long p2), .second, .val (.long p3), .second, .val (.long p4), .second, .val (.int p5), .val (.ref ad1), .val (.ref ad15), .val (.ref a50b), .val (.int (own_hid p3 p2)), .val (.long (own_min p3 p4)), .second, .val (.long (own_max p3 p4)), .second] [(.long (own_min p3 p4)), (.ref ad1)])) rfl (by rw [hml]; rfl) (Steps.refl _) (argsL := [(.long (own_min p3 p4))]) (rest := []) (lenOf pd_8 rfl) rfl (by show 2 * 0 + _ ≤ _; exact Nat.le_of_eq rfl) (hb hby at_138) (fun _ _ => ⟨rfl, eq149, (by decide : 5 + 0 ≤ _), (by decide : 18 + 0 ≤ _)⟩)
        dsimp only [Pt.U, Pt.locs, Pt.cells, Pt.slots] at X159 lq159 yq159 zq159 st159 hQ159
        subst lq159 yq159 zq159
        obtain ⟨rfl, Nq159, eq158⟩ := hQ159
        have N159 := Fr.app N150 Nq159
        refine own_tr (T' := T159) (g' := (mkF m 141 #[.val (.long p0), .second, .val (.int p1), .val (.long p2), .second, .val (.long p3), .second, .val (.long p4), .second, .val (.int p5), .val (.ref ad1), .val (.ref ad15), .val (.ref a50b), .val (.int (own_hid p3 p2)), .val (.long (own_min p3 p4)), .second, .val (.long (own_max p3 p4)), .second] [(.int (own_hid (own_min p3 p4) p2))])) st159 ?_
        refine own_step (T' := T159) (g' := (mkF m 146 #[.val (.long p0), .second, .val (.int p1), .val (.long p2), .second, .val (.long p3), .second, .val (.long p4), .second, .val (.int p5), .val (.ref ad1), .val (.ref ad15), .val (.ref a50b), .val (.int (own_hid p3 p2)), .val (.long (own_min p3 p4)), .second, .val (.long (own_max p3 p4)), .second] [])) (fun t k => XS.ifYes X159.here hx rfl (pc0 := 141) (pc' := 146) rfl (hb hby at_141) rfl ((if0 _ _).trans (feq (by rw [own_h1 (own_mono (own_hid1 c131))]; decide)).2) (by decide) (by decide) k) ?_
        refine own_step (T' := T159) (g' := (mkF m 148 #[.val (.long p0), .second, .val (.int p1), .val (.long p2), .second, .val (.long p3), .second, .val (.long p4), .second, .val (.int p5), .val (.ref ad1), .val (.ref ad15), .val (.ref a50b), .val (.int (own_hid p3 p2)), .val (.long (own_min p3 p4)), .second, .val (.long (own_max p3 p4)), .second] [(.ref a50b)])) (fun t k => XS.aload X159.here hx rfl (hb hby at_146) rfl rfl k) ?_
        refine own_step (T' := T159) (g' := (mkF m 150 #[.val (.long p0), .second, .val (.int p1), .val (.long p2), .second, .val (.long p3), .second, .val (.long p4), .second, .val (.int p5), .val (.ref ad1), .val (.ref ad15), .val (.ref a50b), .val (.int (own_hid p3 p2)), .val (.long (own_min p3 p4)), .second, .val (.long (own_max p3 p4)), .second] [(.long p3), (.ref a50b)])) (fun t k => XS.lload X159.here hx rfl (hb hby at_148) rfl k) ?_
        obtain ⟨cq163, kq163, q163a, q163b, q163c⟩ := isOf hZ eq158 g52
        obtain ⟨_, _, ⟨T162, L162, k162, n162⟩, -, X162, ⟨Lc162, hQ162, lq162, yq162, zq162⟩, st162⟩ := X159.virtualBack hx (y := (⟨"com/example/pollster/pollster/QueuePops$Popped", "hiddenAt", "(J)Z"⟩ : MethodName)) (z := (⟨"com/example/pollster/pollster/QueuePops$Popped", "hiddenAt", "(J)Z"⟩ : MethodName)) hown (mvT hZ (hw _ (List.mem_of_getElem? (i := 56) rfl))) (mvT hZ (hw _ (List.mem_of_getElem? (i := 57) rfl))) (notFace_of_selects (args := #[]) (mvT hZ (hw _ (List.mem_of_getElem? (i := 59) rfl)))) (mvT hZ (hw _ (List.mem_of_getElem? (i := 59) rfl))) (mvT hZ (hw _ (List.mem_of_getElem? (i := 58) rfl))) (by decide) (backOf (W := 0) (rm_hid l Z a0 hw [] a50b p3 p2 T54.heap n0 Z51 g53) hZ (hw _ (List.mem_of_getElem? (i := 60) rfl)) (hw _ (List.mem_of_getElem? (i := 2) rfl)) (by decide) (by decide)) q163a q163c (g := (mkF m 150 #[.val (.long p0), .second, .val (.int p1), .val (.long p2), .second, .val (.long p3), .second, .val (.long p4), .second, .val (.int p5), .val (.ref ad1), .val (.ref ad15), .val (.ref a50b), .val (.int (own_hid p3 p2)), .val (.long (own_min p3 p4)), .second, .val (.long (own_max p3 p4)), .second] [(.long p3), (.ref a50b)])) rfl (by rw [hml]; rfl) (Steps.refl _) (argsL := [(.long p3)]) (rest := []) (lenOf pd_8 rfl) rfl (by show 2 * 0 + _ ≤ _; exact Nat.le_of_eq rfl) (hb hby at_150) (fun _ _ => ⟨rfl, eq158, (by decide : 5 + 0 ≤ _), (by decide : 18 + 0 ≤ _)⟩)
        dsimp only [Pt.U, Pt.locs, Pt.cells, Pt.slots] at X162 lq162 yq162 zq162 st162 hQ162
        subst lq162 yq162 zq162
        obtain ⟨rfl, Nq162, eq161⟩ := hQ162
        have N162 := Fr.app N159 Nq162
        refine own_tr (T' := T162) (g' := (mkF m 153 #[.val (.long p0), .second, .val (.int p1), .val (.long p2), .second, .val (.long p3), .second, .val (.long p4), .second, .val (.int p5), .val (.ref ad1), .val (.ref ad15), .val (.ref a50b), .val (.int (own_hid p3 p2)), .val (.long (own_min p3 p4)), .second, .val (.long (own_max p3 p4)), .second] [(.int (own_hid p3 p2))])) st162 ?_
        refine own_step (T' := T162) (g' := (mkF m 155 #[.val (.long p0), .second, .val (.int p1), .val (.long p2), .second, .val (.long p3), .second, .val (.long p4), .second, .val (.int p5), .val (.ref ad1), .val (.ref ad15), .val (.ref a50b), .val (.int (own_hid p3 p2)), .val (.long (own_min p3 p4)), .second, .val (.long (own_max p3 p4)), .second] [(.int (own_hid p3 p2)), (.int (own_hid p3 p2))])) (fun t k => XS.iload X162.here hx rfl (hb hby at_153) rfl k) ?_
        refine own_step (T' := T162) (g' := (mkF m 160 #[.val (.long p0), .second, .val (.int p1), .val (.long p2), .second, .val (.long p3), .second, .val (.long p4), .second, .val (.int p5), .val (.ref ad1), .val (.ref ad15), .val (.ref a50b), .val (.int (own_hid p3 p2)), .val (.long (own_min p3 p4)), .second, .val (.long (own_max p3 p4)), .second] [])) (fun t k => XS.icmpYes X162.here hx rfl (pc0 := 155) (pc' := 160) rfl (hb hby at_155) rfl (teq rfl).1 (by decide) (by decide) k) ?_
        refine own_step (T' := T162) (g' := (mkF m 162 #[.val (.long p0), .second, .val (.int p1), .val (.long p2), .second, .val (.long p3), .second, .val (.long p4), .second, .val (.int p5), .val (.ref ad1), .val (.ref ad15), .val (.ref a50b), .val (.int (own_hid p3 p2)), .val (.long (own_min p3 p4)), .second, .val (.long (own_max p3 p4)), .second] [(.ref ad1)])) (fun t k => XS.aload X162.here hx rfl (hb hby at_160) rfl rfl k) ?_
        obtain ⟨cq166, kq166, q166a, q166b, q166c⟩ := isOf hZ eq161 g56
        obtain ⟨_, _, ⟨T165, L165, k165, n165⟩, -, X165, ⟨Lc165, hQ165, lq165, yq165, zq165⟩, st165⟩ := X162.virtualBack hx (y := (⟨"com/example/pollster/pollster/QueuePops$Popped", "invisibleUntil", "()J"⟩ : MethodName)) (z := (⟨"com/example/pollster/pollster/QueuePops$Popped", "invisibleUntil", "()J"⟩ : MethodName)) hown (mvT hZ (hw _ (List.mem_of_getElem? (i := 69) rfl))) (mvT hZ (hw _ (List.mem_of_getElem? (i := 70) rfl))) (notFace_of_selects (args := #[]) (mvT hZ (hw _ (List.mem_of_getElem? (i := 72) rfl)))) (mvT hZ (hw _ (List.mem_of_getElem? (i := 72) rfl))) (mvT hZ (hw _ (List.mem_of_getElem? (i := 71) rfl))) (by decide) (backOf (W := 0) (rm_inv l Z a0 hw [] ad1 p2 T54.heap n0 Z51 g59) hZ (hw _ (List.mem_of_getElem? (i := 73) rfl)) (hw _ (List.mem_of_getElem? (i := 2) rfl)) (by decide) (by decide)) q166a q166c (g := (mkF m 162 #[.val (.long p0), .second, .val (.int p1), .val (.long p2), .second, .val (.long p3), .second, .val (.long p4), .second, .val (.int p5), .val (.ref ad1), .val (.ref ad15), .val (.ref a50b), .val (.int (own_hid p3 p2)), .val (.long (own_min p3 p4)), .second, .val (.long (own_max p3 p4)), .second] [(.ref ad1)])) rfl (by rw [hml]; rfl) (Steps.refl _) (argsL := []) (rest := []) (lenOf pd_10 rfl) rfl (by show 2 * 0 + _ ≤ _; exact Nat.le_of_eq rfl) (hb hby at_162) (fun _ _ => ⟨rfl, eq161, (by decide : 5 + 0 ≤ _), (by decide : 18 + 0 ≤ _)⟩)
        dsimp only [Pt.U, Pt.locs, Pt.cells, Pt.slots] at X165 lq165 yq165 zq165 st165 hQ165
        subst lq165 yq165 zq165
        obtain ⟨rfl, Nq165, eq164⟩ := hQ165
        have N165 := Fr.app N162 Nq165
        refine own_tr (T' := T165) (g' := (mkF m 165 #[.val (.long p0), .second, .val (.int p1), .val (.long p2), .second, .val (.long p3), .second, .val (.long p4), .second, .val (.int p5), .val (.ref ad1), .val (.ref ad15), .val (.ref a50b), .val (.int (own_hid p3 p2)), .val (.long (own_min p3 p4)), .second, .val (.long (own_max p3 p4)), .second] [(.long p2)])) st165 ?_
        refine own_step (T' := T165) (g' := (mkF m 166 #[.val (.long p0), .second, .val (.int p1), .val (.long p2), .second, .val (.long p3), .second, .val (.long p4), .second, .val (.int p5), .val (.ref ad1), .val (.ref ad15), .val (.ref a50b), .val (.int (own_hid p3 p2)), .val (.long (own_min p3 p4)), .second, .val (.long (own_max p3 p4)), .second] [(.long p2), (.long p2)])) (fun t k => XS.lloadN X165.here hx rfl (hb hby at_165) rfl k) ?_
        refine own_step (T' := T165) (g' := (mkF m 167 #[.val (.long p0), .second, .val (.int p1), .val (.long p2), .second, .val (.long p3), .second, .val (.long p4), .second, .val (.int p5), .val (.ref ad1), .val (.ref ad15), .val (.ref a50b), .val (.int (own_hid p3 p2)), .val (.long (own_min p3 p4)), .second, .val (.long (own_max p3 p4)), .second] [(.int (lcmpW p2 p2))])) (fun t k => XS.lcmp X165.here hx rfl (hb hby at_166) rfl k) ?_
        refine own_step (T' := T165) (g' := (mkF m 170 #[.val (.long p0), .second, .val (.int p1), .val (.long p2), .second, .val (.long p3), .second, .val (.long p4), .second, .val (.int p5), .val (.ref ad1), .val (.ref ad15), .val (.ref a50b), .val (.int (own_hid p3 p2)), .val (.long (own_min p3 p4)), .second, .val (.long (own_max p3 p4)), .second] [])) (fun t k => XS.ifNo X165.here hx rfl (hb hby at_167) rfl ((if0 _ _).trans (teq ((lw_eq _ _).mpr rfl)).2) k) ?_
        refine own_step (T' := T165) (g' := (mkF m 171 #[.val (.long p0), .second, .val (.int p1), .val (.long p2), .second, .val (.long p3), .second, .val (.long p4), .second, .val (.int p5), .val (.ref ad1), .val (.ref ad15), .val (.ref a50b), .val (.int (own_hid p3 p2)), .val (.long (own_min p3 p4)), .second, .val (.long (own_max p3 p4)), .second] [(.int (1 : Int32))])) (fun t k => XS.iconst X165.here hx rfl (hb hby at_170) k) ?_
        refine own_step (T' := T165) (g' := (mkF m 175 #[.val (.long p0), .second, .val (.int p1), .val (.long p2), .second, .val (.long p3), .second, .val (.long p4), .second, .val (.int p5), .val (.ref ad1), .val (.ref ad15), .val (.ref a50b), .val (.int (own_hid p3 p2)), .val (.long (own_min p3 p4)), .second, .val (.long (own_max p3 p4)), .second] [(.int (1 : Int32))])) (fun t k => XS.goto X165.here hx rfl (pc0 := 171) (pc' := 175) rfl (hb hby at_171) (by decide) (by decide) k) ?_
        refine own_rN X165 hx hlk Bd.returns (by simp) (hb hby at_175) ?_ (by decide) (by decide)
        rw [eq164]
        exact ⟨rfl, N165⟩
set_option maxRecDepth 65536 in
set_option maxHeartbeats 40000000 in
theorem comes_1 {Post : Tables → Env → Array Value → State → Outcome → State → Prop} (hpost : ∀ tb e args s v u, (limb_1_1.after args s (.returned v) u = true ∧ limb_1_2.after args s (.returned v) u = true ∧ True) → FrameEnd s (.returned v) u (Jvm.fieldLocs frame_1_writes args s ++ Jvm.arrayLocs frame_1_arrays args s ++ Jvm.staticLocs frame_1_statics s) 24 128 → Post tb e args s (.returned v) u) :
    ArmFor flags0 classFile x code maxLocals ret World_1 tables_1 room_1 Calls_1 rest_1 Pre_1 Post := by
  intro l hfl _ _ p e ha hc hk s m args below hf hA hF happ hP
  obtain ⟨hcalls, hrest, hpre⟩ := hP
  obtain ⟨-, -, -, hnamed, -, -, -, hat⟩ := (Spec.applies_iff hf).mp happ
  obtain ⟨hg, hn⟩ := and_e (Cond.before_iff.mp (show (Jvm.Cond.and given_1 narrow_1).before args s = true from hpre))
  obtain ⟨hc0, hg0⟩ := and_e hg
  obtain ⟨hc1, hg1⟩ := and_e hg0
  obtain ⟨hc2, hg2⟩ := and_e hg1
  obtain ⟨hc3, hg3⟩ := and_e hg2
  obtain ⟨hc4, hg4⟩ := and_e hg3
  obtain ⟨hc5, hg5⟩ := and_e hg4
  obtain ⟨w0, w1, w2, w3, w4, w5, rfl⟩ : ∃ w0 w1 w2 w3 w4 w5 : Value, args = #[w0, w1, w2, w3, w4, w5] := by
    have hs : args.size = 6 := by simpa [Cond.value, given_1] using hc0
    obtain ⟨L⟩ := args
    match L, hs with
    | [w0, w1, w2, w3, w4, w5], _ => exact ⟨w0, w1, w2, w3, w4, w5, rfl⟩
  have hw := fun d (hd : d ∈ tables_1) => atoms_spec (ws := Jvm.Cond.code x code maxLocals ret :: tables_1) hat d (List.mem_cons_of_mem _ hd)
  have hfit : Fit s := fun {y c} hc i hi => by
    obtain ⟨ha, rfl⟩ := Array.getElem?_eq_some_iff.mp hc
    have q := List.all_eq_true.mp ((Array.all_eq_true_iff_forall_mem.mp hF) _ (Array.getElem_mem ha)) i (List.mem_range.mpr hi)
    simpa [Array.getElem?_eq_getElem hi] using q
  obtain ⟨i0, ev0⟩ := isL_v hc1
  obtain rfl : w0 = (.long i0) := Option.some.inj ev0
  obtain ⟨i1, ev1⟩ := is_v hc2
  obtain rfl : w1 = (.int i1) := Option.some.inj ev1
  obtain ⟨i2, ev2⟩ := isL_v hc3
  obtain rfl : w2 = (.long i2) := Option.some.inj ev2
  obtain ⟨i3, ev3⟩ := isL_v hc4
  obtain rfl : w3 = (.long i3) := Option.some.inj ev3
  obtain ⟨i4, ev4⟩ := isL_v hc5
  obtain rfl : w4 = (.long i4) := Option.some.inj ev4
  obtain ⟨i5, ev5⟩ := is_v hg5
  obtain rfl : w5 = (.int i5) := Option.some.inj ev5
  obtain ⟨hsets, hown0⟩ := atoms_of _ (rest_1_c_eq ▸ (show rest_1_c.before _ s = true from hrest))
  have n5 := not_v (Cond.before_iff.mp (hsets _ (List.mem_of_getElem? (i := 2) rfl)))
  obtain ⟨ic, eic⟩ := is_v (Cond.before_iff.mp (hsets _ (List.mem_of_getElem? (i := 1) rfl)))
  have S_c : Sta s s.heap "java/lang/String" "COMPACT_STRINGS" "Z" (.int ic) := Sta.start eic (Or.inl (hsets _ (List.mem_of_getElem? (i := 0) rfl)))
  have hic : ¬ (ic = (0 : Int32)) := gotF (Cond.eq_ints eic (Term.int_eval (0))) n5
  obtain ⟨n, o, h1, h2, h3, _, L, rfl, ⟨rfl, N⟩, hq⟩ := rm_law l s _ hw tables_1 i0 i1 i2 i3 i4 i5 ic s.heap s.heap.size (Nat.le_refl _) (Old.start s) S_c hic p e ha hc hk s m _ below hf ((Spec.applies_iff_loose hf).mp happ).1 ⟨rfl, State.Warmed39.refl s, rfl⟩ trivial
  refine ⟨n, _, h1, h2, h3, hpost _ _ _ _ _ _ ⟨Cond.after_iff.mpr rfl, Cond.after_iff.mpr (eq_i res_at (Term.int_eval (1)) rfl), trivial⟩ ⟨hq.1, hq.2.1, (hq.2.2.sift fun y hy => Or.inr (N y hy)).mono (by decide) (by decide)⟩⟩
theorem main_1_1 : Claimed_1_1 := comes_1 fun _ _ _ _ _ _ h hF => ⟨h.1, hF⟩
theorem main_1_2 : Claimed_1_2 := comes_1 fun _ _ _ _ _ _ h hF => ⟨h.2.1, hF⟩

end Jvm.Pilot.@@N@@
namespace Jvm.Pilot.@@N@@
open Jvm Jvm.ClassFile Sem Op Lib Jvm.Free Jvm.Stand Jvm.Pilot.@@N@@.Jvm.D
/-! MADE BY PROGRAM (witnessworld.py) out of the Statement's table words and the real class files: 21 classes; the members and pool entries that the words name. The judged class is class 1, her method 1. -/
namespace start1
open Jvm.ClassFile
def u (s : String) : CpInfo := .utf8 (stringToUtf16 s)
/-- a pool by its gaps: so many unusable entries, then the entry; so many at the end -/
def gap : Nat → List CpInfo → List CpInfo
  | 0, r => r
  | n + 1, r => .unusable :: gap n r
def poolList (es : List (Nat × CpInfo)) (last : Nat) : List CpInfo := es.foldr (fun e r => gap e.1 (e.2 :: r)) (gap last [])
def pool (es : List (Nat × CpInfo)) (last : Nat) : Array CpInfo := ⟨poolList es last⟩
def fileOf (pool : Array CpInfo) (this : Nat) (attrs : Array Attribute := #[]) (ms : Array MethodInfo := #[]) (fl : Nat := 33) (sup : Nat := 0) (ifs : Array Nat := #[]) (fds : Array FieldInfo := #[]) : ClassFile where
  minorVersion := 0
  majorVersion := 65
  constantPool := pool
  accessFlags := fl
  thisClass := this
  superClass := sup
  interfaces := ifs
  fields := fds
  methods := ms
  attributes := attrs
def plain (name : String) (sup : Option ClassId) : Class where
  name := name
  kind := .ordinary
  loader := none
  accessFlags := 33
  super := sup
  interfaces := #[]
  cf := none
  fields := #[]
  methods := #[]
  instanceTypes := #[]
  staticTypes := #[]
  resolved := #[]
  callSites := []
  init := .initialized
  statics := none
  mirror := none

def pool0 : Array CpInfo := pool [(5, u "<init>"), (0, u "()V"), (1, .class_ 10), (1, u "java/lang/Object")] 113

def k0c0 : Code := { maxStack := 0, maxLocals := 1, code := object_method_1_code, exceptionTable := #[], attributes := #[] }
def k0m0 : Method := { name := "<init>", desc := "()V", sig := { parameters := [], returnType := none }, accessFlags := 1, code := some k0c0 }
/-- java/lang/Object -/
def k0 : Class := { plain "java/lang/Object" none with
  accessFlags := 33
  interfaces := #[]
  cf := some (fileOf pool0 8 #[] #[{ accessFlags := 1, nameIndex := 5, descriptorIndex := 6, attributes := #[] }] 33 0 #[] #[])
  fields := #[]
  methods := #[k0m0]
  instanceTypes := #[]
  staticTypes := #[]
  resolved := Array.replicate 124 none
  statics := none }

def pool1 : Array CpInfo := pool [(2, .class_ 4), (1, u "java/lang/Object"), (0, u "<init>"), (0, u "()V"), (0, .class_ 8), (0, u "com/example/pollster/pollster/QueuePops$Popped"), (0, .methodref 7 10), (0, .nameAndType 5 11), (0, u "(JIJ)V"), (0, .class_ 13), (0, u "java/lang/String"), (0, .methodref 12 15), (0, .nameAndType 5 16), (0, u "([C)V"), (0, .methodref 7 18), (0, .nameAndType 19 20), (0, u "givenUp"), (0, u "(Ljava/lang/String;J)Lcom/example/pollster/pollster/QueuePops$Popped;"), (0, .methodref 7 22), (0, .nameAndType 23 24), (0, u "hiddenAt"), (0, u "(J)Z"), (2, .long 9223372036854775808), (1, .methodref 30 31), (0, .class_ 32), (0, .nameAndType 33 34), (0, u "java/lang/Math"), (0, u "min"), (0, u "(JJ)J"), (0, .methodref 30 36), (0, .nameAndType 37 34), (0, u "max"), (0, .methodref 7 39), (0, .nameAndType 40 41), (0, u "invisibleUntil"), (0, u "()J"), (0, .class_ 43), (0, u "com/example/pollster/pollster/PoppedHiddenAtPinLaw"), (2, u "law"), (0, u "(JIJJJI)Z")] 9

def k1m0 : Method := { name := "<init>", desc := "()V", sig := { parameters := [], returnType := none }, accessFlags := 1, code := none }
def k1c1 : Code := { maxStack := 7, maxLocals := 18, code := code, exceptionTable := #[], attributes := #[] }
def k1m1 : Method := { name := "law", desc := "(JIJJJI)Z", sig := { parameters := [.long, .int, .long, .long, .long, .int], returnType := some .boolean }, accessFlags := 9, code := some k1c1 }
/-- com/example/pollster/pollster/PoppedHiddenAtPinLaw -/
def k1 : Class := { plain "com/example/pollster/pollster/PoppedHiddenAtPinLaw" (some 0) with
  accessFlags := 49
  interfaces := #[]
  cf := some (fileOf pool1 42 #[] #[{ accessFlags := 1, nameIndex := 5, descriptorIndex := 6, attributes := #[] }, { accessFlags := 9, nameIndex := 46, descriptorIndex := 47, attributes := #[] }] 49 2 #[] #[])
  fields := #[]
  methods := #[k1m0, k1m1]
  instanceTypes := #[]
  staticTypes := #[]
  resolved := Array.replicate 57 none
  statics := none }

def pool2 : Array CpInfo := pool [(1, .methodref 2 3), (0, .class_ 4), (0, .nameAndType 5 6), (0, u "com/example/pollster/pollster/QueuePops$Popped"), (0, u "<init>"), (0, u "(JIJLjava/lang/String;J)V"), (0, .methodref 8 9), (0, .class_ 10), (0, .nameAndType 5 11), (0, u "java/lang/Object"), (0, u "()V"), (0, .fieldref 2 13), (0, .nameAndType 14 15), (0, u "serial"), (0, u "J"), (0, .fieldref 2 17), (0, .nameAndType 18 19), (0, u "reconsumeTimes"), (0, u "I"), (0, .fieldref 2 21), (0, .nameAndType 22 15), (0, u "invisibleUntil"), (0, .fieldref 2 24), (0, .nameAndType 25 26), (0, u "deadLetterMsgId"), (0, u "Ljava/lang/String;"), (0, .fieldref 2 28), (0, .nameAndType 29 15), (0, u "deadLetterFrom"), (2, u "ending"), (0, u "Ljava/util/concurrent/Future;"), (8, u "(JIJ)V"), (2, u "givenUp"), (0, u "(Ljava/lang/String;J)Lcom/example/pollster/pollster/QueuePops$Popped;"), (0, u "()J"), (1, u "hiddenAt"), (0, u "(J)Z"), (11, .class_ 63), (0, u "com/example/pollster/pollster/QueuePops")] 2

def k2c0 : Code := { maxStack := 9, maxLocals := 6, code := prog_56_method_1_code, exceptionTable := #[], attributes := #[] }
def k2m0 : Method := { name := "<init>", desc := "(JIJ)V", sig := { parameters := [.long, .int, .long], returnType := none }, accessFlags := 0, code := some k2c0 }
def k2c1 : Code := { maxStack := 3, maxLocals := 9, code := prog_56_method_2_code, exceptionTable := #[], attributes := #[] }
def k2m1 : Method := { name := "<init>", desc := "(JIJLjava/lang/String;J)V", sig := { parameters := [.long, .int, .long, (.object "java/lang/String"), .long], returnType := none }, accessFlags := 2, code := some k2c1 }
def k2c2 : Code := { maxStack := 10, maxLocals := 4, code := prog_56_method_3_code, exceptionTable := #[], attributes := #[] }
def k2m2 : Method := { name := "givenUp", desc := "(Ljava/lang/String;J)Lcom/example/pollster/pollster/QueuePops$Popped;", sig := { parameters := [(.object "java/lang/String"), .long], returnType := some (.object "com/example/pollster/pollster/QueuePops$Popped") }, accessFlags := 0, code := some k2c2 }
def k2c3 : Code := { maxStack := 2, maxLocals := 1, code := prog_56_method_6_code, exceptionTable := #[], attributes := #[] }
def k2m3 : Method := { name := "invisibleUntil", desc := "()J", sig := { parameters := [], returnType := some .long }, accessFlags := 0, code := some k2c3 }
def k2c4 : Code := { maxStack := 4, maxLocals := 3, code := prog_56_method_7_code, exceptionTable := #[], attributes := #[] }
def k2m4 : Method := { name := "hiddenAt", desc := "(J)Z", sig := { parameters := [.long], returnType := some .boolean }, accessFlags := 0, code := some k2c4 }
/-- com/example/pollster/pollster/QueuePops$Popped -/
def k2 : Class := { plain "com/example/pollster/pollster/QueuePops$Popped" (some 0) with
  accessFlags := 48
  interfaces := #[]
  cf := some (fileOf pool2 2 #[.nestHost 62] #[{ accessFlags := 0, nameIndex := 5, descriptorIndex := 42, attributes := #[] }, { accessFlags := 2, nameIndex := 5, descriptorIndex := 6, attributes := #[] }, { accessFlags := 0, nameIndex := 45, descriptorIndex := 46, attributes := #[] }, { accessFlags := 0, nameIndex := 22, descriptorIndex := 47, attributes := #[] }, { accessFlags := 0, nameIndex := 49, descriptorIndex := 50, attributes := #[] }] 48 8 #[] #[{ accessFlags := 18, nameIndex := 14, descriptorIndex := 15, attributes := #[] }, { accessFlags := 18, nameIndex := 18, descriptorIndex := 19, attributes := #[] }, { accessFlags := 18, nameIndex := 22, descriptorIndex := 15, attributes := #[] }, { accessFlags := 18, nameIndex := 25, descriptorIndex := 26, attributes := #[] }, { accessFlags := 18, nameIndex := 29, descriptorIndex := 15, attributes := #[] }, { accessFlags := 2, nameIndex := 32, descriptorIndex := 33, attributes := #[] }])
  fields := #[{ name := "serial", type := .long, accessFlags := 18, slot := 0, constantValue := 0 }, { name := "reconsumeTimes", type := .int, accessFlags := 18, slot := 1, constantValue := 0 }, { name := "invisibleUntil", type := .long, accessFlags := 18, slot := 2, constantValue := 0 }, { name := "deadLetterMsgId", type := (.object "java/lang/String"), accessFlags := 18, slot := 3, constantValue := 0 }, { name := "deadLetterFrom", type := .long, accessFlags := 18, slot := 4, constantValue := 0 }, { name := "ending", type := (.object "java/util/concurrent/Future"), accessFlags := 2, slot := 5, constantValue := 0 }]
  methods := #[k2m0, k2m1, k2m2, k2m3, k2m4]
  instanceTypes := #[.long, .int, .long, (.object "java/lang/String"), .long, (.object "java/util/concurrent/Future")]
  staticTypes := #[]
  resolved := Array.replicate 66 none
  statics := none }

def pool3 : Array CpInfo := pool [(1, .class_ 2), (0, u "java/io/Serializable"), (0, .class_ 4), (0, u "java/lang/Object")] 2

/-- java/io/Serializable -/
def k3 : Class := { plain "java/io/Serializable" (some 0) with
  accessFlags := 1537
  interfaces := #[]
  cf := some (fileOf pool3 1 #[] #[] 1537 3 #[] #[])
  fields := #[]
  methods := #[]
  instanceTypes := #[]
  staticTypes := #[]
  resolved := Array.replicate 7 none
  statics := none }

def pool4 : Array CpInfo := pool [(1, .class_ 2), (0, u "java/lang/Comparable"), (0, .class_ 4), (0, u "java/lang/Object")] 7

/-- java/lang/Comparable -/
def k4 : Class := { plain "java/lang/Comparable" (some 0) with
  accessFlags := 1537
  interfaces := #[]
  cf := some (fileOf pool4 1 #[] #[] 1537 3 #[] #[])
  fields := #[]
  methods := #[]
  instanceTypes := #[]
  staticTypes := #[]
  resolved := Array.replicate 12 none
  statics := none }

def pool5 : Array CpInfo := pool [(2, .class_ 4), (1, u "java/lang/CharSequence"), (42, .class_ 48), (0, u "java/lang/CharSequence$1CodePointIterator"), (10, .class_ 60), (0, u "java/lang/CharSequence$1CharIterator"), (5, .class_ 67), (0, u "java/lang/Object")] 63

/-- java/lang/CharSequence -/
def k5 : Class := { plain "java/lang/CharSequence" (some 0) with
  accessFlags := 1537
  interfaces := #[]
  cf := some (fileOf pool5 2 #[.nestMembers #[47, 59]] #[] 1537 66 #[] #[])
  fields := #[]
  methods := #[]
  instanceTypes := #[]
  staticTypes := #[]
  resolved := Array.replicate 131 none
  statics := none }

def pool6 : Array CpInfo := pool [(1, .class_ 2), (0, u "java/lang/constant/Constable"), (0, .class_ 4), (0, u "java/lang/Object")] 6

/-- java/lang/constant/Constable -/
def k6 : Class := { plain "java/lang/constant/Constable" (some 0) with
  accessFlags := 1537
  interfaces := #[]
  cf := some (fileOf pool6 1 #[] #[] 1537 3 #[] #[])
  fields := #[]
  methods := #[]
  instanceTypes := #[]
  staticTypes := #[]
  resolved := Array.replicate 11 none
  statics := none }

def pool7 : Array CpInfo := pool [(1, .class_ 2), (0, u "java/lang/constant/ConstantDesc"), (0, .class_ 4), (0, u "java/lang/Object")] 32

/-- java/lang/constant/ConstantDesc -/
def k7 : Class := { plain "java/lang/constant/ConstantDesc" (some 0) with
  accessFlags := 1537
  interfaces := #[]
  cf := some (fileOf pool7 1 #[] #[] 1537 3 #[] #[])
  fields := #[]
  methods := #[]
  instanceTypes := #[]
  staticTypes := #[]
  resolved := Array.replicate 37 none
  statics := none }

def pool8 : Array CpInfo := pool [(1, .methodref 2 3), (0, .class_ 4), (0, .nameAndType 5 6), (0, u "java/lang/Object"), (0, u "<init>"), (0, u "()V"), (2, .fieldref 10 11), (0, .class_ 12), (0, .nameAndType 13 14), (0, u "java/lang/String"), (0, u "value"), (0, u "[B"), (0, .fieldref 10 16), (0, .nameAndType 17 18), (0, u "coder"), (0, u "B"), (2, u "hash"), (0, u "I"), (2, u "hashIsZero"), (0, u "Z"), (0, .methodref 10 28), (0, .nameAndType 5 29), (0, u "([CIILjava/lang/Void;)V"), (8, .fieldref 10 39), (0, .nameAndType 40 26), (0, u "COMPACT_STRINGS"), (1, .class_ 44), (1, u "java/lang/StringUTF16"), (0, u "compress"), (1, .methodref 42 48), (0, .nameAndType 49 50), (0, u "coderFromArrayLen"), (0, u "([BI)B"), (126, .methodref 42 178), (0, .nameAndType 45 179), (0, u "([CII)[B"), (395, .class_ 576), (0, u "java/lang/CharSequence"), (22, u "CASE_INSENSITIVE_ORDER"), (0, u "Ljava/util/Comparator;"), (409, u "([C)V"), (90, u "serialPersistentFields"), (0, u "[Ljava/io/ObjectStreamField;"), (0, .class_ 1104), (0, u "java/lang/String$CaseInsensitiveComparator"), (1, .class_ 1107), (0, u "java/io/Serializable"), (0, .class_ 1109), (0, u "java/lang/Comparable"), (0, .class_ 1111), (0, u "java/lang/constant/Constable"), (0, .class_ 1113), (0, u "java/lang/constant/ConstantDesc"), (2, u "serialVersionUID"), (0, u "J"), (3, u "REPL"), (0, u "C"), (2, u "LATIN1"), (1, u "UTF16")] 323

def k8m0 : Method := { name := "<init>", desc := "()V", sig := { parameters := [], returnType := none }, accessFlags := 1, code := none }
def k8c1 : Code := { maxStack := 5, maxLocals := 2, code := jdk_42_method_3_code, exceptionTable := #[], attributes := #[] }
def k8m1 : Method := { name := "<init>", desc := "([C)V", sig := { parameters := [(.array .char)], returnType := none }, accessFlags := 1, code := some k8c1 }
def k8c2 : Code := { maxStack := 4, maxLocals := 6, code := jdk_42_method_149_code, exceptionTable := #[], attributes := #[] }
def k8m2 : Method := { name := "<init>", desc := "([CIILjava/lang/Void;)V", sig := { parameters := [(.array .char), .int, .int, (.object "java/lang/Void")], returnType := none }, accessFlags := 2, code := some k8c2 }
/-- java/lang/String -/
def k8 : Class := { plain "java/lang/String" (some 0) with
  accessFlags := 49
  interfaces := #[3, 4, 5, 6, 7]
  cf := some (fileOf pool8 10 #[.nestMembers #[1103]] #[{ accessFlags := 1, nameIndex := 5, descriptorIndex := 6, attributes := #[] }, { accessFlags := 1, nameIndex := 5, descriptorIndex := 1010, attributes := #[] }, { accessFlags := 2, nameIndex := 5, descriptorIndex := 29, attributes := #[] }] 49 2 #[1106, 1108, 575, 1110, 1112] #[{ accessFlags := 18, nameIndex := 13, descriptorIndex := 14, attributes := #[] }, { accessFlags := 18, nameIndex := 17, descriptorIndex := 18, attributes := #[] }, { accessFlags := 2, nameIndex := 21, descriptorIndex := 22, attributes := #[] }, { accessFlags := 2, nameIndex := 25, descriptorIndex := 26, attributes := #[] }, { accessFlags := 26, nameIndex := 1116, descriptorIndex := 1117, attributes := #[] }, { accessFlags := 24, nameIndex := 40, descriptorIndex := 26, attributes := #[] }, { accessFlags := 26, nameIndex := 1101, descriptorIndex := 1102, attributes := #[] }, { accessFlags := 26, nameIndex := 1121, descriptorIndex := 1122, attributes := #[] }, { accessFlags := 25, nameIndex := 599, descriptorIndex := 600, attributes := #[] }, { accessFlags := 24, nameIndex := 1125, descriptorIndex := 18, attributes := #[] }, { accessFlags := 24, nameIndex := 1127, descriptorIndex := 18, attributes := #[] }])
  fields := #[{ name := "value", type := (.array .byte), accessFlags := 18, slot := 0, constantValue := 0 }, { name := "coder", type := .byte, accessFlags := 18, slot := 1, constantValue := 0 }, { name := "hash", type := .int, accessFlags := 2, slot := 2, constantValue := 0 }, { name := "hashIsZero", type := .boolean, accessFlags := 2, slot := 3, constantValue := 0 }, { name := "serialVersionUID", type := .long, accessFlags := 26, slot := 0, constantValue := 0 }, { name := "COMPACT_STRINGS", type := .boolean, accessFlags := 24, slot := 1, constantValue := 0 }, { name := "serialPersistentFields", type := (.array (.object "java/io/ObjectStreamField")), accessFlags := 26, slot := 2, constantValue := 0 }, { name := "REPL", type := .char, accessFlags := 26, slot := 3, constantValue := 0 }, { name := "CASE_INSENSITIVE_ORDER", type := (.object "java/util/Comparator"), accessFlags := 25, slot := 4, constantValue := 0 }, { name := "LATIN1", type := .byte, accessFlags := 24, slot := 5, constantValue := 0 }, { name := "UTF16", type := .byte, accessFlags := 24, slot := 6, constantValue := 0 }]
  methods := #[k8m0, k8m1, k8m2]
  instanceTypes := #[(.array .byte), .byte, .int, .boolean]
  staticTypes := #[.long, .boolean, (.array (.object "java/io/ObjectStreamField")), .char, (.object "java/util/Comparator"), .byte, .byte]
  resolved := Array.replicate 1451 none
  statics := some 0 }

def pool9 : Array CpInfo := pool [(6, .class_ 8), (1, u "java/lang/Object"), (0, u "<init>"), (0, u "()V"), (1, .class_ 14), (1, u "java/lang/StringUTF16"), (31, u "$assertionsDisabled"), (0, u "Z"), (13, u "HI_BYTE_SHIFT"), (0, u "I"), (2, u "LO_BYTE_SHIFT"), (49, .methodref 12 116), (0, .nameAndType 117 118), (0, u "compress"), (0, u "([CI[BII)I"), (3, u "([CII)[B"), (138, u "coderFromArrayLen"), (0, u "([BI)B"), (106, .class_ 371), (1, u "java/lang/StringUTF16$LinesSpliterator"), (58, u "MAX_LENGTH"), (196, .class_ 628), (0, u "java/lang/StringUTF16$CodePointsSpliterator"), (0, .class_ 630), (0, u "java/lang/StringUTF16$CharsSpliterator")] 4

def k9m0 : Method := { name := "<init>", desc := "()V", sig := { parameters := [], returnType := none }, accessFlags := 0, code := none }
def k9c1 : Code := { maxStack := 2, maxLocals := 2, code := jdk_52_method_15_code, exceptionTable := #[], attributes := #[] }
def k9m1 : Method := { name := "coderFromArrayLen", desc := "([BI)B", sig := { parameters := [(.array .byte), .int], returnType := some .byte }, accessFlags := 8, code := some k9c1 }
def k9c2 : Code := { maxStack := 5, maxLocals := 6, code := jdk_52_method_16_code, exceptionTable := #[], attributes := #[] }
def k9m2 : Method := { name := "compress", desc := "([CII)[B", sig := { parameters := [(.array .char), .int, .int], returnType := some (.array .byte) }, accessFlags := 9, code := some k9c2 }
def k9c3 : Code := { maxStack := 3, maxLocals := 7, code := jdk_52_method_21_code, exceptionTable := #[], attributes := #[] }
def k9m3 : Method := { name := "compress", desc := "([CI[BII)I", sig := { parameters := [(.array .char), .int, (.array .byte), .int, .int], returnType := some .int }, accessFlags := 9, code := some k9c3 }
/-- java/lang/StringUTF16 -/
def k9 : Class := { plain "java/lang/StringUTF16" (some 0) with
  accessFlags := 48
  interfaces := #[]
  cf := some (fileOf pool9 12 #[.nestMembers #[627, 629, 369]] #[{ accessFlags := 0, nameIndex := 9, descriptorIndex := 10, attributes := #[] }, { accessFlags := 8, nameIndex := 261, descriptorIndex := 262, attributes := #[] }, { accessFlags := 9, nameIndex := 117, descriptorIndex := 122, attributes := #[] }, { accessFlags := 9, nameIndex := 117, descriptorIndex := 118, attributes := #[] }] 48 6 #[] #[{ accessFlags := 26, nameIndex := 61, descriptorIndex := 62, attributes := #[] }, { accessFlags := 26, nameIndex := 65, descriptorIndex := 62, attributes := #[] }, { accessFlags := 24, nameIndex := 430, descriptorIndex := 62, attributes := #[] }, { accessFlags := 4120, nameIndex := 46, descriptorIndex := 47, attributes := #[] }])
  fields := #[{ name := "HI_BYTE_SHIFT", type := .int, accessFlags := 26, slot := 0, constantValue := 0 }, { name := "LO_BYTE_SHIFT", type := .int, accessFlags := 26, slot := 1, constantValue := 0 }, { name := "MAX_LENGTH", type := .int, accessFlags := 24, slot := 2, constantValue := 0 }, { name := "$assertionsDisabled", type := .boolean, accessFlags := 4120, slot := 3, constantValue := 0 }]
  methods := #[k9m0, k9m1, k9m2, k9m3]
  instanceTypes := #[]
  staticTypes := #[.int, .int, .int, .boolean]
  resolved := Array.replicate 635 none
  statics := none }

def pool10 : Array CpInfo := pool [(1, .class_ 2), (0, u "java/lang/Math"), (1, .class_ 6), (1, u "java/lang/Object"), (0, u "<init>"), (0, u "()V"), (89, .class_ 100), (1, u "java/lang/Math$RandomNumberGeneratorHolder"), (20, u "(JJ)J"), (50, u "negativeZeroFloatBits"), (0, u "J"), (2, u "negativeZeroDoubleBits"), (21, u "max"), (2, u "min"), (43, u "$assertionsDisabled"), (0, u "Z"), (91, u "twoToTheDoubleScaleDown"), (0, u "D"), (4, u "twoToTheDoubleScaleUp"), (9, u "E"), (3, u "PI"), (2, u "TAU"), (2, u "DEGREES_TO_RADIANS"), (0, u "RADIANS_TO_DEGREES")] 94

def k10m0 : Method := { name := "<init>", desc := "()V", sig := { parameters := [], returnType := none }, accessFlags := 2, code := none }
def k10c1 : Code := { maxStack := 4, maxLocals := 4, code := jdk_29_method_66_code, exceptionTable := #[], attributes := #[] }
def k10m1 : Method := { name := "max", desc := "(JJ)J", sig := { parameters := [.long, .long], returnType := some .long }, accessFlags := 9, code := some k10c1 }
def k10c2 : Code := { maxStack := 4, maxLocals := 4, code := jdk_29_method_70_code, exceptionTable := #[], attributes := #[] }
def k10m2 : Method := { name := "min", desc := "(JJ)J", sig := { parameters := [.long, .long], returnType := some .long }, accessFlags := 9, code := some k10c2 }
/-- java/lang/Math -/
def k10 : Class := { plain "java/lang/Math" (some 0) with
  accessFlags := 49
  interfaces := #[]
  cf := some (fileOf pool10 1 #[.nestMembers #[98]] #[{ accessFlags := 2, nameIndex := 7, descriptorIndex := 8, attributes := #[] }, { accessFlags := 9, nameIndex := 198, descriptorIndex := 121, attributes := #[] }, { accessFlags := 9, nameIndex := 201, descriptorIndex := 121, attributes := #[] }] 49 4 #[] #[{ accessFlags := 25, nameIndex := 354, descriptorIndex := 339, attributes := #[] }, { accessFlags := 25, nameIndex := 358, descriptorIndex := 339, attributes := #[] }, { accessFlags := 25, nameIndex := 361, descriptorIndex := 339, attributes := #[] }, { accessFlags := 26, nameIndex := 364, descriptorIndex := 339, attributes := #[] }, { accessFlags := 26, nameIndex := 365, descriptorIndex := 339, attributes := #[] }, { accessFlags := 26, nameIndex := 172, descriptorIndex := 173, attributes := #[] }, { accessFlags := 26, nameIndex := 176, descriptorIndex := 173, attributes := #[] }, { accessFlags := 8, nameIndex := 344, descriptorIndex := 339, attributes := #[] }, { accessFlags := 8, nameIndex := 338, descriptorIndex := 339, attributes := #[] }, { accessFlags := 4120, nameIndex := 245, descriptorIndex := 246, attributes := #[] }])
  fields := #[{ name := "E", type := .double, accessFlags := 25, slot := 0, constantValue := 0 }, { name := "PI", type := .double, accessFlags := 25, slot := 1, constantValue := 0 }, { name := "TAU", type := .double, accessFlags := 25, slot := 2, constantValue := 0 }, { name := "DEGREES_TO_RADIANS", type := .double, accessFlags := 26, slot := 3, constantValue := 0 }, { name := "RADIANS_TO_DEGREES", type := .double, accessFlags := 26, slot := 4, constantValue := 0 }, { name := "negativeZeroFloatBits", type := .long, accessFlags := 26, slot := 5, constantValue := 0 }, { name := "negativeZeroDoubleBits", type := .long, accessFlags := 26, slot := 6, constantValue := 0 }, { name := "twoToTheDoubleScaleUp", type := .double, accessFlags := 8, slot := 7, constantValue := 0 }, { name := "twoToTheDoubleScaleDown", type := .double, accessFlags := 8, slot := 8, constantValue := 0 }, { name := "$assertionsDisabled", type := .boolean, accessFlags := 4120, slot := 9, constantValue := 0 }]
  methods := #[k10m0, k10m1, k10m2]
  instanceTypes := #[]
  staticTypes := #[.double, .double, .double, .double, .double, .long, .long, .double, .double, .boolean]
  resolved := Array.replicate 460 none
  statics := none }

def pool11 : Array CpInfo := pool [(4, .class_ 6), (1, u "java/lang/Object"), (0, u "<init>"), (0, u "()V"), (5, .class_ 16), (1, u "java/lang/StringLatin1"), (104, u "$assertionsDisabled"), (0, u "Z"), (98, .class_ 223), (1, u "java/lang/StringLatin1$LinesSpliterator"), (166, .class_ 391), (0, u "java/lang/StringLatin1$CharsSpliterator")] 3

def k11m0 : Method := { name := "<init>", desc := "()V", sig := { parameters := [], returnType := none }, accessFlags := 0, code := none }
/-- java/lang/StringLatin1 -/
def k11 : Class := { plain "java/lang/StringLatin1" (some 0) with
  accessFlags := 48
  interfaces := #[]
  cf := some (fileOf pool11 14 #[.nestMembers #[390, 221]] #[{ accessFlags := 0, nameIndex := 7, descriptorIndex := 8, attributes := #[] }] 48 4 #[] #[{ accessFlags := 4120, nameIndex := 121, descriptorIndex := 122, attributes := #[] }])
  fields := #[{ name := "$assertionsDisabled", type := .boolean, accessFlags := 4120, slot := 0, constantValue := 0 }]
  methods := #[k11m0]
  instanceTypes := #[]
  staticTypes := #[.boolean]
  resolved := Array.replicate 395 none
  statics := none }

def pool12 : Array CpInfo := pool [(2, .class_ 4), (1, u "java/lang/Object"), (0, u "<init>"), (0, u "()V"), (17, .class_ 26), (1, u "jdk/internal/util/Preconditions"), (28, .class_ 56), (0, u "jdk/internal/util/Preconditions$4"), (57, .class_ 115), (0, u "jdk/internal/util/Preconditions$1"), (7, u "SIOOBE_FORMATTER"), (0, u "Ljava/util/function/BiFunction;"), (0, .class_ 126), (0, u "jdk/internal/util/Preconditions$2"), (3, u "AIOOBE_FORMATTER"), (0, .class_ 132), (0, u "jdk/internal/util/Preconditions$3"), (3, u "IOOBE_FORMATTER")] 57

def k12m0 : Method := { name := "<init>", desc := "()V", sig := { parameters := [], returnType := none }, accessFlags := 1, code := none }
/-- jdk/internal/util/Preconditions -/
def k12 : Class := { plain "jdk/internal/util/Preconditions" (some 0) with
  accessFlags := 33
  interfaces := #[]
  cf := some (fileOf pool12 24 #[.nestMembers #[55, 131, 125, 114]] #[{ accessFlags := 1, nameIndex := 5, descriptorIndex := 6, attributes := #[] }] 33 2 #[] #[{ accessFlags := 25, nameIndex := 123, descriptorIndex := 124, attributes := #[] }, { accessFlags := 25, nameIndex := 130, descriptorIndex := 124, attributes := #[] }, { accessFlags := 25, nameIndex := 136, descriptorIndex := 124, attributes := #[] }])
  fields := #[{ name := "SIOOBE_FORMATTER", type := (.object "java/util/function/BiFunction"), accessFlags := 25, slot := 0, constantValue := 0 }, { name := "AIOOBE_FORMATTER", type := (.object "java/util/function/BiFunction"), accessFlags := 25, slot := 1, constantValue := 0 }, { name := "IOOBE_FORMATTER", type := (.object "java/util/function/BiFunction"), accessFlags := 25, slot := 2, constantValue := 0 }]
  methods := #[k12m0]
  instanceTypes := #[]
  staticTypes := #[(.object "java/util/function/BiFunction"), (.object "java/util/function/BiFunction"), (.object "java/util/function/BiFunction")]
  resolved := Array.replicate 194 none
  statics := some 1 }

def pool13 : Array CpInfo := pool [(9, u "<init>"), (6, .class_ 18), (1, u "java/lang/Object"), (0, u "()V"), (1, .class_ 23), (1, u "jdk/internal/util/ArraysSupport"), (0, u "LOG2_ARRAY_LONG_INDEX_SCALE"), (0, u "I"), (2, u "U"), (0, u "Ljdk/internal/misc/Unsafe;"), (8, u "BIG_ENDIAN"), (0, u "Z"), (8, u "LOG2_BYTE_BIT_SIZE"), (4, u "LOG2_ARRAY_INT_INDEX_SCALE"), (54, u "JLA"), (0, u "Ljdk/internal/access/JavaLangAccess;"), (11, u "LOG2_ARRAY_BOOLEAN_INDEX_SCALE"), (9, u "LOG2_ARRAY_BYTE_INDEX_SCALE"), (5, u "LOG2_ARRAY_CHAR_INDEX_SCALE"), (5, u "LOG2_ARRAY_SHORT_INDEX_SCALE"), (18, u "LOG2_ARRAY_FLOAT_INDEX_SCALE"), (24, u "LOG2_ARRAY_DOUBLE_INDEX_SCALE"), (89, u "T_BOOLEAN"), (2, u "T_CHAR"), (1, u "T_FLOAT"), (1, u "T_DOUBLE"), (1, u "T_BYTE"), (1, u "T_SHORT"), (1, u "T_INT"), (1, u "T_LONG"), (1, u "SOFT_MAX_ARRAY_LENGTH")] 83

def k13m0 : Method := { name := "<init>", desc := "()V", sig := { parameters := [], returnType := none }, accessFlags := 2, code := none }
/-- jdk/internal/util/ArraysSupport -/
def k13 : Class := { plain "jdk/internal/util/ArraysSupport" (some 0) with
  accessFlags := 33
  interfaces := #[]
  cf := some (fileOf pool13 21 #[] #[{ accessFlags := 2, nameIndex := 9, descriptorIndex := 19, attributes := #[] }] 33 16 #[] #[{ accessFlags := 24, nameIndex := 28, descriptorIndex := 29, attributes := #[] }, { accessFlags := 26, nameIndex := 38, descriptorIndex := 39, attributes := #[] }, { accessFlags := 25, nameIndex := 121, descriptorIndex := 25, attributes := #[] }, { accessFlags := 25, nameIndex := 131, descriptorIndex := 25, attributes := #[] }, { accessFlags := 25, nameIndex := 137, descriptorIndex := 25, attributes := #[] }, { accessFlags := 25, nameIndex := 143, descriptorIndex := 25, attributes := #[] }, { accessFlags := 25, nameIndex := 53, descriptorIndex := 25, attributes := #[] }, { accessFlags := 25, nameIndex := 24, descriptorIndex := 25, attributes := #[] }, { accessFlags := 25, nameIndex := 162, descriptorIndex := 25, attributes := #[] }, { accessFlags := 25, nameIndex := 187, descriptorIndex := 25, attributes := #[] }, { accessFlags := 26, nameIndex := 48, descriptorIndex := 25, attributes := #[] }, { accessFlags := 25, nameIndex := 277, descriptorIndex := 25, attributes := #[] }, { accessFlags := 25, nameIndex := 280, descriptorIndex := 25, attributes := #[] }, { accessFlags := 25, nameIndex := 282, descriptorIndex := 25, attributes := #[] }, { accessFlags := 25, nameIndex := 284, descriptorIndex := 25, attributes := #[] }, { accessFlags := 25, nameIndex := 286, descriptorIndex := 25, attributes := #[] }, { accessFlags := 25, nameIndex := 288, descriptorIndex := 25, attributes := #[] }, { accessFlags := 25, nameIndex := 290, descriptorIndex := 25, attributes := #[] }, { accessFlags := 25, nameIndex := 292, descriptorIndex := 25, attributes := #[] }, { accessFlags := 26, nameIndex := 108, descriptorIndex := 109, attributes := #[] }, { accessFlags := 25, nameIndex := 294, descriptorIndex := 25, attributes := #[] }])
  fields := #[{ name := "U", type := (.object "jdk/internal/misc/Unsafe"), accessFlags := 24, slot := 0, constantValue := 0 }, { name := "BIG_ENDIAN", type := .boolean, accessFlags := 26, slot := 1, constantValue := 0 }, { name := "LOG2_ARRAY_BOOLEAN_INDEX_SCALE", type := .int, accessFlags := 25, slot := 2, constantValue := 0 }, { name := "LOG2_ARRAY_BYTE_INDEX_SCALE", type := .int, accessFlags := 25, slot := 3, constantValue := 0 }, { name := "LOG2_ARRAY_CHAR_INDEX_SCALE", type := .int, accessFlags := 25, slot := 4, constantValue := 0 }, { name := "LOG2_ARRAY_SHORT_INDEX_SCALE", type := .int, accessFlags := 25, slot := 5, constantValue := 0 }, { name := "LOG2_ARRAY_INT_INDEX_SCALE", type := .int, accessFlags := 25, slot := 6, constantValue := 0 }, { name := "LOG2_ARRAY_LONG_INDEX_SCALE", type := .int, accessFlags := 25, slot := 7, constantValue := 0 }, { name := "LOG2_ARRAY_FLOAT_INDEX_SCALE", type := .int, accessFlags := 25, slot := 8, constantValue := 0 }, { name := "LOG2_ARRAY_DOUBLE_INDEX_SCALE", type := .int, accessFlags := 25, slot := 9, constantValue := 0 }, { name := "LOG2_BYTE_BIT_SIZE", type := .int, accessFlags := 26, slot := 10, constantValue := 0 }, { name := "T_BOOLEAN", type := .int, accessFlags := 25, slot := 11, constantValue := 0 }, { name := "T_CHAR", type := .int, accessFlags := 25, slot := 12, constantValue := 0 }, { name := "T_FLOAT", type := .int, accessFlags := 25, slot := 13, constantValue := 0 }, { name := "T_DOUBLE", type := .int, accessFlags := 25, slot := 14, constantValue := 0 }, { name := "T_BYTE", type := .int, accessFlags := 25, slot := 15, constantValue := 0 }, { name := "T_SHORT", type := .int, accessFlags := 25, slot := 16, constantValue := 0 }, { name := "T_INT", type := .int, accessFlags := 25, slot := 17, constantValue := 0 }, { name := "T_LONG", type := .int, accessFlags := 25, slot := 18, constantValue := 0 }, { name := "JLA", type := (.object "jdk/internal/access/JavaLangAccess"), accessFlags := 26, slot := 19, constantValue := 0 }, { name := "SOFT_MAX_ARRAY_LENGTH", type := .int, accessFlags := 25, slot := 20, constantValue := 0 }]
  methods := #[k13m0]
  instanceTypes := #[]
  staticTypes := #[(.object "jdk/internal/misc/Unsafe"), .boolean, .int, .int, .int, .int, .int, .int, .int, .int, .int, .int, .int, .int, .int, .int, .int, .int, .int, (.object "jdk/internal/access/JavaLangAccess"), .int]
  resolved := Array.replicate 378 none
  statics := none }

def pool14 : Array CpInfo := pool [(1, u "java/lang/Cloneable"), (0, .class_ 1), (0, u "java/lang/Object"), (0, .class_ 3)] 3

/-- java/lang/Cloneable -/
def k14 : Class := { plain "java/lang/Cloneable" (some 0) with
  accessFlags := 1537
  interfaces := #[]
  cf := some (fileOf pool14 2 #[] #[] 1537 4 #[] #[])
  fields := #[]
  methods := #[]
  instanceTypes := #[]
  staticTypes := #[]
  resolved := Array.replicate 8 none
  statics := none }

/-- the primitive byte -/
def k15 : Class := { plain "byte" none with kind := .primitive 'B', accessFlags := 0x411 }
/-- [B -/
def k16 : Class := { plain "[B" (some 0) with kind := .array 15 .byte, interfaces := #[14, 3], accessFlags := 1041 }

/-- the primitive char -/
def k17 : Class := { plain "char" none with kind := .primitive 'C', accessFlags := 0x411 }
/-- [C -/
def k18 : Class := { plain "[C" (some 0) with kind := .array 17 .char, interfaces := #[14, 3], accessFlags := 1041 }

/-- the primitive int -/
def k19 : Class := { plain "int" none with kind := .primitive 'I', accessFlags := 0x411 }
/-- [I -/
def k20 : Class := { plain "[I" (some 0) with kind := .array 19 .int, interfaces := #[14, 3], accessFlags := 1041 }

def heap : Heap := #[{ cls := 8, slots := #[.long 0, .int 1, .null, .int 0, .null, .int 0, .int 0], vm := .statics 8 },
  { cls := 12, slots := #[.null, .null, .null], vm := .statics 12 }]
def classes : Array Class := #[k0, k1, k2, k3, k4, k5, k6, k7, k8, k9, k10, k11, k12, k13, k14, k15, k16, k17, k18, k19, k20]
def interned : List (Array UInt16 × Addr) := []
def slotsUsed : Nat := 10
def theMethod : MethodId := ⟨1, 1⟩
def args0 : Array Value := #[.long 2, .int 3, .long 4, .long 5, .long 6, .int 7]
def aboutOver (below : List Frame) : State where
  vm := { classes := classes, interned := interned.toArray }
  heap := heap
  slotsUsed := slotsUsed
  threads := #[{ frames := .invoking theMethod args0 :: below }]
def below0 : List Frame := [.native { method := ⟨0, 0⟩, args := #[] }]
def about1 : State := aboutOver below0
def p0 : Program := .bare "" "" ""
def e0 : Env := launch0.env 0 0 0
theorem w_frames : about1.frames = Frame.invoking theMethod args0 :: below0 := rfl
set_option maxRecDepth 65536 in
theorem w_args : argsFit about1.vm theMethod args0 = true := by decide +kernel
set_option maxRecDepth 65536 in
theorem w_heap : heapFits about1 = true := by decide +kernel
set_option maxRecDepth 65536 in
theorem w_runnable : about1.curStatus? = some .runnable := by decide +kernel
set_option maxRecDepth 65536 in
theorem w_alone : about1.alone = true := by decide +kernel
set_option maxRecDepth 65536 in
theorem w_named : about1.methodNamed? x = some theMethod := by decide +kernel
set_option maxRecDepth 65536 in
theorem w_hears : about1.hears theMethod below0 = true := by decide +kernel
set_option maxRecDepth 65536 in
theorem w_ripe : about1.ripe theMethod args0 below0 = true := by decide +kernel
theorem w_running : about1.status = .running := rfl
set_option maxRecDepth 65536 in
theorem w_room : about1.hasRoom e0.platform room_1 = true :=
  launch0.hasRoom_least _ room_1 (by decide +kernel) (by decide +kernel) (by decide +kernel) (by decide +kernel) (by decide +kernel) (by decide +kernel)
theorem allAtoms_all (ts : List Jvm.Cond) (a : Array Jvm.Value) (st : Jvm.State) : (allAtoms ts).before a st = ts.all (fun c => c.before a st) := by
  induction ts with
  | nil => rfl
  | cons c t ih =>
    show (Jvm.Cond.and c (allAtoms t)).before a st = _
    rw [Jvm.Cond.before_and, ih, List.all_cons]
def words1 : List Jvm.Cond := Jvm.Cond.code x code maxLocals ret :: tables_1
/-- a 'code' word, met by the world's own term for the bytes: nothing is compared byte by byte -/
theorem code_word {y : MethodName} {bytes : ByteArray} {mx : Nat} {rt : Option FieldType} {a : Array Value} {s : State} {m : MethodId} {meth : Method} {c : Code} (h1 : s.methodNamed? y = some m) (h2 : s.vm.method? m = some meth) (h3 : meth.code = some c) (h4 : c.code = bytes)
    (h5 : (c.maxLocals == mx && c.exceptionTable.isEmpty && decide (c.maxStack ≤ mostOperands) && decide (meth.sig.returnType = rt) && !meth.locks && decide (parseMethodDescriptor y.desc = some meth.sig)) = true) : (Jvm.Cond.code y bytes mx rt).before a s = true := by
  simp only [Bool.and_eq_true, beq_iff_eq, Bool.not_eq_true', decide_eq_true_eq] at h5
  obtain ⟨⟨⟨⟨⟨g1, g2⟩, g3⟩, g4⟩, g5⟩, g6⟩ := h5
  simp [Cond.before, Cond.holds, Cond.value, h1, h2, h3, h4, g1, g2, g3, g4, g5, g6]
def isCode : Jvm.Cond → Bool
  | .code _ _ _ _ => true
  | _ => false
theorem all_split {L : List Jvm.Cond} {P : Jvm.Cond → Bool} (h1 : L.all (fun c => isCode c || P c) = true) (h2 : ∀ c ∈ L.filter isCode, P c = true) : L.all P = true := by
  refine List.all_eq_true.mpr fun c hc => ?_
  have h := List.all_eq_true.mp h1 c hc
  rcases Bool.eq_false_or_eq_true (isCode c) with hi | hi
  · exact h2 c (List.mem_filter.mpr ⟨hc, hi⟩)
  · simpa [hi] using h
set_option maxRecDepth 65536 in
theorem w_c0 : (Jvm.Cond.code x code maxLocals ret).before args0 about1 = true := code_word (m := ⟨1, 1⟩) (meth := k1m1) (c := k1c1) (by decide +kernel) rfl rfl rfl (by decide +kernel)
set_option maxRecDepth 65536 in
theorem w_c1 : (Jvm.Cond.code ({ cls := "com/example/pollster/pollster/QueuePops$Popped", name := "<init>", desc := "(JIJ)V" } : Jvm.MethodName) prog_56_method_1_code (6 : Nat) (Option.none : Option Jvm.ClassFile.FieldType)).before args0 about1 = true := code_word (m := ⟨2, 0⟩) (meth := k2m0) (c := k2c0) (by decide +kernel) rfl rfl rfl (by decide +kernel)
set_option maxRecDepth 65536 in
theorem w_c2 : (Jvm.Cond.code ({ cls := "com/example/pollster/pollster/QueuePops$Popped", name := "<init>", desc := "(JIJLjava/lang/String;J)V" } : Jvm.MethodName) prog_56_method_2_code (9 : Nat) (Option.none : Option Jvm.ClassFile.FieldType)).before args0 about1 = true := code_word (m := ⟨2, 1⟩) (meth := k2m1) (c := k2c1) (by decide +kernel) rfl rfl rfl (by decide +kernel)
set_option maxRecDepth 65536 in
theorem w_c3 : (Jvm.Cond.code ({ cls := "java/lang/Object", name := "<init>", desc := "()V" } : Jvm.MethodName) object_method_1_code (1 : Nat) (Option.none : Option Jvm.ClassFile.FieldType)).before args0 about1 = true := code_word (m := ⟨0, 0⟩) (meth := k0m0) (c := k0c0) (by decide +kernel) rfl rfl rfl (by decide +kernel)
set_option maxRecDepth 65536 in
theorem w_c4 : (Jvm.Cond.code ({ cls := "java/lang/String", name := "<init>", desc := "([C)V" } : Jvm.MethodName) jdk_42_method_3_code (2 : Nat) (Option.none : Option Jvm.ClassFile.FieldType)).before args0 about1 = true := code_word (m := ⟨8, 1⟩) (meth := k8m1) (c := k8c1) (by decide +kernel) rfl rfl rfl (by decide +kernel)
set_option maxRecDepth 65536 in
theorem w_c5 : (Jvm.Cond.code ({ cls := "java/lang/String", name := "<init>", desc := "([CIILjava/lang/Void;)V" } : Jvm.MethodName) jdk_42_method_149_code (6 : Nat) (Option.none : Option Jvm.ClassFile.FieldType)).before args0 about1 = true := code_word (m := ⟨8, 2⟩) (meth := k8m2) (c := k8c2) (by decide +kernel) rfl rfl rfl (by decide +kernel)
set_option maxRecDepth 65536 in
theorem w_c6 : (Jvm.Cond.code ({ cls := "java/lang/StringUTF16", name := "compress", desc := "([CII)[B" } : Jvm.MethodName) jdk_52_method_16_code (6 : Nat) (Option.some (Jvm.ClassFile.FieldType.array Jvm.ClassFile.FieldType.byte))).before args0 about1 = true := code_word (m := ⟨9, 2⟩) (meth := k9m2) (c := k9c2) (by decide +kernel) rfl rfl rfl (by decide +kernel)
set_option maxRecDepth 65536 in
theorem w_c7 : (Jvm.Cond.code ({ cls := "java/lang/StringUTF16", name := "compress", desc := "([CI[BII)I" } : Jvm.MethodName) jdk_52_method_21_code (7 : Nat) (Option.some Jvm.ClassFile.FieldType.int)).before args0 about1 = true := code_word (m := ⟨9, 3⟩) (meth := k9m3) (c := k9c3) (by decide +kernel) rfl rfl rfl (by decide +kernel)
set_option maxRecDepth 65536 in
theorem w_c8 : (Jvm.Cond.code ({ cls := "java/lang/StringUTF16", name := "coderFromArrayLen", desc := "([BI)B" } : Jvm.MethodName) jdk_52_method_15_code (2 : Nat) (Option.some Jvm.ClassFile.FieldType.byte)).before args0 about1 = true := code_word (m := ⟨9, 1⟩) (meth := k9m1) (c := k9c1) (by decide +kernel) rfl rfl rfl (by decide +kernel)
set_option maxRecDepth 65536 in
theorem w_c9 : (Jvm.Cond.code ({ cls := "com/example/pollster/pollster/QueuePops$Popped", name := "givenUp", desc := "(Ljava/lang/String;J)Lcom/example/pollster/pollster/QueuePops$Popped;" } : Jvm.MethodName) prog_56_method_3_code (4 : Nat) (Option.some (Jvm.ClassFile.FieldType.object "com/example/pollster/pollster/QueuePops$Popped"))).before args0 about1 = true := code_word (m := ⟨2, 2⟩) (meth := k2m2) (c := k2c2) (by decide +kernel) rfl rfl rfl (by decide +kernel)
set_option maxRecDepth 65536 in
theorem w_c10 : (Jvm.Cond.code ({ cls := "com/example/pollster/pollster/QueuePops$Popped", name := "hiddenAt", desc := "(J)Z" } : Jvm.MethodName) prog_56_method_7_code (3 : Nat) (Option.some Jvm.ClassFile.FieldType.boolean)).before args0 about1 = true := code_word (m := ⟨2, 4⟩) (meth := k2m4) (c := k2c4) (by decide +kernel) rfl rfl rfl (by decide +kernel)
set_option maxRecDepth 65536 in
theorem w_c11 : (Jvm.Cond.code ({ cls := "java/lang/Math", name := "min", desc := "(JJ)J" } : Jvm.MethodName) jdk_29_method_70_code (4 : Nat) (Option.some Jvm.ClassFile.FieldType.long)).before args0 about1 = true := code_word (m := ⟨10, 2⟩) (meth := k10m2) (c := k10c2) (by decide +kernel) rfl rfl rfl (by decide +kernel)
set_option maxRecDepth 65536 in
theorem w_c12 : (Jvm.Cond.code ({ cls := "java/lang/Math", name := "max", desc := "(JJ)J" } : Jvm.MethodName) jdk_29_method_66_code (4 : Nat) (Option.some Jvm.ClassFile.FieldType.long)).before args0 about1 = true := code_word (m := ⟨10, 1⟩) (meth := k10m1) (c := k10c1) (by decide +kernel) rfl rfl rfl (by decide +kernel)
set_option maxRecDepth 65536 in
theorem w_c13 : (Jvm.Cond.code ({ cls := "com/example/pollster/pollster/QueuePops$Popped", name := "invisibleUntil", desc := "()J" } : Jvm.MethodName) prog_56_method_6_code (1 : Nat) (Option.some Jvm.ClassFile.FieldType.long)).before args0 about1 = true := code_word (m := ⟨2, 3⟩) (meth := k2m3) (c := k2c3) (by decide +kernel) rfl rfl rfl (by decide +kernel)
def codes1 : List Jvm.Cond := [Jvm.Cond.code x code maxLocals ret, Jvm.Cond.code ({ cls := "com/example/pollster/pollster/QueuePops$Popped", name := "<init>", desc := "(JIJ)V" } : Jvm.MethodName) prog_56_method_1_code (6 : Nat) (Option.none : Option Jvm.ClassFile.FieldType), Jvm.Cond.code ({ cls := "com/example/pollster/pollster/QueuePops$Popped", name := "<init>", desc := "(JIJLjava/lang/String;J)V" } : Jvm.MethodName) prog_56_method_2_code (9 : Nat) (Option.none : Option Jvm.ClassFile.FieldType), Jvm.Cond.code ({ cls := "java/lang/Object", name := "<init>", desc := "()V" } : Jvm.MethodName) object_method_1_code (1 : Nat) (Option.none : Option Jvm.ClassFile.FieldType), Jvm.Cond.code ({ cls := "java/lang/String", name := "<init>", desc := "([C)V" } : Jvm.MethodName) jdk_42_method_3_code (2 : Nat) (Option.none : Option Jvm.ClassFile.FieldType), Jvm.Cond.code ({ cls := "java/lang/String", name := "<init>", desc := "([CIILjava/lang/Void;)V" } : Jvm.MethodName) jdk_42_method_149_code (6 : Nat) (Option.none : Option Jvm.ClassFile.FieldType), Jvm.Cond.code ({ cls := "java/lang/StringUTF16", name := "compress", desc := "([CII)[B" } : Jvm.MethodName) jdk_52_method_16_code (6 : Nat) (Option.some (Jvm.ClassFile.FieldType.array Jvm.ClassFile.FieldType.byte)), Jvm.Cond.code ({ cls := "java/lang/StringUTF16", name := "compress", desc := "([CI[BII)I" } : Jvm.MethodName) jdk_52_method_21_code (7 : Nat) (Option.some Jvm.ClassFile.FieldType.int), Jvm.Cond.code ({ cls := "java/lang/StringUTF16", name := "coderFromArrayLen", desc := "([BI)B" } : Jvm.MethodName) jdk_52_method_15_code (2 : Nat) (Option.some Jvm.ClassFile.FieldType.byte), Jvm.Cond.code ({ cls := "com/example/pollster/pollster/QueuePops$Popped", name := "givenUp", desc := "(Ljava/lang/String;J)Lcom/example/pollster/pollster/QueuePops$Popped;" } : Jvm.MethodName) prog_56_method_3_code (4 : Nat) (Option.some (Jvm.ClassFile.FieldType.object "com/example/pollster/pollster/QueuePops$Popped")), Jvm.Cond.code ({ cls := "com/example/pollster/pollster/QueuePops$Popped", name := "hiddenAt", desc := "(J)Z" } : Jvm.MethodName) prog_56_method_7_code (3 : Nat) (Option.some Jvm.ClassFile.FieldType.boolean), Jvm.Cond.code ({ cls := "java/lang/Math", name := "min", desc := "(JJ)J" } : Jvm.MethodName) jdk_29_method_70_code (4 : Nat) (Option.some Jvm.ClassFile.FieldType.long), Jvm.Cond.code ({ cls := "java/lang/Math", name := "max", desc := "(JJ)J" } : Jvm.MethodName) jdk_29_method_66_code (4 : Nat) (Option.some Jvm.ClassFile.FieldType.long), Jvm.Cond.code ({ cls := "com/example/pollster/pollster/QueuePops$Popped", name := "invisibleUntil", desc := "()J" } : Jvm.MethodName) prog_56_method_6_code (1 : Nat) (Option.some Jvm.ClassFile.FieldType.long)]
set_option maxRecDepth 65536 in
theorem codes_eq : words1.filter isCode = codes1 := rfl
theorem w_codes : ∀ c ∈ words1.filter isCode, c.before args0 about1 = true := by
  rw [codes_eq]
  intro c hc
  simp only [codes1, List.mem_cons, List.not_mem_nil, or_false] at hc
  rcases hc with rfl | rfl | rfl | rfl | rfl | rfl | rfl | rfl | rfl | rfl | rfl | rfl | rfl | rfl
  · exact w_c0
  · exact w_c1
  · exact w_c2
  · exact w_c3
  · exact w_c4
  · exact w_c5
  · exact w_c6
  · exact w_c7
  · exact w_c8
  · exact w_c9
  · exact w_c10
  · exact w_c11
  · exact w_c12
  · exact w_c13
set_option maxRecDepth 65536 in
theorem w_t1 : (words1.take 24).all (fun c => isCode c || c.before args0 about1) = true := by decide +kernel
set_option maxRecDepth 65536 in
theorem w_t2 : ((words1.drop 24).take 24).all (fun c => isCode c || c.before args0 about1) = true := by decide +kernel
set_option maxRecDepth 65536 in
theorem w_t3 : (((words1.drop 24).drop 24).take 24).all (fun c => isCode c || c.before args0 about1) = true := by decide +kernel
set_option maxRecDepth 65536 in
theorem w_t4 : (((words1.drop 24).drop 24).drop 24).all (fun c => isCode c || c.before args0 about1) = true := by decide +kernel
theorem w_tables : (allAtoms (Jvm.Cond.code x code maxLocals ret :: tables_1)).before args0 about1 = true := by
  rw [allAtoms_all]
  show words1.all (fun c => c.before args0 about1) = true
  refine all_split ?_ w_codes
  rw [← List.take_append_drop 24 words1, List.all_append, w_t1, ← List.take_append_drop 24 (words1.drop 24), List.all_append, w_t2, ← List.take_append_drop 24 ((words1.drop 24).drop 24), List.all_append, w_t3, w_t4]
  rfl
set_option maxRecDepth 65536 in
theorem w_rest : rest_1_c.before args0 about1 = true := by decide +kernel
set_option maxRecDepth 65536 in
theorem w_case : (Jvm.Cond.and given_1 narrow_1).before args0 about1 = true := by decide +kernel
theorem w_applies : (headSpec (Jvm.Cond.code x code maxLocals ret :: tables_1) room_1).applies x e0.platform about1 = true :=
  (Spec.applies_iff w_frames).mpr ⟨w_running, w_runnable, w_alone, w_named, w_hears, w_ripe, w_room, w_tables⟩
theorem atStart : AtStart classFile x code maxLocals ret World_1 tables_1 room_1 Calls_1 rest_1 Pre_1 launch0 p0 e0 about1 theMethod args0 below0 :=
  ⟨lists_1, trivial, launch0.admits_env _ _ _, launch0.least_env, fairChoices_fair.cas, fairChoices_fair.clock, w_frames, w_args, w_heap, w_applies, trivial, w_rest, w_case⟩
end start1
theorem witness_1 : WitnessClaimed_1 := ⟨start1.p0, start1.e0, start1.about1, start1.theMethod, start1.args0, start1.below0, start1.atStart⟩
end Jvm.Pilot.@@N@@
