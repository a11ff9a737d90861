import JvmDerived
import JvmDerived.Pilot.@@N@@Statement
import JvmDerived.Pilot.@@N@@Code
set_option linter.unusedVariables false
set_option linter.unusedSimpArgs false
@@BLOCK:NumsL.lean.txt@@
namespace Jvm.Pilot.@@N@@
open Jvm Jvm.ClassFile Sem Op Lib Jvm.Free Jvm.Stand Jvm.LawKit Jvm.RoadKit Bundle Jvm.Pilot.@@N@@.Jvm.D

section OwnKit
variable {p : Program} {l : Launch} {e : Env} {R : Room} {s : State} {m : MethodId} {args : Array Value} {below : List Frame} {meth : Method} {c : Code} {T : State} {locs : List Loc} {cells slots : Nat}
def own_Go (p : Program) (e : Env) (below : List Frame) (s : State) (Q : Option Value → Heap → List Loc → Prop) (rc rs : Nat) (T : State) (g : JFrame) : Prop :=
  ∃ s₂ o, Steps p.tables e below (T.setTop g) s₂ ∧ s₂.status = .running ∧ Ended s₂ below o ∧ ∃ v L, o = .returned v ∧ Q v s₂.heap L ∧ FrameEnd s o s₂ L rc rs
variable {Q : Option Value → Heap → List Loc → Prop} {rc rs : Nat} {T' : State} {g g' : JFrame}
theorem own_step (st : ∀ target, Steps p.tables e below (T'.setTop g') target → Steps p.tables e below (T.setTop g) target) (k : own_Go p e below s Q rc rs T' g') : own_Go p e below s Q rc rs T g := by
  obtain ⟨s₂, o, h1, h2⟩ := k
  exact ⟨s₂, o, st _ h1, h2⟩
theorem own_tr (st : Steps p.tables e below (T.setTop g) (T'.setTop g')) (k : own_Go p e below s Q rc rs T' g') : own_Go p e below s Q rc rs T g := by
  obtain ⟨s₂, o, h1, h2⟩ := k
  exact ⟨s₂, o, st.trans h1, h2⟩
theorem own_cast (q : g = g') (k : own_Go p e below s Q rc rs T g') : own_Go p e below s Q rc rs T g := q ▸ k
theorem own_done (X : Stand p l e R s m args below meth c T locs cells slots) {v : Option Value} (hv : meth.sig.returnType = none → v = none) (hlk : meth.locks = false)
    (st : ∀ fs, (∀ (f : JFrame) (acts : List Action), f.method = m → f.locked = none → f.entered = [] → (doReturn e (T.setTop f) acts v).1 = T.setFrames fs) → Steps p.tables e below (T.setTop g) (T.setFrames fs))
    (hQ : Q v T.heap locs) (hc : cells ≤ rc) (hs : slots ≤ rs) : own_Go p e below s Q rc rs T g := by
  obtain ⟨fs, hr, hrun, hended, hW, hsame⟩ := X.leave (v := v) hv hlk
  exact ⟨_, _, st fs hr, hrun, hended, v, locs, rfl, hQ, ⟨_, rfl⟩, hW, hsame.mono hc hs⟩
theorem own_rN (X : Stand p l e R s m args below meth c T locs cells slots) (hx : p.tables.exec = Jvm.exec) (hlk : meth.locks = false) {t : FieldType} (hret : meth.sig.returnType = some t) (ht : t = .boolean ∨ t = .byte ∨ t = .char ∨ t = .short) {pc : Nat} {Ls : Array Slot} {z : Int32} {rest : List Value}
    (hd : decode c.code pc = .ok (.ireturn, 1)) (hQ : Q (some (.int (nar t z))) T.heap locs) (hc : cells ≤ rc) (hs : slots ≤ rs) : own_Go p e below s Q rc rs T (mkF m pc Ls (.int z :: rest)) :=
  own_done X (fun h => by rw [hret] at h; cases h) hlk (fun fs hr => retN X hx hret ht hd hr) hQ hc hs
theorem own_rI (X : Stand p l e R s m args below meth c T locs cells slots) (hx : p.tables.exec = Jvm.exec) (hlk : meth.locks = false) (hret : meth.sig.returnType = some .int) {pc : Nat} {Ls : Array Slot} {z : Int32} {rest : List Value}
    (hd : decode c.code pc = .ok (.ireturn, 1)) (hQ : Q (some (.int z)) T.heap locs) (hc : cells ≤ rc) (hs : slots ≤ rs) : own_Go p e below s Q rc rs T (mkF m pc Ls (.int z :: rest)) :=
  own_done X (fun h => by rw [hret] at h; cases h) hlk (fun fs hr => retOut X hx hret rfl (Or.inl ⟨rfl, Or.inl rfl, _, rfl⟩) hd hr) hQ hc hs
theorem own_rJ (X : Stand p l e R s m args below meth c T locs cells slots) (hx : p.tables.exec = Jvm.exec) (hlk : meth.locks = false) (hret : meth.sig.returnType = some .long) {pc : Nat} {Ls : Array Slot} {z : Int64} {rest : List Value}
    (hd : decode c.code pc = .ok (.lreturn, 1)) (hQ : Q (some (.long z)) T.heap locs) (hc : cells ≤ rc) (hs : slots ≤ rs) : own_Go p e below s Q rc rs T (mkF m pc Ls (.long z :: rest)) :=
  own_done X (fun h => by rw [hret] at h; cases h) hlk (fun fs hr => retOut X hx hret rfl (Or.inr (Or.inl ⟨rfl, rfl, _, rfl⟩)) hd hr) hQ hc hs
theorem own_narA {t : FieldType} {w : Value} (ht : t.isReference = true) (hw : w.isRef = true) : narrow t w = w := by cases t <;> cases w <;> first | rfl | cases ht | cases hw
theorem own_rA (X : Stand p l e R s m args below meth c T locs cells slots) (hx : p.tables.exec = Jvm.exec) (hlk : meth.locks = false) {t : FieldType} (hret : meth.sig.returnType = some t) (ht : t.isReference = true) {pc : Nat} {Ls : Array Slot} {w : Value} {rest : List Value} (hw : w.isRef = true)
    (hd : decode c.code pc = .ok (.areturn, 1)) (hQ : Q (some w) T.heap locs) (hc : cells ≤ rc) (hs : slots ≤ rs) : own_Go p e below s Q rc rs T (mkF m pc Ls (w :: rest)) :=
  own_done X (fun h => by rw [hret] at h; cases h) hlk (fun fs hr => retOut X hx hret (own_narA ht hw) (Or.inr (Or.inr (Or.inr (Or.inr ⟨rfl, ht, hw⟩)))) hd hr) hQ hc hs
theorem own_rV (X : Stand p l e R s m args below meth c T locs cells slots) (hx : p.tables.exec = Jvm.exec) (hlk : meth.locks = false) (hret : meth.sig.returnType = none) {pc : Nat} {Ls : Array Slot}
    (hd : decode c.code pc = .ok (.return_, 1)) (hQ : Q none T.heap locs) (hc : cells ≤ rc) (hs : slots ≤ rs) : own_Go p e below s Q rc rs T (mkF m pc Ls []) :=
  own_done X (fun _ => rfl) hlk (fun fs hr => X.returnOut hx hret hd hr) hQ hc hs
end OwnKit
def Q_make0 (Z : State) (b0 b1 b2 : Int32) (h0 : Heap) (n0 : Nat) (v : Option Value) (h : Heap) (L : List Loc) : Prop := ∃ (a : Addr) (k : ClassId), v = some (.ref a) ∧ Fr n0 L ∧ Keep h0 h [] ∧ h0.size ≤ a ∧ Arv Z h a k .byte (0 : Int32) [] (.int (0 : Int32)) ∧ Exa Z h a "[B"
theorem ef_rm_make0 (m : MethodId) (x0 : Int32) (x1 : Int32) (x2 : Int32) (x3 : Int32) : entryFrame m #[(.int x0), (.int x1), (.int x2), (.int x3)] 4 = mkF m 0 #[.val (.int x0), .val (.int x1), .val (.int x2), .val (.int x3)] [] := by first | (simp [entryFrame, mkF, argsToLocals, Value.category]; done) | rfl | (simp [entryFrame, mkF, argsToLocals, Value.category] <;> rfl)
theorem pn_0 : plainName "com/example/kempt_cursor/kemptcursor/ByteKeyOfPinLaw" = true := by first | (simp [plainName, overriddenIn]; done) | decide +kernel
theorem d1_0 : decode method_3_code 0 = .ok (.iload_n 0, 1) := by decide +kernel
theorem d1_1 : decode method_3_code 1 = .ok (.ifCond .ne 7, 3) := by decide +kernel
theorem d1_4 : decode method_3_code 4 = .ok (.iconst 0, 1) := by decide +kernel
theorem d1_5 : decode method_3_code 5 = .ok (.newarray .byte, 2) := by decide +kernel
theorem d1_7 : decode method_3_code 7 = .ok (.areturn, 1) := by decide +kernel
set_option maxRecDepth 65536 in
set_option maxHeartbeats 40000000 in
theorem rm_make0 (l : Launch) (Z : State) (a0 : Array Value) (hw : ∀ d ∈ tables_1, d.before a0 Z = true) (ws : List Jvm.Cond) (b0 : Int32) (b1 : Int32) (b2 : Int32) (h0 : Heap) (n0 : Nat) (Z0 : n0 ≤ h0.size)  :
    MetFree l (⟨"com/example/kempt_cursor/kemptcursor/ByteKeyOfPinLaw", "make", "(IBBB)[B"⟩ : MethodName) (head1 (Jvm.Cond.code (⟨"com/example/kempt_cursor/kemptcursor/ByteKeyOfPinLaw", "make", "(IBBB)[B"⟩ : MethodName) method_3_code 4 (some (.array .byte)) :: ws) ({ frames := 0, cells := 1, slots := 0, locals := 0 } : Room)) (fun a U => a = #[(.int (0 : Int32)), (.int b0), (.int b1), (.int b2)] ∧ Z.Warmed39 U.vm ∧ U.heap = h0) (fun _ _ _ _ _ => True) (fun _ U o U' => ∃ v L, o = .returned v ∧ (Q_make0 Z b0 b1 b2 h0 n0) v U'.heap L ∧ FrameEnd U o U' L ({ frames := 0, cells := 1, slots := 0, locals := 0 } : Room).cells ({ frames := 0, cells := 1, slots := 0, locals := 0 } : Room).slots) := by
  refine MetFree.of_bodySF (plainFor_of_name pn_0) hisR ?_
  intro p e s m args below meth c s₁ Bd hml0 hP hK
  obtain ⟨rfl, hZ, hh⟩ := hP
  have hx := Bd.exec
  have hby := Bd.bytes
  have hlk : meth.locks = false := BodyLoose.notSynchronized Bd
  have hml : c.maxLocals = 4 := hml0
  have hown : s.vm.findClass "com/example/kempt_cursor/kemptcursor/ByteKeyOfPinLaw" = some m.cls := findClass_of_methodNamed Bd.named
  have hnm := (name_of_methodNamed Bd.named Bd.method).1
  have X0 : Stand p l e ({ frames := 0, cells := 1, slots := 0, locals := 0 } : Room) s m #[(.int (0 : Int32)), (.int b0), (.int b1), (.int b2)] below meth c s₁ [] 0 0 := Stand.of_body Bd
  have e0 : s₁.heap = h0 := by rw [← hh, Bd.state]; rfl
  have N0 := Fr.nil n0
  show own_Go p e below s (Q_make0 Z b0 b1 b2 h0 n0) ({ frames := 0, cells := 1, slots := 0, locals := 0 } : Room).cells ({ frames := 0, cells := 1, slots := 0, locals := 0 } : Room).slots s₁ (entryFrame m #[(.int (0 : Int32)), (.int b0), (.int b1), (.int b2)] 4)
  refine own_cast (g' := (mkF m 0 #[.val (.int (0 : Int32)), .val (.int b0), .val (.int b1), .val (.int b2)] [])) (ef_rm_make0 m (0 : Int32) b0 b1 b2) ?_
  have K0 : Keep h0 h0 [] := Keep.refl _ _
  refine own_step (T' := s₁) (g' := (mkF m 1 #[.val (.int (0 : Int32)), .val (.int b0), .val (.int b1), .val (.int b2)] [(.int (0 : Int32))])) (fun t k => XS.iloadN X0.here hx rfl (hb hby d1_0) rfl k) ?_
  refine own_step (T' := s₁) (g' := (mkF m 4 #[.val (.int (0 : Int32)), .val (.int b0), .val (.int b1), .val (.int b2)] [])) (fun t k => XS.ifNo X0.here hx rfl (hb hby d1_1) rfl ((if0 _ _).trans (teq (by decide : ((0 : Int32) = (0 : Int32)))).2) k) ?_
  refine own_step (T' := s₁) (g' := (mkF m 5 #[.val (.int (0 : Int32)), .val (.int b0), .val (.int b1), .val (.int b2)] [(.int (0 : Int32))])) (fun t k => XS.iconst X0.here hx rfl (hb hby d1_4) k) ?_
  obtain ⟨T1, h1, k1, X1, e1, E1, A1, B1, st1⟩ := newPE X0 hx hZ (hw _ (List.mem_of_getElem? (i := 4) rfl)) e0 (g := (mkF m 5 #[.val (.int (0 : Int32)), .val (.int b0), .val (.int b1), .val (.int b2)] [(.int (0 : Int32))])) rfl (hb hby d1_5) rfl (by decide) (cap := 0) (by decide) (by decide) (by decide : 0 + 1 ≤ _) (by decide : 0 + 0 ≤ _) (ad := "[B") rfl
  obtain ⟨ad1, g_ad1⟩ : ∃ z, z = h0.size := ⟨_, rfl⟩
  rw [← g_ad1] at A1 B1 st1
  have o1 : n0 ≤ ad1 := (Nat.le_trans Z0 (Nat.le_of_eq g_ad1.symm))
  have Z1 : n0 ≤ h1.size := (Nat.le_trans Z0 E1.1)
  have f1 : h0.size ≤ ad1 := by rw [g_ad1]; exact K0.1
  have K2 : Keep h0 h1 [] := K0.ext E1
  have V1 : Arv Z h1 ad1 k1 .byte (0 : Int32) [] (.int (0 : Int32)) := (Arv.new A1 (by decide)).pad (pad_rep [] (.int (0 : Int32)) 0)
  refine own_step (T' := T1) (g' := (mkF m 7 #[.val (.int (0 : Int32)), .val (.int b0), .val (.int b1), .val (.int b2)] [(.ref ad1)])) st1 ?_
  refine own_rA X1 hx hlk Bd.returns rfl (w := (.ref ad1)) rfl (hb hby d1_7) ?_ (by decide) (by decide)
  rw [e1]
  exact ⟨ad1, k1, rfl, N0, K2, f1, V1, B1⟩
def Q_make1 (Z : State) (b0 b1 b2 : Int32) (h0 : Heap) (n0 : Nat) (v : Option Value) (h : Heap) (L : List Loc) : Prop := ∃ (a : Addr) (k : ClassId), v = some (.ref a) ∧ Fr n0 L ∧ Keep h0 h [] ∧ h0.size ≤ a ∧ Arv Z h a k .byte (1 : Int32) [(.int (nar .byte b0))] (.int (0 : Int32)) ∧ Exa Z h a "[B"
theorem ef_rm_make1 (m : MethodId) (x0 : Int32) (x1 : Int32) (x2 : Int32) (x3 : Int32) : entryFrame m #[(.int x0), (.int x1), (.int x2), (.int x3)] 4 = mkF m 0 #[.val (.int x0), .val (.int x1), .val (.int x2), .val (.int x3)] [] := by first | (simp [entryFrame, mkF, argsToLocals, Value.category]; done) | rfl | (simp [entryFrame, mkF, argsToLocals, Value.category] <;> rfl)
theorem d1_8 : decode method_3_code 8 = .ok (.iload_n 0, 1) := by decide +kernel
theorem d1_9 : decode method_3_code 9 = .ok (.iconst 1, 1) := by decide +kernel
theorem d1_10 : decode method_3_code 10 = .ok (.if_icmp .ne 11, 3) := by decide +kernel
theorem d1_13 : decode method_3_code 13 = .ok (.iconst 1, 1) := by decide +kernel
theorem d1_14 : decode method_3_code 14 = .ok (.newarray .byte, 2) := by decide +kernel
theorem d1_16 : decode method_3_code 16 = .ok (.dup, 1) := by decide +kernel
theorem d1_17 : decode method_3_code 17 = .ok (.iconst 0, 1) := by decide +kernel
theorem d1_18 : decode method_3_code 18 = .ok (.iload_n 1, 1) := by decide +kernel
theorem d1_19 : decode method_3_code 19 = .ok (.bastore, 1) := by decide +kernel
theorem d1_20 : decode method_3_code 20 = .ok (.areturn, 1) := by decide +kernel
set_option maxRecDepth 65536 in
set_option maxHeartbeats 40000000 in
theorem rm_make1 (l : Launch) (Z : State) (a0 : Array Value) (hw : ∀ d ∈ tables_1, d.before a0 Z = true) (ws : List Jvm.Cond) (b0 : Int32) (b1 : Int32) (b2 : Int32) (h0 : Heap) (n0 : Nat) (Z0 : n0 ≤ h0.size)  :
    MetFree l (⟨"com/example/kempt_cursor/kemptcursor/ByteKeyOfPinLaw", "make", "(IBBB)[B"⟩ : MethodName) (head1 (Jvm.Cond.code (⟨"com/example/kempt_cursor/kemptcursor/ByteKeyOfPinLaw", "make", "(IBBB)[B"⟩ : MethodName) method_3_code 4 (some (.array .byte)) :: ws) ({ frames := 0, cells := 1, slots := 1, locals := 0 } : Room)) (fun a U => a = #[(.int (1 : Int32)), (.int b0), (.int b1), (.int b2)] ∧ Z.Warmed39 U.vm ∧ U.heap = h0) (fun _ _ _ _ _ => True) (fun _ U o U' => ∃ v L, o = .returned v ∧ (Q_make1 Z b0 b1 b2 h0 n0) v U'.heap L ∧ FrameEnd U o U' L ({ frames := 0, cells := 1, slots := 1, locals := 0 } : Room).cells ({ frames := 0, cells := 1, slots := 1, locals := 0 } : Room).slots) := by
  refine MetFree.of_bodySF (plainFor_of_name pn_0) hisR ?_
  intro p e s m args below meth c s₁ Bd hml0 hP hK
  obtain ⟨rfl, hZ, hh⟩ := hP
  have hx := Bd.exec
  have hby := Bd.bytes
  have hlk : meth.locks = false := BodyLoose.notSynchronized Bd
  have hml : c.maxLocals = 4 := hml0
  have hown : s.vm.findClass "com/example/kempt_cursor/kemptcursor/ByteKeyOfPinLaw" = some m.cls := findClass_of_methodNamed Bd.named
  have hnm := (name_of_methodNamed Bd.named Bd.method).1
  have X0 : Stand p l e ({ frames := 0, cells := 1, slots := 1, locals := 0 } : Room) s m #[(.int (1 : Int32)), (.int b0), (.int b1), (.int b2)] below meth c s₁ [] 0 0 := Stand.of_body Bd
  have e0 : s₁.heap = h0 := by rw [← hh, Bd.state]; rfl
  have N0 := Fr.nil n0
  show own_Go p e below s (Q_make1 Z b0 b1 b2 h0 n0) ({ frames := 0, cells := 1, slots := 1, locals := 0 } : Room).cells ({ frames := 0, cells := 1, slots := 1, locals := 0 } : Room).slots s₁ (entryFrame m #[(.int (1 : Int32)), (.int b0), (.int b1), (.int b2)] 4)
  refine own_cast (g' := (mkF m 0 #[.val (.int (1 : Int32)), .val (.int b0), .val (.int b1), .val (.int b2)] [])) (ef_rm_make1 m (1 : Int32) b0 b1 b2) ?_
  have K0 : Keep h0 h0 [] := Keep.refl _ _
  refine own_step (T' := s₁) (g' := (mkF m 1 #[.val (.int (1 : Int32)), .val (.int b0), .val (.int b1), .val (.int b2)] [(.int (1 : Int32))])) (fun t k => XS.iloadN X0.here hx rfl (hb hby d1_0) rfl k) ?_
  refine own_step (T' := s₁) (g' := (mkF m 8 #[.val (.int (1 : Int32)), .val (.int b0), .val (.int b1), .val (.int b2)] [])) (fun t k => XS.ifYes X0.here hx rfl (pc0 := 1) (pc' := 8) rfl (hb hby d1_1) rfl ((if0 _ _).trans (feq (by decide : ¬ ((1 : Int32) = (0 : Int32)))).2) (by decide) (by decide) k) ?_
  refine own_step (T' := s₁) (g' := (mkF m 9 #[.val (.int (1 : Int32)), .val (.int b0), .val (.int b1), .val (.int b2)] [(.int (1 : Int32))])) (fun t k => XS.iloadN X0.here hx rfl (hb hby d1_8) rfl k) ?_
  refine own_step (T' := s₁) (g' := (mkF m 10 #[.val (.int (1 : Int32)), .val (.int b0), .val (.int b1), .val (.int b2)] [(.int (1 : Int32)), (.int (1 : Int32))])) (fun t k => XS.iconst X0.here hx rfl (hb hby d1_9) k) ?_
  refine own_step (T' := s₁) (g' := (mkF m 13 #[.val (.int (1 : Int32)), .val (.int b0), .val (.int b1), .val (.int b2)] [])) (fun t k => XS.icmpNo X0.here hx rfl (hb hby d1_10) rfl (teq (by decide : ((1 : Int32) = (1 : Int32)))).2 k) ?_
  refine own_step (T' := s₁) (g' := (mkF m 14 #[.val (.int (1 : Int32)), .val (.int b0), .val (.int b1), .val (.int b2)] [(.int (1 : Int32))])) (fun t k => XS.iconst X0.here hx rfl (hb hby d1_13) k) ?_
  obtain ⟨T1, h1, k1, X1, e1, E1, A1, B1, st1⟩ := newPE X0 hx hZ (hw _ (List.mem_of_getElem? (i := 4) rfl)) e0 (g := (mkF m 14 #[.val (.int (1 : Int32)), .val (.int b0), .val (.int b1), .val (.int b2)] [(.int (1 : Int32))])) rfl (hb hby d1_14) rfl (by decide) (cap := 1) (by decide) (by decide) (by decide : 0 + 1 ≤ _) (by decide : 0 + 1 ≤ _) (ad := "[B") rfl
  obtain ⟨ad1, g_ad1⟩ : ∃ z, z = h0.size := ⟨_, rfl⟩
  rw [← g_ad1] at A1 B1 st1
  have o1 : n0 ≤ ad1 := (Nat.le_trans Z0 (Nat.le_of_eq g_ad1.symm))
  have Z1 : n0 ≤ h1.size := (Nat.le_trans Z0 E1.1)
  have f1 : h0.size ≤ ad1 := by rw [g_ad1]; exact K0.1
  have K2 : Keep h0 h1 [] := K0.ext E1
  have V1 : Arv Z h1 ad1 k1 .byte (1 : Int32) [(.int (0 : Int32))] (.int (0 : Int32)) := (Arv.new A1 (by decide)).pad (pad_rep [] (.int (0 : Int32)) 1)
  refine own_step (T' := T1) (g' := (mkF m 16 #[.val (.int (1 : Int32)), .val (.int b0), .val (.int b1), .val (.int b2)] [(.ref ad1)])) st1 ?_
  refine own_step (T' := T1) (g' := (mkF m 17 #[.val (.int (1 : Int32)), .val (.int b0), .val (.int b1), .val (.int b2)] [(.ref ad1), (.ref ad1)])) (fun t k => XS.dup X1.here hx rfl (hb hby d1_16) rfl rfl k) ?_
  refine own_step (T' := T1) (g' := (mkF m 18 #[.val (.int (1 : Int32)), .val (.int b0), .val (.int b1), .val (.int b2)] [(.int (0 : Int32)), (.ref ad1), (.ref ad1)])) (fun t k => XS.iconst X1.here hx rfl (hb hby d1_17) k) ?_
  refine own_step (T' := T1) (g' := (mkF m 19 #[.val (.int (1 : Int32)), .val (.int b0), .val (.int b1), .val (.int b2)] [(.int b0), (.int (0 : Int32)), (.ref ad1), (.ref ad1)])) (fun t k => XS.iloadN X1.here hx rfl (hb hby d1_18) rfl k) ?_
  obtain ⟨cl3, Ar3, qa3, S3, M3, H3, U3⟩ := id V1
  obtain ⟨T3, h3, X3, e3, W3, st3⟩ := stB X1 hx hZ e1 Ar3 (j := (0 : Int32)) (inb_of S3 ⟨by decide, by decide⟩) (g := (mkF m 19 #[.val (.int (1 : Int32)), .val (.int b0), .val (.int b1), .val (.int b2)] [(.int b0), (.int (0 : Int32)), (.ref ad1), (.ref ad1)])) rfl rfl (hb hby d1_19)
  have g4 : Arv Z h3 ad1 k1 .byte (1 : Int32) [(.int (nar .byte b0))] (.int (0 : Int32)) := Arv.set Ar3 qa3 S3 M3 H3 U3 (fits_nar_byte _) W3 0 rfl (Nat.le_of_ble_eq_true rfl)
  have g5 : Exa Z h3 ad1 "[B" := B1.wr W3
  have K6 : Keep h0 h3 [] := K2.wr W3 (Or.inr f1)
  have N3 := Fr.snoc X3 N0 o1
  have Z3 : n0 ≤ h3.size := (Nat.le_trans Z1 (Nat.le_of_eq W3.size.symm))
  refine own_step (T' := T3) (g' := (mkF m 20 #[.val (.int (1 : Int32)), .val (.int b0), .val (.int b1), .val (.int b2)] [(.ref ad1)])) st3 ?_
  refine own_rA X3 hx hlk Bd.returns rfl (w := (.ref ad1)) rfl (hb hby d1_20) ?_ (by decide) (by decide)
  rw [e3]
  exact ⟨ad1, k1, rfl, N3, K6, f1, g4, g5⟩
def Q_make2 (Z : State) (b0 b1 b2 : Int32) (h0 : Heap) (n0 : Nat) (v : Option Value) (h : Heap) (L : List Loc) : Prop := ∃ (a : Addr) (k : ClassId), v = some (.ref a) ∧ Fr n0 L ∧ Keep h0 h [] ∧ h0.size ≤ a ∧ Arv Z h a k .byte (2 : Int32) [(.int (nar .byte b0)), (.int (nar .byte b1))] (.int (0 : Int32)) ∧ Exa Z h a "[B"
theorem ef_rm_make2 (m : MethodId) (x0 : Int32) (x1 : Int32) (x2 : Int32) (x3 : Int32) : entryFrame m #[(.int x0), (.int x1), (.int x2), (.int x3)] 4 = mkF m 0 #[.val (.int x0), .val (.int x1), .val (.int x2), .val (.int x3)] [] := by first | (simp [entryFrame, mkF, argsToLocals, Value.category]; done) | rfl | (simp [entryFrame, mkF, argsToLocals, Value.category] <;> rfl)
theorem d1_21 : decode method_3_code 21 = .ok (.iload_n 0, 1) := by decide +kernel
theorem d1_22 : decode method_3_code 22 = .ok (.iconst 2, 1) := by decide +kernel
theorem d1_23 : decode method_3_code 23 = .ok (.if_icmp .ne 15, 3) := by decide +kernel
theorem d1_26 : decode method_3_code 26 = .ok (.iconst 2, 1) := by decide +kernel
theorem d1_27 : decode method_3_code 27 = .ok (.newarray .byte, 2) := by decide +kernel
theorem d1_29 : decode method_3_code 29 = .ok (.dup, 1) := by decide +kernel
theorem d1_30 : decode method_3_code 30 = .ok (.iconst 0, 1) := by decide +kernel
theorem d1_31 : decode method_3_code 31 = .ok (.iload_n 1, 1) := by decide +kernel
theorem d1_32 : decode method_3_code 32 = .ok (.bastore, 1) := by decide +kernel
theorem d1_33 : decode method_3_code 33 = .ok (.dup, 1) := by decide +kernel
theorem d1_34 : decode method_3_code 34 = .ok (.iconst 1, 1) := by decide +kernel
theorem d1_35 : decode method_3_code 35 = .ok (.iload_n 2, 1) := by decide +kernel
theorem d1_36 : decode method_3_code 36 = .ok (.bastore, 1) := by decide +kernel
theorem d1_37 : decode method_3_code 37 = .ok (.areturn, 1) := by decide +kernel
set_option maxRecDepth 65536 in
set_option maxHeartbeats 40000000 in
theorem rm_make2 (l : Launch) (Z : State) (a0 : Array Value) (hw : ∀ d ∈ tables_1, d.before a0 Z = true) (ws : List Jvm.Cond) (b0 : Int32) (b1 : Int32) (b2 : Int32) (h0 : Heap) (n0 : Nat) (Z0 : n0 ≤ h0.size)  :
    MetFree l (⟨"com/example/kempt_cursor/kemptcursor/ByteKeyOfPinLaw", "make", "(IBBB)[B"⟩ : MethodName) (head1 (Jvm.Cond.code (⟨"com/example/kempt_cursor/kemptcursor/ByteKeyOfPinLaw", "make", "(IBBB)[B"⟩ : MethodName) method_3_code 4 (some (.array .byte)) :: ws) ({ frames := 0, cells := 1, slots := 2, locals := 0 } : Room)) (fun a U => a = #[(.int (2 : Int32)), (.int b0), (.int b1), (.int b2)] ∧ Z.Warmed39 U.vm ∧ U.heap = h0) (fun _ _ _ _ _ => True) (fun _ U o U' => ∃ v L, o = .returned v ∧ (Q_make2 Z b0 b1 b2 h0 n0) v U'.heap L ∧ FrameEnd U o U' L ({ frames := 0, cells := 1, slots := 2, locals := 0 } : Room).cells ({ frames := 0, cells := 1, slots := 2, locals := 0 } : Room).slots) := by
  refine MetFree.of_bodySF (plainFor_of_name pn_0) hisR ?_
  intro p e s m args below meth c s₁ Bd hml0 hP hK
  obtain ⟨rfl, hZ, hh⟩ := hP
  have hx := Bd.exec
  have hby := Bd.bytes
  have hlk : meth.locks = false := BodyLoose.notSynchronized Bd
  have hml : c.maxLocals = 4 := hml0
  have hown : s.vm.findClass "com/example/kempt_cursor/kemptcursor/ByteKeyOfPinLaw" = some m.cls := findClass_of_methodNamed Bd.named
  have hnm := (name_of_methodNamed Bd.named Bd.method).1
  have X0 : Stand p l e ({ frames := 0, cells := 1, slots := 2, locals := 0 } : Room) s m #[(.int (2 : Int32)), (.int b0), (.int b1), (.int b2)] below meth c s₁ [] 0 0 := Stand.of_body Bd
  have e0 : s₁.heap = h0 := by rw [← hh, Bd.state]; rfl
  have N0 := Fr.nil n0
  show own_Go p e below s (Q_make2 Z b0 b1 b2 h0 n0) ({ frames := 0, cells := 1, slots := 2, locals := 0 } : Room).cells ({ frames := 0, cells := 1, slots := 2, locals := 0 } : Room).slots s₁ (entryFrame m #[(.int (2 : Int32)), (.int b0), (.int b1), (.int b2)] 4)
  refine own_cast (g' := (mkF m 0 #[.val (.int (2 : Int32)), .val (.int b0), .val (.int b1), .val (.int b2)] [])) (ef_rm_make2 m (2 : Int32) b0 b1 b2) ?_
  have K0 : Keep h0 h0 [] := Keep.refl _ _
  refine own_step (T' := s₁) (g' := (mkF m 1 #[.val (.int (2 : Int32)), .val (.int b0), .val (.int b1), .val (.int b2)] [(.int (2 : Int32))])) (fun t k => XS.iloadN X0.here hx rfl (hb hby d1_0) rfl k) ?_
  refine own_step (T' := s₁) (g' := (mkF m 8 #[.val (.int (2 : Int32)), .val (.int b0), .val (.int b1), .val (.int b2)] [])) (fun t k => XS.ifYes X0.here hx rfl (pc0 := 1) (pc' := 8) rfl (hb hby d1_1) rfl ((if0 _ _).trans (feq (by decide : ¬ ((2 : Int32) = (0 : Int32)))).2) (by decide) (by decide) k) ?_
  refine own_step (T' := s₁) (g' := (mkF m 9 #[.val (.int (2 : Int32)), .val (.int b0), .val (.int b1), .val (.int b2)] [(.int (2 : Int32))])) (fun t k => XS.iloadN X0.here hx rfl (hb hby d1_8) rfl k) ?_
  refine own_step (T' := s₁) (g' := (mkF m 10 #[.val (.int (2 : Int32)), .val (.int b0), .val (.int b1), .val (.int b2)] [(.int (1 : Int32)), (.int (2 : Int32))])) (fun t k => XS.iconst X0.here hx rfl (hb hby d1_9) k) ?_
  refine own_step (T' := s₁) (g' := (mkF m 21 #[.val (.int (2 : Int32)), .val (.int b0), .val (.int b1), .val (.int b2)] [])) (fun t k => XS.icmpYes X0.here hx rfl (pc0 := 10) (pc' := 21) rfl (hb hby d1_10) rfl (feq (by decide : ¬ ((2 : Int32) = (1 : Int32)))).2 (by decide) (by decide) k) ?_
  refine own_step (T' := s₁) (g' := (mkF m 22 #[.val (.int (2 : Int32)), .val (.int b0), .val (.int b1), .val (.int b2)] [(.int (2 : Int32))])) (fun t k => XS.iloadN X0.here hx rfl (hb hby d1_21) rfl k) ?_
  refine own_step (T' := s₁) (g' := (mkF m 23 #[.val (.int (2 : Int32)), .val (.int b0), .val (.int b1), .val (.int b2)] [(.int (2 : Int32)), (.int (2 : Int32))])) (fun t k => XS.iconst X0.here hx rfl (hb hby d1_22) k) ?_
  refine own_step (T' := s₁) (g' := (mkF m 26 #[.val (.int (2 : Int32)), .val (.int b0), .val (.int b1), .val (.int b2)] [])) (fun t k => XS.icmpNo X0.here hx rfl (hb hby d1_23) rfl (teq (by decide : ((2 : Int32) = (2 : Int32)))).2 k) ?_
  refine own_step (T' := s₁) (g' := (mkF m 27 #[.val (.int (2 : Int32)), .val (.int b0), .val (.int b1), .val (.int b2)] [(.int (2 : Int32))])) (fun t k => XS.iconst X0.here hx rfl (hb hby d1_26) k) ?_
  obtain ⟨T1, h1, k1, X1, e1, E1, A1, B1, st1⟩ := newPE X0 hx hZ (hw _ (List.mem_of_getElem? (i := 4) rfl)) e0 (g := (mkF m 27 #[.val (.int (2 : Int32)), .val (.int b0), .val (.int b1), .val (.int b2)] [(.int (2 : Int32))])) rfl (hb hby d1_27) rfl (by decide) (cap := 2) (by decide) (by decide) (by decide : 0 + 1 ≤ _) (by decide : 0 + 2 ≤ _) (ad := "[B") rfl
  obtain ⟨ad1, g_ad1⟩ : ∃ z, z = h0.size := ⟨_, rfl⟩
  rw [← g_ad1] at A1 B1 st1
  have o1 : n0 ≤ ad1 := (Nat.le_trans Z0 (Nat.le_of_eq g_ad1.symm))
  have Z1 : n0 ≤ h1.size := (Nat.le_trans Z0 E1.1)
  have f1 : h0.size ≤ ad1 := by rw [g_ad1]; exact K0.1
  have K2 : Keep h0 h1 [] := K0.ext E1
  have V1 : Arv Z h1 ad1 k1 .byte (2 : Int32) [(.int (0 : Int32)), (.int (0 : Int32))] (.int (0 : Int32)) := (Arv.new A1 (by decide)).pad (pad_rep [] (.int (0 : Int32)) 2)
  refine own_step (T' := T1) (g' := (mkF m 29 #[.val (.int (2 : Int32)), .val (.int b0), .val (.int b1), .val (.int b2)] [(.ref ad1)])) st1 ?_
  refine own_step (T' := T1) (g' := (mkF m 30 #[.val (.int (2 : Int32)), .val (.int b0), .val (.int b1), .val (.int b2)] [(.ref ad1), (.ref ad1)])) (fun t k => XS.dup X1.here hx rfl (hb hby d1_29) rfl rfl k) ?_
  refine own_step (T' := T1) (g' := (mkF m 31 #[.val (.int (2 : Int32)), .val (.int b0), .val (.int b1), .val (.int b2)] [(.int (0 : Int32)), (.ref ad1), (.ref ad1)])) (fun t k => XS.iconst X1.here hx rfl (hb hby d1_30) k) ?_
  refine own_step (T' := T1) (g' := (mkF m 32 #[.val (.int (2 : Int32)), .val (.int b0), .val (.int b1), .val (.int b2)] [(.int b0), (.int (0 : Int32)), (.ref ad1), (.ref ad1)])) (fun t k => XS.iloadN X1.here hx rfl (hb hby d1_31) rfl k) ?_
  obtain ⟨cl3, Ar3, qa3, S3, M3, H3, U3⟩ := id V1
  obtain ⟨T3, h3, X3, e3, W3, st3⟩ := stB X1 hx hZ e1 Ar3 (j := (0 : Int32)) (inb_of S3 ⟨by decide, by decide⟩) (g := (mkF m 32 #[.val (.int (2 : Int32)), .val (.int b0), .val (.int b1), .val (.int b2)] [(.int b0), (.int (0 : Int32)), (.ref ad1), (.ref ad1)])) rfl rfl (hb hby d1_32)
  have g4 : Arv Z h3 ad1 k1 .byte (2 : Int32) [(.int (nar .byte b0)), (.int (0 : Int32))] (.int (0 : Int32)) := Arv.set Ar3 qa3 S3 M3 H3 U3 (fits_nar_byte _) W3 0 rfl (Nat.le_of_ble_eq_true rfl)
  have g5 : Exa Z h3 ad1 "[B" := B1.wr W3
  have K6 : Keep h0 h3 [] := K2.wr W3 (Or.inr f1)
  have N3 := Fr.snoc X3 N0 o1
  have Z3 : n0 ≤ h3.size := (Nat.le_trans Z1 (Nat.le_of_eq W3.size.symm))
  refine own_step (T' := T3) (g' := (mkF m 33 #[.val (.int (2 : Int32)), .val (.int b0), .val (.int b1), .val (.int b2)] [(.ref ad1)])) st3 ?_
  refine own_step (T' := T3) (g' := (mkF m 34 #[.val (.int (2 : Int32)), .val (.int b0), .val (.int b1), .val (.int b2)] [(.ref ad1), (.ref ad1)])) (fun t k => XS.dup X3.here hx rfl (hb hby d1_33) rfl rfl k) ?_
  refine own_step (T' := T3) (g' := (mkF m 35 #[.val (.int (2 : Int32)), .val (.int b0), .val (.int b1), .val (.int b2)] [(.int (1 : Int32)), (.ref ad1), (.ref ad1)])) (fun t k => XS.iconst X3.here hx rfl (hb hby d1_34) k) ?_
  refine own_step (T' := T3) (g' := (mkF m 36 #[.val (.int (2 : Int32)), .val (.int b0), .val (.int b1), .val (.int b2)] [(.int b1), (.int (1 : Int32)), (.ref ad1), (.ref ad1)])) (fun t k => XS.iloadN X3.here hx rfl (hb hby d1_35) rfl k) ?_
  obtain ⟨cl7, Ar7, qa7, S7, M7, H7, U7⟩ := id g4
  obtain ⟨T7, h7, X7, e7, W7, st7⟩ := stB X3 hx hZ e3 Ar7 (j := (1 : Int32)) (inb_of S7 ⟨by decide, by decide⟩) (g := (mkF m 36 #[.val (.int (2 : Int32)), .val (.int b0), .val (.int b1), .val (.int b2)] [(.int b1), (.int (1 : Int32)), (.ref ad1), (.ref ad1)])) rfl rfl (hb hby d1_36)
  have g8 : Arv Z h7 ad1 k1 .byte (2 : Int32) [(.int (nar .byte b0)), (.int (nar .byte b1))] (.int (0 : Int32)) := Arv.set Ar7 qa7 S7 M7 H7 U7 (fits_nar_byte _) W7 1 rfl (Nat.le_of_ble_eq_true rfl)
  have g9 : Exa Z h7 ad1 "[B" := g5.wr W7
  have K10 : Keep h0 h7 [] := K6.wr W7 (Or.inr f1)
  have N7 := Fr.snoc X7 N3 o1
  have Z7 : n0 ≤ h7.size := (Nat.le_trans Z3 (Nat.le_of_eq W7.size.symm))
  refine own_step (T' := T7) (g' := (mkF m 37 #[.val (.int (2 : Int32)), .val (.int b0), .val (.int b1), .val (.int b2)] [(.ref ad1)])) st7 ?_
  refine own_rA X7 hx hlk Bd.returns rfl (w := (.ref ad1)) rfl (hb hby d1_37) ?_ (by decide) (by decide)
  rw [e7]
  exact ⟨ad1, k1, rfl, N7, K10, f1, g8, g9⟩
def Q_make3 (Z : State) (b0 b1 b2 : Int32) (h0 : Heap) (n0 : Nat) (v : Option Value) (h : Heap) (L : List Loc) : Prop := ∃ (a : Addr) (k : ClassId), v = some (.ref a) ∧ Fr n0 L ∧ Keep h0 h [] ∧ h0.size ≤ a ∧ Arv Z h a k .byte (3 : Int32) [(.int (nar .byte b0)), (.int (nar .byte b1)), (.int (nar .byte b2))] (.int (0 : Int32)) ∧ Exa Z h a "[B"
theorem ef_rm_make3 (m : MethodId) (x0 : Int32) (x1 : Int32) (x2 : Int32) (x3 : Int32) : entryFrame m #[(.int x0), (.int x1), (.int x2), (.int x3)] 4 = mkF m 0 #[.val (.int x0), .val (.int x1), .val (.int x2), .val (.int x3)] [] := by first | (simp [entryFrame, mkF, argsToLocals, Value.category]; done) | rfl | (simp [entryFrame, mkF, argsToLocals, Value.category] <;> rfl)
theorem d1_38 : decode method_3_code 38 = .ok (.iconst 3, 1) := by decide +kernel
theorem d1_39 : decode method_3_code 39 = .ok (.newarray .byte, 2) := by decide +kernel
theorem d1_41 : decode method_3_code 41 = .ok (.dup, 1) := by decide +kernel
theorem d1_42 : decode method_3_code 42 = .ok (.iconst 0, 1) := by decide +kernel
theorem d1_43 : decode method_3_code 43 = .ok (.iload_n 1, 1) := by decide +kernel
theorem d1_44 : decode method_3_code 44 = .ok (.bastore, 1) := by decide +kernel
theorem d1_45 : decode method_3_code 45 = .ok (.dup, 1) := by decide +kernel
theorem d1_46 : decode method_3_code 46 = .ok (.iconst 1, 1) := by decide +kernel
theorem d1_47 : decode method_3_code 47 = .ok (.iload_n 2, 1) := by decide +kernel
theorem d1_48 : decode method_3_code 48 = .ok (.bastore, 1) := by decide +kernel
theorem d1_49 : decode method_3_code 49 = .ok (.dup, 1) := by decide +kernel
theorem d1_50 : decode method_3_code 50 = .ok (.iconst 2, 1) := by decide +kernel
theorem d1_51 : decode method_3_code 51 = .ok (.iload_n 3, 1) := by decide +kernel
theorem d1_52 : decode method_3_code 52 = .ok (.bastore, 1) := by decide +kernel
theorem d1_53 : decode method_3_code 53 = .ok (.areturn, 1) := by decide +kernel
set_option maxRecDepth 65536 in
set_option maxHeartbeats 40000000 in
theorem rm_make3 (l : Launch) (Z : State) (a0 : Array Value) (hw : ∀ d ∈ tables_1, d.before a0 Z = true) (ws : List Jvm.Cond) (b0 : Int32) (b1 : Int32) (b2 : Int32) (h0 : Heap) (n0 : Nat) (Z0 : n0 ≤ h0.size)  :
    MetFree l (⟨"com/example/kempt_cursor/kemptcursor/ByteKeyOfPinLaw", "make", "(IBBB)[B"⟩ : MethodName) (head1 (Jvm.Cond.code (⟨"com/example/kempt_cursor/kemptcursor/ByteKeyOfPinLaw", "make", "(IBBB)[B"⟩ : MethodName) method_3_code 4 (some (.array .byte)) :: ws) ({ frames := 0, cells := 1, slots := 3, locals := 0 } : Room)) (fun a U => a = #[(.int (3 : Int32)), (.int b0), (.int b1), (.int b2)] ∧ Z.Warmed39 U.vm ∧ U.heap = h0) (fun _ _ _ _ _ => True) (fun _ U o U' => ∃ v L, o = .returned v ∧ (Q_make3 Z b0 b1 b2 h0 n0) v U'.heap L ∧ FrameEnd U o U' L ({ frames := 0, cells := 1, slots := 3, locals := 0 } : Room).cells ({ frames := 0, cells := 1, slots := 3, locals := 0 } : Room).slots) := by
  refine MetFree.of_bodySF (plainFor_of_name pn_0) hisR ?_
  intro p e s m args below meth c s₁ Bd hml0 hP hK
  obtain ⟨rfl, hZ, hh⟩ := hP
  have hx := Bd.exec
  have hby := Bd.bytes
  have hlk : meth.locks = false := BodyLoose.notSynchronized Bd
  have hml : c.maxLocals = 4 := hml0
  have hown : s.vm.findClass "com/example/kempt_cursor/kemptcursor/ByteKeyOfPinLaw" = some m.cls := findClass_of_methodNamed Bd.named
  have hnm := (name_of_methodNamed Bd.named Bd.method).1
  have X0 : Stand p l e ({ frames := 0, cells := 1, slots := 3, locals := 0 } : Room) s m #[(.int (3 : Int32)), (.int b0), (.int b1), (.int b2)] below meth c s₁ [] 0 0 := Stand.of_body Bd
  have e0 : s₁.heap = h0 := by rw [← hh, Bd.state]; rfl
  have N0 := Fr.nil n0
  show own_Go p e below s (Q_make3 Z b0 b1 b2 h0 n0) ({ frames := 0, cells := 1, slots := 3, locals := 0 } : Room).cells ({ frames := 0, cells := 1, slots := 3, locals := 0 } : Room).slots s₁ (entryFrame m #[(.int (3 : Int32)), (.int b0), (.int b1), (.int b2)] 4)
  refine own_cast (g' := (mkF m 0 #[.val (.int (3 : Int32)), .val (.int b0), .val (.int b1), .val (.int b2)] [])) (ef_rm_make3 m (3 : Int32) b0 b1 b2) ?_
  have K0 : Keep h0 h0 [] := Keep.refl _ _
  refine own_step (T' := s₁) (g' := (mkF m 1 #[.val (.int (3 : Int32)), .val (.int b0), .val (.int b1), .val (.int b2)] [(.int (3 : Int32))])) (fun t k => XS.iloadN X0.here hx rfl (hb hby d1_0) rfl k) ?_
  refine own_step (T' := s₁) (g' := (mkF m 8 #[.val (.int (3 : Int32)), .val (.int b0), .val (.int b1), .val (.int b2)] [])) (fun t k => XS.ifYes X0.here hx rfl (pc0 := 1) (pc' := 8) rfl (hb hby d1_1) rfl ((if0 _ _).trans (feq (by decide : ¬ ((3 : Int32) = (0 : Int32)))).2) (by decide) (by decide) k) ?_
  refine own_step (T' := s₁) (g' := (mkF m 9 #[.val (.int (3 : Int32)), .val (.int b0), .val (.int b1), .val (.int b2)] [(.int (3 : Int32))])) (fun t k => XS.iloadN X0.here hx rfl (hb hby d1_8) rfl k) ?_
  refine own_step (T' := s₁) (g' := (mkF m 10 #[.val (.int (3 : Int32)), .val (.int b0), .val (.int b1), .val (.int b2)] [(.int (1 : Int32)), (.int (3 : Int32))])) (fun t k => XS.iconst X0.here hx rfl (hb hby d1_9) k) ?_
  refine own_step (T' := s₁) (g' := (mkF m 21 #[.val (.int (3 : Int32)), .val (.int b0), .val (.int b1), .val (.int b2)] [])) (fun t k => XS.icmpYes X0.here hx rfl (pc0 := 10) (pc' := 21) rfl (hb hby d1_10) rfl (feq (by decide : ¬ ((3 : Int32) = (1 : Int32)))).2 (by decide) (by decide) k) ?_
  refine own_step (T' := s₁) (g' := (mkF m 22 #[.val (.int (3 : Int32)), .val (.int b0), .val (.int b1), .val (.int b2)] [(.int (3 : Int32))])) (fun t k => XS.iloadN X0.here hx rfl (hb hby d1_21) rfl k) ?_
  refine own_step (T' := s₁) (g' := (mkF m 23 #[.val (.int (3 : Int32)), .val (.int b0), .val (.int b1), .val (.int b2)] [(.int (2 : Int32)), (.int (3 : Int32))])) (fun t k => XS.iconst X0.here hx rfl (hb hby d1_22) k) ?_
  refine own_step (T' := s₁) (g' := (mkF m 38 #[.val (.int (3 : Int32)), .val (.int b0), .val (.int b1), .val (.int b2)] [])) (fun t k => XS.icmpYes X0.here hx rfl (pc0 := 23) (pc' := 38) rfl (hb hby d1_23) rfl (feq (by decide : ¬ ((3 : Int32) = (2 : Int32)))).2 (by decide) (by decide) k) ?_
  refine own_step (T' := s₁) (g' := (mkF m 39 #[.val (.int (3 : Int32)), .val (.int b0), .val (.int b1), .val (.int b2)] [(.int (3 : Int32))])) (fun t k => XS.iconst X0.here hx rfl (hb hby d1_38) k) ?_
  obtain ⟨T1, h1, k1, X1, e1, E1, A1, B1, st1⟩ := newPE X0 hx hZ (hw _ (List.mem_of_getElem? (i := 4) rfl)) e0 (g := (mkF m 39 #[.val (.int (3 : Int32)), .val (.int b0), .val (.int b1), .val (.int b2)] [(.int (3 : Int32))])) rfl (hb hby d1_39) rfl (by decide) (cap := 3) (by decide) (by decide) (by decide : 0 + 1 ≤ _) (by decide : 0 + 3 ≤ _) (ad := "[B") rfl
  obtain ⟨ad1, g_ad1⟩ : ∃ z, z = h0.size := ⟨_, rfl⟩
  rw [← g_ad1] at A1 B1 st1
  have o1 : n0 ≤ ad1 := (Nat.le_trans Z0 (Nat.le_of_eq g_ad1.symm))
  have Z1 : n0 ≤ h1.size := (Nat.le_trans Z0 E1.1)
  have f1 : h0.size ≤ ad1 := by rw [g_ad1]; exact K0.1
  have K2 : Keep h0 h1 [] := K0.ext E1
  have V1 : Arv Z h1 ad1 k1 .byte (3 : Int32) [(.int (0 : Int32)), (.int (0 : Int32)), (.int (0 : Int32))] (.int (0 : Int32)) := (Arv.new A1 (by decide)).pad (pad_rep [] (.int (0 : Int32)) 3)
  refine own_step (T' := T1) (g' := (mkF m 41 #[.val (.int (3 : Int32)), .val (.int b0), .val (.int b1), .val (.int b2)] [(.ref ad1)])) st1 ?_
  refine own_step (T' := T1) (g' := (mkF m 42 #[.val (.int (3 : Int32)), .val (.int b0), .val (.int b1), .val (.int b2)] [(.ref ad1), (.ref ad1)])) (fun t k => XS.dup X1.here hx rfl (hb hby d1_41) rfl rfl k) ?_
  refine own_step (T' := T1) (g' := (mkF m 43 #[.val (.int (3 : Int32)), .val (.int b0), .val (.int b1), .val (.int b2)] [(.int (0 : Int32)), (.ref ad1), (.ref ad1)])) (fun t k => XS.iconst X1.here hx rfl (hb hby d1_42) k) ?_
  refine own_step (T' := T1) (g' := (mkF m 44 #[.val (.int (3 : Int32)), .val (.int b0), .val (.int b1), .val (.int b2)] [(.int b0), (.int (0 : Int32)), (.ref ad1), (.ref ad1)])) (fun t k => XS.iloadN X1.here hx rfl (hb hby d1_43) rfl k) ?_
  obtain ⟨cl3, Ar3, qa3, S3, M3, H3, U3⟩ := id V1
  obtain ⟨T3, h3, X3, e3, W3, st3⟩ := stB X1 hx hZ e1 Ar3 (j := (0 : Int32)) (inb_of S3 ⟨by decide, by decide⟩) (g := (mkF m 44 #[.val (.int (3 : Int32)), .val (.int b0), .val (.int b1), .val (.int b2)] [(.int b0), (.int (0 : Int32)), (.ref ad1), (.ref ad1)])) rfl rfl (hb hby d1_44)
  have g4 : Arv Z h3 ad1 k1 .byte (3 : Int32) [(.int (nar .byte b0)), (.int (0 : Int32)), (.int (0 : Int32))] (.int (0 : Int32)) := Arv.set Ar3 qa3 S3 M3 H3 U3 (fits_nar_byte _) W3 0 rfl (Nat.le_of_ble_eq_true rfl)
  have g5 : Exa Z h3 ad1 "[B" := B1.wr W3
  have K6 : Keep h0 h3 [] := K2.wr W3 (Or.inr f1)
  have N3 := Fr.snoc X3 N0 o1
  have Z3 : n0 ≤ h3.size := (Nat.le_trans Z1 (Nat.le_of_eq W3.size.symm))
  refine own_step (T' := T3) (g' := (mkF m 45 #[.val (.int (3 : Int32)), .val (.int b0), .val (.int b1), .val (.int b2)] [(.ref ad1)])) st3 ?_
  refine own_step (T' := T3) (g' := (mkF m 46 #[.val (.int (3 : Int32)), .val (.int b0), .val (.int b1), .val (.int b2)] [(.ref ad1), (.ref ad1)])) (fun t k => XS.dup X3.here hx rfl (hb hby d1_45) rfl rfl k) ?_
  refine own_step (T' := T3) (g' := (mkF m 47 #[.val (.int (3 : Int32)), .val (.int b0), .val (.int b1), .val (.int b2)] [(.int (1 : Int32)), (.ref ad1), (.ref ad1)])) (fun t k => XS.iconst X3.here hx rfl (hb hby d1_46) k) ?_
  refine own_step (T' := T3) (g' := (mkF m 48 #[.val (.int (3 : Int32)), .val (.int b0), .val (.int b1), .val (.int b2)] [(.int b1), (.int (1 : Int32)), (.ref ad1), (.ref ad1)])) (fun t k => XS.iloadN X3.here hx rfl (hb hby d1_47) rfl k) ?_
  obtain ⟨cl7, Ar7, qa7, S7, M7, H7, U7⟩ := id g4
  obtain ⟨T7, h7, X7, e7, W7, st7⟩ := stB X3 hx hZ e3 Ar7 (j := (1 : Int32)) (inb_of S7 ⟨by decide, by decide⟩) (g := (mkF m 48 #[.val (.int (3 : Int32)), .val (.int b0), .val (.int b1), .val (.int b2)] [(.int b1), (.int (1 : Int32)), (.ref ad1), (.ref ad1)])) rfl rfl (hb hby d1_48)
  have g8 : Arv Z h7 ad1 k1 .byte (3 : Int32) [(.int (nar .byte b0)), (.int (nar .byte b1)), (.int (0 : Int32))] (.int (0 : Int32)) := Arv.set Ar7 qa7 S7 M7 H7 U7 (fits_nar_byte _) W7 1 rfl (Nat.le_of_ble_eq_true rfl)
  have g9 : Exa Z h7 ad1 "[B" := g5.wr W7
  have K10 : Keep h0 h7 [] := K6.wr W7 (Or.inr f1)
  have N7 := Fr.snoc X7 N3 o1
  have Z7 : n0 ≤ h7.size := (Nat.le_trans Z3 (Nat.le_of_eq W7.size.symm))
  refine own_step (T' := T7) (g' := (mkF m 49 #[.val (.int (3 : Int32)), .val (.int b0), .val (.int b1), .val (.int b2)] [(.ref ad1)])) st7 ?_
  refine own_step (T' := T7) (g' := (mkF m 50 #[.val (.int (3 : Int32)), .val (.int b0), .val (.int b1), .val (.int b2)] [(.ref ad1), (.ref ad1)])) (fun t k => XS.dup X7.here hx rfl (hb hby d1_49) rfl rfl k) ?_
  refine own_step (T' := T7) (g' := (mkF m 51 #[.val (.int (3 : Int32)), .val (.int b0), .val (.int b1), .val (.int b2)] [(.int (2 : Int32)), (.ref ad1), (.ref ad1)])) (fun t k => XS.iconst X7.here hx rfl (hb hby d1_50) k) ?_
  refine own_step (T' := T7) (g' := (mkF m 52 #[.val (.int (3 : Int32)), .val (.int b0), .val (.int b1), .val (.int b2)] [(.int b2), (.int (2 : Int32)), (.ref ad1), (.ref ad1)])) (fun t k => XS.iloadN X7.here hx rfl (hb hby d1_51) rfl k) ?_
  obtain ⟨cl11, Ar11, qa11, S11, M11, H11, U11⟩ := id g8
  obtain ⟨T11, h11, X11, e11, W11, st11⟩ := stB X7 hx hZ e7 Ar11 (j := (2 : Int32)) (inb_of S11 ⟨by decide, by decide⟩) (g := (mkF m 52 #[.val (.int (3 : Int32)), .val (.int b0), .val (.int b1), .val (.int b2)] [(.int b2), (.int (2 : Int32)), (.ref ad1), (.ref ad1)])) rfl rfl (hb hby d1_52)
  have g12 : Arv Z h11 ad1 k1 .byte (3 : Int32) [(.int (nar .byte b0)), (.int (nar .byte b1)), (.int (nar .byte b2))] (.int (0 : Int32)) := Arv.set Ar11 qa11 S11 M11 H11 U11 (fits_nar_byte _) W11 2 rfl (Nat.le_of_ble_eq_true rfl)
  have g13 : Exa Z h11 ad1 "[B" := g9.wr W11
  have K14 : Keep h0 h11 [] := K10.wr W11 (Or.inr f1)
  have N11 := Fr.snoc X11 N7 o1
  have Z11 : n0 ≤ h11.size := (Nat.le_trans Z7 (Nat.le_of_eq W11.size.symm))
  refine own_step (T' := T11) (g' := (mkF m 53 #[.val (.int (3 : Int32)), .val (.int b0), .val (.int b1), .val (.int b2)] [(.ref ad1)])) st11 ?_
  refine own_rA X11 hx hlk Bd.returns rfl (w := (.ref ad1)) rfl (hb hby d1_53) ?_ (by decide) (by decide)
  rw [e11]
  exact ⟨ad1, k1, rfl, N11, K14, f1, g12, g13⟩
def Q_init (Z : State) (a1 a2 : Addr) (h0 : Heap) (n0 : Nat) (v : Option Value) (h : Heap) (L : List Loc) : Prop := v = none ∧ Fr n0 L ∧ Keep h0 h [a1] ∧ Exa Z h a1 "com/example/kempt_cursor/kemptcursor/ByteKey" ∧ Fld Z h a1 "com/example/kempt_cursor/kemptcursor/ByteKey" "bytes" "[B" (.ref a2)
theorem ef_rm_init (m : MethodId) (x0 : Addr) (x1 : Addr) : entryFrame m #[(.ref x0), (.ref x1)] 2 = mkF m 0 #[.val (.ref x0), .val (.ref x1)] [] := by first | (simp [entryFrame, mkF, argsToLocals, Value.category]; done) | rfl | (simp [entryFrame, mkF, argsToLocals, Value.category] <;> rfl)
theorem pn_1 : plainName "com/example/kempt_cursor/kemptcursor/ByteKey" = true := by first | (simp [plainName, overriddenIn]; done) | decide +kernel
theorem d3_0 : decode prog_1_method_1_code 0 = .ok (.aload_n 0, 1) := by decide +kernel
theorem d3_1 : decode prog_1_method_1_code 1 = .ok (.invokespecial 1, 3) := by decide +kernel
theorem d3_4 : decode prog_1_method_1_code 4 = .ok (.aload_n 0, 1) := by decide +kernel
theorem d3_5 : decode prog_1_method_1_code 5 = .ok (.aload_n 1, 1) := by decide +kernel
theorem d3_6 : decode prog_1_method_1_code 6 = .ok (.putfield 7, 3) := by decide +kernel
theorem d3_9 : decode prog_1_method_1_code 9 = .ok (.return_, 1) := by decide +kernel
set_option maxRecDepth 65536 in
set_option maxHeartbeats 40000000 in
theorem rm_init (l : Launch) (Z : State) (a0 : Array Value) (hw : ∀ d ∈ tables_1, d.before a0 Z = true) (ws : List Jvm.Cond) (a1 : Addr) (a2 : Addr) (u1 : Value) (h0 : Heap) (n0 : Nat) (Z0 : n0 ≤ h0.size) (E_a : Exa Z h0 a1 "com/example/kempt_cursor/kemptcursor/ByteKey") (F_b : Fld Z h0 a1 "com/example/kempt_cursor/kemptcursor/ByteKey" "bytes" "[B" u1) (o_a : n0 ≤ a1) :
    MetFree l (⟨"com/example/kempt_cursor/kemptcursor/ByteKey", "<init>", "([B)V"⟩ : MethodName) (head1 (Jvm.Cond.code (⟨"com/example/kempt_cursor/kemptcursor/ByteKey", "<init>", "([B)V"⟩ : MethodName) prog_1_method_1_code 2 none :: ws) ({ frames := 1, cells := 0, slots := 0, locals := 12 } : Room)) (fun a U => a = #[(.ref a1), (.ref a2)] ∧ Z.Warmed39 U.vm ∧ U.heap = h0) (fun _ _ _ _ _ => True) (fun _ U o U' => ∃ v L, o = .returned v ∧ (Q_init Z a1 a2 h0 n0) v U'.heap L ∧ FrameEnd U o U' L ({ frames := 1, cells := 0, slots := 0, locals := 12 } : Room).cells ({ frames := 1, cells := 0, slots := 0, locals := 12 } : Room).slots) := by
  refine MetFree.of_bodySF (plainFor_of_name pn_1) hisR ?_
  intro p e s m args below meth c s₁ Bd hml0 hP hK
  obtain ⟨rfl, hZ, hh⟩ := hP
  have hx := Bd.exec
  have hby := Bd.bytes
  have hlk : meth.locks = false := BodyLoose.notSynchronized Bd
  have hml : c.maxLocals = 2 := hml0
  have hown : s.vm.findClass "com/example/kempt_cursor/kemptcursor/ByteKey" = some m.cls := findClass_of_methodNamed Bd.named
  have hnm := (name_of_methodNamed Bd.named Bd.method).1
  have X0 : Stand p l e ({ frames := 1, cells := 0, slots := 0, locals := 12 } : Room) s m #[(.ref a1), (.ref a2)] below meth c s₁ [] 0 0 := Stand.of_body Bd
  have e0 : s₁.heap = h0 := by rw [← hh, Bd.state]; rfl
  have N0 := Fr.nil n0
  show own_Go p e below s (Q_init Z a1 a2 h0 n0) ({ frames := 1, cells := 0, slots := 0, locals := 12 } : Room).cells ({ frames := 1, cells := 0, slots := 0, locals := 12 } : Room).slots s₁ (entryFrame m #[(.ref a1), (.ref a2)] 2)
  refine own_cast (g' := (mkF m 0 #[.val (.ref a1), .val (.ref a2)] [])) (ef_rm_init m a1 a2) ?_
  have K0 : Keep h0 h0 [a1] := Keep.refl _ _
  refine own_step (T' := s₁) (g' := (mkF m 1 #[.val (.ref a1), .val (.ref a2)] [(.ref a1)])) (fun t k => XS.aloadN X0.here hx rfl (hb hby d3_0) rfl rfl k) ?_
  obtain ⟨T1, X1, e1, st1⟩ := initO X0 hx hZ hown (hw _ (List.mem_of_getElem? (i := 23) rfl)) (hw _ (List.mem_of_getElem? (i := 24) rfl)) (hw _ (List.mem_of_getElem? (i := 25) rfl)) e0 (g := (mkF m 1 #[.val (.ref a1), .val (.ref a2)] [(.ref a1)])) rfl (by rw [hml]; rfl) rfl (hb hby d3_1) (by decide) (W := 0) (by show 2 * 0 + _ ≤ _; exact Nat.le_of_eq rfl) (by decide)
  refine own_step (T' := T1) (g' := (mkF m 4 #[.val (.ref a1), .val (.ref a2)] [])) st1 ?_
  refine own_step (T' := T1) (g' := (mkF m 5 #[.val (.ref a1), .val (.ref a2)] [(.ref a1)])) (fun t k => XS.aloadN X1.here hx rfl (hb hby d3_4) rfl rfl k) ?_
  refine own_step (T' := T1) (g' := (mkF m 6 #[.val (.ref a1), .val (.ref a2)] [(.ref a2), (.ref a1)])) (fun t k => XS.aloadN X1.here hx rfl (hb hby d3_5) rfl rfl k) ?_
  obtain ⟨T2, h2, X2, e2, W2, st2⟩ := putF X1 hx hZ hown (host := "") (Or.inl (hw _ (List.mem_of_getElem? (i := 26) rfl))) Via.refl e1 F_b E_a (Or.inr ⟨(hw _ (List.mem_of_getElem? (i := 27) rfl)), rfl, hnm⟩) (hw _ (List.mem_of_getElem? (i := 10) rfl)) (ty := .array .byte) (by decide) rfl rfl (g := (mkF m 6 #[.val (.ref a1), .val (.ref a2)] [(.ref a2), (.ref a1)])) rfl rfl (hb hby d3_6)
  have g3 : Exa Z h2 a1 "com/example/kempt_cursor/kemptcursor/ByteKey" := E_a.wr W2
  have g4 : Fld Z h2 a1 "com/example/kempt_cursor/kemptcursor/ByteKey" "bytes" "[B" (.ref a2) := F_b.same W2
  have K5 : Keep h0 h2 [a1] := K0.wr W2 (Or.inl (List.mem_of_getElem? (i := 0) rfl))
  have N2 := Fr.snoc X2 N0 o_a
  have Z2 : n0 ≤ h2.size := (Nat.le_trans Z0 (Nat.le_of_eq W2.size.symm))
  refine own_step (T' := T2) (g' := (mkF m 9 #[.val (.ref a1), .val (.ref a2)] [])) st2 ?_
  refine own_rV X2 hx hlk Bd.returns (hb hby d3_9) ?_ (by decide) (by decide)
  rw [e2]
  exact ⟨rfl, N2, K5, g3, g4⟩
def Q_of0 (Z : State)  (h0 : Heap) (n0 : Nat) (v : Option Value) (h : Heap) (L : List Loc) : Prop := ∃ (b q : Addr) (k : ClassId), v = some (.ref b) ∧ Fr n0 L ∧ Keep h0 h [] ∧ h0.size ≤ b ∧ h0.size ≤ q ∧ b ≠ q ∧ Exa Z h b "com/example/kempt_cursor/kemptcursor/ByteKey" ∧ Fld Z h b "com/example/kempt_cursor/kemptcursor/ByteKey" "bytes" "[B" (.ref q) ∧ Arv Z h q k .byte (0 : Int32) [] (.int (0 : Int32)) ∧ Exa Z h q "[B"
theorem ef_rm_of0 (m : MethodId) (x0 : Addr) : entryFrame m #[(.ref x0)] 1 = mkF m 0 #[.val (.ref x0)] [] := by first | (simp [entryFrame, mkF, argsToLocals, Value.category]; done) | rfl | (simp [entryFrame, mkF, argsToLocals, Value.category] <;> rfl)
theorem d2_0 : decode prog_1_method_2_code 0 = .ok (.new 8, 3) := by decide +kernel
theorem d2_3 : decode prog_1_method_2_code 3 = .ok (.dup, 1) := by decide +kernel
theorem d2_4 : decode prog_1_method_2_code 4 = .ok (.aload_n 0, 1) := by decide +kernel
theorem d2_5 : decode prog_1_method_2_code 5 = .ok (.invokevirtual 13, 3) := by decide +kernel
theorem d2_8 : decode prog_1_method_2_code 8 = .ok (.checkcast 14, 3) := by decide +kernel
theorem pd_0 : parseMethodDescriptor "([B)V" = some ⟨[.array .byte], none⟩ := by decide +kernel
theorem d2_11 : decode prog_1_method_2_code 11 = .ok (.invokespecial 18, 3) := by decide +kernel
theorem d2_14 : decode prog_1_method_2_code 14 = .ok (.areturn, 1) := by decide +kernel
set_option maxRecDepth 65536 in
set_option maxHeartbeats 40000000 in
theorem rm_of0 (l : Launch) (Z : State) (a0 : Array Value) (hw : ∀ d ∈ tables_1, d.before a0 Z = true) (ws : List Jvm.Cond) (a1 : Addr) (ka : ClassId) (h0 : Heap) (n0 : Nat) (Z0 : n0 ≤ h0.size) (V_a : Arv Z h0 a1 ka .byte (0 : Int32) [] (.int (0 : Int32))) (E_a : Exa Z h0 a1 "[B") :
    MetFree l (⟨"com/example/kempt_cursor/kemptcursor/ByteKey", "of", "([B)Lcom/example/kempt_cursor/kemptcursor/ByteKey;"⟩ : MethodName) (head1 (Jvm.Cond.code (⟨"com/example/kempt_cursor/kemptcursor/ByteKey", "of", "([B)Lcom/example/kempt_cursor/kemptcursor/ByteKey;"⟩ : MethodName) prog_1_method_2_code 1 (some (.object "com/example/kempt_cursor/kemptcursor/ByteKey")) :: ws) ({ frames := 2, cells := 2, slots := 1, locals := 26 } : Room)) (fun a U => a = #[(.ref a1)] ∧ Z.Warmed39 U.vm ∧ U.heap = h0) (fun _ _ _ _ _ => True) (fun _ U o U' => ∃ v L, o = .returned v ∧ (Q_of0 Z h0 n0) v U'.heap L ∧ FrameEnd U o U' L ({ frames := 2, cells := 2, slots := 1, locals := 26 } : Room).cells ({ frames := 2, cells := 2, slots := 1, locals := 26 } : Room).slots) := by
  refine MetFree.of_bodySF (plainFor_of_name pn_1) hisR ?_
  intro p e s m args below meth c s₁ Bd hml0 hP hK
  obtain ⟨rfl, hZ, hh⟩ := hP
  have hx := Bd.exec
  have hby := Bd.bytes
  have hlk : meth.locks = false := BodyLoose.notSynchronized Bd
  have hml : c.maxLocals = 1 := hml0
  have hown : s.vm.findClass "com/example/kempt_cursor/kemptcursor/ByteKey" = some m.cls := findClass_of_methodNamed Bd.named
  have hnm := (name_of_methodNamed Bd.named Bd.method).1
  have X0 : Stand p l e ({ frames := 2, cells := 2, slots := 1, locals := 26 } : Room) s m #[(.ref a1)] below meth c s₁ [] 0 0 := Stand.of_body Bd
  have e0 : s₁.heap = h0 := by rw [← hh, Bd.state]; rfl
  have N0 := Fr.nil n0
  show own_Go p e below s (Q_of0 Z h0 n0) ({ frames := 2, cells := 2, slots := 1, locals := 26 } : Room).cells ({ frames := 2, cells := 2, slots := 1, locals := 26 } : Room).slots s₁ (entryFrame m #[(.ref a1)] 1)
  refine own_cast (g' := (mkF m 0 #[.val (.ref a1)] [])) (ef_rm_of0 m a1) ?_
  have K0 : Keep h0 h0 [] := Keep.refl _ _
  obtain ⟨T1, h1, X1, e1, E1, A1, D1, -, st1⟩ := newO X0 hx hZ hown (hw _ (List.mem_of_getElem? (i := 9) rfl)) (hw _ (List.mem_of_getElem? (i := 10) rfl)) (hw _ (List.mem_of_getElem? (i := 7) rfl)) e0 (g := (mkF m 0 #[.val (.ref a1)] [])) rfl (hb hby d2_0) (by decide : 0 + 1 ≤ _) (by decide : 0 + 1 ≤ _)
  obtain ⟨ad1, g_ad1⟩ : ∃ z, z = h0.size := ⟨_, rfl⟩
  rw [← g_ad1] at A1 D1 st1
  have g2 : Arv Z h1 a1 ka .byte (0 : Int32) [] (.int (0 : Int32)) := V_a.ext E1
  have g3 : Exa Z h1 a1 "[B" := E_a.ext E1
  have ne1_1 : a1 ≠ ad1 := Nat.ne_of_lt (by rw [g_ad1]; exact V_a.lt)
  have o1 : n0 ≤ ad1 := (Nat.le_trans Z0 (Nat.le_of_eq g_ad1.symm))
  have Z1 : n0 ≤ h1.size := (Nat.le_trans Z0 E1.1)
  have f1 : h0.size ≤ ad1 := by rw [g_ad1]; exact K0.1
  have K4 : Keep h0 h1 [] := K0.ext E1
  have g5 : Fld Z h1 ad1 "com/example/kempt_cursor/kemptcursor/ByteKey" "bytes" "[B" .null := D1 (Or.inr (hw _ (List.mem_of_getElem? (i := 27) rfl))) (ty := .array .byte) (by decide)
  refine own_step (T' := T1) (g' := (mkF m 3 #[.val (.ref a1)] [(.ref ad1)])) st1 ?_
  refine own_step (T' := T1) (g' := (mkF m 4 #[.val (.ref a1)] [(.ref ad1), (.ref ad1)])) (fun t k => XS.dup X1.here hx rfl (hb hby d2_3) rfl rfl k) ?_
  refine own_step (T' := T1) (g' := (mkF m 5 #[.val (.ref a1)] [(.ref a1), (.ref ad1), (.ref ad1)])) (fun t k => XS.aloadN X1.here hx rfl (hb hby d2_4) rfl rfl k) ?_
  obtain ⟨T6, h6, X6, e6, E6, A6, B6, st6⟩ := cloneH X1 hx hZ hown (hw _ (List.mem_of_getElem? (i := 11) rfl)) (hw _ (List.mem_of_getElem? (i := 12) rfl)) (hw _ (List.mem_of_getElem? (i := 16) rfl)) (hw _ (List.mem_of_getElem? (i := 14) rfl)) (hw _ (List.mem_of_getElem? (i := 15) rfl)) (hw _ (List.mem_of_getElem? (i := 17) rfl)) e1 g2.arh g3 (g := (mkF m 5 #[.val (.ref a1)] [(.ref a1), (.ref ad1), (.ref ad1)])) rfl (by rw [hml]; rfl) rfl (hb hby d2_5) (by decide) (W := 2) (by show 2 * 0 + _ ≤ _; exact Nat.le_of_eq rfl) (by decide) (cap := 0) (by decide) (by decide : 1 + 1 ≤ _) (by decide : 1 + 0 ≤ _)
  obtain ⟨ad6, g_ad6⟩ : ∃ z, z = h1.size := ⟨_, rfl⟩
  rw [← g_ad6] at A6 B6 st6
  have g7 : Arv Z h6 a1 ka .byte (0 : Int32) [] (.int (0 : Int32)) := g2.ext E6
  have g8 : Exa Z h6 a1 "[B" := g3.ext E6
  have g9 : Exa Z h6 ad1 "com/example/kempt_cursor/kemptcursor/ByteKey" := A1.ext E6
  have g10 : Fld Z h6 ad1 "com/example/kempt_cursor/kemptcursor/ByteKey" "bytes" "[B" .null := g5.ext E6
  have ne6_1 : a1 ≠ ad6 := Nat.ne_of_lt (by rw [g_ad6]; exact g2.lt)
  have ne6_2 : ad1 ≠ ad6 := Nat.ne_of_lt (by rw [g_ad6]; exact A1.lt)
  have o6 : n0 ≤ ad6 := (Nat.le_trans Z1 (Nat.le_of_eq g_ad6.symm))
  have Z6 : n0 ≤ h6.size := (Nat.le_trans Z1 E6.1)
  have f6 : h0.size ≤ ad6 := by rw [g_ad6]; exact K4.1
  have K11 : Keep h0 h6 [] := K4.ext E6
  have V6 : Arv Z h6 ad6 ka .byte (0 : Int32) [] (.int (0 : Int32)) := A6
  refine own_step (T' := T6) (g' := (mkF m 8 #[.val (.ref a1)] [(.ref ad6), (.ref ad1), (.ref ad1)])) st6 ?_
  obtain ⟨T12, X12, e12, st12⟩ := castY X6 hx hZ hown (hw _ (List.mem_of_getElem? (i := 18) rfl)) e6 (Ins.self B6) (g := (mkF m 8 #[.val (.ref a1)] [(.ref ad6), (.ref ad1), (.ref ad1)])) rfl rfl (hb hby d2_8)
  refine own_step (T' := T12) (g' := (mkF m 11 #[.val (.ref a1)] [(.ref ad6), (.ref ad1), (.ref ad1)])) st12 ?_
  obtain ⟨_, _, ⟨T16, L16, k16, n16⟩, -, X16, ⟨Lc16, hQ16, lq16, yq16, zq16⟩, st16⟩ := X12.specialBack hx (y := (⟨"com/example/kempt_cursor/kemptcursor/ByteKey", "<init>", "([B)V"⟩ : MethodName)) rfl hown (mvT hZ (hw _ (List.mem_of_getElem? (i := 20) rfl))) (mvT hZ (hw _ (List.mem_of_getElem? (i := 21) rfl))) (mvT hZ (hw _ (List.mem_of_getElem? (i := 22) rfl))) (by decide) (backOf (W := 1) (rm_init l Z a0 hw [] ad1 ad6 _ h6 n0 Z6 g9 g10 o1) hZ (hw _ (List.mem_of_getElem? (i := 22) rfl)) (hw _ (List.mem_of_getElem? (i := 7) rfl)) (by decide) (by decide)) (g := (mkF m 11 #[.val (.ref a1)] [(.ref ad6), (.ref ad1), (.ref ad1)])) rfl (by rw [hml]; rfl) (Steps.refl _) (a := ad1) (argsL := [(.ref ad6)]) (rest := [(.ref ad1)]) (lenOf pd_0 rfl) rfl (by show 2 * 0 + _ ≤ _; exact Nat.le_of_eq rfl) (hb hby d2_11) (fun _ _ => ⟨rfl, e12, (by decide : 2 + 0 ≤ _), (by decide : 1 + 0 ≤ _)⟩)
  dsimp only [Pt.U, Pt.locs, Pt.cells, Pt.slots] at X16 lq16 yq16 zq16 st16 hQ16
  subst lq16 yq16 zq16
  obtain ⟨rfl, Nq16, K13, g14, g15⟩ := hQ16
  have N16 := Fr.app N0 Nq16
  have g17 : Arv Z T16.heap a1 ka .byte (0 : Int32) [] (.int (0 : Int32)) := g7.keep K13 (ninS ne1_1 nin0)
  have g18 : Exa Z T16.heap a1 "[B" := g8.keep K13
  have g19 : Arv Z T16.heap ad6 ka .byte (0 : Int32) [] (.int (0 : Int32)) := V6.keep K13 (ninS (Ne.symm ne6_2) nin0)
  have g20 : Exa Z T16.heap ad6 "[B" := B6.keep K13
  have Z13 : n0 ≤ T16.heap.size := (Nat.le_trans Z6 K13.1)
  have K21 : Keep h0 T16.heap [] := K11.trans K13 (allS (P := fun x => x ∈ [] ∨ h0.size ≤ x) (Or.inr f1) all0)
  refine own_tr (T' := T16) (g' := (mkF m 14 #[.val (.ref a1)] [(.ref ad1)])) st16 ?_
  refine own_rA X16 hx hlk Bd.returns rfl (w := (.ref ad1)) rfl (hb hby d2_14) ?_ (by decide) (by decide)
  exact ⟨ad1, ad6, ka, rfl, N16, K21, f1, f6, ne6_2, g14, g15, g19, g20⟩
def Q_to0 (Z : State)  (h0 : Heap) (n0 : Nat) (v : Option Value) (h : Heap) (L : List Loc) : Prop := ∃ (q : Addr) (k : ClassId), v = some (.ref q) ∧ Fr n0 L ∧ Keep h0 h [] ∧ h0.size ≤ q ∧ Arv Z h q k .byte (0 : Int32) [] (.int (0 : Int32))
theorem ef_rm_to0 (m : MethodId) (x0 : Addr) : entryFrame m #[(.ref x0)] 1 = mkF m 0 #[.val (.ref x0)] [] := by first | (simp [entryFrame, mkF, argsToLocals, Value.category]; done) | rfl | (simp [entryFrame, mkF, argsToLocals, Value.category] <;> rfl)
theorem d5_0 : decode prog_1_method_3_code 0 = .ok (.aload_n 0, 1) := by decide +kernel
theorem d5_1 : decode prog_1_method_3_code 1 = .ok (.getfield 7, 3) := by decide +kernel
theorem d5_4 : decode prog_1_method_3_code 4 = .ok (.invokevirtual 13, 3) := by decide +kernel
theorem d5_7 : decode prog_1_method_3_code 7 = .ok (.checkcast 14, 3) := by decide +kernel
theorem d5_10 : decode prog_1_method_3_code 10 = .ok (.areturn, 1) := by decide +kernel
set_option maxRecDepth 65536 in
set_option maxHeartbeats 40000000 in
theorem rm_to0 (l : Launch) (Z : State) (a0 : Array Value) (hw : ∀ d ∈ tables_1, d.before a0 Z = true) (ws : List Jvm.Cond) (a1 : Addr) (a2 : Addr) (ka : ClassId) (h0 : Heap) (n0 : Nat) (Z0 : n0 ≤ h0.size) (F_b : Fld Z h0 a1 "com/example/kempt_cursor/kemptcursor/ByteKey" "bytes" "[B" (.ref a2)) (V_a : Arv Z h0 a2 ka .byte (0 : Int32) [] (.int (0 : Int32))) (E_a : Exa Z h0 a2 "[B") :
    MetFree l (⟨"com/example/kempt_cursor/kemptcursor/ByteKey", "toByteArray", "()[B"⟩ : MethodName) (head1 (Jvm.Cond.code (⟨"com/example/kempt_cursor/kemptcursor/ByteKey", "toByteArray", "()[B"⟩ : MethodName) prog_1_method_3_code 1 (some (.array .byte)) :: ws) ({ frames := 1, cells := 1, slots := 0, locals := 14 } : Room)) (fun a U => a = #[(.ref a1)] ∧ Z.Warmed39 U.vm ∧ U.heap = h0) (fun _ _ _ _ _ => True) (fun _ U o U' => ∃ v L, o = .returned v ∧ (Q_to0 Z h0 n0) v U'.heap L ∧ FrameEnd U o U' L ({ frames := 1, cells := 1, slots := 0, locals := 14 } : Room).cells ({ frames := 1, cells := 1, slots := 0, locals := 14 } : Room).slots) := by
  refine MetFree.of_bodySF (plainFor_of_name pn_1) hisR ?_
  intro p e s m args below meth c s₁ Bd hml0 hP hK
  obtain ⟨rfl, hZ, hh⟩ := hP
  have hx := Bd.exec
  have hby := Bd.bytes
  have hlk : meth.locks = false := BodyLoose.notSynchronized Bd
  have hml : c.maxLocals = 1 := hml0
  have hown : s.vm.findClass "com/example/kempt_cursor/kemptcursor/ByteKey" = some m.cls := findClass_of_methodNamed Bd.named
  have hnm := (name_of_methodNamed Bd.named Bd.method).1
  have X0 : Stand p l e ({ frames := 1, cells := 1, slots := 0, locals := 14 } : Room) s m #[(.ref a1)] below meth c s₁ [] 0 0 := Stand.of_body Bd
  have e0 : s₁.heap = h0 := by rw [← hh, Bd.state]; rfl
  have N0 := Fr.nil n0
  show own_Go p e below s (Q_to0 Z h0 n0) ({ frames := 1, cells := 1, slots := 0, locals := 14 } : Room).cells ({ frames := 1, cells := 1, slots := 0, locals := 14 } : Room).slots s₁ (entryFrame m #[(.ref a1)] 1)
  refine own_cast (g' := (mkF m 0 #[.val (.ref a1)] [])) (ef_rm_to0 m a1) ?_
  have K0 : Keep h0 h0 [] := Keep.refl _ _
  refine own_step (T' := s₁) (g' := (mkF m 1 #[.val (.ref a1)] [(.ref a1)])) (fun t k => XS.aloadN X0.here hx rfl (hb hby d5_0) rfl rfl k) ?_
  obtain ⟨T1, X1, e1, st1⟩ := getF X0 hx hZ hown (host := "") (Or.inl (hw _ (List.mem_of_getElem? (i := 26) rfl))) Via.refl e0 F_b (g := (mkF m 1 #[.val (.ref a1)] [(.ref a1)])) rfl rfl (hb hby d5_1)
  refine own_step (T' := T1) (g' := (mkF m 4 #[.val (.ref a1)] [(.ref a2)])) st1 ?_
  obtain ⟨T2, h2, X2, e2, E2, A2, B2, st2⟩ := cloneH X1 hx hZ hown (hw _ (List.mem_of_getElem? (i := 11) rfl)) (hw _ (List.mem_of_getElem? (i := 12) rfl)) (hw _ (List.mem_of_getElem? (i := 16) rfl)) (hw _ (List.mem_of_getElem? (i := 14) rfl)) (hw _ (List.mem_of_getElem? (i := 15) rfl)) (hw _ (List.mem_of_getElem? (i := 17) rfl)) e1 V_a.arh E_a (g := (mkF m 4 #[.val (.ref a1)] [(.ref a2)])) rfl (by rw [hml]; rfl) rfl (hb hby d5_4) (by decide) (W := 0) (by show 2 * 0 + _ ≤ _; exact Nat.le_of_eq rfl) (by decide) (cap := 0) (by decide) (by decide : 0 + 1 ≤ _) (by decide : 0 + 0 ≤ _)
  obtain ⟨ad2, g_ad2⟩ : ∃ z, z = h0.size := ⟨_, rfl⟩
  rw [← g_ad2] at A2 B2 st2
  have g3 : Fld Z h2 a1 "com/example/kempt_cursor/kemptcursor/ByteKey" "bytes" "[B" (.ref a2) := F_b.ext E2
  have g4 : Arv Z h2 a2 ka .byte (0 : Int32) [] (.int (0 : Int32)) := V_a.ext E2
  have g5 : Exa Z h2 a2 "[B" := E_a.ext E2
  have ne2_1 : a1 ≠ ad2 := Nat.ne_of_lt (by rw [g_ad2]; exact F_b.lt)
  have ne2_2 : a2 ≠ ad2 := Nat.ne_of_lt (by rw [g_ad2]; exact V_a.lt)
  have o2 : n0 ≤ ad2 := (Nat.le_trans Z0 (Nat.le_of_eq g_ad2.symm))
  have Z2 : n0 ≤ h2.size := (Nat.le_trans Z0 E2.1)
  have f2 : h0.size ≤ ad2 := by rw [g_ad2]; exact K0.1
  have K6 : Keep h0 h2 [] := K0.ext E2
  have V2 : Arv Z h2 ad2 ka .byte (0 : Int32) [] (.int (0 : Int32)) := A2
  refine own_step (T' := T2) (g' := (mkF m 7 #[.val (.ref a1)] [(.ref ad2)])) st2 ?_
  obtain ⟨T7, X7, e7, st7⟩ := castY X2 hx hZ hown (hw _ (List.mem_of_getElem? (i := 18) rfl)) e2 (Ins.self B2) (g := (mkF m 7 #[.val (.ref a1)] [(.ref ad2)])) rfl rfl (hb hby d5_7)
  refine own_step (T' := T7) (g' := (mkF m 10 #[.val (.ref a1)] [(.ref ad2)])) st7 ?_
  refine own_rA X7 hx hlk Bd.returns rfl (w := (.ref ad2)) rfl (hb hby d5_10) ?_ (by decide) (by decide)
  rw [e7]
  exact ⟨ad2, ka, rfl, N0, K6, f2, V2⟩
def Q_of1 (Z : State) (y0 : Int32) (h0 : Heap) (n0 : Nat) (v : Option Value) (h : Heap) (L : List Loc) : Prop := ∃ (b q : Addr) (k : ClassId), v = some (.ref b) ∧ Fr n0 L ∧ Keep h0 h [] ∧ h0.size ≤ b ∧ h0.size ≤ q ∧ b ≠ q ∧ Exa Z h b "com/example/kempt_cursor/kemptcursor/ByteKey" ∧ Fld Z h b "com/example/kempt_cursor/kemptcursor/ByteKey" "bytes" "[B" (.ref q) ∧ Arv Z h q k .byte (1 : Int32) [(.int y0)] (.int (0 : Int32)) ∧ Exa Z h q "[B"
theorem ef_rm_of1 (m : MethodId) (x0 : Addr) : entryFrame m #[(.ref x0)] 1 = mkF m 0 #[.val (.ref x0)] [] := by first | (simp [entryFrame, mkF, argsToLocals, Value.category]; done) | rfl | (simp [entryFrame, mkF, argsToLocals, Value.category] <;> rfl)
set_option maxRecDepth 65536 in
set_option maxHeartbeats 40000000 in
theorem rm_of1 (l : Launch) (Z : State) (a0 : Array Value) (hw : ∀ d ∈ tables_1, d.before a0 Z = true) (ws : List Jvm.Cond) (a1 : Addr) (y0 : Int32) (ka : ClassId) (h0 : Heap) (n0 : Nat) (Z0 : n0 ≤ h0.size) (V_a : Arv Z h0 a1 ka .byte (1 : Int32) [(.int y0)] (.int (0 : Int32))) (E_a : Exa Z h0 a1 "[B") :
    MetFree l (⟨"com/example/kempt_cursor/kemptcursor/ByteKey", "of", "([B)Lcom/example/kempt_cursor/kemptcursor/ByteKey;"⟩ : MethodName) (head1 (Jvm.Cond.code (⟨"com/example/kempt_cursor/kemptcursor/ByteKey", "of", "([B)Lcom/example/kempt_cursor/kemptcursor/ByteKey;"⟩ : MethodName) prog_1_method_2_code 1 (some (.object "com/example/kempt_cursor/kemptcursor/ByteKey")) :: ws) ({ frames := 2, cells := 2, slots := 2, locals := 26 } : Room)) (fun a U => a = #[(.ref a1)] ∧ Z.Warmed39 U.vm ∧ U.heap = h0) (fun _ _ _ _ _ => True) (fun _ U o U' => ∃ v L, o = .returned v ∧ (Q_of1 Z y0 h0 n0) v U'.heap L ∧ FrameEnd U o U' L ({ frames := 2, cells := 2, slots := 2, locals := 26 } : Room).cells ({ frames := 2, cells := 2, slots := 2, locals := 26 } : Room).slots) := by
  refine MetFree.of_bodySF (plainFor_of_name pn_1) hisR ?_
  intro p e s m args below meth c s₁ Bd hml0 hP hK
  obtain ⟨rfl, hZ, hh⟩ := hP
  have hx := Bd.exec
  have hby := Bd.bytes
  have hlk : meth.locks = false := BodyLoose.notSynchronized Bd
  have hml : c.maxLocals = 1 := hml0
  have hown : s.vm.findClass "com/example/kempt_cursor/kemptcursor/ByteKey" = some m.cls := findClass_of_methodNamed Bd.named
  have hnm := (name_of_methodNamed Bd.named Bd.method).1
  have X0 : Stand p l e ({ frames := 2, cells := 2, slots := 2, locals := 26 } : Room) s m #[(.ref a1)] below meth c s₁ [] 0 0 := Stand.of_body Bd
  have e0 : s₁.heap = h0 := by rw [← hh, Bd.state]; rfl
  have N0 := Fr.nil n0
  show own_Go p e below s (Q_of1 Z y0 h0 n0) ({ frames := 2, cells := 2, slots := 2, locals := 26 } : Room).cells ({ frames := 2, cells := 2, slots := 2, locals := 26 } : Room).slots s₁ (entryFrame m #[(.ref a1)] 1)
  refine own_cast (g' := (mkF m 0 #[.val (.ref a1)] [])) (ef_rm_of1 m a1) ?_
  have K0 : Keep h0 h0 [] := Keep.refl _ _
  obtain ⟨T1, h1, X1, e1, E1, A1, D1, -, st1⟩ := newO X0 hx hZ hown (hw _ (List.mem_of_getElem? (i := 9) rfl)) (hw _ (List.mem_of_getElem? (i := 10) rfl)) (hw _ (List.mem_of_getElem? (i := 7) rfl)) e0 (g := (mkF m 0 #[.val (.ref a1)] [])) rfl (hb hby d2_0) (by decide : 0 + 1 ≤ _) (by decide : 0 + 1 ≤ _)
  obtain ⟨ad1, g_ad1⟩ : ∃ z, z = h0.size := ⟨_, rfl⟩
  rw [← g_ad1] at A1 D1 st1
  have g2 : Arv Z h1 a1 ka .byte (1 : Int32) [(.int y0)] (.int (0 : Int32)) := V_a.ext E1
  have g3 : Exa Z h1 a1 "[B" := E_a.ext E1
  have ne1_1 : a1 ≠ ad1 := Nat.ne_of_lt (by rw [g_ad1]; exact V_a.lt)
  have o1 : n0 ≤ ad1 := (Nat.le_trans Z0 (Nat.le_of_eq g_ad1.symm))
  have Z1 : n0 ≤ h1.size := (Nat.le_trans Z0 E1.1)
  have f1 : h0.size ≤ ad1 := by rw [g_ad1]; exact K0.1
  have K4 : Keep h0 h1 [] := K0.ext E1
  have g5 : Fld Z h1 ad1 "com/example/kempt_cursor/kemptcursor/ByteKey" "bytes" "[B" .null := D1 (Or.inr (hw _ (List.mem_of_getElem? (i := 27) rfl))) (ty := .array .byte) (by decide)
  refine own_step (T' := T1) (g' := (mkF m 3 #[.val (.ref a1)] [(.ref ad1)])) st1 ?_
  refine own_step (T' := T1) (g' := (mkF m 4 #[.val (.ref a1)] [(.ref ad1), (.ref ad1)])) (fun t k => XS.dup X1.here hx rfl (hb hby d2_3) rfl rfl k) ?_
  refine own_step (T' := T1) (g' := (mkF m 5 #[.val (.ref a1)] [(.ref a1), (.ref ad1), (.ref ad1)])) (fun t k => XS.aloadN X1.here hx rfl (hb hby d2_4) rfl rfl k) ?_
  obtain ⟨T6, h6, X6, e6, E6, A6, B6, st6⟩ := cloneH X1 hx hZ hown (hw _ (List.mem_of_getElem? (i := 11) rfl)) (hw _ (List.mem_of_getElem? (i := 12) rfl)) (hw _ (List.mem_of_getElem? (i := 16) rfl)) (hw _ (List.mem_of_getElem? (i := 14) rfl)) (hw _ (List.mem_of_getElem? (i := 15) rfl)) (hw _ (List.mem_of_getElem? (i := 17) rfl)) e1 g2.arh g3 (g := (mkF m 5 #[.val (.ref a1)] [(.ref a1), (.ref ad1), (.ref ad1)])) rfl (by rw [hml]; rfl) rfl (hb hby d2_5) (by decide) (W := 2) (by show 2 * 0 + _ ≤ _; exact Nat.le_of_eq rfl) (by decide) (cap := 1) (by decide) (by decide : 1 + 1 ≤ _) (by decide : 1 + 1 ≤ _)
  obtain ⟨ad6, g_ad6⟩ : ∃ z, z = h1.size := ⟨_, rfl⟩
  rw [← g_ad6] at A6 B6 st6
  have g7 : Arv Z h6 a1 ka .byte (1 : Int32) [(.int y0)] (.int (0 : Int32)) := g2.ext E6
  have g8 : Exa Z h6 a1 "[B" := g3.ext E6
  have g9 : Exa Z h6 ad1 "com/example/kempt_cursor/kemptcursor/ByteKey" := A1.ext E6
  have g10 : Fld Z h6 ad1 "com/example/kempt_cursor/kemptcursor/ByteKey" "bytes" "[B" .null := g5.ext E6
  have ne6_1 : a1 ≠ ad6 := Nat.ne_of_lt (by rw [g_ad6]; exact g2.lt)
  have ne6_2 : ad1 ≠ ad6 := Nat.ne_of_lt (by rw [g_ad6]; exact A1.lt)
  have o6 : n0 ≤ ad6 := (Nat.le_trans Z1 (Nat.le_of_eq g_ad6.symm))
  have Z6 : n0 ≤ h6.size := (Nat.le_trans Z1 E6.1)
  have f6 : h0.size ≤ ad6 := by rw [g_ad6]; exact K4.1
  have K11 : Keep h0 h6 [] := K4.ext E6
  have V6 : Arv Z h6 ad6 ka .byte (1 : Int32) [(.int y0)] (.int (0 : Int32)) := A6
  refine own_step (T' := T6) (g' := (mkF m 8 #[.val (.ref a1)] [(.ref ad6), (.ref ad1), (.ref ad1)])) st6 ?_
  obtain ⟨T12, X12, e12, st12⟩ := castY X6 hx hZ hown (hw _ (List.mem_of_getElem? (i := 18) rfl)) e6 (Ins.self B6) (g := (mkF m 8 #[.val (.ref a1)] [(.ref ad6), (.ref ad1), (.ref ad1)])) rfl rfl (hb hby d2_8)
  refine own_step (T' := T12) (g' := (mkF m 11 #[.val (.ref a1)] [(.ref ad6), (.ref ad1), (.ref ad1)])) st12 ?_
  obtain ⟨_, _, ⟨T16, L16, k16, n16⟩, -, X16, ⟨Lc16, hQ16, lq16, yq16, zq16⟩, st16⟩ := X12.specialBack hx (y := (⟨"com/example/kempt_cursor/kemptcursor/ByteKey", "<init>", "([B)V"⟩ : MethodName)) rfl hown (mvT hZ (hw _ (List.mem_of_getElem? (i := 20) rfl))) (mvT hZ (hw _ (List.mem_of_getElem? (i := 21) rfl))) (mvT hZ (hw _ (List.mem_of_getElem? (i := 22) rfl))) (by decide) (backOf (W := 1) (rm_init l Z a0 hw [] ad1 ad6 _ h6 n0 Z6 g9 g10 o1) hZ (hw _ (List.mem_of_getElem? (i := 22) rfl)) (hw _ (List.mem_of_getElem? (i := 7) rfl)) (by decide) (by decide)) (g := (mkF m 11 #[.val (.ref a1)] [(.ref ad6), (.ref ad1), (.ref ad1)])) rfl (by rw [hml]; rfl) (Steps.refl _) (a := ad1) (argsL := [(.ref ad6)]) (rest := [(.ref ad1)]) (lenOf pd_0 rfl) rfl (by show 2 * 0 + _ ≤ _; exact Nat.le_of_eq rfl) (hb hby d2_11) (fun _ _ => ⟨rfl, e12, (by decide : 2 + 0 ≤ _), (by decide : 2 + 0 ≤ _)⟩)
  dsimp only [Pt.U, Pt.locs, Pt.cells, Pt.slots] at X16 lq16 yq16 zq16 st16 hQ16
  subst lq16 yq16 zq16
  obtain ⟨rfl, Nq16, K13, g14, g15⟩ := hQ16
  have N16 := Fr.app N0 Nq16
  have g17 : Arv Z T16.heap a1 ka .byte (1 : Int32) [(.int y0)] (.int (0 : Int32)) := g7.keep K13 (ninS ne1_1 nin0)
  have g18 : Exa Z T16.heap a1 "[B" := g8.keep K13
  have g19 : Arv Z T16.heap ad6 ka .byte (1 : Int32) [(.int y0)] (.int (0 : Int32)) := V6.keep K13 (ninS (Ne.symm ne6_2) nin0)
  have g20 : Exa Z T16.heap ad6 "[B" := B6.keep K13
  have Z13 : n0 ≤ T16.heap.size := (Nat.le_trans Z6 K13.1)
  have K21 : Keep h0 T16.heap [] := K11.trans K13 (allS (P := fun x => x ∈ [] ∨ h0.size ≤ x) (Or.inr f1) all0)
  refine own_tr (T' := T16) (g' := (mkF m 14 #[.val (.ref a1)] [(.ref ad1)])) st16 ?_
  refine own_rA X16 hx hlk Bd.returns rfl (w := (.ref ad1)) rfl (hb hby d2_14) ?_ (by decide) (by decide)
  exact ⟨ad1, ad6, ka, rfl, N16, K21, f1, f6, ne6_2, g14, g15, g19, g20⟩
def Q_to1 (Z : State) (y0 : Int32) (h0 : Heap) (n0 : Nat) (v : Option Value) (h : Heap) (L : List Loc) : Prop := ∃ (q : Addr) (k : ClassId), v = some (.ref q) ∧ Fr n0 L ∧ Keep h0 h [] ∧ h0.size ≤ q ∧ Arv Z h q k .byte (1 : Int32) [(.int y0)] (.int (0 : Int32))
theorem ef_rm_to1 (m : MethodId) (x0 : Addr) : entryFrame m #[(.ref x0)] 1 = mkF m 0 #[.val (.ref x0)] [] := by first | (simp [entryFrame, mkF, argsToLocals, Value.category]; done) | rfl | (simp [entryFrame, mkF, argsToLocals, Value.category] <;> rfl)
set_option maxRecDepth 65536 in
set_option maxHeartbeats 40000000 in
theorem rm_to1 (l : Launch) (Z : State) (a0 : Array Value) (hw : ∀ d ∈ tables_1, d.before a0 Z = true) (ws : List Jvm.Cond) (a1 : Addr) (a2 : Addr) (y0 : Int32) (ka : ClassId) (h0 : Heap) (n0 : Nat) (Z0 : n0 ≤ h0.size) (F_b : Fld Z h0 a1 "com/example/kempt_cursor/kemptcursor/ByteKey" "bytes" "[B" (.ref a2)) (V_a : Arv Z h0 a2 ka .byte (1 : Int32) [(.int y0)] (.int (0 : Int32))) (E_a : Exa Z h0 a2 "[B") :
    MetFree l (⟨"com/example/kempt_cursor/kemptcursor/ByteKey", "toByteArray", "()[B"⟩ : MethodName) (head1 (Jvm.Cond.code (⟨"com/example/kempt_cursor/kemptcursor/ByteKey", "toByteArray", "()[B"⟩ : MethodName) prog_1_method_3_code 1 (some (.array .byte)) :: ws) ({ frames := 1, cells := 1, slots := 1, locals := 14 } : Room)) (fun a U => a = #[(.ref a1)] ∧ Z.Warmed39 U.vm ∧ U.heap = h0) (fun _ _ _ _ _ => True) (fun _ U o U' => ∃ v L, o = .returned v ∧ (Q_to1 Z y0 h0 n0) v U'.heap L ∧ FrameEnd U o U' L ({ frames := 1, cells := 1, slots := 1, locals := 14 } : Room).cells ({ frames := 1, cells := 1, slots := 1, locals := 14 } : Room).slots) := by
  refine MetFree.of_bodySF (plainFor_of_name pn_1) hisR ?_
  intro p e s m args below meth c s₁ Bd hml0 hP hK
  obtain ⟨rfl, hZ, hh⟩ := hP
  have hx := Bd.exec
  have hby := Bd.bytes
  have hlk : meth.locks = false := BodyLoose.notSynchronized Bd
  have hml : c.maxLocals = 1 := hml0
  have hown : s.vm.findClass "com/example/kempt_cursor/kemptcursor/ByteKey" = some m.cls := findClass_of_methodNamed Bd.named
  have hnm := (name_of_methodNamed Bd.named Bd.method).1
  have X0 : Stand p l e ({ frames := 1, cells := 1, slots := 1, locals := 14 } : Room) s m #[(.ref a1)] below meth c s₁ [] 0 0 := Stand.of_body Bd
  have e0 : s₁.heap = h0 := by rw [← hh, Bd.state]; rfl
  have N0 := Fr.nil n0
  show own_Go p e below s (Q_to1 Z y0 h0 n0) ({ frames := 1, cells := 1, slots := 1, locals := 14 } : Room).cells ({ frames := 1, cells := 1, slots := 1, locals := 14 } : Room).slots s₁ (entryFrame m #[(.ref a1)] 1)
  refine own_cast (g' := (mkF m 0 #[.val (.ref a1)] [])) (ef_rm_to1 m a1) ?_
  have K0 : Keep h0 h0 [] := Keep.refl _ _
  refine own_step (T' := s₁) (g' := (mkF m 1 #[.val (.ref a1)] [(.ref a1)])) (fun t k => XS.aloadN X0.here hx rfl (hb hby d5_0) rfl rfl k) ?_
  obtain ⟨T1, X1, e1, st1⟩ := getF X0 hx hZ hown (host := "") (Or.inl (hw _ (List.mem_of_getElem? (i := 26) rfl))) Via.refl e0 F_b (g := (mkF m 1 #[.val (.ref a1)] [(.ref a1)])) rfl rfl (hb hby d5_1)
  refine own_step (T' := T1) (g' := (mkF m 4 #[.val (.ref a1)] [(.ref a2)])) st1 ?_
  obtain ⟨T2, h2, X2, e2, E2, A2, B2, st2⟩ := cloneH X1 hx hZ hown (hw _ (List.mem_of_getElem? (i := 11) rfl)) (hw _ (List.mem_of_getElem? (i := 12) rfl)) (hw _ (List.mem_of_getElem? (i := 16) rfl)) (hw _ (List.mem_of_getElem? (i := 14) rfl)) (hw _ (List.mem_of_getElem? (i := 15) rfl)) (hw _ (List.mem_of_getElem? (i := 17) rfl)) e1 V_a.arh E_a (g := (mkF m 4 #[.val (.ref a1)] [(.ref a2)])) rfl (by rw [hml]; rfl) rfl (hb hby d5_4) (by decide) (W := 0) (by show 2 * 0 + _ ≤ _; exact Nat.le_of_eq rfl) (by decide) (cap := 1) (by decide) (by decide : 0 + 1 ≤ _) (by decide : 0 + 1 ≤ _)
  obtain ⟨ad2, g_ad2⟩ : ∃ z, z = h0.size := ⟨_, rfl⟩
  rw [← g_ad2] at A2 B2 st2
  have g3 : Fld Z h2 a1 "com/example/kempt_cursor/kemptcursor/ByteKey" "bytes" "[B" (.ref a2) := F_b.ext E2
  have g4 : Arv Z h2 a2 ka .byte (1 : Int32) [(.int y0)] (.int (0 : Int32)) := V_a.ext E2
  have g5 : Exa Z h2 a2 "[B" := E_a.ext E2
  have ne2_1 : a1 ≠ ad2 := Nat.ne_of_lt (by rw [g_ad2]; exact F_b.lt)
  have ne2_2 : a2 ≠ ad2 := Nat.ne_of_lt (by rw [g_ad2]; exact V_a.lt)
  have o2 : n0 ≤ ad2 := (Nat.le_trans Z0 (Nat.le_of_eq g_ad2.symm))
  have Z2 : n0 ≤ h2.size := (Nat.le_trans Z0 E2.1)
  have f2 : h0.size ≤ ad2 := by rw [g_ad2]; exact K0.1
  have K6 : Keep h0 h2 [] := K0.ext E2
  have V2 : Arv Z h2 ad2 ka .byte (1 : Int32) [(.int y0)] (.int (0 : Int32)) := A2
  refine own_step (T' := T2) (g' := (mkF m 7 #[.val (.ref a1)] [(.ref ad2)])) st2 ?_
  obtain ⟨T7, X7, e7, st7⟩ := castY X2 hx hZ hown (hw _ (List.mem_of_getElem? (i := 18) rfl)) e2 (Ins.self B2) (g := (mkF m 7 #[.val (.ref a1)] [(.ref ad2)])) rfl rfl (hb hby d5_7)
  refine own_step (T' := T7) (g' := (mkF m 10 #[.val (.ref a1)] [(.ref ad2)])) st7 ?_
  refine own_rA X7 hx hlk Bd.returns rfl (w := (.ref ad2)) rfl (hb hby d5_10) ?_ (by decide) (by decide)
  rw [e7]
  exact ⟨ad2, ka, rfl, N0, K6, f2, V2⟩
def Q_of2 (Z : State) (y0 : Int32) (y1 : Int32) (h0 : Heap) (n0 : Nat) (v : Option Value) (h : Heap) (L : List Loc) : Prop := ∃ (b q : Addr) (k : ClassId), v = some (.ref b) ∧ Fr n0 L ∧ Keep h0 h [] ∧ h0.size ≤ b ∧ h0.size ≤ q ∧ b ≠ q ∧ Exa Z h b "com/example/kempt_cursor/kemptcursor/ByteKey" ∧ Fld Z h b "com/example/kempt_cursor/kemptcursor/ByteKey" "bytes" "[B" (.ref q) ∧ Arv Z h q k .byte (2 : Int32) [(.int y0), (.int y1)] (.int (0 : Int32)) ∧ Exa Z h q "[B"
theorem ef_rm_of2 (m : MethodId) (x0 : Addr) : entryFrame m #[(.ref x0)] 1 = mkF m 0 #[.val (.ref x0)] [] := by first | (simp [entryFrame, mkF, argsToLocals, Value.category]; done) | rfl | (simp [entryFrame, mkF, argsToLocals, Value.category] <;> rfl)
set_option maxRecDepth 65536 in
set_option maxHeartbeats 40000000 in
theorem rm_of2 (l : Launch) (Z : State) (a0 : Array Value) (hw : ∀ d ∈ tables_1, d.before a0 Z = true) (ws : List Jvm.Cond) (a1 : Addr) (y0 : Int32) (y1 : Int32) (ka : ClassId) (h0 : Heap) (n0 : Nat) (Z0 : n0 ≤ h0.size) (V_a : Arv Z h0 a1 ka .byte (2 : Int32) [(.int y0), (.int y1)] (.int (0 : Int32))) (E_a : Exa Z h0 a1 "[B") :
    MetFree l (⟨"com/example/kempt_cursor/kemptcursor/ByteKey", "of", "([B)Lcom/example/kempt_cursor/kemptcursor/ByteKey;"⟩ : MethodName) (head1 (Jvm.Cond.code (⟨"com/example/kempt_cursor/kemptcursor/ByteKey", "of", "([B)Lcom/example/kempt_cursor/kemptcursor/ByteKey;"⟩ : MethodName) prog_1_method_2_code 1 (some (.object "com/example/kempt_cursor/kemptcursor/ByteKey")) :: ws) ({ frames := 2, cells := 2, slots := 3, locals := 26 } : Room)) (fun a U => a = #[(.ref a1)] ∧ Z.Warmed39 U.vm ∧ U.heap = h0) (fun _ _ _ _ _ => True) (fun _ U o U' => ∃ v L, o = .returned v ∧ (Q_of2 Z y0 y1 h0 n0) v U'.heap L ∧ FrameEnd U o U' L ({ frames := 2, cells := 2, slots := 3, locals := 26 } : Room).cells ({ frames := 2, cells := 2, slots := 3, locals := 26 } : Room).slots) := by
  refine MetFree.of_bodySF (plainFor_of_name pn_1) hisR ?_
  intro p e s m args below meth c s₁ Bd hml0 hP hK
  obtain ⟨rfl, hZ, hh⟩ := hP
  have hx := Bd.exec
  have hby := Bd.bytes
  have hlk : meth.locks = false := BodyLoose.notSynchronized Bd
  have hml : c.maxLocals = 1 := hml0
  have hown : s.vm.findClass "com/example/kempt_cursor/kemptcursor/ByteKey" = some m.cls := findClass_of_methodNamed Bd.named
  have hnm := (name_of_methodNamed Bd.named Bd.method).1
  have X0 : Stand p l e ({ frames := 2, cells := 2, slots := 3, locals := 26 } : Room) s m #[(.ref a1)] below meth c s₁ [] 0 0 := Stand.of_body Bd
  have e0 : s₁.heap = h0 := by rw [← hh, Bd.state]; rfl
  have N0 := Fr.nil n0
  show own_Go p e below s (Q_of2 Z y0 y1 h0 n0) ({ frames := 2, cells := 2, slots := 3, locals := 26 } : Room).cells ({ frames := 2, cells := 2, slots := 3, locals := 26 } : Room).slots s₁ (entryFrame m #[(.ref a1)] 1)
  refine own_cast (g' := (mkF m 0 #[.val (.ref a1)] [])) (ef_rm_of2 m a1) ?_
  have K0 : Keep h0 h0 [] := Keep.refl _ _
  obtain ⟨T1, h1, X1, e1, E1, A1, D1, -, st1⟩ := newO X0 hx hZ hown (hw _ (List.mem_of_getElem? (i := 9) rfl)) (hw _ (List.mem_of_getElem? (i := 10) rfl)) (hw _ (List.mem_of_getElem? (i := 7) rfl)) e0 (g := (mkF m 0 #[.val (.ref a1)] [])) rfl (hb hby d2_0) (by decide : 0 + 1 ≤ _) (by decide : 0 + 1 ≤ _)
  obtain ⟨ad1, g_ad1⟩ : ∃ z, z = h0.size := ⟨_, rfl⟩
  rw [← g_ad1] at A1 D1 st1
  have g2 : Arv Z h1 a1 ka .byte (2 : Int32) [(.int y0), (.int y1)] (.int (0 : Int32)) := V_a.ext E1
  have g3 : Exa Z h1 a1 "[B" := E_a.ext E1
  have ne1_1 : a1 ≠ ad1 := Nat.ne_of_lt (by rw [g_ad1]; exact V_a.lt)
  have o1 : n0 ≤ ad1 := (Nat.le_trans Z0 (Nat.le_of_eq g_ad1.symm))
  have Z1 : n0 ≤ h1.size := (Nat.le_trans Z0 E1.1)
  have f1 : h0.size ≤ ad1 := by rw [g_ad1]; exact K0.1
  have K4 : Keep h0 h1 [] := K0.ext E1
  have g5 : Fld Z h1 ad1 "com/example/kempt_cursor/kemptcursor/ByteKey" "bytes" "[B" .null := D1 (Or.inr (hw _ (List.mem_of_getElem? (i := 27) rfl))) (ty := .array .byte) (by decide)
  refine own_step (T' := T1) (g' := (mkF m 3 #[.val (.ref a1)] [(.ref ad1)])) st1 ?_
  refine own_step (T' := T1) (g' := (mkF m 4 #[.val (.ref a1)] [(.ref ad1), (.ref ad1)])) (fun t k => XS.dup X1.here hx rfl (hb hby d2_3) rfl rfl k) ?_
  refine own_step (T' := T1) (g' := (mkF m 5 #[.val (.ref a1)] [(.ref a1), (.ref ad1), (.ref ad1)])) (fun t k => XS.aloadN X1.here hx rfl (hb hby d2_4) rfl rfl k) ?_
  obtain ⟨T6, h6, X6, e6, E6, A6, B6, st6⟩ := cloneH X1 hx hZ hown (hw _ (List.mem_of_getElem? (i := 11) rfl)) (hw _ (List.mem_of_getElem? (i := 12) rfl)) (hw _ (List.mem_of_getElem? (i := 16) rfl)) (hw _ (List.mem_of_getElem? (i := 14) rfl)) (hw _ (List.mem_of_getElem? (i := 15) rfl)) (hw _ (List.mem_of_getElem? (i := 17) rfl)) e1 g2.arh g3 (g := (mkF m 5 #[.val (.ref a1)] [(.ref a1), (.ref ad1), (.ref ad1)])) rfl (by rw [hml]; rfl) rfl (hb hby d2_5) (by decide) (W := 2) (by show 2 * 0 + _ ≤ _; exact Nat.le_of_eq rfl) (by decide) (cap := 2) (by decide) (by decide : 1 + 1 ≤ _) (by decide : 1 + 2 ≤ _)
  obtain ⟨ad6, g_ad6⟩ : ∃ z, z = h1.size := ⟨_, rfl⟩
  rw [← g_ad6] at A6 B6 st6
  have g7 : Arv Z h6 a1 ka .byte (2 : Int32) [(.int y0), (.int y1)] (.int (0 : Int32)) := g2.ext E6
  have g8 : Exa Z h6 a1 "[B" := g3.ext E6
  have g9 : Exa Z h6 ad1 "com/example/kempt_cursor/kemptcursor/ByteKey" := A1.ext E6
  have g10 : Fld Z h6 ad1 "com/example/kempt_cursor/kemptcursor/ByteKey" "bytes" "[B" .null := g5.ext E6
  have ne6_1 : a1 ≠ ad6 := Nat.ne_of_lt (by rw [g_ad6]; exact g2.lt)
  have ne6_2 : ad1 ≠ ad6 := Nat.ne_of_lt (by rw [g_ad6]; exact A1.lt)
  have o6 : n0 ≤ ad6 := (Nat.le_trans Z1 (Nat.le_of_eq g_ad6.symm))
  have Z6 : n0 ≤ h6.size := (Nat.le_trans Z1 E6.1)
  have f6 : h0.size ≤ ad6 := by rw [g_ad6]; exact K4.1
  have K11 : Keep h0 h6 [] := K4.ext E6
  have V6 : Arv Z h6 ad6 ka .byte (2 : Int32) [(.int y0), (.int y1)] (.int (0 : Int32)) := A6
  refine own_step (T' := T6) (g' := (mkF m 8 #[.val (.ref a1)] [(.ref ad6), (.ref ad1), (.ref ad1)])) st6 ?_
  obtain ⟨T12, X12, e12, st12⟩ := castY X6 hx hZ hown (hw _ (List.mem_of_getElem? (i := 18) rfl)) e6 (Ins.self B6) (g := (mkF m 8 #[.val (.ref a1)] [(.ref ad6), (.ref ad1), (.ref ad1)])) rfl rfl (hb hby d2_8)
  refine own_step (T' := T12) (g' := (mkF m 11 #[.val (.ref a1)] [(.ref ad6), (.ref ad1), (.ref ad1)])) st12 ?_
  obtain ⟨_, _, ⟨T16, L16, k16, n16⟩, -, X16, ⟨Lc16, hQ16, lq16, yq16, zq16⟩, st16⟩ := X12.specialBack hx (y := (⟨"com/example/kempt_cursor/kemptcursor/ByteKey", "<init>", "([B)V"⟩ : MethodName)) rfl hown (mvT hZ (hw _ (List.mem_of_getElem? (i := 20) rfl))) (mvT hZ (hw _ (List.mem_of_getElem? (i := 21) rfl))) (mvT hZ (hw _ (List.mem_of_getElem? (i := 22) rfl))) (by decide) (backOf (W := 1) (rm_init l Z a0 hw [] ad1 ad6 _ h6 n0 Z6 g9 g10 o1) hZ (hw _ (List.mem_of_getElem? (i := 22) rfl)) (hw _ (List.mem_of_getElem? (i := 7) rfl)) (by decide) (by decide)) (g := (mkF m 11 #[.val (.ref a1)] [(.ref ad6), (.ref ad1), (.ref ad1)])) rfl (by rw [hml]; rfl) (Steps.refl _) (a := ad1) (argsL := [(.ref ad6)]) (rest := [(.ref ad1)]) (lenOf pd_0 rfl) rfl (by show 2 * 0 + _ ≤ _; exact Nat.le_of_eq rfl) (hb hby d2_11) (fun _ _ => ⟨rfl, e12, (by decide : 2 + 0 ≤ _), (by decide : 3 + 0 ≤ _)⟩)
  dsimp only [Pt.U, Pt.locs, Pt.cells, Pt.slots] at X16 lq16 yq16 zq16 st16 hQ16
  subst lq16 yq16 zq16
  obtain ⟨rfl, Nq16, K13, g14, g15⟩ := hQ16
  have N16 := Fr.app N0 Nq16
  have g17 : Arv Z T16.heap a1 ka .byte (2 : Int32) [(.int y0), (.int y1)] (.int (0 : Int32)) := g7.keep K13 (ninS ne1_1 nin0)
  have g18 : Exa Z T16.heap a1 "[B" := g8.keep K13
  have g19 : Arv Z T16.heap ad6 ka .byte (2 : Int32) [(.int y0), (.int y1)] (.int (0 : Int32)) := V6.keep K13 (ninS (Ne.symm ne6_2) nin0)
  have g20 : Exa Z T16.heap ad6 "[B" := B6.keep K13
  have Z13 : n0 ≤ T16.heap.size := (Nat.le_trans Z6 K13.1)
  have K21 : Keep h0 T16.heap [] := K11.trans K13 (allS (P := fun x => x ∈ [] ∨ h0.size ≤ x) (Or.inr f1) all0)
  refine own_tr (T' := T16) (g' := (mkF m 14 #[.val (.ref a1)] [(.ref ad1)])) st16 ?_
  refine own_rA X16 hx hlk Bd.returns rfl (w := (.ref ad1)) rfl (hb hby d2_14) ?_ (by decide) (by decide)
  exact ⟨ad1, ad6, ka, rfl, N16, K21, f1, f6, ne6_2, g14, g15, g19, g20⟩
def Q_to2 (Z : State) (y0 : Int32) (y1 : Int32) (h0 : Heap) (n0 : Nat) (v : Option Value) (h : Heap) (L : List Loc) : Prop := ∃ (q : Addr) (k : ClassId), v = some (.ref q) ∧ Fr n0 L ∧ Keep h0 h [] ∧ h0.size ≤ q ∧ Arv Z h q k .byte (2 : Int32) [(.int y0), (.int y1)] (.int (0 : Int32))
theorem ef_rm_to2 (m : MethodId) (x0 : Addr) : entryFrame m #[(.ref x0)] 1 = mkF m 0 #[.val (.ref x0)] [] := by first | (simp [entryFrame, mkF, argsToLocals, Value.category]; done) | rfl | (simp [entryFrame, mkF, argsToLocals, Value.category] <;> rfl)
set_option maxRecDepth 65536 in
set_option maxHeartbeats 40000000 in
theorem rm_to2 (l : Launch) (Z : State) (a0 : Array Value) (hw : ∀ d ∈ tables_1, d.before a0 Z = true) (ws : List Jvm.Cond) (a1 : Addr) (a2 : Addr) (y0 : Int32) (y1 : Int32) (ka : ClassId) (h0 : Heap) (n0 : Nat) (Z0 : n0 ≤ h0.size) (F_b : Fld Z h0 a1 "com/example/kempt_cursor/kemptcursor/ByteKey" "bytes" "[B" (.ref a2)) (V_a : Arv Z h0 a2 ka .byte (2 : Int32) [(.int y0), (.int y1)] (.int (0 : Int32))) (E_a : Exa Z h0 a2 "[B") :
    MetFree l (⟨"com/example/kempt_cursor/kemptcursor/ByteKey", "toByteArray", "()[B"⟩ : MethodName) (head1 (Jvm.Cond.code (⟨"com/example/kempt_cursor/kemptcursor/ByteKey", "toByteArray", "()[B"⟩ : MethodName) prog_1_method_3_code 1 (some (.array .byte)) :: ws) ({ frames := 1, cells := 1, slots := 2, locals := 14 } : Room)) (fun a U => a = #[(.ref a1)] ∧ Z.Warmed39 U.vm ∧ U.heap = h0) (fun _ _ _ _ _ => True) (fun _ U o U' => ∃ v L, o = .returned v ∧ (Q_to2 Z y0 y1 h0 n0) v U'.heap L ∧ FrameEnd U o U' L ({ frames := 1, cells := 1, slots := 2, locals := 14 } : Room).cells ({ frames := 1, cells := 1, slots := 2, locals := 14 } : Room).slots) := by
  refine MetFree.of_bodySF (plainFor_of_name pn_1) hisR ?_
  intro p e s m args below meth c s₁ Bd hml0 hP hK
  obtain ⟨rfl, hZ, hh⟩ := hP
  have hx := Bd.exec
  have hby := Bd.bytes
  have hlk : meth.locks = false := BodyLoose.notSynchronized Bd
  have hml : c.maxLocals = 1 := hml0
  have hown : s.vm.findClass "com/example/kempt_cursor/kemptcursor/ByteKey" = some m.cls := findClass_of_methodNamed Bd.named
  have hnm := (name_of_methodNamed Bd.named Bd.method).1
  have X0 : Stand p l e ({ frames := 1, cells := 1, slots := 2, locals := 14 } : Room) s m #[(.ref a1)] below meth c s₁ [] 0 0 := Stand.of_body Bd
  have e0 : s₁.heap = h0 := by rw [← hh, Bd.state]; rfl
  have N0 := Fr.nil n0
  show own_Go p e below s (Q_to2 Z y0 y1 h0 n0) ({ frames := 1, cells := 1, slots := 2, locals := 14 } : Room).cells ({ frames := 1, cells := 1, slots := 2, locals := 14 } : Room).slots s₁ (entryFrame m #[(.ref a1)] 1)
  refine own_cast (g' := (mkF m 0 #[.val (.ref a1)] [])) (ef_rm_to2 m a1) ?_
  have K0 : Keep h0 h0 [] := Keep.refl _ _
  refine own_step (T' := s₁) (g' := (mkF m 1 #[.val (.ref a1)] [(.ref a1)])) (fun t k => XS.aloadN X0.here hx rfl (hb hby d5_0) rfl rfl k) ?_
  obtain ⟨T1, X1, e1, st1⟩ := getF X0 hx hZ hown (host := "") (Or.inl (hw _ (List.mem_of_getElem? (i := 26) rfl))) Via.refl e0 F_b (g := (mkF m 1 #[.val (.ref a1)] [(.ref a1)])) rfl rfl (hb hby d5_1)
  refine own_step (T' := T1) (g' := (mkF m 4 #[.val (.ref a1)] [(.ref a2)])) st1 ?_
  obtain ⟨T2, h2, X2, e2, E2, A2, B2, st2⟩ := cloneH X1 hx hZ hown (hw _ (List.mem_of_getElem? (i := 11) rfl)) (hw _ (List.mem_of_getElem? (i := 12) rfl)) (hw _ (List.mem_of_getElem? (i := 16) rfl)) (hw _ (List.mem_of_getElem? (i := 14) rfl)) (hw _ (List.mem_of_getElem? (i := 15) rfl)) (hw _ (List.mem_of_getElem? (i := 17) rfl)) e1 V_a.arh E_a (g := (mkF m 4 #[.val (.ref a1)] [(.ref a2)])) rfl (by rw [hml]; rfl) rfl (hb hby d5_4) (by decide) (W := 0) (by show 2 * 0 + _ ≤ _; exact Nat.le_of_eq rfl) (by decide) (cap := 2) (by decide) (by decide : 0 + 1 ≤ _) (by decide : 0 + 2 ≤ _)
  obtain ⟨ad2, g_ad2⟩ : ∃ z, z = h0.size := ⟨_, rfl⟩
  rw [← g_ad2] at A2 B2 st2
  have g3 : Fld Z h2 a1 "com/example/kempt_cursor/kemptcursor/ByteKey" "bytes" "[B" (.ref a2) := F_b.ext E2
  have g4 : Arv Z h2 a2 ka .byte (2 : Int32) [(.int y0), (.int y1)] (.int (0 : Int32)) := V_a.ext E2
  have g5 : Exa Z h2 a2 "[B" := E_a.ext E2
  have ne2_1 : a1 ≠ ad2 := Nat.ne_of_lt (by rw [g_ad2]; exact F_b.lt)
  have ne2_2 : a2 ≠ ad2 := Nat.ne_of_lt (by rw [g_ad2]; exact V_a.lt)
  have o2 : n0 ≤ ad2 := (Nat.le_trans Z0 (Nat.le_of_eq g_ad2.symm))
  have Z2 : n0 ≤ h2.size := (Nat.le_trans Z0 E2.1)
  have f2 : h0.size ≤ ad2 := by rw [g_ad2]; exact K0.1
  have K6 : Keep h0 h2 [] := K0.ext E2
  have V2 : Arv Z h2 ad2 ka .byte (2 : Int32) [(.int y0), (.int y1)] (.int (0 : Int32)) := A2
  refine own_step (T' := T2) (g' := (mkF m 7 #[.val (.ref a1)] [(.ref ad2)])) st2 ?_
  obtain ⟨T7, X7, e7, st7⟩ := castY X2 hx hZ hown (hw _ (List.mem_of_getElem? (i := 18) rfl)) e2 (Ins.self B2) (g := (mkF m 7 #[.val (.ref a1)] [(.ref ad2)])) rfl rfl (hb hby d5_7)
  refine own_step (T' := T7) (g' := (mkF m 10 #[.val (.ref a1)] [(.ref ad2)])) st7 ?_
  refine own_rA X7 hx hlk Bd.returns rfl (w := (.ref ad2)) rfl (hb hby d5_10) ?_ (by decide) (by decide)
  rw [e7]
  exact ⟨ad2, ka, rfl, N0, K6, f2, V2⟩
def Q_of3 (Z : State) (y0 : Int32) (y1 : Int32) (y2 : Int32) (h0 : Heap) (n0 : Nat) (v : Option Value) (h : Heap) (L : List Loc) : Prop := ∃ (b q : Addr) (k : ClassId), v = some (.ref b) ∧ Fr n0 L ∧ Keep h0 h [] ∧ h0.size ≤ b ∧ h0.size ≤ q ∧ b ≠ q ∧ Exa Z h b "com/example/kempt_cursor/kemptcursor/ByteKey" ∧ Fld Z h b "com/example/kempt_cursor/kemptcursor/ByteKey" "bytes" "[B" (.ref q) ∧ Arv Z h q k .byte (3 : Int32) [(.int y0), (.int y1), (.int y2)] (.int (0 : Int32)) ∧ Exa Z h q "[B"
theorem ef_rm_of3 (m : MethodId) (x0 : Addr) : entryFrame m #[(.ref x0)] 1 = mkF m 0 #[.val (.ref x0)] [] := by first | (simp [entryFrame, mkF, argsToLocals, Value.category]; done) | rfl | (simp [entryFrame, mkF, argsToLocals, Value.category] <;> rfl)
set_option maxRecDepth 65536 in
set_option maxHeartbeats 40000000 in
theorem rm_of3 (l : Launch) (Z : State) (a0 : Array Value) (hw : ∀ d ∈ tables_1, d.before a0 Z = true) (ws : List Jvm.Cond) (a1 : Addr) (y0 : Int32) (y1 : Int32) (y2 : Int32) (ka : ClassId) (h0 : Heap) (n0 : Nat) (Z0 : n0 ≤ h0.size) (V_a : Arv Z h0 a1 ka .byte (3 : Int32) [(.int y0), (.int y1), (.int y2)] (.int (0 : Int32))) (E_a : Exa Z h0 a1 "[B") :
    MetFree l (⟨"com/example/kempt_cursor/kemptcursor/ByteKey", "of", "([B)Lcom/example/kempt_cursor/kemptcursor/ByteKey;"⟩ : MethodName) (head1 (Jvm.Cond.code (⟨"com/example/kempt_cursor/kemptcursor/ByteKey", "of", "([B)Lcom/example/kempt_cursor/kemptcursor/ByteKey;"⟩ : MethodName) prog_1_method_2_code 1 (some (.object "com/example/kempt_cursor/kemptcursor/ByteKey")) :: ws) ({ frames := 2, cells := 2, slots := 4, locals := 26 } : Room)) (fun a U => a = #[(.ref a1)] ∧ Z.Warmed39 U.vm ∧ U.heap = h0) (fun _ _ _ _ _ => True) (fun _ U o U' => ∃ v L, o = .returned v ∧ (Q_of3 Z y0 y1 y2 h0 n0) v U'.heap L ∧ FrameEnd U o U' L ({ frames := 2, cells := 2, slots := 4, locals := 26 } : Room).cells ({ frames := 2, cells := 2, slots := 4, locals := 26 } : Room).slots) := by
  refine MetFree.of_bodySF (plainFor_of_name pn_1) hisR ?_
  intro p e s m args below meth c s₁ Bd hml0 hP hK
  obtain ⟨rfl, hZ, hh⟩ := hP
  have hx := Bd.exec
  have hby := Bd.bytes
  have hlk : meth.locks = false := BodyLoose.notSynchronized Bd
  have hml : c.maxLocals = 1 := hml0
  have hown : s.vm.findClass "com/example/kempt_cursor/kemptcursor/ByteKey" = some m.cls := findClass_of_methodNamed Bd.named
  have hnm := (name_of_methodNamed Bd.named Bd.method).1
  have X0 : Stand p l e ({ frames := 2, cells := 2, slots := 4, locals := 26 } : Room) s m #[(.ref a1)] below meth c s₁ [] 0 0 := Stand.of_body Bd
  have e0 : s₁.heap = h0 := by rw [← hh, Bd.state]; rfl
  have N0 := Fr.nil n0
  show own_Go p e below s (Q_of3 Z y0 y1 y2 h0 n0) ({ frames := 2, cells := 2, slots := 4, locals := 26 } : Room).cells ({ frames := 2, cells := 2, slots := 4, locals := 26 } : Room).slots s₁ (entryFrame m #[(.ref a1)] 1)
  refine own_cast (g' := (mkF m 0 #[.val (.ref a1)] [])) (ef_rm_of3 m a1) ?_
  have K0 : Keep h0 h0 [] := Keep.refl _ _
  obtain ⟨T1, h1, X1, e1, E1, A1, D1, -, st1⟩ := newO X0 hx hZ hown (hw _ (List.mem_of_getElem? (i := 9) rfl)) (hw _ (List.mem_of_getElem? (i := 10) rfl)) (hw _ (List.mem_of_getElem? (i := 7) rfl)) e0 (g := (mkF m 0 #[.val (.ref a1)] [])) rfl (hb hby d2_0) (by decide : 0 + 1 ≤ _) (by decide : 0 + 1 ≤ _)
  obtain ⟨ad1, g_ad1⟩ : ∃ z, z = h0.size := ⟨_, rfl⟩
  rw [← g_ad1] at A1 D1 st1
  have g2 : Arv Z h1 a1 ka .byte (3 : Int32) [(.int y0), (.int y1), (.int y2)] (.int (0 : Int32)) := V_a.ext E1
  have g3 : Exa Z h1 a1 "[B" := E_a.ext E1
  have ne1_1 : a1 ≠ ad1 := Nat.ne_of_lt (by rw [g_ad1]; exact V_a.lt)
  have o1 : n0 ≤ ad1 := (Nat.le_trans Z0 (Nat.le_of_eq g_ad1.symm))
  have Z1 : n0 ≤ h1.size := (Nat.le_trans Z0 E1.1)
  have f1 : h0.size ≤ ad1 := by rw [g_ad1]; exact K0.1
  have K4 : Keep h0 h1 [] := K0.ext E1
  have g5 : Fld Z h1 ad1 "com/example/kempt_cursor/kemptcursor/ByteKey" "bytes" "[B" .null := D1 (Or.inr (hw _ (List.mem_of_getElem? (i := 27) rfl))) (ty := .array .byte) (by decide)
  refine own_step (T' := T1) (g' := (mkF m 3 #[.val (.ref a1)] [(.ref ad1)])) st1 ?_
  refine own_step (T' := T1) (g' := (mkF m 4 #[.val (.ref a1)] [(.ref ad1), (.ref ad1)])) (fun t k => XS.dup X1.here hx rfl (hb hby d2_3) rfl rfl k) ?_
  refine own_step (T' := T1) (g' := (mkF m 5 #[.val (.ref a1)] [(.ref a1), (.ref ad1), (.ref ad1)])) (fun t k => XS.aloadN X1.here hx rfl (hb hby d2_4) rfl rfl k) ?_
  obtain ⟨T6, h6, X6, e6, E6, A6, B6, st6⟩ := cloneH X1 hx hZ hown (hw _ (List.mem_of_getElem? (i := 11) rfl)) (hw _ (List.mem_of_getElem? (i := 12) rfl)) (hw _ (List.mem_of_getElem? (i := 16) rfl)) (hw _ (List.mem_of_getElem? (i := 14) rfl)) (hw _ (List.mem_of_getElem? (i := 15) rfl)) (hw _ (List.mem_of_getElem? (i := 17) rfl)) e1 g2.arh g3 (g := (mkF m 5 #[.val (.ref a1)] [(.ref a1), (.ref ad1), (.ref ad1)])) rfl (by rw [hml]; rfl) rfl (hb hby d2_5) (by decide) (W := 2) (by show 2 * 0 + _ ≤ _; exact Nat.le_of_eq rfl) (by decide) (cap := 3) (by decide) (by decide : 1 + 1 ≤ _) (by decide : 1 + 3 ≤ _)
  obtain ⟨ad6, g_ad6⟩ : ∃ z, z = h1.size := ⟨_, rfl⟩
  rw [← g_ad6] at A6 B6 st6
  have g7 : Arv Z h6 a1 ka .byte (3 : Int32) [(.int y0), (.int y1), (.int y2)] (.int (0 : Int32)) := g2.ext E6
  have g8 : Exa Z h6 a1 "[B" := g3.ext E6
  have g9 : Exa Z h6 ad1 "com/example/kempt_cursor/kemptcursor/ByteKey" := A1.ext E6
  have g10 : Fld Z h6 ad1 "com/example/kempt_cursor/kemptcursor/ByteKey" "bytes" "[B" .null := g5.ext E6
  have ne6_1 : a1 ≠ ad6 := Nat.ne_of_lt (by rw [g_ad6]; exact g2.lt)
  have ne6_2 : ad1 ≠ ad6 := Nat.ne_of_lt (by rw [g_ad6]; exact A1.lt)
  have o6 : n0 ≤ ad6 := (Nat.le_trans Z1 (Nat.le_of_eq g_ad6.symm))
  have Z6 : n0 ≤ h6.size := (Nat.le_trans Z1 E6.1)
  have f6 : h0.size ≤ ad6 := by rw [g_ad6]; exact K4.1
  have K11 : Keep h0 h6 [] := K4.ext E6
  have V6 : Arv Z h6 ad6 ka .byte (3 : Int32) [(.int y0), (.int y1), (.int y2)] (.int (0 : Int32)) := A6
  refine own_step (T' := T6) (g' := (mkF m 8 #[.val (.ref a1)] [(.ref ad6), (.ref ad1), (.ref ad1)])) st6 ?_
  obtain ⟨T12, X12, e12, st12⟩ := castY X6 hx hZ hown (hw _ (List.mem_of_getElem? (i := 18) rfl)) e6 (Ins.self B6) (g := (mkF m 8 #[.val (.ref a1)] [(.ref ad6), (.ref ad1), (.ref ad1)])) rfl rfl (hb hby d2_8)
  refine own_step (T' := T12) (g' := (mkF m 11 #[.val (.ref a1)] [(.ref ad6), (.ref ad1), (.ref ad1)])) st12 ?_
  obtain ⟨_, _, ⟨T16, L16, k16, n16⟩, -, X16, ⟨Lc16, hQ16, lq16, yq16, zq16⟩, st16⟩ := X12.specialBack hx (y := (⟨"com/example/kempt_cursor/kemptcursor/ByteKey", "<init>", "([B)V"⟩ : MethodName)) rfl hown (mvT hZ (hw _ (List.mem_of_getElem? (i := 20) rfl))) (mvT hZ (hw _ (List.mem_of_getElem? (i := 21) rfl))) (mvT hZ (hw _ (List.mem_of_getElem? (i := 22) rfl))) (by decide) (backOf (W := 1) (rm_init l Z a0 hw [] ad1 ad6 _ h6 n0 Z6 g9 g10 o1) hZ (hw _ (List.mem_of_getElem? (i := 22) rfl)) (hw _ (List.mem_of_getElem? (i := 7) rfl)) (by decide) (by decide)) (g := (mkF m 11 #[.val (.ref a1)] [(.ref ad6), (.ref ad1), (.ref ad1)])) rfl (by rw [hml]; rfl) (Steps.refl _) (a := ad1) (argsL := [(.ref ad6)]) (rest := [(.ref ad1)]) (lenOf pd_0 rfl) rfl (by show 2 * 0 + _ ≤ _; exact Nat.le_of_eq rfl) (hb hby d2_11) (fun _ _ => ⟨rfl, e12, (by decide : 2 + 0 ≤ _), (by decide : 4 + 0 ≤ _)⟩)
  dsimp only [Pt.U, Pt.locs, Pt.cells, Pt.slots] at X16 lq16 yq16 zq16 st16 hQ16
  subst lq16 yq16 zq16
  obtain ⟨rfl, Nq16, K13, g14, g15⟩ := hQ16
  have N16 := Fr.app N0 Nq16
  have g17 : Arv Z T16.heap a1 ka .byte (3 : Int32) [(.int y0), (.int y1), (.int y2)] (.int (0 : Int32)) := g7.keep K13 (ninS ne1_1 nin0)
  have g18 : Exa Z T16.heap a1 "[B" := g8.keep K13
  have g19 : Arv Z T16.heap ad6 ka .byte (3 : Int32) [(.int y0), (.int y1), (.int y2)] (.int (0 : Int32)) := V6.keep K13 (ninS (Ne.symm ne6_2) nin0)
  have g20 : Exa Z T16.heap ad6 "[B" := B6.keep K13
  have Z13 : n0 ≤ T16.heap.size := (Nat.le_trans Z6 K13.1)
  have K21 : Keep h0 T16.heap [] := K11.trans K13 (allS (P := fun x => x ∈ [] ∨ h0.size ≤ x) (Or.inr f1) all0)
  refine own_tr (T' := T16) (g' := (mkF m 14 #[.val (.ref a1)] [(.ref ad1)])) st16 ?_
  refine own_rA X16 hx hlk Bd.returns rfl (w := (.ref ad1)) rfl (hb hby d2_14) ?_ (by decide) (by decide)
  exact ⟨ad1, ad6, ka, rfl, N16, K21, f1, f6, ne6_2, g14, g15, g19, g20⟩
def Q_to3 (Z : State) (y0 : Int32) (y1 : Int32) (y2 : Int32) (h0 : Heap) (n0 : Nat) (v : Option Value) (h : Heap) (L : List Loc) : Prop := ∃ (q : Addr) (k : ClassId), v = some (.ref q) ∧ Fr n0 L ∧ Keep h0 h [] ∧ h0.size ≤ q ∧ Arv Z h q k .byte (3 : Int32) [(.int y0), (.int y1), (.int y2)] (.int (0 : Int32))
theorem ef_rm_to3 (m : MethodId) (x0 : Addr) : entryFrame m #[(.ref x0)] 1 = mkF m 0 #[.val (.ref x0)] [] := by first | (simp [entryFrame, mkF, argsToLocals, Value.category]; done) | rfl | (simp [entryFrame, mkF, argsToLocals, Value.category] <;> rfl)
set_option maxRecDepth 65536 in
set_option maxHeartbeats 40000000 in
theorem rm_to3 (l : Launch) (Z : State) (a0 : Array Value) (hw : ∀ d ∈ tables_1, d.before a0 Z = true) (ws : List Jvm.Cond) (a1 : Addr) (a2 : Addr) (y0 : Int32) (y1 : Int32) (y2 : Int32) (ka : ClassId) (h0 : Heap) (n0 : Nat) (Z0 : n0 ≤ h0.size) (F_b : Fld Z h0 a1 "com/example/kempt_cursor/kemptcursor/ByteKey" "bytes" "[B" (.ref a2)) (V_a : Arv Z h0 a2 ka .byte (3 : Int32) [(.int y0), (.int y1), (.int y2)] (.int (0 : Int32))) (E_a : Exa Z h0 a2 "[B") :
    MetFree l (⟨"com/example/kempt_cursor/kemptcursor/ByteKey", "toByteArray", "()[B"⟩ : MethodName) (head1 (Jvm.Cond.code (⟨"com/example/kempt_cursor/kemptcursor/ByteKey", "toByteArray", "()[B"⟩ : MethodName) prog_1_method_3_code 1 (some (.array .byte)) :: ws) ({ frames := 1, cells := 1, slots := 3, locals := 14 } : Room)) (fun a U => a = #[(.ref a1)] ∧ Z.Warmed39 U.vm ∧ U.heap = h0) (fun _ _ _ _ _ => True) (fun _ U o U' => ∃ v L, o = .returned v ∧ (Q_to3 Z y0 y1 y2 h0 n0) v U'.heap L ∧ FrameEnd U o U' L ({ frames := 1, cells := 1, slots := 3, locals := 14 } : Room).cells ({ frames := 1, cells := 1, slots := 3, locals := 14 } : Room).slots) := by
  refine MetFree.of_bodySF (plainFor_of_name pn_1) hisR ?_
  intro p e s m args below meth c s₁ Bd hml0 hP hK
  obtain ⟨rfl, hZ, hh⟩ := hP
  have hx := Bd.exec
  have hby := Bd.bytes
  have hlk : meth.locks = false := BodyLoose.notSynchronized Bd
  have hml : c.maxLocals = 1 := hml0
  have hown : s.vm.findClass "com/example/kempt_cursor/kemptcursor/ByteKey" = some m.cls := findClass_of_methodNamed Bd.named
  have hnm := (name_of_methodNamed Bd.named Bd.method).1
  have X0 : Stand p l e ({ frames := 1, cells := 1, slots := 3, locals := 14 } : Room) s m #[(.ref a1)] below meth c s₁ [] 0 0 := Stand.of_body Bd
  have e0 : s₁.heap = h0 := by rw [← hh, Bd.state]; rfl
  have N0 := Fr.nil n0
  show own_Go p e below s (Q_to3 Z y0 y1 y2 h0 n0) ({ frames := 1, cells := 1, slots := 3, locals := 14 } : Room).cells ({ frames := 1, cells := 1, slots := 3, locals := 14 } : Room).slots s₁ (entryFrame m #[(.ref a1)] 1)
  refine own_cast (g' := (mkF m 0 #[.val (.ref a1)] [])) (ef_rm_to3 m a1) ?_
  have K0 : Keep h0 h0 [] := Keep.refl _ _
  refine own_step (T' := s₁) (g' := (mkF m 1 #[.val (.ref a1)] [(.ref a1)])) (fun t k => XS.aloadN X0.here hx rfl (hb hby d5_0) rfl rfl k) ?_
  obtain ⟨T1, X1, e1, st1⟩ := getF X0 hx hZ hown (host := "") (Or.inl (hw _ (List.mem_of_getElem? (i := 26) rfl))) Via.refl e0 F_b (g := (mkF m 1 #[.val (.ref a1)] [(.ref a1)])) rfl rfl (hb hby d5_1)
  refine own_step (T' := T1) (g' := (mkF m 4 #[.val (.ref a1)] [(.ref a2)])) st1 ?_
  obtain ⟨T2, h2, X2, e2, E2, A2, B2, st2⟩ := cloneH X1 hx hZ hown (hw _ (List.mem_of_getElem? (i := 11) rfl)) (hw _ (List.mem_of_getElem? (i := 12) rfl)) (hw _ (List.mem_of_getElem? (i := 16) rfl)) (hw _ (List.mem_of_getElem? (i := 14) rfl)) (hw _ (List.mem_of_getElem? (i := 15) rfl)) (hw _ (List.mem_of_getElem? (i := 17) rfl)) e1 V_a.arh E_a (g := (mkF m 4 #[.val (.ref a1)] [(.ref a2)])) rfl (by rw [hml]; rfl) rfl (hb hby d5_4) (by decide) (W := 0) (by show 2 * 0 + _ ≤ _; exact Nat.le_of_eq rfl) (by decide) (cap := 3) (by decide) (by decide : 0 + 1 ≤ _) (by decide : 0 + 3 ≤ _)
  obtain ⟨ad2, g_ad2⟩ : ∃ z, z = h0.size := ⟨_, rfl⟩
  rw [← g_ad2] at A2 B2 st2
  have g3 : Fld Z h2 a1 "com/example/kempt_cursor/kemptcursor/ByteKey" "bytes" "[B" (.ref a2) := F_b.ext E2
  have g4 : Arv Z h2 a2 ka .byte (3 : Int32) [(.int y0), (.int y1), (.int y2)] (.int (0 : Int32)) := V_a.ext E2
  have g5 : Exa Z h2 a2 "[B" := E_a.ext E2
  have ne2_1 : a1 ≠ ad2 := Nat.ne_of_lt (by rw [g_ad2]; exact F_b.lt)
  have ne2_2 : a2 ≠ ad2 := Nat.ne_of_lt (by rw [g_ad2]; exact V_a.lt)
  have o2 : n0 ≤ ad2 := (Nat.le_trans Z0 (Nat.le_of_eq g_ad2.symm))
  have Z2 : n0 ≤ h2.size := (Nat.le_trans Z0 E2.1)
  have f2 : h0.size ≤ ad2 := by rw [g_ad2]; exact K0.1
  have K6 : Keep h0 h2 [] := K0.ext E2
  have V2 : Arv Z h2 ad2 ka .byte (3 : Int32) [(.int y0), (.int y1), (.int y2)] (.int (0 : Int32)) := A2
  refine own_step (T' := T2) (g' := (mkF m 7 #[.val (.ref a1)] [(.ref ad2)])) st2 ?_
  obtain ⟨T7, X7, e7, st7⟩ := castY X2 hx hZ hown (hw _ (List.mem_of_getElem? (i := 18) rfl)) e2 (Ins.self B2) (g := (mkF m 7 #[.val (.ref a1)] [(.ref ad2)])) rfl rfl (hb hby d5_7)
  refine own_step (T' := T7) (g' := (mkF m 10 #[.val (.ref a1)] [(.ref ad2)])) st7 ?_
  refine own_rA X7 hx hlk Bd.returns rfl (w := (.ref ad2)) rfl (hb hby d5_10) ?_ (by decide) (by decide)
  rw [e7]
  exact ⟨ad2, ka, rfl, N0, K6, f2, V2⟩
theorem own_and3 (x : Int32) : (x &&& (3 : Int32)) = 0 ∨ (x &&& (3 : Int32)) = 1 ∨ (x &&& (3 : Int32)) = 2 ∨ (x &&& (3 : Int32)) = 3 := by
  have h : (x &&& (3 : Int32)).toInt = x.toInt % 2 ^ 2 := Jvm.Kit.i32_mask x 3 (k := 2) (by decide) (by decide)
  simp only [← Int32.toInt_inj, h]
  have z0 : (0 : Int32).toInt = 0 := by decide
  have z1 : (1 : Int32).toInt = 1 := by decide
  have z2 : (2 : Int32).toInt = 2 := by decide
  have z3 : (3 : Int32).toInt = 3 := by decide
  rw [z0, z1, z2, z3]
  omega
theorem own_nb (x : Int32) : nar .byte (x.toInt8.toInt32) = x.toInt8.toInt32 := by
  show (x.toInt8.toInt32).toInt8.toInt32 = x.toInt8.toInt32
  simp
theorem own_remk (x k : Int32) (n : Int) (e : k.toInt = n) (h0 : 0 < n) : ¬ ((x &&& (2147483647 : Int32)) % k) < 0 ∧ ((x &&& (2147483647 : Int32)) % k) < k := by
  have h : (x &&& (2147483647 : Int32)).toInt = x.toInt % 2 ^ 31 := Jvm.Kit.i32_mask x 2147483647 (k := 31) (by decide) (by decide)
  have z0 : (0 : Int32).toInt = 0 := by decide
  have hr : ((x &&& (2147483647 : Int32)) % k).toInt = (x.toInt % 2 ^ 31) % n := by
    rw [Jvm.Kit.i32_rem_nonneg (by rw [h]; omega), h, e]
  rw [Int32.lt_iff_toInt_lt, Int32.lt_iff_toInt_lt, hr, z0, e]
  have a1 := Int.emod_nonneg (x.toInt % 2 ^ 31) (show n ≠ 0 by omega)
  have a2 := Int.emod_lt_of_pos (x.toInt % 2 ^ 31) h0
  omega
theorem own_fitB {v : Value} (h : fits .byte v = true) : ∃ z, v = .int z := by cases v <;> simp_all [fits]
def Q_law (n0 : Nat) (v : Option Value) (h : Heap) (L : List Loc) : Prop := v = some (.int 1) ∧ Fr n0 L
theorem ef_rm_law (m : MethodId) (x0 : Int32) (x1 : Int32) (x2 : Int32) (x3 : Int32) (x4 : Int32) : entryFrame m #[(.int x0), (.int x1), (.int x2), (.int x3), (.int x4)] maxLocals = mkF m 0 #[.val (.int x0), .val (.int x1), .val (.int x2), .val (.int x3), .val (.int x4), .unset, .unset, .unset, .unset, .unset, .unset, .unset, .unset, .unset, .unset] [] := by first | (simp [entryFrame, mkF, argsToLocals, Value.category, maxLocals]; done) | rfl | (simp [entryFrame, mkF, argsToLocals, Value.category, maxLocals] <;> rfl)
theorem pd_1 : parseMethodDescriptor "(IBBB)[B" = some ⟨[.int, .byte, .byte, .byte], some (.array .byte)⟩ := by decide +kernel
theorem pd_2 : parseMethodDescriptor "([B)Lcom/example/kempt_cursor/kemptcursor/ByteKey;" = some ⟨[.array .byte], some (.object "com/example/kempt_cursor/kemptcursor/ByteKey")⟩ := by decide +kernel
theorem pd_3 : parseMethodDescriptor "()[B" = some ⟨[], some (.array .byte)⟩ := by decide +kernel
set_option maxRecDepth 65536 in
set_option maxHeartbeats 40000000 in
theorem rm_law (l : Launch) (Z : State) (a0 : Array Value) (hw : ∀ d ∈ tables_1, d.before a0 Z = true) (ws : List Jvm.Cond) (p0 : Int32) (p1 : Int32) (p2 : Int32) (p3 : Int32) (p4 : Int32) (h0 : Heap) (n0 : Nat) (Z0 : n0 ≤ h0.size)  :
    MetFree l x (head1 (Jvm.Cond.code x code maxLocals ret :: ws) room_1) (fun a U => a = #[(.int p0), (.int p1), (.int p2), (.int p3), (.int p4)] ∧ Z.Warmed39 U.vm ∧ U.heap = h0) (fun _ _ _ _ _ => True) (fun _ U o U' => ∃ v L, o = .returned v ∧ (Q_law n0) v U'.heap L ∧ FrameEnd U o U' L 16 128) := by
  refine MetFree.of_bodySF (plainFor_of_name pn_0) hisR ?_
  intro p e s m args below meth c s₁ Bd hml0 hP hK
  obtain ⟨rfl, hZ, hh⟩ := hP
  have hx := Bd.exec
  have hby := Bd.bytes
  have hlk : meth.locks = false := BodyLoose.notSynchronized Bd
  have hml : c.maxLocals = 15 := hml0
  have hown : s.vm.findClass "com/example/kempt_cursor/kemptcursor/ByteKeyOfPinLaw" = some m.cls := findClass_of_methodNamed Bd.named
  have hnm := (name_of_methodNamed Bd.named Bd.method).1
  have X0 : Stand p l e room_1 s m #[(.int p0), (.int p1), (.int p2), (.int p3), (.int p4)] below meth c s₁ [] 0 0 := Stand.of_body Bd
  have e0 : s₁.heap = h0 := by rw [← hh, Bd.state]; rfl
  have N0 := Fr.nil n0
  show own_Go p e below s (Q_law n0) 16 128 s₁ (entryFrame m #[(.int p0), (.int p1), (.int p2), (.int p3), (.int p4)] maxLocals)
  refine own_cast (g' := (mkF m 0 #[.val (.int p0), .val (.int p1), .val (.int p2), .val (.int p3), .val (.int p4), .unset, .unset, .unset, .unset, .unset, .unset, .unset, .unset, .unset, .unset] [])) (ef_rm_law m p0 p1 p2 p3 p4) ?_
  refine own_step (T' := s₁) (g' := (mkF m 1 #[.val (.int p0), .val (.int p1), .val (.int p2), .val (.int p3), .val (.int p4), .unset, .unset, .unset, .unset, .unset, .unset, .unset, .unset, .unset, .unset] [(.int p0)])) (fun t k => XS.iloadN X0.here hx rfl (hb hby at_0) rfl k) ?_
  refine own_step (T' := s₁) (g' := (mkF m 2 #[.val (.int p0), .val (.int p1), .val (.int p2), .val (.int p3), .val (.int p4), .unset, .unset, .unset, .unset, .unset, .unset, .unset, .unset, .unset, .unset] [(.int (3 : Int32)), (.int p0)])) (fun t k => XS.iconst X0.here hx rfl (hb hby at_1) k) ?_
  refine own_step (T' := s₁) (g' := (mkF m 3 #[.val (.int p0), .val (.int p1), .val (.int p2), .val (.int p3), .val (.int p4), .unset, .unset, .unset, .unset, .unset, .unset, .unset, .unset, .unset, .unset] [(.int (p0 &&& (3 : Int32)))])) (fun t k => XS.iand X0.here hx rfl (hb hby at_2) rfl k) ?_
  generalize hd_nn : (p0 &&& (3 : Int32)) = nn
  refine own_step (T' := s₁) (g' := (mkF m 5 #[.val (.int p0), .val (.int p1), .val (.int p2), .val (.int p3), .val (.int p4), .val (.int nn), .unset, .unset, .unset, .unset, .unset, .unset, .unset, .unset, .unset] [])) (fun t k => XS.istore X0.here hx rfl (hb hby at_3) rfl (l' := #[.val (.int p0), .val (.int p1), .val (.int p2), .val (.int p3), .val (.int p4), .val (.int nn), .unset, .unset, .unset, .unset, .unset, .unset, .unset, .unset, .unset]) rfl k) ?_
  have hnn := own_and3 p0
  rw [hd_nn] at hnn
  clear hd_nn
  rcases hnn with rfl | rfl | rfl | rfl
  · refine own_step (T' := s₁) (g' := (mkF m 6 #[.val (.int p0), .val (.int p1), .val (.int p2), .val (.int p3), .val (.int p4), .val (.int (0 : Int32)), .unset, .unset, .unset, .unset, .unset, .unset, .unset, .unset, .unset] [(.int p1)])) (fun t k => XS.iloadN X0.here hx rfl (hb hby at_5) rfl k) ?_
    refine own_step (T' := s₁) (g' := (mkF m 7 #[.val (.int p0), .val (.int p1), .val (.int p2), .val (.int p3), .val (.int p4), .val (.int (0 : Int32)), .unset, .unset, .unset, .unset, .unset, .unset, .unset, .unset, .unset] [(.int (p1.toInt8.toInt32))])) (fun t k => XS.i2b X0.here hx rfl (hb hby at_6) rfl k) ?_
    generalize hd_b0 : (p1.toInt8.toInt32) = b0
    refine own_step (T' := s₁) (g' := (mkF m 9 #[.val (.int p0), .val (.int p1), .val (.int p2), .val (.int p3), .val (.int p4), .val (.int (0 : Int32)), .val (.int b0), .unset, .unset, .unset, .unset, .unset, .unset, .unset, .unset] [])) (fun t k => XS.istore X0.here hx rfl (hb hby at_7) rfl (l' := #[.val (.int p0), .val (.int p1), .val (.int p2), .val (.int p3), .val (.int p4), .val (.int (0 : Int32)), .val (.int b0), .unset, .unset, .unset, .unset, .unset, .unset, .unset, .unset]) rfl k) ?_
    refine own_step (T' := s₁) (g' := (mkF m 10 #[.val (.int p0), .val (.int p1), .val (.int p2), .val (.int p3), .val (.int p4), .val (.int (0 : Int32)), .val (.int b0), .unset, .unset, .unset, .unset, .unset, .unset, .unset, .unset] [(.int p2)])) (fun t k => XS.iloadN X0.here hx rfl (hb hby at_9) rfl k) ?_
    refine own_step (T' := s₁) (g' := (mkF m 11 #[.val (.int p0), .val (.int p1), .val (.int p2), .val (.int p3), .val (.int p4), .val (.int (0 : Int32)), .val (.int b0), .unset, .unset, .unset, .unset, .unset, .unset, .unset, .unset] [(.int (p2.toInt8.toInt32))])) (fun t k => XS.i2b X0.here hx rfl (hb hby at_10) rfl k) ?_
    generalize hd_b1 : (p2.toInt8.toInt32) = b1
    refine own_step (T' := s₁) (g' := (mkF m 13 #[.val (.int p0), .val (.int p1), .val (.int p2), .val (.int p3), .val (.int p4), .val (.int (0 : Int32)), .val (.int b0), .val (.int b1), .unset, .unset, .unset, .unset, .unset, .unset, .unset] [])) (fun t k => XS.istore X0.here hx rfl (hb hby at_11) rfl (l' := #[.val (.int p0), .val (.int p1), .val (.int p2), .val (.int p3), .val (.int p4), .val (.int (0 : Int32)), .val (.int b0), .val (.int b1), .unset, .unset, .unset, .unset, .unset, .unset, .unset]) rfl k) ?_
    refine own_step (T' := s₁) (g' := (mkF m 14 #[.val (.int p0), .val (.int p1), .val (.int p2), .val (.int p3), .val (.int p4), .val (.int (0 : Int32)), .val (.int b0), .val (.int b1), .unset, .unset, .unset, .unset, .unset, .unset, .unset] [(.int p3)])) (fun t k => XS.iloadN X0.here hx rfl (hb hby at_13) rfl k) ?_
    refine own_step (T' := s₁) (g' := (mkF m 15 #[.val (.int p0), .val (.int p1), .val (.int p2), .val (.int p3), .val (.int p4), .val (.int (0 : Int32)), .val (.int b0), .val (.int b1), .unset, .unset, .unset, .unset, .unset, .unset, .unset] [(.int (p3.toInt8.toInt32))])) (fun t k => XS.i2b X0.here hx rfl (hb hby at_14) rfl k) ?_
    generalize hd_b2 : (p3.toInt8.toInt32) = b2
    refine own_step (T' := s₁) (g' := (mkF m 17 #[.val (.int p0), .val (.int p1), .val (.int p2), .val (.int p3), .val (.int p4), .val (.int (0 : Int32)), .val (.int b0), .val (.int b1), .val (.int b2), .unset, .unset, .unset, .unset, .unset, .unset] [])) (fun t k => XS.istore X0.here hx rfl (hb hby at_15) rfl (l' := #[.val (.int p0), .val (.int p1), .val (.int p2), .val (.int p3), .val (.int p4), .val (.int (0 : Int32)), .val (.int b0), .val (.int b1), .val (.int b2), .unset, .unset, .unset, .unset, .unset, .unset]) rfl k) ?_
    refine own_step (T' := s₁) (g' := (mkF m 19 #[.val (.int p0), .val (.int p1), .val (.int p2), .val (.int p3), .val (.int p4), .val (.int (0 : Int32)), .val (.int b0), .val (.int b1), .val (.int b2), .unset, .unset, .unset, .unset, .unset, .unset] [(.int (0 : Int32))])) (fun t k => XS.iload X0.here hx rfl (hb hby at_17) rfl k) ?_
    refine own_step (T' := s₁) (g' := (mkF m 21 #[.val (.int p0), .val (.int p1), .val (.int p2), .val (.int p3), .val (.int p4), .val (.int (0 : Int32)), .val (.int b0), .val (.int b1), .val (.int b2), .unset, .unset, .unset, .unset, .unset, .unset] [(.int b0), (.int (0 : Int32))])) (fun t k => XS.iload X0.here hx rfl (hb hby at_19) rfl k) ?_
    refine own_step (T' := s₁) (g' := (mkF m 23 #[.val (.int p0), .val (.int p1), .val (.int p2), .val (.int p3), .val (.int p4), .val (.int (0 : Int32)), .val (.int b0), .val (.int b1), .val (.int b2), .unset, .unset, .unset, .unset, .unset, .unset] [(.int b1), (.int b0), (.int (0 : Int32))])) (fun t k => XS.iload X0.here hx rfl (hb hby at_21) rfl k) ?_
    refine own_step (T' := s₁) (g' := (mkF m 25 #[.val (.int p0), .val (.int p1), .val (.int p2), .val (.int p3), .val (.int p4), .val (.int (0 : Int32)), .val (.int b0), .val (.int b1), .val (.int b2), .unset, .unset, .unset, .unset, .unset, .unset] [(.int b2), (.int b1), (.int b0), (.int (0 : Int32))])) (fun t k => XS.iload X0.here hx rfl (hb hby at_23) rfl k) ?_
    obtain ⟨_, _, ⟨T5, L5, k5, n5⟩, -, X5, ⟨Lc5, hQ5, lq5, yq5, zq5⟩, st5⟩ := Jvm.LawKit.callS X0 hx (y := (⟨"com/example/kempt_cursor/kemptcursor/ByteKeyOfPinLaw", "make", "(IBBB)[B"⟩ : MethodName)) hown (mvT hZ (hw _ (List.mem_of_getElem? (i := 0) rfl))) (mvT hZ (hw _ (List.mem_of_getElem? (i := 1) rfl))) (mvT hZ (hw _ (List.mem_of_getElem? (i := 2) rfl))) (mvT hZ (hw _ (List.mem_of_getElem? (i := 3) rfl))) (by decide) (backOf (W := 0) (rm_make0 l Z a0 hw [] b0 b1 b2 h0 n0 Z0 ) hZ (hw _ (List.mem_of_getElem? (i := 3) rfl)) (hw _ (List.mem_of_getElem? (i := 2) rfl)) (by decide) (by decide)) (g := (mkF m 25 #[.val (.int p0), .val (.int p1), .val (.int p2), .val (.int p3), .val (.int p4), .val (.int (0 : Int32)), .val (.int b0), .val (.int b1), .val (.int b2), .unset, .unset, .unset, .unset, .unset, .unset] [(.int b2), (.int b1), (.int b0), (.int (0 : Int32))])) rfl (by rw [hml]; rfl) (argsL := [(.int (0 : Int32)), (.int b0), (.int b1), (.int b2)]) (rest := []) (lenOf pd_1 rfl) rfl (by show 2 * 0 + _ ≤ _; exact Nat.le_of_eq rfl) (hb hby at_25) (fun _ _ => ⟨rfl, e0, (by decide : 0 + 1 ≤ _), (by decide : 0 + 0 ≤ _)⟩)
    dsimp only [Pt.U, Pt.locs, Pt.cells, Pt.slots] at X5 lq5 yq5 zq5 st5 hQ5
    subst lq5 yq5 zq5
    obtain ⟨a1, k1, rfl, Nq5, K2, fz_a1, g3, g4⟩ := hQ5
    have N5 := Fr.app N0 Nq5
    have oz_a1 : n0 ≤ a1 := Nat.le_trans Z0 fz_a1
    have Z2 : n0 ≤ T5.heap.size := (Nat.le_trans Z0 K2.1)
    refine own_step (T' := T5) (g' := (mkF m 28 #[.val (.int p0), .val (.int p1), .val (.int p2), .val (.int p3), .val (.int p4), .val (.int (0 : Int32)), .val (.int b0), .val (.int b1), .val (.int b2), .unset, .unset, .unset, .unset, .unset, .unset] [(.ref a1)])) st5 ?_
    refine own_step (T' := T5) (g' := (mkF m 30 #[.val (.int p0), .val (.int p1), .val (.int p2), .val (.int p3), .val (.int p4), .val (.int (0 : Int32)), .val (.int b0), .val (.int b1), .val (.int b2), .val (.ref a1), .unset, .unset, .unset, .unset, .unset] [])) (fun t k => XS.astore X5.here hx rfl (hb hby at_28) rfl rfl (l' := #[.val (.int p0), .val (.int p1), .val (.int p2), .val (.int p3), .val (.int p4), .val (.int (0 : Int32)), .val (.int b0), .val (.int b1), .val (.int b2), .val (.ref a1), .unset, .unset, .unset, .unset, .unset]) rfl k) ?_
    refine own_step (T' := T5) (g' := (mkF m 32 #[.val (.int p0), .val (.int p1), .val (.int p2), .val (.int p3), .val (.int p4), .val (.int (0 : Int32)), .val (.int b0), .val (.int b1), .val (.int b2), .val (.ref a1), .unset, .unset, .unset, .unset, .unset] [(.ref a1)])) (fun t k => XS.aload X5.here hx rfl (hb hby at_30) rfl rfl k) ?_
    obtain ⟨_, _, ⟨T12, L12, k12, n12⟩, -, X12, ⟨Lc12, hQ12, lq12, yq12, zq12⟩, st12⟩ := Jvm.LawKit.callS X5 hx (y := (⟨"com/example/kempt_cursor/kemptcursor/ByteKey", "of", "([B)Lcom/example/kempt_cursor/kemptcursor/ByteKey;"⟩ : MethodName)) hown (mvT hZ (hw _ (List.mem_of_getElem? (i := 5) rfl))) (mvT hZ (hw _ (List.mem_of_getElem? (i := 6) rfl))) (mvT hZ (hw _ (List.mem_of_getElem? (i := 7) rfl))) (mvT hZ (hw _ (List.mem_of_getElem? (i := 8) rfl))) (by decide) (backOf (W := 0) (rm_of0 l Z a0 hw [] a1 k1 T5.heap n0 Z2 g3 g4) hZ (hw _ (List.mem_of_getElem? (i := 8) rfl)) (hw _ (List.mem_of_getElem? (i := 7) rfl)) (by decide) (by decide)) (g := (mkF m 32 #[.val (.int p0), .val (.int p1), .val (.int p2), .val (.int p3), .val (.int p4), .val (.int (0 : Int32)), .val (.int b0), .val (.int b1), .val (.int b2), .val (.ref a1), .unset, .unset, .unset, .unset, .unset] [(.ref a1)])) rfl (by rw [hml]; rfl) (argsL := [(.ref a1)]) (rest := []) (lenOf pd_2 rfl) rfl (by show 2 * 0 + _ ≤ _; exact Nat.le_of_eq rfl) (hb hby at_32) (fun _ _ => ⟨rfl, rfl, (by decide : 1 + 2 ≤ _), (by decide : 0 + 1 ≤ _)⟩)
    dsimp only [Pt.U, Pt.locs, Pt.cells, Pt.slots] at X12 lq12 yq12 zq12 st12 hQ12
    subst lq12 yq12 zq12
    obtain ⟨a6b, a6q, k6, rfl, Nq12, K7, fz_a6b, fz_a6q, nz_a6b_a6q, g8, g9, g10, g11⟩ := hQ12
    have N12 := Fr.app N5 Nq12
    have oz_a6b : n0 ≤ a6b := Nat.le_trans Z2 fz_a6b
    have nz_a1_a6b : a1 ≠ a6b := Nat.ne_of_lt (Nat.lt_of_lt_of_le g3.lt fz_a6b)
    have oz_a6q : n0 ≤ a6q := Nat.le_trans Z2 fz_a6q
    have nz_a1_a6q : a1 ≠ a6q := Nat.ne_of_lt (Nat.lt_of_lt_of_le g3.lt fz_a6q)
    have g13 : Arv Z T12.heap a1 k1 .byte (0 : Int32) [] (.int (0 : Int32)) := g3.keep K7 nin0
    have g14 : Exa Z T12.heap a1 "[B" := g4.keep K7
    have Z7 : n0 ≤ T12.heap.size := (Nat.le_trans Z2 K7.1)
    refine own_step (T' := T12) (g' := (mkF m 35 #[.val (.int p0), .val (.int p1), .val (.int p2), .val (.int p3), .val (.int p4), .val (.int (0 : Int32)), .val (.int b0), .val (.int b1), .val (.int b2), .val (.ref a1), .unset, .unset, .unset, .unset, .unset] [(.ref a6b)])) st12 ?_
    refine own_step (T' := T12) (g' := (mkF m 37 #[.val (.int p0), .val (.int p1), .val (.int p2), .val (.int p3), .val (.int p4), .val (.int (0 : Int32)), .val (.int b0), .val (.int b1), .val (.int b2), .val (.ref a1), .val (.ref a6b), .unset, .unset, .unset, .unset] [])) (fun t k => XS.astore X12.here hx rfl (hb hby at_35) rfl rfl (l' := #[.val (.int p0), .val (.int p1), .val (.int p2), .val (.int p3), .val (.int p4), .val (.int (0 : Int32)), .val (.int b0), .val (.int b1), .val (.int b2), .val (.ref a1), .val (.ref a6b), .unset, .unset, .unset, .unset]) rfl k) ?_
    refine own_step (T' := T12) (g' := (mkF m 39 #[.val (.int p0), .val (.int p1), .val (.int p2), .val (.int p3), .val (.int p4), .val (.int (0 : Int32)), .val (.int b0), .val (.int b1), .val (.int b2), .val (.ref a1), .val (.ref a6b), .unset, .unset, .unset, .unset] [(.int (0 : Int32))])) (fun t k => XS.iload X12.here hx rfl (hb hby at_37) rfl k) ?_
    refine own_step (T' := T12) (g' := (mkF m 65 #[.val (.int p0), .val (.int p1), .val (.int p2), .val (.int p3), .val (.int p4), .val (.int (0 : Int32)), .val (.int b0), .val (.int b1), .val (.int b2), .val (.ref a1), .val (.ref a6b), .unset, .unset, .unset, .unset] [])) (fun t k => XS.ifYes X12.here hx rfl (pc0 := 39) (pc' := 65) rfl (hb hby at_39) rfl ((if0 _ _).trans (flt (by decide : ¬ ((0 : Int32) < (0 : Int32)))).2.2.2) (by decide) (by decide) k) ?_
    refine own_step (T' := T12) (g' := (mkF m 67 #[.val (.int p0), .val (.int p1), .val (.int p2), .val (.int p3), .val (.int p4), .val (.int (0 : Int32)), .val (.int b0), .val (.int b1), .val (.int b2), .val (.ref a1), .val (.ref a6b), .unset, .unset, .unset, .unset] [(.ref a6b)])) (fun t k => XS.aload X12.here hx rfl (hb hby at_65) rfl rfl k) ?_
    obtain ⟨cq19, kq19, q19a, q19b, q19c⟩ := isOf hZ rfl g8
    obtain ⟨_, _, ⟨T18, L18, k18, n18⟩, -, X18, ⟨Lc18, hQ18, lq18, yq18, zq18⟩, st18⟩ := X12.virtualBack hx (y := (⟨"com/example/kempt_cursor/kemptcursor/ByteKey", "toByteArray", "()[B"⟩ : MethodName)) (z := (⟨"com/example/kempt_cursor/kemptcursor/ByteKey", "toByteArray", "()[B"⟩ : MethodName)) hown (mvT hZ (hw _ (List.mem_of_getElem? (i := 28) rfl))) (mvT hZ (hw _ (List.mem_of_getElem? (i := 29) rfl))) (notFace_of_selects (args := #[]) (mvT hZ (hw _ (List.mem_of_getElem? (i := 31) rfl)))) (mvT hZ (hw _ (List.mem_of_getElem? (i := 31) rfl))) (mvT hZ (hw _ (List.mem_of_getElem? (i := 30) rfl))) (by decide) (backOf (W := 0) (rm_to0 l Z a0 hw [] a6b a6q k6 T12.heap n0 Z7 g9 g10 g11) hZ (hw _ (List.mem_of_getElem? (i := 32) rfl)) (hw _ (List.mem_of_getElem? (i := 7) rfl)) (by decide) (by decide)) q19a q19c (g := (mkF m 67 #[.val (.int p0), .val (.int p1), .val (.int p2), .val (.int p3), .val (.int p4), .val (.int (0 : Int32)), .val (.int b0), .val (.int b1), .val (.int b2), .val (.ref a1), .val (.ref a6b), .unset, .unset, .unset, .unset] [(.ref a6b)])) rfl (by rw [hml]; rfl) (Steps.refl _) (argsL := []) (rest := []) (lenOf pd_3 rfl) rfl (by show 2 * 0 + _ ≤ _; exact Nat.le_of_eq rfl) (hb hby at_67) (fun _ _ => ⟨rfl, rfl, (by decide : 3 + 1 ≤ _), (by decide : 1 + 0 ≤ _)⟩)
    dsimp only [Pt.U, Pt.locs, Pt.cells, Pt.slots] at X18 lq18 yq18 zq18 st18 hQ18
    subst lq18 yq18 zq18
    obtain ⟨a15, k15, rfl, Nq18, K16, fz_a15, g17⟩ := hQ18
    have N18 := Fr.app N12 Nq18
    have oz_a15 : n0 ≤ a15 := Nat.le_trans Z7 fz_a15
    have nz_a1_a15 : a1 ≠ a15 := Nat.ne_of_lt (Nat.lt_of_lt_of_le g13.lt fz_a15)
    have nz_a6b_a15 : a6b ≠ a15 := Nat.ne_of_lt (Nat.lt_of_lt_of_le g8.lt fz_a15)
    have nz_a6q_a15 : a6q ≠ a15 := Nat.ne_of_lt (Nat.lt_of_lt_of_le g10.lt fz_a15)
    have g20 : Arv Z T18.heap a1 k1 .byte (0 : Int32) [] (.int (0 : Int32)) := g13.keep K16 nin0
    have g21 : Exa Z T18.heap a1 "[B" := g14.keep K16
    have g22 : Exa Z T18.heap a6b "com/example/kempt_cursor/kemptcursor/ByteKey" := g8.keep K16
    have g23 : Fld Z T18.heap a6b "com/example/kempt_cursor/kemptcursor/ByteKey" "bytes" "[B" (.ref a6q) := g9.keep K16 nin0
    have g24 : Arv Z T18.heap a6q k6 .byte (0 : Int32) [] (.int (0 : Int32)) := g10.keep K16 nin0
    have g25 : Exa Z T18.heap a6q "[B" := g11.keep K16
    have Z16 : n0 ≤ T18.heap.size := (Nat.le_trans Z7 K16.1)
    refine own_tr (T' := T18) (g' := (mkF m 70 #[.val (.int p0), .val (.int p1), .val (.int p2), .val (.int p3), .val (.int p4), .val (.int (0 : Int32)), .val (.int b0), .val (.int b1), .val (.int b2), .val (.ref a1), .val (.ref a6b), .unset, .unset, .unset, .unset] [(.ref a15)])) st18 ?_
    refine own_step (T' := T18) (g' := (mkF m 72 #[.val (.int p0), .val (.int p1), .val (.int p2), .val (.int p3), .val (.int p4), .val (.int (0 : Int32)), .val (.int b0), .val (.int b1), .val (.int b2), .val (.ref a1), .val (.ref a6b), .val (.ref a15), .unset, .unset, .unset] [])) (fun t k => XS.astore X18.here hx rfl (hb hby at_70) rfl rfl (l' := #[.val (.int p0), .val (.int p1), .val (.int p2), .val (.int p3), .val (.int p4), .val (.int (0 : Int32)), .val (.int b0), .val (.int b1), .val (.int b2), .val (.ref a1), .val (.ref a6b), .val (.ref a15), .unset, .unset, .unset]) rfl k) ?_
    refine own_step (T' := T18) (g' := (mkF m 74 #[.val (.int p0), .val (.int p1), .val (.int p2), .val (.int p3), .val (.int p4), .val (.int (0 : Int32)), .val (.int b0), .val (.int b1), .val (.int b2), .val (.ref a1), .val (.ref a6b), .val (.ref a15), .unset, .unset, .unset] [(.ref a15)])) (fun t k => XS.aload X18.here hx rfl (hb hby at_72) rfl rfl k) ?_
    refine own_step (T' := T18) (g' := (mkF m 77 #[.val (.int p0), .val (.int p1), .val (.int p2), .val (.int p3), .val (.int p4), .val (.int (0 : Int32)), .val (.int b0), .val (.int b1), .val (.int b2), .val (.ref a1), .val (.ref a6b), .val (.ref a15), .unset, .unset, .unset] [])) (fun t k => XS.ifnullNo X18.here hx rfl (hb hby at_74) rfl k) ?_
    refine own_step (T' := T18) (g' := (mkF m 79 #[.val (.int p0), .val (.int p1), .val (.int p2), .val (.int p3), .val (.int p4), .val (.int (0 : Int32)), .val (.int b0), .val (.int b1), .val (.int b2), .val (.ref a1), .val (.ref a6b), .val (.ref a15), .unset, .unset, .unset] [(.ref a15)])) (fun t k => XS.aload X18.here hx rfl (hb hby at_77) rfl rfl k) ?_
    obtain ⟨cl26, Ar26, qa26, S26, M26, H26, U26⟩ := id g17
    have ln26 := len_of S26 M26
    refine own_step (T' := T18) (g' := (mkF m 80 #[.val (.int p0), .val (.int p1), .val (.int p2), .val (.int p3), .val (.int p4), .val (.int (0 : Int32)), .val (.int b0), .val (.int b1), .val (.int b2), .val (.ref a1), .val (.ref a6b), .val (.ref a15), .unset, .unset, .unset] [(.int (0 : Int32))])) (fun t k => X18.arraylength hx (cell := cl26) Ar26.1 (State.isArrayOf_alike hZ.alike Ar26.2.1) (g := (mkF m 79 #[.val (.int p0), .val (.int p1), .val (.int p2), .val (.int p3), .val (.int p4), .val (.int (0 : Int32)), .val (.int b0), .val (.int b1), .val (.int b2), .val (.ref a1), .val (.ref a6b), .val (.ref a15), .unset, .unset, .unset] [(.ref a15)])) rfl rfl (hb hby at_79) t (by rw [ln26]; exact k)) ?_
    refine own_step (T' := T18) (g' := (mkF m 82 #[.val (.int p0), .val (.int p1), .val (.int p2), .val (.int p3), .val (.int p4), .val (.int (0 : Int32)), .val (.int b0), .val (.int b1), .val (.int b2), .val (.ref a1), .val (.ref a6b), .val (.ref a15), .unset, .unset, .unset] [(.int (0 : Int32)), (.int (0 : Int32))])) (fun t k => XS.iload X18.here hx rfl (hb hby at_80) rfl k) ?_
    refine own_step (T' := T18) (g' := (mkF m 87 #[.val (.int p0), .val (.int p1), .val (.int p2), .val (.int p3), .val (.int p4), .val (.int (0 : Int32)), .val (.int b0), .val (.int b1), .val (.int b2), .val (.ref a1), .val (.ref a6b), .val (.ref a15), .unset, .unset, .unset] [])) (fun t k => XS.icmpYes X18.here hx rfl (pc0 := 82) (pc' := 87) rfl (hb hby at_82) rfl (teq (by decide : ((0 : Int32) = (0 : Int32)))).1 (by decide) (by decide) k) ?_
    refine own_step (T' := T18) (g' := (mkF m 89 #[.val (.int p0), .val (.int p1), .val (.int p2), .val (.int p3), .val (.int p4), .val (.int (0 : Int32)), .val (.int b0), .val (.int b1), .val (.int b2), .val (.ref a1), .val (.ref a6b), .val (.ref a15), .unset, .unset, .unset] [(.int (0 : Int32))])) (fun t k => XS.iload X18.here hx rfl (hb hby at_87) rfl k) ?_
    refine own_step (T' := T18) (g' := (mkF m 90 #[.val (.int p0), .val (.int p1), .val (.int p2), .val (.int p3), .val (.int p4), .val (.int (0 : Int32)), .val (.int b0), .val (.int b1), .val (.int b2), .val (.ref a1), .val (.ref a6b), .val (.ref a15), .unset, .unset, .unset] [(.int (1 : Int32)), (.int (0 : Int32))])) (fun t k => XS.iconst X18.here hx rfl (hb hby at_89) k) ?_
    refine own_step (T' := T18) (g' := (mkF m 102 #[.val (.int p0), .val (.int p1), .val (.int p2), .val (.int p3), .val (.int p4), .val (.int (0 : Int32)), .val (.int b0), .val (.int b1), .val (.int b2), .val (.ref a1), .val (.ref a6b), .val (.ref a15), .unset, .unset, .unset] [])) (fun t k => XS.icmpYes X18.here hx rfl (pc0 := 90) (pc' := 102) rfl (hb hby at_90) rfl (tlt (by decide : ((0 : Int32) < (1 : Int32)))).1 (by decide) (by decide) k) ?_
    refine own_step (T' := T18) (g' := (mkF m 103 #[.val (.int p0), .val (.int p1), .val (.int p2), .val (.int p3), .val (.int p4), .val (.int (0 : Int32)), .val (.int b0), .val (.int b1), .val (.int b2), .val (.ref a1), .val (.ref a6b), .val (.ref a15), .unset, .unset, .unset] [(.int (1 : Int32))])) (fun t k => XS.iconst X18.here hx rfl (hb hby at_102) k) ?_
    refine own_step (T' := T18) (g' := (mkF m 107 #[.val (.int p0), .val (.int p1), .val (.int p2), .val (.int p3), .val (.int p4), .val (.int (0 : Int32)), .val (.int b0), .val (.int b1), .val (.int b2), .val (.ref a1), .val (.ref a6b), .val (.ref a15), .unset, .unset, .unset] [(.int (1 : Int32))])) (fun t k => XS.goto X18.here hx rfl (pc0 := 103) (pc' := 107) rfl (hb hby at_103) (by decide) (by decide) k) ?_
    refine own_step (T' := T18) (g' := (mkF m 109 #[.val (.int p0), .val (.int p1), .val (.int p2), .val (.int p3), .val (.int p4), .val (.int (0 : Int32)), .val (.int b0), .val (.int b1), .val (.int b2), .val (.ref a1), .val (.ref a6b), .val (.ref a15), .val (.int (1 : Int32)), .unset, .unset] [])) (fun t k => XS.istore X18.here hx rfl (hb hby at_107) rfl (l' := #[.val (.int p0), .val (.int p1), .val (.int p2), .val (.int p3), .val (.int p4), .val (.int (0 : Int32)), .val (.int b0), .val (.int b1), .val (.int b2), .val (.ref a1), .val (.ref a6b), .val (.ref a15), .val (.int (1 : Int32)), .unset, .unset]) rfl k) ?_
    refine own_step (T' := T18) (g' := (mkF m 111 #[.val (.int p0), .val (.int p1), .val (.int p2), .val (.int p3), .val (.int p4), .val (.int (0 : Int32)), .val (.int b0), .val (.int b1), .val (.int b2), .val (.ref a1), .val (.ref a6b), .val (.ref a15), .val (.int (1 : Int32)), .unset, .unset] [(.int (0 : Int32))])) (fun t k => XS.iload X18.here hx rfl (hb hby at_109) rfl k) ?_
    refine own_step (T' := T18) (g' := (mkF m 112 #[.val (.int p0), .val (.int p1), .val (.int p2), .val (.int p3), .val (.int p4), .val (.int (0 : Int32)), .val (.int b0), .val (.int b1), .val (.int b2), .val (.ref a1), .val (.ref a6b), .val (.ref a15), .val (.int (1 : Int32)), .unset, .unset] [(.int (2 : Int32)), (.int (0 : Int32))])) (fun t k => XS.iconst X18.here hx rfl (hb hby at_111) k) ?_
    refine own_step (T' := T18) (g' := (mkF m 124 #[.val (.int p0), .val (.int p1), .val (.int p2), .val (.int p3), .val (.int p4), .val (.int (0 : Int32)), .val (.int b0), .val (.int b1), .val (.int b2), .val (.ref a1), .val (.ref a6b), .val (.ref a15), .val (.int (1 : Int32)), .unset, .unset] [])) (fun t k => XS.icmpYes X18.here hx rfl (pc0 := 112) (pc' := 124) rfl (hb hby at_112) rfl (tlt (by decide : ((0 : Int32) < (2 : Int32)))).1 (by decide) (by decide) k) ?_
    refine own_step (T' := T18) (g' := (mkF m 125 #[.val (.int p0), .val (.int p1), .val (.int p2), .val (.int p3), .val (.int p4), .val (.int (0 : Int32)), .val (.int b0), .val (.int b1), .val (.int b2), .val (.ref a1), .val (.ref a6b), .val (.ref a15), .val (.int (1 : Int32)), .unset, .unset] [(.int (1 : Int32))])) (fun t k => XS.iconst X18.here hx rfl (hb hby at_124) k) ?_
    refine own_step (T' := T18) (g' := (mkF m 129 #[.val (.int p0), .val (.int p1), .val (.int p2), .val (.int p3), .val (.int p4), .val (.int (0 : Int32)), .val (.int b0), .val (.int b1), .val (.int b2), .val (.ref a1), .val (.ref a6b), .val (.ref a15), .val (.int (1 : Int32)), .unset, .unset] [(.int (1 : Int32))])) (fun t k => XS.goto X18.here hx rfl (pc0 := 125) (pc' := 129) rfl (hb hby at_125) (by decide) (by decide) k) ?_
    refine own_step (T' := T18) (g' := (mkF m 131 #[.val (.int p0), .val (.int p1), .val (.int p2), .val (.int p3), .val (.int p4), .val (.int (0 : Int32)), .val (.int b0), .val (.int b1), .val (.int b2), .val (.ref a1), .val (.ref a6b), .val (.ref a15), .val (.int (1 : Int32)), .val (.int (1 : Int32)), .unset] [])) (fun t k => XS.istore X18.here hx rfl (hb hby at_129) rfl (l' := #[.val (.int p0), .val (.int p1), .val (.int p2), .val (.int p3), .val (.int p4), .val (.int (0 : Int32)), .val (.int b0), .val (.int b1), .val (.int b2), .val (.ref a1), .val (.ref a6b), .val (.ref a15), .val (.int (1 : Int32)), .val (.int (1 : Int32)), .unset]) rfl k) ?_
    refine own_step (T' := T18) (g' := (mkF m 133 #[.val (.int p0), .val (.int p1), .val (.int p2), .val (.int p3), .val (.int p4), .val (.int (0 : Int32)), .val (.int b0), .val (.int b1), .val (.int b2), .val (.ref a1), .val (.ref a6b), .val (.ref a15), .val (.int (1 : Int32)), .val (.int (1 : Int32)), .unset] [(.int (0 : Int32))])) (fun t k => XS.iload X18.here hx rfl (hb hby at_131) rfl k) ?_
    refine own_step (T' := T18) (g' := (mkF m 134 #[.val (.int p0), .val (.int p1), .val (.int p2), .val (.int p3), .val (.int p4), .val (.int (0 : Int32)), .val (.int b0), .val (.int b1), .val (.int b2), .val (.ref a1), .val (.ref a6b), .val (.ref a15), .val (.int (1 : Int32)), .val (.int (1 : Int32)), .unset] [(.int (3 : Int32)), (.int (0 : Int32))])) (fun t k => XS.iconst X18.here hx rfl (hb hby at_133) k) ?_
    refine own_step (T' := T18) (g' := (mkF m 146 #[.val (.int p0), .val (.int p1), .val (.int p2), .val (.int p3), .val (.int p4), .val (.int (0 : Int32)), .val (.int b0), .val (.int b1), .val (.int b2), .val (.ref a1), .val (.ref a6b), .val (.ref a15), .val (.int (1 : Int32)), .val (.int (1 : Int32)), .unset] [])) (fun t k => XS.icmpYes X18.here hx rfl (pc0 := 134) (pc' := 146) rfl (hb hby at_134) rfl (tlt (by decide : ((0 : Int32) < (3 : Int32)))).1 (by decide) (by decide) k) ?_
    refine own_step (T' := T18) (g' := (mkF m 147 #[.val (.int p0), .val (.int p1), .val (.int p2), .val (.int p3), .val (.int p4), .val (.int (0 : Int32)), .val (.int b0), .val (.int b1), .val (.int b2), .val (.ref a1), .val (.ref a6b), .val (.ref a15), .val (.int (1 : Int32)), .val (.int (1 : Int32)), .unset] [(.int (1 : Int32))])) (fun t k => XS.iconst X18.here hx rfl (hb hby at_146) k) ?_
    refine own_step (T' := T18) (g' := (mkF m 151 #[.val (.int p0), .val (.int p1), .val (.int p2), .val (.int p3), .val (.int p4), .val (.int (0 : Int32)), .val (.int b0), .val (.int b1), .val (.int b2), .val (.ref a1), .val (.ref a6b), .val (.ref a15), .val (.int (1 : Int32)), .val (.int (1 : Int32)), .unset] [(.int (1 : Int32))])) (fun t k => XS.goto X18.here hx rfl (pc0 := 147) (pc' := 151) rfl (hb hby at_147) (by decide) (by decide) k) ?_
    refine own_step (T' := T18) (g' := (mkF m 153 #[.val (.int p0), .val (.int p1), .val (.int p2), .val (.int p3), .val (.int p4), .val (.int (0 : Int32)), .val (.int b0), .val (.int b1), .val (.int b2), .val (.ref a1), .val (.ref a6b), .val (.ref a15), .val (.int (1 : Int32)), .val (.int (1 : Int32)), .val (.int (1 : Int32))] [])) (fun t k => XS.istore X18.here hx rfl (hb hby at_151) rfl (l' := #[.val (.int p0), .val (.int p1), .val (.int p2), .val (.int p3), .val (.int p4), .val (.int (0 : Int32)), .val (.int b0), .val (.int b1), .val (.int b2), .val (.ref a1), .val (.ref a6b), .val (.ref a15), .val (.int (1 : Int32)), .val (.int (1 : Int32)), .val (.int (1 : Int32))]) rfl k) ?_
    refine own_step (T' := T18) (g' := (mkF m 155 #[.val (.int p0), .val (.int p1), .val (.int p2), .val (.int p3), .val (.int p4), .val (.int (0 : Int32)), .val (.int b0), .val (.int b1), .val (.int b2), .val (.ref a1), .val (.ref a6b), .val (.ref a15), .val (.int (1 : Int32)), .val (.int (1 : Int32)), .val (.int (1 : Int32))] [(.int (1 : Int32))])) (fun t k => XS.iload X18.here hx rfl (hb hby at_153) rfl k) ?_
    refine own_step (T' := T18) (g' := (mkF m 158 #[.val (.int p0), .val (.int p1), .val (.int p2), .val (.int p3), .val (.int p4), .val (.int (0 : Int32)), .val (.int b0), .val (.int b1), .val (.int b2), .val (.ref a1), .val (.ref a6b), .val (.ref a15), .val (.int (1 : Int32)), .val (.int (1 : Int32)), .val (.int (1 : Int32))] [])) (fun t k => XS.ifNo X18.here hx rfl (hb hby at_155) rfl ((if0 _ _).trans (feq (by decide : ¬ ((1 : Int32) = (0 : Int32)))).1) k) ?_
    refine own_step (T' := T18) (g' := (mkF m 160 #[.val (.int p0), .val (.int p1), .val (.int p2), .val (.int p3), .val (.int p4), .val (.int (0 : Int32)), .val (.int b0), .val (.int b1), .val (.int b2), .val (.ref a1), .val (.ref a6b), .val (.ref a15), .val (.int (1 : Int32)), .val (.int (1 : Int32)), .val (.int (1 : Int32))] [(.int (1 : Int32))])) (fun t k => XS.iload X18.here hx rfl (hb hby at_158) rfl k) ?_
    refine own_step (T' := T18) (g' := (mkF m 163 #[.val (.int p0), .val (.int p1), .val (.int p2), .val (.int p3), .val (.int p4), .val (.int (0 : Int32)), .val (.int b0), .val (.int b1), .val (.int b2), .val (.ref a1), .val (.ref a6b), .val (.ref a15), .val (.int (1 : Int32)), .val (.int (1 : Int32)), .val (.int (1 : Int32))] [])) (fun t k => XS.ifNo X18.here hx rfl (hb hby at_160) rfl ((if0 _ _).trans (feq (by decide : ¬ ((1 : Int32) = (0 : Int32)))).1) k) ?_
    refine own_step (T' := T18) (g' := (mkF m 165 #[.val (.int p0), .val (.int p1), .val (.int p2), .val (.int p3), .val (.int p4), .val (.int (0 : Int32)), .val (.int b0), .val (.int b1), .val (.int b2), .val (.ref a1), .val (.ref a6b), .val (.ref a15), .val (.int (1 : Int32)), .val (.int (1 : Int32)), .val (.int (1 : Int32))] [(.int (1 : Int32))])) (fun t k => XS.iload X18.here hx rfl (hb hby at_163) rfl k) ?_
    refine own_step (T' := T18) (g' := (mkF m 168 #[.val (.int p0), .val (.int p1), .val (.int p2), .val (.int p3), .val (.int p4), .val (.int (0 : Int32)), .val (.int b0), .val (.int b1), .val (.int b2), .val (.ref a1), .val (.ref a6b), .val (.ref a15), .val (.int (1 : Int32)), .val (.int (1 : Int32)), .val (.int (1 : Int32))] [])) (fun t k => XS.ifNo X18.here hx rfl (hb hby at_165) rfl ((if0 _ _).trans (feq (by decide : ¬ ((1 : Int32) = (0 : Int32)))).1) k) ?_
    refine own_step (T' := T18) (g' := (mkF m 169 #[.val (.int p0), .val (.int p1), .val (.int p2), .val (.int p3), .val (.int p4), .val (.int (0 : Int32)), .val (.int b0), .val (.int b1), .val (.int b2), .val (.ref a1), .val (.ref a6b), .val (.ref a15), .val (.int (1 : Int32)), .val (.int (1 : Int32)), .val (.int (1 : Int32))] [(.int (1 : Int32))])) (fun t k => XS.iconst X18.here hx rfl (hb hby at_168) k) ?_
    refine own_step (T' := T18) (g' := (mkF m 173 #[.val (.int p0), .val (.int p1), .val (.int p2), .val (.int p3), .val (.int p4), .val (.int (0 : Int32)), .val (.int b0), .val (.int b1), .val (.int b2), .val (.ref a1), .val (.ref a6b), .val (.ref a15), .val (.int (1 : Int32)), .val (.int (1 : Int32)), .val (.int (1 : Int32))] [(.int (1 : Int32))])) (fun t k => XS.goto X18.here hx rfl (pc0 := 169) (pc' := 173) rfl (hb hby at_169) (by decide) (by decide) k) ?_
    refine own_rN X18 hx hlk Bd.returns (by simp) (hb hby at_173) ?_ (by decide) (by decide)
    exact ⟨rfl, N18⟩
  · refine own_step (T' := s₁) (g' := (mkF m 6 #[.val (.int p0), .val (.int p1), .val (.int p2), .val (.int p3), .val (.int p4), .val (.int (1 : Int32)), .unset, .unset, .unset, .unset, .unset, .unset, .unset, .unset, .unset] [(.int p1)])) (fun t k => XS.iloadN X0.here hx rfl (hb hby at_5) rfl k) ?_
    refine own_step (T' := s₁) (g' := (mkF m 7 #[.val (.int p0), .val (.int p1), .val (.int p2), .val (.int p3), .val (.int p4), .val (.int (1 : Int32)), .unset, .unset, .unset, .unset, .unset, .unset, .unset, .unset, .unset] [(.int (p1.toInt8.toInt32))])) (fun t k => XS.i2b X0.here hx rfl (hb hby at_6) rfl k) ?_
    generalize hd_b0 : (p1.toInt8.toInt32) = b0
    refine own_step (T' := s₁) (g' := (mkF m 9 #[.val (.int p0), .val (.int p1), .val (.int p2), .val (.int p3), .val (.int p4), .val (.int (1 : Int32)), .val (.int b0), .unset, .unset, .unset, .unset, .unset, .unset, .unset, .unset] [])) (fun t k => XS.istore X0.here hx rfl (hb hby at_7) rfl (l' := #[.val (.int p0), .val (.int p1), .val (.int p2), .val (.int p3), .val (.int p4), .val (.int (1 : Int32)), .val (.int b0), .unset, .unset, .unset, .unset, .unset, .unset, .unset, .unset]) rfl k) ?_
    refine own_step (T' := s₁) (g' := (mkF m 10 #[.val (.int p0), .val (.int p1), .val (.int p2), .val (.int p3), .val (.int p4), .val (.int (1 : Int32)), .val (.int b0), .unset, .unset, .unset, .unset, .unset, .unset, .unset, .unset] [(.int p2)])) (fun t k => XS.iloadN X0.here hx rfl (hb hby at_9) rfl k) ?_
    refine own_step (T' := s₁) (g' := (mkF m 11 #[.val (.int p0), .val (.int p1), .val (.int p2), .val (.int p3), .val (.int p4), .val (.int (1 : Int32)), .val (.int b0), .unset, .unset, .unset, .unset, .unset, .unset, .unset, .unset] [(.int (p2.toInt8.toInt32))])) (fun t k => XS.i2b X0.here hx rfl (hb hby at_10) rfl k) ?_
    generalize hd_b1 : (p2.toInt8.toInt32) = b1
    refine own_step (T' := s₁) (g' := (mkF m 13 #[.val (.int p0), .val (.int p1), .val (.int p2), .val (.int p3), .val (.int p4), .val (.int (1 : Int32)), .val (.int b0), .val (.int b1), .unset, .unset, .unset, .unset, .unset, .unset, .unset] [])) (fun t k => XS.istore X0.here hx rfl (hb hby at_11) rfl (l' := #[.val (.int p0), .val (.int p1), .val (.int p2), .val (.int p3), .val (.int p4), .val (.int (1 : Int32)), .val (.int b0), .val (.int b1), .unset, .unset, .unset, .unset, .unset, .unset, .unset]) rfl k) ?_
    refine own_step (T' := s₁) (g' := (mkF m 14 #[.val (.int p0), .val (.int p1), .val (.int p2), .val (.int p3), .val (.int p4), .val (.int (1 : Int32)), .val (.int b0), .val (.int b1), .unset, .unset, .unset, .unset, .unset, .unset, .unset] [(.int p3)])) (fun t k => XS.iloadN X0.here hx rfl (hb hby at_13) rfl k) ?_
    refine own_step (T' := s₁) (g' := (mkF m 15 #[.val (.int p0), .val (.int p1), .val (.int p2), .val (.int p3), .val (.int p4), .val (.int (1 : Int32)), .val (.int b0), .val (.int b1), .unset, .unset, .unset, .unset, .unset, .unset, .unset] [(.int (p3.toInt8.toInt32))])) (fun t k => XS.i2b X0.here hx rfl (hb hby at_14) rfl k) ?_
    generalize hd_b2 : (p3.toInt8.toInt32) = b2
    refine own_step (T' := s₁) (g' := (mkF m 17 #[.val (.int p0), .val (.int p1), .val (.int p2), .val (.int p3), .val (.int p4), .val (.int (1 : Int32)), .val (.int b0), .val (.int b1), .val (.int b2), .unset, .unset, .unset, .unset, .unset, .unset] [])) (fun t k => XS.istore X0.here hx rfl (hb hby at_15) rfl (l' := #[.val (.int p0), .val (.int p1), .val (.int p2), .val (.int p3), .val (.int p4), .val (.int (1 : Int32)), .val (.int b0), .val (.int b1), .val (.int b2), .unset, .unset, .unset, .unset, .unset, .unset]) rfl k) ?_
    refine own_step (T' := s₁) (g' := (mkF m 19 #[.val (.int p0), .val (.int p1), .val (.int p2), .val (.int p3), .val (.int p4), .val (.int (1 : Int32)), .val (.int b0), .val (.int b1), .val (.int b2), .unset, .unset, .unset, .unset, .unset, .unset] [(.int (1 : Int32))])) (fun t k => XS.iload X0.here hx rfl (hb hby at_17) rfl k) ?_
    refine own_step (T' := s₁) (g' := (mkF m 21 #[.val (.int p0), .val (.int p1), .val (.int p2), .val (.int p3), .val (.int p4), .val (.int (1 : Int32)), .val (.int b0), .val (.int b1), .val (.int b2), .unset, .unset, .unset, .unset, .unset, .unset] [(.int b0), (.int (1 : Int32))])) (fun t k => XS.iload X0.here hx rfl (hb hby at_19) rfl k) ?_
    refine own_step (T' := s₁) (g' := (mkF m 23 #[.val (.int p0), .val (.int p1), .val (.int p2), .val (.int p3), .val (.int p4), .val (.int (1 : Int32)), .val (.int b0), .val (.int b1), .val (.int b2), .unset, .unset, .unset, .unset, .unset, .unset] [(.int b1), (.int b0), (.int (1 : Int32))])) (fun t k => XS.iload X0.here hx rfl (hb hby at_21) rfl k) ?_
    refine own_step (T' := s₁) (g' := (mkF m 25 #[.val (.int p0), .val (.int p1), .val (.int p2), .val (.int p3), .val (.int p4), .val (.int (1 : Int32)), .val (.int b0), .val (.int b1), .val (.int b2), .unset, .unset, .unset, .unset, .unset, .unset] [(.int b2), (.int b1), (.int b0), (.int (1 : Int32))])) (fun t k => XS.iload X0.here hx rfl (hb hby at_23) rfl k) ?_
    obtain ⟨_, _, ⟨T31, L31, k31, n31⟩, -, X31, ⟨Lc31, hQ31, lq31, yq31, zq31⟩, st31⟩ := Jvm.LawKit.callS X0 hx (y := (⟨"com/example/kempt_cursor/kemptcursor/ByteKeyOfPinLaw", "make", "(IBBB)[B"⟩ : MethodName)) hown (mvT hZ (hw _ (List.mem_of_getElem? (i := 0) rfl))) (mvT hZ (hw _ (List.mem_of_getElem? (i := 1) rfl))) (mvT hZ (hw _ (List.mem_of_getElem? (i := 2) rfl))) (mvT hZ (hw _ (List.mem_of_getElem? (i := 3) rfl))) (by decide) (backOf (W := 0) (rm_make1 l Z a0 hw [] b0 b1 b2 h0 n0 Z0 ) hZ (hw _ (List.mem_of_getElem? (i := 3) rfl)) (hw _ (List.mem_of_getElem? (i := 2) rfl)) (by decide) (by decide)) (g := (mkF m 25 #[.val (.int p0), .val (.int p1), .val (.int p2), .val (.int p3), .val (.int p4), .val (.int (1 : Int32)), .val (.int b0), .val (.int b1), .val (.int b2), .unset, .unset, .unset, .unset, .unset, .unset] [(.int b2), (.int b1), (.int b0), (.int (1 : Int32))])) rfl (by rw [hml]; rfl) (argsL := [(.int (1 : Int32)), (.int b0), (.int b1), (.int b2)]) (rest := []) (lenOf pd_1 rfl) rfl (by show 2 * 0 + _ ≤ _; exact Nat.le_of_eq rfl) (hb hby at_25) (fun _ _ => ⟨rfl, e0, (by decide : 0 + 1 ≤ _), (by decide : 0 + 1 ≤ _)⟩)
    dsimp only [Pt.U, Pt.locs, Pt.cells, Pt.slots] at X31 lq31 yq31 zq31 st31 hQ31
    subst lq31 yq31 zq31
    obtain ⟨a27, k27, rfl, Nq31, K28, fz_a27, g29, g30⟩ := hQ31
    have N31 := Fr.app N0 Nq31
    have oz_a27 : n0 ≤ a27 := Nat.le_trans Z0 fz_a27
    have Z28 : n0 ≤ T31.heap.size := (Nat.le_trans Z0 K28.1)
    refine own_step (T' := T31) (g' := (mkF m 28 #[.val (.int p0), .val (.int p1), .val (.int p2), .val (.int p3), .val (.int p4), .val (.int (1 : Int32)), .val (.int b0), .val (.int b1), .val (.int b2), .unset, .unset, .unset, .unset, .unset, .unset] [(.ref a27)])) st31 ?_
    refine own_step (T' := T31) (g' := (mkF m 30 #[.val (.int p0), .val (.int p1), .val (.int p2), .val (.int p3), .val (.int p4), .val (.int (1 : Int32)), .val (.int b0), .val (.int b1), .val (.int b2), .val (.ref a27), .unset, .unset, .unset, .unset, .unset] [])) (fun t k => XS.astore X31.here hx rfl (hb hby at_28) rfl rfl (l' := #[.val (.int p0), .val (.int p1), .val (.int p2), .val (.int p3), .val (.int p4), .val (.int (1 : Int32)), .val (.int b0), .val (.int b1), .val (.int b2), .val (.ref a27), .unset, .unset, .unset, .unset, .unset]) rfl k) ?_
    refine own_step (T' := T31) (g' := (mkF m 32 #[.val (.int p0), .val (.int p1), .val (.int p2), .val (.int p3), .val (.int p4), .val (.int (1 : Int32)), .val (.int b0), .val (.int b1), .val (.int b2), .val (.ref a27), .unset, .unset, .unset, .unset, .unset] [(.ref a27)])) (fun t k => XS.aload X31.here hx rfl (hb hby at_30) rfl rfl k) ?_
    obtain ⟨_, _, ⟨T38, L38, k38, n38⟩, -, X38, ⟨Lc38, hQ38, lq38, yq38, zq38⟩, st38⟩ := Jvm.LawKit.callS X31 hx (y := (⟨"com/example/kempt_cursor/kemptcursor/ByteKey", "of", "([B)Lcom/example/kempt_cursor/kemptcursor/ByteKey;"⟩ : MethodName)) hown (mvT hZ (hw _ (List.mem_of_getElem? (i := 5) rfl))) (mvT hZ (hw _ (List.mem_of_getElem? (i := 6) rfl))) (mvT hZ (hw _ (List.mem_of_getElem? (i := 7) rfl))) (mvT hZ (hw _ (List.mem_of_getElem? (i := 8) rfl))) (by decide) (backOf (W := 0) (rm_of1 l Z a0 hw [] a27 (nar .byte b0) k27 T31.heap n0 Z28 g29 g30) hZ (hw _ (List.mem_of_getElem? (i := 8) rfl)) (hw _ (List.mem_of_getElem? (i := 7) rfl)) (by decide) (by decide)) (g := (mkF m 32 #[.val (.int p0), .val (.int p1), .val (.int p2), .val (.int p3), .val (.int p4), .val (.int (1 : Int32)), .val (.int b0), .val (.int b1), .val (.int b2), .val (.ref a27), .unset, .unset, .unset, .unset, .unset] [(.ref a27)])) rfl (by rw [hml]; rfl) (argsL := [(.ref a27)]) (rest := []) (lenOf pd_2 rfl) rfl (by show 2 * 0 + _ ≤ _; exact Nat.le_of_eq rfl) (hb hby at_32) (fun _ _ => ⟨rfl, rfl, (by decide : 1 + 2 ≤ _), (by decide : 1 + 2 ≤ _)⟩)
    dsimp only [Pt.U, Pt.locs, Pt.cells, Pt.slots] at X38 lq38 yq38 zq38 st38 hQ38
    subst lq38 yq38 zq38
    obtain ⟨a32b, a32q, k32, rfl, Nq38, K33, fz_a32b, fz_a32q, nz_a32b_a32q, g34, g35, g36, g37⟩ := hQ38
    have N38 := Fr.app N31 Nq38
    have oz_a32b : n0 ≤ a32b := Nat.le_trans Z28 fz_a32b
    have nz_a27_a32b : a27 ≠ a32b := Nat.ne_of_lt (Nat.lt_of_lt_of_le g29.lt fz_a32b)
    have oz_a32q : n0 ≤ a32q := Nat.le_trans Z28 fz_a32q
    have nz_a27_a32q : a27 ≠ a32q := Nat.ne_of_lt (Nat.lt_of_lt_of_le g29.lt fz_a32q)
    have g39 : Arv Z T38.heap a27 k27 .byte (1 : Int32) [(.int (nar .byte b0))] (.int (0 : Int32)) := g29.keep K33 nin0
    have g40 : Exa Z T38.heap a27 "[B" := g30.keep K33
    have Z33 : n0 ≤ T38.heap.size := (Nat.le_trans Z28 K33.1)
    refine own_step (T' := T38) (g' := (mkF m 35 #[.val (.int p0), .val (.int p1), .val (.int p2), .val (.int p3), .val (.int p4), .val (.int (1 : Int32)), .val (.int b0), .val (.int b1), .val (.int b2), .val (.ref a27), .unset, .unset, .unset, .unset, .unset] [(.ref a32b)])) st38 ?_
    refine own_step (T' := T38) (g' := (mkF m 37 #[.val (.int p0), .val (.int p1), .val (.int p2), .val (.int p3), .val (.int p4), .val (.int (1 : Int32)), .val (.int b0), .val (.int b1), .val (.int b2), .val (.ref a27), .val (.ref a32b), .unset, .unset, .unset, .unset] [])) (fun t k => XS.astore X38.here hx rfl (hb hby at_35) rfl rfl (l' := #[.val (.int p0), .val (.int p1), .val (.int p2), .val (.int p3), .val (.int p4), .val (.int (1 : Int32)), .val (.int b0), .val (.int b1), .val (.int b2), .val (.ref a27), .val (.ref a32b), .unset, .unset, .unset, .unset]) rfl k) ?_
    refine own_step (T' := T38) (g' := (mkF m 39 #[.val (.int p0), .val (.int p1), .val (.int p2), .val (.int p3), .val (.int p4), .val (.int (1 : Int32)), .val (.int b0), .val (.int b1), .val (.int b2), .val (.ref a27), .val (.ref a32b), .unset, .unset, .unset, .unset] [(.int (1 : Int32))])) (fun t k => XS.iload X38.here hx rfl (hb hby at_37) rfl k) ?_
    refine own_step (T' := T38) (g' := (mkF m 42 #[.val (.int p0), .val (.int p1), .val (.int p2), .val (.int p3), .val (.int p4), .val (.int (1 : Int32)), .val (.int b0), .val (.int b1), .val (.int b2), .val (.ref a27), .val (.ref a32b), .unset, .unset, .unset, .unset] [])) (fun t k => XS.ifNo X38.here hx rfl (hb hby at_39) rfl ((if0 _ _).trans (tlt (by decide : ((0 : Int32) < (1 : Int32)))).2.2.2) k) ?_
    refine own_step (T' := T38) (g' := (mkF m 44 #[.val (.int p0), .val (.int p1), .val (.int p2), .val (.int p3), .val (.int p4), .val (.int (1 : Int32)), .val (.int b0), .val (.int b1), .val (.int b2), .val (.ref a27), .val (.ref a32b), .unset, .unset, .unset, .unset] [(.int p4)])) (fun t k => XS.iload X38.here hx rfl (hb hby at_42) rfl k) ?_
    refine own_step (T' := T38) (g' := (mkF m 46 #[.val (.int p0), .val (.int p1), .val (.int p2), .val (.int p3), .val (.int p4), .val (.int (1 : Int32)), .val (.int b0), .val (.int b1), .val (.int b2), .val (.ref a27), .val (.ref a32b), .unset, .unset, .unset, .unset] [(.int (2147483647 : Int32)), (.int p4)])) (X38.ldcInt hx hown (mvT hZ (hw _ (List.mem_of_getElem? (i := 33) rfl))) (g := (mkF m 44 #[.val (.int p0), .val (.int p1), .val (.int p2), .val (.int p3), .val (.int p4), .val (.int (1 : Int32)), .val (.int b0), .val (.int b1), .val (.int b2), .val (.ref a27), .val (.ref a32b), .unset, .unset, .unset, .unset] [(.int p4)])) rfl (hb hby at_44)) ?_
    refine own_step (T' := T38) (g' := (mkF m 47 #[.val (.int p0), .val (.int p1), .val (.int p2), .val (.int p3), .val (.int p4), .val (.int (1 : Int32)), .val (.int b0), .val (.int b1), .val (.int b2), .val (.ref a27), .val (.ref a32b), .unset, .unset, .unset, .unset] [(.int (p4 &&& (2147483647 : Int32)))])) (fun t k => XS.iand X38.here hx rfl (hb hby at_46) rfl k) ?_
    refine own_step (T' := T38) (g' := (mkF m 49 #[.val (.int p0), .val (.int p1), .val (.int p2), .val (.int p3), .val (.int p4), .val (.int (1 : Int32)), .val (.int b0), .val (.int b1), .val (.int b2), .val (.ref a27), .val (.ref a32b), .unset, .unset, .unset, .unset] [(.int (1 : Int32)), (.int (p4 &&& (2147483647 : Int32)))])) (fun t k => XS.iload X38.here hx rfl (hb hby at_47) rfl k) ?_
    refine own_step (T' := T38) (g' := (mkF m 50 #[.val (.int p0), .val (.int p1), .val (.int p2), .val (.int p3), .val (.int p4), .val (.int (1 : Int32)), .val (.int b0), .val (.int b1), .val (.int b2), .val (.ref a27), .val (.ref a32b), .unset, .unset, .unset, .unset] [(.int ((p4 &&& (2147483647 : Int32)) % (1 : Int32)))])) (fun t k => iremM (g := (mkF m 49 #[.val (.int p0), .val (.int p1), .val (.int p2), .val (.int p3), .val (.int p4), .val (.int (1 : Int32)), .val (.int b0), .val (.int b1), .val (.int b2), .val (.ref a27), .val (.ref a32b), .unset, .unset, .unset, .unset] [(.int (1 : Int32)), (.int (p4 &&& (2147483647 : Int32)))])) X38 hx rfl (hb hby at_49) rfl (by decide) k) ?_
    generalize hd_ix : ((p4 &&& (2147483647 : Int32)) % (1 : Int32)) = ix
    refine own_step (T' := T38) (g' := (mkF m 52 #[.val (.int p0), .val (.int p1), .val (.int p2), .val (.int p3), .val (.int p4), .val (.int (1 : Int32)), .val (.int b0), .val (.int b1), .val (.int b2), .val (.ref a27), .val (.ref a32b), .val (.int ix), .unset, .unset, .unset] [])) (fun t k => XS.istore X38.here hx rfl (hb hby at_50) rfl (l' := #[.val (.int p0), .val (.int p1), .val (.int p2), .val (.int p3), .val (.int p4), .val (.int (1 : Int32)), .val (.int b0), .val (.int b1), .val (.int b2), .val (.ref a27), .val (.ref a32b), .val (.int ix), .unset, .unset, .unset]) rfl k) ?_
    refine own_step (T' := T38) (g' := (mkF m 54 #[.val (.int p0), .val (.int p1), .val (.int p2), .val (.int p3), .val (.int p4), .val (.int (1 : Int32)), .val (.int b0), .val (.int b1), .val (.int b2), .val (.ref a27), .val (.ref a32b), .val (.int ix), .unset, .unset, .unset] [(.ref a27)])) (fun t k => XS.aload X38.here hx rfl (hb hby at_52) rfl rfl k) ?_
    refine own_step (T' := T38) (g' := (mkF m 56 #[.val (.int p0), .val (.int p1), .val (.int p2), .val (.int p3), .val (.int p4), .val (.int (1 : Int32)), .val (.int b0), .val (.int b1), .val (.int b2), .val (.ref a27), .val (.ref a32b), .val (.int ix), .unset, .unset, .unset] [(.int ix), (.ref a27)])) (fun t k => XS.iload X38.here hx rfl (hb hby at_54) rfl k) ?_
    refine own_step (T' := T38) (g' := (mkF m 58 #[.val (.int p0), .val (.int p1), .val (.int p2), .val (.int p3), .val (.int p4), .val (.int (1 : Int32)), .val (.int b0), .val (.int b1), .val (.int b2), .val (.ref a27), .val (.ref a32b), .val (.int ix), .unset, .unset, .unset] [(.ref a27), (.int ix), (.ref a27)])) (fun t k => XS.aload X38.here hx rfl (hb hby at_56) rfl rfl k) ?_
    refine own_step (T' := T38) (g' := (mkF m 60 #[.val (.int p0), .val (.int p1), .val (.int p2), .val (.int p3), .val (.int p4), .val (.int (1 : Int32)), .val (.int b0), .val (.int b1), .val (.int b2), .val (.ref a27), .val (.ref a32b), .val (.int ix), .unset, .unset, .unset] [(.int ix), (.ref a27), (.int ix), (.ref a27)])) (fun t k => XS.iload X38.here hx rfl (hb hby at_58) rfl k) ?_
    obtain ⟨cl41, Ar41, qa41, S41, M41, H41, U41⟩ := id g39
    have hix := own_remk p4 (1 : Int32) 1 (by decide) (by decide)
    rw [hd_ix] at hix
    obtain ⟨zz, hzz⟩ : ∃ z, ([(.int (nar .byte b0))] : List Value).getD ix.toNatClampNeg (.int (0 : Int32)) = .int z := by
      obtain ⟨cz, Az, qz, Sz, Mz, Hz, Uz⟩ := id g39
      exact own_fitB (Uz _ (Nat.lt_of_not_le fun y => inb_of Sz hix (Or.inr y)))
    have hi41 := inb_of S41 (j := ix) hix
    have hat41 := H41.at hi41 (v := (.int zz)) hzz
    refine own_step (T' := T38) (g' := (mkF m 61 #[.val (.int p0), .val (.int p1), .val (.int p2), .val (.int p3), .val (.int p4), .val (.int (1 : Int32)), .val (.int b0), .val (.int b1), .val (.int b2), .val (.ref a27), .val (.ref a32b), .val (.int ix), .unset, .unset, .unset] [(.int zz), (.int ix), (.ref a27)])) (fun t k => X38.baloadBytes hx (j := ix) (v := (.int zz)) Ar41.1 (State.isArrayOf_alike hZ.alike Ar41.2.1) Ar41.2.2 hi41 hat41 (g := (mkF m 60 #[.val (.int p0), .val (.int p1), .val (.int p2), .val (.int p3), .val (.int p4), .val (.int (1 : Int32)), .val (.int b0), .val (.int b1), .val (.int b2), .val (.ref a27), .val (.ref a32b), .val (.int ix), .unset, .unset, .unset] [(.int ix), (.ref a27), (.int ix), (.ref a27)])) rfl rfl (hb hby at_60) t k) ?_
    refine own_step (T' := T38) (g' := (mkF m 62 #[.val (.int p0), .val (.int p1), .val (.int p2), .val (.int p3), .val (.int p4), .val (.int (1 : Int32)), .val (.int b0), .val (.int b1), .val (.int b2), .val (.ref a27), .val (.ref a32b), .val (.int ix), .unset, .unset, .unset] [(.int (1 : Int32)), (.int zz), (.int ix), (.ref a27)])) (fun t k => XS.iconst X38.here hx rfl (hb hby at_61) k) ?_
    refine own_step (T' := T38) (g' := (mkF m 63 #[.val (.int p0), .val (.int p1), .val (.int p2), .val (.int p3), .val (.int p4), .val (.int (1 : Int32)), .val (.int b0), .val (.int b1), .val (.int b2), .val (.ref a27), .val (.ref a32b), .val (.int ix), .unset, .unset, .unset] [(.int (zz + (1 : Int32))), (.int ix), (.ref a27)])) (fun t k => XS.iadd X38.here hx rfl (hb hby at_62) rfl k) ?_
    refine own_step (T' := T38) (g' := (mkF m 64 #[.val (.int p0), .val (.int p1), .val (.int p2), .val (.int p3), .val (.int p4), .val (.int (1 : Int32)), .val (.int b0), .val (.int b1), .val (.int b2), .val (.ref a27), .val (.ref a32b), .val (.int ix), .unset, .unset, .unset] [(.int ((zz + (1 : Int32)).toInt8.toInt32)), (.int ix), (.ref a27)])) (fun t k => XS.i2b X38.here hx rfl (hb hby at_63) rfl k) ?_
    obtain ⟨cl42, Ar42, qa42, S42, M42, H42, U42⟩ := id g39
    obtain ⟨T42, h42, X42, e42, W42, st42⟩ := stB X38 hx hZ rfl Ar42 (j := ix) (inb_of S42 hix) (g := (mkF m 64 #[.val (.int p0), .val (.int p1), .val (.int p2), .val (.int p3), .val (.int p4), .val (.int (1 : Int32)), .val (.int b0), .val (.int b1), .val (.int b2), .val (.ref a27), .val (.ref a32b), .val (.int ix), .unset, .unset, .unset] [(.int ((zz + (1 : Int32)).toInt8.toInt32)), (.int ix), (.ref a27)])) rfl rfl (hb hby at_64)
    have g43 : Exa Z h42 a27 "[B" := g40.wr W42
    have g44 : Exa Z h42 a32b "com/example/kempt_cursor/kemptcursor/ByteKey" := g34.wr W42
    have g45 : Fld Z h42 a32b "com/example/kempt_cursor/kemptcursor/ByteKey" "bytes" "[B" (.ref a32q) := g35.other W42 (Or.inl (Ne.symm nz_a27_a32b))
    have g46 : Arv Z h42 a32q k32 .byte (1 : Int32) [(.int (nar .byte b0))] (.int (0 : Int32)) := g36.other W42 (Ne.symm nz_a27_a32q)
    have g47 : Exa Z h42 a32q "[B" := g37.wr W42
    have N42 := Fr.snoc X42 N38 oz_a27
    have Z42 : n0 ≤ h42.size := (Nat.le_trans Z33 (Nat.le_of_eq W42.size.symm))
    refine own_step (T' := T42) (g' := (mkF m 65 #[.val (.int p0), .val (.int p1), .val (.int p2), .val (.int p3), .val (.int p4), .val (.int (1 : Int32)), .val (.int b0), .val (.int b1), .val (.int b2), .val (.ref a27), .val (.ref a32b), .val (.int ix), .unset, .unset, .unset] [])) st42 ?_
    refine own_step (T' := T42) (g' := (mkF m 67 #[.val (.int p0), .val (.int p1), .val (.int p2), .val (.int p3), .val (.int p4), .val (.int (1 : Int32)), .val (.int b0), .val (.int b1), .val (.int b2), .val (.ref a27), .val (.ref a32b), .val (.int ix), .unset, .unset, .unset] [(.ref a32b)])) (fun t k => XS.aload X42.here hx rfl (hb hby at_65) rfl rfl k) ?_
    obtain ⟨cq52, kq52, q52a, q52b, q52c⟩ := isOf hZ e42 g44
    obtain ⟨_, _, ⟨T51, L51, k51, n51⟩, -, X51, ⟨Lc51, hQ51, lq51, yq51, zq51⟩, st51⟩ := X42.virtualBack hx (y := (⟨"com/example/kempt_cursor/kemptcursor/ByteKey", "toByteArray", "()[B"⟩ : MethodName)) (z := (⟨"com/example/kempt_cursor/kemptcursor/ByteKey", "toByteArray", "()[B"⟩ : MethodName)) hown (mvT hZ (hw _ (List.mem_of_getElem? (i := 28) rfl))) (mvT hZ (hw _ (List.mem_of_getElem? (i := 29) rfl))) (notFace_of_selects (args := #[]) (mvT hZ (hw _ (List.mem_of_getElem? (i := 31) rfl)))) (mvT hZ (hw _ (List.mem_of_getElem? (i := 31) rfl))) (mvT hZ (hw _ (List.mem_of_getElem? (i := 30) rfl))) (by decide) (backOf (W := 0) (rm_to1 l Z a0 hw [] a32b a32q (nar .byte b0) k32 h42 n0 Z42 g45 g46 g47) hZ (hw _ (List.mem_of_getElem? (i := 32) rfl)) (hw _ (List.mem_of_getElem? (i := 7) rfl)) (by decide) (by decide)) q52a q52c (g := (mkF m 67 #[.val (.int p0), .val (.int p1), .val (.int p2), .val (.int p3), .val (.int p4), .val (.int (1 : Int32)), .val (.int b0), .val (.int b1), .val (.int b2), .val (.ref a27), .val (.ref a32b), .val (.int ix), .unset, .unset, .unset] [(.ref a32b)])) rfl (by rw [hml]; rfl) (Steps.refl _) (argsL := []) (rest := []) (lenOf pd_3 rfl) rfl (by show 2 * 0 + _ ≤ _; exact Nat.le_of_eq rfl) (hb hby at_67) (fun _ _ => ⟨rfl, e42, (by decide : 3 + 1 ≤ _), (by decide : 3 + 1 ≤ _)⟩)
    dsimp only [Pt.U, Pt.locs, Pt.cells, Pt.slots] at X51 lq51 yq51 zq51 st51 hQ51
    subst lq51 yq51 zq51
    obtain ⟨a48, k48, rfl, Nq51, K49, fz_a48, g50⟩ := hQ51
    have N51 := Fr.app N42 Nq51
    have oz_a48 : n0 ≤ a48 := Nat.le_trans Z42 fz_a48
    have nz_a27_a48 : a27 ≠ a48 := Nat.ne_of_lt (Nat.lt_of_lt_of_le g43.lt fz_a48)
    have nz_a32b_a48 : a32b ≠ a48 := Nat.ne_of_lt (Nat.lt_of_lt_of_le g44.lt fz_a48)
    have nz_a32q_a48 : a32q ≠ a48 := Nat.ne_of_lt (Nat.lt_of_lt_of_le g46.lt fz_a48)
    have g53 : Exa Z T51.heap a27 "[B" := g43.keep K49
    have g54 : Exa Z T51.heap a32b "com/example/kempt_cursor/kemptcursor/ByteKey" := g44.keep K49
    have g55 : Fld Z T51.heap a32b "com/example/kempt_cursor/kemptcursor/ByteKey" "bytes" "[B" (.ref a32q) := g45.keep K49 nin0
    have g56 : Arv Z T51.heap a32q k32 .byte (1 : Int32) [(.int (nar .byte b0))] (.int (0 : Int32)) := g46.keep K49 nin0
    have g57 : Exa Z T51.heap a32q "[B" := g47.keep K49
    have Z49 : n0 ≤ T51.heap.size := (Nat.le_trans Z42 K49.1)
    refine own_tr (T' := T51) (g' := (mkF m 70 #[.val (.int p0), .val (.int p1), .val (.int p2), .val (.int p3), .val (.int p4), .val (.int (1 : Int32)), .val (.int b0), .val (.int b1), .val (.int b2), .val (.ref a27), .val (.ref a32b), .val (.int ix), .unset, .unset, .unset] [(.ref a48)])) st51 ?_
    refine own_step (T' := T51) (g' := (mkF m 72 #[.val (.int p0), .val (.int p1), .val (.int p2), .val (.int p3), .val (.int p4), .val (.int (1 : Int32)), .val (.int b0), .val (.int b1), .val (.int b2), .val (.ref a27), .val (.ref a32b), .val (.ref a48), .unset, .unset, .unset] [])) (fun t k => XS.astore X51.here hx rfl (hb hby at_70) rfl rfl (l' := #[.val (.int p0), .val (.int p1), .val (.int p2), .val (.int p3), .val (.int p4), .val (.int (1 : Int32)), .val (.int b0), .val (.int b1), .val (.int b2), .val (.ref a27), .val (.ref a32b), .val (.ref a48), .unset, .unset, .unset]) rfl k) ?_
    refine own_step (T' := T51) (g' := (mkF m 74 #[.val (.int p0), .val (.int p1), .val (.int p2), .val (.int p3), .val (.int p4), .val (.int (1 : Int32)), .val (.int b0), .val (.int b1), .val (.int b2), .val (.ref a27), .val (.ref a32b), .val (.ref a48), .unset, .unset, .unset] [(.ref a48)])) (fun t k => XS.aload X51.here hx rfl (hb hby at_72) rfl rfl k) ?_
    refine own_step (T' := T51) (g' := (mkF m 77 #[.val (.int p0), .val (.int p1), .val (.int p2), .val (.int p3), .val (.int p4), .val (.int (1 : Int32)), .val (.int b0), .val (.int b1), .val (.int b2), .val (.ref a27), .val (.ref a32b), .val (.ref a48), .unset, .unset, .unset] [])) (fun t k => XS.ifnullNo X51.here hx rfl (hb hby at_74) rfl k) ?_
    refine own_step (T' := T51) (g' := (mkF m 79 #[.val (.int p0), .val (.int p1), .val (.int p2), .val (.int p3), .val (.int p4), .val (.int (1 : Int32)), .val (.int b0), .val (.int b1), .val (.int b2), .val (.ref a27), .val (.ref a32b), .val (.ref a48), .unset, .unset, .unset] [(.ref a48)])) (fun t k => XS.aload X51.here hx rfl (hb hby at_77) rfl rfl k) ?_
    obtain ⟨cl58, Ar58, qa58, S58, M58, H58, U58⟩ := id g50
    have ln58 := len_of S58 M58
    refine own_step (T' := T51) (g' := (mkF m 80 #[.val (.int p0), .val (.int p1), .val (.int p2), .val (.int p3), .val (.int p4), .val (.int (1 : Int32)), .val (.int b0), .val (.int b1), .val (.int b2), .val (.ref a27), .val (.ref a32b), .val (.ref a48), .unset, .unset, .unset] [(.int (1 : Int32))])) (fun t k => X51.arraylength hx (cell := cl58) Ar58.1 (State.isArrayOf_alike hZ.alike Ar58.2.1) (g := (mkF m 79 #[.val (.int p0), .val (.int p1), .val (.int p2), .val (.int p3), .val (.int p4), .val (.int (1 : Int32)), .val (.int b0), .val (.int b1), .val (.int b2), .val (.ref a27), .val (.ref a32b), .val (.ref a48), .unset, .unset, .unset] [(.ref a48)])) rfl rfl (hb hby at_79) t (by rw [ln58]; exact k)) ?_
    refine own_step (T' := T51) (g' := (mkF m 82 #[.val (.int p0), .val (.int p1), .val (.int p2), .val (.int p3), .val (.int p4), .val (.int (1 : Int32)), .val (.int b0), .val (.int b1), .val (.int b2), .val (.ref a27), .val (.ref a32b), .val (.ref a48), .unset, .unset, .unset] [(.int (1 : Int32)), (.int (1 : Int32))])) (fun t k => XS.iload X51.here hx rfl (hb hby at_80) rfl k) ?_
    refine own_step (T' := T51) (g' := (mkF m 87 #[.val (.int p0), .val (.int p1), .val (.int p2), .val (.int p3), .val (.int p4), .val (.int (1 : Int32)), .val (.int b0), .val (.int b1), .val (.int b2), .val (.ref a27), .val (.ref a32b), .val (.ref a48), .unset, .unset, .unset] [])) (fun t k => XS.icmpYes X51.here hx rfl (pc0 := 82) (pc' := 87) rfl (hb hby at_82) rfl (teq (by decide : ((1 : Int32) = (1 : Int32)))).1 (by decide) (by decide) k) ?_
    refine own_step (T' := T51) (g' := (mkF m 89 #[.val (.int p0), .val (.int p1), .val (.int p2), .val (.int p3), .val (.int p4), .val (.int (1 : Int32)), .val (.int b0), .val (.int b1), .val (.int b2), .val (.ref a27), .val (.ref a32b), .val (.ref a48), .unset, .unset, .unset] [(.int (1 : Int32))])) (fun t k => XS.iload X51.here hx rfl (hb hby at_87) rfl k) ?_
    refine own_step (T' := T51) (g' := (mkF m 90 #[.val (.int p0), .val (.int p1), .val (.int p2), .val (.int p3), .val (.int p4), .val (.int (1 : Int32)), .val (.int b0), .val (.int b1), .val (.int b2), .val (.ref a27), .val (.ref a32b), .val (.ref a48), .unset, .unset, .unset] [(.int (1 : Int32)), (.int (1 : Int32))])) (fun t k => XS.iconst X51.here hx rfl (hb hby at_89) k) ?_
    refine own_step (T' := T51) (g' := (mkF m 93 #[.val (.int p0), .val (.int p1), .val (.int p2), .val (.int p3), .val (.int p4), .val (.int (1 : Int32)), .val (.int b0), .val (.int b1), .val (.int b2), .val (.ref a27), .val (.ref a32b), .val (.ref a48), .unset, .unset, .unset] [])) (fun t k => XS.icmpNo X51.here hx rfl (hb hby at_90) rfl (flt (by decide : ¬ ((1 : Int32) < (1 : Int32)))).1 k) ?_
    refine own_step (T' := T51) (g' := (mkF m 95 #[.val (.int p0), .val (.int p1), .val (.int p2), .val (.int p3), .val (.int p4), .val (.int (1 : Int32)), .val (.int b0), .val (.int b1), .val (.int b2), .val (.ref a27), .val (.ref a32b), .val (.ref a48), .unset, .unset, .unset] [(.ref a48)])) (fun t k => XS.aload X51.here hx rfl (hb hby at_93) rfl rfl k) ?_
    refine own_step (T' := T51) (g' := (mkF m 96 #[.val (.int p0), .val (.int p1), .val (.int p2), .val (.int p3), .val (.int p4), .val (.int (1 : Int32)), .val (.int b0), .val (.int b1), .val (.int b2), .val (.ref a27), .val (.ref a32b), .val (.ref a48), .unset, .unset, .unset] [(.int (0 : Int32)), (.ref a48)])) (fun t k => XS.iconst X51.here hx rfl (hb hby at_95) k) ?_
    obtain ⟨cl59, Ar59, qa59, S59, M59, H59, U59⟩ := id g50
    have hi59 := inb_of S59 (j := (0 : Int32)) ⟨by decide, by decide⟩
    have hat59 := H59.at hi59 (v := (.int (nar .byte b0))) rfl
    refine own_step (T' := T51) (g' := (mkF m 97 #[.val (.int p0), .val (.int p1), .val (.int p2), .val (.int p3), .val (.int p4), .val (.int (1 : Int32)), .val (.int b0), .val (.int b1), .val (.int b2), .val (.ref a27), .val (.ref a32b), .val (.ref a48), .unset, .unset, .unset] [(.int (nar .byte b0))])) (fun t k => X51.baloadBytes hx (j := (0 : Int32)) (v := (.int (nar .byte b0))) Ar59.1 (State.isArrayOf_alike hZ.alike Ar59.2.1) Ar59.2.2 hi59 hat59 (g := (mkF m 96 #[.val (.int p0), .val (.int p1), .val (.int p2), .val (.int p3), .val (.int p4), .val (.int (1 : Int32)), .val (.int b0), .val (.int b1), .val (.int b2), .val (.ref a27), .val (.ref a32b), .val (.ref a48), .unset, .unset, .unset] [(.int (0 : Int32)), (.ref a48)])) rfl rfl (hb hby at_96) t k) ?_
    refine own_step (T' := T51) (g' := (mkF m 99 #[.val (.int p0), .val (.int p1), .val (.int p2), .val (.int p3), .val (.int p4), .val (.int (1 : Int32)), .val (.int b0), .val (.int b1), .val (.int b2), .val (.ref a27), .val (.ref a32b), .val (.ref a48), .unset, .unset, .unset] [(.int b0), (.int (nar .byte b0))])) (fun t k => XS.iload X51.here hx rfl (hb hby at_97) rfl k) ?_
    refine own_step (T' := T51) (g' := (mkF m 102 #[.val (.int p0), .val (.int p1), .val (.int p2), .val (.int p3), .val (.int p4), .val (.int (1 : Int32)), .val (.int b0), .val (.int b1), .val (.int b2), .val (.ref a27), .val (.ref a32b), .val (.ref a48), .unset, .unset, .unset] [])) (fun t k => XS.icmpNo X51.here hx rfl (hb hby at_99) rfl (teq (by rw [← hd_b0]; exact own_nb _)).2 k) ?_
    refine own_step (T' := T51) (g' := (mkF m 103 #[.val (.int p0), .val (.int p1), .val (.int p2), .val (.int p3), .val (.int p4), .val (.int (1 : Int32)), .val (.int b0), .val (.int b1), .val (.int b2), .val (.ref a27), .val (.ref a32b), .val (.ref a48), .unset, .unset, .unset] [(.int (1 : Int32))])) (fun t k => XS.iconst X51.here hx rfl (hb hby at_102) k) ?_
    refine own_step (T' := T51) (g' := (mkF m 107 #[.val (.int p0), .val (.int p1), .val (.int p2), .val (.int p3), .val (.int p4), .val (.int (1 : Int32)), .val (.int b0), .val (.int b1), .val (.int b2), .val (.ref a27), .val (.ref a32b), .val (.ref a48), .unset, .unset, .unset] [(.int (1 : Int32))])) (fun t k => XS.goto X51.here hx rfl (pc0 := 103) (pc' := 107) rfl (hb hby at_103) (by decide) (by decide) k) ?_
    refine own_step (T' := T51) (g' := (mkF m 109 #[.val (.int p0), .val (.int p1), .val (.int p2), .val (.int p3), .val (.int p4), .val (.int (1 : Int32)), .val (.int b0), .val (.int b1), .val (.int b2), .val (.ref a27), .val (.ref a32b), .val (.ref a48), .val (.int (1 : Int32)), .unset, .unset] [])) (fun t k => XS.istore X51.here hx rfl (hb hby at_107) rfl (l' := #[.val (.int p0), .val (.int p1), .val (.int p2), .val (.int p3), .val (.int p4), .val (.int (1 : Int32)), .val (.int b0), .val (.int b1), .val (.int b2), .val (.ref a27), .val (.ref a32b), .val (.ref a48), .val (.int (1 : Int32)), .unset, .unset]) rfl k) ?_
    refine own_step (T' := T51) (g' := (mkF m 111 #[.val (.int p0), .val (.int p1), .val (.int p2), .val (.int p3), .val (.int p4), .val (.int (1 : Int32)), .val (.int b0), .val (.int b1), .val (.int b2), .val (.ref a27), .val (.ref a32b), .val (.ref a48), .val (.int (1 : Int32)), .unset, .unset] [(.int (1 : Int32))])) (fun t k => XS.iload X51.here hx rfl (hb hby at_109) rfl k) ?_
    refine own_step (T' := T51) (g' := (mkF m 112 #[.val (.int p0), .val (.int p1), .val (.int p2), .val (.int p3), .val (.int p4), .val (.int (1 : Int32)), .val (.int b0), .val (.int b1), .val (.int b2), .val (.ref a27), .val (.ref a32b), .val (.ref a48), .val (.int (1 : Int32)), .unset, .unset] [(.int (2 : Int32)), (.int (1 : Int32))])) (fun t k => XS.iconst X51.here hx rfl (hb hby at_111) k) ?_
    refine own_step (T' := T51) (g' := (mkF m 124 #[.val (.int p0), .val (.int p1), .val (.int p2), .val (.int p3), .val (.int p4), .val (.int (1 : Int32)), .val (.int b0), .val (.int b1), .val (.int b2), .val (.ref a27), .val (.ref a32b), .val (.ref a48), .val (.int (1 : Int32)), .unset, .unset] [])) (fun t k => XS.icmpYes X51.here hx rfl (pc0 := 112) (pc' := 124) rfl (hb hby at_112) rfl (tlt (by decide : ((1 : Int32) < (2 : Int32)))).1 (by decide) (by decide) k) ?_
    refine own_step (T' := T51) (g' := (mkF m 125 #[.val (.int p0), .val (.int p1), .val (.int p2), .val (.int p3), .val (.int p4), .val (.int (1 : Int32)), .val (.int b0), .val (.int b1), .val (.int b2), .val (.ref a27), .val (.ref a32b), .val (.ref a48), .val (.int (1 : Int32)), .unset, .unset] [(.int (1 : Int32))])) (fun t k => XS.iconst X51.here hx rfl (hb hby at_124) k) ?_
    refine own_step (T' := T51) (g' := (mkF m 129 #[.val (.int p0), .val (.int p1), .val (.int p2), .val (.int p3), .val (.int p4), .val (.int (1 : Int32)), .val (.int b0), .val (.int b1), .val (.int b2), .val (.ref a27), .val (.ref a32b), .val (.ref a48), .val (.int (1 : Int32)), .unset, .unset] [(.int (1 : Int32))])) (fun t k => XS.goto X51.here hx rfl (pc0 := 125) (pc' := 129) rfl (hb hby at_125) (by decide) (by decide) k) ?_
    refine own_step (T' := T51) (g' := (mkF m 131 #[.val (.int p0), .val (.int p1), .val (.int p2), .val (.int p3), .val (.int p4), .val (.int (1 : Int32)), .val (.int b0), .val (.int b1), .val (.int b2), .val (.ref a27), .val (.ref a32b), .val (.ref a48), .val (.int (1 : Int32)), .val (.int (1 : Int32)), .unset] [])) (fun t k => XS.istore X51.here hx rfl (hb hby at_129) rfl (l' := #[.val (.int p0), .val (.int p1), .val (.int p2), .val (.int p3), .val (.int p4), .val (.int (1 : Int32)), .val (.int b0), .val (.int b1), .val (.int b2), .val (.ref a27), .val (.ref a32b), .val (.ref a48), .val (.int (1 : Int32)), .val (.int (1 : Int32)), .unset]) rfl k) ?_
    refine own_step (T' := T51) (g' := (mkF m 133 #[.val (.int p0), .val (.int p1), .val (.int p2), .val (.int p3), .val (.int p4), .val (.int (1 : Int32)), .val (.int b0), .val (.int b1), .val (.int b2), .val (.ref a27), .val (.ref a32b), .val (.ref a48), .val (.int (1 : Int32)), .val (.int (1 : Int32)), .unset] [(.int (1 : Int32))])) (fun t k => XS.iload X51.here hx rfl (hb hby at_131) rfl k) ?_
    refine own_step (T' := T51) (g' := (mkF m 134 #[.val (.int p0), .val (.int p1), .val (.int p2), .val (.int p3), .val (.int p4), .val (.int (1 : Int32)), .val (.int b0), .val (.int b1), .val (.int b2), .val (.ref a27), .val (.ref a32b), .val (.ref a48), .val (.int (1 : Int32)), .val (.int (1 : Int32)), .unset] [(.int (3 : Int32)), (.int (1 : Int32))])) (fun t k => XS.iconst X51.here hx rfl (hb hby at_133) k) ?_
    refine own_step (T' := T51) (g' := (mkF m 146 #[.val (.int p0), .val (.int p1), .val (.int p2), .val (.int p3), .val (.int p4), .val (.int (1 : Int32)), .val (.int b0), .val (.int b1), .val (.int b2), .val (.ref a27), .val (.ref a32b), .val (.ref a48), .val (.int (1 : Int32)), .val (.int (1 : Int32)), .unset] [])) (fun t k => XS.icmpYes X51.here hx rfl (pc0 := 134) (pc' := 146) rfl (hb hby at_134) rfl (tlt (by decide : ((1 : Int32) < (3 : Int32)))).1 (by decide) (by decide) k) ?_
    refine own_step (T' := T51) (g' := (mkF m 147 #[.val (.int p0), .val (.int p1), .val (.int p2), .val (.int p3), .val (.int p4), .val (.int (1 : Int32)), .val (.int b0), .val (.int b1), .val (.int b2), .val (.ref a27), .val (.ref a32b), .val (.ref a48), .val (.int (1 : Int32)), .val (.int (1 : Int32)), .unset] [(.int (1 : Int32))])) (fun t k => XS.iconst X51.here hx rfl (hb hby at_146) k) ?_
    refine own_step (T' := T51) (g' := (mkF m 151 #[.val (.int p0), .val (.int p1), .val (.int p2), .val (.int p3), .val (.int p4), .val (.int (1 : Int32)), .val (.int b0), .val (.int b1), .val (.int b2), .val (.ref a27), .val (.ref a32b), .val (.ref a48), .val (.int (1 : Int32)), .val (.int (1 : Int32)), .unset] [(.int (1 : Int32))])) (fun t k => XS.goto X51.here hx rfl (pc0 := 147) (pc' := 151) rfl (hb hby at_147) (by decide) (by decide) k) ?_
    refine own_step (T' := T51) (g' := (mkF m 153 #[.val (.int p0), .val (.int p1), .val (.int p2), .val (.int p3), .val (.int p4), .val (.int (1 : Int32)), .val (.int b0), .val (.int b1), .val (.int b2), .val (.ref a27), .val (.ref a32b), .val (.ref a48), .val (.int (1 : Int32)), .val (.int (1 : Int32)), .val (.int (1 : Int32))] [])) (fun t k => XS.istore X51.here hx rfl (hb hby at_151) rfl (l' := #[.val (.int p0), .val (.int p1), .val (.int p2), .val (.int p3), .val (.int p4), .val (.int (1 : Int32)), .val (.int b0), .val (.int b1), .val (.int b2), .val (.ref a27), .val (.ref a32b), .val (.ref a48), .val (.int (1 : Int32)), .val (.int (1 : Int32)), .val (.int (1 : Int32))]) rfl k) ?_
    refine own_step (T' := T51) (g' := (mkF m 155 #[.val (.int p0), .val (.int p1), .val (.int p2), .val (.int p3), .val (.int p4), .val (.int (1 : Int32)), .val (.int b0), .val (.int b1), .val (.int b2), .val (.ref a27), .val (.ref a32b), .val (.ref a48), .val (.int (1 : Int32)), .val (.int (1 : Int32)), .val (.int (1 : Int32))] [(.int (1 : Int32))])) (fun t k => XS.iload X51.here hx rfl (hb hby at_153) rfl k) ?_
    refine own_step (T' := T51) (g' := (mkF m 158 #[.val (.int p0), .val (.int p1), .val (.int p2), .val (.int p3), .val (.int p4), .val (.int (1 : Int32)), .val (.int b0), .val (.int b1), .val (.int b2), .val (.ref a27), .val (.ref a32b), .val (.ref a48), .val (.int (1 : Int32)), .val (.int (1 : Int32)), .val (.int (1 : Int32))] [])) (fun t k => XS.ifNo X51.here hx rfl (hb hby at_155) rfl ((if0 _ _).trans (feq (by decide : ¬ ((1 : Int32) = (0 : Int32)))).1) k) ?_
    refine own_step (T' := T51) (g' := (mkF m 160 #[.val (.int p0), .val (.int p1), .val (.int p2), .val (.int p3), .val (.int p4), .val (.int (1 : Int32)), .val (.int b0), .val (.int b1), .val (.int b2), .val (.ref a27), .val (.ref a32b), .val (.ref a48), .val (.int (1 : Int32)), .val (.int (1 : Int32)), .val (.int (1 : Int32))] [(.int (1 : Int32))])) (fun t k => XS.iload X51.here hx rfl (hb hby at_158) rfl k) ?_
    refine own_step (T' := T51) (g' := (mkF m 163 #[.val (.int p0), .val (.int p1), .val (.int p2), .val (.int p3), .val (.int p4), .val (.int (1 : Int32)), .val (.int b0), .val (.int b1), .val (.int b2), .val (.ref a27), .val (.ref a32b), .val (.ref a48), .val (.int (1 : Int32)), .val (.int (1 : Int32)), .val (.int (1 : Int32))] [])) (fun t k => XS.ifNo X51.here hx rfl (hb hby at_160) rfl ((if0 _ _).trans (feq (by decide : ¬ ((1 : Int32) = (0 : Int32)))).1) k) ?_
    refine own_step (T' := T51) (g' := (mkF m 165 #[.val (.int p0), .val (.int p1), .val (.int p2), .val (.int p3), .val (.int p4), .val (.int (1 : Int32)), .val (.int b0), .val (.int b1), .val (.int b2), .val (.ref a27), .val (.ref a32b), .val (.ref a48), .val (.int (1 : Int32)), .val (.int (1 : Int32)), .val (.int (1 : Int32))] [(.int (1 : Int32))])) (fun t k => XS.iload X51.here hx rfl (hb hby at_163) rfl k) ?_
    refine own_step (T' := T51) (g' := (mkF m 168 #[.val (.int p0), .val (.int p1), .val (.int p2), .val (.int p3), .val (.int p4), .val (.int (1 : Int32)), .val (.int b0), .val (.int b1), .val (.int b2), .val (.ref a27), .val (.ref a32b), .val (.ref a48), .val (.int (1 : Int32)), .val (.int (1 : Int32)), .val (.int (1 : Int32))] [])) (fun t k => XS.ifNo X51.here hx rfl (hb hby at_165) rfl ((if0 _ _).trans (feq (by decide : ¬ ((1 : Int32) = (0 : Int32)))).1) k) ?_
    refine own_step (T' := T51) (g' := (mkF m 169 #[.val (.int p0), .val (.int p1), .val (.int p2), .val (.int p3), .val (.int p4), .val (.int (1 : Int32)), .val (.int b0), .val (.int b1), .val (.int b2), .val (.ref a27), .val (.ref a32b), .val (.ref a48), .val (.int (1 : Int32)), .val (.int (1 : Int32)), .val (.int (1 : Int32))] [(.int (1 : Int32))])) (fun t k => XS.iconst X51.here hx rfl (hb hby at_168) k) ?_
    refine own_step (T' := T51) (g' := (mkF m 173 #[.val (.int p0), .val (.int p1), .val (.int p2), .val (.int p3), .val (.int p4), .val (.int (1 : Int32)), .val (.int b0), .val (.int b1), .val (.int b2), .val (.ref a27), .val (.ref a32b), .val (.ref a48), .val (.int (1 : Int32)), .val (.int (1 : Int32)), .val (.int (1 : Int32))] [(.int (1 : Int32))])) (fun t k => XS.goto X51.here hx rfl (pc0 := 169) (pc' := 173) rfl (hb hby at_169) (by decide) (by decide) k) ?_
    refine own_rN X51 hx hlk Bd.returns (by simp) (hb hby at_173) ?_ (by decide) (by decide)
    exact ⟨rfl, N51⟩
  · refine own_step (T' := s₁) (g' := (mkF m 6 #[.val (.int p0), .val (.int p1), .val (.int p2), .val (.int p3), .val (.int p4), .val (.int (2 : Int32)), .unset, .unset, .unset, .unset, .unset, .unset, .unset, .unset, .unset] [(.int p1)])) (fun t k => XS.iloadN X0.here hx rfl (hb hby at_5) rfl k) ?_
    refine own_step (T' := s₁) (g' := (mkF m 7 #[.val (.int p0), .val (.int p1), .val (.int p2), .val (.int p3), .val (.int p4), .val (.int (2 : Int32)), .unset, .unset, .unset, .unset, .unset, .unset, .unset, .unset, .unset] [(.int (p1.toInt8.toInt32))])) (fun t k => XS.i2b X0.here hx rfl (hb hby at_6) rfl k) ?_
    generalize hd_b0 : (p1.toInt8.toInt32) = b0
    refine own_step (T' := s₁) (g' := (mkF m 9 #[.val (.int p0), .val (.int p1), .val (.int p2), .val (.int p3), .val (.int p4), .val (.int (2 : Int32)), .val (.int b0), .unset, .unset, .unset, .unset, .unset, .unset, .unset, .unset] [])) (fun t k => XS.istore X0.here hx rfl (hb hby at_7) rfl (l' := #[.val (.int p0), .val (.int p1), .val (.int p2), .val (.int p3), .val (.int p4), .val (.int (2 : Int32)), .val (.int b0), .unset, .unset, .unset, .unset, .unset, .unset, .unset, .unset]) rfl k) ?_
    refine own_step (T' := s₁) (g' := (mkF m 10 #[.val (.int p0), .val (.int p1), .val (.int p2), .val (.int p3), .val (.int p4), .val (.int (2 : Int32)), .val (.int b0), .unset, .unset, .unset, .unset, .unset, .unset, .unset, .unset] [(.int p2)])) (fun t k => XS.iloadN X0.here hx rfl (hb hby at_9) rfl k) ?_
    refine own_step (T' := s₁) (g' := (mkF m 11 #[.val (.int p0), .val (.int p1), .val (.int p2), .val (.int p3), .val (.int p4), .val (.int (2 : Int32)), .val (.int b0), .unset, .unset, .unset, .unset, .unset, .unset, .unset, .unset] [(.int (p2.toInt8.toInt32))])) (fun t k => XS.i2b X0.here hx rfl (hb hby at_10) rfl k) ?_
    generalize hd_b1 : (p2.toInt8.toInt32) = b1
    refine own_step (T' := s₁) (g' := (mkF m 13 #[.val (.int p0), .val (.int p1), .val (.int p2), .val (.int p3), .val (.int p4), .val (.int (2 : Int32)), .val (.int b0), .val (.int b1), .unset, .unset, .unset, .unset, .unset, .unset, .unset] [])) (fun t k => XS.istore X0.here hx rfl (hb hby at_11) rfl (l' := #[.val (.int p0), .val (.int p1), .val (.int p2), .val (.int p3), .val (.int p4), .val (.int (2 : Int32)), .val (.int b0), .val (.int b1), .unset, .unset, .unset, .unset, .unset, .unset, .unset]) rfl k) ?_
    refine own_step (T' := s₁) (g' := (mkF m 14 #[.val (.int p0), .val (.int p1), .val (.int p2), .val (.int p3), .val (.int p4), .val (.int (2 : Int32)), .val (.int b0), .val (.int b1), .unset, .unset, .unset, .unset, .unset, .unset, .unset] [(.int p3)])) (fun t k => XS.iloadN X0.here hx rfl (hb hby at_13) rfl k) ?_
    refine own_step (T' := s₁) (g' := (mkF m 15 #[.val (.int p0), .val (.int p1), .val (.int p2), .val (.int p3), .val (.int p4), .val (.int (2 : Int32)), .val (.int b0), .val (.int b1), .unset, .unset, .unset, .unset, .unset, .unset, .unset] [(.int (p3.toInt8.toInt32))])) (fun t k => XS.i2b X0.here hx rfl (hb hby at_14) rfl k) ?_
    generalize hd_b2 : (p3.toInt8.toInt32) = b2
    refine own_step (T' := s₁) (g' := (mkF m 17 #[.val (.int p0), .val (.int p1), .val (.int p2), .val (.int p3), .val (.int p4), .val (.int (2 : Int32)), .val (.int b0), .val (.int b1), .val (.int b2), .unset, .unset, .unset, .unset, .unset, .unset] [])) (fun t k => XS.istore X0.here hx rfl (hb hby at_15) rfl (l' := #[.val (.int p0), .val (.int p1), .val (.int p2), .val (.int p3), .val (.int p4), .val (.int (2 : Int32)), .val (.int b0), .val (.int b1), .val (.int b2), .unset, .unset, .unset, .unset, .unset, .unset]) rfl k) ?_
    refine own_step (T' := s₁) (g' := (mkF m 19 #[.val (.int p0), .val (.int p1), .val (.int p2), .val (.int p3), .val (.int p4), .val (.int (2 : Int32)), .val (.int b0), .val (.int b1), .val (.int b2), .unset, .unset, .unset, .unset, .unset, .unset] [(.int (2 : Int32))])) (fun t k => XS.iload X0.here hx rfl (hb hby at_17) rfl k) ?_
    refine own_step (T' := s₁) (g' := (mkF m 21 #[.val (.int p0), .val (.int p1), .val (.int p2), .val (.int p3), .val (.int p4), .val (.int (2 : Int32)), .val (.int b0), .val (.int b1), .val (.int b2), .unset, .unset, .unset, .unset, .unset, .unset] [(.int b0), (.int (2 : Int32))])) (fun t k => XS.iload X0.here hx rfl (hb hby at_19) rfl k) ?_
    refine own_step (T' := s₁) (g' := (mkF m 23 #[.val (.int p0), .val (.int p1), .val (.int p2), .val (.int p3), .val (.int p4), .val (.int (2 : Int32)), .val (.int b0), .val (.int b1), .val (.int b2), .unset, .unset, .unset, .unset, .unset, .unset] [(.int b1), (.int b0), (.int (2 : Int32))])) (fun t k => XS.iload X0.here hx rfl (hb hby at_21) rfl k) ?_
    refine own_step (T' := s₁) (g' := (mkF m 25 #[.val (.int p0), .val (.int p1), .val (.int p2), .val (.int p3), .val (.int p4), .val (.int (2 : Int32)), .val (.int b0), .val (.int b1), .val (.int b2), .unset, .unset, .unset, .unset, .unset, .unset] [(.int b2), (.int b1), (.int b0), (.int (2 : Int32))])) (fun t k => XS.iload X0.here hx rfl (hb hby at_23) rfl k) ?_
    obtain ⟨_, _, ⟨T64, L64, k64, n64⟩, -, X64, ⟨Lc64, hQ64, lq64, yq64, zq64⟩, st64⟩ := Jvm.LawKit.callS X0 hx (y := (⟨"com/example/kempt_cursor/kemptcursor/ByteKeyOfPinLaw", "make", "(IBBB)[B"⟩ : MethodName)) hown (mvT hZ (hw _ (List.mem_of_getElem? (i := 0) rfl))) (mvT hZ (hw _ (List.mem_of_getElem? (i := 1) rfl))) (mvT hZ (hw _ (List.mem_of_getElem? (i := 2) rfl))) (mvT hZ (hw _ (List.mem_of_getElem? (i := 3) rfl))) (by decide) (backOf (W := 0) (rm_make2 l Z a0 hw [] b0 b1 b2 h0 n0 Z0 ) hZ (hw _ (List.mem_of_getElem? (i := 3) rfl)) (hw _ (List.mem_of_getElem? (i := 2) rfl)) (by decide) (by decide)) (g := (mkF m 25 #[.val (.int p0), .val (.int p1), .val (.int p2), .val (.int p3), .val (.int p4), .val (.int (2 : Int32)), .val (.int b0), .val (.int b1), .val (.int b2), .unset, .unset, .unset, .unset, .unset, .unset] [(.int b2), (.int b1), (.int b0), (.int (2 : Int32))])) rfl (by rw [hml]; rfl) (argsL := [(.int (2 : Int32)), (.int b0), (.int b1), (.int b2)]) (rest := []) (lenOf pd_1 rfl) rfl (by show 2 * 0 + _ ≤ _; exact Nat.le_of_eq rfl) (hb hby at_25) (fun _ _ => ⟨rfl, e0, (by decide : 0 + 1 ≤ _), (by decide : 0 + 2 ≤ _)⟩)
    dsimp only [Pt.U, Pt.locs, Pt.cells, Pt.slots] at X64 lq64 yq64 zq64 st64 hQ64
    subst lq64 yq64 zq64
    obtain ⟨a60, k60, rfl, Nq64, K61, fz_a60, g62, g63⟩ := hQ64
    have N64 := Fr.app N0 Nq64
    have oz_a60 : n0 ≤ a60 := Nat.le_trans Z0 fz_a60
    have Z61 : n0 ≤ T64.heap.size := (Nat.le_trans Z0 K61.1)
    refine own_step (T' := T64) (g' := (mkF m 28 #[.val (.int p0), .val (.int p1), .val (.int p2), .val (.int p3), .val (.int p4), .val (.int (2 : Int32)), .val (.int b0), .val (.int b1), .val (.int b2), .unset, .unset, .unset, .unset, .unset, .unset] [(.ref a60)])) st64 ?_
    refine own_step (T' := T64) (g' := (mkF m 30 #[.val (.int p0), .val (.int p1), .val (.int p2), .val (.int p3), .val (.int p4), .val (.int (2 : Int32)), .val (.int b0), .val (.int b1), .val (.int b2), .val (.ref a60), .unset, .unset, .unset, .unset, .unset] [])) (fun t k => XS.astore X64.here hx rfl (hb hby at_28) rfl rfl (l' := #[.val (.int p0), .val (.int p1), .val (.int p2), .val (.int p3), .val (.int p4), .val (.int (2 : Int32)), .val (.int b0), .val (.int b1), .val (.int b2), .val (.ref a60), .unset, .unset, .unset, .unset, .unset]) rfl k) ?_
    refine own_step (T' := T64) (g' := (mkF m 32 #[.val (.int p0), .val (.int p1), .val (.int p2), .val (.int p3), .val (.int p4), .val (.int (2 : Int32)), .val (.int b0), .val (.int b1), .val (.int b2), .val (.ref a60), .unset, .unset, .unset, .unset, .unset] [(.ref a60)])) (fun t k => XS.aload X64.here hx rfl (hb hby at_30) rfl rfl k) ?_
    obtain ⟨_, _, ⟨T71, L71, k71, n71⟩, -, X71, ⟨Lc71, hQ71, lq71, yq71, zq71⟩, st71⟩ := Jvm.LawKit.callS X64 hx (y := (⟨"com/example/kempt_cursor/kemptcursor/ByteKey", "of", "([B)Lcom/example/kempt_cursor/kemptcursor/ByteKey;"⟩ : MethodName)) hown (mvT hZ (hw _ (List.mem_of_getElem? (i := 5) rfl))) (mvT hZ (hw _ (List.mem_of_getElem? (i := 6) rfl))) (mvT hZ (hw _ (List.mem_of_getElem? (i := 7) rfl))) (mvT hZ (hw _ (List.mem_of_getElem? (i := 8) rfl))) (by decide) (backOf (W := 0) (rm_of2 l Z a0 hw [] a60 (nar .byte b0) (nar .byte b1) k60 T64.heap n0 Z61 g62 g63) hZ (hw _ (List.mem_of_getElem? (i := 8) rfl)) (hw _ (List.mem_of_getElem? (i := 7) rfl)) (by decide) (by decide)) (g := (mkF m 32 #[.val (.int p0), .val (.int p1), .val (.int p2), .val (.int p3), .val (.int p4), .val (.int (2 : Int32)), .val (.int b0), .val (.int b1), .val (.int b2), .val (.ref a60), .unset, .unset, .unset, .unset, .unset] [(.ref a60)])) rfl (by rw [hml]; rfl) (argsL := [(.ref a60)]) (rest := []) (lenOf pd_2 rfl) rfl (by show 2 * 0 + _ ≤ _; exact Nat.le_of_eq rfl) (hb hby at_32) (fun _ _ => ⟨rfl, rfl, (by decide : 1 + 2 ≤ _), (by decide : 2 + 3 ≤ _)⟩)
    dsimp only [Pt.U, Pt.locs, Pt.cells, Pt.slots] at X71 lq71 yq71 zq71 st71 hQ71
    subst lq71 yq71 zq71
    obtain ⟨a65b, a65q, k65, rfl, Nq71, K66, fz_a65b, fz_a65q, nz_a65b_a65q, g67, g68, g69, g70⟩ := hQ71
    have N71 := Fr.app N64 Nq71
    have oz_a65b : n0 ≤ a65b := Nat.le_trans Z61 fz_a65b
    have nz_a60_a65b : a60 ≠ a65b := Nat.ne_of_lt (Nat.lt_of_lt_of_le g62.lt fz_a65b)
    have oz_a65q : n0 ≤ a65q := Nat.le_trans Z61 fz_a65q
    have nz_a60_a65q : a60 ≠ a65q := Nat.ne_of_lt (Nat.lt_of_lt_of_le g62.lt fz_a65q)
    have g72 : Arv Z T71.heap a60 k60 .byte (2 : Int32) [(.int (nar .byte b0)), (.int (nar .byte b1))] (.int (0 : Int32)) := g62.keep K66 nin0
    have g73 : Exa Z T71.heap a60 "[B" := g63.keep K66
    have Z66 : n0 ≤ T71.heap.size := (Nat.le_trans Z61 K66.1)
    refine own_step (T' := T71) (g' := (mkF m 35 #[.val (.int p0), .val (.int p1), .val (.int p2), .val (.int p3), .val (.int p4), .val (.int (2 : Int32)), .val (.int b0), .val (.int b1), .val (.int b2), .val (.ref a60), .unset, .unset, .unset, .unset, .unset] [(.ref a65b)])) st71 ?_
    refine own_step (T' := T71) (g' := (mkF m 37 #[.val (.int p0), .val (.int p1), .val (.int p2), .val (.int p3), .val (.int p4), .val (.int (2 : Int32)), .val (.int b0), .val (.int b1), .val (.int b2), .val (.ref a60), .val (.ref a65b), .unset, .unset, .unset, .unset] [])) (fun t k => XS.astore X71.here hx rfl (hb hby at_35) rfl rfl (l' := #[.val (.int p0), .val (.int p1), .val (.int p2), .val (.int p3), .val (.int p4), .val (.int (2 : Int32)), .val (.int b0), .val (.int b1), .val (.int b2), .val (.ref a60), .val (.ref a65b), .unset, .unset, .unset, .unset]) rfl k) ?_
    refine own_step (T' := T71) (g' := (mkF m 39 #[.val (.int p0), .val (.int p1), .val (.int p2), .val (.int p3), .val (.int p4), .val (.int (2 : Int32)), .val (.int b0), .val (.int b1), .val (.int b2), .val (.ref a60), .val (.ref a65b), .unset, .unset, .unset, .unset] [(.int (2 : Int32))])) (fun t k => XS.iload X71.here hx rfl (hb hby at_37) rfl k) ?_
    refine own_step (T' := T71) (g' := (mkF m 42 #[.val (.int p0), .val (.int p1), .val (.int p2), .val (.int p3), .val (.int p4), .val (.int (2 : Int32)), .val (.int b0), .val (.int b1), .val (.int b2), .val (.ref a60), .val (.ref a65b), .unset, .unset, .unset, .unset] [])) (fun t k => XS.ifNo X71.here hx rfl (hb hby at_39) rfl ((if0 _ _).trans (tlt (by decide : ((0 : Int32) < (2 : Int32)))).2.2.2) k) ?_
    refine own_step (T' := T71) (g' := (mkF m 44 #[.val (.int p0), .val (.int p1), .val (.int p2), .val (.int p3), .val (.int p4), .val (.int (2 : Int32)), .val (.int b0), .val (.int b1), .val (.int b2), .val (.ref a60), .val (.ref a65b), .unset, .unset, .unset, .unset] [(.int p4)])) (fun t k => XS.iload X71.here hx rfl (hb hby at_42) rfl k) ?_
    refine own_step (T' := T71) (g' := (mkF m 46 #[.val (.int p0), .val (.int p1), .val (.int p2), .val (.int p3), .val (.int p4), .val (.int (2 : Int32)), .val (.int b0), .val (.int b1), .val (.int b2), .val (.ref a60), .val (.ref a65b), .unset, .unset, .unset, .unset] [(.int (2147483647 : Int32)), (.int p4)])) (X71.ldcInt hx hown (mvT hZ (hw _ (List.mem_of_getElem? (i := 33) rfl))) (g := (mkF m 44 #[.val (.int p0), .val (.int p1), .val (.int p2), .val (.int p3), .val (.int p4), .val (.int (2 : Int32)), .val (.int b0), .val (.int b1), .val (.int b2), .val (.ref a60), .val (.ref a65b), .unset, .unset, .unset, .unset] [(.int p4)])) rfl (hb hby at_44)) ?_
    refine own_step (T' := T71) (g' := (mkF m 47 #[.val (.int p0), .val (.int p1), .val (.int p2), .val (.int p3), .val (.int p4), .val (.int (2 : Int32)), .val (.int b0), .val (.int b1), .val (.int b2), .val (.ref a60), .val (.ref a65b), .unset, .unset, .unset, .unset] [(.int (p4 &&& (2147483647 : Int32)))])) (fun t k => XS.iand X71.here hx rfl (hb hby at_46) rfl k) ?_
    refine own_step (T' := T71) (g' := (mkF m 49 #[.val (.int p0), .val (.int p1), .val (.int p2), .val (.int p3), .val (.int p4), .val (.int (2 : Int32)), .val (.int b0), .val (.int b1), .val (.int b2), .val (.ref a60), .val (.ref a65b), .unset, .unset, .unset, .unset] [(.int (2 : Int32)), (.int (p4 &&& (2147483647 : Int32)))])) (fun t k => XS.iload X71.here hx rfl (hb hby at_47) rfl k) ?_
    refine own_step (T' := T71) (g' := (mkF m 50 #[.val (.int p0), .val (.int p1), .val (.int p2), .val (.int p3), .val (.int p4), .val (.int (2 : Int32)), .val (.int b0), .val (.int b1), .val (.int b2), .val (.ref a60), .val (.ref a65b), .unset, .unset, .unset, .unset] [(.int ((p4 &&& (2147483647 : Int32)) % (2 : Int32)))])) (fun t k => iremM (g := (mkF m 49 #[.val (.int p0), .val (.int p1), .val (.int p2), .val (.int p3), .val (.int p4), .val (.int (2 : Int32)), .val (.int b0), .val (.int b1), .val (.int b2), .val (.ref a60), .val (.ref a65b), .unset, .unset, .unset, .unset] [(.int (2 : Int32)), (.int (p4 &&& (2147483647 : Int32)))])) X71 hx rfl (hb hby at_49) rfl (by decide) k) ?_
    generalize hd_ix : ((p4 &&& (2147483647 : Int32)) % (2 : Int32)) = ix
    refine own_step (T' := T71) (g' := (mkF m 52 #[.val (.int p0), .val (.int p1), .val (.int p2), .val (.int p3), .val (.int p4), .val (.int (2 : Int32)), .val (.int b0), .val (.int b1), .val (.int b2), .val (.ref a60), .val (.ref a65b), .val (.int ix), .unset, .unset, .unset] [])) (fun t k => XS.istore X71.here hx rfl (hb hby at_50) rfl (l' := #[.val (.int p0), .val (.int p1), .val (.int p2), .val (.int p3), .val (.int p4), .val (.int (2 : Int32)), .val (.int b0), .val (.int b1), .val (.int b2), .val (.ref a60), .val (.ref a65b), .val (.int ix), .unset, .unset, .unset]) rfl k) ?_
    refine own_step (T' := T71) (g' := (mkF m 54 #[.val (.int p0), .val (.int p1), .val (.int p2), .val (.int p3), .val (.int p4), .val (.int (2 : Int32)), .val (.int b0), .val (.int b1), .val (.int b2), .val (.ref a60), .val (.ref a65b), .val (.int ix), .unset, .unset, .unset] [(.ref a60)])) (fun t k => XS.aload X71.here hx rfl (hb hby at_52) rfl rfl k) ?_
    refine own_step (T' := T71) (g' := (mkF m 56 #[.val (.int p0), .val (.int p1), .val (.int p2), .val (.int p3), .val (.int p4), .val (.int (2 : Int32)), .val (.int b0), .val (.int b1), .val (.int b2), .val (.ref a60), .val (.ref a65b), .val (.int ix), .unset, .unset, .unset] [(.int ix), (.ref a60)])) (fun t k => XS.iload X71.here hx rfl (hb hby at_54) rfl k) ?_
    refine own_step (T' := T71) (g' := (mkF m 58 #[.val (.int p0), .val (.int p1), .val (.int p2), .val (.int p3), .val (.int p4), .val (.int (2 : Int32)), .val (.int b0), .val (.int b1), .val (.int b2), .val (.ref a60), .val (.ref a65b), .val (.int ix), .unset, .unset, .unset] [(.ref a60), (.int ix), (.ref a60)])) (fun t k => XS.aload X71.here hx rfl (hb hby at_56) rfl rfl k) ?_
    refine own_step (T' := T71) (g' := (mkF m 60 #[.val (.int p0), .val (.int p1), .val (.int p2), .val (.int p3), .val (.int p4), .val (.int (2 : Int32)), .val (.int b0), .val (.int b1), .val (.int b2), .val (.ref a60), .val (.ref a65b), .val (.int ix), .unset, .unset, .unset] [(.int ix), (.ref a60), (.int ix), (.ref a60)])) (fun t k => XS.iload X71.here hx rfl (hb hby at_58) rfl k) ?_
    obtain ⟨cl74, Ar74, qa74, S74, M74, H74, U74⟩ := id g72
    have hix := own_remk p4 (2 : Int32) 2 (by decide) (by decide)
    rw [hd_ix] at hix
    obtain ⟨zz, hzz⟩ : ∃ z, ([(.int (nar .byte b0)), (.int (nar .byte b1))] : List Value).getD ix.toNatClampNeg (.int (0 : Int32)) = .int z := by
      obtain ⟨cz, Az, qz, Sz, Mz, Hz, Uz⟩ := id g72
      exact own_fitB (Uz _ (Nat.lt_of_not_le fun y => inb_of Sz hix (Or.inr y)))
    have hi74 := inb_of S74 (j := ix) hix
    have hat74 := H74.at hi74 (v := (.int zz)) hzz
    refine own_step (T' := T71) (g' := (mkF m 61 #[.val (.int p0), .val (.int p1), .val (.int p2), .val (.int p3), .val (.int p4), .val (.int (2 : Int32)), .val (.int b0), .val (.int b1), .val (.int b2), .val (.ref a60), .val (.ref a65b), .val (.int ix), .unset, .unset, .unset] [(.int zz), (.int ix), (.ref a60)])) (fun t k => X71.baloadBytes hx (j := ix) (v := (.int zz)) Ar74.1 (State.isArrayOf_alike hZ.alike Ar74.2.1) Ar74.2.2 hi74 hat74 (g := (mkF m 60 #[.val (.int p0), .val (.int p1), .val (.int p2), .val (.int p3), .val (.int p4), .val (.int (2 : Int32)), .val (.int b0), .val (.int b1), .val (.int b2), .val (.ref a60), .val (.ref a65b), .val (.int ix), .unset, .unset, .unset] [(.int ix), (.ref a60), (.int ix), (.ref a60)])) rfl rfl (hb hby at_60) t k) ?_
    refine own_step (T' := T71) (g' := (mkF m 62 #[.val (.int p0), .val (.int p1), .val (.int p2), .val (.int p3), .val (.int p4), .val (.int (2 : Int32)), .val (.int b0), .val (.int b1), .val (.int b2), .val (.ref a60), .val (.ref a65b), .val (.int ix), .unset, .unset, .unset] [(.int (1 : Int32)), (.int zz), (.int ix), (.ref a60)])) (fun t k => XS.iconst X71.here hx rfl (hb hby at_61) k) ?_
    refine own_step (T' := T71) (g' := (mkF m 63 #[.val (.int p0), .val (.int p1), .val (.int p2), .val (.int p3), .val (.int p4), .val (.int (2 : Int32)), .val (.int b0), .val (.int b1), .val (.int b2), .val (.ref a60), .val (.ref a65b), .val (.int ix), .unset, .unset, .unset] [(.int (zz + (1 : Int32))), (.int ix), (.ref a60)])) (fun t k => XS.iadd X71.here hx rfl (hb hby at_62) rfl k) ?_
    refine own_step (T' := T71) (g' := (mkF m 64 #[.val (.int p0), .val (.int p1), .val (.int p2), .val (.int p3), .val (.int p4), .val (.int (2 : Int32)), .val (.int b0), .val (.int b1), .val (.int b2), .val (.ref a60), .val (.ref a65b), .val (.int ix), .unset, .unset, .unset] [(.int ((zz + (1 : Int32)).toInt8.toInt32)), (.int ix), (.ref a60)])) (fun t k => XS.i2b X71.here hx rfl (hb hby at_63) rfl k) ?_
    obtain ⟨cl75, Ar75, qa75, S75, M75, H75, U75⟩ := id g72
    obtain ⟨T75, h75, X75, e75, W75, st75⟩ := stB X71 hx hZ rfl Ar75 (j := ix) (inb_of S75 hix) (g := (mkF m 64 #[.val (.int p0), .val (.int p1), .val (.int p2), .val (.int p3), .val (.int p4), .val (.int (2 : Int32)), .val (.int b0), .val (.int b1), .val (.int b2), .val (.ref a60), .val (.ref a65b), .val (.int ix), .unset, .unset, .unset] [(.int ((zz + (1 : Int32)).toInt8.toInt32)), (.int ix), (.ref a60)])) rfl rfl (hb hby at_64)
    have g76 : Exa Z h75 a60 "[B" := g73.wr W75
    have g77 : Exa Z h75 a65b "com/example/kempt_cursor/kemptcursor/ByteKey" := g67.wr W75
    have g78 : Fld Z h75 a65b "com/example/kempt_cursor/kemptcursor/ByteKey" "bytes" "[B" (.ref a65q) := g68.other W75 (Or.inl (Ne.symm nz_a60_a65b))
    have g79 : Arv Z h75 a65q k65 .byte (2 : Int32) [(.int (nar .byte b0)), (.int (nar .byte b1))] (.int (0 : Int32)) := g69.other W75 (Ne.symm nz_a60_a65q)
    have g80 : Exa Z h75 a65q "[B" := g70.wr W75
    have N75 := Fr.snoc X75 N71 oz_a60
    have Z75 : n0 ≤ h75.size := (Nat.le_trans Z66 (Nat.le_of_eq W75.size.symm))
    refine own_step (T' := T75) (g' := (mkF m 65 #[.val (.int p0), .val (.int p1), .val (.int p2), .val (.int p3), .val (.int p4), .val (.int (2 : Int32)), .val (.int b0), .val (.int b1), .val (.int b2), .val (.ref a60), .val (.ref a65b), .val (.int ix), .unset, .unset, .unset] [])) st75 ?_
    refine own_step (T' := T75) (g' := (mkF m 67 #[.val (.int p0), .val (.int p1), .val (.int p2), .val (.int p3), .val (.int p4), .val (.int (2 : Int32)), .val (.int b0), .val (.int b1), .val (.int b2), .val (.ref a60), .val (.ref a65b), .val (.int ix), .unset, .unset, .unset] [(.ref a65b)])) (fun t k => XS.aload X75.here hx rfl (hb hby at_65) rfl rfl k) ?_
    obtain ⟨cq85, kq85, q85a, q85b, q85c⟩ := isOf hZ e75 g77
    obtain ⟨_, _, ⟨T84, L84, k84, n84⟩, -, X84, ⟨Lc84, hQ84, lq84, yq84, zq84⟩, st84⟩ := X75.virtualBack hx (y := (⟨"com/example/kempt_cursor/kemptcursor/ByteKey", "toByteArray", "()[B"⟩ : MethodName)) (z := (⟨"com/example/kempt_cursor/kemptcursor/ByteKey", "toByteArray", "()[B"⟩ : MethodName)) hown (mvT hZ (hw _ (List.mem_of_getElem? (i := 28) rfl))) (mvT hZ (hw _ (List.mem_of_getElem? (i := 29) rfl))) (notFace_of_selects (args := #[]) (mvT hZ (hw _ (List.mem_of_getElem? (i := 31) rfl)))) (mvT hZ (hw _ (List.mem_of_getElem? (i := 31) rfl))) (mvT hZ (hw _ (List.mem_of_getElem? (i := 30) rfl))) (by decide) (backOf (W := 0) (rm_to2 l Z a0 hw [] a65b a65q (nar .byte b0) (nar .byte b1) k65 h75 n0 Z75 g78 g79 g80) hZ (hw _ (List.mem_of_getElem? (i := 32) rfl)) (hw _ (List.mem_of_getElem? (i := 7) rfl)) (by decide) (by decide)) q85a q85c (g := (mkF m 67 #[.val (.int p0), .val (.int p1), .val (.int p2), .val (.int p3), .val (.int p4), .val (.int (2 : Int32)), .val (.int b0), .val (.int b1), .val (.int b2), .val (.ref a60), .val (.ref a65b), .val (.int ix), .unset, .unset, .unset] [(.ref a65b)])) rfl (by rw [hml]; rfl) (Steps.refl _) (argsL := []) (rest := []) (lenOf pd_3 rfl) rfl (by show 2 * 0 + _ ≤ _; exact Nat.le_of_eq rfl) (hb hby at_67) (fun _ _ => ⟨rfl, e75, (by decide : 3 + 1 ≤ _), (by decide : 5 + 2 ≤ _)⟩)
    dsimp only [Pt.U, Pt.locs, Pt.cells, Pt.slots] at X84 lq84 yq84 zq84 st84 hQ84
    subst lq84 yq84 zq84
    obtain ⟨a81, k81, rfl, Nq84, K82, fz_a81, g83⟩ := hQ84
    have N84 := Fr.app N75 Nq84
    have oz_a81 : n0 ≤ a81 := Nat.le_trans Z75 fz_a81
    have nz_a60_a81 : a60 ≠ a81 := Nat.ne_of_lt (Nat.lt_of_lt_of_le g76.lt fz_a81)
    have nz_a65b_a81 : a65b ≠ a81 := Nat.ne_of_lt (Nat.lt_of_lt_of_le g77.lt fz_a81)
    have nz_a65q_a81 : a65q ≠ a81 := Nat.ne_of_lt (Nat.lt_of_lt_of_le g79.lt fz_a81)
    have g86 : Exa Z T84.heap a60 "[B" := g76.keep K82
    have g87 : Exa Z T84.heap a65b "com/example/kempt_cursor/kemptcursor/ByteKey" := g77.keep K82
    have g88 : Fld Z T84.heap a65b "com/example/kempt_cursor/kemptcursor/ByteKey" "bytes" "[B" (.ref a65q) := g78.keep K82 nin0
    have g89 : Arv Z T84.heap a65q k65 .byte (2 : Int32) [(.int (nar .byte b0)), (.int (nar .byte b1))] (.int (0 : Int32)) := g79.keep K82 nin0
    have g90 : Exa Z T84.heap a65q "[B" := g80.keep K82
    have Z82 : n0 ≤ T84.heap.size := (Nat.le_trans Z75 K82.1)
    refine own_tr (T' := T84) (g' := (mkF m 70 #[.val (.int p0), .val (.int p1), .val (.int p2), .val (.int p3), .val (.int p4), .val (.int (2 : Int32)), .val (.int b0), .val (.int b1), .val (.int b2), .val (.ref a60), .val (.ref a65b), .val (.int ix), .unset, .unset, .unset] [(.ref a81)])) st84 ?_
    refine own_step (T' := T84) (g' := (mkF m 72 #[.val (.int p0), .val (.int p1), .val (.int p2), .val (.int p3), .val (.int p4), .val (.int (2 : Int32)), .val (.int b0), .val (.int b1), .val (.int b2), .val (.ref a60), .val (.ref a65b), .val (.ref a81), .unset, .unset, .unset] [])) (fun t k => XS.astore X84.here hx rfl (hb hby at_70) rfl rfl (l' := #[.val (.int p0), .val (.int p1), .val (.int p2), .val (.int p3), .val (.int p4), .val (.int (2 : Int32)), .val (.int b0), .val (.int b1), .val (.int b2), .val (.ref a60), .val (.ref a65b), .val (.ref a81), .unset, .unset, .unset]) rfl k) ?_
    refine own_step (T' := T84) (g' := (mkF m 74 #[.val (.int p0), .val (.int p1), .val (.int p2), .val (.int p3), .val (.int p4), .val (.int (2 : Int32)), .val (.int b0), .val (.int b1), .val (.int b2), .val (.ref a60), .val (.ref a65b), .val (.ref a81), .unset, .unset, .unset] [(.ref a81)])) (fun t k => XS.aload X84.here hx rfl (hb hby at_72) rfl rfl k) ?_
    refine own_step (T' := T84) (g' := (mkF m 77 #[.val (.int p0), .val (.int p1), .val (.int p2), .val (.int p3), .val (.int p4), .val (.int (2 : Int32)), .val (.int b0), .val (.int b1), .val (.int b2), .val (.ref a60), .val (.ref a65b), .val (.ref a81), .unset, .unset, .unset] [])) (fun t k => XS.ifnullNo X84.here hx rfl (hb hby at_74) rfl k) ?_
    refine own_step (T' := T84) (g' := (mkF m 79 #[.val (.int p0), .val (.int p1), .val (.int p2), .val (.int p3), .val (.int p4), .val (.int (2 : Int32)), .val (.int b0), .val (.int b1), .val (.int b2), .val (.ref a60), .val (.ref a65b), .val (.ref a81), .unset, .unset, .unset] [(.ref a81)])) (fun t k => XS.aload X84.here hx rfl (hb hby at_77) rfl rfl k) ?_
    obtain ⟨cl91, Ar91, qa91, S91, M91, H91, U91⟩ := id g83
    have ln91 := len_of S91 M91
    refine own_step (T' := T84) (g' := (mkF m 80 #[.val (.int p0), .val (.int p1), .val (.int p2), .val (.int p3), .val (.int p4), .val (.int (2 : Int32)), .val (.int b0), .val (.int b1), .val (.int b2), .val (.ref a60), .val (.ref a65b), .val (.ref a81), .unset, .unset, .unset] [(.int (2 : Int32))])) (fun t k => X84.arraylength hx (cell := cl91) Ar91.1 (State.isArrayOf_alike hZ.alike Ar91.2.1) (g := (mkF m 79 #[.val (.int p0), .val (.int p1), .val (.int p2), .val (.int p3), .val (.int p4), .val (.int (2 : Int32)), .val (.int b0), .val (.int b1), .val (.int b2), .val (.ref a60), .val (.ref a65b), .val (.ref a81), .unset, .unset, .unset] [(.ref a81)])) rfl rfl (hb hby at_79) t (by rw [ln91]; exact k)) ?_
    refine own_step (T' := T84) (g' := (mkF m 82 #[.val (.int p0), .val (.int p1), .val (.int p2), .val (.int p3), .val (.int p4), .val (.int (2 : Int32)), .val (.int b0), .val (.int b1), .val (.int b2), .val (.ref a60), .val (.ref a65b), .val (.ref a81), .unset, .unset, .unset] [(.int (2 : Int32)), (.int (2 : Int32))])) (fun t k => XS.iload X84.here hx rfl (hb hby at_80) rfl k) ?_
    refine own_step (T' := T84) (g' := (mkF m 87 #[.val (.int p0), .val (.int p1), .val (.int p2), .val (.int p3), .val (.int p4), .val (.int (2 : Int32)), .val (.int b0), .val (.int b1), .val (.int b2), .val (.ref a60), .val (.ref a65b), .val (.ref a81), .unset, .unset, .unset] [])) (fun t k => XS.icmpYes X84.here hx rfl (pc0 := 82) (pc' := 87) rfl (hb hby at_82) rfl (teq (by decide : ((2 : Int32) = (2 : Int32)))).1 (by decide) (by decide) k) ?_
    refine own_step (T' := T84) (g' := (mkF m 89 #[.val (.int p0), .val (.int p1), .val (.int p2), .val (.int p3), .val (.int p4), .val (.int (2 : Int32)), .val (.int b0), .val (.int b1), .val (.int b2), .val (.ref a60), .val (.ref a65b), .val (.ref a81), .unset, .unset, .unset] [(.int (2 : Int32))])) (fun t k => XS.iload X84.here hx rfl (hb hby at_87) rfl k) ?_
    refine own_step (T' := T84) (g' := (mkF m 90 #[.val (.int p0), .val (.int p1), .val (.int p2), .val (.int p3), .val (.int p4), .val (.int (2 : Int32)), .val (.int b0), .val (.int b1), .val (.int b2), .val (.ref a60), .val (.ref a65b), .val (.ref a81), .unset, .unset, .unset] [(.int (1 : Int32)), (.int (2 : Int32))])) (fun t k => XS.iconst X84.here hx rfl (hb hby at_89) k) ?_
    refine own_step (T' := T84) (g' := (mkF m 93 #[.val (.int p0), .val (.int p1), .val (.int p2), .val (.int p3), .val (.int p4), .val (.int (2 : Int32)), .val (.int b0), .val (.int b1), .val (.int b2), .val (.ref a60), .val (.ref a65b), .val (.ref a81), .unset, .unset, .unset] [])) (fun t k => XS.icmpNo X84.here hx rfl (hb hby at_90) rfl (flt (by decide : ¬ ((2 : Int32) < (1 : Int32)))).1 k) ?_
    refine own_step (T' := T84) (g' := (mkF m 95 #[.val (.int p0), .val (.int p1), .val (.int p2), .val (.int p3), .val (.int p4), .val (.int (2 : Int32)), .val (.int b0), .val (.int b1), .val (.int b2), .val (.ref a60), .val (.ref a65b), .val (.ref a81), .unset, .unset, .unset] [(.ref a81)])) (fun t k => XS.aload X84.here hx rfl (hb hby at_93) rfl rfl k) ?_
    refine own_step (T' := T84) (g' := (mkF m 96 #[.val (.int p0), .val (.int p1), .val (.int p2), .val (.int p3), .val (.int p4), .val (.int (2 : Int32)), .val (.int b0), .val (.int b1), .val (.int b2), .val (.ref a60), .val (.ref a65b), .val (.ref a81), .unset, .unset, .unset] [(.int (0 : Int32)), (.ref a81)])) (fun t k => XS.iconst X84.here hx rfl (hb hby at_95) k) ?_
    obtain ⟨cl92, Ar92, qa92, S92, M92, H92, U92⟩ := id g83
    have hi92 := inb_of S92 (j := (0 : Int32)) ⟨by decide, by decide⟩
    have hat92 := H92.at hi92 (v := (.int (nar .byte b0))) rfl
    refine own_step (T' := T84) (g' := (mkF m 97 #[.val (.int p0), .val (.int p1), .val (.int p2), .val (.int p3), .val (.int p4), .val (.int (2 : Int32)), .val (.int b0), .val (.int b1), .val (.int b2), .val (.ref a60), .val (.ref a65b), .val (.ref a81), .unset, .unset, .unset] [(.int (nar .byte b0))])) (fun t k => X84.baloadBytes hx (j := (0 : Int32)) (v := (.int (nar .byte b0))) Ar92.1 (State.isArrayOf_alike hZ.alike Ar92.2.1) Ar92.2.2 hi92 hat92 (g := (mkF m 96 #[.val (.int p0), .val (.int p1), .val (.int p2), .val (.int p3), .val (.int p4), .val (.int (2 : Int32)), .val (.int b0), .val (.int b1), .val (.int b2), .val (.ref a60), .val (.ref a65b), .val (.ref a81), .unset, .unset, .unset] [(.int (0 : Int32)), (.ref a81)])) rfl rfl (hb hby at_96) t k) ?_
    refine own_step (T' := T84) (g' := (mkF m 99 #[.val (.int p0), .val (.int p1), .val (.int p2), .val (.int p3), .val (.int p4), .val (.int (2 : Int32)), .val (.int b0), .val (.int b1), .val (.int b2), .val (.ref a60), .val (.ref a65b), .val (.ref a81), .unset, .unset, .unset] [(.int b0), (.int (nar .byte b0))])) (fun t k => XS.iload X84.here hx rfl (hb hby at_97) rfl k) ?_
    refine own_step (T' := T84) (g' := (mkF m 102 #[.val (.int p0), .val (.int p1), .val (.int p2), .val (.int p3), .val (.int p4), .val (.int (2 : Int32)), .val (.int b0), .val (.int b1), .val (.int b2), .val (.ref a60), .val (.ref a65b), .val (.ref a81), .unset, .unset, .unset] [])) (fun t k => XS.icmpNo X84.here hx rfl (hb hby at_99) rfl (teq (by rw [← hd_b0]; exact own_nb _)).2 k) ?_
    refine own_step (T' := T84) (g' := (mkF m 103 #[.val (.int p0), .val (.int p1), .val (.int p2), .val (.int p3), .val (.int p4), .val (.int (2 : Int32)), .val (.int b0), .val (.int b1), .val (.int b2), .val (.ref a60), .val (.ref a65b), .val (.ref a81), .unset, .unset, .unset] [(.int (1 : Int32))])) (fun t k => XS.iconst X84.here hx rfl (hb hby at_102) k) ?_
    refine own_step (T' := T84) (g' := (mkF m 107 #[.val (.int p0), .val (.int p1), .val (.int p2), .val (.int p3), .val (.int p4), .val (.int (2 : Int32)), .val (.int b0), .val (.int b1), .val (.int b2), .val (.ref a60), .val (.ref a65b), .val (.ref a81), .unset, .unset, .unset] [(.int (1 : Int32))])) (fun t k => XS.goto X84.here hx rfl (pc0 := 103) (pc' := 107) rfl (hb hby at_103) (by decide) (by decide) k) ?_
    refine own_step (T' := T84) (g' := (mkF m 109 #[.val (.int p0), .val (.int p1), .val (.int p2), .val (.int p3), .val (.int p4), .val (.int (2 : Int32)), .val (.int b0), .val (.int b1), .val (.int b2), .val (.ref a60), .val (.ref a65b), .val (.ref a81), .val (.int (1 : Int32)), .unset, .unset] [])) (fun t k => XS.istore X84.here hx rfl (hb hby at_107) rfl (l' := #[.val (.int p0), .val (.int p1), .val (.int p2), .val (.int p3), .val (.int p4), .val (.int (2 : Int32)), .val (.int b0), .val (.int b1), .val (.int b2), .val (.ref a60), .val (.ref a65b), .val (.ref a81), .val (.int (1 : Int32)), .unset, .unset]) rfl k) ?_
    refine own_step (T' := T84) (g' := (mkF m 111 #[.val (.int p0), .val (.int p1), .val (.int p2), .val (.int p3), .val (.int p4), .val (.int (2 : Int32)), .val (.int b0), .val (.int b1), .val (.int b2), .val (.ref a60), .val (.ref a65b), .val (.ref a81), .val (.int (1 : Int32)), .unset, .unset] [(.int (2 : Int32))])) (fun t k => XS.iload X84.here hx rfl (hb hby at_109) rfl k) ?_
    refine own_step (T' := T84) (g' := (mkF m 112 #[.val (.int p0), .val (.int p1), .val (.int p2), .val (.int p3), .val (.int p4), .val (.int (2 : Int32)), .val (.int b0), .val (.int b1), .val (.int b2), .val (.ref a60), .val (.ref a65b), .val (.ref a81), .val (.int (1 : Int32)), .unset, .unset] [(.int (2 : Int32)), (.int (2 : Int32))])) (fun t k => XS.iconst X84.here hx rfl (hb hby at_111) k) ?_
    refine own_step (T' := T84) (g' := (mkF m 115 #[.val (.int p0), .val (.int p1), .val (.int p2), .val (.int p3), .val (.int p4), .val (.int (2 : Int32)), .val (.int b0), .val (.int b1), .val (.int b2), .val (.ref a60), .val (.ref a65b), .val (.ref a81), .val (.int (1 : Int32)), .unset, .unset] [])) (fun t k => XS.icmpNo X84.here hx rfl (hb hby at_112) rfl (flt (by decide : ¬ ((2 : Int32) < (2 : Int32)))).1 k) ?_
    refine own_step (T' := T84) (g' := (mkF m 117 #[.val (.int p0), .val (.int p1), .val (.int p2), .val (.int p3), .val (.int p4), .val (.int (2 : Int32)), .val (.int b0), .val (.int b1), .val (.int b2), .val (.ref a60), .val (.ref a65b), .val (.ref a81), .val (.int (1 : Int32)), .unset, .unset] [(.ref a81)])) (fun t k => XS.aload X84.here hx rfl (hb hby at_115) rfl rfl k) ?_
    refine own_step (T' := T84) (g' := (mkF m 118 #[.val (.int p0), .val (.int p1), .val (.int p2), .val (.int p3), .val (.int p4), .val (.int (2 : Int32)), .val (.int b0), .val (.int b1), .val (.int b2), .val (.ref a60), .val (.ref a65b), .val (.ref a81), .val (.int (1 : Int32)), .unset, .unset] [(.int (1 : Int32)), (.ref a81)])) (fun t k => XS.iconst X84.here hx rfl (hb hby at_117) k) ?_
    obtain ⟨cl93, Ar93, qa93, S93, M93, H93, U93⟩ := id g83
    have hi93 := inb_of S93 (j := (1 : Int32)) ⟨by decide, by decide⟩
    have hat93 := H93.at hi93 (v := (.int (nar .byte b1))) rfl
    refine own_step (T' := T84) (g' := (mkF m 119 #[.val (.int p0), .val (.int p1), .val (.int p2), .val (.int p3), .val (.int p4), .val (.int (2 : Int32)), .val (.int b0), .val (.int b1), .val (.int b2), .val (.ref a60), .val (.ref a65b), .val (.ref a81), .val (.int (1 : Int32)), .unset, .unset] [(.int (nar .byte b1))])) (fun t k => X84.baloadBytes hx (j := (1 : Int32)) (v := (.int (nar .byte b1))) Ar93.1 (State.isArrayOf_alike hZ.alike Ar93.2.1) Ar93.2.2 hi93 hat93 (g := (mkF m 118 #[.val (.int p0), .val (.int p1), .val (.int p2), .val (.int p3), .val (.int p4), .val (.int (2 : Int32)), .val (.int b0), .val (.int b1), .val (.int b2), .val (.ref a60), .val (.ref a65b), .val (.ref a81), .val (.int (1 : Int32)), .unset, .unset] [(.int (1 : Int32)), (.ref a81)])) rfl rfl (hb hby at_118) t k) ?_
    refine own_step (T' := T84) (g' := (mkF m 121 #[.val (.int p0), .val (.int p1), .val (.int p2), .val (.int p3), .val (.int p4), .val (.int (2 : Int32)), .val (.int b0), .val (.int b1), .val (.int b2), .val (.ref a60), .val (.ref a65b), .val (.ref a81), .val (.int (1 : Int32)), .unset, .unset] [(.int b1), (.int (nar .byte b1))])) (fun t k => XS.iload X84.here hx rfl (hb hby at_119) rfl k) ?_
    refine own_step (T' := T84) (g' := (mkF m 124 #[.val (.int p0), .val (.int p1), .val (.int p2), .val (.int p3), .val (.int p4), .val (.int (2 : Int32)), .val (.int b0), .val (.int b1), .val (.int b2), .val (.ref a60), .val (.ref a65b), .val (.ref a81), .val (.int (1 : Int32)), .unset, .unset] [])) (fun t k => XS.icmpNo X84.here hx rfl (hb hby at_121) rfl (teq (by rw [← hd_b1]; exact own_nb _)).2 k) ?_
    refine own_step (T' := T84) (g' := (mkF m 125 #[.val (.int p0), .val (.int p1), .val (.int p2), .val (.int p3), .val (.int p4), .val (.int (2 : Int32)), .val (.int b0), .val (.int b1), .val (.int b2), .val (.ref a60), .val (.ref a65b), .val (.ref a81), .val (.int (1 : Int32)), .unset, .unset] [(.int (1 : Int32))])) (fun t k => XS.iconst X84.here hx rfl (hb hby at_124) k) ?_
    refine own_step (T' := T84) (g' := (mkF m 129 #[.val (.int p0), .val (.int p1), .val (.int p2), .val (.int p3), .val (.int p4), .val (.int (2 : Int32)), .val (.int b0), .val (.int b1), .val (.int b2), .val (.ref a60), .val (.ref a65b), .val (.ref a81), .val (.int (1 : Int32)), .unset, .unset] [(.int (1 : Int32))])) (fun t k => XS.goto X84.here hx rfl (pc0 := 125) (pc' := 129) rfl (hb hby at_125) (by decide) (by decide) k) ?_
    refine own_step (T' := T84) (g' := (mkF m 131 #[.val (.int p0), .val (.int p1), .val (.int p2), .val (.int p3), .val (.int p4), .val (.int (2 : Int32)), .val (.int b0), .val (.int b1), .val (.int b2), .val (.ref a60), .val (.ref a65b), .val (.ref a81), .val (.int (1 : Int32)), .val (.int (1 : Int32)), .unset] [])) (fun t k => XS.istore X84.here hx rfl (hb hby at_129) rfl (l' := #[.val (.int p0), .val (.int p1), .val (.int p2), .val (.int p3), .val (.int p4), .val (.int (2 : Int32)), .val (.int b0), .val (.int b1), .val (.int b2), .val (.ref a60), .val (.ref a65b), .val (.ref a81), .val (.int (1 : Int32)), .val (.int (1 : Int32)), .unset]) rfl k) ?_
    refine own_step (T' := T84) (g' := (mkF m 133 #[.val (.int p0), .val (.int p1), .val (.int p2), .val (.int p3), .val (.int p4), .val (.int (2 : Int32)), .val (.int b0), .val (.int b1), .val (.int b2), .val (.ref a60), .val (.ref a65b), .val (.ref a81), .val (.int (1 : Int32)), .val (.int (1 : Int32)), .unset] [(.int (2 : Int32))])) (fun t k => XS.iload X84.here hx rfl (hb hby at_131) rfl k) ?_
    refine own_step (T' := T84) (g' := (mkF m 134 #[.val (.int p0), .val (.int p1), .val (.int p2), .val (.int p3), .val (.int p4), .val (.int (2 : Int32)), .val (.int b0), .val (.int b1), .val (.int b2), .val (.ref a60), .val (.ref a65b), .val (.ref a81), .val (.int (1 : Int32)), .val (.int (1 : Int32)), .unset] [(.int (3 : Int32)), (.int (2 : Int32))])) (fun t k => XS.iconst X84.here hx rfl (hb hby at_133) k) ?_
    refine own_step (T' := T84) (g' := (mkF m 146 #[.val (.int p0), .val (.int p1), .val (.int p2), .val (.int p3), .val (.int p4), .val (.int (2 : Int32)), .val (.int b0), .val (.int b1), .val (.int b2), .val (.ref a60), .val (.ref a65b), .val (.ref a81), .val (.int (1 : Int32)), .val (.int (1 : Int32)), .unset] [])) (fun t k => XS.icmpYes X84.here hx rfl (pc0 := 134) (pc' := 146) rfl (hb hby at_134) rfl (tlt (by decide : ((2 : Int32) < (3 : Int32)))).1 (by decide) (by decide) k) ?_
    refine own_step (T' := T84) (g' := (mkF m 147 #[.val (.int p0), .val (.int p1), .val (.int p2), .val (.int p3), .val (.int p4), .val (.int (2 : Int32)), .val (.int b0), .val (.int b1), .val (.int b2), .val (.ref a60), .val (.ref a65b), .val (.ref a81), .val (.int (1 : Int32)), .val (.int (1 : Int32)), .unset] [(.int (1 : Int32))])) (fun t k => XS.iconst X84.here hx rfl (hb hby at_146) k) ?_
    refine own_step (T' := T84) (g' := (mkF m 151 #[.val (.int p0), .val (.int p1), .val (.int p2), .val (.int p3), .val (.int p4), .val (.int (2 : Int32)), .val (.int b0), .val (.int b1), .val (.int b2), .val (.ref a60), .val (.ref a65b), .val (.ref a81), .val (.int (1 : Int32)), .val (.int (1 : Int32)), .unset] [(.int (1 : Int32))])) (fun t k => XS.goto X84.here hx rfl (pc0 := 147) (pc' := 151) rfl (hb hby at_147) (by decide) (by decide) k) ?_
    refine own_step (T' := T84) (g' := (mkF m 153 #[.val (.int p0), .val (.int p1), .val (.int p2), .val (.int p3), .val (.int p4), .val (.int (2 : Int32)), .val (.int b0), .val (.int b1), .val (.int b2), .val (.ref a60), .val (.ref a65b), .val (.ref a81), .val (.int (1 : Int32)), .val (.int (1 : Int32)), .val (.int (1 : Int32))] [])) (fun t k => XS.istore X84.here hx rfl (hb hby at_151) rfl (l' := #[.val (.int p0), .val (.int p1), .val (.int p2), .val (.int p3), .val (.int p4), .val (.int (2 : Int32)), .val (.int b0), .val (.int b1), .val (.int b2), .val (.ref a60), .val (.ref a65b), .val (.ref a81), .val (.int (1 : Int32)), .val (.int (1 : Int32)), .val (.int (1 : Int32))]) rfl k) ?_
    refine own_step (T' := T84) (g' := (mkF m 155 #[.val (.int p0), .val (.int p1), .val (.int p2), .val (.int p3), .val (.int p4), .val (.int (2 : Int32)), .val (.int b0), .val (.int b1), .val (.int b2), .val (.ref a60), .val (.ref a65b), .val (.ref a81), .val (.int (1 : Int32)), .val (.int (1 : Int32)), .val (.int (1 : Int32))] [(.int (1 : Int32))])) (fun t k => XS.iload X84.here hx rfl (hb hby at_153) rfl k) ?_
    refine own_step (T' := T84) (g' := (mkF m 158 #[.val (.int p0), .val (.int p1), .val (.int p2), .val (.int p3), .val (.int p4), .val (.int (2 : Int32)), .val (.int b0), .val (.int b1), .val (.int b2), .val (.ref a60), .val (.ref a65b), .val (.ref a81), .val (.int (1 : Int32)), .val (.int (1 : Int32)), .val (.int (1 : Int32))] [])) (fun t k => XS.ifNo X84.here hx rfl (hb hby at_155) rfl ((if0 _ _).trans (feq (by decide : ¬ ((1 : Int32) = (0 : Int32)))).1) k) ?_
    refine own_step (T' := T84) (g' := (mkF m 160 #[.val (.int p0), .val (.int p1), .val (.int p2), .val (.int p3), .val (.int p4), .val (.int (2 : Int32)), .val (.int b0), .val (.int b1), .val (.int b2), .val (.ref a60), .val (.ref a65b), .val (.ref a81), .val (.int (1 : Int32)), .val (.int (1 : Int32)), .val (.int (1 : Int32))] [(.int (1 : Int32))])) (fun t k => XS.iload X84.here hx rfl (hb hby at_158) rfl k) ?_
    refine own_step (T' := T84) (g' := (mkF m 163 #[.val (.int p0), .val (.int p1), .val (.int p2), .val (.int p3), .val (.int p4), .val (.int (2 : Int32)), .val (.int b0), .val (.int b1), .val (.int b2), .val (.ref a60), .val (.ref a65b), .val (.ref a81), .val (.int (1 : Int32)), .val (.int (1 : Int32)), .val (.int (1 : Int32))] [])) (fun t k => XS.ifNo X84.here hx rfl (hb hby at_160) rfl ((if0 _ _).trans (feq (by decide : ¬ ((1 : Int32) = (0 : Int32)))).1) k) ?_
    refine own_step (T' := T84) (g' := (mkF m 165 #[.val (.int p0), .val (.int p1), .val (.int p2), .val (.int p3), .val (.int p4), .val (.int (2 : Int32)), .val (.int b0), .val (.int b1), .val (.int b2), .val (.ref a60), .val (.ref a65b), .val (.ref a81), .val (.int (1 : Int32)), .val (.int (1 : Int32)), .val (.int (1 : Int32))] [(.int (1 : Int32))])) (fun t k => XS.iload X84.here hx rfl (hb hby at_163) rfl k) ?_
    refine own_step (T' := T84) (g' := (mkF m 168 #[.val (.int p0), .val (.int p1), .val (.int p2), .val (.int p3), .val (.int p4), .val (.int (2 : Int32)), .val (.int b0), .val (.int b1), .val (.int b2), .val (.ref a60), .val (.ref a65b), .val (.ref a81), .val (.int (1 : Int32)), .val (.int (1 : Int32)), .val (.int (1 : Int32))] [])) (fun t k => XS.ifNo X84.here hx rfl (hb hby at_165) rfl ((if0 _ _).trans (feq (by decide : ¬ ((1 : Int32) = (0 : Int32)))).1) k) ?_
    refine own_step (T' := T84) (g' := (mkF m 169 #[.val (.int p0), .val (.int p1), .val (.int p2), .val (.int p3), .val (.int p4), .val (.int (2 : Int32)), .val (.int b0), .val (.int b1), .val (.int b2), .val (.ref a60), .val (.ref a65b), .val (.ref a81), .val (.int (1 : Int32)), .val (.int (1 : Int32)), .val (.int (1 : Int32))] [(.int (1 : Int32))])) (fun t k => XS.iconst X84.here hx rfl (hb hby at_168) k) ?_
    refine own_step (T' := T84) (g' := (mkF m 173 #[.val (.int p0), .val (.int p1), .val (.int p2), .val (.int p3), .val (.int p4), .val (.int (2 : Int32)), .val (.int b0), .val (.int b1), .val (.int b2), .val (.ref a60), .val (.ref a65b), .val (.ref a81), .val (.int (1 : Int32)), .val (.int (1 : Int32)), .val (.int (1 : Int32))] [(.int (1 : Int32))])) (fun t k => XS.goto X84.here hx rfl (pc0 := 169) (pc' := 173) rfl (hb hby at_169) (by decide) (by decide) k) ?_
    refine own_rN X84 hx hlk Bd.returns (by simp) (hb hby at_173) ?_ (by decide) (by decide)
    exact ⟨rfl, N84⟩
  · refine own_step (T' := s₁) (g' := (mkF m 6 #[.val (.int p0), .val (.int p1), .val (.int p2), .val (.int p3), .val (.int p4), .val (.int (3 : Int32)), .unset, .unset, .unset, .unset, .unset, .unset, .unset, .unset, .unset] [(.int p1)])) (fun t k => XS.iloadN X0.here hx rfl (hb hby at_5) rfl k) ?_
    refine own_step (T' := s₁) (g' := (mkF m 7 #[.val (.int p0), .val (.int p1), .val (.int p2), .val (.int p3), .val (.int p4), .val (.int (3 : Int32)), .unset, .unset, .unset, .unset, .unset, .unset, .unset, .unset, .unset] [(.int (p1.toInt8.toInt32))])) (fun t k => XS.i2b X0.here hx rfl (hb hby at_6) rfl k) ?_
    generalize hd_b0 : (p1.toInt8.toInt32) = b0
    refine own_step (T' := s₁) (g' := (mkF m 9 #[.val (.int p0), .val (.int p1), .val (.int p2), .val (.int p3), .val (.int p4), .val (.int (3 : Int32)), .val (.int b0), .unset, .unset, .unset, .unset, .unset, .unset, .unset, .unset] [])) (fun t k => XS.istore X0.here hx rfl (hb hby at_7) rfl (l' := #[.val (.int p0), .val (.int p1), .val (.int p2), .val (.int p3), .val (.int p4), .val (.int (3 : Int32)), .val (.int b0), .unset, .unset, .unset, .unset, .unset, .unset, .unset, .unset]) rfl k) ?_
    refine own_step (T' := s₁) (g' := (mkF m 10 #[.val (.int p0), .val (.int p1), .val (.int p2), .val (.int p3), .val (.int p4), .val (.int (3 : Int32)), .val (.int b0), .unset, .unset, .unset, .unset, .unset, .unset, .unset, .unset] [(.int p2)])) (fun t k => XS.iloadN X0.here hx rfl (hb hby at_9) rfl k) ?_
    refine own_step (T' := s₁) (g' := (mkF m 11 #[.val (.int p0), .val (.int p1), .val (.int p2), .val (.int p3), .val (.int p4), .val (.int (3 : Int32)), .val (.int b0), .unset, .unset, .unset, .unset, .unset, .unset, .unset, .unset] [(.int (p2.toInt8.toInt32))])) (fun t k => XS.i2b X0.here hx rfl (hb hby at_10) rfl k) ?_
    generalize hd_b1 : (p2.toInt8.toInt32) = b1
    refine own_step (T' := s₁) (g' := (mkF m 13 #[.val (.int p0), .val (.int p1), .val (.int p2), .val (.int p3), .val (.int p4), .val (.int (3 : Int32)), .val (.int b0), .val (.int b1), .unset, .unset, .unset, .unset, .unset, .unset, .unset] [])) (fun t k => XS.istore X0.here hx rfl (hb hby at_11) rfl (l' := #[.val (.int p0), .val (.int p1), .val (.int p2), .val (.int p3), .val (.int p4), .val (.int (3 : Int32)), .val (.int b0), .val (.int b1), .unset, .unset, .unset, .unset, .unset, .unset, .unset]) rfl k) ?_
    refine own_step (T' := s₁) (g' := (mkF m 14 #[.val (.int p0), .val (.int p1), .val (.int p2), .val (.int p3), .val (.int p4), .val (.int (3 : Int32)), .val (.int b0), .val (.int b1), .unset, .unset, .unset, .unset, .unset, .unset, .unset] [(.int p3)])) (fun t k => XS.iloadN X0.here hx rfl (hb hby at_13) rfl k) ?_
    refine own_step (T' := s₁) (g' := (mkF m 15 #[.val (.int p0), .val (.int p1), .val (.int p2), .val (.int p3), .val (.int p4), .val (.int (3 : Int32)), .val (.int b0), .val (.int b1), .unset, .unset, .unset, .unset, .unset, .unset, .unset] [(.int (p3.toInt8.toInt32))])) (fun t k => XS.i2b X0.here hx rfl (hb hby at_14) rfl k) ?_
    generalize hd_b2 : (p3.toInt8.toInt32) = b2
    refine own_step (T' := s₁) (g' := (mkF m 17 #[.val (.int p0), .val (.int p1), .val (.int p2), .val (.int p3), .val (.int p4), .val (.int (3 : Int32)), .val (.int b0), .val (.int b1), .val (.int b2), .unset, .unset, .unset, .unset, .unset, .unset] [])) (fun t k => XS.istore X0.here hx rfl (hb hby at_15) rfl (l' := #[.val (.int p0), .val (.int p1), .val (.int p2), .val (.int p3), .val (.int p4), .val (.int (3 : Int32)), .val (.int b0), .val (.int b1), .val (.int b2), .unset, .unset, .unset, .unset, .unset, .unset]) rfl k) ?_
    refine own_step (T' := s₁) (g' := (mkF m 19 #[.val (.int p0), .val (.int p1), .val (.int p2), .val (.int p3), .val (.int p4), .val (.int (3 : Int32)), .val (.int b0), .val (.int b1), .val (.int b2), .unset, .unset, .unset, .unset, .unset, .unset] [(.int (3 : Int32))])) (fun t k => XS.iload X0.here hx rfl (hb hby at_17) rfl k) ?_
    refine own_step (T' := s₁) (g' := (mkF m 21 #[.val (.int p0), .val (.int p1), .val (.int p2), .val (.int p3), .val (.int p4), .val (.int (3 : Int32)), .val (.int b0), .val (.int b1), .val (.int b2), .unset, .unset, .unset, .unset, .unset, .unset] [(.int b0), (.int (3 : Int32))])) (fun t k => XS.iload X0.here hx rfl (hb hby at_19) rfl k) ?_
    refine own_step (T' := s₁) (g' := (mkF m 23 #[.val (.int p0), .val (.int p1), .val (.int p2), .val (.int p3), .val (.int p4), .val (.int (3 : Int32)), .val (.int b0), .val (.int b1), .val (.int b2), .unset, .unset, .unset, .unset, .unset, .unset] [(.int b1), (.int b0), (.int (3 : Int32))])) (fun t k => XS.iload X0.here hx rfl (hb hby at_21) rfl k) ?_
    refine own_step (T' := s₁) (g' := (mkF m 25 #[.val (.int p0), .val (.int p1), .val (.int p2), .val (.int p3), .val (.int p4), .val (.int (3 : Int32)), .val (.int b0), .val (.int b1), .val (.int b2), .unset, .unset, .unset, .unset, .unset, .unset] [(.int b2), (.int b1), (.int b0), (.int (3 : Int32))])) (fun t k => XS.iload X0.here hx rfl (hb hby at_23) rfl k) ?_
    obtain ⟨_, _, ⟨T98, L98, k98, n98⟩, -, X98, ⟨Lc98, hQ98, lq98, yq98, zq98⟩, st98⟩ := Jvm.LawKit.callS X0 hx (y := (⟨"com/example/kempt_cursor/kemptcursor/ByteKeyOfPinLaw", "make", "(IBBB)[B"⟩ : MethodName)) hown (mvT hZ (hw _ (List.mem_of_getElem? (i := 0) rfl))) (mvT hZ (hw _ (List.mem_of_getElem? (i := 1) rfl))) (mvT hZ (hw _ (List.mem_of_getElem? (i := 2) rfl))) (mvT hZ (hw _ (List.mem_of_getElem? (i := 3) rfl))) (by decide) (backOf (W := 0) (rm_make3 l Z a0 hw [] b0 b1 b2 h0 n0 Z0 ) hZ (hw _ (List.mem_of_getElem? (i := 3) rfl)) (hw _ (List.mem_of_getElem? (i := 2) rfl)) (by decide) (by decide)) (g := (mkF m 25 #[.val (.int p0), .val (.int p1), .val (.int p2), .val (.int p3), .val (.int p4), .val (.int (3 : Int32)), .val (.int b0), .val (.int b1), .val (.int b2), .unset, .unset, .unset, .unset, .unset, .unset] [(.int b2), (.int b1), (.int b0), (.int (3 : Int32))])) rfl (by rw [hml]; rfl) (argsL := [(.int (3 : Int32)), (.int b0), (.int b1), (.int b2)]) (rest := []) (lenOf pd_1 rfl) rfl (by show 2 * 0 + _ ≤ _; exact Nat.le_of_eq rfl) (hb hby at_25) (fun _ _ => ⟨rfl, e0, (by decide : 0 + 1 ≤ _), (by decide : 0 + 3 ≤ _)⟩)
    dsimp only [Pt.U, Pt.locs, Pt.cells, Pt.slots] at X98 lq98 yq98 zq98 st98 hQ98
    subst lq98 yq98 zq98
    obtain ⟨a94, k94, rfl, Nq98, K95, fz_a94, g96, g97⟩ := hQ98
    have N98 := Fr.app N0 Nq98
    have oz_a94 : n0 ≤ a94 := Nat.le_trans Z0 fz_a94
    have Z95 : n0 ≤ T98.heap.size := (Nat.le_trans Z0 K95.1)
    refine own_step (T' := T98) (g' := (mkF m 28 #[.val (.int p0), .val (.int p1), .val (.int p2), .val (.int p3), .val (.int p4), .val (.int (3 : Int32)), .val (.int b0), .val (.int b1), .val (.int b2), .unset, .unset, .unset, .unset, .unset, .unset] [(.ref a94)])) st98 ?_
    refine own_step (T' := T98) (g' := (mkF m 30 #[.val (.int p0), .val (.int p1), .val (.int p2), .val (.int p3), .val (.int p4), .val (.int (3 : Int32)), .val (.int b0), .val (.int b1), .val (.int b2), .val (.ref a94), .unset, .unset, .unset, .unset, .unset] [])) (fun t k => XS.astore X98.here hx rfl (hb hby at_28) rfl rfl (l' := #[.val (.int p0), .val (.int p1), .val (.int p2), .val (.int p3), .val (.int p4), .val (.int (3 : Int32)), .val (.int b0), .val (.int b1), .val (.int b2), .val (.ref a94), .unset, .unset, .unset, .unset, .unset]) rfl k) ?_
    refine own_step (T' := T98) (g' := (mkF m 32 #[.val (.int p0), .val (.int p1), .val (.int p2), .val (.int p3), .val (.int p4), .val (.int (3 : Int32)), .val (.int b0), .val (.int b1), .val (.int b2), .val (.ref a94), .unset, .unset, .unset, .unset, .unset] [(.ref a94)])) (fun t k => XS.aload X98.here hx rfl (hb hby at_30) rfl rfl k) ?_
    obtain ⟨_, _, ⟨T105, L105, k105, n105⟩, -, X105, ⟨Lc105, hQ105, lq105, yq105, zq105⟩, st105⟩ := Jvm.LawKit.callS X98 hx (y := (⟨"com/example/kempt_cursor/kemptcursor/ByteKey", "of", "([B)Lcom/example/kempt_cursor/kemptcursor/ByteKey;"⟩ : MethodName)) hown (mvT hZ (hw _ (List.mem_of_getElem? (i := 5) rfl))) (mvT hZ (hw _ (List.mem_of_getElem? (i := 6) rfl))) (mvT hZ (hw _ (List.mem_of_getElem? (i := 7) rfl))) (mvT hZ (hw _ (List.mem_of_getElem? (i := 8) rfl))) (by decide) (backOf (W := 0) (rm_of3 l Z a0 hw [] a94 (nar .byte b0) (nar .byte b1) (nar .byte b2) k94 T98.heap n0 Z95 g96 g97) hZ (hw _ (List.mem_of_getElem? (i := 8) rfl)) (hw _ (List.mem_of_getElem? (i := 7) rfl)) (by decide) (by decide)) (g := (mkF m 32 #[.val (.int p0), .val (.int p1), .val (.int p2), .val (.int p3), .val (.int p4), .val (.int (3 : Int32)), .val (.int b0), .val (.int b1), .val (.int b2), .val (.ref a94), .unset, .unset, .unset, .unset, .unset] [(.ref a94)])) rfl (by rw [hml]; rfl) (argsL := [(.ref a94)]) (rest := []) (lenOf pd_2 rfl) rfl (by show 2 * 0 + _ ≤ _; exact Nat.le_of_eq rfl) (hb hby at_32) (fun _ _ => ⟨rfl, rfl, (by decide : 1 + 2 ≤ _), (by decide : 3 + 4 ≤ _)⟩)
    dsimp only [Pt.U, Pt.locs, Pt.cells, Pt.slots] at X105 lq105 yq105 zq105 st105 hQ105
    subst lq105 yq105 zq105
    obtain ⟨a99b, a99q, k99, rfl, Nq105, K100, fz_a99b, fz_a99q, nz_a99b_a99q, g101, g102, g103, g104⟩ := hQ105
    have N105 := Fr.app N98 Nq105
    have oz_a99b : n0 ≤ a99b := Nat.le_trans Z95 fz_a99b
    have nz_a94_a99b : a94 ≠ a99b := Nat.ne_of_lt (Nat.lt_of_lt_of_le g96.lt fz_a99b)
    have oz_a99q : n0 ≤ a99q := Nat.le_trans Z95 fz_a99q
    have nz_a94_a99q : a94 ≠ a99q := Nat.ne_of_lt (Nat.lt_of_lt_of_le g96.lt fz_a99q)
    have g106 : Arv Z T105.heap a94 k94 .byte (3 : Int32) [(.int (nar .byte b0)), (.int (nar .byte b1)), (.int (nar .byte b2))] (.int (0 : Int32)) := g96.keep K100 nin0
    have g107 : Exa Z T105.heap a94 "[B" := g97.keep K100
    have Z100 : n0 ≤ T105.heap.size := (Nat.le_trans Z95 K100.1)
    refine own_step (T' := T105) (g' := (mkF m 35 #[.val (.int p0), .val (.int p1), .val (.int p2), .val (.int p3), .val (.int p4), .val (.int (3 : Int32)), .val (.int b0), .val (.int b1), .val (.int b2), .val (.ref a94), .unset, .unset, .unset, .unset, .unset] [(.ref a99b)])) st105 ?_
    refine own_step (T' := T105) (g' := (mkF m 37 #[.val (.int p0), .val (.int p1), .val (.int p2), .val (.int p3), .val (.int p4), .val (.int (3 : Int32)), .val (.int b0), .val (.int b1), .val (.int b2), .val (.ref a94), .val (.ref a99b), .unset, .unset, .unset, .unset] [])) (fun t k => XS.astore X105.here hx rfl (hb hby at_35) rfl rfl (l' := #[.val (.int p0), .val (.int p1), .val (.int p2), .val (.int p3), .val (.int p4), .val (.int (3 : Int32)), .val (.int b0), .val (.int b1), .val (.int b2), .val (.ref a94), .val (.ref a99b), .unset, .unset, .unset, .unset]) rfl k) ?_
    refine own_step (T' := T105) (g' := (mkF m 39 #[.val (.int p0), .val (.int p1), .val (.int p2), .val (.int p3), .val (.int p4), .val (.int (3 : Int32)), .val (.int b0), .val (.int b1), .val (.int b2), .val (.ref a94), .val (.ref a99b), .unset, .unset, .unset, .unset] [(.int (3 : Int32))])) (fun t k => XS.iload X105.here hx rfl (hb hby at_37) rfl k) ?_
    refine own_step (T' := T105) (g' := (mkF m 42 #[.val (.int p0), .val (.int p1), .val (.int p2), .val (.int p3), .val (.int p4), .val (.int (3 : Int32)), .val (.int b0), .val (.int b1), .val (.int b2), .val (.ref a94), .val (.ref a99b), .unset, .unset, .unset, .unset] [])) (fun t k => XS.ifNo X105.here hx rfl (hb hby at_39) rfl ((if0 _ _).trans (tlt (by decide : ((0 : Int32) < (3 : Int32)))).2.2.2) k) ?_
    refine own_step (T' := T105) (g' := (mkF m 44 #[.val (.int p0), .val (.int p1), .val (.int p2), .val (.int p3), .val (.int p4), .val (.int (3 : Int32)), .val (.int b0), .val (.int b1), .val (.int b2), .val (.ref a94), .val (.ref a99b), .unset, .unset, .unset, .unset] [(.int p4)])) (fun t k => XS.iload X105.here hx rfl (hb hby at_42) rfl k) ?_
    refine own_step (T' := T105) (g' := (mkF m 46 #[.val (.int p0), .val (.int p1), .val (.int p2), .val (.int p3), .val (.int p4), .val (.int (3 : Int32)), .val (.int b0), .val (.int b1), .val (.int b2), .val (.ref a94), .val (.ref a99b), .unset, .unset, .unset, .unset] [(.int (2147483647 : Int32)), (.int p4)])) (X105.ldcInt hx hown (mvT hZ (hw _ (List.mem_of_getElem? (i := 33) rfl))) (g := (mkF m 44 #[.val (.int p0), .val (.int p1), .val (.int p2), .val (.int p3), .val (.int p4), .val (.int (3 : Int32)), .val (.int b0), .val (.int b1), .val (.int b2), .val (.ref a94), .val (.ref a99b), .unset, .unset, .unset, .unset] [(.int p4)])) rfl (hb hby at_44)) ?_
    refine own_step (T' := T105) (g' := (mkF m 47 #[.val (.int p0), .val (.int p1), .val (.int p2), .val (.int p3), .val (.int p4), .val (.int (3 : Int32)), .val (.int b0), .val (.int b1), .val (.int b2), .val (.ref a94), .val (.ref a99b), .unset, .unset, .unset, .unset] [(.int (p4 &&& (2147483647 : Int32)))])) (fun t k => XS.iand X105.here hx rfl (hb hby at_46) rfl k) ?_
    refine own_step (T' := T105) (g' := (mkF m 49 #[.val (.int p0), .val (.int p1), .val (.int p2), .val (.int p3), .val (.int p4), .val (.int (3 : Int32)), .val (.int b0), .val (.int b1), .val (.int b2), .val (.ref a94), .val (.ref a99b), .unset, .unset, .unset, .unset] [(.int (3 : Int32)), (.int (p4 &&& (2147483647 : Int32)))])) (fun t k => XS.iload X105.here hx rfl (hb hby at_47) rfl k) ?_
    refine own_step (T' := T105) (g' := (mkF m 50 #[.val (.int p0), .val (.int p1), .val (.int p2), .val (.int p3), .val (.int p4), .val (.int (3 : Int32)), .val (.int b0), .val (.int b1), .val (.int b2), .val (.ref a94), .val (.ref a99b), .unset, .unset, .unset, .unset] [(.int ((p4 &&& (2147483647 : Int32)) % (3 : Int32)))])) (fun t k => iremM (g := (mkF m 49 #[.val (.int p0), .val (.int p1), .val (.int p2), .val (.int p3), .val (.int p4), .val (.int (3 : Int32)), .val (.int b0), .val (.int b1), .val (.int b2), .val (.ref a94), .val (.ref a99b), .unset, .unset, .unset, .unset] [(.int (3 : Int32)), (.int (p4 &&& (2147483647 : Int32)))])) X105 hx rfl (hb hby at_49) rfl (by decide) k) ?_
    generalize hd_ix : ((p4 &&& (2147483647 : Int32)) % (3 : Int32)) = ix
    refine own_step (T' := T105) (g' := (mkF m 52 #[.val (.int p0), .val (.int p1), .val (.int p2), .val (.int p3), .val (.int p4), .val (.int (3 : Int32)), .val (.int b0), .val (.int b1), .val (.int b2), .val (.ref a94), .val (.ref a99b), .val (.int ix), .unset, .unset, .unset] [])) (fun t k => XS.istore X105.here hx rfl (hb hby at_50) rfl (l' := #[.val (.int p0), .val (.int p1), .val (.int p2), .val (.int p3), .val (.int p4), .val (.int (3 : Int32)), .val (.int b0), .val (.int b1), .val (.int b2), .val (.ref a94), .val (.ref a99b), .val (.int ix), .unset, .unset, .unset]) rfl k) ?_
    refine own_step (T' := T105) (g' := (mkF m 54 #[.val (.int p0), .val (.int p1), .val (.int p2), .val (.int p3), .val (.int p4), .val (.int (3 : Int32)), .val (.int b0), .val (.int b1), .val (.int b2), .val (.ref a94), .val (.ref a99b), .val (.int ix), .unset, .unset, .unset] [(.ref a94)])) (fun t k => XS.aload X105.here hx rfl (hb hby at_52) rfl rfl k) ?_
    refine own_step (T' := T105) (g' := (mkF m 56 #[.val (.int p0), .val (.int p1), .val (.int p2), .val (.int p3), .val (.int p4), .val (.int (3 : Int32)), .val (.int b0), .val (.int b1), .val (.int b2), .val (.ref a94), .val (.ref a99b), .val (.int ix), .unset, .unset, .unset] [(.int ix), (.ref a94)])) (fun t k => XS.iload X105.here hx rfl (hb hby at_54) rfl k) ?_
    refine own_step (T' := T105) (g' := (mkF m 58 #[.val (.int p0), .val (.int p1), .val (.int p2), .val (.int p3), .val (.int p4), .val (.int (3 : Int32)), .val (.int b0), .val (.int b1), .val (.int b2), .val (.ref a94), .val (.ref a99b), .val (.int ix), .unset, .unset, .unset] [(.ref a94), (.int ix), (.ref a94)])) (fun t k => XS.aload X105.here hx rfl (hb hby at_56) rfl rfl k) ?_
    refine own_step (T' := T105) (g' := (mkF m 60 #[.val (.int p0), .val (.int p1), .val (.int p2), .val (.int p3), .val (.int p4), .val (.int (3 : Int32)), .val (.int b0), .val (.int b1), .val (.int b2), .val (.ref a94), .val (.ref a99b), .val (.int ix), .unset, .unset, .unset] [(.int ix), (.ref a94), (.int ix), (.ref a94)])) (fun t k => XS.iload X105.here hx rfl (hb hby at_58) rfl k) ?_
    obtain ⟨cl108, Ar108, qa108, S108, M108, H108, U108⟩ := id g106
    have hix := own_remk p4 (3 : Int32) 3 (by decide) (by decide)
    rw [hd_ix] at hix
    obtain ⟨zz, hzz⟩ : ∃ z, ([(.int (nar .byte b0)), (.int (nar .byte b1)), (.int (nar .byte b2))] : List Value).getD ix.toNatClampNeg (.int (0 : Int32)) = .int z := by
      obtain ⟨cz, Az, qz, Sz, Mz, Hz, Uz⟩ := id g106
      exact own_fitB (Uz _ (Nat.lt_of_not_le fun y => inb_of Sz hix (Or.inr y)))
    have hi108 := inb_of S108 (j := ix) hix
    have hat108 := H108.at hi108 (v := (.int zz)) hzz
    refine own_step (T' := T105) (g' := (mkF m 61 #[.val (.int p0), .val (.int p1), .val (.int p2), .val (.int p3), .val (.int p4), .val (.int (3 : Int32)), .val (.int b0), .val (.int b1), .val (.int b2), .val (.ref a94), .val (.ref a99b), .val (.int ix), .unset, .unset, .unset] [(.int zz), (.int ix), (.ref a94)])) (fun t k => X105.baloadBytes hx (j := ix) (v := (.int zz)) Ar108.1 (State.isArrayOf_alike hZ.alike Ar108.2.1) Ar108.2.2 hi108 hat108 (g := (mkF m 60 #[.val (.int p0), .val (.int p1), .val (.int p2), .val (.int p3), .val (.int p4), .val (.int (3 : Int32)), .val (.int b0), .val (.int b1), .val (.int b2), .val (.ref a94), .val (.ref a99b), .val (.int ix), .unset, .unset, .unset] [(.int ix), (.ref a94), (.int ix), (.ref a94)])) rfl rfl (hb hby at_60) t k) ?_
    refine own_step (T' := T105) (g' := (mkF m 62 #[.val (.int p0), .val (.int p1), .val (.int p2), .val (.int p3), .val (.int p4), .val (.int (3 : Int32)), .val (.int b0), .val (.int b1), .val (.int b2), .val (.ref a94), .val (.ref a99b), .val (.int ix), .unset, .unset, .unset] [(.int (1 : Int32)), (.int zz), (.int ix), (.ref a94)])) (fun t k => XS.iconst X105.here hx rfl (hb hby at_61) k) ?_
    refine own_step (T' := T105) (g' := (mkF m 63 #[.val (.int p0), .val (.int p1), .val (.int p2), .val (.int p3), .val (.int p4), .val (.int (3 : Int32)), .val (.int b0), .val (.int b1), .val (.int b2), .val (.ref a94), .val (.ref a99b), .val (.int ix), .unset, .unset, .unset] [(.int (zz + (1 : Int32))), (.int ix), (.ref a94)])) (fun t k => XS.iadd X105.here hx rfl (hb hby at_62) rfl k) ?_
    refine own_step (T' := T105) (g' := (mkF m 64 #[.val (.int p0), .val (.int p1), .val (.int p2), .val (.int p3), .val (.int p4), .val (.int (3 : Int32)), .val (.int b0), .val (.int b1), .val (.int b2), .val (.ref a94), .val (.ref a99b), .val (.int ix), .unset, .unset, .unset] [(.int ((zz + (1 : Int32)).toInt8.toInt32)), (.int ix), (.ref a94)])) (fun t k => XS.i2b X105.here hx rfl (hb hby at_63) rfl k) ?_
    obtain ⟨cl109, Ar109, qa109, S109, M109, H109, U109⟩ := id g106
    obtain ⟨T109, h109, X109, e109, W109, st109⟩ := stB X105 hx hZ rfl Ar109 (j := ix) (inb_of S109 hix) (g := (mkF m 64 #[.val (.int p0), .val (.int p1), .val (.int p2), .val (.int p3), .val (.int p4), .val (.int (3 : Int32)), .val (.int b0), .val (.int b1), .val (.int b2), .val (.ref a94), .val (.ref a99b), .val (.int ix), .unset, .unset, .unset] [(.int ((zz + (1 : Int32)).toInt8.toInt32)), (.int ix), (.ref a94)])) rfl rfl (hb hby at_64)
    have g110 : Exa Z h109 a94 "[B" := g107.wr W109
    have g111 : Exa Z h109 a99b "com/example/kempt_cursor/kemptcursor/ByteKey" := g101.wr W109
    have g112 : Fld Z h109 a99b "com/example/kempt_cursor/kemptcursor/ByteKey" "bytes" "[B" (.ref a99q) := g102.other W109 (Or.inl (Ne.symm nz_a94_a99b))
    have g113 : Arv Z h109 a99q k99 .byte (3 : Int32) [(.int (nar .byte b0)), (.int (nar .byte b1)), (.int (nar .byte b2))] (.int (0 : Int32)) := g103.other W109 (Ne.symm nz_a94_a99q)
    have g114 : Exa Z h109 a99q "[B" := g104.wr W109
    have N109 := Fr.snoc X109 N105 oz_a94
    have Z109 : n0 ≤ h109.size := (Nat.le_trans Z100 (Nat.le_of_eq W109.size.symm))
    refine own_step (T' := T109) (g' := (mkF m 65 #[.val (.int p0), .val (.int p1), .val (.int p2), .val (.int p3), .val (.int p4), .val (.int (3 : Int32)), .val (.int b0), .val (.int b1), .val (.int b2), .val (.ref a94), .val (.ref a99b), .val (.int ix), .unset, .unset, .unset] [])) st109 ?_
    refine own_step (T' := T109) (g' := (mkF m 67 #[.val (.int p0), .val (.int p1), .val (.int p2), .val (.int p3), .val (.int p4), .val (.int (3 : Int32)), .val (.int b0), .val (.int b1), .val (.int b2), .val (.ref a94), .val (.ref a99b), .val (.int ix), .unset, .unset, .unset] [(.ref a99b)])) (fun t k => XS.aload X109.here hx rfl (hb hby at_65) rfl rfl k) ?_
    obtain ⟨cq119, kq119, q119a, q119b, q119c⟩ := isOf hZ e109 g111
    obtain ⟨_, _, ⟨T118, L118, k118, n118⟩, -, X118, ⟨Lc118, hQ118, lq118, yq118, zq118⟩, st118⟩ := X109.virtualBack hx (y := (⟨"com/example/kempt_cursor/kemptcursor/ByteKey", "toByteArray", "()[B"⟩ : MethodName)) (z := (⟨"com/example/kempt_cursor/kemptcursor/ByteKey", "toByteArray", "()[B"⟩ : MethodName)) hown (mvT hZ (hw _ (List.mem_of_getElem? (i := 28) rfl))) (mvT hZ (hw _ (List.mem_of_getElem? (i := 29) rfl))) (notFace_of_selects (args := #[]) (mvT hZ (hw _ (List.mem_of_getElem? (i := 31) rfl)))) (mvT hZ (hw _ (List.mem_of_getElem? (i := 31) rfl))) (mvT hZ (hw _ (List.mem_of_getElem? (i := 30) rfl))) (by decide) (backOf (W := 0) (rm_to3 l Z a0 hw [] a99b a99q (nar .byte b0) (nar .byte b1) (nar .byte b2) k99 h109 n0 Z109 g112 g113 g114) hZ (hw _ (List.mem_of_getElem? (i := 32) rfl)) (hw _ (List.mem_of_getElem? (i := 7) rfl)) (by decide) (by decide)) q119a q119c (g := (mkF m 67 #[.val (.int p0), .val (.int p1), .val (.int p2), .val (.int p3), .val (.int p4), .val (.int (3 : Int32)), .val (.int b0), .val (.int b1), .val (.int b2), .val (.ref a94), .val (.ref a99b), .val (.int ix), .unset, .unset, .unset] [(.ref a99b)])) rfl (by rw [hml]; rfl) (Steps.refl _) (argsL := []) (rest := []) (lenOf pd_3 rfl) rfl (by show 2 * 0 + _ ≤ _; exact Nat.le_of_eq rfl) (hb hby at_67) (fun _ _ => ⟨rfl, e109, (by decide : 3 + 1 ≤ _), (by decide : 7 + 3 ≤ _)⟩)
    dsimp only [Pt.U, Pt.locs, Pt.cells, Pt.slots] at X118 lq118 yq118 zq118 st118 hQ118
    subst lq118 yq118 zq118
    obtain ⟨a115, k115, rfl, Nq118, K116, fz_a115, g117⟩ := hQ118
    have N118 := Fr.app N109 Nq118
    have oz_a115 : n0 ≤ a115 := Nat.le_trans Z109 fz_a115
    have nz_a94_a115 : a94 ≠ a115 := Nat.ne_of_lt (Nat.lt_of_lt_of_le g110.lt fz_a115)
    have nz_a99b_a115 : a99b ≠ a115 := Nat.ne_of_lt (Nat.lt_of_lt_of_le g111.lt fz_a115)
    have nz_a99q_a115 : a99q ≠ a115 := Nat.ne_of_lt (Nat.lt_of_lt_of_le g113.lt fz_a115)
    have g120 : Exa Z T118.heap a94 "[B" := g110.keep K116
    have g121 : Exa Z T118.heap a99b "com/example/kempt_cursor/kemptcursor/ByteKey" := g111.keep K116
    have g122 : Fld Z T118.heap a99b "com/example/kempt_cursor/kemptcursor/ByteKey" "bytes" "[B" (.ref a99q) := g112.keep K116 nin0
    have g123 : Arv Z T118.heap a99q k99 .byte (3 : Int32) [(.int (nar .byte b0)), (.int (nar .byte b1)), (.int (nar .byte b2))] (.int (0 : Int32)) := g113.keep K116 nin0
    have g124 : Exa Z T118.heap a99q "[B" := g114.keep K116
    have Z116 : n0 ≤ T118.heap.size := (Nat.le_trans Z109 K116.1)
    refine own_tr (T' := T118) (g' := (mkF m 70 #[.val (.int p0), .val (.int p1), .val (.int p2), .val (.int p3), .val (.int p4), .val (.int (3 : Int32)), .val (.int b0), .val (.int b1), .val (.int b2), .val (.ref a94), .val (.ref a99b), .val (.int ix), .unset, .unset, .unset] [(.ref a115)])) st118 ?_
    refine own_step (T' := T118) (g' := (mkF m 72 #[.val (.int p0), .val (.int p1), .val (.int p2), .val (.int p3), .val (.int p4), .val (.int (3 : Int32)), .val (.int b0), .val (.int b1), .val (.int b2), .val (.ref a94), .val (.ref a99b), .val (.ref a115), .unset, .unset, .unset] [])) (fun t k => XS.astore X118.here hx rfl (hb hby at_70) rfl rfl (l' := #[.val (.int p0), .val (.int p1), .val (.int p2), .val (.int p3), .val (.int p4), .val (.int (3 : Int32)), .val (.int b0), .val (.int b1), .val (.int b2), .val (.ref a94), .val (.ref a99b), .val (.ref a115), .unset, .unset, .unset]) rfl k) ?_
    refine own_step (T' := T118) (g' := (mkF m 74 #[.val (.int p0), .val (.int p1), .val (.int p2), .val (.int p3), .val (.int p4), .val (.int (3 : Int32)), .val (.int b0), .val (.int b1), .val (.int b2), .val (.ref a94), .val (.ref a99b), .val (.ref a115), .unset, .unset, .unset] [(.ref a115)])) (fun t k => XS.aload X118.here hx rfl (hb hby at_72) rfl rfl k) ?_
    refine own_step (T' := T118) (g' := (mkF m 77 #[.val (.int p0), .val (.int p1), .val (.int p2), .val (.int p3), .val (.int p4), .val (.int (3 : Int32)), .val (.int b0), .val (.int b1), .val (.int b2), .val (.ref a94), .val (.ref a99b), .val (.ref a115), .unset, .unset, .unset] [])) (fun t k => XS.ifnullNo X118.here hx rfl (hb hby at_74) rfl k) ?_
    refine own_step (T' := T118) (g' := (mkF m 79 #[.val (.int p0), .val (.int p1), .val (.int p2), .val (.int p3), .val (.int p4), .val (.int (3 : Int32)), .val (.int b0), .val (.int b1), .val (.int b2), .val (.ref a94), .val (.ref a99b), .val (.ref a115), .unset, .unset, .unset] [(.ref a115)])) (fun t k => XS.aload X118.here hx rfl (hb hby at_77) rfl rfl k) ?_
    obtain ⟨cl125, Ar125, qa125, S125, M125, H125, U125⟩ := id g117
    have ln125 := len_of S125 M125
    refine own_step (T' := T118) (g' := (mkF m 80 #[.val (.int p0), .val (.int p1), .val (.int p2), .val (.int p3), .val (.int p4), .val (.int (3 : Int32)), .val (.int b0), .val (.int b1), .val (.int b2), .val (.ref a94), .val (.ref a99b), .val (.ref a115), .unset, .unset, .unset] [(.int (3 : Int32))])) (fun t k => X118.arraylength hx (cell := cl125) Ar125.1 (State.isArrayOf_alike hZ.alike Ar125.2.1) (g := (mkF m 79 #[.val (.int p0), .val (.int p1), .val (.int p2), .val (.int p3), .val (.int p4), .val (.int (3 : Int32)), .val (.int b0), .val (.int b1), .val (.int b2), .val (.ref a94), .val (.ref a99b), .val (.ref a115), .unset, .unset, .unset] [(.ref a115)])) rfl rfl (hb hby at_79) t (by rw [ln125]; exact k)) ?_
    refine own_step (T' := T118) (g' := (mkF m 82 #[.val (.int p0), .val (.int p1), .val (.int p2), .val (.int p3), .val (.int p4), .val (.int (3 : Int32)), .val (.int b0), .val (.int b1), .val (.int b2), .val (.ref a94), .val (.ref a99b), .val (.ref a115), .unset, .unset, .unset] [(.int (3 : Int32)), (.int (3 : Int32))])) (fun t k => XS.iload X118.here hx rfl (hb hby at_80) rfl k) ?_
    refine own_step (T' := T118) (g' := (mkF m 87 #[.val (.int p0), .val (.int p1), .val (.int p2), .val (.int p3), .val (.int p4), .val (.int (3 : Int32)), .val (.int b0), .val (.int b1), .val (.int b2), .val (.ref a94), .val (.ref a99b), .val (.ref a115), .unset, .unset, .unset] [])) (fun t k => XS.icmpYes X118.here hx rfl (pc0 := 82) (pc' := 87) rfl (hb hby at_82) rfl (teq (by decide : ((3 : Int32) = (3 : Int32)))).1 (by decide) (by decide) k) ?_
    refine own_step (T' := T118) (g' := (mkF m 89 #[.val (.int p0), .val (.int p1), .val (.int p2), .val (.int p3), .val (.int p4), .val (.int (3 : Int32)), .val (.int b0), .val (.int b1), .val (.int b2), .val (.ref a94), .val (.ref a99b), .val (.ref a115), .unset, .unset, .unset] [(.int (3 : Int32))])) (fun t k => XS.iload X118.here hx rfl (hb hby at_87) rfl k) ?_
    refine own_step (T' := T118) (g' := (mkF m 90 #[.val (.int p0), .val (.int p1), .val (.int p2), .val (.int p3), .val (.int p4), .val (.int (3 : Int32)), .val (.int b0), .val (.int b1), .val (.int b2), .val (.ref a94), .val (.ref a99b), .val (.ref a115), .unset, .unset, .unset] [(.int (1 : Int32)), (.int (3 : Int32))])) (fun t k => XS.iconst X118.here hx rfl (hb hby at_89) k) ?_
    refine own_step (T' := T118) (g' := (mkF m 93 #[.val (.int p0), .val (.int p1), .val (.int p2), .val (.int p3), .val (.int p4), .val (.int (3 : Int32)), .val (.int b0), .val (.int b1), .val (.int b2), .val (.ref a94), .val (.ref a99b), .val (.ref a115), .unset, .unset, .unset] [])) (fun t k => XS.icmpNo X118.here hx rfl (hb hby at_90) rfl (flt (by decide : ¬ ((3 : Int32) < (1 : Int32)))).1 k) ?_
    refine own_step (T' := T118) (g' := (mkF m 95 #[.val (.int p0), .val (.int p1), .val (.int p2), .val (.int p3), .val (.int p4), .val (.int (3 : Int32)), .val (.int b0), .val (.int b1), .val (.int b2), .val (.ref a94), .val (.ref a99b), .val (.ref a115), .unset, .unset, .unset] [(.ref a115)])) (fun t k => XS.aload X118.here hx rfl (hb hby at_93) rfl rfl k) ?_
    refine own_step (T' := T118) (g' := (mkF m 96 #[.val (.int p0), .val (.int p1), .val (.int p2), .val (.int p3), .val (.int p4), .val (.int (3 : Int32)), .val (.int b0), .val (.int b1), .val (.int b2), .val (.ref a94), .val (.ref a99b), .val (.ref a115), .unset, .unset, .unset] [(.int (0 : Int32)), (.ref a115)])) (fun t k => XS.iconst X118.here hx rfl (hb hby at_95) k) ?_
    obtain ⟨cl126, Ar126, qa126, S126, M126, H126, U126⟩ := id g117
    have hi126 := inb_of S126 (j := (0 : Int32)) ⟨by decide, by decide⟩
    have hat126 := H126.at hi126 (v := (.int (nar .byte b0))) rfl
    refine own_step (T' := T118) (g' := (mkF m 97 #[.val (.int p0), .val (.int p1), .val (.int p2), .val (.int p3), .val (.int p4), .val (.int (3 : Int32)), .val (.int b0), .val (.int b1), .val (.int b2), .val (.ref a94), .val (.ref a99b), .val (.ref a115), .unset, .unset, .unset] [(.int (nar .byte b0))])) (fun t k => X118.baloadBytes hx (j := (0 : Int32)) (v := (.int (nar .byte b0))) Ar126.1 (State.isArrayOf_alike hZ.alike Ar126.2.1) Ar126.2.2 hi126 hat126 (g := (mkF m 96 #[.val (.int p0), .val (.int p1), .val (.int p2), .val (.int p3), .val (.int p4), .val (.int (3 : Int32)), .val (.int b0), .val (.int b1), .val (.int b2), .val (.ref a94), .val (.ref a99b), .val (.ref a115), .unset, .unset, .unset] [(.int (0 : Int32)), (.ref a115)])) rfl rfl (hb hby at_96) t k) ?_
    refine own_step (T' := T118) (g' := (mkF m 99 #[.val (.int p0), .val (.int p1), .val (.int p2), .val (.int p3), .val (.int p4), .val (.int (3 : Int32)), .val (.int b0), .val (.int b1), .val (.int b2), .val (.ref a94), .val (.ref a99b), .val (.ref a115), .unset, .unset, .unset] [(.int b0), (.int (nar .byte b0))])) (fun t k => XS.iload X118.here hx rfl (hb hby at_97) rfl k) ?_
    refine own_step (T' := T118) (g' := (mkF m 102 #[.val (.int p0), .val (.int p1), .val (.int p2), .val (.int p3), .val (.int p4), .val (.int (3 : Int32)), .val (.int b0), .val (.int b1), .val (.int b2), .val (.ref a94), .val (.ref a99b), .val (.ref a115), .unset, .unset, .unset] [])) (fun t k => XS.icmpNo X118.here hx rfl (hb hby at_99) rfl (teq (by rw [← hd_b0]; exact own_nb _)).2 k) ?_
    refine own_step (T' := T118) (g' := (mkF m 103 #[.val (.int p0), .val (.int p1), .val (.int p2), .val (.int p3), .val (.int p4), .val (.int (3 : Int32)), .val (.int b0), .val (.int b1), .val (.int b2), .val (.ref a94), .val (.ref a99b), .val (.ref a115), .unset, .unset, .unset] [(.int (1 : Int32))])) (fun t k => XS.iconst X118.here hx rfl (hb hby at_102) k) ?_
    refine own_step (T' := T118) (g' := (mkF m 107 #[.val (.int p0), .val (.int p1), .val (.int p2), .val (.int p3), .val (.int p4), .val (.int (3 : Int32)), .val (.int b0), .val (.int b1), .val (.int b2), .val (.ref a94), .val (.ref a99b), .val (.ref a115), .unset, .unset, .unset] [(.int (1 : Int32))])) (fun t k => XS.goto X118.here hx rfl (pc0 := 103) (pc' := 107) rfl (hb hby at_103) (by decide) (by decide) k) ?_
    refine own_step (T' := T118) (g' := (mkF m 109 #[.val (.int p0), .val (.int p1), .val (.int p2), .val (.int p3), .val (.int p4), .val (.int (3 : Int32)), .val (.int b0), .val (.int b1), .val (.int b2), .val (.ref a94), .val (.ref a99b), .val (.ref a115), .val (.int (1 : Int32)), .unset, .unset] [])) (fun t k => XS.istore X118.here hx rfl (hb hby at_107) rfl (l' := #[.val (.int p0), .val (.int p1), .val (.int p2), .val (.int p3), .val (.int p4), .val (.int (3 : Int32)), .val (.int b0), .val (.int b1), .val (.int b2), .val (.ref a94), .val (.ref a99b), .val (.ref a115), .val (.int (1 : Int32)), .unset, .unset]) rfl k) ?_
    refine own_step (T' := T118) (g' := (mkF m 111 #[.val (.int p0), .val (.int p1), .val (.int p2), .val (.int p3), .val (.int p4), .val (.int (3 : Int32)), .val (.int b0), .val (.int b1), .val (.int b2), .val (.ref a94), .val (.ref a99b), .val (.ref a115), .val (.int (1 : Int32)), .unset, .unset] [(.int (3 : Int32))])) (fun t k => XS.iload X118.here hx rfl (hb hby at_109) rfl k) ?_
    refine own_step (T' := T118) (g' := (mkF m 112 #[.val (.int p0), .val (.int p1), .val (.int p2), .val (.int p3), .val (.int p4), .val (.int (3 : Int32)), .val (.int b0), .val (.int b1), .val (.int b2), .val (.ref a94), .val (.ref a99b), .val (.ref a115), .val (.int (1 : Int32)), .unset, .unset] [(.int (2 : Int32)), (.int (3 : Int32))])) (fun t k => XS.iconst X118.here hx rfl (hb hby at_111) k) ?_
    refine own_step (T' := T118) (g' := (mkF m 115 #[.val (.int p0), .val (.int p1), .val (.int p2), .val (.int p3), .val (.int p4), .val (.int (3 : Int32)), .val (.int b0), .val (.int b1), .val (.int b2), .val (.ref a94), .val (.ref a99b), .val (.ref a115), .val (.int (1 : Int32)), .unset, .unset] [])) (fun t k => XS.icmpNo X118.here hx rfl (hb hby at_112) rfl (flt (by decide : ¬ ((3 : Int32) < (2 : Int32)))).1 k) ?_
    refine own_step (T' := T118) (g' := (mkF m 117 #[.val (.int p0), .val (.int p1), .val (.int p2), .val (.int p3), .val (.int p4), .val (.int (3 : Int32)), .val (.int b0), .val (.int b1), .val (.int b2), .val (.ref a94), .val (.ref a99b), .val (.ref a115), .val (.int (1 : Int32)), .unset, .unset] [(.ref a115)])) (fun t k => XS.aload X118.here hx rfl (hb hby at_115) rfl rfl k) ?_
    refine own_step (T' := T118) (g' := (mkF m 118 #[.val (.int p0), .val (.int p1), .val (.int p2), .val (.int p3), .val (.int p4), .val (.int (3 : Int32)), .val (.int b0), .val (.int b1), .val (.int b2), .val (.ref a94), .val (.ref a99b), .val (.ref a115), .val (.int (1 : Int32)), .unset, .unset] [(.int (1 : Int32)), (.ref a115)])) (fun t k => XS.iconst X118.here hx rfl (hb hby at_117) k) ?_
    obtain ⟨cl127, Ar127, qa127, S127, M127, H127, U127⟩ := id g117
    have hi127 := inb_of S127 (j := (1 : Int32)) ⟨by decide, by decide⟩
    have hat127 := H127.at hi127 (v := (.int (nar .byte b1))) rfl
    refine own_step (T' := T118) (g' := (mkF m 119 #[.val (.int p0), .val (.int p1), .val (.int p2), .val (.int p3), .val (.int p4), .val (.int (3 : Int32)), .val (.int b0), .val (.int b1), .val (.int b2), .val (.ref a94), .val (.ref a99b), .val (.ref a115), .val (.int (1 : Int32)), .unset, .unset] [(.int (nar .byte b1))])) (fun t k => X118.baloadBytes hx (j := (1 : Int32)) (v := (.int (nar .byte b1))) Ar127.1 (State.isArrayOf_alike hZ.alike Ar127.2.1) Ar127.2.2 hi127 hat127 (g := (mkF m 118 #[.val (.int p0), .val (.int p1), .val (.int p2), .val (.int p3), .val (.int p4), .val (.int (3 : Int32)), .val (.int b0), .val (.int b1), .val (.int b2), .val (.ref a94), .val (.ref a99b), .val (.ref a115), .val (.int (1 : Int32)), .unset, .unset] [(.int (1 : Int32)), (.ref a115)])) rfl rfl (hb hby at_118) t k) ?_
    refine own_step (T' := T118) (g' := (mkF m 121 #[.val (.int p0), .val (.int p1), .val (.int p2), .val (.int p3), .val (.int p4), .val (.int (3 : Int32)), .val (.int b0), .val (.int b1), .val (.int b2), .val (.ref a94), .val (.ref a99b), .val (.ref a115), .val (.int (1 : Int32)), .unset, .unset] [(.int b1), (.int (nar .byte b1))])) (fun t k => XS.iload X118.here hx rfl (hb hby at_119) rfl k) ?_
    refine own_step (T' := T118) (g' := (mkF m 124 #[.val (.int p0), .val (.int p1), .val (.int p2), .val (.int p3), .val (.int p4), .val (.int (3 : Int32)), .val (.int b0), .val (.int b1), .val (.int b2), .val (.ref a94), .val (.ref a99b), .val (.ref a115), .val (.int (1 : Int32)), .unset, .unset] [])) (fun t k => XS.icmpNo X118.here hx rfl (hb hby at_121) rfl (teq (by rw [← hd_b1]; exact own_nb _)).2 k) ?_
    refine own_step (T' := T118) (g' := (mkF m 125 #[.val (.int p0), .val (.int p1), .val (.int p2), .val (.int p3), .val (.int p4), .val (.int (3 : Int32)), .val (.int b0), .val (.int b1), .val (.int b2), .val (.ref a94), .val (.ref a99b), .val (.ref a115), .val (.int (1 : Int32)), .unset, .unset] [(.int (1 : Int32))])) (fun t k => XS.iconst X118.here hx rfl (hb hby at_124) k) ?_
    refine own_step (T' := T118) (g' := (mkF m 129 #[.val (.int p0), .val (.int p1), .val (.int p2), .val (.int p3), .val (.int p4), .val (.int (3 : Int32)), .val (.int b0), .val (.int b1), .val (.int b2), .val (.ref a94), .val (.ref a99b), .val (.ref a115), .val (.int (1 : Int32)), .unset, .unset] [(.int (1 : Int32))])) (fun t k => XS.goto X118.here hx rfl (pc0 := 125) (pc' := 129) rfl (hb hby at_125) (by decide) (by decide) k) ?_
    refine own_step (T' := T118) (g' := (mkF m 131 #[.val (.int p0), .val (.int p1), .val (.int p2), .val (.int p3), .val (.int p4), .val (.int (3 : Int32)), .val (.int b0), .val (.int b1), .val (.int b2), .val (.ref a94), .val (.ref a99b), .val (.ref a115), .val (.int (1 : Int32)), .val (.int (1 : Int32)), .unset] [])) (fun t k => XS.istore X118.here hx rfl (hb hby at_129) rfl (l' := #[.val (.int p0), .val (.int p1), .val (.int p2), .val (.int p3), .val (.int p4), .val (.int (3 : Int32)), .val (.int b0), .val (.int b1), .val (.int b2), .val (.ref a94), .val (.ref a99b), .val (.ref a115), .val (.int (1 : Int32)), .val (.int (1 : Int32)), .unset]) rfl k) ?_
    refine own_step (T' := T118) (g' := (mkF m 133 #[.val (.int p0), .val (.int p1), .val (.int p2), .val (.int p3), .val (.int p4), .val (.int (3 : Int32)), .val (.int b0), .val (.int b1), .val (.int b2), .val (.ref a94), .val (.ref a99b), .val (.ref a115), .val (.int (1 : Int32)), .val (.int (1 : Int32)), .unset] [(.int (3 : Int32))])) (fun t k => XS.iload X118.here hx rfl (hb hby at_131) rfl k) ?_
    refine own_step (T' := T118) (g' := (mkF m 134 #[.val (.int p0), .val (.int p1), .val (.int p2), .val (.int p3), .val (.int p4), .val (.int (3 : Int32)), .val (.int b0), .val (.int b1), .val (.int b2), .val (.ref a94), .val (.ref a99b), .val (.ref a115), .val (.int (1 : Int32)), .val (.int (1 : Int32)), .unset] [(.int (3 : Int32)), (.int (3 : Int32))])) (fun t k => XS.iconst X118.here hx rfl (hb hby at_133) k) ?_
    refine own_step (T' := T118) (g' := (mkF m 137 #[.val (.int p0), .val (.int p1), .val (.int p2), .val (.int p3), .val (.int p4), .val (.int (3 : Int32)), .val (.int b0), .val (.int b1), .val (.int b2), .val (.ref a94), .val (.ref a99b), .val (.ref a115), .val (.int (1 : Int32)), .val (.int (1 : Int32)), .unset] [])) (fun t k => XS.icmpNo X118.here hx rfl (hb hby at_134) rfl (flt (by decide : ¬ ((3 : Int32) < (3 : Int32)))).1 k) ?_
    refine own_step (T' := T118) (g' := (mkF m 139 #[.val (.int p0), .val (.int p1), .val (.int p2), .val (.int p3), .val (.int p4), .val (.int (3 : Int32)), .val (.int b0), .val (.int b1), .val (.int b2), .val (.ref a94), .val (.ref a99b), .val (.ref a115), .val (.int (1 : Int32)), .val (.int (1 : Int32)), .unset] [(.ref a115)])) (fun t k => XS.aload X118.here hx rfl (hb hby at_137) rfl rfl k) ?_
    refine own_step (T' := T118) (g' := (mkF m 140 #[.val (.int p0), .val (.int p1), .val (.int p2), .val (.int p3), .val (.int p4), .val (.int (3 : Int32)), .val (.int b0), .val (.int b1), .val (.int b2), .val (.ref a94), .val (.ref a99b), .val (.ref a115), .val (.int (1 : Int32)), .val (.int (1 : Int32)), .unset] [(.int (2 : Int32)), (.ref a115)])) (fun t k => XS.iconst X118.here hx rfl (hb hby at_139) k) ?_
    obtain ⟨cl128, Ar128, qa128, S128, M128, H128, U128⟩ := id g117
    have hi128 := inb_of S128 (j := (2 : Int32)) ⟨by decide, by decide⟩
    have hat128 := H128.at hi128 (v := (.int (nar .byte b2))) rfl
    refine own_step (T' := T118) (g' := (mkF m 141 #[.val (.int p0), .val (.int p1), .val (.int p2), .val (.int p3), .val (.int p4), .val (.int (3 : Int32)), .val (.int b0), .val (.int b1), .val (.int b2), .val (.ref a94), .val (.ref a99b), .val (.ref a115), .val (.int (1 : Int32)), .val (.int (1 : Int32)), .unset] [(.int (nar .byte b2))])) (fun t k => X118.baloadBytes hx (j := (2 : Int32)) (v := (.int (nar .byte b2))) Ar128.1 (State.isArrayOf_alike hZ.alike Ar128.2.1) Ar128.2.2 hi128 hat128 (g := (mkF m 140 #[.val (.int p0), .val (.int p1), .val (.int p2), .val (.int p3), .val (.int p4), .val (.int (3 : Int32)), .val (.int b0), .val (.int b1), .val (.int b2), .val (.ref a94), .val (.ref a99b), .val (.ref a115), .val (.int (1 : Int32)), .val (.int (1 : Int32)), .unset] [(.int (2 : Int32)), (.ref a115)])) rfl rfl (hb hby at_140) t k) ?_
    refine own_step (T' := T118) (g' := (mkF m 143 #[.val (.int p0), .val (.int p1), .val (.int p2), .val (.int p3), .val (.int p4), .val (.int (3 : Int32)), .val (.int b0), .val (.int b1), .val (.int b2), .val (.ref a94), .val (.ref a99b), .val (.ref a115), .val (.int (1 : Int32)), .val (.int (1 : Int32)), .unset] [(.int b2), (.int (nar .byte b2))])) (fun t k => XS.iload X118.here hx rfl (hb hby at_141) rfl k) ?_
    refine own_step (T' := T118) (g' := (mkF m 146 #[.val (.int p0), .val (.int p1), .val (.int p2), .val (.int p3), .val (.int p4), .val (.int (3 : Int32)), .val (.int b0), .val (.int b1), .val (.int b2), .val (.ref a94), .val (.ref a99b), .val (.ref a115), .val (.int (1 : Int32)), .val (.int (1 : Int32)), .unset] [])) (fun t k => XS.icmpNo X118.here hx rfl (hb hby at_143) rfl (teq (by rw [← hd_b2]; exact own_nb _)).2 k) ?_
    refine own_step (T' := T118) (g' := (mkF m 147 #[.val (.int p0), .val (.int p1), .val (.int p2), .val (.int p3), .val (.int p4), .val (.int (3 : Int32)), .val (.int b0), .val (.int b1), .val (.int b2), .val (.ref a94), .val (.ref a99b), .val (.ref a115), .val (.int (1 : Int32)), .val (.int (1 : Int32)), .unset] [(.int (1 : Int32))])) (fun t k => XS.iconst X118.here hx rfl (hb hby at_146) k) ?_
    refine own_step (T' := T118) (g' := (mkF m 151 #[.val (.int p0), .val (.int p1), .val (.int p2), .val (.int p3), .val (.int p4), .val (.int (3 : Int32)), .val (.int b0), .val (.int b1), .val (.int b2), .val (.ref a94), .val (.ref a99b), .val (.ref a115), .val (.int (1 : Int32)), .val (.int (1 : Int32)), .unset] [(.int (1 : Int32))])) (fun t k => XS.goto X118.here hx rfl (pc0 := 147) (pc' := 151) rfl (hb hby at_147) (by decide) (by decide) k) ?_
    refine own_step (T' := T118) (g' := (mkF m 153 #[.val (.int p0), .val (.int p1), .val (.int p2), .val (.int p3), .val (.int p4), .val (.int (3 : Int32)), .val (.int b0), .val (.int b1), .val (.int b2), .val (.ref a94), .val (.ref a99b), .val (.ref a115), .val (.int (1 : Int32)), .val (.int (1 : Int32)), .val (.int (1 : Int32))] [])) (fun t k => XS.istore X118.here hx rfl (hb hby at_151) rfl (l' := #[.val (.int p0), .val (.int p1), .val (.int p2), .val (.int p3), .val (.int p4), .val (.int (3 : Int32)), .val (.int b0), .val (.int b1), .val (.int b2), .val (.ref a94), .val (.ref a99b), .val (.ref a115), .val (.int (1 : Int32)), .val (.int (1 : Int32)), .val (.int (1 : Int32))]) rfl k) ?_
    refine own_step (T' := T118) (g' := (mkF m 155 #[.val (.int p0), .val (.int p1), .val (.int p2), .val (.int p3), .val (.int p4), .val (.int (3 : Int32)), .val (.int b0), .val (.int b1), .val (.int b2), .val (.ref a94), .val (.ref a99b), .val (.ref a115), .val (.int (1 : Int32)), .val (.int (1 : Int32)), .val (.int (1 : Int32))] [(.int (1 : Int32))])) (fun t k => XS.iload X118.here hx rfl (hb hby at_153) rfl k) ?_
    refine own_step (T' := T118) (g' := (mkF m 158 #[.val (.int p0), .val (.int p1), .val (.int p2), .val (.int p3), .val (.int p4), .val (.int (3 : Int32)), .val (.int b0), .val (.int b1), .val (.int b2), .val (.ref a94), .val (.ref a99b), .val (.ref a115), .val (.int (1 : Int32)), .val (.int (1 : Int32)), .val (.int (1 : Int32))] [])) (fun t k => XS.ifNo X118.here hx rfl (hb hby at_155) rfl ((if0 _ _).trans (feq (by decide : ¬ ((1 : Int32) = (0 : Int32)))).1) k) ?_
    refine own_step (T' := T118) (g' := (mkF m 160 #[.val (.int p0), .val (.int p1), .val (.int p2), .val (.int p3), .val (.int p4), .val (.int (3 : Int32)), .val (.int b0), .val (.int b1), .val (.int b2), .val (.ref a94), .val (.ref a99b), .val (.ref a115), .val (.int (1 : Int32)), .val (.int (1 : Int32)), .val (.int (1 : Int32))] [(.int (1 : Int32))])) (fun t k => XS.iload X118.here hx rfl (hb hby at_158) rfl k) ?_
    refine own_step (T' := T118) (g' := (mkF m 163 #[.val (.int p0), .val (.int p1), .val (.int p2), .val (.int p3), .val (.int p4), .val (.int (3 : Int32)), .val (.int b0), .val (.int b1), .val (.int b2), .val (.ref a94), .val (.ref a99b), .val (.ref a115), .val (.int (1 : Int32)), .val (.int (1 : Int32)), .val (.int (1 : Int32))] [])) (fun t k => XS.ifNo X118.here hx rfl (hb hby at_160) rfl ((if0 _ _).trans (feq (by decide : ¬ ((1 : Int32) = (0 : Int32)))).1) k) ?_
    refine own_step (T' := T118) (g' := (mkF m 165 #[.val (.int p0), .val (.int p1), .val (.int p2), .val (.int p3), .val (.int p4), .val (.int (3 : Int32)), .val (.int b0), .val (.int b1), .val (.int b2), .val (.ref a94), .val (.ref a99b), .val (.ref a115), .val (.int (1 : Int32)), .val (.int (1 : Int32)), .val (.int (1 : Int32))] [(.int (1 : Int32))])) (fun t k => XS.iload X118.here hx rfl (hb hby at_163) rfl k) ?_
    refine own_step (T' := T118) (g' := (mkF m 168 #[.val (.int p0), .val (.int p1), .val (.int p2), .val (.int p3), .val (.int p4), .val (.int (3 : Int32)), .val (.int b0), .val (.int b1), .val (.int b2), .val (.ref a94), .val (.ref a99b), .val (.ref a115), .val (.int (1 : Int32)), .val (.int (1 : Int32)), .val (.int (1 : Int32))] [])) (fun t k => XS.ifNo X118.here hx rfl (hb hby at_165) rfl ((if0 _ _).trans (feq (by decide : ¬ ((1 : Int32) = (0 : Int32)))).1) k) ?_
    refine own_step (T' := T118) (g' := (mkF m 169 #[.val (.int p0), .val (.int p1), .val (.int p2), .val (.int p3), .val (.int p4), .val (.int (3 : Int32)), .val (.int b0), .val (.int b1), .val (.int b2), .val (.ref a94), .val (.ref a99b), .val (.ref a115), .val (.int (1 : Int32)), .val (.int (1 : Int32)), .val (.int (1 : Int32))] [(.int (1 : Int32))])) (fun t k => XS.iconst X118.here hx rfl (hb hby at_168) k) ?_
    refine own_step (T' := T118) (g' := (mkF m 173 #[.val (.int p0), .val (.int p1), .val (.int p2), .val (.int p3), .val (.int p4), .val (.int (3 : Int32)), .val (.int b0), .val (.int b1), .val (.int b2), .val (.ref a94), .val (.ref a99b), .val (.ref a115), .val (.int (1 : Int32)), .val (.int (1 : Int32)), .val (.int (1 : Int32))] [(.int (1 : Int32))])) (fun t k => XS.goto X118.here hx rfl (pc0 := 169) (pc' := 173) rfl (hb hby at_169) (by decide) (by decide) k) ?_
    refine own_rN X118 hx hlk Bd.returns (by simp) (hb hby at_173) ?_ (by decide) (by decide)
    exact ⟨rfl, N118⟩
set_option maxRecDepth 65536 in
set_option maxHeartbeats 40000000 in
theorem comes_1 {Post : Tables → Env → Array Value → State → Outcome → State → Prop} (hpost : ∀ tb e args s v u, (limb_1_1.after args s (.returned v) u = true ∧ limb_1_2.after args s (.returned v) u = true ∧ True) → FrameEnd s (.returned v) u (Jvm.fieldLocs frame_1_writes args s ++ Jvm.arrayLocs frame_1_arrays args s ++ Jvm.staticLocs frame_1_statics s) 16 128 → Post tb e args s (.returned v) u) :
    ArmFor flags0 classFile x code maxLocals ret World_1 tables_1 room_1 Calls_1 rest_1 Pre_1 Post := by
  intro l hfl _ _ p e ha hc hk s m args below hf hA hF happ hP
  obtain ⟨hcalls, hrest, hpre⟩ := hP
  obtain ⟨-, -, -, hnamed, -, -, -, hat⟩ := (Spec.applies_iff hf).mp happ
  obtain ⟨hg, hn⟩ := and_e (Cond.before_iff.mp (show (Jvm.Cond.and given_1 narrow_1).before args s = true from hpre))
  obtain ⟨hc0, hg0⟩ := and_e hg
  obtain ⟨hc1, hg1⟩ := and_e hg0
  obtain ⟨hc2, hg2⟩ := and_e hg1
  obtain ⟨hc3, hg3⟩ := and_e hg2
  obtain ⟨hc4, hg4⟩ := and_e hg3
  obtain ⟨w0, w1, w2, w3, w4, rfl⟩ : ∃ w0 w1 w2 w3 w4 : Value, args = #[w0, w1, w2, w3, w4] := by
    have hs : args.size = 5 := by simpa [Cond.value, given_1] using hc0
    obtain ⟨L⟩ := args
    match L, hs with
    | [w0, w1, w2, w3, w4], _ => exact ⟨w0, w1, w2, w3, w4, rfl⟩
  have hw := fun d (hd : d ∈ tables_1) => atoms_spec (ws := Jvm.Cond.code x code maxLocals ret :: tables_1) hat d (List.mem_cons_of_mem _ hd)
  have hfit : Fit s := fun {y c} hc i hi => by
    obtain ⟨ha, rfl⟩ := Array.getElem?_eq_some_iff.mp hc
    have q := List.all_eq_true.mp ((Array.all_eq_true_iff_forall_mem.mp hF) _ (Array.getElem_mem ha)) i (List.mem_range.mpr hi)
    simpa [Array.getElem?_eq_getElem hi] using q
  obtain ⟨i0, ev0⟩ := is_v hc1
  obtain rfl : w0 = (.int i0) := Option.some.inj ev0
  obtain ⟨i1, ev1⟩ := is_v hc2
  obtain rfl : w1 = (.int i1) := Option.some.inj ev1
  obtain ⟨i2, ev2⟩ := is_v hc3
  obtain rfl : w2 = (.int i2) := Option.some.inj ev2
  obtain ⟨i3, ev3⟩ := is_v hc4
  obtain rfl : w3 = (.int i3) := Option.some.inj ev3
  obtain ⟨i4, ev4⟩ := is_v hg4
  obtain rfl : w4 = (.int i4) := Option.some.inj ev4

  obtain ⟨n, o, h1, h2, h3, _, L, rfl, ⟨rfl, N⟩, hq⟩ := rm_law l s _ hw tables_1 i0 i1 i2 i3 i4  s.heap s.heap.size (Nat.le_refl _)  p e ha hc hk s m _ below hf ((Spec.applies_iff_loose hf).mp happ).1 ⟨rfl, State.Warmed39.refl s, rfl⟩ trivial
  refine ⟨n, _, h1, h2, h3, hpost _ _ _ _ _ _ ⟨Cond.after_iff.mpr rfl, Cond.after_iff.mpr (eq_i res_at (Term.int_eval (1)) rfl), trivial⟩ ⟨hq.1, hq.2.1, (hq.2.2.sift fun y hy => Or.inr (N y hy)).mono (by decide) (by decide)⟩⟩
theorem main_1_1 : Claimed_1_1 := comes_1 fun _ _ _ _ _ _ h hF => ⟨h.1, hF⟩
theorem main_1_2 : Claimed_1_2 := comes_1 fun _ _ _ _ _ _ h hF => ⟨h.2.1, hF⟩

end Jvm.Pilot.@@N@@
namespace Jvm.Pilot.@@N@@
open Jvm Jvm.ClassFile Sem Op Lib Jvm.Free Jvm.Stand Jvm.Pilot.@@N@@.Jvm.D
/-! MADE BY PROGRAM (witnessworld.py) out of the Statement's table words and the real class files: 10 classes; the members and pool entries that the words name. The judged class is class 1, her method 1. -/
namespace start1
open Jvm.ClassFile
def u (s : String) : CpInfo := .utf8 (stringToUtf16 s)
/-- a pool by its gaps: so many unusable entries, then the entry; so many at the end -/
def gap : Nat → List CpInfo → List CpInfo
  | 0, r => r
  | n + 1, r => .unusable :: gap n r
def poolList (es : List (Nat × CpInfo)) (last : Nat) : List CpInfo := es.foldr (fun e r => gap e.1 (e.2 :: r)) (gap last [])
def pool (es : List (Nat × CpInfo)) (last : Nat) : Array CpInfo := ⟨poolList es last⟩
def fileOf (pool : Array CpInfo) (this : Nat) (attrs : Array Attribute := #[]) (ms : Array MethodInfo := #[]) (fl : Nat := 33) (sup : Nat := 0) (ifs : Array Nat := #[]) (fds : Array FieldInfo := #[]) : ClassFile where
  minorVersion := 0
  majorVersion := 65
  constantPool := pool
  accessFlags := fl
  thisClass := this
  superClass := sup
  interfaces := ifs
  fields := fds
  methods := ms
  attributes := attrs
def plain (name : String) (sup : Option ClassId) : Class where
  name := name
  kind := .ordinary
  loader := none
  accessFlags := 33
  super := sup
  interfaces := #[]
  cf := none
  fields := #[]
  methods := #[]
  instanceTypes := #[]
  staticTypes := #[]
  resolved := #[]
  callSites := []
  init := .initialized
  statics := none
  mirror := none

def pool0 : Array CpInfo := pool [(5, u "<init>"), (0, u "()V"), (1, .class_ 10), (1, u "java/lang/Object"), (85, u "clone"), (0, u "()Ljava/lang/Object;")] 26

def k0c0 : Code := { maxStack := 0, maxLocals := 1, code := object_method_1_code, exceptionTable := #[], attributes := #[] }
def k0m0 : Method := { name := "<init>", desc := "()V", sig := { parameters := [], returnType := none }, accessFlags := 1, code := some k0c0 }
def k0m1 : Method := { name := "clone", desc := "()Ljava/lang/Object;", sig := { parameters := [], returnType := some (.object "java/lang/Object") }, accessFlags := 260, code := none }
/-- java/lang/Object -/
def k0 : Class := { plain "java/lang/Object" none with
  accessFlags := 33
  interfaces := #[]
  cf := some (fileOf pool0 8 #[] #[{ accessFlags := 1, nameIndex := 5, descriptorIndex := 6, attributes := #[] }, { accessFlags := 260, nameIndex := 96, descriptorIndex := 97, attributes := #[] }] 33 0 #[] #[])
  fields := #[]
  methods := #[k0m0, k0m1]
  instanceTypes := #[]
  staticTypes := #[]
  resolved := Array.replicate 124 none
  statics := none }

def pool1 : Array CpInfo := pool [(2, .class_ 4), (1, u "java/lang/Object"), (0, u "<init>"), (0, u "()V"), (0, .methodref 8 9), (0, .class_ 10), (0, .nameAndType 11 12), (0, u "com/example/kempt_cursor/kemptcursor/ByteKeyOfPinLaw"), (0, u "make"), (0, u "(IBBB)[B"), (0, .methodref 14 15), (0, .class_ 16), (0, .nameAndType 17 18), (0, u "com/example/kempt_cursor/kemptcursor/ByteKey"), (0, u "of"), (0, u "([B)Lcom/example/kempt_cursor/kemptcursor/ByteKey;"), (0, .integer 2147483647), (0, .methodref 14 21), (0, .nameAndType 22 23), (0, u "toByteArray"), (0, u "()[B"), (2, u "law"), (0, u "(IIIII)Z")] 5

def k1m0 : Method := { name := "<init>", desc := "()V", sig := { parameters := [], returnType := none }, accessFlags := 1, code := none }
def k1c1 : Code := { maxStack := 4, maxLocals := 15, code := code, exceptionTable := #[], attributes := #[] }
def k1m1 : Method := { name := "law", desc := "(IIIII)Z", sig := { parameters := [.int, .int, .int, .int, .int], returnType := some .boolean }, accessFlags := 9, code := some k1c1 }
def k1c2 : Code := { maxStack := 4, maxLocals := 4, code := method_3_code, exceptionTable := #[], attributes := #[] }
def k1m2 : Method := { name := "make", desc := "(IBBB)[B", sig := { parameters := [.int, .byte, .byte, .byte], returnType := some (.array .byte) }, accessFlags := 10, code := some k1c2 }
/-- com/example/kempt_cursor/kemptcursor/ByteKeyOfPinLaw -/
def k1 : Class := { plain "com/example/kempt_cursor/kemptcursor/ByteKeyOfPinLaw" (some 0) with
  accessFlags := 49
  interfaces := #[]
  cf := some (fileOf pool1 8 #[] #[{ accessFlags := 1, nameIndex := 5, descriptorIndex := 6, attributes := #[] }, { accessFlags := 9, nameIndex := 26, descriptorIndex := 27, attributes := #[] }, { accessFlags := 10, nameIndex := 11, descriptorIndex := 12, attributes := #[] }] 49 2 #[] #[])
  fields := #[]
  methods := #[k1m0, k1m1, k1m2]
  instanceTypes := #[]
  staticTypes := #[]
  resolved := Array.replicate 33 none
  statics := none }

def pool2 : Array CpInfo := pool [(1, .class_ 2), (0, u "java/lang/Comparable"), (0, .class_ 4), (0, u "java/lang/Object")] 7

/-- java/lang/Comparable -/
def k2 : Class := { plain "java/lang/Comparable" (some 0) with
  accessFlags := 1537
  interfaces := #[]
  cf := some (fileOf pool2 1 #[] #[] 1537 3 #[] #[])
  fields := #[]
  methods := #[]
  instanceTypes := #[]
  staticTypes := #[]
  resolved := Array.replicate 12 none
  statics := none }

def pool3 : Array CpInfo := pool [(1, .methodref 2 3), (0, .class_ 4), (0, .nameAndType 5 6), (0, u "java/lang/Object"), (0, u "<init>"), (0, u "()V"), (0, .fieldref 8 9), (0, .class_ 10), (0, .nameAndType 11 12), (0, u "com/example/kempt_cursor/kemptcursor/ByteKey"), (0, u "bytes"), (0, u "[B"), (0, .methodref 14 15), (0, .class_ 12), (0, .nameAndType 16 17), (0, u "clone"), (0, u "()Ljava/lang/Object;"), (0, .methodref 8 19), (0, .nameAndType 5 20), (0, u "([B)V"), (16, u "HEX"), (0, u "Ljava/util/HexFormat;"), (12, u "of"), (1, .class_ 54), (0, u "java/lang/Comparable"), (2, u "([B)Lcom/example/kempt_cursor/kemptcursor/ByteKey;"), (0, u "toByteArray"), (0, u "()[B")] 12

def k3c0 : Code := { maxStack := 2, maxLocals := 2, code := prog_1_method_1_code, exceptionTable := #[], attributes := #[] }
def k3m0 : Method := { name := "<init>", desc := "([B)V", sig := { parameters := [(.array .byte)], returnType := none }, accessFlags := 2, code := some k3c0 }
def k3c1 : Code := { maxStack := 3, maxLocals := 1, code := prog_1_method_2_code, exceptionTable := #[], attributes := #[] }
def k3m1 : Method := { name := "of", desc := "([B)Lcom/example/kempt_cursor/kemptcursor/ByteKey;", sig := { parameters := [(.array .byte)], returnType := some (.object "com/example/kempt_cursor/kemptcursor/ByteKey") }, accessFlags := 9, code := some k3c1 }
def k3c2 : Code := { maxStack := 1, maxLocals := 1, code := prog_1_method_3_code, exceptionTable := #[], attributes := #[] }
def k3m2 : Method := { name := "toByteArray", desc := "()[B", sig := { parameters := [], returnType := some (.array .byte) }, accessFlags := 1, code := some k3c2 }
/-- com/example/kempt_cursor/kemptcursor/ByteKey -/
def k3 : Class := { plain "com/example/kempt_cursor/kemptcursor/ByteKey" (some 0) with
  accessFlags := 49
  interfaces := #[2]
  cf := some (fileOf pool3 8 #[] #[{ accessFlags := 2, nameIndex := 5, descriptorIndex := 20, attributes := #[] }, { accessFlags := 9, nameIndex := 51, descriptorIndex := 57, attributes := #[] }, { accessFlags := 1, nameIndex := 58, descriptorIndex := 59, attributes := #[] }] 49 2 #[53] #[{ accessFlags := 26, nameIndex := 37, descriptorIndex := 38, attributes := #[] }, { accessFlags := 18, nameIndex := 11, descriptorIndex := 12, attributes := #[] }])
  fields := #[{ name := "HEX", type := (.object "java/util/HexFormat"), accessFlags := 26, slot := 0, constantValue := 0 }, { name := "bytes", type := (.array .byte), accessFlags := 18, slot := 0, constantValue := 0 }]
  methods := #[k3m0, k3m1, k3m2]
  instanceTypes := #[(.array .byte)]
  staticTypes := #[(.object "java/util/HexFormat")]
  resolved := Array.replicate 72 none
  statics := none }

def pool4 : Array CpInfo := pool [(1, .class_ 2), (0, u "java/lang/Cloneable"), (0, .class_ 4), (0, u "java/lang/Object")] 2

/-- java/lang/Cloneable -/
def k4 : Class := { plain "java/lang/Cloneable" (some 0) with
  accessFlags := 1537
  interfaces := #[]
  cf := some (fileOf pool4 1 #[] #[] 1537 3 #[] #[])
  fields := #[]
  methods := #[]
  instanceTypes := #[]
  staticTypes := #[]
  resolved := Array.replicate 7 none
  statics := none }

def pool5 : Array CpInfo := pool [(1, u "java/io/Serializable"), (0, .class_ 1), (0, u "java/lang/Object"), (0, .class_ 3)] 3

/-- java/io/Serializable -/
def k5 : Class := { plain "java/io/Serializable" (some 0) with
  accessFlags := 1537
  interfaces := #[]
  cf := some (fileOf pool5 2 #[] #[] 1537 4 #[] #[])
  fields := #[]
  methods := #[]
  instanceTypes := #[]
  staticTypes := #[]
  resolved := Array.replicate 8 none
  statics := none }

/-- the primitive byte -/
def k6 : Class := { plain "byte" none with kind := .primitive 'B', accessFlags := 0x411 }
/-- [B -/
def k7 : Class := { plain "[B" (some 0) with kind := .array 6 .byte, interfaces := #[4, 5], accessFlags := 1041 }

/-- the primitive int -/
def k8 : Class := { plain "int" none with kind := .primitive 'I', accessFlags := 0x411 }
/-- [I -/
def k9 : Class := { plain "[I" (some 0) with kind := .array 8 .int, interfaces := #[4, 5], accessFlags := 1041 }

def heap : Heap := #[]
def classes : Array Class := #[k0, k1, k2, k3, k4, k5, k6, k7, k8, k9]
def interned : List (Array UInt16 × Addr) := []
def slotsUsed : Nat := 0
def theMethod : MethodId := ⟨1, 1⟩
def args0 : Array Value := #[.int 2, .int 3, .int 4, .int 5, .int 6]
def aboutOver (below : List Frame) : State where
  vm := { classes := classes, interned := interned.toArray }
  heap := heap
  slotsUsed := slotsUsed
  threads := #[{ frames := .invoking theMethod args0 :: below }]
def below0 : List Frame := [.native { method := ⟨0, 0⟩, args := #[] }]
def about1 : State := aboutOver below0
def p0 : Program := .bare "" "" ""
def e0 : Env := launch0.env 0 0 0
theorem w_frames : about1.frames = Frame.invoking theMethod args0 :: below0 := rfl
set_option maxRecDepth 65536 in
theorem w_args : argsFit about1.vm theMethod args0 = true := by decide +kernel
set_option maxRecDepth 65536 in
theorem w_heap : heapFits about1 = true := by decide +kernel
set_option maxRecDepth 65536 in
theorem w_runnable : about1.curStatus? = some .runnable := by decide +kernel
set_option maxRecDepth 65536 in
theorem w_alone : about1.alone = true := by decide +kernel
set_option maxRecDepth 65536 in
theorem w_named : about1.methodNamed? x = some theMethod := by decide +kernel
set_option maxRecDepth 65536 in
theorem w_hears : about1.hears theMethod below0 = true := by decide +kernel
set_option maxRecDepth 65536 in
theorem w_ripe : about1.ripe theMethod args0 below0 = true := by decide +kernel
theorem w_running : about1.status = .running := rfl
set_option maxRecDepth 65536 in
theorem w_room : about1.hasRoom e0.platform room_1 = true :=
  launch0.hasRoom_least _ room_1 (by decide +kernel) (by decide +kernel) (by decide +kernel) (by decide +kernel) (by decide +kernel) (by decide +kernel)
theorem allAtoms_all (ts : List Jvm.Cond) (a : Array Jvm.Value) (st : Jvm.State) : (allAtoms ts).before a st = ts.all (fun c => c.before a st) := by
  induction ts with
  | nil => rfl
  | cons c t ih =>
    show (Jvm.Cond.and c (allAtoms t)).before a st = _
    rw [Jvm.Cond.before_and, ih, List.all_cons]
def words1 : List Jvm.Cond := Jvm.Cond.code x code maxLocals ret :: tables_1
/-- a 'code' word, met by the world's own term for the bytes: nothing is compared byte by byte -/
theorem code_word {y : MethodName} {bytes : ByteArray} {mx : Nat} {rt : Option FieldType} {a : Array Value} {s : State} {m : MethodId} {meth : Method} {c : Code} (h1 : s.methodNamed? y = some m) (h2 : s.vm.method? m = some meth) (h3 : meth.code = some c) (h4 : c.code = bytes)
    (h5 : (c.maxLocals == mx && c.exceptionTable.isEmpty && decide (c.maxStack ≤ mostOperands) && decide (meth.sig.returnType = rt) && !meth.locks && decide (parseMethodDescriptor y.desc = some meth.sig)) = true) : (Jvm.Cond.code y bytes mx rt).before a s = true := by
  simp only [Bool.and_eq_true, beq_iff_eq, Bool.not_eq_true', decide_eq_true_eq] at h5
  obtain ⟨⟨⟨⟨⟨g1, g2⟩, g3⟩, g4⟩, g5⟩, g6⟩ := h5
  simp [Cond.before, Cond.holds, Cond.value, h1, h2, h3, h4, g1, g2, g3, g4, g5, g6]
def isCode : Jvm.Cond → Bool
  | .code _ _ _ _ => true
  | _ => false
theorem all_split {L : List Jvm.Cond} {P : Jvm.Cond → Bool} (h1 : L.all (fun c => isCode c || P c) = true) (h2 : ∀ c ∈ L.filter isCode, P c = true) : L.all P = true := by
  refine List.all_eq_true.mpr fun c hc => ?_
  have h := List.all_eq_true.mp h1 c hc
  rcases Bool.eq_false_or_eq_true (isCode c) with hi | hi
  · exact h2 c (List.mem_filter.mpr ⟨hc, hi⟩)
  · simpa [hi] using h
set_option maxRecDepth 65536 in
theorem w_c0 : (Jvm.Cond.code x code maxLocals ret).before args0 about1 = true := code_word (m := ⟨1, 1⟩) (meth := k1m1) (c := k1c1) (by decide +kernel) rfl rfl rfl (by decide +kernel)
set_option maxRecDepth 65536 in
theorem w_c1 : (Jvm.Cond.code ({ cls := "com/example/kempt_cursor/kemptcursor/ByteKeyOfPinLaw", name := "make", desc := "(IBBB)[B" } : Jvm.MethodName) method_3_code (4 : Nat) (Option.some (Jvm.ClassFile.FieldType.array Jvm.ClassFile.FieldType.byte))).before args0 about1 = true := code_word (m := ⟨1, 2⟩) (meth := k1m2) (c := k1c2) (by decide +kernel) rfl rfl rfl (by decide +kernel)
set_option maxRecDepth 65536 in
theorem w_c2 : (Jvm.Cond.code ({ cls := "com/example/kempt_cursor/kemptcursor/ByteKey", name := "of", desc := "([B)Lcom/example/kempt_cursor/kemptcursor/ByteKey;" } : Jvm.MethodName) prog_1_method_2_code (1 : Nat) (Option.some (Jvm.ClassFile.FieldType.object "com/example/kempt_cursor/kemptcursor/ByteKey"))).before args0 about1 = true := code_word (m := ⟨3, 1⟩) (meth := k3m1) (c := k3c1) (by decide +kernel) rfl rfl rfl (by decide +kernel)
set_option maxRecDepth 65536 in
theorem w_c3 : (Jvm.Cond.code ({ cls := "com/example/kempt_cursor/kemptcursor/ByteKey", name := "<init>", desc := "([B)V" } : Jvm.MethodName) prog_1_method_1_code (2 : Nat) (Option.none : Option Jvm.ClassFile.FieldType)).before args0 about1 = true := code_word (m := ⟨3, 0⟩) (meth := k3m0) (c := k3c0) (by decide +kernel) rfl rfl rfl (by decide +kernel)
set_option maxRecDepth 65536 in
theorem w_c4 : (Jvm.Cond.code ({ cls := "java/lang/Object", name := "<init>", desc := "()V" } : Jvm.MethodName) object_method_1_code (1 : Nat) (Option.none : Option Jvm.ClassFile.FieldType)).before args0 about1 = true := code_word (m := ⟨0, 0⟩) (meth := k0m0) (c := k0c0) (by decide +kernel) rfl rfl rfl (by decide +kernel)
set_option maxRecDepth 65536 in
theorem w_c5 : (Jvm.Cond.code ({ cls := "com/example/kempt_cursor/kemptcursor/ByteKey", name := "toByteArray", desc := "()[B" } : Jvm.MethodName) prog_1_method_3_code (1 : Nat) (Option.some (Jvm.ClassFile.FieldType.array Jvm.ClassFile.FieldType.byte))).before args0 about1 = true := code_word (m := ⟨3, 2⟩) (meth := k3m2) (c := k3c2) (by decide +kernel) rfl rfl rfl (by decide +kernel)
def codes1 : List Jvm.Cond := [Jvm.Cond.code x code maxLocals ret, Jvm.Cond.code ({ cls := "com/example/kempt_cursor/kemptcursor/ByteKeyOfPinLaw", name := "make", desc := "(IBBB)[B" } : Jvm.MethodName) method_3_code (4 : Nat) (Option.some (Jvm.ClassFile.FieldType.array Jvm.ClassFile.FieldType.byte)), Jvm.Cond.code ({ cls := "com/example/kempt_cursor/kemptcursor/ByteKey", name := "of", desc := "([B)Lcom/example/kempt_cursor/kemptcursor/ByteKey;" } : Jvm.MethodName) prog_1_method_2_code (1 : Nat) (Option.some (Jvm.ClassFile.FieldType.object "com/example/kempt_cursor/kemptcursor/ByteKey")), Jvm.Cond.code ({ cls := "com/example/kempt_cursor/kemptcursor/ByteKey", name := "<init>", desc := "([B)V" } : Jvm.MethodName) prog_1_method_1_code (2 : Nat) (Option.none : Option Jvm.ClassFile.FieldType), Jvm.Cond.code ({ cls := "java/lang/Object", name := "<init>", desc := "()V" } : Jvm.MethodName) object_method_1_code (1 : Nat) (Option.none : Option Jvm.ClassFile.FieldType), Jvm.Cond.code ({ cls := "com/example/kempt_cursor/kemptcursor/ByteKey", name := "toByteArray", desc := "()[B" } : Jvm.MethodName) prog_1_method_3_code (1 : Nat) (Option.some (Jvm.ClassFile.FieldType.array Jvm.ClassFile.FieldType.byte))]
set_option maxRecDepth 65536 in
theorem codes_eq : words1.filter isCode = codes1 := rfl
theorem w_codes : ∀ c ∈ words1.filter isCode, c.before args0 about1 = true := by
  rw [codes_eq]
  intro c hc
  simp only [codes1, List.mem_cons, List.not_mem_nil, or_false] at hc
  rcases hc with rfl | rfl | rfl | rfl | rfl | rfl
  · exact w_c0
  · exact w_c1
  · exact w_c2
  · exact w_c3
  · exact w_c4
  · exact w_c5
set_option maxRecDepth 65536 in
theorem w_t1 : (words1.take 24).all (fun c => isCode c || c.before args0 about1) = true := by decide +kernel
set_option maxRecDepth 65536 in
theorem w_t2 : (words1.drop 24).all (fun c => isCode c || c.before args0 about1) = true := by decide +kernel
theorem w_tables : (allAtoms (Jvm.Cond.code x code maxLocals ret :: tables_1)).before args0 about1 = true := by
  rw [allAtoms_all]
  show words1.all (fun c => c.before args0 about1) = true
  refine all_split ?_ w_codes
  rw [← List.take_append_drop 24 words1, List.all_append, w_t1, w_t2]
  rfl
set_option maxRecDepth 65536 in
theorem w_case : (Jvm.Cond.and given_1 narrow_1).before args0 about1 = true := by decide +kernel
theorem w_applies : (headSpec (Jvm.Cond.code x code maxLocals ret :: tables_1) room_1).applies x e0.platform about1 = true :=
  (Spec.applies_iff w_frames).mpr ⟨w_running, w_runnable, w_alone, w_named, w_hears, w_ripe, w_room, w_tables⟩
theorem atStart : AtStart classFile x code maxLocals ret World_1 tables_1 room_1 Calls_1 rest_1 Pre_1 launch0 p0 e0 about1 theMethod args0 below0 :=
  ⟨lists_1, trivial, launch0.admits_env _ _ _, launch0.least_env, fairChoices_fair.cas, fairChoices_fair.clock, w_frames, w_args, w_heap, w_applies, trivial, trivial, w_case⟩
end start1
theorem witness_1 : WitnessClaimed_1 := ⟨start1.p0, start1.e0, start1.about1, start1.theMethod, start1.args0, start1.below0, start1.atStart⟩
end Jvm.Pilot.@@N@@
