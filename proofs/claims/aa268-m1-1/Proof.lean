import JvmDerived
import JvmDerived.Pilot.@@N@@Statement
import JvmDerived.Pilot.@@N@@Code
set_option linter.unusedVariables false
set_option linter.unusedSimpArgs false

namespace Jvm.Pilot.@@N@@
open Jvm Jvm.ClassFile Sem Op Lib Jvm.Free Jvm.Stand Jvm.LawKit Jvm.RoadKit Bundle Jvm.Pilot.@@N@@.Jvm.D

section OwnKit
variable {p : Program} {l : Launch} {e : Env} {R : Room} {s : State} {m : MethodId} {args : Array Value} {below : List Frame} {meth : Method} {c : Code} {T : State} {locs : List Loc} {cells slots : Nat}
def own_Go (p : Program) (e : Env) (below : List Frame) (s : State) (Q : Option Value → Heap → List Loc → Prop) (rc rs : Nat) (T : State) (g : JFrame) : Prop :=
  ∃ s₂ o, Steps p.tables e below (T.setTop g) s₂ ∧ s₂.status = .running ∧ Ended s₂ below o ∧ ∃ v L, o = .returned v ∧ Q v s₂.heap L ∧ FrameEnd s o s₂ L rc rs
variable {Q : Option Value → Heap → List Loc → Prop} {rc rs : Nat} {T' : State} {g g' : JFrame}
theorem own_step (st : ∀ target, Steps p.tables e below (T'.setTop g') target → Steps p.tables e below (T.setTop g) target) (k : own_Go p e below s Q rc rs T' g') : own_Go p e below s Q rc rs T g := by
  obtain ⟨s₂, o, h1, h2⟩ := k
  exact ⟨s₂, o, st _ h1, h2⟩
theorem own_tr (st : Steps p.tables e below (T.setTop g) (T'.setTop g')) (k : own_Go p e below s Q rc rs T' g') : own_Go p e below s Q rc rs T g := by
  obtain ⟨s₂, o, h1, h2⟩ := k
  exact ⟨s₂, o, st.trans h1, h2⟩
theorem own_cast (q : g = g') (k : own_Go p e below s Q rc rs T g') : own_Go p e below s Q rc rs T g := q ▸ k
theorem own_done (X : Stand p l e R s m args below meth c T locs cells slots) {v : Option Value} (hv : meth.sig.returnType = none → v = none) (hlk : meth.locks = false)
    (st : ∀ fs, (∀ (f : JFrame) (acts : List Action), f.method = m → f.locked = none → f.entered = [] → (doReturn e (T.setTop f) acts v).1 = T.setFrames fs) → Steps p.tables e below (T.setTop g) (T.setFrames fs))
    (hQ : Q v T.heap locs) (hc : cells ≤ rc) (hs : slots ≤ rs) : own_Go p e below s Q rc rs T g := by
  obtain ⟨fs, hr, hrun, hended, hW, hsame⟩ := X.leave (v := v) hv hlk
  exact ⟨_, _, st fs hr, hrun, hended, v, locs, rfl, hQ, ⟨_, rfl⟩, hW, hsame.mono hc hs⟩
theorem own_rN (X : Stand p l e R s m args below meth c T locs cells slots) (hx : p.tables.exec = Jvm.exec) (hlk : meth.locks = false) {t : FieldType} (hret : meth.sig.returnType = some t) (ht : t = .boolean ∨ t = .byte ∨ t = .char ∨ t = .short) {pc : Nat} {Ls : Array Slot} {z : Int32} {rest : List Value}
    (hd : decode c.code pc = .ok (.ireturn, 1)) (hQ : Q (some (.int (nar t z))) T.heap locs) (hc : cells ≤ rc) (hs : slots ≤ rs) : own_Go p e below s Q rc rs T (mkF m pc Ls (.int z :: rest)) :=
  own_done X (fun h => by rw [hret] at h; cases h) hlk (fun fs hr => retN X hx hret ht hd hr) hQ hc hs
theorem own_rI (X : Stand p l e R s m args below meth c T locs cells slots) (hx : p.tables.exec = Jvm.exec) (hlk : meth.locks = false) (hret : meth.sig.returnType = some .int) {pc : Nat} {Ls : Array Slot} {z : Int32} {rest : List Value}
    (hd : decode c.code pc = .ok (.ireturn, 1)) (hQ : Q (some (.int z)) T.heap locs) (hc : cells ≤ rc) (hs : slots ≤ rs) : own_Go p e below s Q rc rs T (mkF m pc Ls (.int z :: rest)) :=
  own_done X (fun h => by rw [hret] at h; cases h) hlk (fun fs hr => retOut X hx hret rfl (Or.inl ⟨rfl, Or.inl rfl, _, rfl⟩) hd hr) hQ hc hs
theorem own_rJ (X : Stand p l e R s m args below meth c T locs cells slots) (hx : p.tables.exec = Jvm.exec) (hlk : meth.locks = false) (hret : meth.sig.returnType = some .long) {pc : Nat} {Ls : Array Slot} {z : Int64} {rest : List Value}
    (hd : decode c.code pc = .ok (.lreturn, 1)) (hQ : Q (some (.long z)) T.heap locs) (hc : cells ≤ rc) (hs : slots ≤ rs) : own_Go p e below s Q rc rs T (mkF m pc Ls (.long z :: rest)) :=
  own_done X (fun h => by rw [hret] at h; cases h) hlk (fun fs hr => retOut X hx hret rfl (Or.inr (Or.inl ⟨rfl, rfl, _, rfl⟩)) hd hr) hQ hc hs
theorem own_narA {t : FieldType} {w : Value} (ht : t.isReference = true) (hw : w.isRef = true) : narrow t w = w := by cases t <;> cases w <;> first | rfl | cases ht | cases hw
theorem own_rA (X : Stand p l e R s m args below meth c T locs cells slots) (hx : p.tables.exec = Jvm.exec) (hlk : meth.locks = false) {t : FieldType} (hret : meth.sig.returnType = some t) (ht : t.isReference = true) {pc : Nat} {Ls : Array Slot} {w : Value} {rest : List Value} (hw : w.isRef = true)
    (hd : decode c.code pc = .ok (.areturn, 1)) (hQ : Q (some w) T.heap locs) (hc : cells ≤ rc) (hs : slots ≤ rs) : own_Go p e below s Q rc rs T (mkF m pc Ls (w :: rest)) :=
  own_done X (fun h => by rw [hret] at h; cases h) hlk (fun fs hr => retOut X hx hret (own_narA ht hw) (Or.inr (Or.inr (Or.inr (Or.inr ⟨rfl, ht, hw⟩)))) hd hr) hQ hc hs
theorem own_rV (X : Stand p l e R s m args below meth c T locs cells slots) (hx : p.tables.exec = Jvm.exec) (hlk : meth.locks = false) (hret : meth.sig.returnType = none) {pc : Nat} {Ls : Array Slot}
    (hd : decode c.code pc = .ok (.return_, 1)) (hQ : Q none T.heap locs) (hc : cells ≤ rc) (hs : slots ≤ rs) : own_Go p e below s Q rc rs T (mkF m pc Ls []) :=
  own_done X (fun _ => rfl) hlk (fun fs hr => X.returnOut hx hret hd hr) hQ hc hs
end OwnKit
def Q_rec (h0 : Heap) (n0 : Nat) (v : Option Value) (h : Heap) (L : List Loc) : Prop := v = none ∧ Fr n0 L ∧ h = h0
theorem ef_rm_rec (m : MethodId) (x0 : Addr) : entryFrame m #[(.ref x0)] 1 = mkF m 0 #[.val (.ref x0)] [] := by first | rfl | (simp [entryFrame, mkF, argsToLocals, Value.category]; done) | (simp [entryFrame, mkF, argsToLocals, Value.category] <;> rfl)
theorem pn_0 : plainName "java/lang/Record" = true := by first | (simp [plainName, overriddenIn]; done) | decide +kernel
theorem d2_0 : decode jdk_30_method_1_code 0 = .ok (.aload_n 0, 1) := by decide +kernel
theorem d2_1 : decode jdk_30_method_1_code 1 = .ok (.invokespecial 1, 3) := by decide +kernel
theorem d2_4 : decode jdk_30_method_1_code 4 = .ok (.return_, 1) := by decide +kernel
set_option maxRecDepth 65536 in
set_option maxHeartbeats 40000000 in
theorem rm_rec (l : Launch) (Z : State) (a0 : Array Value) (hw : ∀ d ∈ tables_1, d.before a0 Z = true) (ws : List Jvm.Cond) (a1 : Addr) (h0 : Heap) (n0 : Nat) (Z0 : n0 ≤ h0.size)  :
    MetFree l (⟨"java/lang/Record", "<init>", "()V"⟩ : MethodName) (head1 (Jvm.Cond.code (⟨"java/lang/Record", "<init>", "()V"⟩ : MethodName) jdk_30_method_1_code 1 none :: ws) ({ frames := 1, cells := 0, slots := 0, locals := 12 } : Room)) (fun a U => a = #[(.ref a1)] ∧ Z.Warmed39 U.vm ∧ U.heap = h0) (fun _ _ _ _ _ => True) (fun _ U o U' => ∃ v L, o = .returned v ∧ (Q_rec h0 n0) v U'.heap L ∧ FrameEnd U o U' L ({ frames := 1, cells := 0, slots := 0, locals := 12 } : Room).cells ({ frames := 1, cells := 0, slots := 0, locals := 12 } : Room).slots) := by
  refine MetFree.of_bodySF (plainFor_of_name pn_0) hisR ?_
  intro p e s m args below meth c s₁ Bd hml0 hP hK
  obtain ⟨rfl, hZ, hh⟩ := hP
  have hx := Bd.exec
  have hby := Bd.bytes
  have hlk : meth.locks = false := BodyLoose.notSynchronized Bd
  have hml : c.maxLocals = 1 := hml0
  have hown : s.vm.findClass "java/lang/Record" = some m.cls := findClass_of_methodNamed Bd.named
  have hnm := (name_of_methodNamed Bd.named Bd.method).1
  have X0 : Stand p l e ({ frames := 1, cells := 0, slots := 0, locals := 12 } : Room) s m #[(.ref a1)] below meth c s₁ [] 0 0 := Stand.of_body Bd
  have e0 : s₁.heap = h0 := by rw [← hh, Bd.state]; rfl
  have N0 := Fr.nil n0
  show own_Go p e below s (Q_rec h0 n0) ({ frames := 1, cells := 0, slots := 0, locals := 12 } : Room).cells ({ frames := 1, cells := 0, slots := 0, locals := 12 } : Room).slots s₁ (entryFrame m #[(.ref a1)] 1)
  refine own_cast (g' := (mkF m 0 #[.val (.ref a1)] [])) (ef_rm_rec m a1) ?_
  refine own_step (T' := s₁) (g' := (mkF m 1 #[.val (.ref a1)] [(.ref a1)])) (fun t k => XS.aloadN X0.here hx rfl (hb hby d2_0) rfl rfl k) ?_
  obtain ⟨T1, X1, e1, st1⟩ := initO X0 hx hZ hown (hw _ (List.mem_of_getElem? (i := 13) rfl)) (hw _ (List.mem_of_getElem? (i := 14) rfl)) (hw _ (List.mem_of_getElem? (i := 15) rfl)) e0 (g := (mkF m 1 #[.val (.ref a1)] [(.ref a1)])) rfl (by rw [hml]; rfl) rfl (hb hby d2_1) (by decide) (W := 0) (by show 2 * 0 + _ ≤ _; exact Nat.le_of_eq rfl) (by decide)
  refine own_step (T' := T1) (g' := (mkF m 4 #[.val (.ref a1)] [])) st1 ?_
  refine own_rV X1 hx hlk Bd.returns (hb hby d2_4) ?_ (by decide) (by decide)
  rw [e1]
  exact ⟨rfl, N0, rfl⟩
def Q_init (Z : State) (a1 : Addr) (q3 : Int64) (h0 : Heap) (n0 : Nat) (v : Option Value) (h : Heap) (L : List Loc) : Prop := v = none ∧ Fr n0 L ∧ Keep h0 h [a1] ∧ Exa Z h a1 "com/example/viewlattice/viewlattice/core/Greedy$Limits" ∧ Fld Z h a1 "com/example/viewlattice/viewlattice/core/Greedy$Limits" "space" "J" (.long q3)
theorem ef_rm_init (m : MethodId) (x0 : Addr) (x1 : Int32) (x2 : Int64) : entryFrame m #[(.ref x0), (.int x1), (.long x2)] 4 = mkF m 0 #[.val (.ref x0), .val (.int x1), .val (.long x2), .second] [] := by first | rfl | (simp [entryFrame, mkF, argsToLocals, Value.category]; done) | (simp [entryFrame, mkF, argsToLocals, Value.category] <;> rfl)
theorem pn_1 : plainName "com/example/viewlattice/viewlattice/core/Greedy$Limits" = true := by first | (simp [plainName, overriddenIn]; done) | decide +kernel
theorem d1_0 : decode prog_11_method_1_code 0 = .ok (.aload_n 0, 1) := by decide +kernel
theorem pd_0 : parseMethodDescriptor "()V" = some ⟨[], none⟩ := by decide +kernel
theorem d1_1 : decode prog_11_method_1_code 1 = .ok (.invokespecial 3, 3) := by decide +kernel
theorem d1_4 : decode prog_11_method_1_code 4 = .ok (.iload_n 1, 1) := by decide +kernel
theorem d1_5 : decode prog_11_method_1_code 5 = .ok (.ifCond .ge 17, 3) := by decide +kernel
theorem d1_22 : decode prog_11_method_1_code 22 = .ok (.lload_n 2, 1) := by decide +kernel
theorem d1_23 : decode prog_11_method_1_code 23 = .ok (.lconst 0, 1) := by decide +kernel
theorem d1_24 : decode prog_11_method_1_code 24 = .ok (.lcmp, 1) := by decide +kernel
theorem d1_25 : decode prog_11_method_1_code 25 = .ok (.ifCond .ge 25, 3) := by decide +kernel
theorem d1_28 : decode prog_11_method_1_code 28 = .ok (.lload_n 2, 1) := by decide +kernel
theorem d1_29 : decode prog_11_method_1_code 29 = .ok (.ldc2_w 20, 3) := by decide +kernel
theorem d1_32 : decode prog_11_method_1_code 32 = .ok (.lcmp, 1) := by decide +kernel
theorem d1_33 : decode prog_11_method_1_code 33 = .ok (.ifCond .eq 17, 3) := by decide +kernel
theorem d1_50 : decode prog_11_method_1_code 50 = .ok (.aload_n 0, 1) := by decide +kernel
theorem d1_51 : decode prog_11_method_1_code 51 = .ok (.iload_n 1, 1) := by decide +kernel
theorem d1_52 : decode prog_11_method_1_code 52 = .ok (.putfield 25, 3) := by decide +kernel
theorem d1_55 : decode prog_11_method_1_code 55 = .ok (.aload_n 0, 1) := by decide +kernel
theorem d1_56 : decode prog_11_method_1_code 56 = .ok (.lload_n 2, 1) := by decide +kernel
theorem d1_57 : decode prog_11_method_1_code 57 = .ok (.putfield 29, 3) := by decide +kernel
theorem d1_60 : decode prog_11_method_1_code 60 = .ok (.return_, 1) := by decide +kernel
set_option maxRecDepth 65536 in
set_option maxHeartbeats 40000000 in
theorem rm_init (l : Launch) (Z : State) (a0 : Array Value) (hw : ∀ d ∈ tables_1, d.before a0 Z = true) (ws : List Jvm.Cond) (a1 : Addr) (p2 : Int32) (q3 : Int64) (u1 : Value) (u2 : Value) (h0 : Heap) (n0 : Nat) (Z0 : n0 ≤ h0.size) (E_a : Exa Z h0 a1 "com/example/viewlattice/viewlattice/core/Greedy$Limits") (F_v : Fld Z h0 a1 "com/example/viewlattice/viewlattice/core/Greedy$Limits" "views" "I" u1) (F_s : Fld Z h0 a1 "com/example/viewlattice/viewlattice/core/Greedy$Limits" "space" "J" u2) (o_a : n0 ≤ a1) (c1 : ¬ p2 < 0) (c2 : ¬ q3 < 0 ∨ q3 = -1) :
    MetFree l (⟨"com/example/viewlattice/viewlattice/core/Greedy$Limits", "<init>", "(IJ)V"⟩ : MethodName) (head1 (Jvm.Cond.code (⟨"com/example/viewlattice/viewlattice/core/Greedy$Limits", "<init>", "(IJ)V"⟩ : MethodName) prog_11_method_1_code 4 none :: ws) ({ frames := 2, cells := 0, slots := 0, locals := 24 } : Room)) (fun a U => a = #[(.ref a1), (.int p2), (.long q3)] ∧ Z.Warmed39 U.vm ∧ U.heap = h0) (fun _ _ _ _ _ => True) (fun _ U o U' => ∃ v L, o = .returned v ∧ (Q_init Z a1 q3 h0 n0) v U'.heap L ∧ FrameEnd U o U' L ({ frames := 2, cells := 0, slots := 0, locals := 24 } : Room).cells ({ frames := 2, cells := 0, slots := 0, locals := 24 } : Room).slots) := by
  refine MetFree.of_bodySF (plainFor_of_name pn_1) hisR ?_
  intro p e s m args below meth c s₁ Bd hml0 hP hK
  obtain ⟨rfl, hZ, hh⟩ := hP
  have hx := Bd.exec
  have hby := Bd.bytes
  have hlk : meth.locks = false := BodyLoose.notSynchronized Bd
  have hml : c.maxLocals = 4 := hml0
  have hown : s.vm.findClass "com/example/viewlattice/viewlattice/core/Greedy$Limits" = some m.cls := findClass_of_methodNamed Bd.named
  have hnm := (name_of_methodNamed Bd.named Bd.method).1
  have X0 : Stand p l e ({ frames := 2, cells := 0, slots := 0, locals := 24 } : Room) s m #[(.ref a1), (.int p2), (.long q3)] below meth c s₁ [] 0 0 := Stand.of_body Bd
  have e0 : s₁.heap = h0 := by rw [← hh, Bd.state]; rfl
  have N0 := Fr.nil n0
  show own_Go p e below s (Q_init Z a1 q3 h0 n0) ({ frames := 2, cells := 0, slots := 0, locals := 24 } : Room).cells ({ frames := 2, cells := 0, slots := 0, locals := 24 } : Room).slots s₁ (entryFrame m #[(.ref a1), (.int p2), (.long q3)] 4)
  refine own_cast (g' := (mkF m 0 #[.val (.ref a1), .val (.int p2), .val (.long q3), .second] [])) (ef_rm_init m a1 p2 q3) ?_
  have K0 : Keep h0 h0 [a1] := Keep.refl _ _
  refine own_step (T' := s₁) (g' := (mkF m 1 #[.val (.ref a1), .val (.int p2), .val (.long q3), .second] [(.ref a1)])) (fun t k => XS.aloadN X0.here hx rfl (hb hby d1_0) rfl rfl k) ?_
  obtain ⟨_, _, ⟨T2, L2, k2, n2⟩, -, X2, ⟨Lc2, hQ2, l2, y2, z2⟩, st2⟩ := X0.specialBack hx (y := (⟨"java/lang/Record", "<init>", "()V"⟩ : MethodName)) rfl hown (mvT hZ (hw _ (List.mem_of_getElem? (i := 8) rfl))) (mvT hZ (hw _ (List.mem_of_getElem? (i := 9) rfl))) (mvT hZ (hw _ (List.mem_of_getElem? (i := 12) rfl))) (by decide) (backOf (W := 0) (rm_rec l Z a0 hw [] a1 h0 n0 Z0 ) hZ (hw _ (List.mem_of_getElem? (i := 12) rfl)) (hw _ (List.mem_of_getElem? (i := 11) rfl)) (by decide) (by decide)) (g := (mkF m 1 #[.val (.ref a1), .val (.int p2), .val (.long q3), .second] [(.ref a1)])) rfl (by rw [hml]; rfl) (Steps.refl _) (a := a1) (argsL := []) (rest := []) (lenOf pd_0 rfl) rfl (by show 2 * 0 + _ ≤ _; exact Nat.le_of_eq rfl) (hb hby d1_1) (fun _ _ => ⟨rfl, e0, (by decide : 0 + 0 ≤ _), (by decide : 0 + 0 ≤ _)⟩)
  dsimp only [Pt.U, Pt.locs, Pt.cells, Pt.slots] at X2 l2 y2 z2 st2 hQ2
  subst l2 y2 z2
  obtain ⟨rfl, Nq2, eq1⟩ := hQ2
  have N2 := Fr.app N0 Nq2
  refine own_tr (T' := T2) (g' := (mkF m 4 #[.val (.ref a1), .val (.int p2), .val (.long q3), .second] [])) st2 ?_
  refine own_step (T' := T2) (g' := (mkF m 5 #[.val (.ref a1), .val (.int p2), .val (.long q3), .second] [(.int p2)])) (fun t k => XS.iloadN X2.here hx rfl (hb hby d1_4) rfl k) ?_
  refine own_step (T' := T2) (g' := (mkF m 22 #[.val (.ref a1), .val (.int p2), .val (.long q3), .second] [])) (fun t k => XS.ifYes X2.here hx rfl (pc0 := 5) (pc' := 22) rfl (hb hby d1_5) rfl ((if0 _ _).trans (flt c1).2.1) (by decide) (by decide) k) ?_
  refine own_step (T' := T2) (g' := (mkF m 23 #[.val (.ref a1), .val (.int p2), .val (.long q3), .second] [(.long q3)])) (fun t k => XS.lloadN X2.here hx rfl (hb hby d1_22) rfl k) ?_
  refine own_step (T' := T2) (g' := (mkF m 24 #[.val (.ref a1), .val (.int p2), .val (.long q3), .second] [(.long (0 : Int64)), (.long q3)])) (fun t k => XS.lconst X2.here hx rfl (hb hby d1_23) k) ?_
  refine own_step (T' := T2) (g' := (mkF m 25 #[.val (.ref a1), .val (.int p2), .val (.long q3), .second] [(.int (lcmpW q3 (0 : Int64)))])) (fun t k => XS.lcmp X2.here hx rfl (hb hby d1_24) rfl k) ?_
  by_cases c25 : q3 < (0 : Int64)
  · refine own_step (T' := T2) (g' := (mkF m 28 #[.val (.ref a1), .val (.int p2), .val (.long q3), .second] [])) (fun t k => XS.ifNo X2.here hx rfl (hb hby d1_25) rfl ((if0 _ _).trans (tlt ((lw_lt _ _).mpr c25)).2.1) k) ?_
    refine own_step (T' := T2) (g' := (mkF m 29 #[.val (.ref a1), .val (.int p2), .val (.long q3), .second] [(.long q3)])) (fun t k => XS.lloadN X2.here hx rfl (hb hby d1_28) rfl k) ?_
    refine own_step (T' := T2) (g' := (mkF m 32 #[.val (.ref a1), .val (.int p2), .val (.long q3), .second] [(.long ((-1) : Int64)), (.long q3)])) (X2.ldc2Long hx hown (mvT hZ (hw _ (List.mem_of_getElem? (i := 16) rfl))) (g := (mkF m 29 #[.val (.ref a1), .val (.int p2), .val (.long q3), .second] [(.long q3)])) rfl (hb hby d1_29)) ?_
    refine own_step (T' := T2) (g' := (mkF m 33 #[.val (.ref a1), .val (.int p2), .val (.long q3), .second] [(.int (lcmpW q3 ((-1) : Int64)))])) (fun t k => XS.lcmp X2.here hx rfl (hb hby d1_32) rfl k) ?_
    refine own_step (T' := T2) (g' := (mkF m 50 #[.val (.ref a1), .val (.int p2), .val (.long q3), .second] [])) (fun t k => XS.ifYes X2.here hx rfl (pc0 := 33) (pc' := 50) rfl (hb hby d1_33) rfl ((if0 _ _).trans (teq ((lw_eq _ _).mpr (c2.resolve_left (fun q => q c25)))).1) (by decide) (by decide) k) ?_
    refine own_step (T' := T2) (g' := (mkF m 51 #[.val (.ref a1), .val (.int p2), .val (.long q3), .second] [(.ref a1)])) (fun t k => XS.aloadN X2.here hx rfl (hb hby d1_50) rfl rfl k) ?_
    refine own_step (T' := T2) (g' := (mkF m 52 #[.val (.ref a1), .val (.int p2), .val (.long q3), .second] [(.int p2), (.ref a1)])) (fun t k => XS.iloadN X2.here hx rfl (hb hby d1_51) rfl k) ?_
    obtain ⟨T3, h3, X3, e3, W3, st3⟩ := putF X2 hx hZ hown (host := "") (Or.inl (hw _ (List.mem_of_getElem? (i := 17) rfl))) Via.refl eq1 F_v E_a (Or.inr ⟨(hw _ (List.mem_of_getElem? (i := 18) rfl)), rfl, hnm⟩) (hw _ (List.mem_of_getElem? (i := 3) rfl)) (ty := .int) (by decide) rfl rfl (g := (mkF m 52 #[.val (.ref a1), .val (.int p2), .val (.long q3), .second] [(.int p2), (.ref a1)])) rfl rfl (hb hby d1_52)
    have g4 : Exa Z h3 a1 "com/example/viewlattice/viewlattice/core/Greedy$Limits" := E_a.wr W3
    have g5 : Fld Z h3 a1 "com/example/viewlattice/viewlattice/core/Greedy$Limits" "views" "I" (.int p2) := F_v.same W3
    have g6 : Fld Z h3 a1 "com/example/viewlattice/viewlattice/core/Greedy$Limits" "space" "J" u2 := F_s.other W3 (Or.inr (slot_ne (Or.inr (hw _ (List.mem_of_getElem? (i := 20) rfl))) (Or.inr (hw _ (List.mem_of_getElem? (i := 18) rfl))) (by decide) (t := .long) (t' := .int) (by decide) (by decide)))
    have K7 : Keep h0 h3 [a1] := K0.wr W3 (Or.inl (List.mem_of_getElem? (i := 0) rfl))
    have N3 := Fr.snoc X3 N2 o_a
    have Z3 : n0 ≤ h3.size := (Nat.le_trans Z0 (Nat.le_of_eq W3.size.symm))
    refine own_step (T' := T3) (g' := (mkF m 55 #[.val (.ref a1), .val (.int p2), .val (.long q3), .second] [])) st3 ?_
    refine own_step (T' := T3) (g' := (mkF m 56 #[.val (.ref a1), .val (.int p2), .val (.long q3), .second] [(.ref a1)])) (fun t k => XS.aloadN X3.here hx rfl (hb hby d1_55) rfl rfl k) ?_
    refine own_step (T' := T3) (g' := (mkF m 57 #[.val (.ref a1), .val (.int p2), .val (.long q3), .second] [(.long q3), (.ref a1)])) (fun t k => XS.lloadN X3.here hx rfl (hb hby d1_56) rfl k) ?_
    obtain ⟨T8, h8, X8, e8, W8, st8⟩ := putF X3 hx hZ hown (host := "") (Or.inl (hw _ (List.mem_of_getElem? (i := 19) rfl))) Via.refl e3 g6 g4 (Or.inr ⟨(hw _ (List.mem_of_getElem? (i := 20) rfl)), rfl, hnm⟩) (hw _ (List.mem_of_getElem? (i := 3) rfl)) (ty := .long) (by decide) rfl rfl (g := (mkF m 57 #[.val (.ref a1), .val (.int p2), .val (.long q3), .second] [(.long q3), (.ref a1)])) rfl rfl (hb hby d1_57)
    have g9 : Exa Z h8 a1 "com/example/viewlattice/viewlattice/core/Greedy$Limits" := g4.wr W8
    have g10 : Fld Z h8 a1 "com/example/viewlattice/viewlattice/core/Greedy$Limits" "views" "I" (.int p2) := g5.other W8 (Or.inr (slot_ne (Or.inr (hw _ (List.mem_of_getElem? (i := 18) rfl))) (Or.inr (hw _ (List.mem_of_getElem? (i := 20) rfl))) (by decide) (t := .int) (t' := .long) (by decide) (by decide)))
    have g11 : Fld Z h8 a1 "com/example/viewlattice/viewlattice/core/Greedy$Limits" "space" "J" (.long q3) := g6.same W8
    have K12 : Keep h0 h8 [a1] := K7.wr W8 (Or.inl (List.mem_of_getElem? (i := 0) rfl))
    have N8 := Fr.snoc X8 N3 o_a
    have Z8 : n0 ≤ h8.size := (Nat.le_trans Z3 (Nat.le_of_eq W8.size.symm))
    refine own_step (T' := T8) (g' := (mkF m 60 #[.val (.ref a1), .val (.int p2), .val (.long q3), .second] [])) st8 ?_
    refine own_rV X8 hx hlk Bd.returns (hb hby d1_60) ?_ (by decide) (by decide)
    rw [e8]
    exact ⟨rfl, N8, K12, g9, g11⟩
  · refine own_step (T' := T2) (g' := (mkF m 50 #[.val (.ref a1), .val (.int p2), .val (.long q3), .second] [])) (fun t k => XS.ifYes X2.here hx rfl (pc0 := 25) (pc' := 50) rfl (hb hby d1_25) rfl ((if0 _ _).trans (flt (fun q => c25 ((lw_lt _ _).mp q))).2.1) (by decide) (by decide) k) ?_
    refine own_step (T' := T2) (g' := (mkF m 51 #[.val (.ref a1), .val (.int p2), .val (.long q3), .second] [(.ref a1)])) (fun t k => XS.aloadN X2.here hx rfl (hb hby d1_50) rfl rfl k) ?_
    refine own_step (T' := T2) (g' := (mkF m 52 #[.val (.ref a1), .val (.int p2), .val (.long q3), .second] [(.int p2), (.ref a1)])) (fun t k => XS.iloadN X2.here hx rfl (hb hby d1_51) rfl k) ?_
    obtain ⟨T13, h13, X13, e13, W13, st13⟩ := putF X2 hx hZ hown (host := "") (Or.inl (hw _ (List.mem_of_getElem? (i := 17) rfl))) Via.refl eq1 F_v E_a (Or.inr ⟨(hw _ (List.mem_of_getElem? (i := 18) rfl)), rfl, hnm⟩) (hw _ (List.mem_of_getElem? (i := 3) rfl)) (ty := .int) (by decide) rfl rfl (g := (mkF m 52 #[.val (.ref a1), .val (.int p2), .val (.long q3), .second] [(.int p2), (.ref a1)])) rfl rfl (hb hby d1_52)
    have g14 : Exa Z h13 a1 "com/example/viewlattice/viewlattice/core/Greedy$Limits" := E_a.wr W13
    have g15 : Fld Z h13 a1 "com/example/viewlattice/viewlattice/core/Greedy$Limits" "views" "I" (.int p2) := F_v.same W13
    have g16 : Fld Z h13 a1 "com/example/viewlattice/viewlattice/core/Greedy$Limits" "space" "J" u2 := F_s.other W13 (Or.inr (slot_ne (Or.inr (hw _ (List.mem_of_getElem? (i := 20) rfl))) (Or.inr (hw _ (List.mem_of_getElem? (i := 18) rfl))) (by decide) (t := .long) (t' := .int) (by decide) (by decide)))
    have K17 : Keep h0 h13 [a1] := K0.wr W13 (Or.inl (List.mem_of_getElem? (i := 0) rfl))
    have N13 := Fr.snoc X13 N2 o_a
    have Z13 : n0 ≤ h13.size := (Nat.le_trans Z0 (Nat.le_of_eq W13.size.symm))
    refine own_step (T' := T13) (g' := (mkF m 55 #[.val (.ref a1), .val (.int p2), .val (.long q3), .second] [])) st13 ?_
    refine own_step (T' := T13) (g' := (mkF m 56 #[.val (.ref a1), .val (.int p2), .val (.long q3), .second] [(.ref a1)])) (fun t k => XS.aloadN X13.here hx rfl (hb hby d1_55) rfl rfl k) ?_
    refine own_step (T' := T13) (g' := (mkF m 57 #[.val (.ref a1), .val (.int p2), .val (.long q3), .second] [(.long q3), (.ref a1)])) (fun t k => XS.lloadN X13.here hx rfl (hb hby d1_56) rfl k) ?_
    obtain ⟨T18, h18, X18, e18, W18, st18⟩ := putF X13 hx hZ hown (host := "") (Or.inl (hw _ (List.mem_of_getElem? (i := 19) rfl))) Via.refl e13 g16 g14 (Or.inr ⟨(hw _ (List.mem_of_getElem? (i := 20) rfl)), rfl, hnm⟩) (hw _ (List.mem_of_getElem? (i := 3) rfl)) (ty := .long) (by decide) rfl rfl (g := (mkF m 57 #[.val (.ref a1), .val (.int p2), .val (.long q3), .second] [(.long q3), (.ref a1)])) rfl rfl (hb hby d1_57)
    have g19 : Exa Z h18 a1 "com/example/viewlattice/viewlattice/core/Greedy$Limits" := g14.wr W18
    have g20 : Fld Z h18 a1 "com/example/viewlattice/viewlattice/core/Greedy$Limits" "views" "I" (.int p2) := g15.other W18 (Or.inr (slot_ne (Or.inr (hw _ (List.mem_of_getElem? (i := 18) rfl))) (Or.inr (hw _ (List.mem_of_getElem? (i := 20) rfl))) (by decide) (t := .int) (t' := .long) (by decide) (by decide)))
    have g21 : Fld Z h18 a1 "com/example/viewlattice/viewlattice/core/Greedy$Limits" "space" "J" (.long q3) := g16.same W18
    have K22 : Keep h0 h18 [a1] := K17.wr W18 (Or.inl (List.mem_of_getElem? (i := 0) rfl))
    have N18 := Fr.snoc X18 N13 o_a
    have Z18 : n0 ≤ h18.size := (Nat.le_trans Z13 (Nat.le_of_eq W18.size.symm))
    refine own_step (T' := T18) (g' := (mkF m 60 #[.val (.ref a1), .val (.int p2), .val (.long q3), .second] [])) st18 ?_
    refine own_rV X18 hx hlk Bd.returns (hb hby d1_60) ?_ (by decide) (by decide)
    rw [e18]
    exact ⟨rfl, N18, K22, g19, g21⟩
def own_hs (q : Int64) : Int32 := if q = -1 then 0 else 1
def Q_has (q3 : Int64) (h0 : Heap) (n0 : Nat) (v : Option Value) (h : Heap) (L : List Loc) : Prop := v = some (.int (own_hs q3)) ∧ Fr n0 L ∧ h = h0
theorem ef_rm_has (m : MethodId) (x0 : Addr) : entryFrame m #[(.ref x0)] 1 = mkF m 0 #[.val (.ref x0)] [] := by first | rfl | (simp [entryFrame, mkF, argsToLocals, Value.category]; done) | (simp [entryFrame, mkF, argsToLocals, Value.category] <;> rfl)
theorem d4_0 : decode prog_11_method_2_code 0 = .ok (.aload_n 0, 1) := by decide +kernel
theorem d4_1 : decode prog_11_method_2_code 1 = .ok (.getfield 29, 3) := by decide +kernel
theorem d4_4 : decode prog_11_method_2_code 4 = .ok (.ldc2_w 20, 3) := by decide +kernel
theorem d4_7 : decode prog_11_method_2_code 7 = .ok (.lcmp, 1) := by decide +kernel
theorem d4_8 : decode prog_11_method_2_code 8 = .ok (.ifCond .eq 7, 3) := by decide +kernel
theorem d4_15 : decode prog_11_method_2_code 15 = .ok (.iconst 0, 1) := by decide +kernel
theorem d4_16 : decode prog_11_method_2_code 16 = .ok (.ireturn, 1) := by decide +kernel
theorem d4_11 : decode prog_11_method_2_code 11 = .ok (.iconst 1, 1) := by decide +kernel
theorem d4_12 : decode prog_11_method_2_code 12 = .ok (.goto 4, 3) := by decide +kernel
set_option maxRecDepth 65536 in
set_option maxHeartbeats 40000000 in
theorem rm_has (l : Launch) (Z : State) (a0 : Array Value) (hw : ∀ d ∈ tables_1, d.before a0 Z = true) (ws : List Jvm.Cond) (a1 : Addr) (q3 : Int64) (h0 : Heap) (n0 : Nat) (Z0 : n0 ≤ h0.size) (F_s : Fld Z h0 a1 "com/example/viewlattice/viewlattice/core/Greedy$Limits" "space" "J" (.long q3)) :
    MetFree l (⟨"com/example/viewlattice/viewlattice/core/Greedy$Limits", "hasSpaceLimit", "()Z"⟩ : MethodName) (head1 (Jvm.Cond.code (⟨"com/example/viewlattice/viewlattice/core/Greedy$Limits", "hasSpaceLimit", "()Z"⟩ : MethodName) prog_11_method_2_code 1 (some (.boolean)) :: ws) ({ frames := 0, cells := 0, slots := 0, locals := 0 } : Room)) (fun a U => a = #[(.ref a1)] ∧ Z.Warmed39 U.vm ∧ U.heap = h0) (fun _ _ _ _ _ => True) (fun _ U o U' => ∃ v L, o = .returned v ∧ (Q_has q3 h0 n0) v U'.heap L ∧ FrameEnd U o U' L ({ frames := 0, cells := 0, slots := 0, locals := 0 } : Room).cells ({ frames := 0, cells := 0, slots := 0, locals := 0 } : Room).slots) := by
  refine MetFree.of_bodySF (plainFor_of_name pn_1) hisR ?_
  intro p e s m args below meth c s₁ Bd hml0 hP hK
  obtain ⟨rfl, hZ, hh⟩ := hP
  have hx := Bd.exec
  have hby := Bd.bytes
  have hlk : meth.locks = false := BodyLoose.notSynchronized Bd
  have hml : c.maxLocals = 1 := hml0
  have hown : s.vm.findClass "com/example/viewlattice/viewlattice/core/Greedy$Limits" = some m.cls := findClass_of_methodNamed Bd.named
  have hnm := (name_of_methodNamed Bd.named Bd.method).1
  have X0 : Stand p l e ({ frames := 0, cells := 0, slots := 0, locals := 0 } : Room) s m #[(.ref a1)] below meth c s₁ [] 0 0 := Stand.of_body Bd
  have e0 : s₁.heap = h0 := by rw [← hh, Bd.state]; rfl
  have N0 := Fr.nil n0
  show own_Go p e below s (Q_has q3 h0 n0) ({ frames := 0, cells := 0, slots := 0, locals := 0 } : Room).cells ({ frames := 0, cells := 0, slots := 0, locals := 0 } : Room).slots s₁ (entryFrame m #[(.ref a1)] 1)
  refine own_cast (g' := (mkF m 0 #[.val (.ref a1)] [])) (ef_rm_has m a1) ?_
  refine own_step (T' := s₁) (g' := (mkF m 1 #[.val (.ref a1)] [(.ref a1)])) (fun t k => XS.aloadN X0.here hx rfl (hb hby d4_0) rfl rfl k) ?_
  obtain ⟨T1, X1, e1, st1⟩ := getF X0 hx hZ hown (host := "") (Or.inl (hw _ (List.mem_of_getElem? (i := 19) rfl))) Via.refl e0 F_s (g := (mkF m 1 #[.val (.ref a1)] [(.ref a1)])) rfl rfl (hb hby d4_1)
  refine own_step (T' := T1) (g' := (mkF m 4 #[.val (.ref a1)] [(.long q3)])) st1 ?_
  refine own_step (T' := T1) (g' := (mkF m 7 #[.val (.ref a1)] [(.long ((-1) : Int64)), (.long q3)])) (X1.ldc2Long hx hown (mvT hZ (hw _ (List.mem_of_getElem? (i := 16) rfl))) (g := (mkF m 4 #[.val (.ref a1)] [(.long q3)])) rfl (hb hby d4_4)) ?_
  refine own_step (T' := T1) (g' := (mkF m 8 #[.val (.ref a1)] [(.int (lcmpW q3 ((-1) : Int64)))])) (fun t k => XS.lcmp X1.here hx rfl (hb hby d4_7) rfl k) ?_
  by_cases c8 : q3 = ((-1) : Int64)
  · refine own_step (T' := T1) (g' := (mkF m 15 #[.val (.ref a1)] [])) (fun t k => XS.ifYes X1.here hx rfl (pc0 := 8) (pc' := 15) rfl (hb hby d4_8) rfl ((if0 _ _).trans (teq ((lw_eq _ _).mpr c8)).1) (by decide) (by decide) k) ?_
    refine own_step (T' := T1) (g' := (mkF m 16 #[.val (.ref a1)] [(.int (0 : Int32))])) (fun t k => XS.iconst X1.here hx rfl (hb hby d4_15) k) ?_
    refine own_rN X1 hx hlk Bd.returns (by simp) (hb hby d4_16) ?_ (by decide) (by decide)
    rw [e1]
    exact ⟨by simp only [own_hs, c8, if_true, if_false]; rfl, N0, rfl⟩
  · refine own_step (T' := T1) (g' := (mkF m 11 #[.val (.ref a1)] [])) (fun t k => XS.ifNo X1.here hx rfl (hb hby d4_8) rfl ((if0 _ _).trans (feq (fun q => c8 ((lw_eq _ _).mp q))).1) k) ?_
    refine own_step (T' := T1) (g' := (mkF m 12 #[.val (.ref a1)] [(.int (1 : Int32))])) (fun t k => XS.iconst X1.here hx rfl (hb hby d4_11) k) ?_
    refine own_step (T' := T1) (g' := (mkF m 16 #[.val (.ref a1)] [(.int (1 : Int32))])) (fun t k => XS.goto X1.here hx rfl (pc0 := 12) (pc' := 16) rfl (hb hby d4_12) (by decide) (by decide) k) ?_
    refine own_rN X1 hx hlk Bd.returns (by simp) (hb hby d4_16) ?_ (by decide) (by decide)
    rw [e1]
    exact ⟨by simp only [own_hs, c8, if_true, if_false]; rfl, N0, rfl⟩
theorem own_mask (x : Int32) : ¬ (x &&& (2147483647 : Int32)) < 0 := by
  have h : ∀ y : BitVec 32, ¬ ((y &&& 2147483647#32).slt 0#32) = true := fun y => by
    rw [BitVec.slt_zero_eq_msb, BitVec.msb_and]; have z : (2147483647#32).msb = false := by decide
    simp [z]
  intro q
  exact h x.toBitVec (by simpa [Int32.lt_iff_toBitVec_slt] using q)
theorem own_maskL (x : Int64) : ¬ (x &&& (9223372036854775807 : Int64)) < 0 := by
  have h : ∀ y : BitVec 64, ¬ ((y &&& 9223372036854775807#64).slt 0#64) = true := fun y => by
    rw [BitVec.slt_zero_eq_msb, BitVec.msb_and]; have z : (9223372036854775807#64).msb = false := by decide
    simp [z]
  intro q
  exact h x.toBitVec (by simpa [Int64.lt_iff_toBitVec_slt] using q)
theorem own_hs1 {q : Int64} (h : ¬ q < 0) : own_hs q = 1 := by
  have : ¬ q = -1 := fun e => h (by subst e; decide)
  simp [own_hs, this]
theorem own_hs0 {q : Int64} (h : q < 0) (k : ¬ q < 0 ∨ q = -1) : own_hs q = 0 := by
  simp [own_hs, k.resolve_left (fun z => z h)]
def Q_law (n0 : Nat) (v : Option Value) (h : Heap) (L : List Loc) : Prop := v = some (.int 1) ∧ Fr n0 L
theorem ef_rm_law (m : MethodId) (x0 : Int32) (x1 : Int64) (x2 : Int32) : entryFrame m #[(.int x0), (.long x1), (.int x2)] maxLocals = mkF m 0 #[.val (.int x0), .val (.long x1), .second, .val (.int x2), .unset, .unset, .unset, .unset, .unset] [] := by first | rfl | (simp [entryFrame, mkF, argsToLocals, Value.category, maxLocals]; done) | (simp [entryFrame, mkF, argsToLocals, Value.category, maxLocals] <;> rfl)
theorem pn_2 : plainName "com/example/viewlattice/viewlattice/core/LimitsHasSpaceLimitPinLaw" = true := by first | (simp [plainName, overriddenIn]; done) | decide +kernel
theorem pd_1 : parseMethodDescriptor "(IJ)V" = some ⟨[.int, .long], none⟩ := by decide +kernel
theorem pd_2 : parseMethodDescriptor "()Z" = some ⟨[], some (.boolean)⟩ := by decide +kernel
set_option maxRecDepth 65536 in
set_option maxHeartbeats 40000000 in
theorem rm_law (l : Launch) (Z : State) (a0 : Array Value) (hw : ∀ d ∈ tables_1, d.before a0 Z = true) (ws : List Jvm.Cond) (p0 : Int32) (p1 : Int64) (p2 : Int32) (h0 : Heap) (n0 : Nat) (Z0 : n0 ≤ h0.size)  :
    MetFree l x (head1 (Jvm.Cond.code x code maxLocals ret :: ws) room_1) (fun a U => a = #[(.int p0), (.long p1), (.int p2)] ∧ Z.Warmed39 U.vm ∧ U.heap = h0) (fun _ _ _ _ _ => True) (fun _ U o U' => ∃ v L, o = .returned v ∧ (Q_law n0) v U'.heap L ∧ FrameEnd U o U' L 16 128) := by
  refine MetFree.of_bodySF (plainFor_of_name pn_2) hisR ?_
  intro p e s m args below meth c s₁ Bd hml0 hP hK
  obtain ⟨rfl, hZ, hh⟩ := hP
  have hx := Bd.exec
  have hby := Bd.bytes
  have hlk : meth.locks = false := BodyLoose.notSynchronized Bd
  have hml : c.maxLocals = 9 := hml0
  have hown : s.vm.findClass "com/example/viewlattice/viewlattice/core/LimitsHasSpaceLimitPinLaw" = some m.cls := findClass_of_methodNamed Bd.named
  have hnm := (name_of_methodNamed Bd.named Bd.method).1
  have X0 : Stand p l e room_1 s m #[(.int p0), (.long p1), (.int p2)] below meth c s₁ [] 0 0 := Stand.of_body Bd
  have e0 : s₁.heap = h0 := by rw [← hh, Bd.state]; rfl
  have N0 := Fr.nil n0
  show own_Go p e below s (Q_law n0) 16 128 s₁ (entryFrame m #[(.int p0), (.long p1), (.int p2)] maxLocals)
  refine own_cast (g' := (mkF m 0 #[.val (.int p0), .val (.long p1), .second, .val (.int p2), .unset, .unset, .unset, .unset, .unset] [])) (ef_rm_law m p0 p1 p2) ?_
  have hv0 := own_mask p0
  refine own_step (T' := s₁) (g' := (mkF m 1 #[.val (.int p0), .val (.long p1), .second, .val (.int p2), .unset, .unset, .unset, .unset, .unset] [(.int p0)])) (fun t k => XS.iloadN X0.here hx rfl (hb hby at_0) rfl k) ?_
  refine own_step (T' := s₁) (g' := (mkF m 3 #[.val (.int p0), .val (.long p1), .second, .val (.int p2), .unset, .unset, .unset, .unset, .unset] [(.int (2147483647 : Int32)), (.int p0)])) (X0.ldcInt hx hown (mvT hZ (hw _ (List.mem_of_getElem? (i := 0) rfl))) (g := (mkF m 1 #[.val (.int p0), .val (.long p1), .second, .val (.int p2), .unset, .unset, .unset, .unset, .unset] [(.int p0)])) rfl (hb hby at_1)) ?_
  refine own_step (T' := s₁) (g' := (mkF m 4 #[.val (.int p0), .val (.long p1), .second, .val (.int p2), .unset, .unset, .unset, .unset, .unset] [(.int (p0 &&& (2147483647 : Int32)))])) (fun t k => XS.iand X0.here hx rfl (hb hby at_3) rfl k) ?_
  generalize hd_vw : (p0 &&& (2147483647 : Int32)) = vw
  refine own_step (T' := s₁) (g' := (mkF m 6 #[.val (.int p0), .val (.long p1), .second, .val (.int p2), .val (.int vw), .unset, .unset, .unset, .unset] [])) (fun t k => XS.istore X0.here hx rfl (hb hby at_4) rfl (l' := #[.val (.int p0), .val (.long p1), .second, .val (.int p2), .val (.int vw), .unset, .unset, .unset, .unset]) rfl k) ?_
  refine own_step (T' := s₁) (g' := (mkF m 7 #[.val (.int p0), .val (.long p1), .second, .val (.int p2), .val (.int vw), .unset, .unset, .unset, .unset] [(.int p2)])) (fun t k => XS.iloadN X0.here hx rfl (hb hby at_6) rfl k) ?_
  refine own_step (T' := s₁) (g' := (mkF m 8 #[.val (.int p0), .val (.long p1), .second, .val (.int p2), .val (.int vw), .unset, .unset, .unset, .unset] [(.int (1 : Int32)), (.int p2)])) (fun t k => XS.iconst X0.here hx rfl (hb hby at_7) k) ?_
  refine own_step (T' := s₁) (g' := (mkF m 9 #[.val (.int p0), .val (.long p1), .second, .val (.int p2), .val (.int vw), .unset, .unset, .unset, .unset] [(.int (p2 &&& (1 : Int32)))])) (fun t k => XS.iand X0.here hx rfl (hb hby at_8) rfl k) ?_
  have hv : ¬ vw < 0 := by rw [← hd_vw]; exact hv0
  have j23 : ∀ sp : Int64, (¬ sp < 0 ∨ sp = -1) → own_Go p e below s (Q_law n0) 16 128 s₁ (mkF m 23 #[.val (.int p0), .val (.long p1), .second, .val (.int p2), .val (.int vw), .unset, .unset, .unset, .unset] [(.long sp)]) := by
    intro sp hsp
    refine own_step (T' := s₁) (g' := (mkF m 25 #[.val (.int p0), .val (.long p1), .second, .val (.int p2), .val (.int vw), .val (.long sp), .second, .unset, .unset] [])) (fun t k => XS.lstore X0.here hx rfl (hb hby at_23) rfl (l' := #[.val (.int p0), .val (.long p1), .second, .val (.int p2), .val (.int vw), .val (.long sp), .second, .unset, .unset]) rfl k) ?_
    obtain ⟨T1, h1, X1, e1, E1, A1, D1, -, st1⟩ := newO X0 hx hZ hown (hw _ (List.mem_of_getElem? (i := 2) rfl)) (hw _ (List.mem_of_getElem? (i := 3) rfl)) (hw _ (List.mem_of_getElem? (i := 4) rfl)) e0 (g := (mkF m 25 #[.val (.int p0), .val (.long p1), .second, .val (.int p2), .val (.int vw), .val (.long sp), .second, .unset, .unset] [])) rfl (hb hby at_25) (by decide : 0 + 1 ≤ _) (by decide : 0 + 2 ≤ _)
    obtain ⟨a1, g_a1⟩ : ∃ z, z = h0.size := ⟨_, rfl⟩
    rw [← g_a1] at A1 D1 st1
    have o1 : n0 ≤ a1 := (Nat.le_trans Z0 (Nat.le_of_eq g_a1.symm))
    have Z1 : n0 ≤ h1.size := (Nat.le_trans Z0 E1.1)
    have g2 : Fld Z h1 a1 "com/example/viewlattice/viewlattice/core/Greedy$Limits" "views" "I" (.int (0 : Int32)) := D1 (Or.inr (hw _ (List.mem_of_getElem? (i := 18) rfl))) (ty := .int) (by decide)
    have g3 : Fld Z h1 a1 "com/example/viewlattice/viewlattice/core/Greedy$Limits" "space" "J" (.long (0 : Int64)) := D1 (Or.inr (hw _ (List.mem_of_getElem? (i := 20) rfl))) (ty := .long) (by decide)
    refine own_step (T' := T1) (g' := (mkF m 28 #[.val (.int p0), .val (.long p1), .second, .val (.int p2), .val (.int vw), .val (.long sp), .second, .unset, .unset] [(.ref a1)])) st1 ?_
    refine own_step (T' := T1) (g' := (mkF m 29 #[.val (.int p0), .val (.long p1), .second, .val (.int p2), .val (.int vw), .val (.long sp), .second, .unset, .unset] [(.ref a1), (.ref a1)])) (fun t k => XS.dup X1.here hx rfl (hb hby at_28) rfl rfl k) ?_
    refine own_step (T' := T1) (g' := (mkF m 31 #[.val (.int p0), .val (.long p1), .second, .val (.int p2), .val (.int vw), .val (.long sp), .second, .unset, .unset] [(.int vw), (.ref a1), (.ref a1)])) (fun t k => XS.iload X1.here hx rfl (hb hby at_29) rfl k) ?_
    refine own_step (T' := T1) (g' := (mkF m 33 #[.val (.int p0), .val (.long p1), .second, .val (.int p2), .val (.int vw), .val (.long sp), .second, .unset, .unset] [(.long sp), (.int vw), (.ref a1), (.ref a1)])) (fun t k => XS.lload X1.here hx rfl (hb hby at_31) rfl k) ?_
    obtain ⟨_, _, ⟨T7, L7, k7, n7⟩, -, X7, ⟨Lc7, hQ7, l7, y7, z7⟩, st7⟩ := X1.specialBack hx (y := (⟨"com/example/viewlattice/viewlattice/core/Greedy$Limits", "<init>", "(IJ)V"⟩ : MethodName)) rfl hown (mvT hZ (hw _ (List.mem_of_getElem? (i := 5) rfl))) (mvT hZ (hw _ (List.mem_of_getElem? (i := 6) rfl))) (mvT hZ (hw _ (List.mem_of_getElem? (i := 7) rfl))) (by decide) (backOf (W := 1) (rm_init l Z a0 hw [] a1 vw sp _ _ h1 n0 Z1 A1 g2 g3 o1 hv hsp) hZ (hw _ (List.mem_of_getElem? (i := 7) rfl)) (hw _ (List.mem_of_getElem? (i := 4) rfl)) (by decide) (by decide)) (g := (mkF m 33 #[.val (.int p0), .val (.long p1), .second, .val (.int p2), .val (.int vw), .val (.long sp), .second, .unset, .unset] [(.long sp), (.int vw), (.ref a1), (.ref a1)])) rfl (by rw [hml]; rfl) (Steps.refl _) (a := a1) (argsL := [(.int vw), (.long sp)]) (rest := [(.ref a1)]) (lenOf pd_1 rfl) rfl (by show 2 * 0 + _ ≤ _; exact Nat.le_of_eq rfl) (hb hby at_33) (fun _ _ => ⟨rfl, e1, (by decide : 1 + 0 ≤ _), (by decide : 2 + 0 ≤ _)⟩)
    dsimp only [Pt.U, Pt.locs, Pt.cells, Pt.slots] at X7 l7 y7 z7 st7 hQ7
    subst l7 y7 z7
    obtain ⟨rfl, Nq7, K4, g5, g6⟩ := hQ7
    have N7 := Fr.app N0 Nq7
    have Z4 : n0 ≤ T7.heap.size := (Nat.le_trans Z1 K4.1)
    refine own_tr (T' := T7) (g' := (mkF m 36 #[.val (.int p0), .val (.long p1), .second, .val (.int p2), .val (.int vw), .val (.long sp), .second, .unset, .unset] [(.ref a1)])) st7 ?_
    refine own_step (T' := T7) (g' := (mkF m 38 #[.val (.int p0), .val (.long p1), .second, .val (.int p2), .val (.int vw), .val (.long sp), .second, .val (.ref a1), .unset] [])) (fun t k => XS.astore X7.here hx rfl (hb hby at_36) rfl rfl (l' := #[.val (.int p0), .val (.long p1), .second, .val (.int p2), .val (.int vw), .val (.long sp), .second, .val (.ref a1), .unset]) rfl k) ?_
    refine own_step (T' := T7) (g' := (mkF m 40 #[.val (.int p0), .val (.long p1), .second, .val (.int p2), .val (.int vw), .val (.long sp), .second, .val (.ref a1), .unset] [(.long sp)])) (fun t k => XS.lload X7.here hx rfl (hb hby at_38) rfl k) ?_
    refine own_step (T' := T7) (g' := (mkF m 41 #[.val (.int p0), .val (.long p1), .second, .val (.int p2), .val (.int vw), .val (.long sp), .second, .val (.ref a1), .unset] [(.long (0 : Int64)), (.long sp)])) (fun t k => XS.lconst X7.here hx rfl (hb hby at_40) k) ?_
    refine own_step (T' := T7) (g' := (mkF m 42 #[.val (.int p0), .val (.long p1), .second, .val (.int p2), .val (.int vw), .val (.long sp), .second, .val (.ref a1), .unset] [(.int (lcmpW sp (0 : Int64)))])) (fun t k => XS.lcmp X7.here hx rfl (hb hby at_41) rfl k) ?_
    by_cases c42 : sp < (0 : Int64)
    · refine own_step (T' := T7) (g' := (mkF m 49 #[.val (.int p0), .val (.long p1), .second, .val (.int p2), .val (.int vw), .val (.long sp), .second, .val (.ref a1), .unset] [])) (fun t k => XS.ifYes X7.here hx rfl (pc0 := 42) (pc' := 49) rfl (hb hby at_42) rfl ((if0 _ _).trans (tlt ((lw_lt _ _).mpr c42)).1) (by decide) (by decide) k) ?_
      refine own_step (T' := T7) (g' := (mkF m 50 #[.val (.int p0), .val (.long p1), .second, .val (.int p2), .val (.int vw), .val (.long sp), .second, .val (.ref a1), .unset] [(.int (0 : Int32))])) (fun t k => XS.iconst X7.here hx rfl (hb hby at_49) k) ?_
      refine own_step (T' := T7) (g' := (mkF m 52 #[.val (.int p0), .val (.long p1), .second, .val (.int p2), .val (.int vw), .val (.long sp), .second, .val (.ref a1), .val (.int (0 : Int32))] [])) (fun t k => XS.istore X7.here hx rfl (hb hby at_50) rfl (l' := #[.val (.int p0), .val (.long p1), .second, .val (.int p2), .val (.int vw), .val (.long sp), .second, .val (.ref a1), .val (.int (0 : Int32))]) rfl k) ?_
      refine own_step (T' := T7) (g' := (mkF m 54 #[.val (.int p0), .val (.long p1), .second, .val (.int p2), .val (.int vw), .val (.long sp), .second, .val (.ref a1), .val (.int (0 : Int32))] [(.ref a1)])) (fun t k => XS.aload X7.here hx rfl (hb hby at_52) rfl rfl k) ?_
      obtain ⟨cq10, kq10, q10a, q10b, q10c⟩ := isOf hZ rfl g5
      obtain ⟨_, _, ⟨T9, L9, k9, n9⟩, -, X9, ⟨Lc9, hQ9, l9, y9, z9⟩, st9⟩ := X7.virtualBack hx (y := (⟨"com/example/viewlattice/viewlattice/core/Greedy$Limits", "hasSpaceLimit", "()Z"⟩ : MethodName)) (z := (⟨"com/example/viewlattice/viewlattice/core/Greedy$Limits", "hasSpaceLimit", "()Z"⟩ : MethodName)) hown (mvT hZ (hw _ (List.mem_of_getElem? (i := 21) rfl))) (mvT hZ (hw _ (List.mem_of_getElem? (i := 22) rfl))) (notFace_of_selects (args := #[]) (mvT hZ (hw _ (List.mem_of_getElem? (i := 24) rfl)))) (mvT hZ (hw _ (List.mem_of_getElem? (i := 24) rfl))) (mvT hZ (hw _ (List.mem_of_getElem? (i := 23) rfl))) (by decide) (backOf (W := 0) (rm_has l Z a0 hw [] a1 sp T7.heap n0 Z4 g6) hZ (hw _ (List.mem_of_getElem? (i := 25) rfl)) (hw _ (List.mem_of_getElem? (i := 4) rfl)) (by decide) (by decide)) q10a q10c (g := (mkF m 54 #[.val (.int p0), .val (.long p1), .second, .val (.int p2), .val (.int vw), .val (.long sp), .second, .val (.ref a1), .val (.int (0 : Int32))] [(.ref a1)])) rfl (by rw [hml]; rfl) (Steps.refl _) (argsL := []) (rest := []) (lenOf pd_2 rfl) rfl (by show 2 * 0 + _ ≤ _; exact Nat.le_of_eq rfl) (hb hby at_54) (fun _ _ => ⟨rfl, rfl, (by decide : 1 + 0 ≤ _), (by decide : 2 + 0 ≤ _)⟩)
      dsimp only [Pt.U, Pt.locs, Pt.cells, Pt.slots] at X9 l9 y9 z9 st9 hQ9
      subst l9 y9 z9
      obtain ⟨rfl, Nq9, eq8⟩ := hQ9
      have N9 := Fr.app N7 Nq9
      refine own_tr (T' := T9) (g' := (mkF m 57 #[.val (.int p0), .val (.long p1), .second, .val (.int p2), .val (.int vw), .val (.long sp), .second, .val (.ref a1), .val (.int (0 : Int32))] [(.int (own_hs sp))])) st9 ?_
      refine own_step (T' := T9) (g' := (mkF m 59 #[.val (.int p0), .val (.long p1), .second, .val (.int p2), .val (.int vw), .val (.long sp), .second, .val (.ref a1), .val (.int (0 : Int32))] [(.int (0 : Int32)), (.int (own_hs sp))])) (fun t k => XS.iload X9.here hx rfl (hb hby at_57) rfl k) ?_
      refine own_step (T' := T9) (g' := (mkF m 62 #[.val (.int p0), .val (.long p1), .second, .val (.int p2), .val (.int vw), .val (.long sp), .second, .val (.ref a1), .val (.int (0 : Int32))] [])) (fun t k => XS.icmpNo X9.here hx rfl (hb hby at_59) rfl (teq (own_hs0 c42 hsp)).2 k) ?_
      refine own_step (T' := T9) (g' := (mkF m 63 #[.val (.int p0), .val (.long p1), .second, .val (.int p2), .val (.int vw), .val (.long sp), .second, .val (.ref a1), .val (.int (0 : Int32))] [(.int (1 : Int32))])) (fun t k => XS.iconst X9.here hx rfl (hb hby at_62) k) ?_
      refine own_step (T' := T9) (g' := (mkF m 67 #[.val (.int p0), .val (.long p1), .second, .val (.int p2), .val (.int vw), .val (.long sp), .second, .val (.ref a1), .val (.int (0 : Int32))] [(.int (1 : Int32))])) (fun t k => XS.goto X9.here hx rfl (pc0 := 63) (pc' := 67) rfl (hb hby at_63) (by decide) (by decide) k) ?_
      refine own_rN X9 hx hlk Bd.returns (by simp) (hb hby at_67) ?_ (by decide) (by decide)
      rw [eq8]
      exact ⟨rfl, N9⟩
    · refine own_step (T' := T7) (g' := (mkF m 45 #[.val (.int p0), .val (.long p1), .second, .val (.int p2), .val (.int vw), .val (.long sp), .second, .val (.ref a1), .unset] [])) (fun t k => XS.ifNo X7.here hx rfl (hb hby at_42) rfl ((if0 _ _).trans (flt (fun q => c42 ((lw_lt _ _).mp q))).1) k) ?_
      refine own_step (T' := T7) (g' := (mkF m 46 #[.val (.int p0), .val (.long p1), .second, .val (.int p2), .val (.int vw), .val (.long sp), .second, .val (.ref a1), .unset] [(.int (1 : Int32))])) (fun t k => XS.iconst X7.here hx rfl (hb hby at_45) k) ?_
      refine own_step (T' := T7) (g' := (mkF m 50 #[.val (.int p0), .val (.long p1), .second, .val (.int p2), .val (.int vw), .val (.long sp), .second, .val (.ref a1), .unset] [(.int (1 : Int32))])) (fun t k => XS.goto X7.here hx rfl (pc0 := 46) (pc' := 50) rfl (hb hby at_46) (by decide) (by decide) k) ?_
      refine own_step (T' := T7) (g' := (mkF m 52 #[.val (.int p0), .val (.long p1), .second, .val (.int p2), .val (.int vw), .val (.long sp), .second, .val (.ref a1), .val (.int (1 : Int32))] [])) (fun t k => XS.istore X7.here hx rfl (hb hby at_50) rfl (l' := #[.val (.int p0), .val (.long p1), .second, .val (.int p2), .val (.int vw), .val (.long sp), .second, .val (.ref a1), .val (.int (1 : Int32))]) rfl k) ?_
      refine own_step (T' := T7) (g' := (mkF m 54 #[.val (.int p0), .val (.long p1), .second, .val (.int p2), .val (.int vw), .val (.long sp), .second, .val (.ref a1), .val (.int (1 : Int32))] [(.ref a1)])) (fun t k => XS.aload X7.here hx rfl (hb hby at_52) rfl rfl k) ?_
      obtain ⟨cq13, kq13, q13a, q13b, q13c⟩ := isOf hZ rfl g5
      obtain ⟨_, _, ⟨T12, L12, k12, n12⟩, -, X12, ⟨Lc12, hQ12, l12, y12, z12⟩, st12⟩ := X7.virtualBack hx (y := (⟨"com/example/viewlattice/viewlattice/core/Greedy$Limits", "hasSpaceLimit", "()Z"⟩ : MethodName)) (z := (⟨"com/example/viewlattice/viewlattice/core/Greedy$Limits", "hasSpaceLimit", "()Z"⟩ : MethodName)) hown (mvT hZ (hw _ (List.mem_of_getElem? (i := 21) rfl))) (mvT hZ (hw _ (List.mem_of_getElem? (i := 22) rfl))) (notFace_of_selects (args := #[]) (mvT hZ (hw _ (List.mem_of_getElem? (i := 24) rfl)))) (mvT hZ (hw _ (List.mem_of_getElem? (i := 24) rfl))) (mvT hZ (hw _ (List.mem_of_getElem? (i := 23) rfl))) (by decide) (backOf (W := 0) (rm_has l Z a0 hw [] a1 sp T7.heap n0 Z4 g6) hZ (hw _ (List.mem_of_getElem? (i := 25) rfl)) (hw _ (List.mem_of_getElem? (i := 4) rfl)) (by decide) (by decide)) q13a q13c (g := (mkF m 54 #[.val (.int p0), .val (.long p1), .second, .val (.int p2), .val (.int vw), .val (.long sp), .second, .val (.ref a1), .val (.int (1 : Int32))] [(.ref a1)])) rfl (by rw [hml]; rfl) (Steps.refl _) (argsL := []) (rest := []) (lenOf pd_2 rfl) rfl (by show 2 * 0 + _ ≤ _; exact Nat.le_of_eq rfl) (hb hby at_54) (fun _ _ => ⟨rfl, rfl, (by decide : 1 + 0 ≤ _), (by decide : 2 + 0 ≤ _)⟩)
      dsimp only [Pt.U, Pt.locs, Pt.cells, Pt.slots] at X12 l12 y12 z12 st12 hQ12
      subst l12 y12 z12
      obtain ⟨rfl, Nq12, eq11⟩ := hQ12
      have N12 := Fr.app N7 Nq12
      refine own_tr (T' := T12) (g' := (mkF m 57 #[.val (.int p0), .val (.long p1), .second, .val (.int p2), .val (.int vw), .val (.long sp), .second, .val (.ref a1), .val (.int (1 : Int32))] [(.int (own_hs sp))])) st12 ?_
      refine own_step (T' := T12) (g' := (mkF m 59 #[.val (.int p0), .val (.long p1), .second, .val (.int p2), .val (.int vw), .val (.long sp), .second, .val (.ref a1), .val (.int (1 : Int32))] [(.int (1 : Int32)), (.int (own_hs sp))])) (fun t k => XS.iload X12.here hx rfl (hb hby at_57) rfl k) ?_
      refine own_step (T' := T12) (g' := (mkF m 62 #[.val (.int p0), .val (.long p1), .second, .val (.int p2), .val (.int vw), .val (.long sp), .second, .val (.ref a1), .val (.int (1 : Int32))] [])) (fun t k => XS.icmpNo X12.here hx rfl (hb hby at_59) rfl (teq (own_hs1 c42)).2 k) ?_
      refine own_step (T' := T12) (g' := (mkF m 63 #[.val (.int p0), .val (.long p1), .second, .val (.int p2), .val (.int vw), .val (.long sp), .second, .val (.ref a1), .val (.int (1 : Int32))] [(.int (1 : Int32))])) (fun t k => XS.iconst X12.here hx rfl (hb hby at_62) k) ?_
      refine own_step (T' := T12) (g' := (mkF m 67 #[.val (.int p0), .val (.long p1), .second, .val (.int p2), .val (.int vw), .val (.long sp), .second, .val (.ref a1), .val (.int (1 : Int32))] [(.int (1 : Int32))])) (fun t k => XS.goto X12.here hx rfl (pc0 := 63) (pc' := 67) rfl (hb hby at_63) (by decide) (by decide) k) ?_
      refine own_rN X12 hx hlk Bd.returns (by simp) (hb hby at_67) ?_ (by decide) (by decide)
      rw [eq11]
      exact ⟨rfl, N12⟩
  by_cases c9_14 : (p2 &&& (1 : Int32)) = (0 : Int32)
  · refine own_step (T' := s₁) (g' := (mkF m 18 #[.val (.int p0), .val (.long p1), .second, .val (.int p2), .val (.int vw), .unset, .unset, .unset, .unset] [])) (fun t k => XS.ifYes X0.here hx rfl (pc0 := 9) (pc' := 18) rfl (hb hby at_9) rfl ((if0 _ _).trans (teq c9_14).1) (by decide) (by decide) k) ?_
    refine own_step (T' := s₁) (g' := (mkF m 19 #[.val (.int p0), .val (.long p1), .second, .val (.int p2), .val (.int vw), .unset, .unset, .unset, .unset] [(.long p1)])) (fun t k => XS.lloadN X0.here hx rfl (hb hby at_18) rfl k) ?_
    refine own_step (T' := s₁) (g' := (mkF m 22 #[.val (.int p0), .val (.long p1), .second, .val (.int p2), .val (.int vw), .unset, .unset, .unset, .unset] [(.long (9223372036854775807 : Int64)), (.long p1)])) (X0.ldc2Long hx hown (mvT hZ (hw _ (List.mem_of_getElem? (i := 26) rfl))) (g := (mkF m 19 #[.val (.int p0), .val (.long p1), .second, .val (.int p2), .val (.int vw), .unset, .unset, .unset, .unset] [(.long p1)])) rfl (hb hby at_19)) ?_
    refine own_step (T' := s₁) (g' := (mkF m 23 #[.val (.int p0), .val (.long p1), .second, .val (.int p2), .val (.int vw), .unset, .unset, .unset, .unset] [(.long (p1 &&& (9223372036854775807 : Int64)))])) (fun t k => XS.land X0.here hx rfl (hb hby at_22) rfl k) ?_
    exact j23 (p1 &&& (9223372036854775807 : Int64)) (Or.inl (own_maskL p1))
  · refine own_step (T' := s₁) (g' := (mkF m 12 #[.val (.int p0), .val (.long p1), .second, .val (.int p2), .val (.int vw), .unset, .unset, .unset, .unset] [])) (fun t k => XS.ifNo X0.here hx rfl (hb hby at_9) rfl ((if0 _ _).trans (feq c9_14).1) k) ?_
    refine own_step (T' := s₁) (g' := (mkF m 15 #[.val (.int p0), .val (.long p1), .second, .val (.int p2), .val (.int vw), .unset, .unset, .unset, .unset] [(.long ((-1) : Int64))])) (X0.ldc2Long hx hown (mvT hZ (hw _ (List.mem_of_getElem? (i := 1) rfl))) (g := (mkF m 12 #[.val (.int p0), .val (.long p1), .second, .val (.int p2), .val (.int vw), .unset, .unset, .unset, .unset] [])) rfl (hb hby at_12)) ?_
    refine own_step (T' := s₁) (g' := (mkF m 23 #[.val (.int p0), .val (.long p1), .second, .val (.int p2), .val (.int vw), .unset, .unset, .unset, .unset] [(.long ((-1) : Int64))])) (fun t k => XS.goto X0.here hx rfl (pc0 := 15) (pc' := 23) rfl (hb hby at_15) (by decide) (by decide) k) ?_
    exact j23 ((-1) : Int64) (Or.inr rfl)
set_option maxRecDepth 65536 in
set_option maxHeartbeats 40000000 in
theorem comes_1 {Post : Tables → Env → Array Value → State → Outcome → State → Prop} (hpost : ∀ tb e args s v u, (limb_1_1.after args s (.returned v) u = true ∧ limb_1_2.after args s (.returned v) u = true ∧ True) → FrameEnd s (.returned v) u (Jvm.fieldLocs frame_1_writes args s ++ Jvm.arrayLocs frame_1_arrays args s ++ Jvm.staticLocs frame_1_statics s) 16 128 → Post tb e args s (.returned v) u) :
    ArmFor flags0 classFile x code maxLocals ret World_1 tables_1 room_1 Calls_1 rest_1 Pre_1 Post := by
  intro l hfl _ _ p e ha hc hk s m args below hf hA hF happ hP
  obtain ⟨hcalls, hrest, hpre⟩ := hP
  obtain ⟨-, -, -, hnamed, -, -, -, hat⟩ := (Spec.applies_iff hf).mp happ
  obtain ⟨hg, hn⟩ := and_e (Cond.before_iff.mp (show (Jvm.Cond.and given_1 narrow_1).before args s = true from hpre))
  obtain ⟨hc0, hg0⟩ := and_e hg
  obtain ⟨hc1, hg1⟩ := and_e hg0
  obtain ⟨hc2, hg2⟩ := and_e hg1
  obtain ⟨w0, w1, w2, rfl⟩ : ∃ w0 w1 w2 : Value, args = #[w0, w1, w2] := by
    have hs : args.size = 3 := by simpa [Cond.value, given_1] using hc0
    obtain ⟨L⟩ := args
    match L, hs with
    | [w0, w1, w2], _ => exact ⟨w0, w1, w2, rfl⟩
  have hw := fun d (hd : d ∈ tables_1) => atoms_spec (ws := Jvm.Cond.code x code maxLocals ret :: tables_1) hat d (List.mem_cons_of_mem _ hd)
  have hfit : Fit s := fun {y c} hc i hi => by
    obtain ⟨ha, rfl⟩ := Array.getElem?_eq_some_iff.mp hc
    have q := List.all_eq_true.mp ((Array.all_eq_true_iff_forall_mem.mp hF) _ (Array.getElem_mem ha)) i (List.mem_range.mpr hi)
    simpa [Array.getElem?_eq_getElem hi] using q
  obtain ⟨i0, ev0⟩ := is_v hc1
  obtain rfl : w0 = (.int i0) := Option.some.inj ev0
  obtain ⟨i1, ev1⟩ := isL_v hc2
  obtain rfl : w1 = (.long i1) := Option.some.inj ev1
  obtain ⟨i2, ev2⟩ := is_v hg2
  obtain rfl : w2 = (.int i2) := Option.some.inj ev2

  obtain ⟨n, o, h1, h2, h3, _, L, rfl, ⟨rfl, N⟩, hq⟩ := rm_law l s _ hw tables_1 i0 i1 i2  s.heap s.heap.size (Nat.le_refl _)  p e ha hc hk s m _ below hf ((Spec.applies_iff_loose hf).mp happ).1 ⟨rfl, State.Warmed39.refl s, rfl⟩ trivial
  refine ⟨n, _, h1, h2, h3, hpost _ _ _ _ _ _ ⟨Cond.after_iff.mpr rfl, Cond.after_iff.mpr (eq_i res_at (Term.int_eval (1)) rfl), trivial⟩ ⟨hq.1, hq.2.1, (hq.2.2.sift fun y hy => Or.inr (N y hy)).mono (by decide) (by decide)⟩⟩
theorem main_1_1 : Claimed_1_1 := comes_1 fun _ _ _ _ _ _ h hF => ⟨h.1, hF⟩
theorem main_1_2 : Claimed_1_2 := comes_1 fun _ _ _ _ _ _ h hF => ⟨h.2.1, hF⟩

end Jvm.Pilot.@@N@@
namespace Jvm.Pilot.@@N@@
open Jvm Jvm.ClassFile Sem Op Lib Jvm.Free Jvm.Stand Jvm.Pilot.@@N@@.Jvm.D
/-! MADE BY PROGRAM (witnessworld.py) out of the Statement's table words and the real class files: 10 classes; the members and pool entries that the words name. The judged class is class 1, her method 1. -/
namespace start1
open Jvm.ClassFile
def u (s : String) : CpInfo := .utf8 (stringToUtf16 s)
/-- a pool by its gaps: so many unusable entries, then the entry; so many at the end -/
def gap : Nat → List CpInfo → List CpInfo
  | 0, r => r
  | n + 1, r => .unusable :: gap n r
def poolList (es : List (Nat × CpInfo)) (last : Nat) : List CpInfo := es.foldr (fun e r => gap e.1 (e.2 :: r)) (gap last [])
def pool (es : List (Nat × CpInfo)) (last : Nat) : Array CpInfo := ⟨poolList es last⟩
def fileOf (pool : Array CpInfo) (this : Nat) (attrs : Array Attribute := #[]) (ms : Array MethodInfo := #[]) (fl : Nat := 33) (sup : Nat := 0) (ifs : Array Nat := #[]) (fds : Array FieldInfo := #[]) : ClassFile where
  minorVersion := 0
  majorVersion := 65
  constantPool := pool
  accessFlags := fl
  thisClass := this
  superClass := sup
  interfaces := ifs
  fields := fds
  methods := ms
  attributes := attrs
def plain (name : String) (sup : Option ClassId) : Class where
  name := name
  kind := .ordinary
  loader := none
  accessFlags := 33
  super := sup
  interfaces := #[]
  cf := none
  fields := #[]
  methods := #[]
  instanceTypes := #[]
  staticTypes := #[]
  resolved := #[]
  callSites := []
  init := .initialized
  statics := none
  mirror := none

def pool0 : Array CpInfo := pool [(5, u "<init>"), (0, u "()V"), (1, .class_ 10), (1, u "java/lang/Object")] 113

def k0c0 : Code := { maxStack := 0, maxLocals := 1, code := object_method_1_code, exceptionTable := #[], attributes := #[] }
def k0m0 : Method := { name := "<init>", desc := "()V", sig := { parameters := [], returnType := none }, accessFlags := 1, code := some k0c0 }
/-- java/lang/Object -/
def k0 : Class := { plain "java/lang/Object" none with
  accessFlags := 33
  interfaces := #[]
  cf := some (fileOf pool0 8 #[] #[{ accessFlags := 1, nameIndex := 5, descriptorIndex := 6, attributes := #[] }] 33 0 #[] #[])
  fields := #[]
  methods := #[k0m0]
  instanceTypes := #[]
  staticTypes := #[]
  resolved := Array.replicate 124 none
  statics := none }

def pool1 : Array CpInfo := pool [(2, .class_ 4), (1, u "java/lang/Object"), (0, u "<init>"), (0, u "()V"), (0, .integer 2147483647), (0, .class_ 9), (0, u "com/example/viewlattice/viewlattice/core/Greedy$Limits"), (0, .long 18446744073709551615), (3, .long 9223372036854775807), (1, .methodref 8 17), (0, .nameAndType 5 18), (0, u "(IJ)V"), (0, .methodref 8 20), (0, .nameAndType 21 22), (0, u "hasSpaceLimit"), (0, u "()Z"), (0, .class_ 24), (0, u "com/example/viewlattice/viewlattice/core/LimitsHasSpaceLimitPinLaw"), (2, u "law"), (0, u "(IJI)Z")] 7

def k1m0 : Method := { name := "<init>", desc := "()V", sig := { parameters := [], returnType := none }, accessFlags := 2, code := none }
def k1c1 : Code := { maxStack := 5, maxLocals := 9, code := code, exceptionTable := #[], attributes := #[] }
def k1m1 : Method := { name := "law", desc := "(IJI)Z", sig := { parameters := [.int, .long, .int], returnType := some .boolean }, accessFlags := 9, code := some k1c1 }
/-- com/example/viewlattice/viewlattice/core/LimitsHasSpaceLimitPinLaw -/
def k1 : Class := { plain "com/example/viewlattice/viewlattice/core/LimitsHasSpaceLimitPinLaw" (some 0) with
  accessFlags := 49
  interfaces := #[]
  cf := some (fileOf pool1 23 #[] #[{ accessFlags := 2, nameIndex := 5, descriptorIndex := 6, attributes := #[] }, { accessFlags := 9, nameIndex := 27, descriptorIndex := 28, attributes := #[] }] 49 2 #[] #[])
  fields := #[]
  methods := #[k1m0, k1m1]
  instanceTypes := #[]
  staticTypes := #[]
  resolved := Array.replicate 36 none
  statics := none }

def pool2 : Array CpInfo := pool [(1, .methodref 2 3), (0, .class_ 4), (0, .nameAndType 5 6), (0, u "java/lang/Object"), (0, u "<init>"), (0, u "()V"), (0, .class_ 8), (0, u "java/lang/Record")] 13

def k2c0 : Code := { maxStack := 1, maxLocals := 1, code := jdk_30_method_1_code, exceptionTable := #[], attributes := #[] }
def k2m0 : Method := { name := "<init>", desc := "()V", sig := { parameters := [], returnType := none }, accessFlags := 4, code := some k2c0 }
/-- java/lang/Record -/
def k2 : Class := { plain "java/lang/Record" (some 0) with
  accessFlags := 1057
  interfaces := #[]
  cf := some (fileOf pool2 7 #[] #[{ accessFlags := 4, nameIndex := 5, descriptorIndex := 6, attributes := #[] }] 1057 2 #[] #[])
  fields := #[]
  methods := #[k2m0]
  instanceTypes := #[]
  staticTypes := #[]
  resolved := Array.replicate 22 none
  statics := none }

def pool3 : Array CpInfo := pool [(3, .methodref 4 5), (0, .class_ 6), (0, .nameAndType 7 8), (0, u "java/lang/Record"), (0, u "<init>"), (0, u "()V"), (9, .class_ 19), (0, u "com/example/viewlattice/viewlattice/core/Greedy$Limits"), (0, .long 18446744073709551615), (4, .fieldref 18 26), (0, .nameAndType 27 28), (0, u "views"), (0, u "I"), (0, .fieldref 18 30), (0, .nameAndType 31 32), (0, u "space"), (0, u "J"), (12, u "NO_VIEW_LIMIT"), (2, u "NO_SPACE_LIMIT"), (0, u "(IJ)V"), (4, u "hasSpaceLimit"), (0, u "()Z"), (7, .class_ 64), (0, u "com/example/viewlattice/viewlattice/core/Greedy")] 30

def k3c0 : Code := { maxStack := 4, maxLocals := 4, code := prog_11_method_1_code, exceptionTable := #[], attributes := #[] }
def k3m0 : Method := { name := "<init>", desc := "(IJ)V", sig := { parameters := [.int, .long], returnType := none }, accessFlags := 1, code := some k3c0 }
def k3c1 : Code := { maxStack := 4, maxLocals := 1, code := prog_11_method_2_code, exceptionTable := #[], attributes := #[] }
def k3m1 : Method := { name := "hasSpaceLimit", desc := "()Z", sig := { parameters := [], returnType := some .boolean }, accessFlags := 1, code := some k3c1 }
/-- com/example/viewlattice/viewlattice/core/Greedy$Limits -/
def k3 : Class := { plain "com/example/viewlattice/viewlattice/core/Greedy$Limits" (some 2) with
  accessFlags := 49
  interfaces := #[]
  cf := some (fileOf pool3 18 #[.nestHost 63] #[{ accessFlags := 1, nameIndex := 7, descriptorIndex := 49, attributes := #[] }, { accessFlags := 1, nameIndex := 54, descriptorIndex := 55, attributes := #[] }] 49 4 #[] #[{ accessFlags := 18, nameIndex := 27, descriptorIndex := 28, attributes := #[] }, { accessFlags := 18, nameIndex := 31, descriptorIndex := 32, attributes := #[] }, { accessFlags := 25, nameIndex := 45, descriptorIndex := 28, attributes := #[] }, { accessFlags := 25, nameIndex := 48, descriptorIndex := 32, attributes := #[] }])
  fields := #[{ name := "views", type := .int, accessFlags := 18, slot := 0, constantValue := 0 }, { name := "space", type := .long, accessFlags := 18, slot := 1, constantValue := 0 }, { name := "NO_VIEW_LIMIT", type := .int, accessFlags := 25, slot := 0, constantValue := 0 }, { name := "NO_SPACE_LIMIT", type := .long, accessFlags := 25, slot := 1, constantValue := 0 }]
  methods := #[k3m0, k3m1]
  instanceTypes := #[.int, .long]
  staticTypes := #[.int, .long]
  resolved := Array.replicate 95 none
  statics := none }

def pool4 : Array CpInfo := pool [(1, u "java/lang/Cloneable"), (0, .class_ 1), (0, u "java/lang/Object"), (0, .class_ 3)] 3

/-- java/lang/Cloneable -/
def k4 : Class := { plain "java/lang/Cloneable" (some 0) with
  accessFlags := 1537
  interfaces := #[]
  cf := some (fileOf pool4 2 #[] #[] 1537 4 #[] #[])
  fields := #[]
  methods := #[]
  instanceTypes := #[]
  staticTypes := #[]
  resolved := Array.replicate 8 none
  statics := none }

def pool5 : Array CpInfo := pool [(1, u "java/io/Serializable"), (0, .class_ 1), (0, u "java/lang/Object"), (0, .class_ 3)] 3

/-- java/io/Serializable -/
def k5 : Class := { plain "java/io/Serializable" (some 0) with
  accessFlags := 1537
  interfaces := #[]
  cf := some (fileOf pool5 2 #[] #[] 1537 4 #[] #[])
  fields := #[]
  methods := #[]
  instanceTypes := #[]
  staticTypes := #[]
  resolved := Array.replicate 8 none
  statics := none }

/-- the primitive byte -/
def k6 : Class := { plain "byte" none with kind := .primitive 'B', accessFlags := 0x411 }
/-- [B -/
def k7 : Class := { plain "[B" (some 0) with kind := .array 6 .byte, interfaces := #[4, 5], accessFlags := 1041 }

/-- the primitive int -/
def k8 : Class := { plain "int" none with kind := .primitive 'I', accessFlags := 0x411 }
/-- [I -/
def k9 : Class := { plain "[I" (some 0) with kind := .array 8 .int, interfaces := #[4, 5], accessFlags := 1041 }

def heap : Heap := #[]
def classes : Array Class := #[k0, k1, k2, k3, k4, k5, k6, k7, k8, k9]
def interned : List (Array UInt16 × Addr) := []
def slotsUsed : Nat := 0
def theMethod : MethodId := ⟨1, 1⟩
def args0 : Array Value := #[.int 5, .long 3, .int 2]
def aboutOver (below : List Frame) : State where
  vm := { classes := classes, interned := interned.toArray }
  heap := heap
  slotsUsed := slotsUsed
  threads := #[{ frames := .invoking theMethod args0 :: below }]
def below0 : List Frame := [.native { method := ⟨0, 0⟩, args := #[] }]
def about1 : State := aboutOver below0
def p0 : Program := .bare "" "" ""
def e0 : Env := launch0.env 0 0 0
theorem w_frames : about1.frames = Frame.invoking theMethod args0 :: below0 := rfl
set_option maxRecDepth 65536 in
theorem w_args : argsFit about1.vm theMethod args0 = true := by decide +kernel
set_option maxRecDepth 65536 in
theorem w_heap : heapFits about1 = true := by decide +kernel
set_option maxRecDepth 65536 in
theorem w_runnable : about1.curStatus? = some .runnable := by decide +kernel
set_option maxRecDepth 65536 in
theorem w_alone : about1.alone = true := by decide +kernel
set_option maxRecDepth 65536 in
theorem w_named : about1.methodNamed? x = some theMethod := by decide +kernel
set_option maxRecDepth 65536 in
theorem w_hears : about1.hears theMethod below0 = true := by decide +kernel
set_option maxRecDepth 65536 in
theorem w_ripe : about1.ripe theMethod args0 below0 = true := by decide +kernel
theorem w_running : about1.status = .running := rfl
set_option maxRecDepth 65536 in
theorem w_room : about1.hasRoom e0.platform room_1 = true :=
  launch0.hasRoom_least _ room_1 (by decide +kernel) (by decide +kernel) (by decide +kernel) (by decide +kernel) (by decide +kernel) (by decide +kernel)
theorem allAtoms_all (ts : List Jvm.Cond) (a : Array Jvm.Value) (st : Jvm.State) : (allAtoms ts).before a st = ts.all (fun c => c.before a st) := by
  induction ts with
  | nil => rfl
  | cons c t ih =>
    show (Jvm.Cond.and c (allAtoms t)).before a st = _
    rw [Jvm.Cond.before_and, ih, List.all_cons]
def words1 : List Jvm.Cond := Jvm.Cond.code x code maxLocals ret :: tables_1
/-- a 'code' word, met by the world's own term for the bytes: nothing is compared byte by byte -/
theorem code_word {y : MethodName} {bytes : ByteArray} {mx : Nat} {rt : Option FieldType} {a : Array Value} {s : State} {m : MethodId} {meth : Method} {c : Code} (h1 : s.methodNamed? y = some m) (h2 : s.vm.method? m = some meth) (h3 : meth.code = some c) (h4 : c.code = bytes)
    (h5 : (c.maxLocals == mx && c.exceptionTable.isEmpty && decide (c.maxStack ≤ mostOperands) && decide (meth.sig.returnType = rt) && !meth.locks && decide (parseMethodDescriptor y.desc = some meth.sig)) = true) : (Jvm.Cond.code y bytes mx rt).before a s = true := by
  simp only [Bool.and_eq_true, beq_iff_eq, Bool.not_eq_true', decide_eq_true_eq] at h5
  obtain ⟨⟨⟨⟨⟨g1, g2⟩, g3⟩, g4⟩, g5⟩, g6⟩ := h5
  simp [Cond.before, Cond.holds, Cond.value, h1, h2, h3, h4, g1, g2, g3, g4, g5, g6]
def isCode : Jvm.Cond → Bool
  | .code _ _ _ _ => true
  | _ => false
theorem all_split {L : List Jvm.Cond} {P : Jvm.Cond → Bool} (h1 : L.all (fun c => isCode c || P c) = true) (h2 : ∀ c ∈ L.filter isCode, P c = true) : L.all P = true := by
  refine List.all_eq_true.mpr fun c hc => ?_
  have h := List.all_eq_true.mp h1 c hc
  rcases Bool.eq_false_or_eq_true (isCode c) with hi | hi
  · exact h2 c (List.mem_filter.mpr ⟨hc, hi⟩)
  · simpa [hi] using h
set_option maxRecDepth 65536 in
theorem w_c0 : (Jvm.Cond.code x code maxLocals ret).before args0 about1 = true := code_word (m := ⟨1, 1⟩) (meth := k1m1) (c := k1c1) (by decide +kernel) rfl rfl rfl (by decide +kernel)
set_option maxRecDepth 65536 in
theorem w_c1 : (Jvm.Cond.code ({ cls := "com/example/viewlattice/viewlattice/core/Greedy$Limits", name := "<init>", desc := "(IJ)V" } : Jvm.MethodName) prog_11_method_1_code (4 : Nat) (Option.none : Option Jvm.ClassFile.FieldType)).before args0 about1 = true := code_word (m := ⟨3, 0⟩) (meth := k3m0) (c := k3c0) (by decide +kernel) rfl rfl rfl (by decide +kernel)
set_option maxRecDepth 65536 in
theorem w_c2 : (Jvm.Cond.code ({ cls := "java/lang/Record", name := "<init>", desc := "()V" } : Jvm.MethodName) jdk_30_method_1_code (1 : Nat) (Option.none : Option Jvm.ClassFile.FieldType)).before args0 about1 = true := code_word (m := ⟨2, 0⟩) (meth := k2m0) (c := k2c0) (by decide +kernel) rfl rfl rfl (by decide +kernel)
set_option maxRecDepth 65536 in
theorem w_c3 : (Jvm.Cond.code ({ cls := "java/lang/Object", name := "<init>", desc := "()V" } : Jvm.MethodName) object_method_1_code (1 : Nat) (Option.none : Option Jvm.ClassFile.FieldType)).before args0 about1 = true := code_word (m := ⟨0, 0⟩) (meth := k0m0) (c := k0c0) (by decide +kernel) rfl rfl rfl (by decide +kernel)
set_option maxRecDepth 65536 in
theorem w_c4 : (Jvm.Cond.code ({ cls := "com/example/viewlattice/viewlattice/core/Greedy$Limits", name := "hasSpaceLimit", desc := "()Z" } : Jvm.MethodName) prog_11_method_2_code (1 : Nat) (Option.some Jvm.ClassFile.FieldType.boolean)).before args0 about1 = true := code_word (m := ⟨3, 1⟩) (meth := k3m1) (c := k3c1) (by decide +kernel) rfl rfl rfl (by decide +kernel)
def codes1 : List Jvm.Cond := [Jvm.Cond.code x code maxLocals ret, Jvm.Cond.code ({ cls := "com/example/viewlattice/viewlattice/core/Greedy$Limits", name := "<init>", desc := "(IJ)V" } : Jvm.MethodName) prog_11_method_1_code (4 : Nat) (Option.none : Option Jvm.ClassFile.FieldType), Jvm.Cond.code ({ cls := "java/lang/Record", name := "<init>", desc := "()V" } : Jvm.MethodName) jdk_30_method_1_code (1 : Nat) (Option.none : Option Jvm.ClassFile.FieldType), Jvm.Cond.code ({ cls := "java/lang/Object", name := "<init>", desc := "()V" } : Jvm.MethodName) object_method_1_code (1 : Nat) (Option.none : Option Jvm.ClassFile.FieldType), Jvm.Cond.code ({ cls := "com/example/viewlattice/viewlattice/core/Greedy$Limits", name := "hasSpaceLimit", desc := "()Z" } : Jvm.MethodName) prog_11_method_2_code (1 : Nat) (Option.some Jvm.ClassFile.FieldType.boolean)]
set_option maxRecDepth 65536 in
theorem codes_eq : words1.filter isCode = codes1 := rfl
theorem w_codes : ∀ c ∈ words1.filter isCode, c.before args0 about1 = true := by
  rw [codes_eq]
  intro c hc
  simp only [codes1, List.mem_cons, List.not_mem_nil, or_false] at hc
  rcases hc with rfl | rfl | rfl | rfl | rfl
  · exact w_c0
  · exact w_c1
  · exact w_c2
  · exact w_c3
  · exact w_c4
set_option maxRecDepth 65536 in
theorem w_t1 : (words1.take 24).all (fun c => isCode c || c.before args0 about1) = true := by decide +kernel
set_option maxRecDepth 65536 in
theorem w_t2 : (words1.drop 24).all (fun c => isCode c || c.before args0 about1) = true := by decide +kernel
theorem w_tables : (allAtoms (Jvm.Cond.code x code maxLocals ret :: tables_1)).before args0 about1 = true := by
  rw [allAtoms_all]
  show words1.all (fun c => c.before args0 about1) = true
  refine all_split ?_ w_codes
  rw [← List.take_append_drop 24 words1, List.all_append, w_t1, w_t2]
  rfl
set_option maxRecDepth 65536 in
theorem w_case : (Jvm.Cond.and given_1 narrow_1).before args0 about1 = true := by decide +kernel
theorem w_applies : (headSpec (Jvm.Cond.code x code maxLocals ret :: tables_1) room_1).applies x e0.platform about1 = true :=
  (Spec.applies_iff w_frames).mpr ⟨w_running, w_runnable, w_alone, w_named, w_hears, w_ripe, w_room, w_tables⟩
theorem atStart : AtStart classFile x code maxLocals ret World_1 tables_1 room_1 Calls_1 rest_1 Pre_1 launch0 p0 e0 about1 theMethod args0 below0 :=
  ⟨lists_1, trivial, launch0.admits_env _ _ _, launch0.least_env, fairChoices_fair.cas, fairChoices_fair.clock, w_frames, w_args, w_heap, w_applies, trivial, trivial, w_case⟩
end start1
theorem witness_1 : WitnessClaimed_1 := ⟨start1.p0, start1.e0, start1.about1, start1.theMethod, start1.args0, start1.below0, start1.atStart⟩
end Jvm.Pilot.@@N@@
