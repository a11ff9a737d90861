import JvmDerived
import JvmDerived.Pilot.@@N@@Statement
import JvmDerived.Pilot.@@N@@Code
set_option linter.unusedVariables false
set_option linter.unusedSimpArgs false

namespace Jvm.Pilot.@@N@@
open Jvm Jvm.ClassFile Sem Op Lib Jvm.Free Jvm.Stand Jvm.LawKit Jvm.RoadKit Bundle Jvm.Pilot.@@N@@.Jvm.D

section OwnKit
variable {p : Program} {l : Launch} {e : Env} {R : Room} {s : State} {m : MethodId} {args : Array Value} {below : List Frame} {meth : Method} {c : Code} {T : State} {locs : List Loc} {cells slots : Nat}
def own_Go (p : Program) (e : Env) (below : List Frame) (s : State) (Q : Option Value → Heap → List Loc → Prop) (rc rs : Nat) (T : State) (g : JFrame) : Prop :=
  ∃ s₂ o, Steps p.tables e below (T.setTop g) s₂ ∧ s₂.status = .running ∧ Ended s₂ below o ∧ ∃ v L, o = .returned v ∧ Q v s₂.heap L ∧ FrameEnd s o s₂ L rc rs
variable {Q : Option Value → Heap → List Loc → Prop} {rc rs : Nat} {T' : State} {g g' : JFrame}
theorem own_step (st : ∀ target, Steps p.tables e below (T'.setTop g') target → Steps p.tables e below (T.setTop g) target) (k : own_Go p e below s Q rc rs T' g') : own_Go p e below s Q rc rs T g := by
  obtain ⟨s₂, o, h1, h2⟩ := k
  exact ⟨s₂, o, st _ h1, h2⟩
theorem own_tr (st : Steps p.tables e below (T.setTop g) (T'.setTop g')) (k : own_Go p e below s Q rc rs T' g') : own_Go p e below s Q rc rs T g := by
  obtain ⟨s₂, o, h1, h2⟩ := k
  exact ⟨s₂, o, st.trans h1, h2⟩
theorem own_cast (q : g = g') (k : own_Go p e below s Q rc rs T g') : own_Go p e below s Q rc rs T g := q ▸ k
theorem own_done (X : Stand p l e R s m args below meth c T locs cells slots) {v : Option Value} (hv : meth.sig.returnType = none → v = none) (hlk : meth.locks = false)
    (st : ∀ fs, (∀ (f : JFrame) (acts : List Action), f.method = m → f.locked = none → f.entered = [] → (doReturn e (T.setTop f) acts v).1 = T.setFrames fs) → Steps p.tables e below (T.setTop g) (T.setFrames fs))
    (hQ : Q v T.heap locs) (hc : cells ≤ rc) (hs : slots ≤ rs) : own_Go p e below s Q rc rs T g := by
  obtain ⟨fs, hr, hrun, hended, hW, hsame⟩ := X.leave (v := v) hv hlk
  exact ⟨_, _, st fs hr, hrun, hended, v, locs, rfl, hQ, ⟨_, rfl⟩, hW, hsame.mono hc hs⟩
theorem own_rN (X : Stand p l e R s m args below meth c T locs cells slots) (hx : p.tables.exec = Jvm.exec) (hlk : meth.locks = false) {t : FieldType} (hret : meth.sig.returnType = some t) (ht : t = .boolean ∨ t = .byte ∨ t = .char ∨ t = .short) {pc : Nat} {Ls : Array Slot} {z : Int32} {rest : List Value}
    (hd : decode c.code pc = .ok (.ireturn, 1)) (hQ : Q (some (.int (nar t z))) T.heap locs) (hc : cells ≤ rc) (hs : slots ≤ rs) : own_Go p e below s Q rc rs T (mkF m pc Ls (.int z :: rest)) :=
  own_done X (fun h => by rw [hret] at h; cases h) hlk (fun fs hr => retN X hx hret ht hd hr) hQ hc hs
theorem own_rI (X : Stand p l e R s m args below meth c T locs cells slots) (hx : p.tables.exec = Jvm.exec) (hlk : meth.locks = false) (hret : meth.sig.returnType = some .int) {pc : Nat} {Ls : Array Slot} {z : Int32} {rest : List Value}
    (hd : decode c.code pc = .ok (.ireturn, 1)) (hQ : Q (some (.int z)) T.heap locs) (hc : cells ≤ rc) (hs : slots ≤ rs) : own_Go p e below s Q rc rs T (mkF m pc Ls (.int z :: rest)) :=
  own_done X (fun h => by rw [hret] at h; cases h) hlk (fun fs hr => retOut X hx hret rfl (Or.inl ⟨rfl, Or.inl rfl, _, rfl⟩) hd hr) hQ hc hs
theorem own_rJ (X : Stand p l e R s m args below meth c T locs cells slots) (hx : p.tables.exec = Jvm.exec) (hlk : meth.locks = false) (hret : meth.sig.returnType = some .long) {pc : Nat} {Ls : Array Slot} {z : Int64} {rest : List Value}
    (hd : decode c.code pc = .ok (.lreturn, 1)) (hQ : Q (some (.long z)) T.heap locs) (hc : cells ≤ rc) (hs : slots ≤ rs) : own_Go p e below s Q rc rs T (mkF m pc Ls (.long z :: rest)) :=
  own_done X (fun h => by rw [hret] at h; cases h) hlk (fun fs hr => retOut X hx hret rfl (Or.inr (Or.inl ⟨rfl, rfl, _, rfl⟩)) hd hr) hQ hc hs
theorem own_narA {t : FieldType} {w : Value} (ht : t.isReference = true) (hw : w.isRef = true) : narrow t w = w := by cases t <;> cases w <;> first | rfl | cases ht | cases hw
theorem own_rA (X : Stand p l e R s m args below meth c T locs cells slots) (hx : p.tables.exec = Jvm.exec) (hlk : meth.locks = false) {t : FieldType} (hret : meth.sig.returnType = some t) (ht : t.isReference = true) {pc : Nat} {Ls : Array Slot} {w : Value} {rest : List Value} (hw : w.isRef = true)
    (hd : decode c.code pc = .ok (.areturn, 1)) (hQ : Q (some w) T.heap locs) (hc : cells ≤ rc) (hs : slots ≤ rs) : own_Go p e below s Q rc rs T (mkF m pc Ls (w :: rest)) :=
  own_done X (fun h => by rw [hret] at h; cases h) hlk (fun fs hr => retOut X hx hret (own_narA ht hw) (Or.inr (Or.inr (Or.inr (Or.inr ⟨rfl, ht, hw⟩)))) hd hr) hQ hc hs
theorem own_rV (X : Stand p l e R s m args below meth c T locs cells slots) (hx : p.tables.exec = Jvm.exec) (hlk : meth.locks = false) (hret : meth.sig.returnType = none) {pc : Nat} {Ls : Array Slot}
    (hd : decode c.code pc = .ok (.return_, 1)) (hQ : Q none T.heap locs) (hc : cells ≤ rc) (hs : slots ≤ rs) : own_Go p e below s Q rc rs T (mkF m pc Ls []) :=
  own_done X (fun _ => rfl) hlk (fun fs hr => X.returnOut hx hret hd hr) hQ hc hs
end OwnKit
def own_m32 (z : Int64) : Int32 := ((((((z ^^^ (z.toUInt64 >>> (33 : UInt64)).toInt64) * (7109453100751455733 : Int64)) ^^^ (((z ^^^ (z.toUInt64 >>> (33 : UInt64)).toInt64) * (7109453100751455733 : Int64)).toUInt64 >>> (28 : UInt64)).toInt64) * ((-3808689974395783757) : Int64)).toUInt64 >>> (32 : UInt64)).toInt64).toInt32
def own_m64 (z : Int64) : Int64 := (let z1 := (z ^^^ (z.toUInt64 >>> (30 : UInt64)).toInt64) * ((-4658895280553007687) : Int64); let z2 := (z1 ^^^ (z1.toUInt64 >>> (27 : UInt64)).toInt64) * ((-7723592293110705685) : Int64); z2 ^^^ (z2.toUInt64 >>> (31 : UInt64)).toInt64)
def Q_init (Z : State) (a1 : Addr) (q2 : Int64) (u1 : Value) (h0 : Heap) (n0 : Nat) (v : Option Value) (h : Heap) (L : List Loc) : Prop := v = none ∧ Fr n0 L ∧ Keep h0 h [a1] ∧ Exa Z h a1 "com/example/cardwright/cardwright/SplitMix64" ∧ Fld Z h a1 "com/example/cardwright/cardwright/SplitMix64" "state" "J" (.long q2)
theorem ef_rm_init (m : MethodId) (x0 : Addr) (x1 : Int64) : entryFrame m #[(.ref x0), (.long x1)] 3 = mkF m 0 #[.val (.ref x0), .val (.long x1), .second] [] := by first | rfl | (simp [entryFrame, mkF, argsToLocals, Value.category]; done) | (simp [entryFrame, mkF, argsToLocals, Value.category] <;> rfl)
theorem pn_0 : plainName "com/example/cardwright/cardwright/SplitMix64" = true := by first | (simp [plainName, overriddenIn]; done) | decide +kernel
theorem d1_0 : decode prog_41_method_1_code 0 = .ok (.aload_n 0, 1) := by decide +kernel
theorem d1_1 : decode prog_41_method_1_code 1 = .ok (.invokespecial 3, 3) := by decide +kernel
theorem d1_4 : decode prog_41_method_1_code 4 = .ok (.aload_n 0, 1) := by decide +kernel
theorem d1_5 : decode prog_41_method_1_code 5 = .ok (.lload_n 1, 1) := by decide +kernel
theorem d1_6 : decode prog_41_method_1_code 6 = .ok (.putfield 9, 3) := by decide +kernel
theorem d1_9 : decode prog_41_method_1_code 9 = .ok (.return_, 1) := by decide +kernel
set_option maxRecDepth 65536 in
set_option maxHeartbeats 40000000 in
theorem rm_init (l : Launch) (Z : State) (a0 : Array Value) (hw : ∀ d ∈ tables_1, d.before a0 Z = true) (ws : List Jvm.Cond) (a1 : Addr) (q2 : Int64) (u1 : Value) (h0 : Heap) (n0 : Nat) (Z0 : n0 ≤ h0.size) (E_a : Exa Z h0 a1 "com/example/cardwright/cardwright/SplitMix64") (F_s : Fld Z h0 a1 "com/example/cardwright/cardwright/SplitMix64" "state" "J" u1) (o_a : n0 ≤ a1) :
    MetFree l (⟨"com/example/cardwright/cardwright/SplitMix64", "<init>", "(J)V"⟩ : MethodName) (head1 (Jvm.Cond.code (⟨"com/example/cardwright/cardwright/SplitMix64", "<init>", "(J)V"⟩ : MethodName) prog_41_method_1_code 3 none :: ws) ({ frames := 1, cells := 0, slots := 0, locals := 12 } : Room)) (fun a U => a = #[(.ref a1), (.long q2)] ∧ Z.Warmed39 U.vm ∧ U.heap = h0) (fun _ _ _ _ _ => True) (fun _ U o U' => ∃ v L, o = .returned v ∧ (Q_init Z a1 q2 u1 h0 n0) v U'.heap L ∧ FrameEnd U o U' L ({ frames := 1, cells := 0, slots := 0, locals := 12 } : Room).cells ({ frames := 1, cells := 0, slots := 0, locals := 12 } : Room).slots) := by
  refine MetFree.of_bodySF (plainFor_of_name pn_0) hisR ?_
  intro p e s m args below meth c s₁ Bd hml0 hP hK
  obtain ⟨rfl, hZ, hh⟩ := hP
  have hx := Bd.exec
  have hby := Bd.bytes
  have hlk : meth.locks = false := BodyLoose.notSynchronized Bd
  have hml : c.maxLocals = 3 := hml0
  have hown : s.vm.findClass "com/example/cardwright/cardwright/SplitMix64" = some m.cls := findClass_of_methodNamed Bd.named
  have hnm := (name_of_methodNamed Bd.named Bd.method).1
  have X0 : Stand p l e ({ frames := 1, cells := 0, slots := 0, locals := 12 } : Room) s m #[(.ref a1), (.long q2)] below meth c s₁ [] 0 0 := Stand.of_body Bd
  have e0 : s₁.heap = h0 := by rw [← hh, Bd.state]; rfl
  have N0 := Fr.nil n0
  show own_Go p e below s (Q_init Z a1 q2 u1 h0 n0) ({ frames := 1, cells := 0, slots := 0, locals := 12 } : Room).cells ({ frames := 1, cells := 0, slots := 0, locals := 12 } : Room).slots s₁ (entryFrame m #[(.ref a1), (.long q2)] 3)
  refine own_cast (g' := (mkF m 0 #[.val (.ref a1), .val (.long q2), .second] [])) (ef_rm_init m a1 q2) ?_
  have K0 : Keep h0 h0 [a1] := Keep.refl _ _
  refine own_step (T' := s₁) (g' := (mkF m 1 #[.val (.ref a1), .val (.long q2), .second] [(.ref a1)])) (fun t k => XS.aloadN X0.here hx rfl (hb hby d1_0) rfl rfl k) ?_
  obtain ⟨T1, X1, e1, st1⟩ := initO X0 hx hZ hown (hw _ (List.mem_of_getElem? (i := 6) rfl)) (hw _ (List.mem_of_getElem? (i := 7) rfl)) (hw _ (List.mem_of_getElem? (i := 8) rfl)) e0 (g := (mkF m 1 #[.val (.ref a1), .val (.long q2), .second] [(.ref a1)])) rfl (by rw [hml]; rfl) rfl (hb hby d1_1) (by decide) (W := 0) (by show 2 * 0 + _ ≤ _; exact Nat.le_of_eq rfl) (by decide)
  refine own_step (T' := T1) (g' := (mkF m 4 #[.val (.ref a1), .val (.long q2), .second] [])) st1 ?_
  refine own_step (T' := T1) (g' := (mkF m 5 #[.val (.ref a1), .val (.long q2), .second] [(.ref a1)])) (fun t k => XS.aloadN X1.here hx rfl (hb hby d1_4) rfl rfl k) ?_
  refine own_step (T' := T1) (g' := (mkF m 6 #[.val (.ref a1), .val (.long q2), .second] [(.long q2), (.ref a1)])) (fun t k => XS.lloadN X1.here hx rfl (hb hby d1_5) rfl k) ?_
  obtain ⟨T2, h2, X2, e2, W2, st2⟩ := putF X1 hx hZ hown (host := "") (Or.inl (hw _ (List.mem_of_getElem? (i := 9) rfl))) Via.refl e1 F_s E_a (Or.inl (hw _ (List.mem_of_getElem? (i := 10) rfl))) (hw _ (List.mem_of_getElem? (i := 1) rfl)) (ty := .long) (by decide) rfl rfl (g := (mkF m 6 #[.val (.ref a1), .val (.long q2), .second] [(.long q2), (.ref a1)])) rfl rfl (hb hby d1_6)
  have g3 : Exa Z h2 a1 "com/example/cardwright/cardwright/SplitMix64" := E_a.wr W2
  have g4 : Fld Z h2 a1 "com/example/cardwright/cardwright/SplitMix64" "state" "J" (.long q2) := F_s.same W2
  have K5 : Keep h0 h2 [a1] := K0.wr W2 (Or.inl (List.mem_of_getElem? (i := 0) rfl))
  have N2 := Fr.snoc X2 N0 o_a
  have Z2 : n0 ≤ h2.size := (Nat.le_trans Z0 (Nat.le_of_eq W2.size.symm))
  refine own_step (T' := T2) (g' := (mkF m 9 #[.val (.ref a1), .val (.long q2), .second] [])) st2 ?_
  refine own_rV X2 hx hlk Bd.returns (hb hby d1_9) ?_ (by decide) (by decide)
  rw [e2]
  exact ⟨rfl, N2, K5, g3, g4⟩
def Q_ni (Z : State) (a1 : Addr) (u1 : Int64) (h0 : Heap) (n0 : Nat) (v : Option Value) (h : Heap) (L : List Loc) : Prop := v = some (.int (own_m32 (u1 + ((-7046029254386353131) : Int64)))) ∧ Fr n0 L ∧ Keep h0 h [a1] ∧ Exa Z h a1 "com/example/cardwright/cardwright/SplitMix64" ∧ Fld Z h a1 "com/example/cardwright/cardwright/SplitMix64" "state" "J" (.long (u1 + ((-7046029254386353131) : Int64)))
theorem ef_rm_ni (m : MethodId) (x0 : Addr) : entryFrame m #[(.ref x0)] 3 = mkF m 0 #[.val (.ref x0), .unset, .unset] [] := by first | rfl | (simp [entryFrame, mkF, argsToLocals, Value.category]; done) | (simp [entryFrame, mkF, argsToLocals, Value.category] <;> rfl)
theorem d3_0 : decode prog_41_method_5_code 0 = .ok (.aload_n 0, 1) := by decide +kernel
theorem d3_1 : decode prog_41_method_5_code 1 = .ok (.dup, 1) := by decide +kernel
theorem d3_2 : decode prog_41_method_5_code 2 = .ok (.getfield 9, 3) := by decide +kernel
theorem d3_5 : decode prog_41_method_5_code 5 = .ok (.ldc2_w 24, 3) := by decide +kernel
theorem d3_8 : decode prog_41_method_5_code 8 = .ok (.ladd, 1) := by decide +kernel
theorem d3_9 : decode prog_41_method_5_code 9 = .ok (.putfield 9, 3) := by decide +kernel
theorem d3_12 : decode prog_41_method_5_code 12 = .ok (.aload_n 0, 1) := by decide +kernel
theorem d3_13 : decode prog_41_method_5_code 13 = .ok (.getfield 9, 3) := by decide +kernel
theorem d3_16 : decode prog_41_method_5_code 16 = .ok (.aload_n 0, 1) := by decide +kernel
theorem d3_17 : decode prog_41_method_5_code 17 = .ok (.getfield 9, 3) := by decide +kernel
theorem d3_20 : decode prog_41_method_5_code 20 = .ok (.bipush 33, 2) := by decide +kernel
theorem d3_22 : decode prog_41_method_5_code 22 = .ok (.lushr, 1) := by decide +kernel
theorem d3_23 : decode prog_41_method_5_code 23 = .ok (.lxor, 1) := by decide +kernel
theorem d3_24 : decode prog_41_method_5_code 24 = .ok (.ldc2_w 30, 3) := by decide +kernel
theorem d3_27 : decode prog_41_method_5_code 27 = .ok (.lmul, 1) := by decide +kernel
theorem d3_28 : decode prog_41_method_5_code 28 = .ok (.lstore_n 1, 1) := by decide +kernel
theorem d3_29 : decode prog_41_method_5_code 29 = .ok (.lload_n 1, 1) := by decide +kernel
theorem d3_30 : decode prog_41_method_5_code 30 = .ok (.lload_n 1, 1) := by decide +kernel
theorem d3_31 : decode prog_41_method_5_code 31 = .ok (.bipush 28, 2) := by decide +kernel
theorem d3_33 : decode prog_41_method_5_code 33 = .ok (.lushr, 1) := by decide +kernel
theorem d3_34 : decode prog_41_method_5_code 34 = .ok (.lxor, 1) := by decide +kernel
theorem d3_35 : decode prog_41_method_5_code 35 = .ok (.ldc2_w 32, 3) := by decide +kernel
theorem d3_38 : decode prog_41_method_5_code 38 = .ok (.lmul, 1) := by decide +kernel
theorem d3_39 : decode prog_41_method_5_code 39 = .ok (.lstore_n 1, 1) := by decide +kernel
theorem d3_40 : decode prog_41_method_5_code 40 = .ok (.lload_n 1, 1) := by decide +kernel
theorem d3_41 : decode prog_41_method_5_code 41 = .ok (.bipush 32, 2) := by decide +kernel
theorem d3_43 : decode prog_41_method_5_code 43 = .ok (.lushr, 1) := by decide +kernel
theorem d3_44 : decode prog_41_method_5_code 44 = .ok (.l2i, 1) := by decide +kernel
theorem d3_45 : decode prog_41_method_5_code 45 = .ok (.ireturn, 1) := by decide +kernel
set_option maxRecDepth 65536 in
set_option maxHeartbeats 40000000 in
theorem rm_ni (l : Launch) (Z : State) (a0 : Array Value) (hw : ∀ d ∈ tables_1, d.before a0 Z = true) (ws : List Jvm.Cond) (a1 : Addr) (u1 : Int64) (h0 : Heap) (n0 : Nat) (Z0 : n0 ≤ h0.size) (E_a : Exa Z h0 a1 "com/example/cardwright/cardwright/SplitMix64") (F_s : Fld Z h0 a1 "com/example/cardwright/cardwright/SplitMix64" "state" "J" (.long u1)) (o_a : n0 ≤ a1) :
    MetFree l (⟨"com/example/cardwright/cardwright/SplitMix64", "nextInt", "()I"⟩ : MethodName) (head1 (Jvm.Cond.code (⟨"com/example/cardwright/cardwright/SplitMix64", "nextInt", "()I"⟩ : MethodName) prog_41_method_5_code 3 (some (.int)) :: ws) ({ frames := 0, cells := 0, slots := 0, locals := 0 } : Room)) (fun a U => a = #[(.ref a1)] ∧ Z.Warmed39 U.vm ∧ U.heap = h0) (fun _ _ _ _ _ => True) (fun _ U o U' => ∃ v L, o = .returned v ∧ (Q_ni Z a1 u1 h0 n0) v U'.heap L ∧ FrameEnd U o U' L ({ frames := 0, cells := 0, slots := 0, locals := 0 } : Room).cells ({ frames := 0, cells := 0, slots := 0, locals := 0 } : Room).slots) := by
  refine MetFree.of_bodySF (plainFor_of_name pn_0) hisR ?_
  intro p e s m args below meth c s₁ Bd hml0 hP hK
  obtain ⟨rfl, hZ, hh⟩ := hP
  have hx := Bd.exec
  have hby := Bd.bytes
  have hlk : meth.locks = false := BodyLoose.notSynchronized Bd
  have hml : c.maxLocals = 3 := hml0
  have hown : s.vm.findClass "com/example/cardwright/cardwright/SplitMix64" = some m.cls := findClass_of_methodNamed Bd.named
  have hnm := (name_of_methodNamed Bd.named Bd.method).1
  have X0 : Stand p l e ({ frames := 0, cells := 0, slots := 0, locals := 0 } : Room) s m #[(.ref a1)] below meth c s₁ [] 0 0 := Stand.of_body Bd
  have e0 : s₁.heap = h0 := by rw [← hh, Bd.state]; rfl
  have N0 := Fr.nil n0
  show own_Go p e below s (Q_ni Z a1 u1 h0 n0) ({ frames := 0, cells := 0, slots := 0, locals := 0 } : Room).cells ({ frames := 0, cells := 0, slots := 0, locals := 0 } : Room).slots s₁ (entryFrame m #[(.ref a1)] 3)
  refine own_cast (g' := (mkF m 0 #[.val (.ref a1), .unset, .unset] [])) (ef_rm_ni m a1) ?_
  have K0 : Keep h0 h0 [a1] := Keep.refl _ _
  refine own_step (T' := s₁) (g' := (mkF m 1 #[.val (.ref a1), .unset, .unset] [(.ref a1)])) (fun t k => XS.aloadN X0.here hx rfl (hb hby d3_0) rfl rfl k) ?_
  refine own_step (T' := s₁) (g' := (mkF m 2 #[.val (.ref a1), .unset, .unset] [(.ref a1), (.ref a1)])) (fun t k => XS.dup X0.here hx rfl (hb hby d3_1) rfl rfl k) ?_
  obtain ⟨T1, X1, e1, st1⟩ := getF X0 hx hZ hown (host := "") (Or.inl (hw _ (List.mem_of_getElem? (i := 9) rfl))) Via.refl e0 F_s (g := (mkF m 2 #[.val (.ref a1), .unset, .unset] [(.ref a1), (.ref a1)])) rfl rfl (hb hby d3_2)
  refine own_step (T' := T1) (g' := (mkF m 5 #[.val (.ref a1), .unset, .unset] [(.long u1), (.ref a1)])) st1 ?_
  refine own_step (T' := T1) (g' := (mkF m 8 #[.val (.ref a1), .unset, .unset] [(.long ((-7046029254386353131) : Int64)), (.long u1), (.ref a1)])) (X1.ldc2Long hx hown (mvT hZ (hw _ (List.mem_of_getElem? (i := 16) rfl))) (g := (mkF m 5 #[.val (.ref a1), .unset, .unset] [(.long u1), (.ref a1)])) rfl (hb hby d3_5)) ?_
  refine own_step (T' := T1) (g' := (mkF m 9 #[.val (.ref a1), .unset, .unset] [(.long (u1 + ((-7046029254386353131) : Int64))), (.ref a1)])) (fun t k => XS.ladd X1.here hx rfl (hb hby d3_8) rfl k) ?_
  obtain ⟨T2, h2, X2, e2, W2, st2⟩ := putF X1 hx hZ hown (host := "") (Or.inl (hw _ (List.mem_of_getElem? (i := 9) rfl))) Via.refl e1 F_s E_a (Or.inl (hw _ (List.mem_of_getElem? (i := 10) rfl))) (hw _ (List.mem_of_getElem? (i := 1) rfl)) (ty := .long) (by decide) rfl rfl (g := (mkF m 9 #[.val (.ref a1), .unset, .unset] [(.long (u1 + ((-7046029254386353131) : Int64))), (.ref a1)])) rfl rfl (hb hby d3_9)
  have g3 : Exa Z h2 a1 "com/example/cardwright/cardwright/SplitMix64" := E_a.wr W2
  have g4 : Fld Z h2 a1 "com/example/cardwright/cardwright/SplitMix64" "state" "J" (.long (u1 + ((-7046029254386353131) : Int64))) := F_s.same W2
  have K5 : Keep h0 h2 [a1] := K0.wr W2 (Or.inl (List.mem_of_getElem? (i := 0) rfl))
  have N2 := Fr.snoc X2 N0 o_a
  have Z2 : n0 ≤ h2.size := (Nat.le_trans Z0 (Nat.le_of_eq W2.size.symm))
  refine own_step (T' := T2) (g' := (mkF m 12 #[.val (.ref a1), .unset, .unset] [])) st2 ?_
  refine own_step (T' := T2) (g' := (mkF m 13 #[.val (.ref a1), .unset, .unset] [(.ref a1)])) (fun t k => XS.aloadN X2.here hx rfl (hb hby d3_12) rfl rfl k) ?_
  obtain ⟨T6, X6, e6, st6⟩ := getF X2 hx hZ hown (host := "") (Or.inl (hw _ (List.mem_of_getElem? (i := 9) rfl))) Via.refl e2 g4 (g := (mkF m 13 #[.val (.ref a1), .unset, .unset] [(.ref a1)])) rfl rfl (hb hby d3_13)
  refine own_step (T' := T6) (g' := (mkF m 16 #[.val (.ref a1), .unset, .unset] [(.long (u1 + ((-7046029254386353131) : Int64)))])) st6 ?_
  refine own_step (T' := T6) (g' := (mkF m 17 #[.val (.ref a1), .unset, .unset] [(.ref a1), (.long (u1 + ((-7046029254386353131) : Int64)))])) (fun t k => XS.aloadN X6.here hx rfl (hb hby d3_16) rfl rfl k) ?_
  obtain ⟨T7, X7, e7, st7⟩ := getF X6 hx hZ hown (host := "") (Or.inl (hw _ (List.mem_of_getElem? (i := 9) rfl))) Via.refl e6 g4 (g := (mkF m 17 #[.val (.ref a1), .unset, .unset] [(.ref a1), (.long (u1 + ((-7046029254386353131) : Int64)))])) rfl rfl (hb hby d3_17)
  refine own_step (T' := T7) (g' := (mkF m 20 #[.val (.ref a1), .unset, .unset] [(.long (u1 + ((-7046029254386353131) : Int64))), (.long (u1 + ((-7046029254386353131) : Int64)))])) st7 ?_
  refine own_step (T' := T7) (g' := (mkF m 22 #[.val (.ref a1), .unset, .unset] [(.int (33 : Int32)), (.long (u1 + ((-7046029254386353131) : Int64))), (.long (u1 + ((-7046029254386353131) : Int64)))])) (fun t k => XS.bipush X7.here hx rfl (hb hby d3_20) k) ?_
  refine own_step (T' := T7) (g' := (mkF m 23 #[.val (.ref a1), .unset, .unset] [(.long (((u1 + ((-7046029254386353131) : Int64)).toUInt64 >>> (33 : UInt64)).toInt64)), (.long (u1 + ((-7046029254386353131) : Int64)))])) (fun t k => XS.lushr X7.here hx rfl (hb hby d3_22) rfl k) ?_
  refine own_step (T' := T7) (g' := (mkF m 24 #[.val (.ref a1), .unset, .unset] [(.long ((u1 + ((-7046029254386353131) : Int64)) ^^^ (((u1 + ((-7046029254386353131) : Int64)).toUInt64 >>> (33 : UInt64)).toInt64)))])) (fun t k => XS.lxor X7.here hx rfl (hb hby d3_23) rfl k) ?_
  refine own_step (T' := T7) (g' := (mkF m 27 #[.val (.ref a1), .unset, .unset] [(.long (7109453100751455733 : Int64)), (.long ((u1 + ((-7046029254386353131) : Int64)) ^^^ (((u1 + ((-7046029254386353131) : Int64)).toUInt64 >>> (33 : UInt64)).toInt64)))])) (X7.ldc2Long hx hown (mvT hZ (hw _ (List.mem_of_getElem? (i := 17) rfl))) (g := (mkF m 24 #[.val (.ref a1), .unset, .unset] [(.long ((u1 + ((-7046029254386353131) : Int64)) ^^^ (((u1 + ((-7046029254386353131) : Int64)).toUInt64 >>> (33 : UInt64)).toInt64)))])) rfl (hb hby d3_24)) ?_
  refine own_step (T' := T7) (g' := (mkF m 28 #[.val (.ref a1), .unset, .unset] [(.long (((u1 + ((-7046029254386353131) : Int64)) ^^^ (((u1 + ((-7046029254386353131) : Int64)).toUInt64 >>> (33 : UInt64)).toInt64)) * (7109453100751455733 : Int64)))])) (fun t k => XS.lmul X7.here hx rfl (hb hby d3_27) rfl k) ?_
  generalize hd_z1 : (((u1 + ((-7046029254386353131) : Int64)) ^^^ (((u1 + ((-7046029254386353131) : Int64)).toUInt64 >>> (33 : UInt64)).toInt64)) * (7109453100751455733 : Int64)) = z1
  refine own_step (T' := T7) (g' := (mkF m 29 #[.val (.ref a1), .val (.long z1), .second] [])) (fun t k => XS.lstoreN X7.here hx rfl (hb hby d3_28) rfl (l' := #[.val (.ref a1), .val (.long z1), .second]) rfl k) ?_
  refine own_step (T' := T7) (g' := (mkF m 30 #[.val (.ref a1), .val (.long z1), .second] [(.long z1)])) (fun t k => XS.lloadN X7.here hx rfl (hb hby d3_29) rfl k) ?_
  refine own_step (T' := T7) (g' := (mkF m 31 #[.val (.ref a1), .val (.long z1), .second] [(.long z1), (.long z1)])) (fun t k => XS.lloadN X7.here hx rfl (hb hby d3_30) rfl k) ?_
  refine own_step (T' := T7) (g' := (mkF m 33 #[.val (.ref a1), .val (.long z1), .second] [(.int (28 : Int32)), (.long z1), (.long z1)])) (fun t k => XS.bipush X7.here hx rfl (hb hby d3_31) k) ?_
  refine own_step (T' := T7) (g' := (mkF m 34 #[.val (.ref a1), .val (.long z1), .second] [(.long ((z1.toUInt64 >>> (28 : UInt64)).toInt64)), (.long z1)])) (fun t k => XS.lushr X7.here hx rfl (hb hby d3_33) rfl k) ?_
  refine own_step (T' := T7) (g' := (mkF m 35 #[.val (.ref a1), .val (.long z1), .second] [(.long (z1 ^^^ ((z1.toUInt64 >>> (28 : UInt64)).toInt64)))])) (fun t k => XS.lxor X7.here hx rfl (hb hby d3_34) rfl k) ?_
  refine own_step (T' := T7) (g' := (mkF m 38 #[.val (.ref a1), .val (.long z1), .second] [(.long ((-3808689974395783757) : Int64)), (.long (z1 ^^^ ((z1.toUInt64 >>> (28 : UInt64)).toInt64)))])) (X7.ldc2Long hx hown (mvT hZ (hw _ (List.mem_of_getElem? (i := 18) rfl))) (g := (mkF m 35 #[.val (.ref a1), .val (.long z1), .second] [(.long (z1 ^^^ ((z1.toUInt64 >>> (28 : UInt64)).toInt64)))])) rfl (hb hby d3_35)) ?_
  refine own_step (T' := T7) (g' := (mkF m 39 #[.val (.ref a1), .val (.long z1), .second] [(.long ((z1 ^^^ ((z1.toUInt64 >>> (28 : UInt64)).toInt64)) * ((-3808689974395783757) : Int64)))])) (fun t k => XS.lmul X7.here hx rfl (hb hby d3_38) rfl k) ?_
  generalize hd_z2 : ((z1 ^^^ ((z1.toUInt64 >>> (28 : UInt64)).toInt64)) * ((-3808689974395783757) : Int64)) = z2
  refine own_step (T' := T7) (g' := (mkF m 40 #[.val (.ref a1), .val (.long z2), .second] [])) (fun t k => XS.lstoreN X7.here hx rfl (hb hby d3_39) rfl (l' := #[.val (.ref a1), .val (.long z2), .second]) rfl k) ?_
  refine own_step (T' := T7) (g' := (mkF m 41 #[.val (.ref a1), .val (.long z2), .second] [(.long z2)])) (fun t k => XS.lloadN X7.here hx rfl (hb hby d3_40) rfl k) ?_
  refine own_step (T' := T7) (g' := (mkF m 43 #[.val (.ref a1), .val (.long z2), .second] [(.int (32 : Int32)), (.long z2)])) (fun t k => XS.bipush X7.here hx rfl (hb hby d3_41) k) ?_
  refine own_step (T' := T7) (g' := (mkF m 44 #[.val (.ref a1), .val (.long z2), .second] [(.long ((z2.toUInt64 >>> (32 : UInt64)).toInt64))])) (fun t k => XS.lushr X7.here hx rfl (hb hby d3_43) rfl k) ?_
  refine own_step (T' := T7) (g' := (mkF m 45 #[.val (.ref a1), .val (.long z2), .second] [(.int (((z2.toUInt64 >>> (32 : UInt64)).toInt64).toInt32))])) (fun t k => XS.l2i X7.here hx rfl (hb hby d3_44) rfl k) ?_
  refine own_rI X7 hx hlk Bd.returns (hb hby d3_45) ?_ (by decide) (by decide)
  rw [e7]
  subst hd_z1 hd_z2
  exact ⟨rfl, N2, K5, g3, g4⟩
def Q_mx (q1 : Int64) (h0 : Heap) (n0 : Nat) (v : Option Value) (h : Heap) (L : List Loc) : Prop := v = some (.long (own_m64 q1)) ∧ Fr n0 L ∧ h = h0
theorem ef_rm_mx (m : MethodId) (x0 : Int64) : entryFrame m #[(.long x0)] 4 = mkF m 0 #[.val (.long x0), .second, .unset, .unset] [] := by first | rfl | (simp [entryFrame, mkF, argsToLocals, Value.category]; done) | (simp [entryFrame, mkF, argsToLocals, Value.category] <;> rfl)
theorem d5_0 : decode prog_41_method_12_code 0 = .ok (.lload_n 0, 1) := by decide +kernel
theorem d5_1 : decode prog_41_method_12_code 1 = .ok (.lload_n 0, 1) := by decide +kernel
theorem d5_2 : decode prog_41_method_12_code 2 = .ok (.bipush 30, 2) := by decide +kernel
theorem d5_4 : decode prog_41_method_12_code 4 = .ok (.lushr, 1) := by decide +kernel
theorem d5_5 : decode prog_41_method_12_code 5 = .ok (.lxor, 1) := by decide +kernel
theorem d5_6 : decode prog_41_method_12_code 6 = .ok (.ldc2_w 67, 3) := by decide +kernel
theorem d5_9 : decode prog_41_method_12_code 9 = .ok (.lmul, 1) := by decide +kernel
theorem d5_10 : decode prog_41_method_12_code 10 = .ok (.lstore_n 2, 1) := by decide +kernel
theorem d5_11 : decode prog_41_method_12_code 11 = .ok (.lload_n 2, 1) := by decide +kernel
theorem d5_12 : decode prog_41_method_12_code 12 = .ok (.lload_n 2, 1) := by decide +kernel
theorem d5_13 : decode prog_41_method_12_code 13 = .ok (.bipush 27, 2) := by decide +kernel
theorem d5_15 : decode prog_41_method_12_code 15 = .ok (.lushr, 1) := by decide +kernel
theorem d5_16 : decode prog_41_method_12_code 16 = .ok (.lxor, 1) := by decide +kernel
theorem d5_17 : decode prog_41_method_12_code 17 = .ok (.ldc2_w 69, 3) := by decide +kernel
theorem d5_20 : decode prog_41_method_12_code 20 = .ok (.lmul, 1) := by decide +kernel
theorem d5_21 : decode prog_41_method_12_code 21 = .ok (.lstore_n 2, 1) := by decide +kernel
theorem d5_22 : decode prog_41_method_12_code 22 = .ok (.lload_n 2, 1) := by decide +kernel
theorem d5_23 : decode prog_41_method_12_code 23 = .ok (.lload_n 2, 1) := by decide +kernel
theorem d5_24 : decode prog_41_method_12_code 24 = .ok (.bipush 31, 2) := by decide +kernel
theorem d5_26 : decode prog_41_method_12_code 26 = .ok (.lushr, 1) := by decide +kernel
theorem d5_27 : decode prog_41_method_12_code 27 = .ok (.lxor, 1) := by decide +kernel
theorem d5_28 : decode prog_41_method_12_code 28 = .ok (.lreturn, 1) := by decide +kernel
set_option maxRecDepth 65536 in
set_option maxHeartbeats 40000000 in
theorem rm_mx (l : Launch) (Z : State) (a0 : Array Value) (hw : ∀ d ∈ tables_1, d.before a0 Z = true) (ws : List Jvm.Cond) (q1 : Int64) (h0 : Heap) (n0 : Nat) (Z0 : n0 ≤ h0.size)  :
    MetFree l (⟨"com/example/cardwright/cardwright/SplitMix64", "mix64", "(J)J"⟩ : MethodName) (head1 (Jvm.Cond.code (⟨"com/example/cardwright/cardwright/SplitMix64", "mix64", "(J)J"⟩ : MethodName) prog_41_method_12_code 4 (some (.long)) :: ws) ({ frames := 0, cells := 0, slots := 0, locals := 0 } : Room)) (fun a U => a = #[(.long q1)] ∧ Z.Warmed39 U.vm ∧ U.heap = h0) (fun _ _ _ _ _ => True) (fun _ U o U' => ∃ v L, o = .returned v ∧ (Q_mx q1 h0 n0) v U'.heap L ∧ FrameEnd U o U' L ({ frames := 0, cells := 0, slots := 0, locals := 0 } : Room).cells ({ frames := 0, cells := 0, slots := 0, locals := 0 } : Room).slots) := by
  refine MetFree.of_bodySF (plainFor_of_name pn_0) hisR ?_
  intro p e s m args below meth c s₁ Bd hml0 hP hK
  obtain ⟨rfl, hZ, hh⟩ := hP
  have hx := Bd.exec
  have hby := Bd.bytes
  have hlk : meth.locks = false := BodyLoose.notSynchronized Bd
  have hml : c.maxLocals = 4 := hml0
  have hown : s.vm.findClass "com/example/cardwright/cardwright/SplitMix64" = some m.cls := findClass_of_methodNamed Bd.named
  have hnm := (name_of_methodNamed Bd.named Bd.method).1
  have X0 : Stand p l e ({ frames := 0, cells := 0, slots := 0, locals := 0 } : Room) s m #[(.long q1)] below meth c s₁ [] 0 0 := Stand.of_body Bd
  have e0 : s₁.heap = h0 := by rw [← hh, Bd.state]; rfl
  have N0 := Fr.nil n0
  show own_Go p e below s (Q_mx q1 h0 n0) ({ frames := 0, cells := 0, slots := 0, locals := 0 } : Room).cells ({ frames := 0, cells := 0, slots := 0, locals := 0 } : Room).slots s₁ (entryFrame m #[(.long q1)] 4)
  refine own_cast (g' := (mkF m 0 #[.val (.long q1), .second, .unset, .unset] [])) (ef_rm_mx m q1) ?_
  refine own_step (T' := s₁) (g' := (mkF m 1 #[.val (.long q1), .second, .unset, .unset] [(.long q1)])) (fun t k => XS.lloadN X0.here hx rfl (hb hby d5_0) rfl k) ?_
  refine own_step (T' := s₁) (g' := (mkF m 2 #[.val (.long q1), .second, .unset, .unset] [(.long q1), (.long q1)])) (fun t k => XS.lloadN X0.here hx rfl (hb hby d5_1) rfl k) ?_
  refine own_step (T' := s₁) (g' := (mkF m 4 #[.val (.long q1), .second, .unset, .unset] [(.int (30 : Int32)), (.long q1), (.long q1)])) (fun t k => XS.bipush X0.here hx rfl (hb hby d5_2) k) ?_
  refine own_step (T' := s₁) (g' := (mkF m 5 #[.val (.long q1), .second, .unset, .unset] [(.long ((q1.toUInt64 >>> (30 : UInt64)).toInt64)), (.long q1)])) (fun t k => XS.lushr X0.here hx rfl (hb hby d5_4) rfl k) ?_
  refine own_step (T' := s₁) (g' := (mkF m 6 #[.val (.long q1), .second, .unset, .unset] [(.long (q1 ^^^ ((q1.toUInt64 >>> (30 : UInt64)).toInt64)))])) (fun t k => XS.lxor X0.here hx rfl (hb hby d5_5) rfl k) ?_
  refine own_step (T' := s₁) (g' := (mkF m 9 #[.val (.long q1), .second, .unset, .unset] [(.long ((-4658895280553007687) : Int64)), (.long (q1 ^^^ ((q1.toUInt64 >>> (30 : UInt64)).toInt64)))])) (X0.ldc2Long hx hown (mvT hZ (hw _ (List.mem_of_getElem? (i := 27) rfl))) (g := (mkF m 6 #[.val (.long q1), .second, .unset, .unset] [(.long (q1 ^^^ ((q1.toUInt64 >>> (30 : UInt64)).toInt64)))])) rfl (hb hby d5_6)) ?_
  refine own_step (T' := s₁) (g' := (mkF m 10 #[.val (.long q1), .second, .unset, .unset] [(.long ((q1 ^^^ ((q1.toUInt64 >>> (30 : UInt64)).toInt64)) * ((-4658895280553007687) : Int64)))])) (fun t k => XS.lmul X0.here hx rfl (hb hby d5_9) rfl k) ?_
  generalize hd_z1 : ((q1 ^^^ ((q1.toUInt64 >>> (30 : UInt64)).toInt64)) * ((-4658895280553007687) : Int64)) = z1
  refine own_step (T' := s₁) (g' := (mkF m 11 #[.val (.long q1), .second, .val (.long z1), .second] [])) (fun t k => XS.lstoreN X0.here hx rfl (hb hby d5_10) rfl (l' := #[.val (.long q1), .second, .val (.long z1), .second]) rfl k) ?_
  refine own_step (T' := s₁) (g' := (mkF m 12 #[.val (.long q1), .second, .val (.long z1), .second] [(.long z1)])) (fun t k => XS.lloadN X0.here hx rfl (hb hby d5_11) rfl k) ?_
  refine own_step (T' := s₁) (g' := (mkF m 13 #[.val (.long q1), .second, .val (.long z1), .second] [(.long z1), (.long z1)])) (fun t k => XS.lloadN X0.here hx rfl (hb hby d5_12) rfl k) ?_
  refine own_step (T' := s₁) (g' := (mkF m 15 #[.val (.long q1), .second, .val (.long z1), .second] [(.int (27 : Int32)), (.long z1), (.long z1)])) (fun t k => XS.bipush X0.here hx rfl (hb hby d5_13) k) ?_
  refine own_step (T' := s₁) (g' := (mkF m 16 #[.val (.long q1), .second, .val (.long z1), .second] [(.long ((z1.toUInt64 >>> (27 : UInt64)).toInt64)), (.long z1)])) (fun t k => XS.lushr X0.here hx rfl (hb hby d5_15) rfl k) ?_
  refine own_step (T' := s₁) (g' := (mkF m 17 #[.val (.long q1), .second, .val (.long z1), .second] [(.long (z1 ^^^ ((z1.toUInt64 >>> (27 : UInt64)).toInt64)))])) (fun t k => XS.lxor X0.here hx rfl (hb hby d5_16) rfl k) ?_
  refine own_step (T' := s₁) (g' := (mkF m 20 #[.val (.long q1), .second, .val (.long z1), .second] [(.long ((-7723592293110705685) : Int64)), (.long (z1 ^^^ ((z1.toUInt64 >>> (27 : UInt64)).toInt64)))])) (X0.ldc2Long hx hown (mvT hZ (hw _ (List.mem_of_getElem? (i := 28) rfl))) (g := (mkF m 17 #[.val (.long q1), .second, .val (.long z1), .second] [(.long (z1 ^^^ ((z1.toUInt64 >>> (27 : UInt64)).toInt64)))])) rfl (hb hby d5_17)) ?_
  refine own_step (T' := s₁) (g' := (mkF m 21 #[.val (.long q1), .second, .val (.long z1), .second] [(.long ((z1 ^^^ ((z1.toUInt64 >>> (27 : UInt64)).toInt64)) * ((-7723592293110705685) : Int64)))])) (fun t k => XS.lmul X0.here hx rfl (hb hby d5_20) rfl k) ?_
  generalize hd_z2 : ((z1 ^^^ ((z1.toUInt64 >>> (27 : UInt64)).toInt64)) * ((-7723592293110705685) : Int64)) = z2
  refine own_step (T' := s₁) (g' := (mkF m 22 #[.val (.long q1), .second, .val (.long z2), .second] [])) (fun t k => XS.lstoreN X0.here hx rfl (hb hby d5_21) rfl (l' := #[.val (.long q1), .second, .val (.long z2), .second]) rfl k) ?_
  refine own_step (T' := s₁) (g' := (mkF m 23 #[.val (.long q1), .second, .val (.long z2), .second] [(.long z2)])) (fun t k => XS.lloadN X0.here hx rfl (hb hby d5_22) rfl k) ?_
  refine own_step (T' := s₁) (g' := (mkF m 24 #[.val (.long q1), .second, .val (.long z2), .second] [(.long z2), (.long z2)])) (fun t k => XS.lloadN X0.here hx rfl (hb hby d5_23) rfl k) ?_
  refine own_step (T' := s₁) (g' := (mkF m 26 #[.val (.long q1), .second, .val (.long z2), .second] [(.int (31 : Int32)), (.long z2), (.long z2)])) (fun t k => XS.bipush X0.here hx rfl (hb hby d5_24) k) ?_
  refine own_step (T' := s₁) (g' := (mkF m 27 #[.val (.long q1), .second, .val (.long z2), .second] [(.long ((z2.toUInt64 >>> (31 : UInt64)).toInt64)), (.long z2)])) (fun t k => XS.lushr X0.here hx rfl (hb hby d5_26) rfl k) ?_
  refine own_step (T' := s₁) (g' := (mkF m 28 #[.val (.long q1), .second, .val (.long z2), .second] [(.long (z2 ^^^ ((z2.toUInt64 >>> (31 : UInt64)).toInt64)))])) (fun t k => XS.lxor X0.here hx rfl (hb hby d5_27) rfl k) ?_
  refine own_rJ X0 hx hlk Bd.returns (hb hby d5_28) ?_ (by decide) (by decide)
  rw [e0]
  subst hd_z1 hd_z2
  exact ⟨rfl, N0, rfl⟩
def Q_nl (Z : State) (a1 : Addr) (u1 : Int64) (h0 : Heap) (n0 : Nat) (v : Option Value) (h : Heap) (L : List Loc) : Prop := v = some (.long (own_m64 (u1 + ((-7046029254386353131) : Int64)))) ∧ Fr n0 L ∧ Keep h0 h [a1] ∧ Exa Z h a1 "com/example/cardwright/cardwright/SplitMix64" ∧ Fld Z h a1 "com/example/cardwright/cardwright/SplitMix64" "state" "J" (.long (u1 + ((-7046029254386353131) : Int64)))
theorem ef_rm_nl (m : MethodId) (x0 : Addr) : entryFrame m #[(.ref x0)] 1 = mkF m 0 #[.val (.ref x0)] [] := by first | rfl | (simp [entryFrame, mkF, argsToLocals, Value.category]; done) | (simp [entryFrame, mkF, argsToLocals, Value.category] <;> rfl)
theorem d4_0 : decode prog_41_method_4_code 0 = .ok (.aload_n 0, 1) := by decide +kernel
theorem d4_1 : decode prog_41_method_4_code 1 = .ok (.dup, 1) := by decide +kernel
theorem d4_2 : decode prog_41_method_4_code 2 = .ok (.getfield 9, 3) := by decide +kernel
theorem d4_5 : decode prog_41_method_4_code 5 = .ok (.ldc2_w 24, 3) := by decide +kernel
theorem d4_8 : decode prog_41_method_4_code 8 = .ok (.ladd, 1) := by decide +kernel
theorem d4_9 : decode prog_41_method_4_code 9 = .ok (.putfield 9, 3) := by decide +kernel
theorem d4_12 : decode prog_41_method_4_code 12 = .ok (.aload_n 0, 1) := by decide +kernel
theorem d4_13 : decode prog_41_method_4_code 13 = .ok (.getfield 9, 3) := by decide +kernel
theorem pd_0 : parseMethodDescriptor "(J)J" = some ⟨[.long], some (.long)⟩ := by decide +kernel
theorem d4_16 : decode prog_41_method_4_code 16 = .ok (.invokestatic 26, 3) := by decide +kernel
theorem d4_19 : decode prog_41_method_4_code 19 = .ok (.lreturn, 1) := by decide +kernel
set_option maxRecDepth 65536 in
set_option maxHeartbeats 40000000 in
theorem rm_nl (l : Launch) (Z : State) (a0 : Array Value) (hw : ∀ d ∈ tables_1, d.before a0 Z = true) (ws : List Jvm.Cond) (a1 : Addr) (u1 : Int64) (h0 : Heap) (n0 : Nat) (Z0 : n0 ≤ h0.size) (E_a : Exa Z h0 a1 "com/example/cardwright/cardwright/SplitMix64") (F_s : Fld Z h0 a1 "com/example/cardwright/cardwright/SplitMix64" "state" "J" (.long u1)) (o_a : n0 ≤ a1) :
    MetFree l (⟨"com/example/cardwright/cardwright/SplitMix64", "nextLong", "()J"⟩ : MethodName) (head1 (Jvm.Cond.code (⟨"com/example/cardwright/cardwright/SplitMix64", "nextLong", "()J"⟩ : MethodName) prog_41_method_4_code 1 (some (.long)) :: ws) ({ frames := 1, cells := 0, slots := 0, locals := 15 } : Room)) (fun a U => a = #[(.ref a1)] ∧ Z.Warmed39 U.vm ∧ U.heap = h0) (fun _ _ _ _ _ => True) (fun _ U o U' => ∃ v L, o = .returned v ∧ (Q_nl Z a1 u1 h0 n0) v U'.heap L ∧ FrameEnd U o U' L ({ frames := 1, cells := 0, slots := 0, locals := 15 } : Room).cells ({ frames := 1, cells := 0, slots := 0, locals := 15 } : Room).slots) := by
  refine MetFree.of_bodySF (plainFor_of_name pn_0) hisR ?_
  intro p e s m args below meth c s₁ Bd hml0 hP hK
  obtain ⟨rfl, hZ, hh⟩ := hP
  have hx := Bd.exec
  have hby := Bd.bytes
  have hlk : meth.locks = false := BodyLoose.notSynchronized Bd
  have hml : c.maxLocals = 1 := hml0
  have hown : s.vm.findClass "com/example/cardwright/cardwright/SplitMix64" = some m.cls := findClass_of_methodNamed Bd.named
  have hnm := (name_of_methodNamed Bd.named Bd.method).1
  have X0 : Stand p l e ({ frames := 1, cells := 0, slots := 0, locals := 15 } : Room) s m #[(.ref a1)] below meth c s₁ [] 0 0 := Stand.of_body Bd
  have e0 : s₁.heap = h0 := by rw [← hh, Bd.state]; rfl
  have N0 := Fr.nil n0
  show own_Go p e below s (Q_nl Z a1 u1 h0 n0) ({ frames := 1, cells := 0, slots := 0, locals := 15 } : Room).cells ({ frames := 1, cells := 0, slots := 0, locals := 15 } : Room).slots s₁ (entryFrame m #[(.ref a1)] 1)
  refine own_cast (g' := (mkF m 0 #[.val (.ref a1)] [])) (ef_rm_nl m a1) ?_
  have K0 : Keep h0 h0 [a1] := Keep.refl _ _
  refine own_step (T' := s₁) (g' := (mkF m 1 #[.val (.ref a1)] [(.ref a1)])) (fun t k => XS.aloadN X0.here hx rfl (hb hby d4_0) rfl rfl k) ?_
  refine own_step (T' := s₁) (g' := (mkF m 2 #[.val (.ref a1)] [(.ref a1), (.ref a1)])) (fun t k => XS.dup X0.here hx rfl (hb hby d4_1) rfl rfl k) ?_
  obtain ⟨T1, X1, e1, st1⟩ := getF X0 hx hZ hown (host := "") (Or.inl (hw _ (List.mem_of_getElem? (i := 9) rfl))) Via.refl e0 F_s (g := (mkF m 2 #[.val (.ref a1)] [(.ref a1), (.ref a1)])) rfl rfl (hb hby d4_2)
  refine own_step (T' := T1) (g' := (mkF m 5 #[.val (.ref a1)] [(.long u1), (.ref a1)])) st1 ?_
  refine own_step (T' := T1) (g' := (mkF m 8 #[.val (.ref a1)] [(.long ((-7046029254386353131) : Int64)), (.long u1), (.ref a1)])) (X1.ldc2Long hx hown (mvT hZ (hw _ (List.mem_of_getElem? (i := 16) rfl))) (g := (mkF m 5 #[.val (.ref a1)] [(.long u1), (.ref a1)])) rfl (hb hby d4_5)) ?_
  refine own_step (T' := T1) (g' := (mkF m 9 #[.val (.ref a1)] [(.long (u1 + ((-7046029254386353131) : Int64))), (.ref a1)])) (fun t k => XS.ladd X1.here hx rfl (hb hby d4_8) rfl k) ?_
  obtain ⟨T2, h2, X2, e2, W2, st2⟩ := putF X1 hx hZ hown (host := "") (Or.inl (hw _ (List.mem_of_getElem? (i := 9) rfl))) Via.refl e1 F_s E_a (Or.inl (hw _ (List.mem_of_getElem? (i := 10) rfl))) (hw _ (List.mem_of_getElem? (i := 1) rfl)) (ty := .long) (by decide) rfl rfl (g := (mkF m 9 #[.val (.ref a1)] [(.long (u1 + ((-7046029254386353131) : Int64))), (.ref a1)])) rfl rfl (hb hby d4_9)
  have g3 : Exa Z h2 a1 "com/example/cardwright/cardwright/SplitMix64" := E_a.wr W2
  have g4 : Fld Z h2 a1 "com/example/cardwright/cardwright/SplitMix64" "state" "J" (.long (u1 + ((-7046029254386353131) : Int64))) := F_s.same W2
  have K5 : Keep h0 h2 [a1] := K0.wr W2 (Or.inl (List.mem_of_getElem? (i := 0) rfl))
  have N2 := Fr.snoc X2 N0 o_a
  have Z2 : n0 ≤ h2.size := (Nat.le_trans Z0 (Nat.le_of_eq W2.size.symm))
  refine own_step (T' := T2) (g' := (mkF m 12 #[.val (.ref a1)] [])) st2 ?_
  refine own_step (T' := T2) (g' := (mkF m 13 #[.val (.ref a1)] [(.ref a1)])) (fun t k => XS.aloadN X2.here hx rfl (hb hby d4_12) rfl rfl k) ?_
  obtain ⟨T6, X6, e6, st6⟩ := getF X2 hx hZ hown (host := "") (Or.inl (hw _ (List.mem_of_getElem? (i := 9) rfl))) Via.refl e2 g4 (g := (mkF m 13 #[.val (.ref a1)] [(.ref a1)])) rfl rfl (hb hby d4_13)
  refine own_step (T' := T6) (g' := (mkF m 16 #[.val (.ref a1)] [(.long (u1 + ((-7046029254386353131) : Int64)))])) st6 ?_
  obtain ⟨_, _, ⟨T8, L8, k8, n8⟩, -, X8, ⟨Lc8, hQ8, l8, y8, z8⟩, st8⟩ := Jvm.LawKit.callS X6 hx (y := (⟨"com/example/cardwright/cardwright/SplitMix64", "mix64", "(J)J"⟩ : MethodName)) hown (mvT hZ (hw _ (List.mem_of_getElem? (i := 24) rfl))) (mvT hZ (hw _ (List.mem_of_getElem? (i := 25) rfl))) (mvT hZ (hw _ (List.mem_of_getElem? (i := 2) rfl))) (mvT hZ (hw _ (List.mem_of_getElem? (i := 26) rfl))) (by decide) (backOf (W := 0) (rm_mx l Z a0 hw [] (u1 + ((-7046029254386353131) : Int64)) h2 n0 Z2 ) hZ (hw _ (List.mem_of_getElem? (i := 26) rfl)) (hw _ (List.mem_of_getElem? (i := 2) rfl)) (by decide) (by decide)) (g := (mkF m 16 #[.val (.ref a1)] [(.long (u1 + ((-7046029254386353131) : Int64)))])) rfl (by rw [hml]; rfl) (argsL := [(.long (u1 + ((-7046029254386353131) : Int64)))]) (rest := []) (lenOf pd_0 rfl) rfl (by show 2 * 0 + _ ≤ _; exact Nat.le_of_eq rfl) (hb hby d4_16) (fun _ _ => ⟨rfl, e6, (by decide : 0 + 0 ≤ _), (by decide : 0 + 0 ≤ _)⟩)
  dsimp only [Pt.U, Pt.locs, Pt.cells, Pt.slots] at X8 l8 y8 z8 st8 hQ8
  subst l8 y8 z8
  obtain ⟨rfl, Nq8, eq7⟩ := hQ8
  have N8 := Fr.app N2 Nq8
  refine own_step (T' := T8) (g' := (mkF m 19 #[.val (.ref a1)] [(.long (own_m64 (u1 + ((-7046029254386353131) : Int64))))])) st8 ?_
  refine own_rJ X8 hx hlk Bd.returns (hb hby d4_19) ?_ (by decide) (by decide)
  rw [eq7]
  exact ⟨rfl, N8, K5, g3, g4⟩
def Q_m32 (q1 : Int64) (h0 : Heap) (n0 : Nat) (v : Option Value) (h : Heap) (L : List Loc) : Prop := v = some (.int (own_m32 q1)) ∧ Fr n0 L ∧ h = h0
theorem ef_rm_m32 (m : MethodId) (x0 : Int64) : entryFrame m #[(.long x0)] 2 = mkF m 0 #[.val (.long x0), .second] [] := by first | rfl | (simp [entryFrame, mkF, argsToLocals, Value.category]; done) | (simp [entryFrame, mkF, argsToLocals, Value.category] <;> rfl)
theorem pn_1 : plainName "com/example/cardwright/cardwright/SplitMix64NextIntPinLaw" = true := by first | (simp [plainName, overriddenIn]; done) | decide +kernel
theorem d6_0 : decode method_2_code 0 = .ok (.lload_n 0, 1) := by decide +kernel
theorem d6_1 : decode method_2_code 1 = .ok (.lload_n 0, 1) := by decide +kernel
theorem d6_2 : decode method_2_code 2 = .ok (.bipush 33, 2) := by decide +kernel
theorem d6_4 : decode method_2_code 4 = .ok (.lushr, 1) := by decide +kernel
theorem d6_5 : decode method_2_code 5 = .ok (.lxor, 1) := by decide +kernel
theorem d6_6 : decode method_2_code 6 = .ok (.ldc2_w 7, 3) := by decide +kernel
theorem d6_9 : decode method_2_code 9 = .ok (.lmul, 1) := by decide +kernel
theorem d6_10 : decode method_2_code 10 = .ok (.lstore_n 0, 1) := by decide +kernel
theorem d6_11 : decode method_2_code 11 = .ok (.lload_n 0, 1) := by decide +kernel
theorem d6_12 : decode method_2_code 12 = .ok (.lload_n 0, 1) := by decide +kernel
theorem d6_13 : decode method_2_code 13 = .ok (.bipush 28, 2) := by decide +kernel
theorem d6_15 : decode method_2_code 15 = .ok (.lushr, 1) := by decide +kernel
theorem d6_16 : decode method_2_code 16 = .ok (.lxor, 1) := by decide +kernel
theorem d6_17 : decode method_2_code 17 = .ok (.ldc2_w 9, 3) := by decide +kernel
theorem d6_20 : decode method_2_code 20 = .ok (.lmul, 1) := by decide +kernel
theorem d6_21 : decode method_2_code 21 = .ok (.bipush 32, 2) := by decide +kernel
theorem d6_23 : decode method_2_code 23 = .ok (.lushr, 1) := by decide +kernel
theorem d6_24 : decode method_2_code 24 = .ok (.l2i, 1) := by decide +kernel
theorem d6_25 : decode method_2_code 25 = .ok (.ireturn, 1) := by decide +kernel
set_option maxRecDepth 65536 in
set_option maxHeartbeats 40000000 in
theorem rm_m32 (l : Launch) (Z : State) (a0 : Array Value) (hw : ∀ d ∈ tables_1, d.before a0 Z = true) (ws : List Jvm.Cond) (q1 : Int64) (h0 : Heap) (n0 : Nat) (Z0 : n0 ≤ h0.size)  :
    MetFree l (⟨"com/example/cardwright/cardwright/SplitMix64NextIntPinLaw", "mix32", "(J)I"⟩ : MethodName) (head1 (Jvm.Cond.code (⟨"com/example/cardwright/cardwright/SplitMix64NextIntPinLaw", "mix32", "(J)I"⟩ : MethodName) method_2_code 2 (some (.int)) :: ws) ({ frames := 0, cells := 0, slots := 0, locals := 0 } : Room)) (fun a U => a = #[(.long q1)] ∧ Z.Warmed39 U.vm ∧ U.heap = h0) (fun _ _ _ _ _ => True) (fun _ U o U' => ∃ v L, o = .returned v ∧ (Q_m32 q1 h0 n0) v U'.heap L ∧ FrameEnd U o U' L ({ frames := 0, cells := 0, slots := 0, locals := 0 } : Room).cells ({ frames := 0, cells := 0, slots := 0, locals := 0 } : Room).slots) := by
  refine MetFree.of_bodySF (plainFor_of_name pn_1) hisR ?_
  intro p e s m args below meth c s₁ Bd hml0 hP hK
  obtain ⟨rfl, hZ, hh⟩ := hP
  have hx := Bd.exec
  have hby := Bd.bytes
  have hlk : meth.locks = false := BodyLoose.notSynchronized Bd
  have hml : c.maxLocals = 2 := hml0
  have hown : s.vm.findClass "com/example/cardwright/cardwright/SplitMix64NextIntPinLaw" = some m.cls := findClass_of_methodNamed Bd.named
  have hnm := (name_of_methodNamed Bd.named Bd.method).1
  have X0 : Stand p l e ({ frames := 0, cells := 0, slots := 0, locals := 0 } : Room) s m #[(.long q1)] below meth c s₁ [] 0 0 := Stand.of_body Bd
  have e0 : s₁.heap = h0 := by rw [← hh, Bd.state]; rfl
  have N0 := Fr.nil n0
  show own_Go p e below s (Q_m32 q1 h0 n0) ({ frames := 0, cells := 0, slots := 0, locals := 0 } : Room).cells ({ frames := 0, cells := 0, slots := 0, locals := 0 } : Room).slots s₁ (entryFrame m #[(.long q1)] 2)
  refine own_cast (g' := (mkF m 0 #[.val (.long q1), .second] [])) (ef_rm_m32 m q1) ?_
  refine own_step (T' := s₁) (g' := (mkF m 1 #[.val (.long q1), .second] [(.long q1)])) (fun t k => XS.lloadN X0.here hx rfl (hb hby d6_0) rfl k) ?_
  refine own_step (T' := s₁) (g' := (mkF m 2 #[.val (.long q1), .second] [(.long q1), (.long q1)])) (fun t k => XS.lloadN X0.here hx rfl (hb hby d6_1) rfl k) ?_
  refine own_step (T' := s₁) (g' := (mkF m 4 #[.val (.long q1), .second] [(.int (33 : Int32)), (.long q1), (.long q1)])) (fun t k => XS.bipush X0.here hx rfl (hb hby d6_2) k) ?_
  refine own_step (T' := s₁) (g' := (mkF m 5 #[.val (.long q1), .second] [(.long ((q1.toUInt64 >>> (33 : UInt64)).toInt64)), (.long q1)])) (fun t k => XS.lushr X0.here hx rfl (hb hby d6_4) rfl k) ?_
  refine own_step (T' := s₁) (g' := (mkF m 6 #[.val (.long q1), .second] [(.long (q1 ^^^ ((q1.toUInt64 >>> (33 : UInt64)).toInt64)))])) (fun t k => XS.lxor X0.here hx rfl (hb hby d6_5) rfl k) ?_
  refine own_step (T' := s₁) (g' := (mkF m 9 #[.val (.long q1), .second] [(.long (7109453100751455733 : Int64)), (.long (q1 ^^^ ((q1.toUInt64 >>> (33 : UInt64)).toInt64)))])) (X0.ldc2Long hx hown (mvT hZ (hw _ (List.mem_of_getElem? (i := 34) rfl))) (g := (mkF m 6 #[.val (.long q1), .second] [(.long (q1 ^^^ ((q1.toUInt64 >>> (33 : UInt64)).toInt64)))])) rfl (hb hby d6_6)) ?_
  refine own_step (T' := s₁) (g' := (mkF m 10 #[.val (.long q1), .second] [(.long ((q1 ^^^ ((q1.toUInt64 >>> (33 : UInt64)).toInt64)) * (7109453100751455733 : Int64)))])) (fun t k => XS.lmul X0.here hx rfl (hb hby d6_9) rfl k) ?_
  generalize hd_z1 : ((q1 ^^^ ((q1.toUInt64 >>> (33 : UInt64)).toInt64)) * (7109453100751455733 : Int64)) = z1
  refine own_step (T' := s₁) (g' := (mkF m 11 #[.val (.long z1), .second] [])) (fun t k => XS.lstoreN X0.here hx rfl (hb hby d6_10) rfl (l' := #[.val (.long z1), .second]) rfl k) ?_
  refine own_step (T' := s₁) (g' := (mkF m 12 #[.val (.long z1), .second] [(.long z1)])) (fun t k => XS.lloadN X0.here hx rfl (hb hby d6_11) rfl k) ?_
  refine own_step (T' := s₁) (g' := (mkF m 13 #[.val (.long z1), .second] [(.long z1), (.long z1)])) (fun t k => XS.lloadN X0.here hx rfl (hb hby d6_12) rfl k) ?_
  refine own_step (T' := s₁) (g' := (mkF m 15 #[.val (.long z1), .second] [(.int (28 : Int32)), (.long z1), (.long z1)])) (fun t k => XS.bipush X0.here hx rfl (hb hby d6_13) k) ?_
  refine own_step (T' := s₁) (g' := (mkF m 16 #[.val (.long z1), .second] [(.long ((z1.toUInt64 >>> (28 : UInt64)).toInt64)), (.long z1)])) (fun t k => XS.lushr X0.here hx rfl (hb hby d6_15) rfl k) ?_
  refine own_step (T' := s₁) (g' := (mkF m 17 #[.val (.long z1), .second] [(.long (z1 ^^^ ((z1.toUInt64 >>> (28 : UInt64)).toInt64)))])) (fun t k => XS.lxor X0.here hx rfl (hb hby d6_16) rfl k) ?_
  refine own_step (T' := s₁) (g' := (mkF m 20 #[.val (.long z1), .second] [(.long ((-3808689974395783757) : Int64)), (.long (z1 ^^^ ((z1.toUInt64 >>> (28 : UInt64)).toInt64)))])) (X0.ldc2Long hx hown (mvT hZ (hw _ (List.mem_of_getElem? (i := 35) rfl))) (g := (mkF m 17 #[.val (.long z1), .second] [(.long (z1 ^^^ ((z1.toUInt64 >>> (28 : UInt64)).toInt64)))])) rfl (hb hby d6_17)) ?_
  refine own_step (T' := s₁) (g' := (mkF m 21 #[.val (.long z1), .second] [(.long ((z1 ^^^ ((z1.toUInt64 >>> (28 : UInt64)).toInt64)) * ((-3808689974395783757) : Int64)))])) (fun t k => XS.lmul X0.here hx rfl (hb hby d6_20) rfl k) ?_
  refine own_step (T' := s₁) (g' := (mkF m 23 #[.val (.long z1), .second] [(.int (32 : Int32)), (.long ((z1 ^^^ ((z1.toUInt64 >>> (28 : UInt64)).toInt64)) * ((-3808689974395783757) : Int64)))])) (fun t k => XS.bipush X0.here hx rfl (hb hby d6_21) k) ?_
  refine own_step (T' := s₁) (g' := (mkF m 24 #[.val (.long z1), .second] [(.long ((((z1 ^^^ ((z1.toUInt64 >>> (28 : UInt64)).toInt64)) * ((-3808689974395783757) : Int64)).toUInt64 >>> (32 : UInt64)).toInt64))])) (fun t k => XS.lushr X0.here hx rfl (hb hby d6_23) rfl k) ?_
  refine own_step (T' := s₁) (g' := (mkF m 25 #[.val (.long z1), .second] [(.int (((((z1 ^^^ ((z1.toUInt64 >>> (28 : UInt64)).toInt64)) * ((-3808689974395783757) : Int64)).toUInt64 >>> (32 : UInt64)).toInt64).toInt32))])) (fun t k => XS.l2i X0.here hx rfl (hb hby d6_24) rfl k) ?_
  refine own_rI X0 hx hlk Bd.returns (hb hby d6_25) ?_ (by decide) (by decide)
  rw [e0]
  subst hd_z1
  exact ⟨rfl, N0, rfl⟩
def Q_law (n0 : Nat) (v : Option Value) (h : Heap) (L : List Loc) : Prop := v = some (.int 1) ∧ Fr n0 L
theorem ef_rm_law (m : MethodId) (x0 : Int64) : entryFrame m #[(.long x0)] maxLocals = mkF m 0 #[.val (.long x0), .second, .unset, .unset, .unset, .unset, .unset, .unset, .unset, .unset, .unset, .unset, .unset] [] := by first | rfl | (simp [entryFrame, mkF, argsToLocals, Value.category, maxLocals]; done) | (simp [entryFrame, mkF, argsToLocals, Value.category, maxLocals] <;> rfl)
theorem pd_1 : parseMethodDescriptor "(J)V" = some ⟨[.long], none⟩ := by decide +kernel
theorem pd_2 : parseMethodDescriptor "()I" = some ⟨[], some (.int)⟩ := by decide +kernel
theorem pd_3 : parseMethodDescriptor "()J" = some ⟨[], some (.long)⟩ := by decide +kernel
theorem pd_4 : parseMethodDescriptor "(J)I" = some ⟨[.long], some (.int)⟩ := by decide +kernel
set_option maxRecDepth 65536 in
set_option maxHeartbeats 40000000 in
theorem rm_law (l : Launch) (Z : State) (a0 : Array Value) (hw : ∀ d ∈ tables_1, d.before a0 Z = true) (ws : List Jvm.Cond) (p0 : Int64) (h0 : Heap) (n0 : Nat) (Z0 : n0 ≤ h0.size)  :
    MetFree l x (head1 (Jvm.Cond.code x code maxLocals ret :: ws) room_1) (fun a U => a = #[(.long p0)] ∧ Z.Warmed39 U.vm ∧ U.heap = h0) (fun _ _ _ _ _ => True) (fun _ U o U' => ∃ v L, o = .returned v ∧ (Q_law n0) v U'.heap L ∧ FrameEnd U o U' L 16 128) := by
  refine MetFree.of_bodySF (plainFor_of_name pn_1) hisR ?_
  intro p e s m args below meth c s₁ Bd hml0 hP hK
  obtain ⟨rfl, hZ, hh⟩ := hP
  have hx := Bd.exec
  have hby := Bd.bytes
  have hlk : meth.locks = false := BodyLoose.notSynchronized Bd
  have hml : c.maxLocals = 13 := hml0
  have hown : s.vm.findClass "com/example/cardwright/cardwright/SplitMix64NextIntPinLaw" = some m.cls := findClass_of_methodNamed Bd.named
  have hnm := (name_of_methodNamed Bd.named Bd.method).1
  have X0 : Stand p l e room_1 s m #[(.long p0)] below meth c s₁ [] 0 0 := Stand.of_body Bd
  have e0 : s₁.heap = h0 := by rw [← hh, Bd.state]; rfl
  have N0 := Fr.nil n0
  show own_Go p e below s (Q_law n0) 16 128 s₁ (entryFrame m #[(.long p0)] maxLocals)
  refine own_cast (g' := (mkF m 0 #[.val (.long p0), .second, .unset, .unset, .unset, .unset, .unset, .unset, .unset, .unset, .unset, .unset, .unset] [])) (ef_rm_law m p0) ?_
  obtain ⟨T1, h1, X1, e1, E1, A1, D1, -, st1⟩ := newO X0 hx hZ hown (hw _ (List.mem_of_getElem? (i := 0) rfl)) (hw _ (List.mem_of_getElem? (i := 1) rfl)) (hw _ (List.mem_of_getElem? (i := 2) rfl)) e0 (g := (mkF m 0 #[.val (.long p0), .second, .unset, .unset, .unset, .unset, .unset, .unset, .unset, .unset, .unset, .unset, .unset] [])) rfl (hb hby at_0) (by decide : 0 + 1 ≤ _) (by decide : 0 + 1 ≤ _)
  obtain ⟨a1, g_a1⟩ : ∃ z, z = h0.size := ⟨_, rfl⟩
  rw [← g_a1] at A1 D1 st1
  have o1 : n0 ≤ a1 := (Nat.le_trans Z0 (Nat.le_of_eq g_a1.symm))
  have Z1 : n0 ≤ h1.size := (Nat.le_trans Z0 E1.1)
  have g2 : Fld Z h1 a1 "com/example/cardwright/cardwright/SplitMix64" "state" "J" (.long (0 : Int64)) := D1 (Or.inl (hw _ (List.mem_of_getElem? (i := 10) rfl))) (ty := .long) (by decide)
  refine own_step (T' := T1) (g' := (mkF m 3 #[.val (.long p0), .second, .unset, .unset, .unset, .unset, .unset, .unset, .unset, .unset, .unset, .unset, .unset] [(.ref a1)])) st1 ?_
  refine own_step (T' := T1) (g' := (mkF m 4 #[.val (.long p0), .second, .unset, .unset, .unset, .unset, .unset, .unset, .unset, .unset, .unset, .unset, .unset] [(.ref a1), (.ref a1)])) (fun t k => XS.dup X1.here hx rfl (hb hby at_3) rfl rfl k) ?_
  refine own_step (T' := T1) (g' := (mkF m 5 #[.val (.long p0), .second, .unset, .unset, .unset, .unset, .unset, .unset, .unset, .unset, .unset, .unset, .unset] [(.long p0), (.ref a1), (.ref a1)])) (fun t k => XS.lloadN X1.here hx rfl (hb hby at_4) rfl k) ?_
  obtain ⟨_, _, ⟨T6, L6, k6, n6⟩, -, X6, ⟨Lc6, hQ6, l6, y6, z6⟩, st6⟩ := X1.specialBack hx (y := (⟨"com/example/cardwright/cardwright/SplitMix64", "<init>", "(J)V"⟩ : MethodName)) rfl hown (mvT hZ (hw _ (List.mem_of_getElem? (i := 3) rfl))) (mvT hZ (hw _ (List.mem_of_getElem? (i := 4) rfl))) (mvT hZ (hw _ (List.mem_of_getElem? (i := 5) rfl))) (by decide) (backOf (W := 1) (rm_init l Z a0 hw [] a1 p0 _ h1 n0 Z1 A1 g2 o1) hZ (hw _ (List.mem_of_getElem? (i := 5) rfl)) (hw _ (List.mem_of_getElem? (i := 2) rfl)) (by decide) (by decide)) (g := (mkF m 5 #[.val (.long p0), .second, .unset, .unset, .unset, .unset, .unset, .unset, .unset, .unset, .unset, .unset, .unset] [(.long p0), (.ref a1), (.ref a1)])) rfl (by rw [hml]; rfl) (Steps.refl _) (a := a1) (argsL := [(.long p0)]) (rest := [(.ref a1)]) (lenOf pd_1 rfl) rfl (by show 2 * 0 + _ ≤ _; exact Nat.le_of_eq rfl) (hb hby at_5) (fun _ _ => ⟨rfl, e1, (by decide : 1 + 0 ≤ _), (by decide : 1 + 0 ≤ _)⟩)
  dsimp only [Pt.U, Pt.locs, Pt.cells, Pt.slots] at X6 l6 y6 z6 st6 hQ6
  subst l6 y6 z6
  obtain ⟨rfl, Nq6, K3, g4, g5⟩ := hQ6
  have N6 := Fr.app N0 Nq6
  have Z3 : n0 ≤ T6.heap.size := (Nat.le_trans Z1 K3.1)
  refine own_tr (T' := T6) (g' := (mkF m 8 #[.val (.long p0), .second, .unset, .unset, .unset, .unset, .unset, .unset, .unset, .unset, .unset, .unset, .unset] [(.ref a1)])) st6 ?_
  refine own_step (T' := T6) (g' := (mkF m 9 #[.val (.long p0), .second, .val (.ref a1), .unset, .unset, .unset, .unset, .unset, .unset, .unset, .unset, .unset, .unset] [])) (fun t k => XS.astoreN X6.here hx rfl (hb hby at_8) rfl rfl (l' := #[.val (.long p0), .second, .val (.ref a1), .unset, .unset, .unset, .unset, .unset, .unset, .unset, .unset, .unset, .unset]) rfl k) ?_
  refine own_step (T' := T6) (g' := (mkF m 10 #[.val (.long p0), .second, .val (.ref a1), .unset, .unset, .unset, .unset, .unset, .unset, .unset, .unset, .unset, .unset] [(.ref a1)])) (fun t k => XS.aloadN X6.here hx rfl (hb hby at_9) rfl rfl k) ?_
  obtain ⟨cq11, kq11, q11a, q11b, q11c⟩ := isOf hZ rfl g4
  obtain ⟨_, _, ⟨T10, L10, k10, n10⟩, -, X10, ⟨Lc10, hQ10, l10, y10, z10⟩, st10⟩ := X6.virtualBack hx (y := (⟨"com/example/cardwright/cardwright/SplitMix64", "nextInt", "()I"⟩ : MethodName)) (z := (⟨"com/example/cardwright/cardwright/SplitMix64", "nextInt", "()I"⟩ : MethodName)) hown (mvT hZ (hw _ (List.mem_of_getElem? (i := 11) rfl))) (mvT hZ (hw _ (List.mem_of_getElem? (i := 12) rfl))) (notFace_of_selects (args := #[]) (mvT hZ (hw _ (List.mem_of_getElem? (i := 14) rfl)))) (mvT hZ (hw _ (List.mem_of_getElem? (i := 14) rfl))) (mvT hZ (hw _ (List.mem_of_getElem? (i := 13) rfl))) (by decide) (backOf (W := 0) (rm_ni l Z a0 hw [] a1 p0 T6.heap n0 Z3 g4 g5 o1) hZ (hw _ (List.mem_of_getElem? (i := 15) rfl)) (hw _ (List.mem_of_getElem? (i := 2) rfl)) (by decide) (by decide)) q11a q11c (g := (mkF m 10 #[.val (.long p0), .second, .val (.ref a1), .unset, .unset, .unset, .unset, .unset, .unset, .unset, .unset, .unset, .unset] [(.ref a1)])) rfl (by rw [hml]; rfl) (Steps.refl _) (argsL := []) (rest := []) (lenOf pd_2 rfl) rfl (by show 2 * 0 + _ ≤ _; exact Nat.le_of_eq rfl) (hb hby at_10) (fun _ _ => ⟨rfl, rfl, (by decide : 1 + 0 ≤ _), (by decide : 1 + 0 ≤ _)⟩)
  dsimp only [Pt.U, Pt.locs, Pt.cells, Pt.slots] at X10 l10 y10 z10 st10 hQ10
  subst l10 y10 z10
  obtain ⟨rfl, Nq10, K7, g8, g9⟩ := hQ10
  have N10 := Fr.app N6 Nq10
  have Z7 : n0 ≤ T10.heap.size := (Nat.le_trans Z3 K7.1)
  refine own_tr (T' := T10) (g' := (mkF m 13 #[.val (.long p0), .second, .val (.ref a1), .unset, .unset, .unset, .unset, .unset, .unset, .unset, .unset, .unset, .unset] [(.int (own_m32 (p0 + ((-7046029254386353131) : Int64))))])) st10 ?_
  refine own_step (T' := T10) (g' := (mkF m 14 #[.val (.long p0), .second, .val (.ref a1), .val (.int (own_m32 (p0 + ((-7046029254386353131) : Int64)))), .unset, .unset, .unset, .unset, .unset, .unset, .unset, .unset, .unset] [])) (fun t k => XS.istoreN X10.here hx rfl (hb hby at_13) rfl (l' := #[.val (.long p0), .second, .val (.ref a1), .val (.int (own_m32 (p0 + ((-7046029254386353131) : Int64)))), .unset, .unset, .unset, .unset, .unset, .unset, .unset, .unset, .unset]) rfl k) ?_
  refine own_step (T' := T10) (g' := (mkF m 15 #[.val (.long p0), .second, .val (.ref a1), .val (.int (own_m32 (p0 + ((-7046029254386353131) : Int64)))), .unset, .unset, .unset, .unset, .unset, .unset, .unset, .unset, .unset] [(.ref a1)])) (fun t k => XS.aloadN X10.here hx rfl (hb hby at_14) rfl rfl k) ?_
  obtain ⟨cq16, kq16, q16a, q16b, q16c⟩ := isOf hZ rfl g8
  obtain ⟨_, _, ⟨T15, L15, k15, n15⟩, -, X15, ⟨Lc15, hQ15, l15, y15, z15⟩, st15⟩ := X10.virtualBack hx (y := (⟨"com/example/cardwright/cardwright/SplitMix64", "nextInt", "()I"⟩ : MethodName)) (z := (⟨"com/example/cardwright/cardwright/SplitMix64", "nextInt", "()I"⟩ : MethodName)) hown (mvT hZ (hw _ (List.mem_of_getElem? (i := 11) rfl))) (mvT hZ (hw _ (List.mem_of_getElem? (i := 12) rfl))) (notFace_of_selects (args := #[]) (mvT hZ (hw _ (List.mem_of_getElem? (i := 14) rfl)))) (mvT hZ (hw _ (List.mem_of_getElem? (i := 14) rfl))) (mvT hZ (hw _ (List.mem_of_getElem? (i := 13) rfl))) (by decide) (backOf (W := 0) (rm_ni l Z a0 hw [] a1 (p0 + ((-7046029254386353131) : Int64)) T10.heap n0 Z7 g8 g9 o1) hZ (hw _ (List.mem_of_getElem? (i := 15) rfl)) (hw _ (List.mem_of_getElem? (i := 2) rfl)) (by decide) (by decide)) q16a q16c (g := (mkF m 15 #[.val (.long p0), .second, .val (.ref a1), .val (.int (own_m32 (p0 + ((-7046029254386353131) : Int64)))), .unset, .unset, .unset, .unset, .unset, .unset, .unset, .unset, .unset] [(.ref a1)])) rfl (by rw [hml]; rfl) (Steps.refl _) (argsL := []) (rest := []) (lenOf pd_2 rfl) rfl (by show 2 * 0 + _ ≤ _; exact Nat.le_of_eq rfl) (hb hby at_15) (fun _ _ => ⟨rfl, rfl, (by decide : 1 + 0 ≤ _), (by decide : 1 + 0 ≤ _)⟩)
  dsimp only [Pt.U, Pt.locs, Pt.cells, Pt.slots] at X15 l15 y15 z15 st15 hQ15
  subst l15 y15 z15
  obtain ⟨rfl, Nq15, K12, g13, g14⟩ := hQ15
  have N15 := Fr.app N10 Nq15
  have Z12 : n0 ≤ T15.heap.size := (Nat.le_trans Z7 K12.1)
  refine own_tr (T' := T15) (g' := (mkF m 18 #[.val (.long p0), .second, .val (.ref a1), .val (.int (own_m32 (p0 + ((-7046029254386353131) : Int64)))), .unset, .unset, .unset, .unset, .unset, .unset, .unset, .unset, .unset] [(.int (own_m32 ((p0 + ((-7046029254386353131) : Int64)) + ((-7046029254386353131) : Int64))))])) st15 ?_
  refine own_step (T' := T15) (g' := (mkF m 20 #[.val (.long p0), .second, .val (.ref a1), .val (.int (own_m32 (p0 + ((-7046029254386353131) : Int64)))), .val (.int (own_m32 ((p0 + ((-7046029254386353131) : Int64)) + ((-7046029254386353131) : Int64)))), .unset, .unset, .unset, .unset, .unset, .unset, .unset, .unset] [])) (fun t k => XS.istore X15.here hx rfl (hb hby at_18) rfl (l' := #[.val (.long p0), .second, .val (.ref a1), .val (.int (own_m32 (p0 + ((-7046029254386353131) : Int64)))), .val (.int (own_m32 ((p0 + ((-7046029254386353131) : Int64)) + ((-7046029254386353131) : Int64)))), .unset, .unset, .unset, .unset, .unset, .unset, .unset, .unset]) rfl k) ?_
  refine own_step (T' := T15) (g' := (mkF m 21 #[.val (.long p0), .second, .val (.ref a1), .val (.int (own_m32 (p0 + ((-7046029254386353131) : Int64)))), .val (.int (own_m32 ((p0 + ((-7046029254386353131) : Int64)) + ((-7046029254386353131) : Int64)))), .unset, .unset, .unset, .unset, .unset, .unset, .unset, .unset] [(.ref a1)])) (fun t k => XS.aloadN X15.here hx rfl (hb hby at_20) rfl rfl k) ?_
  obtain ⟨cq21, kq21, q21a, q21b, q21c⟩ := isOf hZ rfl g13
  obtain ⟨_, _, ⟨T20, L20, k20, n20⟩, -, X20, ⟨Lc20, hQ20, l20, y20, z20⟩, st20⟩ := X15.virtualBack hx (y := (⟨"com/example/cardwright/cardwright/SplitMix64", "nextLong", "()J"⟩ : MethodName)) (z := (⟨"com/example/cardwright/cardwright/SplitMix64", "nextLong", "()J"⟩ : MethodName)) hown (mvT hZ (hw _ (List.mem_of_getElem? (i := 19) rfl))) (mvT hZ (hw _ (List.mem_of_getElem? (i := 20) rfl))) (notFace_of_selects (args := #[]) (mvT hZ (hw _ (List.mem_of_getElem? (i := 22) rfl)))) (mvT hZ (hw _ (List.mem_of_getElem? (i := 22) rfl))) (mvT hZ (hw _ (List.mem_of_getElem? (i := 21) rfl))) (by decide) (backOf (W := 0) (rm_nl l Z a0 hw [] a1 ((p0 + ((-7046029254386353131) : Int64)) + ((-7046029254386353131) : Int64)) T15.heap n0 Z12 g13 g14 o1) hZ (hw _ (List.mem_of_getElem? (i := 23) rfl)) (hw _ (List.mem_of_getElem? (i := 2) rfl)) (by decide) (by decide)) q21a q21c (g := (mkF m 21 #[.val (.long p0), .second, .val (.ref a1), .val (.int (own_m32 (p0 + ((-7046029254386353131) : Int64)))), .val (.int (own_m32 ((p0 + ((-7046029254386353131) : Int64)) + ((-7046029254386353131) : Int64)))), .unset, .unset, .unset, .unset, .unset, .unset, .unset, .unset] [(.ref a1)])) rfl (by rw [hml]; rfl) (Steps.refl _) (argsL := []) (rest := []) (lenOf pd_3 rfl) rfl (by show 2 * 0 + _ ≤ _; exact Nat.le_of_eq rfl) (hb hby at_21) (fun _ _ => ⟨rfl, rfl, (by decide : 1 + 0 ≤ _), (by decide : 1 + 0 ≤ _)⟩)
  dsimp only [Pt.U, Pt.locs, Pt.cells, Pt.slots] at X20 l20 y20 z20 st20 hQ20
  subst l20 y20 z20
  obtain ⟨rfl, Nq20, K17, g18, g19⟩ := hQ20
  have N20 := Fr.app N15 Nq20
  have Z17 : n0 ≤ T20.heap.size := (Nat.le_trans Z12 K17.1)
  refine own_tr (T' := T20) (g' := (mkF m 24 #[.val (.long p0), .second, .val (.ref a1), .val (.int (own_m32 (p0 + ((-7046029254386353131) : Int64)))), .val (.int (own_m32 ((p0 + ((-7046029254386353131) : Int64)) + ((-7046029254386353131) : Int64)))), .unset, .unset, .unset, .unset, .unset, .unset, .unset, .unset] [(.long (own_m64 (((p0 + ((-7046029254386353131) : Int64)) + ((-7046029254386353131) : Int64)) + ((-7046029254386353131) : Int64))))])) st20 ?_
  refine own_step (T' := T20) (g' := (mkF m 26 #[.val (.long p0), .second, .val (.ref a1), .val (.int (own_m32 (p0 + ((-7046029254386353131) : Int64)))), .val (.int (own_m32 ((p0 + ((-7046029254386353131) : Int64)) + ((-7046029254386353131) : Int64)))), .val (.long (own_m64 (((p0 + ((-7046029254386353131) : Int64)) + ((-7046029254386353131) : Int64)) + ((-7046029254386353131) : Int64)))), .second, .unset, .unset, .unset, .unset, .unset, .unset] [])) (fun t k => XS.lstore X20.here hx rfl (hb hby at_24) rfl (l' := #[.val (.long p0), .second, .val (.ref a1), .val (.int (own_m32 (p0 + ((-7046029254386353131) : Int64)))), .val (.int (own_m32 ((p0 + ((-7046029254386353131) : Int64)) + ((-7046029254386353131) : Int64)))), .val (.long (own_m64 (((p0 + ((-7046029254386353131) : Int64)) + ((-7046029254386353131) : Int64)) + ((-7046029254386353131) : Int64)))), .second, .unset, .unset, .unset, .unset, .unset, .unset]) rfl k) ?_
  obtain ⟨T22, h22, X22, e22, E22, A22, D22, -, st22⟩ := newO X20 hx hZ hown (hw _ (List.mem_of_getElem? (i := 0) rfl)) (hw _ (List.mem_of_getElem? (i := 1) rfl)) (hw _ (List.mem_of_getElem? (i := 2) rfl)) rfl (g := (mkF m 26 #[.val (.long p0), .second, .val (.ref a1), .val (.int (own_m32 (p0 + ((-7046029254386353131) : Int64)))), .val (.int (own_m32 ((p0 + ((-7046029254386353131) : Int64)) + ((-7046029254386353131) : Int64)))), .val (.long (own_m64 (((p0 + ((-7046029254386353131) : Int64)) + ((-7046029254386353131) : Int64)) + ((-7046029254386353131) : Int64)))), .second, .unset, .unset, .unset, .unset, .unset, .unset] [])) rfl (hb hby at_26) (by decide : 1 + 1 ≤ _) (by decide : 1 + 1 ≤ _)
  obtain ⟨a22, g_a22⟩ : ∃ z, z = T20.heap.size := ⟨_, rfl⟩
  rw [← g_a22] at A22 D22 st22
  have g23 : Exa Z h22 a1 "com/example/cardwright/cardwright/SplitMix64" := g18.ext E22
  have g24 : Fld Z h22 a1 "com/example/cardwright/cardwright/SplitMix64" "state" "J" (.long (((p0 + ((-7046029254386353131) : Int64)) + ((-7046029254386353131) : Int64)) + ((-7046029254386353131) : Int64))) := g19.ext E22
  have ne22_1 : a1 ≠ a22 := Nat.ne_of_lt (by rw [g_a22]; exact g18.lt)
  have o22 : n0 ≤ a22 := (Nat.le_trans Z17 (Nat.le_of_eq g_a22.symm))
  have Z22 : n0 ≤ h22.size := (Nat.le_trans Z17 E22.1)
  have g25 : Fld Z h22 a22 "com/example/cardwright/cardwright/SplitMix64" "state" "J" (.long (0 : Int64)) := D22 (Or.inl (hw _ (List.mem_of_getElem? (i := 10) rfl))) (ty := .long) (by decide)
  refine own_step (T' := T22) (g' := (mkF m 29 #[.val (.long p0), .second, .val (.ref a1), .val (.int (own_m32 (p0 + ((-7046029254386353131) : Int64)))), .val (.int (own_m32 ((p0 + ((-7046029254386353131) : Int64)) + ((-7046029254386353131) : Int64)))), .val (.long (own_m64 (((p0 + ((-7046029254386353131) : Int64)) + ((-7046029254386353131) : Int64)) + ((-7046029254386353131) : Int64)))), .second, .unset, .unset, .unset, .unset, .unset, .unset] [(.ref a22)])) st22 ?_
  refine own_step (T' := T22) (g' := (mkF m 30 #[.val (.long p0), .second, .val (.ref a1), .val (.int (own_m32 (p0 + ((-7046029254386353131) : Int64)))), .val (.int (own_m32 ((p0 + ((-7046029254386353131) : Int64)) + ((-7046029254386353131) : Int64)))), .val (.long (own_m64 (((p0 + ((-7046029254386353131) : Int64)) + ((-7046029254386353131) : Int64)) + ((-7046029254386353131) : Int64)))), .second, .unset, .unset, .unset, .unset, .unset, .unset] [(.ref a22), (.ref a22)])) (fun t k => XS.dup X22.here hx rfl (hb hby at_29) rfl rfl k) ?_
  refine own_step (T' := T22) (g' := (mkF m 31 #[.val (.long p0), .second, .val (.ref a1), .val (.int (own_m32 (p0 + ((-7046029254386353131) : Int64)))), .val (.int (own_m32 ((p0 + ((-7046029254386353131) : Int64)) + ((-7046029254386353131) : Int64)))), .val (.long (own_m64 (((p0 + ((-7046029254386353131) : Int64)) + ((-7046029254386353131) : Int64)) + ((-7046029254386353131) : Int64)))), .second, .unset, .unset, .unset, .unset, .unset, .unset] [(.long p0), (.ref a22), (.ref a22)])) (fun t k => XS.lloadN X22.here hx rfl (hb hby at_30) rfl k) ?_
  refine own_step (T' := T22) (g' := (mkF m 34 #[.val (.long p0), .second, .val (.ref a1), .val (.int (own_m32 (p0 + ((-7046029254386353131) : Int64)))), .val (.int (own_m32 ((p0 + ((-7046029254386353131) : Int64)) + ((-7046029254386353131) : Int64)))), .val (.long (own_m64 (((p0 + ((-7046029254386353131) : Int64)) + ((-7046029254386353131) : Int64)) + ((-7046029254386353131) : Int64)))), .second, .unset, .unset, .unset, .unset, .unset, .unset] [(.long ((-7046029254386353131) : Int64)), (.long p0), (.ref a22), (.ref a22)])) (X22.ldc2Long hx hown (mvT hZ (hw _ (List.mem_of_getElem? (i := 29) rfl))) (g := (mkF m 31 #[.val (.long p0), .second, .val (.ref a1), .val (.int (own_m32 (p0 + ((-7046029254386353131) : Int64)))), .val (.int (own_m32 ((p0 + ((-7046029254386353131) : Int64)) + ((-7046029254386353131) : Int64)))), .val (.long (own_m64 (((p0 + ((-7046029254386353131) : Int64)) + ((-7046029254386353131) : Int64)) + ((-7046029254386353131) : Int64)))), .second, .unset, .unset, .unset, .unset, .unset, .unset] [(.long p0), (.ref a22), (.ref a22)])) rfl (hb hby at_31)) ?_
  refine own_step (T' := T22) (g' := (mkF m 35 #[.val (.long p0), .second, .val (.ref a1), .val (.int (own_m32 (p0 + ((-7046029254386353131) : Int64)))), .val (.int (own_m32 ((p0 + ((-7046029254386353131) : Int64)) + ((-7046029254386353131) : Int64)))), .val (.long (own_m64 (((p0 + ((-7046029254386353131) : Int64)) + ((-7046029254386353131) : Int64)) + ((-7046029254386353131) : Int64)))), .second, .unset, .unset, .unset, .unset, .unset, .unset] [(.long (p0 + ((-7046029254386353131) : Int64))), (.ref a22), (.ref a22)])) (fun t k => XS.ladd X22.here hx rfl (hb hby at_34) rfl k) ?_
  refine own_step (T' := T22) (g' := (mkF m 38 #[.val (.long p0), .second, .val (.ref a1), .val (.int (own_m32 (p0 + ((-7046029254386353131) : Int64)))), .val (.int (own_m32 ((p0 + ((-7046029254386353131) : Int64)) + ((-7046029254386353131) : Int64)))), .val (.long (own_m64 (((p0 + ((-7046029254386353131) : Int64)) + ((-7046029254386353131) : Int64)) + ((-7046029254386353131) : Int64)))), .second, .unset, .unset, .unset, .unset, .unset, .unset] [(.long ((-7046029254386353131) : Int64)), (.long (p0 + ((-7046029254386353131) : Int64))), (.ref a22), (.ref a22)])) (X22.ldc2Long hx hown (mvT hZ (hw _ (List.mem_of_getElem? (i := 29) rfl))) (g := (mkF m 35 #[.val (.long p0), .second, .val (.ref a1), .val (.int (own_m32 (p0 + ((-7046029254386353131) : Int64)))), .val (.int (own_m32 ((p0 + ((-7046029254386353131) : Int64)) + ((-7046029254386353131) : Int64)))), .val (.long (own_m64 (((p0 + ((-7046029254386353131) : Int64)) + ((-7046029254386353131) : Int64)) + ((-7046029254386353131) : Int64)))), .second, .unset, .unset, .unset, .unset, .unset, .unset] [(.long (p0 + ((-7046029254386353131) : Int64))), (.ref a22), (.ref a22)])) rfl (hb hby at_35)) ?_
  refine own_step (T' := T22) (g' := (mkF m 39 #[.val (.long p0), .second, .val (.ref a1), .val (.int (own_m32 (p0 + ((-7046029254386353131) : Int64)))), .val (.int (own_m32 ((p0 + ((-7046029254386353131) : Int64)) + ((-7046029254386353131) : Int64)))), .val (.long (own_m64 (((p0 + ((-7046029254386353131) : Int64)) + ((-7046029254386353131) : Int64)) + ((-7046029254386353131) : Int64)))), .second, .unset, .unset, .unset, .unset, .unset, .unset] [(.long ((p0 + ((-7046029254386353131) : Int64)) + ((-7046029254386353131) : Int64))), (.ref a22), (.ref a22)])) (fun t k => XS.ladd X22.here hx rfl (hb hby at_38) rfl k) ?_
  obtain ⟨_, _, ⟨T29, L29, k29, n29⟩, -, X29, ⟨Lc29, hQ29, l29, y29, z29⟩, st29⟩ := X22.specialBack hx (y := (⟨"com/example/cardwright/cardwright/SplitMix64", "<init>", "(J)V"⟩ : MethodName)) rfl hown (mvT hZ (hw _ (List.mem_of_getElem? (i := 3) rfl))) (mvT hZ (hw _ (List.mem_of_getElem? (i := 4) rfl))) (mvT hZ (hw _ (List.mem_of_getElem? (i := 5) rfl))) (by decide) (backOf (W := 1) (rm_init l Z a0 hw [] a22 ((p0 + ((-7046029254386353131) : Int64)) + ((-7046029254386353131) : Int64)) _ h22 n0 Z22 A22 g25 o22) hZ (hw _ (List.mem_of_getElem? (i := 5) rfl)) (hw _ (List.mem_of_getElem? (i := 2) rfl)) (by decide) (by decide)) (g := (mkF m 39 #[.val (.long p0), .second, .val (.ref a1), .val (.int (own_m32 (p0 + ((-7046029254386353131) : Int64)))), .val (.int (own_m32 ((p0 + ((-7046029254386353131) : Int64)) + ((-7046029254386353131) : Int64)))), .val (.long (own_m64 (((p0 + ((-7046029254386353131) : Int64)) + ((-7046029254386353131) : Int64)) + ((-7046029254386353131) : Int64)))), .second, .unset, .unset, .unset, .unset, .unset, .unset] [(.long ((p0 + ((-7046029254386353131) : Int64)) + ((-7046029254386353131) : Int64))), (.ref a22), (.ref a22)])) rfl (by rw [hml]; rfl) (Steps.refl _) (a := a22) (argsL := [(.long ((p0 + ((-7046029254386353131) : Int64)) + ((-7046029254386353131) : Int64)))]) (rest := [(.ref a22)]) (lenOf pd_1 rfl) rfl (by show 2 * 0 + _ ≤ _; exact Nat.le_of_eq rfl) (hb hby at_39) (fun _ _ => ⟨rfl, e22, (by decide : 2 + 0 ≤ _), (by decide : 2 + 0 ≤ _)⟩)
  dsimp only [Pt.U, Pt.locs, Pt.cells, Pt.slots] at X29 l29 y29 z29 st29 hQ29
  subst l29 y29 z29
  obtain ⟨rfl, Nq29, K26, g27, g28⟩ := hQ29
  have N29 := Fr.app N20 Nq29
  have g30 : Exa Z T29.heap a1 "com/example/cardwright/cardwright/SplitMix64" := g23.keep K26
  have g31 : Fld Z T29.heap a1 "com/example/cardwright/cardwright/SplitMix64" "state" "J" (.long (((p0 + ((-7046029254386353131) : Int64)) + ((-7046029254386353131) : Int64)) + ((-7046029254386353131) : Int64))) := g24.keep K26 (ninS ne22_1 nin0)
  have Z26 : n0 ≤ T29.heap.size := (Nat.le_trans Z22 K26.1)
  refine own_tr (T' := T29) (g' := (mkF m 42 #[.val (.long p0), .second, .val (.ref a1), .val (.int (own_m32 (p0 + ((-7046029254386353131) : Int64)))), .val (.int (own_m32 ((p0 + ((-7046029254386353131) : Int64)) + ((-7046029254386353131) : Int64)))), .val (.long (own_m64 (((p0 + ((-7046029254386353131) : Int64)) + ((-7046029254386353131) : Int64)) + ((-7046029254386353131) : Int64)))), .second, .unset, .unset, .unset, .unset, .unset, .unset] [(.ref a22)])) st29 ?_
  refine own_step (T' := T29) (g' := (mkF m 44 #[.val (.long p0), .second, .val (.ref a1), .val (.int (own_m32 (p0 + ((-7046029254386353131) : Int64)))), .val (.int (own_m32 ((p0 + ((-7046029254386353131) : Int64)) + ((-7046029254386353131) : Int64)))), .val (.long (own_m64 (((p0 + ((-7046029254386353131) : Int64)) + ((-7046029254386353131) : Int64)) + ((-7046029254386353131) : Int64)))), .second, .val (.ref a22), .unset, .unset, .unset, .unset, .unset] [])) (fun t k => XS.astore X29.here hx rfl (hb hby at_42) rfl rfl (l' := #[.val (.long p0), .second, .val (.ref a1), .val (.int (own_m32 (p0 + ((-7046029254386353131) : Int64)))), .val (.int (own_m32 ((p0 + ((-7046029254386353131) : Int64)) + ((-7046029254386353131) : Int64)))), .val (.long (own_m64 (((p0 + ((-7046029254386353131) : Int64)) + ((-7046029254386353131) : Int64)) + ((-7046029254386353131) : Int64)))), .second, .val (.ref a22), .unset, .unset, .unset, .unset, .unset]) rfl k) ?_
  refine own_step (T' := T29) (g' := (mkF m 46 #[.val (.long p0), .second, .val (.ref a1), .val (.int (own_m32 (p0 + ((-7046029254386353131) : Int64)))), .val (.int (own_m32 ((p0 + ((-7046029254386353131) : Int64)) + ((-7046029254386353131) : Int64)))), .val (.long (own_m64 (((p0 + ((-7046029254386353131) : Int64)) + ((-7046029254386353131) : Int64)) + ((-7046029254386353131) : Int64)))), .second, .val (.ref a22), .unset, .unset, .unset, .unset, .unset] [(.ref a22)])) (fun t k => XS.aload X29.here hx rfl (hb hby at_44) rfl rfl k) ?_
  obtain ⟨cq36, kq36, q36a, q36b, q36c⟩ := isOf hZ rfl g27
  obtain ⟨_, _, ⟨T35, L35, k35, n35⟩, -, X35, ⟨Lc35, hQ35, l35, y35, z35⟩, st35⟩ := X29.virtualBack hx (y := (⟨"com/example/cardwright/cardwright/SplitMix64", "nextLong", "()J"⟩ : MethodName)) (z := (⟨"com/example/cardwright/cardwright/SplitMix64", "nextLong", "()J"⟩ : MethodName)) hown (mvT hZ (hw _ (List.mem_of_getElem? (i := 19) rfl))) (mvT hZ (hw _ (List.mem_of_getElem? (i := 20) rfl))) (notFace_of_selects (args := #[]) (mvT hZ (hw _ (List.mem_of_getElem? (i := 22) rfl)))) (mvT hZ (hw _ (List.mem_of_getElem? (i := 22) rfl))) (mvT hZ (hw _ (List.mem_of_getElem? (i := 21) rfl))) (by decide) (backOf (W := 0) (rm_nl l Z a0 hw [] a22 ((p0 + ((-7046029254386353131) : Int64)) + ((-7046029254386353131) : Int64)) T29.heap n0 Z26 g27 g28 o22) hZ (hw _ (List.mem_of_getElem? (i := 23) rfl)) (hw _ (List.mem_of_getElem? (i := 2) rfl)) (by decide) (by decide)) q36a q36c (g := (mkF m 46 #[.val (.long p0), .second, .val (.ref a1), .val (.int (own_m32 (p0 + ((-7046029254386353131) : Int64)))), .val (.int (own_m32 ((p0 + ((-7046029254386353131) : Int64)) + ((-7046029254386353131) : Int64)))), .val (.long (own_m64 (((p0 + ((-7046029254386353131) : Int64)) + ((-7046029254386353131) : Int64)) + ((-7046029254386353131) : Int64)))), .second, .val (.ref a22), .unset, .unset, .unset, .unset, .unset] [(.ref a22)])) rfl (by rw [hml]; rfl) (Steps.refl _) (argsL := []) (rest := []) (lenOf pd_3 rfl) rfl (by show 2 * 0 + _ ≤ _; exact Nat.le_of_eq rfl) (hb hby at_46) (fun _ _ => ⟨rfl, rfl, (by decide : 2 + 0 ≤ _), (by decide : 2 + 0 ≤ _)⟩)
  dsimp only [Pt.U, Pt.locs, Pt.cells, Pt.slots] at X35 l35 y35 z35 st35 hQ35
  subst l35 y35 z35
  obtain ⟨rfl, Nq35, K32, g33, g34⟩ := hQ35
  have N35 := Fr.app N29 Nq35
  have g37 : Exa Z T35.heap a1 "com/example/cardwright/cardwright/SplitMix64" := g30.keep K32
  have g38 : Fld Z T35.heap a1 "com/example/cardwright/cardwright/SplitMix64" "state" "J" (.long (((p0 + ((-7046029254386353131) : Int64)) + ((-7046029254386353131) : Int64)) + ((-7046029254386353131) : Int64))) := g31.keep K32 (ninS ne22_1 nin0)
  have Z32 : n0 ≤ T35.heap.size := (Nat.le_trans Z26 K32.1)
  refine own_tr (T' := T35) (g' := (mkF m 49 #[.val (.long p0), .second, .val (.ref a1), .val (.int (own_m32 (p0 + ((-7046029254386353131) : Int64)))), .val (.int (own_m32 ((p0 + ((-7046029254386353131) : Int64)) + ((-7046029254386353131) : Int64)))), .val (.long (own_m64 (((p0 + ((-7046029254386353131) : Int64)) + ((-7046029254386353131) : Int64)) + ((-7046029254386353131) : Int64)))), .second, .val (.ref a22), .unset, .unset, .unset, .unset, .unset] [(.long (own_m64 (((p0 + ((-7046029254386353131) : Int64)) + ((-7046029254386353131) : Int64)) + ((-7046029254386353131) : Int64))))])) st35 ?_
  refine own_step (T' := T35) (g' := (mkF m 51 #[.val (.long p0), .second, .val (.ref a1), .val (.int (own_m32 (p0 + ((-7046029254386353131) : Int64)))), .val (.int (own_m32 ((p0 + ((-7046029254386353131) : Int64)) + ((-7046029254386353131) : Int64)))), .val (.long (own_m64 (((p0 + ((-7046029254386353131) : Int64)) + ((-7046029254386353131) : Int64)) + ((-7046029254386353131) : Int64)))), .second, .val (.ref a22), .val (.long (own_m64 (((p0 + ((-7046029254386353131) : Int64)) + ((-7046029254386353131) : Int64)) + ((-7046029254386353131) : Int64)))), .second, .unset, .unset, .unset] [])) (fun t k => XS.lstore X35.here hx rfl (hb hby at_49) rfl (l' := #[.val (.long p0), .second, .val (.ref a1), .val (.int (own_m32 (p0 + ((-7046029254386353131) : Int64)))), .val (.int (own_m32 ((p0 + ((-7046029254386353131) : Int64)) + ((-7046029254386353131) : Int64)))), .val (.long (own_m64 (((p0 + ((-7046029254386353131) : Int64)) + ((-7046029254386353131) : Int64)) + ((-7046029254386353131) : Int64)))), .second, .val (.ref a22), .val (.long (own_m64 (((p0 + ((-7046029254386353131) : Int64)) + ((-7046029254386353131) : Int64)) + ((-7046029254386353131) : Int64)))), .second, .unset, .unset, .unset]) rfl k) ?_
  refine own_step (T' := T35) (g' := (mkF m 52 #[.val (.long p0), .second, .val (.ref a1), .val (.int (own_m32 (p0 + ((-7046029254386353131) : Int64)))), .val (.int (own_m32 ((p0 + ((-7046029254386353131) : Int64)) + ((-7046029254386353131) : Int64)))), .val (.long (own_m64 (((p0 + ((-7046029254386353131) : Int64)) + ((-7046029254386353131) : Int64)) + ((-7046029254386353131) : Int64)))), .second, .val (.ref a22), .val (.long (own_m64 (((p0 + ((-7046029254386353131) : Int64)) + ((-7046029254386353131) : Int64)) + ((-7046029254386353131) : Int64)))), .second, .unset, .unset, .unset] [(.int (own_m32 (p0 + ((-7046029254386353131) : Int64))))])) (fun t k => XS.iloadN X35.here hx rfl (hb hby at_51) rfl k) ?_
  refine own_step (T' := T35) (g' := (mkF m 53 #[.val (.long p0), .second, .val (.ref a1), .val (.int (own_m32 (p0 + ((-7046029254386353131) : Int64)))), .val (.int (own_m32 ((p0 + ((-7046029254386353131) : Int64)) + ((-7046029254386353131) : Int64)))), .val (.long (own_m64 (((p0 + ((-7046029254386353131) : Int64)) + ((-7046029254386353131) : Int64)) + ((-7046029254386353131) : Int64)))), .second, .val (.ref a22), .val (.long (own_m64 (((p0 + ((-7046029254386353131) : Int64)) + ((-7046029254386353131) : Int64)) + ((-7046029254386353131) : Int64)))), .second, .unset, .unset, .unset] [(.long p0), (.int (own_m32 (p0 + ((-7046029254386353131) : Int64))))])) (fun t k => XS.lloadN X35.here hx rfl (hb hby at_52) rfl k) ?_
  refine own_step (T' := T35) (g' := (mkF m 56 #[.val (.long p0), .second, .val (.ref a1), .val (.int (own_m32 (p0 + ((-7046029254386353131) : Int64)))), .val (.int (own_m32 ((p0 + ((-7046029254386353131) : Int64)) + ((-7046029254386353131) : Int64)))), .val (.long (own_m64 (((p0 + ((-7046029254386353131) : Int64)) + ((-7046029254386353131) : Int64)) + ((-7046029254386353131) : Int64)))), .second, .val (.ref a22), .val (.long (own_m64 (((p0 + ((-7046029254386353131) : Int64)) + ((-7046029254386353131) : Int64)) + ((-7046029254386353131) : Int64)))), .second, .unset, .unset, .unset] [(.long ((-7046029254386353131) : Int64)), (.long p0), (.int (own_m32 (p0 + ((-7046029254386353131) : Int64))))])) (X35.ldc2Long hx hown (mvT hZ (hw _ (List.mem_of_getElem? (i := 29) rfl))) (g := (mkF m 53 #[.val (.long p0), .second, .val (.ref a1), .val (.int (own_m32 (p0 + ((-7046029254386353131) : Int64)))), .val (.int (own_m32 ((p0 + ((-7046029254386353131) : Int64)) + ((-7046029254386353131) : Int64)))), .val (.long (own_m64 (((p0 + ((-7046029254386353131) : Int64)) + ((-7046029254386353131) : Int64)) + ((-7046029254386353131) : Int64)))), .second, .val (.ref a22), .val (.long (own_m64 (((p0 + ((-7046029254386353131) : Int64)) + ((-7046029254386353131) : Int64)) + ((-7046029254386353131) : Int64)))), .second, .unset, .unset, .unset] [(.long p0), (.int (own_m32 (p0 + ((-7046029254386353131) : Int64))))])) rfl (hb hby at_53)) ?_
  refine own_step (T' := T35) (g' := (mkF m 57 #[.val (.long p0), .second, .val (.ref a1), .val (.int (own_m32 (p0 + ((-7046029254386353131) : Int64)))), .val (.int (own_m32 ((p0 + ((-7046029254386353131) : Int64)) + ((-7046029254386353131) : Int64)))), .val (.long (own_m64 (((p0 + ((-7046029254386353131) : Int64)) + ((-7046029254386353131) : Int64)) + ((-7046029254386353131) : Int64)))), .second, .val (.ref a22), .val (.long (own_m64 (((p0 + ((-7046029254386353131) : Int64)) + ((-7046029254386353131) : Int64)) + ((-7046029254386353131) : Int64)))), .second, .unset, .unset, .unset] [(.long (p0 + ((-7046029254386353131) : Int64))), (.int (own_m32 (p0 + ((-7046029254386353131) : Int64))))])) (fun t k => XS.ladd X35.here hx rfl (hb hby at_56) rfl k) ?_
  obtain ⟨_, _, ⟨T40, L40, k40, n40⟩, -, X40, ⟨Lc40, hQ40, l40, y40, z40⟩, st40⟩ := Jvm.LawKit.callS X35 hx (y := (⟨"com/example/cardwright/cardwright/SplitMix64NextIntPinLaw", "mix32", "(J)I"⟩ : MethodName)) hown (mvT hZ (hw _ (List.mem_of_getElem? (i := 30) rfl))) (mvT hZ (hw _ (List.mem_of_getElem? (i := 31) rfl))) (mvT hZ (hw _ (List.mem_of_getElem? (i := 32) rfl))) (mvT hZ (hw _ (List.mem_of_getElem? (i := 33) rfl))) (by decide) (backOf (W := 1) (rm_m32 l Z a0 hw [] (p0 + ((-7046029254386353131) : Int64)) T35.heap n0 Z32 ) hZ (hw _ (List.mem_of_getElem? (i := 33) rfl)) (hw _ (List.mem_of_getElem? (i := 32) rfl)) (by decide) (by decide)) (g := (mkF m 57 #[.val (.long p0), .second, .val (.ref a1), .val (.int (own_m32 (p0 + ((-7046029254386353131) : Int64)))), .val (.int (own_m32 ((p0 + ((-7046029254386353131) : Int64)) + ((-7046029254386353131) : Int64)))), .val (.long (own_m64 (((p0 + ((-7046029254386353131) : Int64)) + ((-7046029254386353131) : Int64)) + ((-7046029254386353131) : Int64)))), .second, .val (.ref a22), .val (.long (own_m64 (((p0 + ((-7046029254386353131) : Int64)) + ((-7046029254386353131) : Int64)) + ((-7046029254386353131) : Int64)))), .second, .unset, .unset, .unset] [(.long (p0 + ((-7046029254386353131) : Int64))), (.int (own_m32 (p0 + ((-7046029254386353131) : Int64))))])) rfl (by rw [hml]; rfl) (argsL := [(.long (p0 + ((-7046029254386353131) : Int64)))]) (rest := [(.int (own_m32 (p0 + ((-7046029254386353131) : Int64))))]) (lenOf pd_4 rfl) rfl (by show 2 * 0 + _ ≤ _; exact Nat.le_of_eq rfl) (hb hby at_57) (fun _ _ => ⟨rfl, rfl, (by decide : 2 + 0 ≤ _), (by decide : 2 + 0 ≤ _)⟩)
  dsimp only [Pt.U, Pt.locs, Pt.cells, Pt.slots] at X40 l40 y40 z40 st40 hQ40
  subst l40 y40 z40
  obtain ⟨rfl, Nq40, eq39⟩ := hQ40
  have N40 := Fr.app N35 Nq40
  refine own_step (T' := T40) (g' := (mkF m 60 #[.val (.long p0), .second, .val (.ref a1), .val (.int (own_m32 (p0 + ((-7046029254386353131) : Int64)))), .val (.int (own_m32 ((p0 + ((-7046029254386353131) : Int64)) + ((-7046029254386353131) : Int64)))), .val (.long (own_m64 (((p0 + ((-7046029254386353131) : Int64)) + ((-7046029254386353131) : Int64)) + ((-7046029254386353131) : Int64)))), .second, .val (.ref a22), .val (.long (own_m64 (((p0 + ((-7046029254386353131) : Int64)) + ((-7046029254386353131) : Int64)) + ((-7046029254386353131) : Int64)))), .second, .unset, .unset, .unset] [(.int (own_m32 (p0 + ((-7046029254386353131) : Int64)))), (.int (own_m32 (p0 + ((-7046029254386353131) : Int64))))])) st40 ?_
  refine own_step (T' := T40) (g' := (mkF m 63 #[.val (.long p0), .second, .val (.ref a1), .val (.int (own_m32 (p0 + ((-7046029254386353131) : Int64)))), .val (.int (own_m32 ((p0 + ((-7046029254386353131) : Int64)) + ((-7046029254386353131) : Int64)))), .val (.long (own_m64 (((p0 + ((-7046029254386353131) : Int64)) + ((-7046029254386353131) : Int64)) + ((-7046029254386353131) : Int64)))), .second, .val (.ref a22), .val (.long (own_m64 (((p0 + ((-7046029254386353131) : Int64)) + ((-7046029254386353131) : Int64)) + ((-7046029254386353131) : Int64)))), .second, .unset, .unset, .unset] [])) (fun t k => XS.icmpNo X40.here hx rfl (hb hby at_60) rfl (teq rfl).2 k) ?_
  refine own_step (T' := T40) (g' := (mkF m 64 #[.val (.long p0), .second, .val (.ref a1), .val (.int (own_m32 (p0 + ((-7046029254386353131) : Int64)))), .val (.int (own_m32 ((p0 + ((-7046029254386353131) : Int64)) + ((-7046029254386353131) : Int64)))), .val (.long (own_m64 (((p0 + ((-7046029254386353131) : Int64)) + ((-7046029254386353131) : Int64)) + ((-7046029254386353131) : Int64)))), .second, .val (.ref a22), .val (.long (own_m64 (((p0 + ((-7046029254386353131) : Int64)) + ((-7046029254386353131) : Int64)) + ((-7046029254386353131) : Int64)))), .second, .unset, .unset, .unset] [(.int (1 : Int32))])) (fun t k => XS.iconst X40.here hx rfl (hb hby at_63) k) ?_
  refine own_step (T' := T40) (g' := (mkF m 68 #[.val (.long p0), .second, .val (.ref a1), .val (.int (own_m32 (p0 + ((-7046029254386353131) : Int64)))), .val (.int (own_m32 ((p0 + ((-7046029254386353131) : Int64)) + ((-7046029254386353131) : Int64)))), .val (.long (own_m64 (((p0 + ((-7046029254386353131) : Int64)) + ((-7046029254386353131) : Int64)) + ((-7046029254386353131) : Int64)))), .second, .val (.ref a22), .val (.long (own_m64 (((p0 + ((-7046029254386353131) : Int64)) + ((-7046029254386353131) : Int64)) + ((-7046029254386353131) : Int64)))), .second, .unset, .unset, .unset] [(.int (1 : Int32))])) (fun t k => XS.goto X40.here hx rfl (pc0 := 64) (pc' := 68) rfl (hb hby at_64) (by decide) (by decide) k) ?_
  refine own_step (T' := T40) (g' := (mkF m 70 #[.val (.long p0), .second, .val (.ref a1), .val (.int (own_m32 (p0 + ((-7046029254386353131) : Int64)))), .val (.int (own_m32 ((p0 + ((-7046029254386353131) : Int64)) + ((-7046029254386353131) : Int64)))), .val (.long (own_m64 (((p0 + ((-7046029254386353131) : Int64)) + ((-7046029254386353131) : Int64)) + ((-7046029254386353131) : Int64)))), .second, .val (.ref a22), .val (.long (own_m64 (((p0 + ((-7046029254386353131) : Int64)) + ((-7046029254386353131) : Int64)) + ((-7046029254386353131) : Int64)))), .second, .val (.int (1 : Int32)), .unset, .unset] [])) (fun t k => XS.istore X40.here hx rfl (hb hby at_68) rfl (l' := #[.val (.long p0), .second, .val (.ref a1), .val (.int (own_m32 (p0 + ((-7046029254386353131) : Int64)))), .val (.int (own_m32 ((p0 + ((-7046029254386353131) : Int64)) + ((-7046029254386353131) : Int64)))), .val (.long (own_m64 (((p0 + ((-7046029254386353131) : Int64)) + ((-7046029254386353131) : Int64)) + ((-7046029254386353131) : Int64)))), .second, .val (.ref a22), .val (.long (own_m64 (((p0 + ((-7046029254386353131) : Int64)) + ((-7046029254386353131) : Int64)) + ((-7046029254386353131) : Int64)))), .second, .val (.int (1 : Int32)), .unset, .unset]) rfl k) ?_
  refine own_step (T' := T40) (g' := (mkF m 72 #[.val (.long p0), .second, .val (.ref a1), .val (.int (own_m32 (p0 + ((-7046029254386353131) : Int64)))), .val (.int (own_m32 ((p0 + ((-7046029254386353131) : Int64)) + ((-7046029254386353131) : Int64)))), .val (.long (own_m64 (((p0 + ((-7046029254386353131) : Int64)) + ((-7046029254386353131) : Int64)) + ((-7046029254386353131) : Int64)))), .second, .val (.ref a22), .val (.long (own_m64 (((p0 + ((-7046029254386353131) : Int64)) + ((-7046029254386353131) : Int64)) + ((-7046029254386353131) : Int64)))), .second, .val (.int (1 : Int32)), .unset, .unset] [(.int (own_m32 ((p0 + ((-7046029254386353131) : Int64)) + ((-7046029254386353131) : Int64))))])) (fun t k => XS.iload X40.here hx rfl (hb hby at_70) rfl k) ?_
  refine own_step (T' := T40) (g' := (mkF m 73 #[.val (.long p0), .second, .val (.ref a1), .val (.int (own_m32 (p0 + ((-7046029254386353131) : Int64)))), .val (.int (own_m32 ((p0 + ((-7046029254386353131) : Int64)) + ((-7046029254386353131) : Int64)))), .val (.long (own_m64 (((p0 + ((-7046029254386353131) : Int64)) + ((-7046029254386353131) : Int64)) + ((-7046029254386353131) : Int64)))), .second, .val (.ref a22), .val (.long (own_m64 (((p0 + ((-7046029254386353131) : Int64)) + ((-7046029254386353131) : Int64)) + ((-7046029254386353131) : Int64)))), .second, .val (.int (1 : Int32)), .unset, .unset] [(.long p0), (.int (own_m32 ((p0 + ((-7046029254386353131) : Int64)) + ((-7046029254386353131) : Int64))))])) (fun t k => XS.lloadN X40.here hx rfl (hb hby at_72) rfl k) ?_
  refine own_step (T' := T40) (g' := (mkF m 76 #[.val (.long p0), .second, .val (.ref a1), .val (.int (own_m32 (p0 + ((-7046029254386353131) : Int64)))), .val (.int (own_m32 ((p0 + ((-7046029254386353131) : Int64)) + ((-7046029254386353131) : Int64)))), .val (.long (own_m64 (((p0 + ((-7046029254386353131) : Int64)) + ((-7046029254386353131) : Int64)) + ((-7046029254386353131) : Int64)))), .second, .val (.ref a22), .val (.long (own_m64 (((p0 + ((-7046029254386353131) : Int64)) + ((-7046029254386353131) : Int64)) + ((-7046029254386353131) : Int64)))), .second, .val (.int (1 : Int32)), .unset, .unset] [(.long ((-7046029254386353131) : Int64)), (.long p0), (.int (own_m32 ((p0 + ((-7046029254386353131) : Int64)) + ((-7046029254386353131) : Int64))))])) (X40.ldc2Long hx hown (mvT hZ (hw _ (List.mem_of_getElem? (i := 29) rfl))) (g := (mkF m 73 #[.val (.long p0), .second, .val (.ref a1), .val (.int (own_m32 (p0 + ((-7046029254386353131) : Int64)))), .val (.int (own_m32 ((p0 + ((-7046029254386353131) : Int64)) + ((-7046029254386353131) : Int64)))), .val (.long (own_m64 (((p0 + ((-7046029254386353131) : Int64)) + ((-7046029254386353131) : Int64)) + ((-7046029254386353131) : Int64)))), .second, .val (.ref a22), .val (.long (own_m64 (((p0 + ((-7046029254386353131) : Int64)) + ((-7046029254386353131) : Int64)) + ((-7046029254386353131) : Int64)))), .second, .val (.int (1 : Int32)), .unset, .unset] [(.long p0), (.int (own_m32 ((p0 + ((-7046029254386353131) : Int64)) + ((-7046029254386353131) : Int64))))])) rfl (hb hby at_73)) ?_
  refine own_step (T' := T40) (g' := (mkF m 77 #[.val (.long p0), .second, .val (.ref a1), .val (.int (own_m32 (p0 + ((-7046029254386353131) : Int64)))), .val (.int (own_m32 ((p0 + ((-7046029254386353131) : Int64)) + ((-7046029254386353131) : Int64)))), .val (.long (own_m64 (((p0 + ((-7046029254386353131) : Int64)) + ((-7046029254386353131) : Int64)) + ((-7046029254386353131) : Int64)))), .second, .val (.ref a22), .val (.long (own_m64 (((p0 + ((-7046029254386353131) : Int64)) + ((-7046029254386353131) : Int64)) + ((-7046029254386353131) : Int64)))), .second, .val (.int (1 : Int32)), .unset, .unset] [(.long (p0 + ((-7046029254386353131) : Int64))), (.int (own_m32 ((p0 + ((-7046029254386353131) : Int64)) + ((-7046029254386353131) : Int64))))])) (fun t k => XS.ladd X40.here hx rfl (hb hby at_76) rfl k) ?_
  refine own_step (T' := T40) (g' := (mkF m 80 #[.val (.long p0), .second, .val (.ref a1), .val (.int (own_m32 (p0 + ((-7046029254386353131) : Int64)))), .val (.int (own_m32 ((p0 + ((-7046029254386353131) : Int64)) + ((-7046029254386353131) : Int64)))), .val (.long (own_m64 (((p0 + ((-7046029254386353131) : Int64)) + ((-7046029254386353131) : Int64)) + ((-7046029254386353131) : Int64)))), .second, .val (.ref a22), .val (.long (own_m64 (((p0 + ((-7046029254386353131) : Int64)) + ((-7046029254386353131) : Int64)) + ((-7046029254386353131) : Int64)))), .second, .val (.int (1 : Int32)), .unset, .unset] [(.long ((-7046029254386353131) : Int64)), (.long (p0 + ((-7046029254386353131) : Int64))), (.int (own_m32 ((p0 + ((-7046029254386353131) : Int64)) + ((-7046029254386353131) : Int64))))])) (X40.ldc2Long hx hown (mvT hZ (hw _ (List.mem_of_getElem? (i := 29) rfl))) (g := (mkF m 77 #[.val (.long p0), .second, .val (.ref a1), .val (.int (own_m32 (p0 + ((-7046029254386353131) : Int64)))), .val (.int (own_m32 ((p0 + ((-7046029254386353131) : Int64)) + ((-7046029254386353131) : Int64)))), .val (.long (own_m64 (((p0 + ((-7046029254386353131) : Int64)) + ((-7046029254386353131) : Int64)) + ((-7046029254386353131) : Int64)))), .second, .val (.ref a22), .val (.long (own_m64 (((p0 + ((-7046029254386353131) : Int64)) + ((-7046029254386353131) : Int64)) + ((-7046029254386353131) : Int64)))), .second, .val (.int (1 : Int32)), .unset, .unset] [(.long (p0 + ((-7046029254386353131) : Int64))), (.int (own_m32 ((p0 + ((-7046029254386353131) : Int64)) + ((-7046029254386353131) : Int64))))])) rfl (hb hby at_77)) ?_
  refine own_step (T' := T40) (g' := (mkF m 81 #[.val (.long p0), .second, .val (.ref a1), .val (.int (own_m32 (p0 + ((-7046029254386353131) : Int64)))), .val (.int (own_m32 ((p0 + ((-7046029254386353131) : Int64)) + ((-7046029254386353131) : Int64)))), .val (.long (own_m64 (((p0 + ((-7046029254386353131) : Int64)) + ((-7046029254386353131) : Int64)) + ((-7046029254386353131) : Int64)))), .second, .val (.ref a22), .val (.long (own_m64 (((p0 + ((-7046029254386353131) : Int64)) + ((-7046029254386353131) : Int64)) + ((-7046029254386353131) : Int64)))), .second, .val (.int (1 : Int32)), .unset, .unset] [(.long ((p0 + ((-7046029254386353131) : Int64)) + ((-7046029254386353131) : Int64))), (.int (own_m32 ((p0 + ((-7046029254386353131) : Int64)) + ((-7046029254386353131) : Int64))))])) (fun t k => XS.ladd X40.here hx rfl (hb hby at_80) rfl k) ?_
  obtain ⟨_, _, ⟨T42, L42, k42, n42⟩, -, X42, ⟨Lc42, hQ42, l42, y42, z42⟩, st42⟩ := Jvm.LawKit.callS X40 hx (y := (⟨"com/example/cardwright/cardwright/SplitMix64NextIntPinLaw", "mix32", "(J)I"⟩ : MethodName)) hown (mvT hZ (hw _ (List.mem_of_getElem? (i := 30) rfl))) (mvT hZ (hw _ (List.mem_of_getElem? (i := 31) rfl))) (mvT hZ (hw _ (List.mem_of_getElem? (i := 32) rfl))) (mvT hZ (hw _ (List.mem_of_getElem? (i := 33) rfl))) (by decide) (backOf (W := 1) (rm_m32 l Z a0 hw [] ((p0 + ((-7046029254386353131) : Int64)) + ((-7046029254386353131) : Int64)) T35.heap n0 Z32 ) hZ (hw _ (List.mem_of_getElem? (i := 33) rfl)) (hw _ (List.mem_of_getElem? (i := 32) rfl)) (by decide) (by decide)) (g := (mkF m 81 #[.val (.long p0), .second, .val (.ref a1), .val (.int (own_m32 (p0 + ((-7046029254386353131) : Int64)))), .val (.int (own_m32 ((p0 + ((-7046029254386353131) : Int64)) + ((-7046029254386353131) : Int64)))), .val (.long (own_m64 (((p0 + ((-7046029254386353131) : Int64)) + ((-7046029254386353131) : Int64)) + ((-7046029254386353131) : Int64)))), .second, .val (.ref a22), .val (.long (own_m64 (((p0 + ((-7046029254386353131) : Int64)) + ((-7046029254386353131) : Int64)) + ((-7046029254386353131) : Int64)))), .second, .val (.int (1 : Int32)), .unset, .unset] [(.long ((p0 + ((-7046029254386353131) : Int64)) + ((-7046029254386353131) : Int64))), (.int (own_m32 ((p0 + ((-7046029254386353131) : Int64)) + ((-7046029254386353131) : Int64))))])) rfl (by rw [hml]; rfl) (argsL := [(.long ((p0 + ((-7046029254386353131) : Int64)) + ((-7046029254386353131) : Int64)))]) (rest := [(.int (own_m32 ((p0 + ((-7046029254386353131) : Int64)) + ((-7046029254386353131) : Int64))))]) (lenOf pd_4 rfl) rfl (by show 2 * 0 + _ ≤ _; exact Nat.le_of_eq rfl) (hb hby at_81) (fun _ _ => ⟨rfl, eq39, (by decide : 2 + 0 ≤ _), (by decide : 2 + 0 ≤ _)⟩)
  dsimp only [Pt.U, Pt.locs, Pt.cells, Pt.slots] at X42 l42 y42 z42 st42 hQ42
  subst l42 y42 z42
  obtain ⟨rfl, Nq42, eq41⟩ := hQ42
  have N42 := Fr.app N40 Nq42
  refine own_step (T' := T42) (g' := (mkF m 84 #[.val (.long p0), .second, .val (.ref a1), .val (.int (own_m32 (p0 + ((-7046029254386353131) : Int64)))), .val (.int (own_m32 ((p0 + ((-7046029254386353131) : Int64)) + ((-7046029254386353131) : Int64)))), .val (.long (own_m64 (((p0 + ((-7046029254386353131) : Int64)) + ((-7046029254386353131) : Int64)) + ((-7046029254386353131) : Int64)))), .second, .val (.ref a22), .val (.long (own_m64 (((p0 + ((-7046029254386353131) : Int64)) + ((-7046029254386353131) : Int64)) + ((-7046029254386353131) : Int64)))), .second, .val (.int (1 : Int32)), .unset, .unset] [(.int (own_m32 ((p0 + ((-7046029254386353131) : Int64)) + ((-7046029254386353131) : Int64)))), (.int (own_m32 ((p0 + ((-7046029254386353131) : Int64)) + ((-7046029254386353131) : Int64))))])) st42 ?_
  refine own_step (T' := T42) (g' := (mkF m 87 #[.val (.long p0), .second, .val (.ref a1), .val (.int (own_m32 (p0 + ((-7046029254386353131) : Int64)))), .val (.int (own_m32 ((p0 + ((-7046029254386353131) : Int64)) + ((-7046029254386353131) : Int64)))), .val (.long (own_m64 (((p0 + ((-7046029254386353131) : Int64)) + ((-7046029254386353131) : Int64)) + ((-7046029254386353131) : Int64)))), .second, .val (.ref a22), .val (.long (own_m64 (((p0 + ((-7046029254386353131) : Int64)) + ((-7046029254386353131) : Int64)) + ((-7046029254386353131) : Int64)))), .second, .val (.int (1 : Int32)), .unset, .unset] [])) (fun t k => XS.icmpNo X42.here hx rfl (hb hby at_84) rfl (teq rfl).2 k) ?_
  refine own_step (T' := T42) (g' := (mkF m 88 #[.val (.long p0), .second, .val (.ref a1), .val (.int (own_m32 (p0 + ((-7046029254386353131) : Int64)))), .val (.int (own_m32 ((p0 + ((-7046029254386353131) : Int64)) + ((-7046029254386353131) : Int64)))), .val (.long (own_m64 (((p0 + ((-7046029254386353131) : Int64)) + ((-7046029254386353131) : Int64)) + ((-7046029254386353131) : Int64)))), .second, .val (.ref a22), .val (.long (own_m64 (((p0 + ((-7046029254386353131) : Int64)) + ((-7046029254386353131) : Int64)) + ((-7046029254386353131) : Int64)))), .second, .val (.int (1 : Int32)), .unset, .unset] [(.int (1 : Int32))])) (fun t k => XS.iconst X42.here hx rfl (hb hby at_87) k) ?_
  refine own_step (T' := T42) (g' := (mkF m 92 #[.val (.long p0), .second, .val (.ref a1), .val (.int (own_m32 (p0 + ((-7046029254386353131) : Int64)))), .val (.int (own_m32 ((p0 + ((-7046029254386353131) : Int64)) + ((-7046029254386353131) : Int64)))), .val (.long (own_m64 (((p0 + ((-7046029254386353131) : Int64)) + ((-7046029254386353131) : Int64)) + ((-7046029254386353131) : Int64)))), .second, .val (.ref a22), .val (.long (own_m64 (((p0 + ((-7046029254386353131) : Int64)) + ((-7046029254386353131) : Int64)) + ((-7046029254386353131) : Int64)))), .second, .val (.int (1 : Int32)), .unset, .unset] [(.int (1 : Int32))])) (fun t k => XS.goto X42.here hx rfl (pc0 := 88) (pc' := 92) rfl (hb hby at_88) (by decide) (by decide) k) ?_
  refine own_step (T' := T42) (g' := (mkF m 94 #[.val (.long p0), .second, .val (.ref a1), .val (.int (own_m32 (p0 + ((-7046029254386353131) : Int64)))), .val (.int (own_m32 ((p0 + ((-7046029254386353131) : Int64)) + ((-7046029254386353131) : Int64)))), .val (.long (own_m64 (((p0 + ((-7046029254386353131) : Int64)) + ((-7046029254386353131) : Int64)) + ((-7046029254386353131) : Int64)))), .second, .val (.ref a22), .val (.long (own_m64 (((p0 + ((-7046029254386353131) : Int64)) + ((-7046029254386353131) : Int64)) + ((-7046029254386353131) : Int64)))), .second, .val (.int (1 : Int32)), .val (.int (1 : Int32)), .unset] [])) (fun t k => XS.istore X42.here hx rfl (hb hby at_92) rfl (l' := #[.val (.long p0), .second, .val (.ref a1), .val (.int (own_m32 (p0 + ((-7046029254386353131) : Int64)))), .val (.int (own_m32 ((p0 + ((-7046029254386353131) : Int64)) + ((-7046029254386353131) : Int64)))), .val (.long (own_m64 (((p0 + ((-7046029254386353131) : Int64)) + ((-7046029254386353131) : Int64)) + ((-7046029254386353131) : Int64)))), .second, .val (.ref a22), .val (.long (own_m64 (((p0 + ((-7046029254386353131) : Int64)) + ((-7046029254386353131) : Int64)) + ((-7046029254386353131) : Int64)))), .second, .val (.int (1 : Int32)), .val (.int (1 : Int32)), .unset]) rfl k) ?_
  refine own_step (T' := T42) (g' := (mkF m 96 #[.val (.long p0), .second, .val (.ref a1), .val (.int (own_m32 (p0 + ((-7046029254386353131) : Int64)))), .val (.int (own_m32 ((p0 + ((-7046029254386353131) : Int64)) + ((-7046029254386353131) : Int64)))), .val (.long (own_m64 (((p0 + ((-7046029254386353131) : Int64)) + ((-7046029254386353131) : Int64)) + ((-7046029254386353131) : Int64)))), .second, .val (.ref a22), .val (.long (own_m64 (((p0 + ((-7046029254386353131) : Int64)) + ((-7046029254386353131) : Int64)) + ((-7046029254386353131) : Int64)))), .second, .val (.int (1 : Int32)), .val (.int (1 : Int32)), .unset] [(.long (own_m64 (((p0 + ((-7046029254386353131) : Int64)) + ((-7046029254386353131) : Int64)) + ((-7046029254386353131) : Int64))))])) (fun t k => XS.lload X42.here hx rfl (hb hby at_94) rfl k) ?_
  refine own_step (T' := T42) (g' := (mkF m 98 #[.val (.long p0), .second, .val (.ref a1), .val (.int (own_m32 (p0 + ((-7046029254386353131) : Int64)))), .val (.int (own_m32 ((p0 + ((-7046029254386353131) : Int64)) + ((-7046029254386353131) : Int64)))), .val (.long (own_m64 (((p0 + ((-7046029254386353131) : Int64)) + ((-7046029254386353131) : Int64)) + ((-7046029254386353131) : Int64)))), .second, .val (.ref a22), .val (.long (own_m64 (((p0 + ((-7046029254386353131) : Int64)) + ((-7046029254386353131) : Int64)) + ((-7046029254386353131) : Int64)))), .second, .val (.int (1 : Int32)), .val (.int (1 : Int32)), .unset] [(.long (own_m64 (((p0 + ((-7046029254386353131) : Int64)) + ((-7046029254386353131) : Int64)) + ((-7046029254386353131) : Int64)))), (.long (own_m64 (((p0 + ((-7046029254386353131) : Int64)) + ((-7046029254386353131) : Int64)) + ((-7046029254386353131) : Int64))))])) (fun t k => XS.lload X42.here hx rfl (hb hby at_96) rfl k) ?_
  refine own_step (T' := T42) (g' := (mkF m 99 #[.val (.long p0), .second, .val (.ref a1), .val (.int (own_m32 (p0 + ((-7046029254386353131) : Int64)))), .val (.int (own_m32 ((p0 + ((-7046029254386353131) : Int64)) + ((-7046029254386353131) : Int64)))), .val (.long (own_m64 (((p0 + ((-7046029254386353131) : Int64)) + ((-7046029254386353131) : Int64)) + ((-7046029254386353131) : Int64)))), .second, .val (.ref a22), .val (.long (own_m64 (((p0 + ((-7046029254386353131) : Int64)) + ((-7046029254386353131) : Int64)) + ((-7046029254386353131) : Int64)))), .second, .val (.int (1 : Int32)), .val (.int (1 : Int32)), .unset] [(.int (lcmpW (own_m64 (((p0 + ((-7046029254386353131) : Int64)) + ((-7046029254386353131) : Int64)) + ((-7046029254386353131) : Int64))) (own_m64 (((p0 + ((-7046029254386353131) : Int64)) + ((-7046029254386353131) : Int64)) + ((-7046029254386353131) : Int64)))))])) (fun t k => XS.lcmp X42.here hx rfl (hb hby at_98) rfl k) ?_
  refine own_step (T' := T42) (g' := (mkF m 102 #[.val (.long p0), .second, .val (.ref a1), .val (.int (own_m32 (p0 + ((-7046029254386353131) : Int64)))), .val (.int (own_m32 ((p0 + ((-7046029254386353131) : Int64)) + ((-7046029254386353131) : Int64)))), .val (.long (own_m64 (((p0 + ((-7046029254386353131) : Int64)) + ((-7046029254386353131) : Int64)) + ((-7046029254386353131) : Int64)))), .second, .val (.ref a22), .val (.long (own_m64 (((p0 + ((-7046029254386353131) : Int64)) + ((-7046029254386353131) : Int64)) + ((-7046029254386353131) : Int64)))), .second, .val (.int (1 : Int32)), .val (.int (1 : Int32)), .unset] [])) (fun t k => XS.ifNo X42.here hx rfl (hb hby at_99) rfl ((if0 _ _).trans (teq ((lw_eq _ _).mpr rfl)).2) k) ?_
  refine own_step (T' := T42) (g' := (mkF m 103 #[.val (.long p0), .second, .val (.ref a1), .val (.int (own_m32 (p0 + ((-7046029254386353131) : Int64)))), .val (.int (own_m32 ((p0 + ((-7046029254386353131) : Int64)) + ((-7046029254386353131) : Int64)))), .val (.long (own_m64 (((p0 + ((-7046029254386353131) : Int64)) + ((-7046029254386353131) : Int64)) + ((-7046029254386353131) : Int64)))), .second, .val (.ref a22), .val (.long (own_m64 (((p0 + ((-7046029254386353131) : Int64)) + ((-7046029254386353131) : Int64)) + ((-7046029254386353131) : Int64)))), .second, .val (.int (1 : Int32)), .val (.int (1 : Int32)), .unset] [(.int (1 : Int32))])) (fun t k => XS.iconst X42.here hx rfl (hb hby at_102) k) ?_
  refine own_step (T' := T42) (g' := (mkF m 107 #[.val (.long p0), .second, .val (.ref a1), .val (.int (own_m32 (p0 + ((-7046029254386353131) : Int64)))), .val (.int (own_m32 ((p0 + ((-7046029254386353131) : Int64)) + ((-7046029254386353131) : Int64)))), .val (.long (own_m64 (((p0 + ((-7046029254386353131) : Int64)) + ((-7046029254386353131) : Int64)) + ((-7046029254386353131) : Int64)))), .second, .val (.ref a22), .val (.long (own_m64 (((p0 + ((-7046029254386353131) : Int64)) + ((-7046029254386353131) : Int64)) + ((-7046029254386353131) : Int64)))), .second, .val (.int (1 : Int32)), .val (.int (1 : Int32)), .unset] [(.int (1 : Int32))])) (fun t k => XS.goto X42.here hx rfl (pc0 := 103) (pc' := 107) rfl (hb hby at_103) (by decide) (by decide) k) ?_
  refine own_step (T' := T42) (g' := (mkF m 109 #[.val (.long p0), .second, .val (.ref a1), .val (.int (own_m32 (p0 + ((-7046029254386353131) : Int64)))), .val (.int (own_m32 ((p0 + ((-7046029254386353131) : Int64)) + ((-7046029254386353131) : Int64)))), .val (.long (own_m64 (((p0 + ((-7046029254386353131) : Int64)) + ((-7046029254386353131) : Int64)) + ((-7046029254386353131) : Int64)))), .second, .val (.ref a22), .val (.long (own_m64 (((p0 + ((-7046029254386353131) : Int64)) + ((-7046029254386353131) : Int64)) + ((-7046029254386353131) : Int64)))), .second, .val (.int (1 : Int32)), .val (.int (1 : Int32)), .val (.int (1 : Int32))] [])) (fun t k => XS.istore X42.here hx rfl (hb hby at_107) rfl (l' := #[.val (.long p0), .second, .val (.ref a1), .val (.int (own_m32 (p0 + ((-7046029254386353131) : Int64)))), .val (.int (own_m32 ((p0 + ((-7046029254386353131) : Int64)) + ((-7046029254386353131) : Int64)))), .val (.long (own_m64 (((p0 + ((-7046029254386353131) : Int64)) + ((-7046029254386353131) : Int64)) + ((-7046029254386353131) : Int64)))), .second, .val (.ref a22), .val (.long (own_m64 (((p0 + ((-7046029254386353131) : Int64)) + ((-7046029254386353131) : Int64)) + ((-7046029254386353131) : Int64)))), .second, .val (.int (1 : Int32)), .val (.int (1 : Int32)), .val (.int (1 : Int32))]) rfl k) ?_
  refine own_step (T' := T42) (g' := (mkF m 111 #[.val (.long p0), .second, .val (.ref a1), .val (.int (own_m32 (p0 + ((-7046029254386353131) : Int64)))), .val (.int (own_m32 ((p0 + ((-7046029254386353131) : Int64)) + ((-7046029254386353131) : Int64)))), .val (.long (own_m64 (((p0 + ((-7046029254386353131) : Int64)) + ((-7046029254386353131) : Int64)) + ((-7046029254386353131) : Int64)))), .second, .val (.ref a22), .val (.long (own_m64 (((p0 + ((-7046029254386353131) : Int64)) + ((-7046029254386353131) : Int64)) + ((-7046029254386353131) : Int64)))), .second, .val (.int (1 : Int32)), .val (.int (1 : Int32)), .val (.int (1 : Int32))] [(.int (1 : Int32))])) (fun t k => XS.iload X42.here hx rfl (hb hby at_109) rfl k) ?_
  refine own_step (T' := T42) (g' := (mkF m 114 #[.val (.long p0), .second, .val (.ref a1), .val (.int (own_m32 (p0 + ((-7046029254386353131) : Int64)))), .val (.int (own_m32 ((p0 + ((-7046029254386353131) : Int64)) + ((-7046029254386353131) : Int64)))), .val (.long (own_m64 (((p0 + ((-7046029254386353131) : Int64)) + ((-7046029254386353131) : Int64)) + ((-7046029254386353131) : Int64)))), .second, .val (.ref a22), .val (.long (own_m64 (((p0 + ((-7046029254386353131) : Int64)) + ((-7046029254386353131) : Int64)) + ((-7046029254386353131) : Int64)))), .second, .val (.int (1 : Int32)), .val (.int (1 : Int32)), .val (.int (1 : Int32))] [])) (fun t k => XS.ifNo X42.here hx rfl (hb hby at_111) rfl ((if0 _ _).trans (feq (by decide : ¬ ((1 : Int32) = (0 : Int32)))).1) k) ?_
  refine own_step (T' := T42) (g' := (mkF m 116 #[.val (.long p0), .second, .val (.ref a1), .val (.int (own_m32 (p0 + ((-7046029254386353131) : Int64)))), .val (.int (own_m32 ((p0 + ((-7046029254386353131) : Int64)) + ((-7046029254386353131) : Int64)))), .val (.long (own_m64 (((p0 + ((-7046029254386353131) : Int64)) + ((-7046029254386353131) : Int64)) + ((-7046029254386353131) : Int64)))), .second, .val (.ref a22), .val (.long (own_m64 (((p0 + ((-7046029254386353131) : Int64)) + ((-7046029254386353131) : Int64)) + ((-7046029254386353131) : Int64)))), .second, .val (.int (1 : Int32)), .val (.int (1 : Int32)), .val (.int (1 : Int32))] [(.int (1 : Int32))])) (fun t k => XS.iload X42.here hx rfl (hb hby at_114) rfl k) ?_
  refine own_step (T' := T42) (g' := (mkF m 119 #[.val (.long p0), .second, .val (.ref a1), .val (.int (own_m32 (p0 + ((-7046029254386353131) : Int64)))), .val (.int (own_m32 ((p0 + ((-7046029254386353131) : Int64)) + ((-7046029254386353131) : Int64)))), .val (.long (own_m64 (((p0 + ((-7046029254386353131) : Int64)) + ((-7046029254386353131) : Int64)) + ((-7046029254386353131) : Int64)))), .second, .val (.ref a22), .val (.long (own_m64 (((p0 + ((-7046029254386353131) : Int64)) + ((-7046029254386353131) : Int64)) + ((-7046029254386353131) : Int64)))), .second, .val (.int (1 : Int32)), .val (.int (1 : Int32)), .val (.int (1 : Int32))] [])) (fun t k => XS.ifNo X42.here hx rfl (hb hby at_116) rfl ((if0 _ _).trans (feq (by decide : ¬ ((1 : Int32) = (0 : Int32)))).1) k) ?_
  refine own_step (T' := T42) (g' := (mkF m 121 #[.val (.long p0), .second, .val (.ref a1), .val (.int (own_m32 (p0 + ((-7046029254386353131) : Int64)))), .val (.int (own_m32 ((p0 + ((-7046029254386353131) : Int64)) + ((-7046029254386353131) : Int64)))), .val (.long (own_m64 (((p0 + ((-7046029254386353131) : Int64)) + ((-7046029254386353131) : Int64)) + ((-7046029254386353131) : Int64)))), .second, .val (.ref a22), .val (.long (own_m64 (((p0 + ((-7046029254386353131) : Int64)) + ((-7046029254386353131) : Int64)) + ((-7046029254386353131) : Int64)))), .second, .val (.int (1 : Int32)), .val (.int (1 : Int32)), .val (.int (1 : Int32))] [(.int (1 : Int32))])) (fun t k => XS.iload X42.here hx rfl (hb hby at_119) rfl k) ?_
  refine own_step (T' := T42) (g' := (mkF m 124 #[.val (.long p0), .second, .val (.ref a1), .val (.int (own_m32 (p0 + ((-7046029254386353131) : Int64)))), .val (.int (own_m32 ((p0 + ((-7046029254386353131) : Int64)) + ((-7046029254386353131) : Int64)))), .val (.long (own_m64 (((p0 + ((-7046029254386353131) : Int64)) + ((-7046029254386353131) : Int64)) + ((-7046029254386353131) : Int64)))), .second, .val (.ref a22), .val (.long (own_m64 (((p0 + ((-7046029254386353131) : Int64)) + ((-7046029254386353131) : Int64)) + ((-7046029254386353131) : Int64)))), .second, .val (.int (1 : Int32)), .val (.int (1 : Int32)), .val (.int (1 : Int32))] [])) (fun t k => XS.ifNo X42.here hx rfl (hb hby at_121) rfl ((if0 _ _).trans (feq (by decide : ¬ ((1 : Int32) = (0 : Int32)))).1) k) ?_
  refine own_step (T' := T42) (g' := (mkF m 125 #[.val (.long p0), .second, .val (.ref a1), .val (.int (own_m32 (p0 + ((-7046029254386353131) : Int64)))), .val (.int (own_m32 ((p0 + ((-7046029254386353131) : Int64)) + ((-7046029254386353131) : Int64)))), .val (.long (own_m64 (((p0 + ((-7046029254386353131) : Int64)) + ((-7046029254386353131) : Int64)) + ((-7046029254386353131) : Int64)))), .second, .val (.ref a22), .val (.long (own_m64 (((p0 + ((-7046029254386353131) : Int64)) + ((-7046029254386353131) : Int64)) + ((-7046029254386353131) : Int64)))), .second, .val (.int (1 : Int32)), .val (.int (1 : Int32)), .val (.int (1 : Int32))] [(.int (1 : Int32))])) (fun t k => XS.iconst X42.here hx rfl (hb hby at_124) k) ?_
  refine own_step (T' := T42) (g' := (mkF m 129 #[.val (.long p0), .second, .val (.ref a1), .val (.int (own_m32 (p0 + ((-7046029254386353131) : Int64)))), .val (.int (own_m32 ((p0 + ((-7046029254386353131) : Int64)) + ((-7046029254386353131) : Int64)))), .val (.long (own_m64 (((p0 + ((-7046029254386353131) : Int64)) + ((-7046029254386353131) : Int64)) + ((-7046029254386353131) : Int64)))), .second, .val (.ref a22), .val (.long (own_m64 (((p0 + ((-7046029254386353131) : Int64)) + ((-7046029254386353131) : Int64)) + ((-7046029254386353131) : Int64)))), .second, .val (.int (1 : Int32)), .val (.int (1 : Int32)), .val (.int (1 : Int32))] [(.int (1 : Int32))])) (fun t k => XS.goto X42.here hx rfl (pc0 := 125) (pc' := 129) rfl (hb hby at_125) (by decide) (by decide) k) ?_
  refine own_rN X42 hx hlk Bd.returns (by simp) (hb hby at_129) ?_ (by decide) (by decide)
  rw [eq41]
  exact ⟨rfl, N42⟩
set_option maxRecDepth 65536 in
set_option maxHeartbeats 40000000 in
theorem comes_1 {Post : Tables → Env → Array Value → State → Outcome → State → Prop} (hpost : ∀ tb e args s v u, (limb_1_1.after args s (.returned v) u = true ∧ limb_1_2.after args s (.returned v) u = true ∧ True) → FrameEnd s (.returned v) u (Jvm.fieldLocs frame_1_writes args s ++ Jvm.arrayLocs frame_1_arrays args s ++ Jvm.staticLocs frame_1_statics s) 16 128 → Post tb e args s (.returned v) u) :
    ArmFor flags0 classFile x code maxLocals ret World_1 tables_1 room_1 Calls_1 rest_1 Pre_1 Post := by
  intro l hfl _ _ p e ha hc hk s m args below hf hA hF happ hP
  obtain ⟨hcalls, hrest, hpre⟩ := hP
  obtain ⟨-, -, -, hnamed, -, -, -, hat⟩ := (Spec.applies_iff hf).mp happ
  obtain ⟨hg, hn⟩ := and_e (Cond.before_iff.mp (show (Jvm.Cond.and given_1 narrow_1).before args s = true from hpre))
  obtain ⟨hc0, hg0⟩ := and_e hg
  obtain ⟨w0, rfl⟩ : ∃ w0 : Value, args = #[w0] := by
    have hs : args.size = 1 := by simpa [Cond.value, given_1] using hc0
    obtain ⟨L⟩ := args
    match L, hs with
    | [w0], _ => exact ⟨w0, rfl⟩
  have hw := fun d (hd : d ∈ tables_1) => atoms_spec (ws := Jvm.Cond.code x code maxLocals ret :: tables_1) hat d (List.mem_cons_of_mem _ hd)
  have hfit : Fit s := fun {y c} hc i hi => by
    obtain ⟨ha, rfl⟩ := Array.getElem?_eq_some_iff.mp hc
    have q := List.all_eq_true.mp ((Array.all_eq_true_iff_forall_mem.mp hF) _ (Array.getElem_mem ha)) i (List.mem_range.mpr hi)
    simpa [Array.getElem?_eq_getElem hi] using q
  obtain ⟨i0, ev0⟩ := isL_v hg0
  obtain rfl : w0 = (.long i0) := Option.some.inj ev0

  obtain ⟨n, o, h1, h2, h3, _, L, rfl, ⟨rfl, N⟩, hq⟩ := rm_law l s _ hw tables_1 i0  s.heap s.heap.size (Nat.le_refl _)  p e ha hc hk s m _ below hf ((Spec.applies_iff_loose hf).mp happ).1 ⟨rfl, State.Warmed39.refl s, rfl⟩ trivial
  refine ⟨n, _, h1, h2, h3, hpost _ _ _ _ _ _ ⟨Cond.after_iff.mpr rfl, Cond.after_iff.mpr (eq_i res_at (Term.int_eval (1)) rfl), trivial⟩ ⟨hq.1, hq.2.1, (hq.2.2.sift fun y hy => Or.inr (N y hy)).mono (by decide) (by decide)⟩⟩
theorem main_1_1 : Claimed_1_1 := comes_1 fun _ _ _ _ _ _ h hF => ⟨h.1, hF⟩
theorem main_1_2 : Claimed_1_2 := comes_1 fun _ _ _ _ _ _ h hF => ⟨h.2.1, hF⟩

end Jvm.Pilot.@@N@@
namespace Jvm.Pilot.@@N@@
open Jvm Jvm.ClassFile Sem Op Lib Jvm.Free Jvm.Stand Jvm.Pilot.@@N@@.Jvm.D
/-! MADE BY PROGRAM (witnessworld.py) out of the Statement's table words and the real class files: 10 classes; the members and pool entries that the words name. The judged class is class 1, her method 2. -/
namespace start1
open Jvm.ClassFile
def u (s : String) : CpInfo := .utf8 (stringToUtf16 s)
/-- a pool by its gaps: so many unusable entries, then the entry; so many at the end -/
def gap : Nat → List CpInfo → List CpInfo
  | 0, r => r
  | n + 1, r => .unusable :: gap n r
def poolList (es : List (Nat × CpInfo)) (last : Nat) : List CpInfo := es.foldr (fun e r => gap e.1 (e.2 :: r)) (gap last [])
def pool (es : List (Nat × CpInfo)) (last : Nat) : Array CpInfo := ⟨poolList es last⟩
def fileOf (pool : Array CpInfo) (this : Nat) (attrs : Array Attribute := #[]) (ms : Array MethodInfo := #[]) (fl : Nat := 33) (sup : Nat := 0) (ifs : Array Nat := #[]) (fds : Array FieldInfo := #[]) : ClassFile where
  minorVersion := 0
  majorVersion := 65
  constantPool := pool
  accessFlags := fl
  thisClass := this
  superClass := sup
  interfaces := ifs
  fields := fds
  methods := ms
  attributes := attrs
def plain (name : String) (sup : Option ClassId) : Class where
  name := name
  kind := .ordinary
  loader := none
  accessFlags := 33
  super := sup
  interfaces := #[]
  cf := none
  fields := #[]
  methods := #[]
  instanceTypes := #[]
  staticTypes := #[]
  resolved := #[]
  callSites := []
  init := .initialized
  statics := none
  mirror := none

def pool0 : Array CpInfo := pool [(5, u "<init>"), (0, u "()V"), (1, .class_ 10), (1, u "java/lang/Object")] 113

def k0c0 : Code := { maxStack := 0, maxLocals := 1, code := object_method_1_code, exceptionTable := #[], attributes := #[] }
def k0m0 : Method := { name := "<init>", desc := "()V", sig := { parameters := [], returnType := none }, accessFlags := 1, code := some k0c0 }
/-- java/lang/Object -/
def k0 : Class := { plain "java/lang/Object" none with
  accessFlags := 33
  interfaces := #[]
  cf := some (fileOf pool0 8 #[] #[{ accessFlags := 1, nameIndex := 5, descriptorIndex := 6, attributes := #[] }] 33 0 #[] #[])
  fields := #[]
  methods := #[k0m0]
  instanceTypes := #[]
  staticTypes := #[]
  resolved := Array.replicate 124 none
  statics := none }

def pool1 : Array CpInfo := pool [(2, .class_ 4), (1, u "java/lang/Object"), (0, u "<init>"), (0, u "()V"), (0, .long 7109453100751455733), (1, .long 14638054099313767859), (1, .class_ 12), (0, u "com/example/cardwright/cardwright/SplitMix64"), (0, .methodref 11 14), (0, .nameAndType 5 15), (0, u "(J)V"), (0, .methodref 11 17), (0, .nameAndType 18 19), (0, u "nextInt"), (0, u "()I"), (0, .methodref 11 21), (0, .nameAndType 22 23), (0, u "nextLong"), (0, u "()J"), (0, .long 11400714819323198485), (1, .methodref 27 28), (0, .class_ 29), (0, .nameAndType 30 31), (0, u "com/example/cardwright/cardwright/SplitMix64NextIntPinLaw"), (0, u "mix32"), (0, u "(J)I"), (2, u "law"), (0, u "(J)Z")] 3

def k1m0 : Method := { name := "<init>", desc := "()V", sig := { parameters := [], returnType := none }, accessFlags := 1, code := none }
def k1c1 : Code := { maxStack := 5, maxLocals := 2, code := method_2_code, exceptionTable := #[], attributes := #[] }
def k1m1 : Method := { name := "mix32", desc := "(J)I", sig := { parameters := [.long], returnType := some .int }, accessFlags := 10, code := some k1c1 }
def k1c2 : Code := { maxStack := 6, maxLocals := 13, code := code, exceptionTable := #[], attributes := #[] }
def k1m2 : Method := { name := "law", desc := "(J)Z", sig := { parameters := [.long], returnType := some .boolean }, accessFlags := 9, code := some k1c2 }
/-- com/example/cardwright/cardwright/SplitMix64NextIntPinLaw -/
def k1 : Class := { plain "com/example/cardwright/cardwright/SplitMix64NextIntPinLaw" (some 0) with
  accessFlags := 49
  interfaces := #[]
  cf := some (fileOf pool1 27 #[] #[{ accessFlags := 1, nameIndex := 5, descriptorIndex := 6, attributes := #[] }, { accessFlags := 10, nameIndex := 30, descriptorIndex := 31, attributes := #[] }, { accessFlags := 9, nameIndex := 34, descriptorIndex := 35, attributes := #[] }] 49 2 #[] #[])
  fields := #[]
  methods := #[k1m0, k1m1, k1m2]
  instanceTypes := #[]
  staticTypes := #[]
  resolved := Array.replicate 39 none
  statics := none }

def pool2 : Array CpInfo := pool [(7, .class_ 8), (0, u "java/util/random/RandomGenerator"), (199, .class_ 209), (0, u "java/lang/Object"), (52, .class_ 263), (0, u "java/util/random/RandomGenerator$ArbitrarilyJumpableGenerator"), (0, .class_ 265), (0, u "java/util/random/RandomGenerator$LeapableGenerator"), (0, .class_ 267), (0, u "java/util/random/RandomGenerator$JumpableGenerator"), (0, .class_ 269), (0, u "java/util/random/RandomGenerator$SplittableGenerator"), (0, .class_ 271), (0, u "java/util/random/RandomGenerator$StreamableGenerator")] 36

/-- java/util/random/RandomGenerator -/
def k2 : Class := { plain "java/util/random/RandomGenerator" (some 0) with
  accessFlags := 1537
  interfaces := #[]
  cf := some (fileOf pool2 7 #[.nestMembers #[262, 264, 266, 268, 270]] #[] 1537 208 #[] #[])
  fields := #[]
  methods := #[]
  instanceTypes := #[]
  staticTypes := #[]
  resolved := Array.replicate 308 none
  statics := none }

def pool3 : Array CpInfo := pool [(1, .class_ 2), (0, u "com/example/cardwright/cardwright/SplitMix64"), (0, .methodref 4 5), (0, .class_ 6), (0, .nameAndType 7 8), (0, u "java/lang/Object"), (0, u "<init>"), (0, u "()V"), (0, .fieldref 1 10), (0, .nameAndType 11 12), (0, u "state"), (0, u "J"), (2, u "(J)V"), (8, .long 11400714819323198485), (1, .methodref 1 27), (0, .nameAndType 28 29), (0, u "mix64"), (0, u "(J)J"), (0, .long 7109453100751455733), (1, .long 14638054099313767859), (10, u "nextInt"), (0, u "()I"), (16, u "RECIPROCALS"), (0, u "[J"), (4, .long 13787848793156543929), (1, .long 10723151780598845931), (5, .class_ 76), (0, u "java/util/random/RandomGenerator"), (0, u "GAMMA"), (1, u "FRACTION_BITS"), (0, u "I"), (1, u "FRACTION"), (0, u "MULTIPLIED_BOUNDS"), (5, u "nextLong"), (0, u "()J")] 5

def k3c0 : Code := { maxStack := 3, maxLocals := 3, code := prog_41_method_1_code, exceptionTable := #[], attributes := #[] }
def k3m0 : Method := { name := "<init>", desc := "(J)V", sig := { parameters := [.long], returnType := none }, accessFlags := 0, code := some k3c0 }
def k3c1 : Code := { maxStack := 5, maxLocals := 1, code := prog_41_method_4_code, exceptionTable := #[], attributes := #[] }
def k3m1 : Method := { name := "nextLong", desc := "()J", sig := { parameters := [], returnType := some .long }, accessFlags := 1, code := some k3c1 }
def k3c2 : Code := { maxStack := 5, maxLocals := 3, code := prog_41_method_5_code, exceptionTable := #[], attributes := #[] }
def k3m2 : Method := { name := "nextInt", desc := "()I", sig := { parameters := [], returnType := some .int }, accessFlags := 1, code := some k3c2 }
def k3c3 : Code := { maxStack := 5, maxLocals := 4, code := prog_41_method_12_code, exceptionTable := #[], attributes := #[] }
def k3m3 : Method := { name := "mix64", desc := "(J)J", sig := { parameters := [.long], returnType := some .long }, accessFlags := 10, code := some k3c3 }
/-- com/example/cardwright/cardwright/SplitMix64 -/
def k3 : Class := { plain "com/example/cardwright/cardwright/SplitMix64" (some 0) with
  accessFlags := 48
  interfaces := #[2]
  cf := some (fileOf pool3 1 #[] #[{ accessFlags := 0, nameIndex := 7, descriptorIndex := 15, attributes := #[] }, { accessFlags := 1, nameIndex := 89, descriptorIndex := 90, attributes := #[] }, { accessFlags := 1, nameIndex := 43, descriptorIndex := 44, attributes := #[] }, { accessFlags := 10, nameIndex := 28, descriptorIndex := 29, attributes := #[] }] 48 4 #[75] #[{ accessFlags := 26, nameIndex := 77, descriptorIndex := 12, attributes := #[] }, { accessFlags := 26, nameIndex := 79, descriptorIndex := 80, attributes := #[] }, { accessFlags := 26, nameIndex := 82, descriptorIndex := 12, attributes := #[] }, { accessFlags := 24, nameIndex := 83, descriptorIndex := 80, attributes := #[] }, { accessFlags := 26, nameIndex := 61, descriptorIndex := 62, attributes := #[] }, { accessFlags := 2, nameIndex := 11, descriptorIndex := 12, attributes := #[] }])
  fields := #[{ name := "GAMMA", type := .long, accessFlags := 26, slot := 0, constantValue := 0 }, { name := "FRACTION_BITS", type := .int, accessFlags := 26, slot := 1, constantValue := 0 }, { name := "FRACTION", type := .long, accessFlags := 26, slot := 2, constantValue := 0 }, { name := "MULTIPLIED_BOUNDS", type := .int, accessFlags := 24, slot := 3, constantValue := 0 }, { name := "RECIPROCALS", type := (.array .long), accessFlags := 26, slot := 4, constantValue := 0 }, { name := "state", type := .long, accessFlags := 2, slot := 0, constantValue := 0 }]
  methods := #[k3m0, k3m1, k3m2, k3m3]
  instanceTypes := #[.long]
  staticTypes := #[.long, .int, .long, .int, (.array .long)]
  resolved := Array.replicate 96 none
  statics := none }

def pool4 : Array CpInfo := pool [(1, u "java/lang/Cloneable"), (0, .class_ 1), (0, u "java/lang/Object"), (0, .class_ 3)] 3

/-- java/lang/Cloneable -/
def k4 : Class := { plain "java/lang/Cloneable" (some 0) with
  accessFlags := 1537
  interfaces := #[]
  cf := some (fileOf pool4 2 #[] #[] 1537 4 #[] #[])
  fields := #[]
  methods := #[]
  instanceTypes := #[]
  staticTypes := #[]
  resolved := Array.replicate 8 none
  statics := none }

def pool5 : Array CpInfo := pool [(1, u "java/io/Serializable"), (0, .class_ 1), (0, u "java/lang/Object"), (0, .class_ 3)] 3

/-- java/io/Serializable -/
def k5 : Class := { plain "java/io/Serializable" (some 0) with
  accessFlags := 1537
  interfaces := #[]
  cf := some (fileOf pool5 2 #[] #[] 1537 4 #[] #[])
  fields := #[]
  methods := #[]
  instanceTypes := #[]
  staticTypes := #[]
  resolved := Array.replicate 8 none
  statics := none }

/-- the primitive byte -/
def k6 : Class := { plain "byte" none with kind := .primitive 'B', accessFlags := 0x411 }
/-- [B -/
def k7 : Class := { plain "[B" (some 0) with kind := .array 6 .byte, interfaces := #[4, 5], accessFlags := 1041 }

/-- the primitive int -/
def k8 : Class := { plain "int" none with kind := .primitive 'I', accessFlags := 0x411 }
/-- [I -/
def k9 : Class := { plain "[I" (some 0) with kind := .array 8 .int, interfaces := #[4, 5], accessFlags := 1041 }

def heap : Heap := #[]
def classes : Array Class := #[k0, k1, k2, k3, k4, k5, k6, k7, k8, k9]
def interned : List (Array UInt16 × Addr) := []
def slotsUsed : Nat := 0
def theMethod : MethodId := ⟨1, 2⟩
def args0 : Array Value := #[.long 5]
def aboutOver (below : List Frame) : State where
  vm := { classes := classes, interned := interned.toArray }
  heap := heap
  slotsUsed := slotsUsed
  threads := #[{ frames := .invoking theMethod args0 :: below }]
def below0 : List Frame := [.native { method := ⟨0, 0⟩, args := #[] }]
def about1 : State := aboutOver below0
def p0 : Program := .bare "" "" ""
def e0 : Env := launch0.env 0 0 0
theorem w_frames : about1.frames = Frame.invoking theMethod args0 :: below0 := rfl
set_option maxRecDepth 65536 in
theorem w_args : argsFit about1.vm theMethod args0 = true := by decide +kernel
set_option maxRecDepth 65536 in
theorem w_heap : heapFits about1 = true := by decide +kernel
set_option maxRecDepth 65536 in
theorem w_runnable : about1.curStatus? = some .runnable := by decide +kernel
set_option maxRecDepth 65536 in
theorem w_alone : about1.alone = true := by decide +kernel
set_option maxRecDepth 65536 in
theorem w_named : about1.methodNamed? x = some theMethod := by decide +kernel
set_option maxRecDepth 65536 in
theorem w_hears : about1.hears theMethod below0 = true := by decide +kernel
set_option maxRecDepth 65536 in
theorem w_ripe : about1.ripe theMethod args0 below0 = true := by decide +kernel
theorem w_running : about1.status = .running := rfl
set_option maxRecDepth 65536 in
theorem w_room : about1.hasRoom e0.platform room_1 = true :=
  launch0.hasRoom_least _ room_1 (by decide +kernel) (by decide +kernel) (by decide +kernel) (by decide +kernel) (by decide +kernel) (by decide +kernel)
theorem allAtoms_all (ts : List Jvm.Cond) (a : Array Jvm.Value) (st : Jvm.State) : (allAtoms ts).before a st = ts.all (fun c => c.before a st) := by
  induction ts with
  | nil => rfl
  | cons c t ih =>
    show (Jvm.Cond.and c (allAtoms t)).before a st = _
    rw [Jvm.Cond.before_and, ih, List.all_cons]
def words1 : List Jvm.Cond := Jvm.Cond.code x code maxLocals ret :: tables_1
/-- a 'code' word, met by the world's own term for the bytes: nothing is compared byte by byte -/
theorem code_word {y : MethodName} {bytes : ByteArray} {mx : Nat} {rt : Option FieldType} {a : Array Value} {s : State} {m : MethodId} {meth : Method} {c : Code} (h1 : s.methodNamed? y = some m) (h2 : s.vm.method? m = some meth) (h3 : meth.code = some c) (h4 : c.code = bytes)
    (h5 : (c.maxLocals == mx && c.exceptionTable.isEmpty && decide (c.maxStack ≤ mostOperands) && decide (meth.sig.returnType = rt) && !meth.locks && decide (parseMethodDescriptor y.desc = some meth.sig)) = true) : (Jvm.Cond.code y bytes mx rt).before a s = true := by
  simp only [Bool.and_eq_true, beq_iff_eq, Bool.not_eq_true', decide_eq_true_eq] at h5
  obtain ⟨⟨⟨⟨⟨g1, g2⟩, g3⟩, g4⟩, g5⟩, g6⟩ := h5
  simp [Cond.before, Cond.holds, Cond.value, h1, h2, h3, h4, g1, g2, g3, g4, g5, g6]
def isCode : Jvm.Cond → Bool
  | .code _ _ _ _ => true
  | _ => false
theorem all_split {L : List Jvm.Cond} {P : Jvm.Cond → Bool} (h1 : L.all (fun c => isCode c || P c) = true) (h2 : ∀ c ∈ L.filter isCode, P c = true) : L.all P = true := by
  refine List.all_eq_true.mpr fun c hc => ?_
  have h := List.all_eq_true.mp h1 c hc
  rcases Bool.eq_false_or_eq_true (isCode c) with hi | hi
  · exact h2 c (List.mem_filter.mpr ⟨hc, hi⟩)
  · simpa [hi] using h
set_option maxRecDepth 65536 in
theorem w_c0 : (Jvm.Cond.code x code maxLocals ret).before args0 about1 = true := code_word (m := ⟨1, 2⟩) (meth := k1m2) (c := k1c2) (by decide +kernel) rfl rfl rfl (by decide +kernel)
set_option maxRecDepth 65536 in
theorem w_c1 : (Jvm.Cond.code ({ cls := "com/example/cardwright/cardwright/SplitMix64", name := "<init>", desc := "(J)V" } : Jvm.MethodName) prog_41_method_1_code (3 : Nat) (Option.none : Option Jvm.ClassFile.FieldType)).before args0 about1 = true := code_word (m := ⟨3, 0⟩) (meth := k3m0) (c := k3c0) (by decide +kernel) rfl rfl rfl (by decide +kernel)
set_option maxRecDepth 65536 in
theorem w_c2 : (Jvm.Cond.code ({ cls := "java/lang/Object", name := "<init>", desc := "()V" } : Jvm.MethodName) object_method_1_code (1 : Nat) (Option.none : Option Jvm.ClassFile.FieldType)).before args0 about1 = true := code_word (m := ⟨0, 0⟩) (meth := k0m0) (c := k0c0) (by decide +kernel) rfl rfl rfl (by decide +kernel)
set_option maxRecDepth 65536 in
theorem w_c3 : (Jvm.Cond.code ({ cls := "com/example/cardwright/cardwright/SplitMix64", name := "nextInt", desc := "()I" } : Jvm.MethodName) prog_41_method_5_code (3 : Nat) (Option.some Jvm.ClassFile.FieldType.int)).before args0 about1 = true := code_word (m := ⟨3, 2⟩) (meth := k3m2) (c := k3c2) (by decide +kernel) rfl rfl rfl (by decide +kernel)
set_option maxRecDepth 65536 in
theorem w_c4 : (Jvm.Cond.code ({ cls := "com/example/cardwright/cardwright/SplitMix64", name := "nextLong", desc := "()J" } : Jvm.MethodName) prog_41_method_4_code (1 : Nat) (Option.some Jvm.ClassFile.FieldType.long)).before args0 about1 = true := code_word (m := ⟨3, 1⟩) (meth := k3m1) (c := k3c1) (by decide +kernel) rfl rfl rfl (by decide +kernel)
set_option maxRecDepth 65536 in
theorem w_c5 : (Jvm.Cond.code ({ cls := "com/example/cardwright/cardwright/SplitMix64", name := "mix64", desc := "(J)J" } : Jvm.MethodName) prog_41_method_12_code (4 : Nat) (Option.some Jvm.ClassFile.FieldType.long)).before args0 about1 = true := code_word (m := ⟨3, 3⟩) (meth := k3m3) (c := k3c3) (by decide +kernel) rfl rfl rfl (by decide +kernel)
set_option maxRecDepth 65536 in
theorem w_c6 : (Jvm.Cond.code ({ cls := "com/example/cardwright/cardwright/SplitMix64NextIntPinLaw", name := "mix32", desc := "(J)I" } : Jvm.MethodName) method_2_code (2 : Nat) (Option.some Jvm.ClassFile.FieldType.int)).before args0 about1 = true := code_word (m := ⟨1, 1⟩) (meth := k1m1) (c := k1c1) (by decide +kernel) rfl rfl rfl (by decide +kernel)
def codes1 : List Jvm.Cond := [Jvm.Cond.code x code maxLocals ret, Jvm.Cond.code ({ cls := "com/example/cardwright/cardwright/SplitMix64", name := "<init>", desc := "(J)V" } : Jvm.MethodName) prog_41_method_1_code (3 : Nat) (Option.none : Option Jvm.ClassFile.FieldType), Jvm.Cond.code ({ cls := "java/lang/Object", name := "<init>", desc := "()V" } : Jvm.MethodName) object_method_1_code (1 : Nat) (Option.none : Option Jvm.ClassFile.FieldType), Jvm.Cond.code ({ cls := "com/example/cardwright/cardwright/SplitMix64", name := "nextInt", desc := "()I" } : Jvm.MethodName) prog_41_method_5_code (3 : Nat) (Option.some Jvm.ClassFile.FieldType.int), Jvm.Cond.code ({ cls := "com/example/cardwright/cardwright/SplitMix64", name := "nextLong", desc := "()J" } : Jvm.MethodName) prog_41_method_4_code (1 : Nat) (Option.some Jvm.ClassFile.FieldType.long), Jvm.Cond.code ({ cls := "com/example/cardwright/cardwright/SplitMix64", name := "mix64", desc := "(J)J" } : Jvm.MethodName) prog_41_method_12_code (4 : Nat) (Option.some Jvm.ClassFile.FieldType.long), Jvm.Cond.code ({ cls := "com/example/cardwright/cardwright/SplitMix64NextIntPinLaw", name := "mix32", desc := "(J)I" } : Jvm.MethodName) method_2_code (2 : Nat) (Option.some Jvm.ClassFile.FieldType.int)]
set_option maxRecDepth 65536 in
theorem codes_eq : words1.filter isCode = codes1 := rfl
theorem w_codes : ∀ c ∈ words1.filter isCode, c.before args0 about1 = true := by
  rw [codes_eq]
  intro c hc
  simp only [codes1, List.mem_cons, List.not_mem_nil, or_false] at hc
  rcases hc with rfl | rfl | rfl | rfl | rfl | rfl | rfl
  · exact w_c0
  · exact w_c1
  · exact w_c2
  · exact w_c3
  · exact w_c4
  · exact w_c5
  · exact w_c6
set_option maxRecDepth 65536 in
theorem w_t1 : (words1.take 24).all (fun c => isCode c || c.before args0 about1) = true := by decide +kernel
set_option maxRecDepth 65536 in
theorem w_t2 : (words1.drop 24).all (fun c => isCode c || c.before args0 about1) = true := by decide +kernel
theorem w_tables : (allAtoms (Jvm.Cond.code x code maxLocals ret :: tables_1)).before args0 about1 = true := by
  rw [allAtoms_all]
  show words1.all (fun c => c.before args0 about1) = true
  refine all_split ?_ w_codes
  rw [← List.take_append_drop 24 words1, List.all_append, w_t1, w_t2]
  rfl
set_option maxRecDepth 65536 in
theorem w_case : (Jvm.Cond.and given_1 narrow_1).before args0 about1 = true := by decide +kernel
theorem w_applies : (headSpec (Jvm.Cond.code x code maxLocals ret :: tables_1) room_1).applies x e0.platform about1 = true :=
  (Spec.applies_iff w_frames).mpr ⟨w_running, w_runnable, w_alone, w_named, w_hears, w_ripe, w_room, w_tables⟩
theorem atStart : AtStart classFile x code maxLocals ret World_1 tables_1 room_1 Calls_1 rest_1 Pre_1 launch0 p0 e0 about1 theMethod args0 below0 :=
  ⟨lists_1, trivial, launch0.admits_env _ _ _, launch0.least_env, fairChoices_fair.cas, fairChoices_fair.clock, w_frames, w_args, w_heap, w_applies, trivial, trivial, w_case⟩
end start1
theorem witness_1 : WitnessClaimed_1 := ⟨start1.p0, start1.e0, start1.about1, start1.theMethod, start1.args0, start1.below0, start1.atStart⟩
end Jvm.Pilot.@@N@@
