import JvmDerived
import JvmDerived.Pilot.@@N@@Statement
import JvmDerived.Pilot.@@N@@Code
set_option linter.unusedVariables false
set_option linter.unusedSimpArgs false

namespace Jvm.Pilot.@@N@@
open Jvm Jvm.ClassFile Sem Op Lib Jvm.Free Jvm.Stand Jvm.LawKit Jvm.RoadKit Bundle Jvm.Pilot.@@N@@.Jvm.D

section OwnKit
variable {p : Program} {l : Launch} {e : Env} {R : Room} {s : State} {m : MethodId} {args : Array Value} {below : List Frame} {meth : Method} {c : Code} {T : State} {locs : List Loc} {cells slots : Nat}
def own_Go (p : Program) (e : Env) (below : List Frame) (s : State) (Q : Option Value → Heap → List Loc → Prop) (rc rs : Nat) (T : State) (g : JFrame) : Prop :=
  ∃ s₂ o, Steps p.tables e below (T.setTop g) s₂ ∧ s₂.status = .running ∧ Ended s₂ below o ∧ ∃ v L, o = .returned v ∧ Q v s₂.heap L ∧ FrameEnd s o s₂ L rc rs
variable {Q : Option Value → Heap → List Loc → Prop} {rc rs : Nat} {T' : State} {g g' : JFrame}
theorem own_step (st : ∀ target, Steps p.tables e below (T'.setTop g') target → Steps p.tables e below (T.setTop g) target) (k : own_Go p e below s Q rc rs T' g') : own_Go p e below s Q rc rs T g := by
  obtain ⟨s₂, o, h1, h2⟩ := k
  exact ⟨s₂, o, st _ h1, h2⟩
theorem own_tr (st : Steps p.tables e below (T.setTop g) (T'.setTop g')) (k : own_Go p e below s Q rc rs T' g') : own_Go p e below s Q rc rs T g := by
  obtain ⟨s₂, o, h1, h2⟩ := k
  exact ⟨s₂, o, st.trans h1, h2⟩
theorem own_cast (q : g = g') (k : own_Go p e below s Q rc rs T g') : own_Go p e below s Q rc rs T g := q ▸ k
theorem own_done (X : Stand p l e R s m args below meth c T locs cells slots) {v : Option Value} (hv : meth.sig.returnType = none → v = none) (hlk : meth.locks = false)
    (st : ∀ fs, (∀ (f : JFrame) (acts : List Action), f.method = m → f.locked = none → f.entered = [] → (doReturn e (T.setTop f) acts v).1 = T.setFrames fs) → Steps p.tables e below (T.setTop g) (T.setFrames fs))
    (hQ : Q v T.heap locs) (hc : cells ≤ rc) (hs : slots ≤ rs) : own_Go p e below s Q rc rs T g := by
  obtain ⟨fs, hr, hrun, hended, hW, hsame⟩ := X.leave (v := v) hv hlk
  exact ⟨_, _, st fs hr, hrun, hended, v, locs, rfl, hQ, ⟨_, rfl⟩, hW, hsame.mono hc hs⟩
theorem own_rN (X : Stand p l e R s m args below meth c T locs cells slots) (hx : p.tables.exec = Jvm.exec) (hlk : meth.locks = false) {t : FieldType} (hret : meth.sig.returnType = some t) (ht : t = .boolean ∨ t = .byte ∨ t = .char ∨ t = .short) {pc : Nat} {Ls : Array Slot} {z : Int32} {rest : List Value}
    (hd : decode c.code pc = .ok (.ireturn, 1)) (hQ : Q (some (.int (nar t z))) T.heap locs) (hc : cells ≤ rc) (hs : slots ≤ rs) : own_Go p e below s Q rc rs T (mkF m pc Ls (.int z :: rest)) :=
  own_done X (fun h => by rw [hret] at h; cases h) hlk (fun fs hr => retN X hx hret ht hd hr) hQ hc hs
theorem own_rI (X : Stand p l e R s m args below meth c T locs cells slots) (hx : p.tables.exec = Jvm.exec) (hlk : meth.locks = false) (hret : meth.sig.returnType = some .int) {pc : Nat} {Ls : Array Slot} {z : Int32} {rest : List Value}
    (hd : decode c.code pc = .ok (.ireturn, 1)) (hQ : Q (some (.int z)) T.heap locs) (hc : cells ≤ rc) (hs : slots ≤ rs) : own_Go p e below s Q rc rs T (mkF m pc Ls (.int z :: rest)) :=
  own_done X (fun h => by rw [hret] at h; cases h) hlk (fun fs hr => retOut X hx hret rfl (Or.inl ⟨rfl, Or.inl rfl, _, rfl⟩) hd hr) hQ hc hs
theorem own_rJ (X : Stand p l e R s m args below meth c T locs cells slots) (hx : p.tables.exec = Jvm.exec) (hlk : meth.locks = false) (hret : meth.sig.returnType = some .long) {pc : Nat} {Ls : Array Slot} {z : Int64} {rest : List Value}
    (hd : decode c.code pc = .ok (.lreturn, 1)) (hQ : Q (some (.long z)) T.heap locs) (hc : cells ≤ rc) (hs : slots ≤ rs) : own_Go p e below s Q rc rs T (mkF m pc Ls (.long z :: rest)) :=
  own_done X (fun h => by rw [hret] at h; cases h) hlk (fun fs hr => retOut X hx hret rfl (Or.inr (Or.inl ⟨rfl, rfl, _, rfl⟩)) hd hr) hQ hc hs
theorem own_narA {t : FieldType} {w : Value} (ht : t.isReference = true) (hw : w.isRef = true) : narrow t w = w := by cases t <;> cases w <;> first | rfl | cases ht | cases hw
theorem own_rA (X : Stand p l e R s m args below meth c T locs cells slots) (hx : p.tables.exec = Jvm.exec) (hlk : meth.locks = false) {t : FieldType} (hret : meth.sig.returnType = some t) (ht : t.isReference = true) {pc : Nat} {Ls : Array Slot} {w : Value} {rest : List Value} (hw : w.isRef = true)
    (hd : decode c.code pc = .ok (.areturn, 1)) (hQ : Q (some w) T.heap locs) (hc : cells ≤ rc) (hs : slots ≤ rs) : own_Go p e below s Q rc rs T (mkF m pc Ls (w :: rest)) :=
  own_done X (fun h => by rw [hret] at h; cases h) hlk (fun fs hr => retOut X hx hret (own_narA ht hw) (Or.inr (Or.inr (Or.inr (Or.inr ⟨rfl, ht, hw⟩)))) hd hr) hQ hc hs
theorem own_rV (X : Stand p l e R s m args below meth c T locs cells slots) (hx : p.tables.exec = Jvm.exec) (hlk : meth.locks = false) (hret : meth.sig.returnType = none) {pc : Nat} {Ls : Array Slot}
    (hd : decode c.code pc = .ok (.return_, 1)) (hQ : Q none T.heap locs) (hc : cells ≤ rc) (hs : slots ≤ rs) : own_Go p e below s Q rc rs T (mkF m pc Ls []) :=
  own_done X (fun _ => rfl) hlk (fun fs hr => X.returnOut hx hret hd hr) hQ hc hs
end OwnKit
def own_bit (q : Int64) (i : Int32) : Int32 := if ((q.toUInt64 >>> (i &&& 0x3f).toInt64.toUInt64).toInt64 &&& (1 : Int64)) = 0 then 0 else 1
def own_inf (q : Int64) : Int32 := if (q &&& (8935141660703064064 : Int64)) = (8646911284551352320 : Int64) then 1 else 0
def Q_rec (h0 : Heap) (n0 : Nat) (v : Option Value) (h : Heap) (L : List Loc) : Prop := v = none ∧ Fr n0 L ∧ h = h0
theorem ef_rm_rec (m : MethodId) (x0 : Addr) : entryFrame m #[(.ref x0)] 1 = mkF m 0 #[.val (.ref x0)] [] := by first | rfl | (simp [entryFrame, mkF, argsToLocals, Value.category]; done) | (simp [entryFrame, mkF, argsToLocals, Value.category] <;> rfl)
theorem pn_0 : plainName "java/lang/Record" = true := by first | (simp [plainName, overriddenIn]; done) | decide +kernel
theorem d3_0 : decode jdk_30_method_1_code 0 = .ok (.aload_n 0, 1) := by decide +kernel
theorem d3_1 : decode jdk_30_method_1_code 1 = .ok (.invokespecial 1, 3) := by decide +kernel
theorem d3_4 : decode jdk_30_method_1_code 4 = .ok (.return_, 1) := by decide +kernel
set_option maxRecDepth 65536 in
set_option maxHeartbeats 40000000 in
theorem rm_rec (l : Launch) (Z : State) (a0 : Array Value) (hw : ∀ d ∈ tables_1, d.before a0 Z = true) (ws : List Jvm.Cond) (a1 : Addr) (h0 : Heap) (n0 : Nat) (Z0 : n0 ≤ h0.size)  :
    MetFree l (⟨"java/lang/Record", "<init>", "()V"⟩ : MethodName) (head1 (Jvm.Cond.code (⟨"java/lang/Record", "<init>", "()V"⟩ : MethodName) jdk_30_method_1_code 1 none :: ws) ({ frames := 1, cells := 0, slots := 0, locals := 12 } : Room)) (fun a U => a = #[(.ref a1)] ∧ Z.Warmed39 U.vm ∧ U.heap = h0) (fun _ _ _ _ _ => True) (fun _ U o U' => ∃ v L, o = .returned v ∧ (Q_rec h0 n0) v U'.heap L ∧ FrameEnd U o U' L ({ frames := 1, cells := 0, slots := 0, locals := 12 } : Room).cells ({ frames := 1, cells := 0, slots := 0, locals := 12 } : Room).slots) := by
  refine MetFree.of_bodySF (plainFor_of_name pn_0) hisR ?_
  intro p e s m args below meth c s₁ Bd hml0 hP hK
  obtain ⟨rfl, hZ, hh⟩ := hP
  have hx := Bd.exec
  have hby := Bd.bytes
  have hlk : meth.locks = false := BodyLoose.notSynchronized Bd
  have hml : c.maxLocals = 1 := hml0
  have hown : s.vm.findClass "java/lang/Record" = some m.cls := findClass_of_methodNamed Bd.named
  have hnm := (name_of_methodNamed Bd.named Bd.method).1
  have X0 : Stand p l e ({ frames := 1, cells := 0, slots := 0, locals := 12 } : Room) s m #[(.ref a1)] below meth c s₁ [] 0 0 := Stand.of_body Bd
  have e0 : s₁.heap = h0 := by rw [← hh, Bd.state]; rfl
  have N0 := Fr.nil n0
  show own_Go p e below s (Q_rec h0 n0) ({ frames := 1, cells := 0, slots := 0, locals := 12 } : Room).cells ({ frames := 1, cells := 0, slots := 0, locals := 12 } : Room).slots s₁ (entryFrame m #[(.ref a1)] 1)
  refine own_cast (g' := (mkF m 0 #[.val (.ref a1)] [])) (ef_rm_rec m a1) ?_
  refine own_step (T' := s₁) (g' := (mkF m 1 #[.val (.ref a1)] [(.ref a1)])) (fun t k => XS.aloadN X0.here hx rfl (hb hby d3_0) rfl rfl k) ?_
  obtain ⟨T1, X1, e1, st1⟩ := initO X0 hx hZ hown (hw _ (List.mem_of_getElem? (i := 16) rfl)) (hw _ (List.mem_of_getElem? (i := 17) rfl)) (hw _ (List.mem_of_getElem? (i := 18) rfl)) e0 (g := (mkF m 1 #[.val (.ref a1)] [(.ref a1)])) rfl (by rw [hml]; rfl) rfl (hb hby d3_1) (by decide) (W := 0) (by show 2 * 0 + _ ≤ _; exact Nat.le_of_eq rfl) (by decide)
  refine own_step (T' := T1) (g' := (mkF m 4 #[.val (.ref a1)] [])) st1 ?_
  refine own_rV X1 hx hlk Bd.returns (hb hby d3_4) ?_ (by decide) (by decide)
  rw [e1]
  exact ⟨rfl, N0, rfl⟩
def Q_bit (q1 : Int64) (p2 : Int32) (h0 : Heap) (n0 : Nat) (v : Option Value) (h : Heap) (L : List Loc) : Prop := v = some (.int (own_bit q1 p2)) ∧ Fr n0 L ∧ h = h0
theorem ef_rm_bit (m : MethodId) (x0 : Int64) (x1 : Int32) : entryFrame m #[(.long x0), (.int x1)] 3 = mkF m 0 #[.val (.long x0), .second, .val (.int x1)] [] := by first | rfl | (simp [entryFrame, mkF, argsToLocals, Value.category]; done) | (simp [entryFrame, mkF, argsToLocals, Value.category] <;> rfl)
theorem pn_1 : plainName "com/example/strandcast/strandcast/bson/Decimal128IsInfinitePinLaw" = true := by first | (simp [plainName, overriddenIn]; done) | decide +kernel
theorem d1_0 : decode method_2_code 0 = .ok (.lload_n 0, 1) := by decide +kernel
theorem d1_1 : decode method_2_code 1 = .ok (.iload_n 2, 1) := by decide +kernel
theorem d1_2 : decode method_2_code 2 = .ok (.lushr, 1) := by decide +kernel
theorem d1_3 : decode method_2_code 3 = .ok (.lconst 1, 1) := by decide +kernel
theorem d1_4 : decode method_2_code 4 = .ok (.land, 1) := by decide +kernel
theorem d1_5 : decode method_2_code 5 = .ok (.lconst 0, 1) := by decide +kernel
theorem d1_6 : decode method_2_code 6 = .ok (.lcmp, 1) := by decide +kernel
theorem d1_7 : decode method_2_code 7 = .ok (.ifCond .eq 7, 3) := by decide +kernel
theorem d1_14 : decode method_2_code 14 = .ok (.iconst 0, 1) := by decide +kernel
theorem d1_15 : decode method_2_code 15 = .ok (.ireturn, 1) := by decide +kernel
theorem d1_10 : decode method_2_code 10 = .ok (.iconst 1, 1) := by decide +kernel
theorem d1_11 : decode method_2_code 11 = .ok (.goto 4, 3) := by decide +kernel
set_option maxRecDepth 65536 in
set_option maxHeartbeats 40000000 in
theorem rm_bit (l : Launch) (Z : State) (a0 : Array Value) (hw : ∀ d ∈ tables_1, d.before a0 Z = true) (ws : List Jvm.Cond) (q1 : Int64) (p2 : Int32) (h0 : Heap) (n0 : Nat) (Z0 : n0 ≤ h0.size)  :
    MetFree l (⟨"com/example/strandcast/strandcast/bson/Decimal128IsInfinitePinLaw", "bit", "(JI)Z"⟩ : MethodName) (head1 (Jvm.Cond.code (⟨"com/example/strandcast/strandcast/bson/Decimal128IsInfinitePinLaw", "bit", "(JI)Z"⟩ : MethodName) method_2_code 3 (some (.boolean)) :: ws) ({ frames := 0, cells := 0, slots := 0, locals := 0 } : Room)) (fun a U => a = #[(.long q1), (.int p2)] ∧ Z.Warmed39 U.vm ∧ U.heap = h0) (fun _ _ _ _ _ => True) (fun _ U o U' => ∃ v L, o = .returned v ∧ (Q_bit q1 p2 h0 n0) v U'.heap L ∧ FrameEnd U o U' L ({ frames := 0, cells := 0, slots := 0, locals := 0 } : Room).cells ({ frames := 0, cells := 0, slots := 0, locals := 0 } : Room).slots) := by
  refine MetFree.of_bodySF (plainFor_of_name pn_1) hisR ?_
  intro p e s m args below meth c s₁ Bd hml0 hP hK
  obtain ⟨rfl, hZ, hh⟩ := hP
  have hx := Bd.exec
  have hby := Bd.bytes
  have hlk : meth.locks = false := BodyLoose.notSynchronized Bd
  have hml : c.maxLocals = 3 := hml0
  have hown : s.vm.findClass "com/example/strandcast/strandcast/bson/Decimal128IsInfinitePinLaw" = some m.cls := findClass_of_methodNamed Bd.named
  have hnm := (name_of_methodNamed Bd.named Bd.method).1
  have X0 : Stand p l e ({ frames := 0, cells := 0, slots := 0, locals := 0 } : Room) s m #[(.long q1), (.int p2)] below meth c s₁ [] 0 0 := Stand.of_body Bd
  have e0 : s₁.heap = h0 := by rw [← hh, Bd.state]; rfl
  have N0 := Fr.nil n0
  show own_Go p e below s (Q_bit q1 p2 h0 n0) ({ frames := 0, cells := 0, slots := 0, locals := 0 } : Room).cells ({ frames := 0, cells := 0, slots := 0, locals := 0 } : Room).slots s₁ (entryFrame m #[(.long q1), (.int p2)] 3)
  refine own_cast (g' := (mkF m 0 #[.val (.long q1), .second, .val (.int p2)] [])) (ef_rm_bit m q1 p2) ?_
  refine own_step (T' := s₁) (g' := (mkF m 1 #[.val (.long q1), .second, .val (.int p2)] [(.long q1)])) (fun t k => XS.lloadN X0.here hx rfl (hb hby d1_0) rfl k) ?_
  refine own_step (T' := s₁) (g' := (mkF m 2 #[.val (.long q1), .second, .val (.int p2)] [(.int p2), (.long q1)])) (fun t k => XS.iloadN X0.here hx rfl (hb hby d1_1) rfl k) ?_
  refine own_step (T' := s₁) (g' := (mkF m 3 #[.val (.long q1), .second, .val (.int p2)] [(.long ((q1.toUInt64 >>> (p2 &&& 0x3f).toInt64.toUInt64).toInt64))])) (fun t k => XS.lushr X0.here hx rfl (hb hby d1_2) rfl k) ?_
  refine own_step (T' := s₁) (g' := (mkF m 4 #[.val (.long q1), .second, .val (.int p2)] [(.long (1 : Int64)), (.long ((q1.toUInt64 >>> (p2 &&& 0x3f).toInt64.toUInt64).toInt64))])) (fun t k => XS.lconst X0.here hx rfl (hb hby d1_3) k) ?_
  refine own_step (T' := s₁) (g' := (mkF m 5 #[.val (.long q1), .second, .val (.int p2)] [(.long (((q1.toUInt64 >>> (p2 &&& 0x3f).toInt64.toUInt64).toInt64) &&& (1 : Int64)))])) (fun t k => XS.land X0.here hx rfl (hb hby d1_4) rfl k) ?_
  refine own_step (T' := s₁) (g' := (mkF m 6 #[.val (.long q1), .second, .val (.int p2)] [(.long (0 : Int64)), (.long (((q1.toUInt64 >>> (p2 &&& 0x3f).toInt64.toUInt64).toInt64) &&& (1 : Int64)))])) (fun t k => XS.lconst X0.here hx rfl (hb hby d1_5) k) ?_
  refine own_step (T' := s₁) (g' := (mkF m 7 #[.val (.long q1), .second, .val (.int p2)] [(.int (lcmpW (((q1.toUInt64 >>> (p2 &&& 0x3f).toInt64.toUInt64).toInt64) &&& (1 : Int64)) (0 : Int64)))])) (fun t k => XS.lcmp X0.here hx rfl (hb hby d1_6) rfl k) ?_
  by_cases c7 : (((q1.toUInt64 >>> (p2 &&& 0x3f).toInt64.toUInt64).toInt64) &&& (1 : Int64)) = (0 : Int64)
  · refine own_step (T' := s₁) (g' := (mkF m 14 #[.val (.long q1), .second, .val (.int p2)] [])) (fun t k => XS.ifYes X0.here hx rfl (pc0 := 7) (pc' := 14) rfl (hb hby d1_7) rfl ((if0 _ _).trans (teq ((lw_eq _ _).mpr c7)).1) (by decide) (by decide) k) ?_
    refine own_step (T' := s₁) (g' := (mkF m 15 #[.val (.long q1), .second, .val (.int p2)] [(.int (0 : Int32))])) (fun t k => XS.iconst X0.here hx rfl (hb hby d1_14) k) ?_
    refine own_rN X0 hx hlk Bd.returns (by simp) (hb hby d1_15) ?_ (by decide) (by decide)
    rw [e0]
    exact ⟨by simp only [own_bit, c7, if_true, if_false]; rfl, N0, rfl⟩
  · refine own_step (T' := s₁) (g' := (mkF m 10 #[.val (.long q1), .second, .val (.int p2)] [])) (fun t k => XS.ifNo X0.here hx rfl (hb hby d1_7) rfl ((if0 _ _).trans (feq (fun q => c7 ((lw_eq _ _).mp q))).1) k) ?_
    refine own_step (T' := s₁) (g' := (mkF m 11 #[.val (.long q1), .second, .val (.int p2)] [(.int (1 : Int32))])) (fun t k => XS.iconst X0.here hx rfl (hb hby d1_10) k) ?_
    refine own_step (T' := s₁) (g' := (mkF m 15 #[.val (.long q1), .second, .val (.int p2)] [(.int (1 : Int32))])) (fun t k => XS.goto X0.here hx rfl (pc0 := 11) (pc' := 15) rfl (hb hby d1_11) (by decide) (by decide) k) ?_
    refine own_rN X0 hx hlk Bd.returns (by simp) (hb hby d1_15) ?_ (by decide) (by decide)
    rw [e0]
    exact ⟨by simp only [own_bit, c7, if_true, if_false]; rfl, N0, rfl⟩
def Q_init (Z : State) (a1 : Addr) (q2 : Int64) (h0 : Heap) (n0 : Nat) (v : Option Value) (h : Heap) (L : List Loc) : Prop := v = none ∧ Fr n0 L ∧ Keep h0 h [a1] ∧ Exa Z h a1 "com/example/strandcast/strandcast/bson/Decimal128" ∧ Fld Z h a1 "com/example/strandcast/strandcast/bson/Decimal128" "high" "J" (.long q2)
theorem ef_rm_init (m : MethodId) (x0 : Addr) (x1 : Int64) (x2 : Int64) : entryFrame m #[(.ref x0), (.long x1), (.long x2)] 5 = mkF m 0 #[.val (.ref x0), .val (.long x1), .second, .val (.long x2), .second] [] := by first | rfl | (simp [entryFrame, mkF, argsToLocals, Value.category]; done) | (simp [entryFrame, mkF, argsToLocals, Value.category] <;> rfl)
theorem pn_2 : plainName "com/example/strandcast/strandcast/bson/Decimal128" = true := by first | (simp [plainName, overriddenIn]; done) | decide +kernel
theorem d2_0 : decode prog_15_method_1_code 0 = .ok (.aload_n 0, 1) := by decide +kernel
theorem pd_0 : parseMethodDescriptor "()V" = some ⟨[], none⟩ := by decide +kernel
theorem d2_1 : decode prog_15_method_1_code 1 = .ok (.invokespecial 3, 3) := by decide +kernel
theorem d2_4 : decode prog_15_method_1_code 4 = .ok (.aload_n 0, 1) := by decide +kernel
theorem d2_5 : decode prog_15_method_1_code 5 = .ok (.lload_n 1, 1) := by decide +kernel
theorem d2_6 : decode prog_15_method_1_code 6 = .ok (.putfield 9, 3) := by decide +kernel
theorem d2_9 : decode prog_15_method_1_code 9 = .ok (.aload_n 0, 1) := by decide +kernel
theorem d2_10 : decode prog_15_method_1_code 10 = .ok (.lload_n 3, 1) := by decide +kernel
theorem d2_11 : decode prog_15_method_1_code 11 = .ok (.putfield 13, 3) := by decide +kernel
theorem d2_14 : decode prog_15_method_1_code 14 = .ok (.return_, 1) := by decide +kernel
set_option maxRecDepth 65536 in
set_option maxHeartbeats 40000000 in
theorem rm_init (l : Launch) (Z : State) (a0 : Array Value) (hw : ∀ d ∈ tables_1, d.before a0 Z = true) (ws : List Jvm.Cond) (a1 : Addr) (q2 : Int64) (q3 : Int64) (u1 : Value) (u2 : Value) (h0 : Heap) (n0 : Nat) (Z0 : n0 ≤ h0.size) (E_a : Exa Z h0 a1 "com/example/strandcast/strandcast/bson/Decimal128") (F_h : Fld Z h0 a1 "com/example/strandcast/strandcast/bson/Decimal128" "high" "J" u1) (F_l : Fld Z h0 a1 "com/example/strandcast/strandcast/bson/Decimal128" "low" "J" u2) (o_a : n0 ≤ a1) :
    MetFree l (⟨"com/example/strandcast/strandcast/bson/Decimal128", "<init>", "(JJ)V"⟩ : MethodName) (head1 (Jvm.Cond.code (⟨"com/example/strandcast/strandcast/bson/Decimal128", "<init>", "(JJ)V"⟩ : MethodName) prog_15_method_1_code 5 none :: ws) ({ frames := 2, cells := 0, slots := 0, locals := 24 } : Room)) (fun a U => a = #[(.ref a1), (.long q2), (.long q3)] ∧ Z.Warmed39 U.vm ∧ U.heap = h0) (fun _ _ _ _ _ => True) (fun _ U o U' => ∃ v L, o = .returned v ∧ (Q_init Z a1 q2 h0 n0) v U'.heap L ∧ FrameEnd U o U' L ({ frames := 2, cells := 0, slots := 0, locals := 24 } : Room).cells ({ frames := 2, cells := 0, slots := 0, locals := 24 } : Room).slots) := by
  refine MetFree.of_bodySF (plainFor_of_name pn_2) hisR ?_
  intro p e s m args below meth c s₁ Bd hml0 hP hK
  obtain ⟨rfl, hZ, hh⟩ := hP
  have hx := Bd.exec
  have hby := Bd.bytes
  have hlk : meth.locks = false := BodyLoose.notSynchronized Bd
  have hml : c.maxLocals = 5 := hml0
  have hown : s.vm.findClass "com/example/strandcast/strandcast/bson/Decimal128" = some m.cls := findClass_of_methodNamed Bd.named
  have hnm := (name_of_methodNamed Bd.named Bd.method).1
  have X0 : Stand p l e ({ frames := 2, cells := 0, slots := 0, locals := 24 } : Room) s m #[(.ref a1), (.long q2), (.long q3)] below meth c s₁ [] 0 0 := Stand.of_body Bd
  have e0 : s₁.heap = h0 := by rw [← hh, Bd.state]; rfl
  have N0 := Fr.nil n0
  show own_Go p e below s (Q_init Z a1 q2 h0 n0) ({ frames := 2, cells := 0, slots := 0, locals := 24 } : Room).cells ({ frames := 2, cells := 0, slots := 0, locals := 24 } : Room).slots s₁ (entryFrame m #[(.ref a1), (.long q2), (.long q3)] 5)
  refine own_cast (g' := (mkF m 0 #[.val (.ref a1), .val (.long q2), .second, .val (.long q3), .second] [])) (ef_rm_init m a1 q2 q3) ?_
  have K0 : Keep h0 h0 [a1] := Keep.refl _ _
  refine own_step (T' := s₁) (g' := (mkF m 1 #[.val (.ref a1), .val (.long q2), .second, .val (.long q3), .second] [(.ref a1)])) (fun t k => XS.aloadN X0.here hx rfl (hb hby d2_0) rfl rfl k) ?_
  obtain ⟨_, _, ⟨T2, L2, k2, n2⟩, -, X2, ⟨Lc2, hQ2, l2, y2, z2⟩, st2⟩ := X0.specialBack hx (y := (⟨"java/lang/Record", "<init>", "()V"⟩ : MethodName)) rfl hown (mvT hZ (hw _ (List.mem_of_getElem? (i := 11) rfl))) (mvT hZ (hw _ (List.mem_of_getElem? (i := 12) rfl))) (mvT hZ (hw _ (List.mem_of_getElem? (i := 15) rfl))) (by decide) (backOf (W := 0) (rm_rec l Z a0 hw [] a1 h0 n0 Z0 ) hZ (hw _ (List.mem_of_getElem? (i := 15) rfl)) (hw _ (List.mem_of_getElem? (i := 14) rfl)) (by decide) (by decide)) (g := (mkF m 1 #[.val (.ref a1), .val (.long q2), .second, .val (.long q3), .second] [(.ref a1)])) rfl (by rw [hml]; rfl) (Steps.refl _) (a := a1) (argsL := []) (rest := []) (lenOf pd_0 rfl) rfl (by show 2 * 0 + _ ≤ _; exact Nat.le_of_eq rfl) (hb hby d2_1) (fun _ _ => ⟨rfl, e0, (by decide : 0 + 0 ≤ _), (by decide : 0 + 0 ≤ _)⟩)
  dsimp only [Pt.U, Pt.locs, Pt.cells, Pt.slots] at X2 l2 y2 z2 st2 hQ2
  subst l2 y2 z2
  obtain ⟨rfl, Nq2, eq1⟩ := hQ2
  have N2 := Fr.app N0 Nq2
  refine own_tr (T' := T2) (g' := (mkF m 4 #[.val (.ref a1), .val (.long q2), .second, .val (.long q3), .second] [])) st2 ?_
  refine own_step (T' := T2) (g' := (mkF m 5 #[.val (.ref a1), .val (.long q2), .second, .val (.long q3), .second] [(.ref a1)])) (fun t k => XS.aloadN X2.here hx rfl (hb hby d2_4) rfl rfl k) ?_
  refine own_step (T' := T2) (g' := (mkF m 6 #[.val (.ref a1), .val (.long q2), .second, .val (.long q3), .second] [(.long q2), (.ref a1)])) (fun t k => XS.lloadN X2.here hx rfl (hb hby d2_5) rfl k) ?_
  obtain ⟨T3, h3, X3, e3, W3, st3⟩ := putF X2 hx hZ hown (host := "") (Or.inl (hw _ (List.mem_of_getElem? (i := 19) rfl))) Via.refl eq1 F_h E_a (Or.inr ⟨(hw _ (List.mem_of_getElem? (i := 20) rfl)), rfl, hnm⟩) (hw _ (List.mem_of_getElem? (i := 6) rfl)) (ty := .long) (by decide) rfl rfl (g := (mkF m 6 #[.val (.ref a1), .val (.long q2), .second, .val (.long q3), .second] [(.long q2), (.ref a1)])) rfl rfl (hb hby d2_6)
  have g4 : Exa Z h3 a1 "com/example/strandcast/strandcast/bson/Decimal128" := E_a.wr W3
  have g5 : Fld Z h3 a1 "com/example/strandcast/strandcast/bson/Decimal128" "high" "J" (.long q2) := F_h.same W3
  have g6 : Fld Z h3 a1 "com/example/strandcast/strandcast/bson/Decimal128" "low" "J" u2 := F_l.other W3 (Or.inr (slot_ne (Or.inr (hw _ (List.mem_of_getElem? (i := 22) rfl))) (Or.inr (hw _ (List.mem_of_getElem? (i := 20) rfl))) (by decide) (t := .long) (t' := .long) (by decide) (by decide)))
  have K7 : Keep h0 h3 [a1] := K0.wr W3 (Or.inl (List.mem_of_getElem? (i := 0) rfl))
  have N3 := Fr.snoc X3 N2 o_a
  have Z3 : n0 ≤ h3.size := (Nat.le_trans Z0 (Nat.le_of_eq W3.size.symm))
  refine own_step (T' := T3) (g' := (mkF m 9 #[.val (.ref a1), .val (.long q2), .second, .val (.long q3), .second] [])) st3 ?_
  refine own_step (T' := T3) (g' := (mkF m 10 #[.val (.ref a1), .val (.long q2), .second, .val (.long q3), .second] [(.ref a1)])) (fun t k => XS.aloadN X3.here hx rfl (hb hby d2_9) rfl rfl k) ?_
  refine own_step (T' := T3) (g' := (mkF m 11 #[.val (.ref a1), .val (.long q2), .second, .val (.long q3), .second] [(.long q3), (.ref a1)])) (fun t k => XS.lloadN X3.here hx rfl (hb hby d2_10) rfl k) ?_
  obtain ⟨T8, h8, X8, e8, W8, st8⟩ := putF X3 hx hZ hown (host := "") (Or.inl (hw _ (List.mem_of_getElem? (i := 21) rfl))) Via.refl e3 g6 g4 (Or.inr ⟨(hw _ (List.mem_of_getElem? (i := 22) rfl)), rfl, hnm⟩) (hw _ (List.mem_of_getElem? (i := 6) rfl)) (ty := .long) (by decide) rfl rfl (g := (mkF m 11 #[.val (.ref a1), .val (.long q2), .second, .val (.long q3), .second] [(.long q3), (.ref a1)])) rfl rfl (hb hby d2_11)
  have g9 : Exa Z h8 a1 "com/example/strandcast/strandcast/bson/Decimal128" := g4.wr W8
  have g10 : Fld Z h8 a1 "com/example/strandcast/strandcast/bson/Decimal128" "high" "J" (.long q2) := g5.other W8 (Or.inr (slot_ne (Or.inr (hw _ (List.mem_of_getElem? (i := 20) rfl))) (Or.inr (hw _ (List.mem_of_getElem? (i := 22) rfl))) (by decide) (t := .long) (t' := .long) (by decide) (by decide)))
  have g11 : Fld Z h8 a1 "com/example/strandcast/strandcast/bson/Decimal128" "low" "J" (.long q3) := g6.same W8
  have K12 : Keep h0 h8 [a1] := K7.wr W8 (Or.inl (List.mem_of_getElem? (i := 0) rfl))
  have N8 := Fr.snoc X8 N3 o_a
  have Z8 : n0 ≤ h8.size := (Nat.le_trans Z3 (Nat.le_of_eq W8.size.symm))
  refine own_step (T' := T8) (g' := (mkF m 14 #[.val (.ref a1), .val (.long q2), .second, .val (.long q3), .second] [])) st8 ?_
  refine own_rV X8 hx hlk Bd.returns (hb hby d2_14) ?_ (by decide) (by decide)
  rw [e8]
  exact ⟨rfl, N8, K12, g9, g10⟩
def Q_inf (a1 : Addr) (q2 : Int64) (h0 : Heap) (n0 : Nat) (v : Option Value) (h : Heap) (L : List Loc) : Prop := v = some (.int (own_inf q2)) ∧ Fr n0 L ∧ h = h0
theorem ef_rm_inf (m : MethodId) (x0 : Addr) : entryFrame m #[(.ref x0)] 1 = mkF m 0 #[.val (.ref x0)] [] := by first | rfl | (simp [entryFrame, mkF, argsToLocals, Value.category]; done) | (simp [entryFrame, mkF, argsToLocals, Value.category] <;> rfl)
theorem d5_0 : decode prog_15_method_4_code 0 = .ok (.aload_n 0, 1) := by decide +kernel
theorem d5_1 : decode prog_15_method_4_code 1 = .ok (.getfield 9, 3) := by decide +kernel
theorem d5_4 : decode prog_15_method_4_code 4 = .ok (.ldc2_w 91, 3) := by decide +kernel
theorem d5_7 : decode prog_15_method_4_code 7 = .ok (.land, 1) := by decide +kernel
theorem d5_8 : decode prog_15_method_4_code 8 = .ok (.ldc2_w 93, 3) := by decide +kernel
theorem d5_11 : decode prog_15_method_4_code 11 = .ok (.lcmp, 1) := by decide +kernel
theorem d5_12 : decode prog_15_method_4_code 12 = .ok (.ifCond .ne 7, 3) := by decide +kernel
theorem d5_15 : decode prog_15_method_4_code 15 = .ok (.iconst 1, 1) := by decide +kernel
theorem d5_16 : decode prog_15_method_4_code 16 = .ok (.goto 4, 3) := by decide +kernel
theorem d5_20 : decode prog_15_method_4_code 20 = .ok (.ireturn, 1) := by decide +kernel
theorem d5_19 : decode prog_15_method_4_code 19 = .ok (.iconst 0, 1) := by decide +kernel
set_option maxRecDepth 65536 in
set_option maxHeartbeats 40000000 in
theorem rm_inf (l : Launch) (Z : State) (a0 : Array Value) (hw : ∀ d ∈ tables_1, d.before a0 Z = true) (ws : List Jvm.Cond) (a1 : Addr) (q2 : Int64) (h0 : Heap) (n0 : Nat) (Z0 : n0 ≤ h0.size) (F_h : Fld Z h0 a1 "com/example/strandcast/strandcast/bson/Decimal128" "high" "J" (.long q2)) :
    MetFree l (⟨"com/example/strandcast/strandcast/bson/Decimal128", "isInfinite", "()Z"⟩ : MethodName) (head1 (Jvm.Cond.code (⟨"com/example/strandcast/strandcast/bson/Decimal128", "isInfinite", "()Z"⟩ : MethodName) prog_15_method_4_code 1 (some (.boolean)) :: ws) ({ frames := 0, cells := 0, slots := 0, locals := 0 } : Room)) (fun a U => a = #[(.ref a1)] ∧ Z.Warmed39 U.vm ∧ U.heap = h0) (fun _ _ _ _ _ => True) (fun _ U o U' => ∃ v L, o = .returned v ∧ (Q_inf a1 q2 h0 n0) v U'.heap L ∧ FrameEnd U o U' L ({ frames := 0, cells := 0, slots := 0, locals := 0 } : Room).cells ({ frames := 0, cells := 0, slots := 0, locals := 0 } : Room).slots) := by
  refine MetFree.of_bodySF (plainFor_of_name pn_2) hisR ?_
  intro p e s m args below meth c s₁ Bd hml0 hP hK
  obtain ⟨rfl, hZ, hh⟩ := hP
  have hx := Bd.exec
  have hby := Bd.bytes
  have hlk : meth.locks = false := BodyLoose.notSynchronized Bd
  have hml : c.maxLocals = 1 := hml0
  have hown : s.vm.findClass "com/example/strandcast/strandcast/bson/Decimal128" = some m.cls := findClass_of_methodNamed Bd.named
  have hnm := (name_of_methodNamed Bd.named Bd.method).1
  have X0 : Stand p l e ({ frames := 0, cells := 0, slots := 0, locals := 0 } : Room) s m #[(.ref a1)] below meth c s₁ [] 0 0 := Stand.of_body Bd
  have e0 : s₁.heap = h0 := by rw [← hh, Bd.state]; rfl
  have N0 := Fr.nil n0
  show own_Go p e below s (Q_inf a1 q2 h0 n0) ({ frames := 0, cells := 0, slots := 0, locals := 0 } : Room).cells ({ frames := 0, cells := 0, slots := 0, locals := 0 } : Room).slots s₁ (entryFrame m #[(.ref a1)] 1)
  refine own_cast (g' := (mkF m 0 #[.val (.ref a1)] [])) (ef_rm_inf m a1) ?_
  refine own_step (T' := s₁) (g' := (mkF m 1 #[.val (.ref a1)] [(.ref a1)])) (fun t k => XS.aloadN X0.here hx rfl (hb hby d5_0) rfl rfl k) ?_
  obtain ⟨T1, X1, e1, st1⟩ := getF X0 hx hZ hown (host := "") (Or.inl (hw _ (List.mem_of_getElem? (i := 19) rfl))) Via.refl e0 F_h (g := (mkF m 1 #[.val (.ref a1)] [(.ref a1)])) rfl rfl (hb hby d5_1)
  refine own_step (T' := T1) (g' := (mkF m 4 #[.val (.ref a1)] [(.long q2)])) st1 ?_
  refine own_step (T' := T1) (g' := (mkF m 7 #[.val (.ref a1)] [(.long (8935141660703064064 : Int64)), (.long q2)])) (X1.ldc2Long hx hown (mvT hZ (hw _ (List.mem_of_getElem? (i := 30) rfl))) (g := (mkF m 4 #[.val (.ref a1)] [(.long q2)])) rfl (hb hby d5_4)) ?_
  refine own_step (T' := T1) (g' := (mkF m 8 #[.val (.ref a1)] [(.long (q2 &&& (8935141660703064064 : Int64)))])) (fun t k => XS.land X1.here hx rfl (hb hby d5_7) rfl k) ?_
  refine own_step (T' := T1) (g' := (mkF m 11 #[.val (.ref a1)] [(.long (8646911284551352320 : Int64)), (.long (q2 &&& (8935141660703064064 : Int64)))])) (X1.ldc2Long hx hown (mvT hZ (hw _ (List.mem_of_getElem? (i := 31) rfl))) (g := (mkF m 8 #[.val (.ref a1)] [(.long (q2 &&& (8935141660703064064 : Int64)))])) rfl (hb hby d5_8)) ?_
  refine own_step (T' := T1) (g' := (mkF m 12 #[.val (.ref a1)] [(.int (lcmpW (q2 &&& (8935141660703064064 : Int64)) (8646911284551352320 : Int64)))])) (fun t k => XS.lcmp X1.here hx rfl (hb hby d5_11) rfl k) ?_
  by_cases c12 : (q2 &&& (8935141660703064064 : Int64)) = (8646911284551352320 : Int64)
  · refine own_step (T' := T1) (g' := (mkF m 15 #[.val (.ref a1)] [])) (fun t k => XS.ifNo X1.here hx rfl (hb hby d5_12) rfl ((if0 _ _).trans (teq ((lw_eq _ _).mpr c12)).2) k) ?_
    refine own_step (T' := T1) (g' := (mkF m 16 #[.val (.ref a1)] [(.int (1 : Int32))])) (fun t k => XS.iconst X1.here hx rfl (hb hby d5_15) k) ?_
    refine own_step (T' := T1) (g' := (mkF m 20 #[.val (.ref a1)] [(.int (1 : Int32))])) (fun t k => XS.goto X1.here hx rfl (pc0 := 16) (pc' := 20) rfl (hb hby d5_16) (by decide) (by decide) k) ?_
    refine own_rN X1 hx hlk Bd.returns (by simp) (hb hby d5_20) ?_ (by decide) (by decide)
    rw [e1]
    exact ⟨by simp only [own_inf, c12, if_true, if_false]; rfl, N0, rfl⟩
  · refine own_step (T' := T1) (g' := (mkF m 19 #[.val (.ref a1)] [])) (fun t k => XS.ifYes X1.here hx rfl (pc0 := 12) (pc' := 19) rfl (hb hby d5_12) rfl ((if0 _ _).trans (feq (fun q => c12 ((lw_eq _ _).mp q))).2) (by decide) (by decide) k) ?_
    refine own_step (T' := T1) (g' := (mkF m 20 #[.val (.ref a1)] [(.int (0 : Int32))])) (fun t k => XS.iconst X1.here hx rfl (hb hby d5_19) k) ?_
    refine own_rN X1 hx hlk Bd.returns (by simp) (hb hby d5_20) ?_ (by decide) (by decide)
    rw [e1]
    exact ⟨by simp only [own_inf, c12, if_true, if_false]; rfl, N0, rfl⟩
theorem own_mM : ∀ i : Fin 64, (8935141660703064064#64).getLsbD i.val = (decide (58 ≤ i.val) && decide (i.val ≤ 62)) := by decide +kernel
theorem own_mN : ∀ i : Fin 64, (8646911284551352320#64).getLsbD i.val = (decide (59 ≤ i.val) && decide (i.val ≤ 62)) := by decide +kernel
theorem own_one : ∀ i : Fin 64, (1#64).getLsbD i.val = decide (i.val = 0) := by decide +kernel
theorem own_top : ∀ i : Fin 63, (0x8000000000000000#64).getLsbD i.val = false := by decide +kernel
theorem own_infB (b : BitVec 64) : (b &&& 8935141660703064064#64) = 8646911284551352320#64 ↔ (b.getLsbD 62 = true ∧ b.getLsbD 61 = true ∧ b.getLsbD 60 = true ∧ b.getLsbD 59 = true ∧ b.getLsbD 58 = false) := by
  constructor
  · intro h
    have g : ∀ i : Fin 64, (b.getLsbD i.val && (8935141660703064064#64).getLsbD i.val) = (8646911284551352320#64).getLsbD i.val := fun i => by rw [← BitVec.getLsbD_and, h]
    have g62 : b.getLsbD 62 = true := by
      have q := g ⟨62, by omega⟩
      rw [own_mM, own_mN] at q
      simpa using q
    have g61 : b.getLsbD 61 = true := by
      have q := g ⟨61, by omega⟩
      rw [own_mM, own_mN] at q
      simpa using q
    have g60 : b.getLsbD 60 = true := by
      have q := g ⟨60, by omega⟩
      rw [own_mM, own_mN] at q
      simpa using q
    have g59 : b.getLsbD 59 = true := by
      have q := g ⟨59, by omega⟩
      rw [own_mM, own_mN] at q
      simpa using q
    have g58 : b.getLsbD 58 = false := by
      have q := g ⟨58, by omega⟩
      rw [own_mM, own_mN] at q
      simpa using q
    exact ⟨g62, g61, g60, g59, g58⟩
  · rintro ⟨h1, h2, h3, h4, h5⟩
    apply BitVec.eq_of_getLsbD_eq
    intro i hi
    rw [BitVec.getLsbD_and, own_mM ⟨i, hi⟩, own_mN ⟨i, hi⟩]
    by_cases c : 58 ≤ i ∧ i ≤ 62
    · have : i = 58 ∨ i = 59 ∨ i = 60 ∨ i = 61 ∨ i = 62 := by omega
      rcases this with rfl | rfl | rfl | rfl | rfl 
      · rw [h5]; rfl
      · rw [h4]; rfl
      · rw [h3]; rfl
      · rw [h2]; rfl
      · rw [h1]; rfl
    · have c1 : (decide (58 ≤ i) && decide (i ≤ 62)) = false := by
        rw [← Bool.not_eq_true, Bool.and_eq_true, decide_eq_true_eq, decide_eq_true_eq]; exact c
      have c2 : (decide (59 ≤ i) && decide (i ≤ 62)) = false := by
        rw [← Bool.not_eq_true, Bool.and_eq_true, decide_eq_true_eq, decide_eq_true_eq]; omega
      simp only [c1, c2, Bool.and_false]
theorem own_bitB (q : Int64) (i : Int32) (k : Nat) (e : (i &&& 0x3f).toInt64.toUInt64.toNat = k) (hk : k < 64) : own_bit q i = if q.toBitVec.getLsbD k = true then 1 else 0 := by
  have h1 : ((q.toUInt64 >>> (i &&& 0x3f).toInt64.toUInt64).toInt64 &&& (1 : Int64)).toBitVec = (q.toBitVec >>> k) &&& 1#64 := by
    rw [Int64.toBitVec_and]
    show (q.toUInt64 >>> (i &&& 0x3f).toInt64.toUInt64).toBitVec &&& _ = _
    rw [UInt64.toBitVec_shiftRight]
    have e2 : (i &&& 0x3f).toInt64.toUInt64.toBitVec.toNat = k := e
    have e3 : ((i &&& 0x3f).toInt64.toUInt64.toBitVec % 64).toNat = k := by rw [BitVec.toNat_umod, e2]; exact Nat.mod_eq_of_lt hk
    rw [BitVec.ushiftRight_eq', e3]
    rfl
  have h2 : (((q.toUInt64 >>> (i &&& 0x3f).toInt64.toUInt64).toInt64 &&& (1 : Int64)) = 0) ↔ q.toBitVec.getLsbD k = false := by
    rw [← Int64.toBitVec_inj, h1]
    constructor
    · intro h
      have g := congrArg (fun z => BitVec.getLsbD z 0) h
      simp only [BitVec.getLsbD_and, BitVec.getLsbD_ushiftRight] at g
      simpa using g
    · intro h
      apply BitVec.eq_of_getLsbD_eq
      intro j hj
      rw [BitVec.getLsbD_and, own_one ⟨j, hj⟩, BitVec.getLsbD_ushiftRight]
      by_cases c : j = 0
      · subst c; simp [h]
      · simp [c]
  unfold own_bit
  by_cases c : q.toBitVec.getLsbD k = true
  · rw [if_neg (fun z => by rw [h2.mp z] at c; cases c), if_pos c]
  · rw [if_pos (h2.mpr (Bool.not_eq_true _ ▸ c)), if_neg c]
def own_all (b : BitVec 64) : Prop := b.getLsbD 62 = true ∧ b.getLsbD 61 = true ∧ b.getLsbD 60 = true ∧ b.getLsbD 59 = true ∧ b.getLsbD 58 = false
theorem own_inf_t {q : Int64} (h : own_all q.toBitVec) : own_inf q = 1 := by
  have : (q &&& (8935141660703064064 : Int64)) = (8646911284551352320 : Int64) := by
    rw [← Int64.toBitVec_inj, Int64.toBitVec_and]
    exact (own_infB _).mpr h
  simp only [own_inf, this, if_true]
theorem own_inf_f {q : Int64} (h : ¬ own_all q.toBitVec) : own_inf q = 0 := by
  have : ¬ (q &&& (8935141660703064064 : Int64)) = (8646911284551352320 : Int64) := fun e => by
    rw [← Int64.toBitVec_inj, Int64.toBitVec_and] at e
    exact h ((own_infB _).mp e)
  simp only [own_inf, this, if_false]
theorem own_flip (q : Int64) : own_all (q ^^^ ((-9223372036854775808) : Int64)).toBitVec ↔ own_all q.toBitVec := by
  have e : ∀ i : Fin 63, (q ^^^ ((-9223372036854775808) : Int64)).toBitVec.getLsbD i.val = q.toBitVec.getLsbD i.val := fun i => by
    rw [Int64.toBitVec_xor, BitVec.getLsbD_xor]
    have : ((-9223372036854775808) : Int64).toBitVec = 0x8000000000000000#64 := rfl
    rw [this, own_top i, Bool.xor_false]
  simp only [own_all]
  rw [show (q ^^^ ((-9223372036854775808) : Int64)).toBitVec.getLsbD 62 = _ from e 62, show (q ^^^ ((-9223372036854775808) : Int64)).toBitVec.getLsbD 61 = _ from e 61, show (q ^^^ ((-9223372036854775808) : Int64)).toBitVec.getLsbD 60 = _ from e 60, show (q ^^^ ((-9223372036854775808) : Int64)).toBitVec.getLsbD 59 = _ from e 59, show (q ^^^ ((-9223372036854775808) : Int64)).toBitVec.getLsbD 58 = _ from e 58]
  exact Iff.rfl
theorem own_b62 (q : Int64) : own_bit q (62 : Int32) = if q.toBitVec.getLsbD 62 = true then 1 else 0 := own_bitB q 62 62 (by decide) (by decide)
theorem own_b61 (q : Int64) : own_bit q (61 : Int32) = if q.toBitVec.getLsbD 61 = true then 1 else 0 := own_bitB q 61 61 (by decide) (by decide)
theorem own_b60 (q : Int64) : own_bit q (60 : Int32) = if q.toBitVec.getLsbD 60 = true then 1 else 0 := own_bitB q 60 60 (by decide) (by decide)
theorem own_b59 (q : Int64) : own_bit q (59 : Int32) = if q.toBitVec.getLsbD 59 = true then 1 else 0 := own_bitB q 59 59 (by decide) (by decide)
theorem own_b58 (q : Int64) : own_bit q (58 : Int32) = if q.toBitVec.getLsbD 58 = true then 1 else 0 := own_bitB q 58 58 (by decide) (by decide)
theorem own_ite1 {c : Prop} [Decidable c] (h : ¬ (if c then (1 : Int32) else 0) = 0) : c := by
  by_cases k : c
  · exact k
  · exact absurd (if_neg k) h
theorem own_ite0 {c : Prop} [Decidable c] (h : (if c then (1 : Int32) else 0) = 0) : ¬ c := fun k => by
  rw [if_pos k] at h; exact absurd h (by decide)

def Q_law (n0 : Nat) (v : Option Value) (h : Heap) (L : List Loc) : Prop := v = some (.int 1) ∧ Fr n0 L
theorem ef_rm_law (m : MethodId) (x0 : Int64) (x1 : Int64) (x2 : Int32) : entryFrame m #[(.long x0), (.long x1), (.int x2)] maxLocals = mkF m 0 #[.val (.long x0), .second, .val (.long x1), .second, .val (.int x2), .unset, .unset, .unset, .unset, .unset, .unset, .unset] [] := by first | rfl | (simp [entryFrame, mkF, argsToLocals, Value.category, maxLocals]; done) | (simp [entryFrame, mkF, argsToLocals, Value.category, maxLocals] <;> rfl)
theorem pd_1 : parseMethodDescriptor "(JI)Z" = some ⟨[.long, .int], some (.boolean)⟩ := by decide +kernel
theorem pd_2 : parseMethodDescriptor "(JJ)V" = some ⟨[.long, .long], none⟩ := by decide +kernel
theorem pd_3 : parseMethodDescriptor "()Z" = some ⟨[], some (.boolean)⟩ := by decide +kernel
set_option maxRecDepth 65536 in
set_option maxHeartbeats 40000000 in
theorem rm_law (l : Launch) (Z : State) (a0 : Array Value) (hw : ∀ d ∈ tables_1, d.before a0 Z = true) (ws : List Jvm.Cond) (p0 : Int64) (p1 : Int64) (p2 : Int32) (h0 : Heap) (n0 : Nat) (Z0 : n0 ≤ h0.size)  :
    MetFree l x (head1 (Jvm.Cond.code x code maxLocals ret :: ws) room_1) (fun a U => a = #[(.long p0), (.long p1), (.int p2)] ∧ Z.Warmed39 U.vm ∧ U.heap = h0) (fun _ _ _ _ _ => True) (fun _ U o U' => ∃ v L, o = .returned v ∧ (Q_law n0) v U'.heap L ∧ FrameEnd U o U' L 16 128) := by
  refine MetFree.of_bodySF (plainFor_of_name pn_1) hisR ?_
  intro p e s m args below meth c s₁ Bd hml0 hP hK
  obtain ⟨rfl, hZ, hh⟩ := hP
  have hx := Bd.exec
  have hby := Bd.bytes
  have hlk : meth.locks = false := BodyLoose.notSynchronized Bd
  have hml : c.maxLocals = 12 := hml0
  have hown : s.vm.findClass "com/example/strandcast/strandcast/bson/Decimal128IsInfinitePinLaw" = some m.cls := findClass_of_methodNamed Bd.named
  have hnm := (name_of_methodNamed Bd.named Bd.method).1
  have X0 : Stand p l e room_1 s m #[(.long p0), (.long p1), (.int p2)] below meth c s₁ [] 0 0 := Stand.of_body Bd
  have e0 : s₁.heap = h0 := by rw [← hh, Bd.state]; rfl
  have N0 := Fr.nil n0
  show own_Go p e below s (Q_law n0) 16 128 s₁ (entryFrame m #[(.long p0), (.long p1), (.int p2)] maxLocals)
  refine own_cast (g' := (mkF m 0 #[.val (.long p0), .second, .val (.long p1), .second, .val (.int p2), .unset, .unset, .unset, .unset, .unset, .unset, .unset] [])) (ef_rm_law m p0 p1 p2) ?_
  refine own_step (T' := s₁) (g' := (mkF m 2 #[.val (.long p0), .second, .val (.long p1), .second, .val (.int p2), .unset, .unset, .unset, .unset, .unset, .unset, .unset] [(.int p2)])) (fun t k => XS.iload X0.here hx rfl (hb hby at_0) rfl k) ?_
  refine own_step (T' := s₁) (g' := (mkF m 4 #[.val (.long p0), .second, .val (.long p1), .second, .val (.int p2), .unset, .unset, .unset, .unset, .unset, .unset, .unset] [(.int (31 : Int32)), (.int p2)])) (fun t k => XS.bipush X0.here hx rfl (hb hby at_2) k) ?_
  refine own_step (T' := s₁) (g' := (mkF m 5 #[.val (.long p0), .second, .val (.long p1), .second, .val (.int p2), .unset, .unset, .unset, .unset, .unset, .unset, .unset] [(.int (p2 &&& (31 : Int32)))])) (fun t k => XS.iand X0.here hx rfl (hb hby at_4) rfl k) ?_
  refine own_step (T' := s₁) (g' := (mkF m 6 #[.val (.long p0), .second, .val (.long p1), .second, .val (.int p2), .unset, .unset, .unset, .unset, .unset, .unset, .unset] [(.long ((p2 &&& (31 : Int32)).toInt64))])) (fun t k => XS.i2l X0.here hx rfl (hb hby at_5) rfl k) ?_
  refine own_step (T' := s₁) (g' := (mkF m 8 #[.val (.long p0), .second, .val (.long p1), .second, .val (.int p2), .unset, .unset, .unset, .unset, .unset, .unset, .unset] [(.int (58 : Int32)), (.long ((p2 &&& (31 : Int32)).toInt64))])) (fun t k => XS.bipush X0.here hx rfl (hb hby at_6) k) ?_
  refine own_step (T' := s₁) (g' := (mkF m 9 #[.val (.long p0), .second, .val (.long p1), .second, .val (.int p2), .unset, .unset, .unset, .unset, .unset, .unset, .unset] [(.long (((p2 &&& (31 : Int32)).toInt64) <<< (58 : Int64)))])) (fun t k => XS.lshl X0.here hx rfl (hb hby at_8) rfl k) ?_
  generalize hd_fl : (((p2 &&& (31 : Int32)).toInt64) <<< (58 : Int64)) = fl
  refine own_step (T' := s₁) (g' := (mkF m 11 #[.val (.long p0), .second, .val (.long p1), .second, .val (.int p2), .val (.long fl), .second, .unset, .unset, .unset, .unset, .unset] [])) (fun t k => XS.lstore X0.here hx rfl (hb hby at_9) rfl (l' := #[.val (.long p0), .second, .val (.long p1), .second, .val (.int p2), .val (.long fl), .second, .unset, .unset, .unset, .unset, .unset]) rfl k) ?_
  refine own_step (T' := s₁) (g' := (mkF m 13 #[.val (.long p0), .second, .val (.long p1), .second, .val (.int p2), .val (.long fl), .second, .unset, .unset, .unset, .unset, .unset] [(.int p2)])) (fun t k => XS.iload X0.here hx rfl (hb hby at_11) rfl k) ?_
  refine own_step (T' := s₁) (g' := (mkF m 15 #[.val (.long p0), .second, .val (.long p1), .second, .val (.int p2), .val (.long fl), .second, .unset, .unset, .unset, .unset, .unset] [(.int (32 : Int32)), (.int p2)])) (fun t k => XS.bipush X0.here hx rfl (hb hby at_13) k) ?_
  refine own_step (T' := s₁) (g' := (mkF m 16 #[.val (.long p0), .second, .val (.long p1), .second, .val (.int p2), .val (.long fl), .second, .unset, .unset, .unset, .unset, .unset] [(.int (p2 &&& (32 : Int32)))])) (fun t k => XS.iand X0.here hx rfl (hb hby at_15) rfl k) ?_
  have j31 : ∀ (hi : Int64), own_Go p e below s (Q_law n0) 16 128 s₁ (mkF m 31 #[.val (.long p0), .second, .val (.long p1), .second, .val (.int p2), .val (.long fl), .second, .unset, .unset, .unset, .unset, .unset] [(.long hi)]) := by
    intro hi
    refine own_step (T' := s₁) (g' := (mkF m 33 #[.val (.long p0), .second, .val (.long p1), .second, .val (.int p2), .val (.long fl), .second, .val (.long hi), .second, .unset, .unset, .unset] [])) (fun t k => XS.lstore X0.here hx rfl (hb hby at_31) rfl (l' := #[.val (.long p0), .second, .val (.long p1), .second, .val (.int p2), .val (.long fl), .second, .val (.long hi), .second, .unset, .unset, .unset]) rfl k) ?_
    refine own_step (T' := s₁) (g' := (mkF m 35 #[.val (.long p0), .second, .val (.long p1), .second, .val (.int p2), .val (.long fl), .second, .val (.long hi), .second, .unset, .unset, .unset] [(.long hi)])) (fun t k => XS.lload X0.here hx rfl (hb hby at_33) rfl k) ?_
    refine own_step (T' := s₁) (g' := (mkF m 37 #[.val (.long p0), .second, .val (.long p1), .second, .val (.int p2), .val (.long fl), .second, .val (.long hi), .second, .unset, .unset, .unset] [(.int (62 : Int32)), (.long hi)])) (fun t k => XS.bipush X0.here hx rfl (hb hby at_35) k) ?_
    obtain ⟨_, _, ⟨T2, L2, k2, n2⟩, -, X2, ⟨Lc2, hQ2, l2, y2, z2⟩, st2⟩ := Jvm.LawKit.callS X0 hx (y := (⟨"com/example/strandcast/strandcast/bson/Decimal128IsInfinitePinLaw", "bit", "(JI)Z"⟩ : MethodName)) hown (mvT hZ (hw _ (List.mem_of_getElem? (i := 1) rfl))) (mvT hZ (hw _ (List.mem_of_getElem? (i := 2) rfl))) (mvT hZ (hw _ (List.mem_of_getElem? (i := 3) rfl))) (mvT hZ (hw _ (List.mem_of_getElem? (i := 4) rfl))) (by decide) (backOf (W := 0) (rm_bit l Z a0 hw [] hi (62 : Int32) h0 n0 Z0 ) hZ (hw _ (List.mem_of_getElem? (i := 4) rfl)) (hw _ (List.mem_of_getElem? (i := 3) rfl)) (by decide) (by decide)) (g := (mkF m 37 #[.val (.long p0), .second, .val (.long p1), .second, .val (.int p2), .val (.long fl), .second, .val (.long hi), .second, .unset, .unset, .unset] [(.int (62 : Int32)), (.long hi)])) rfl (by rw [hml]; rfl) (argsL := [(.long hi), (.int (62 : Int32))]) (rest := []) (lenOf pd_1 rfl) rfl (by show 2 * 0 + _ ≤ _; exact Nat.le_of_eq rfl) (hb hby at_37) (fun _ _ => ⟨rfl, e0, (by decide : 0 + 0 ≤ _), (by decide : 0 + 0 ≤ _)⟩)
    dsimp only [Pt.U, Pt.locs, Pt.cells, Pt.slots] at X2 l2 y2 z2 st2 hQ2
    subst l2 y2 z2
    obtain ⟨rfl, Nq2, eq1⟩ := hQ2
    have N2 := Fr.app N0 Nq2
    refine own_step (T' := T2) (g' := (mkF m 40 #[.val (.long p0), .second, .val (.long p1), .second, .val (.int p2), .val (.long fl), .second, .val (.long hi), .second, .unset, .unset, .unset] [(.int (own_bit hi (62 : Int32)))])) st2 ?_
    have j88 : ∀ (TJ88 : State) (lJ88 : List Loc) (_ : Stand p l e room_1 s m #[(.long p0), (.long p1), (.int p2)] below meth c TJ88 lJ88 0 0) (_ : TJ88.heap = h0) (_ : Fr n0 lJ88) (b : Int32), ((b = 1 ∧ own_all hi.toBitVec) ∨ (b = 0 ∧ ¬ own_all hi.toBitVec)) → own_Go p e below s (Q_law n0) 16 128 TJ88 (mkF m 88 #[.val (.long p0), .second, .val (.long p1), .second, .val (.int p2), .val (.long fl), .second, .val (.long hi), .second, .unset, .unset, .unset] [(.int b)]) := by
      intro TJ88 lJ88 XJ88 eJ88 NJ88 b hb1
      refine own_step (T' := TJ88) (g' := (mkF m 90 #[.val (.long p0), .second, .val (.long p1), .second, .val (.int p2), .val (.long fl), .second, .val (.long hi), .second, .val (.int b), .unset, .unset] [])) (fun t k => XS.istore XJ88.here hx rfl (hb hby at_88) rfl (l' := #[.val (.long p0), .second, .val (.long p1), .second, .val (.int p2), .val (.long fl), .second, .val (.long hi), .second, .val (.int b), .unset, .unset]) rfl k) ?_
      obtain ⟨T3, h3, X3, e3, E3, A3, D3, -, st3⟩ := newO XJ88 hx hZ hown (hw _ (List.mem_of_getElem? (i := 5) rfl)) (hw _ (List.mem_of_getElem? (i := 6) rfl)) (hw _ (List.mem_of_getElem? (i := 7) rfl)) eJ88 (g := (mkF m 90 #[.val (.long p0), .second, .val (.long p1), .second, .val (.int p2), .val (.long fl), .second, .val (.long hi), .second, .val (.int b), .unset, .unset] [])) rfl (hb hby at_90) (by decide : 0 + 1 ≤ _) (by decide : 0 + 2 ≤ _)
      obtain ⟨a3, g_a3⟩ : ∃ z, z = h0.size := ⟨_, rfl⟩
      rw [← g_a3] at A3 D3 st3
      have o3 : n0 ≤ a3 := (Nat.le_trans Z0 (Nat.le_of_eq g_a3.symm))
      have Z3 : n0 ≤ h3.size := (Nat.le_trans Z0 E3.1)
      have g4 : Fld Z h3 a3 "com/example/strandcast/strandcast/bson/Decimal128" "high" "J" (.long (0 : Int64)) := D3 (Or.inr (hw _ (List.mem_of_getElem? (i := 20) rfl))) (ty := .long) (by decide)
      have g5 : Fld Z h3 a3 "com/example/strandcast/strandcast/bson/Decimal128" "low" "J" (.long (0 : Int64)) := D3 (Or.inr (hw _ (List.mem_of_getElem? (i := 22) rfl))) (ty := .long) (by decide)
      refine own_step (T' := T3) (g' := (mkF m 93 #[.val (.long p0), .second, .val (.long p1), .second, .val (.int p2), .val (.long fl), .second, .val (.long hi), .second, .val (.int b), .unset, .unset] [(.ref a3)])) st3 ?_
      refine own_step (T' := T3) (g' := (mkF m 94 #[.val (.long p0), .second, .val (.long p1), .second, .val (.int p2), .val (.long fl), .second, .val (.long hi), .second, .val (.int b), .unset, .unset] [(.ref a3), (.ref a3)])) (fun t k => XS.dup X3.here hx rfl (hb hby at_93) rfl rfl k) ?_
      refine own_step (T' := T3) (g' := (mkF m 96 #[.val (.long p0), .second, .val (.long p1), .second, .val (.int p2), .val (.long fl), .second, .val (.long hi), .second, .val (.int b), .unset, .unset] [(.long hi), (.ref a3), (.ref a3)])) (fun t k => XS.lload X3.here hx rfl (hb hby at_94) rfl k) ?_
      refine own_step (T' := T3) (g' := (mkF m 97 #[.val (.long p0), .second, .val (.long p1), .second, .val (.int p2), .val (.long fl), .second, .val (.long hi), .second, .val (.int b), .unset, .unset] [(.long p1), (.long hi), (.ref a3), (.ref a3)])) (fun t k => XS.lloadN X3.here hx rfl (hb hby at_96) rfl k) ?_
      obtain ⟨_, _, ⟨T9, L9, k9, n9⟩, -, X9, ⟨Lc9, hQ9, l9, y9, z9⟩, st9⟩ := X3.specialBack hx (y := (⟨"com/example/strandcast/strandcast/bson/Decimal128", "<init>", "(JJ)V"⟩ : MethodName)) rfl hown (mvT hZ (hw _ (List.mem_of_getElem? (i := 8) rfl))) (mvT hZ (hw _ (List.mem_of_getElem? (i := 9) rfl))) (mvT hZ (hw _ (List.mem_of_getElem? (i := 10) rfl))) (by decide) (backOf (W := 1) (rm_init l Z a0 hw [] a3 hi p1 _ _ h3 n0 Z3 A3 g4 g5 o3) hZ (hw _ (List.mem_of_getElem? (i := 10) rfl)) (hw _ (List.mem_of_getElem? (i := 7) rfl)) (by decide) (by decide)) (g := (mkF m 97 #[.val (.long p0), .second, .val (.long p1), .second, .val (.int p2), .val (.long fl), .second, .val (.long hi), .second, .val (.int b), .unset, .unset] [(.long p1), (.long hi), (.ref a3), (.ref a3)])) rfl (by rw [hml]; rfl) (Steps.refl _) (a := a3) (argsL := [(.long hi), (.long p1)]) (rest := [(.ref a3)]) (lenOf pd_2 rfl) rfl (by show 2 * 0 + _ ≤ _; exact Nat.le_of_eq rfl) (hb hby at_97) (fun _ _ => ⟨rfl, e3, (by decide : 1 + 0 ≤ _), (by decide : 2 + 0 ≤ _)⟩)
      dsimp only [Pt.U, Pt.locs, Pt.cells, Pt.slots] at X9 l9 y9 z9 st9 hQ9
      subst l9 y9 z9
      obtain ⟨rfl, Nq9, K6, g7, g8⟩ := hQ9
      have N9 := Fr.app NJ88 Nq9
      have Z6 : n0 ≤ T9.heap.size := (Nat.le_trans Z3 K6.1)
      refine own_tr (T' := T9) (g' := (mkF m 100 #[.val (.long p0), .second, .val (.long p1), .second, .val (.int p2), .val (.long fl), .second, .val (.long hi), .second, .val (.int b), .unset, .unset] [(.ref a3)])) st9 ?_
      refine own_step (T' := T9) (g' := (mkF m 102 #[.val (.long p0), .second, .val (.long p1), .second, .val (.int p2), .val (.long fl), .second, .val (.long hi), .second, .val (.int b), .val (.ref a3), .unset] [])) (fun t k => XS.astore X9.here hx rfl (hb hby at_100) rfl rfl (l' := #[.val (.long p0), .second, .val (.long p1), .second, .val (.int p2), .val (.long fl), .second, .val (.long hi), .second, .val (.int b), .val (.ref a3), .unset]) rfl k) ?_
      obtain ⟨T10, h10, X10, e10, E10, A10, D10, -, st10⟩ := newO X9 hx hZ hown (hw _ (List.mem_of_getElem? (i := 5) rfl)) (hw _ (List.mem_of_getElem? (i := 6) rfl)) (hw _ (List.mem_of_getElem? (i := 7) rfl)) rfl (g := (mkF m 102 #[.val (.long p0), .second, .val (.long p1), .second, .val (.int p2), .val (.long fl), .second, .val (.long hi), .second, .val (.int b), .val (.ref a3), .unset] [])) rfl (hb hby at_102) (by decide : 1 + 1 ≤ _) (by decide : 2 + 2 ≤ _)
      obtain ⟨a10, g_a10⟩ : ∃ z, z = T9.heap.size := ⟨_, rfl⟩
      rw [← g_a10] at A10 D10 st10
      have g11 : Exa Z h10 a3 "com/example/strandcast/strandcast/bson/Decimal128" := g7.ext E10
      have g12 : Fld Z h10 a3 "com/example/strandcast/strandcast/bson/Decimal128" "high" "J" (.long hi) := g8.ext E10
      have ne10_1 : a3 ≠ a10 := Nat.ne_of_lt (by rw [g_a10]; exact g7.lt)
      have o10 : n0 ≤ a10 := (Nat.le_trans Z6 (Nat.le_of_eq g_a10.symm))
      have Z10 : n0 ≤ h10.size := (Nat.le_trans Z6 E10.1)
      have g13 : Fld Z h10 a10 "com/example/strandcast/strandcast/bson/Decimal128" "high" "J" (.long (0 : Int64)) := D10 (Or.inr (hw _ (List.mem_of_getElem? (i := 20) rfl))) (ty := .long) (by decide)
      have g14 : Fld Z h10 a10 "com/example/strandcast/strandcast/bson/Decimal128" "low" "J" (.long (0 : Int64)) := D10 (Or.inr (hw _ (List.mem_of_getElem? (i := 22) rfl))) (ty := .long) (by decide)
      refine own_step (T' := T10) (g' := (mkF m 105 #[.val (.long p0), .second, .val (.long p1), .second, .val (.int p2), .val (.long fl), .second, .val (.long hi), .second, .val (.int b), .val (.ref a3), .unset] [(.ref a10)])) st10 ?_
      refine own_step (T' := T10) (g' := (mkF m 106 #[.val (.long p0), .second, .val (.long p1), .second, .val (.int p2), .val (.long fl), .second, .val (.long hi), .second, .val (.int b), .val (.ref a3), .unset] [(.ref a10), (.ref a10)])) (fun t k => XS.dup X10.here hx rfl (hb hby at_105) rfl rfl k) ?_
      refine own_step (T' := T10) (g' := (mkF m 108 #[.val (.long p0), .second, .val (.long p1), .second, .val (.int p2), .val (.long fl), .second, .val (.long hi), .second, .val (.int b), .val (.ref a3), .unset] [(.long hi), (.ref a10), (.ref a10)])) (fun t k => XS.lload X10.here hx rfl (hb hby at_106) rfl k) ?_
      refine own_step (T' := T10) (g' := (mkF m 111 #[.val (.long p0), .second, .val (.long p1), .second, .val (.int p2), .val (.long fl), .second, .val (.long hi), .second, .val (.int b), .val (.ref a3), .unset] [(.long ((-9223372036854775808) : Int64)), (.long hi), (.ref a10), (.ref a10)])) (X10.ldc2Long hx hown (mvT hZ (hw _ (List.mem_of_getElem? (i := 23) rfl))) (g := (mkF m 108 #[.val (.long p0), .second, .val (.long p1), .second, .val (.int p2), .val (.long fl), .second, .val (.long hi), .second, .val (.int b), .val (.ref a3), .unset] [(.long hi), (.ref a10), (.ref a10)])) rfl (hb hby at_108)) ?_
      refine own_step (T' := T10) (g' := (mkF m 112 #[.val (.long p0), .second, .val (.long p1), .second, .val (.int p2), .val (.long fl), .second, .val (.long hi), .second, .val (.int b), .val (.ref a3), .unset] [(.long (hi ^^^ ((-9223372036854775808) : Int64))), (.ref a10), (.ref a10)])) (fun t k => XS.lxor X10.here hx rfl (hb hby at_111) rfl k) ?_
      refine own_step (T' := T10) (g' := (mkF m 113 #[.val (.long p0), .second, .val (.long p1), .second, .val (.int p2), .val (.long fl), .second, .val (.long hi), .second, .val (.int b), .val (.ref a3), .unset] [(.long p1), (.long (hi ^^^ ((-9223372036854775808) : Int64))), (.ref a10), (.ref a10)])) (fun t k => XS.lloadN X10.here hx rfl (hb hby at_112) rfl k) ?_
      refine own_step (T' := T10) (g' := (mkF m 116 #[.val (.long p0), .second, .val (.long p1), .second, .val (.int p2), .val (.long fl), .second, .val (.long hi), .second, .val (.int b), .val (.ref a3), .unset] [(.long ((-1) : Int64)), (.long p1), (.long (hi ^^^ ((-9223372036854775808) : Int64))), (.ref a10), (.ref a10)])) (X10.ldc2Long hx hown (mvT hZ (hw _ (List.mem_of_getElem? (i := 24) rfl))) (g := (mkF m 113 #[.val (.long p0), .second, .val (.long p1), .second, .val (.int p2), .val (.long fl), .second, .val (.long hi), .second, .val (.int b), .val (.ref a3), .unset] [(.long p1), (.long (hi ^^^ ((-9223372036854775808) : Int64))), (.ref a10), (.ref a10)])) rfl (hb hby at_113)) ?_
      refine own_step (T' := T10) (g' := (mkF m 117 #[.val (.long p0), .second, .val (.long p1), .second, .val (.int p2), .val (.long fl), .second, .val (.long hi), .second, .val (.int b), .val (.ref a3), .unset] [(.long (p1 ^^^ ((-1) : Int64))), (.long (hi ^^^ ((-9223372036854775808) : Int64))), (.ref a10), (.ref a10)])) (fun t k => XS.lxor X10.here hx rfl (hb hby at_116) rfl k) ?_
      obtain ⟨_, _, ⟨T18, L18, k18, n18⟩, -, X18, ⟨Lc18, hQ18, l18, y18, z18⟩, st18⟩ := X10.specialBack hx (y := (⟨"com/example/strandcast/strandcast/bson/Decimal128", "<init>", "(JJ)V"⟩ : MethodName)) rfl hown (mvT hZ (hw _ (List.mem_of_getElem? (i := 8) rfl))) (mvT hZ (hw _ (List.mem_of_getElem? (i := 9) rfl))) (mvT hZ (hw _ (List.mem_of_getElem? (i := 10) rfl))) (by decide) (backOf (W := 1) (rm_init l Z a0 hw [] a10 (hi ^^^ ((-9223372036854775808) : Int64)) (p1 ^^^ ((-1) : Int64)) _ _ h10 n0 Z10 A10 g13 g14 o10) hZ (hw _ (List.mem_of_getElem? (i := 10) rfl)) (hw _ (List.mem_of_getElem? (i := 7) rfl)) (by decide) (by decide)) (g := (mkF m 117 #[.val (.long p0), .second, .val (.long p1), .second, .val (.int p2), .val (.long fl), .second, .val (.long hi), .second, .val (.int b), .val (.ref a3), .unset] [(.long (p1 ^^^ ((-1) : Int64))), (.long (hi ^^^ ((-9223372036854775808) : Int64))), (.ref a10), (.ref a10)])) rfl (by rw [hml]; rfl) (Steps.refl _) (a := a10) (argsL := [(.long (hi ^^^ ((-9223372036854775808) : Int64))), (.long (p1 ^^^ ((-1) : Int64)))]) (rest := [(.ref a10)]) (lenOf pd_2 rfl) rfl (by show 2 * 0 + _ ≤ _; exact Nat.le_of_eq rfl) (hb hby at_117) (fun _ _ => ⟨rfl, e10, (by decide : 2 + 0 ≤ _), (by decide : 4 + 0 ≤ _)⟩)
      dsimp only [Pt.U, Pt.locs, Pt.cells, Pt.slots] at X18 l18 y18 z18 st18 hQ18
      subst l18 y18 z18
      obtain ⟨rfl, Nq18, K15, g16, g17⟩ := hQ18
      have N18 := Fr.app N9 Nq18
      have g19 : Exa Z T18.heap a3 "com/example/strandcast/strandcast/bson/Decimal128" := g11.keep K15
      have g20 : Fld Z T18.heap a3 "com/example/strandcast/strandcast/bson/Decimal128" "high" "J" (.long hi) := g12.keep K15 (ninS ne10_1 nin0)
      have Z15 : n0 ≤ T18.heap.size := (Nat.le_trans Z10 K15.1)
      refine own_tr (T' := T18) (g' := (mkF m 120 #[.val (.long p0), .second, .val (.long p1), .second, .val (.int p2), .val (.long fl), .second, .val (.long hi), .second, .val (.int b), .val (.ref a3), .unset] [(.ref a10)])) st18 ?_
      refine own_step (T' := T18) (g' := (mkF m 122 #[.val (.long p0), .second, .val (.long p1), .second, .val (.int p2), .val (.long fl), .second, .val (.long hi), .second, .val (.int b), .val (.ref a3), .val (.ref a10)] [])) (fun t k => XS.astore X18.here hx rfl (hb hby at_120) rfl rfl (l' := #[.val (.long p0), .second, .val (.long p1), .second, .val (.int p2), .val (.long fl), .second, .val (.long hi), .second, .val (.int b), .val (.ref a3), .val (.ref a10)]) rfl k) ?_
      refine own_step (T' := T18) (g' := (mkF m 124 #[.val (.long p0), .second, .val (.long p1), .second, .val (.int p2), .val (.long fl), .second, .val (.long hi), .second, .val (.int b), .val (.ref a3), .val (.ref a10)] [(.ref a3)])) (fun t k => XS.aload X18.here hx rfl (hb hby at_122) rfl rfl k) ?_
      obtain ⟨cq23, kq23, q23a, q23b, q23c⟩ := isOf hZ rfl g19
      obtain ⟨_, _, ⟨T22, L22, k22, n22⟩, -, X22, ⟨Lc22, hQ22, l22, y22, z22⟩, st22⟩ := X18.virtualBack hx (y := (⟨"com/example/strandcast/strandcast/bson/Decimal128", "isInfinite", "()Z"⟩ : MethodName)) (z := (⟨"com/example/strandcast/strandcast/bson/Decimal128", "isInfinite", "()Z"⟩ : MethodName)) hown (mvT hZ (hw _ (List.mem_of_getElem? (i := 25) rfl))) (mvT hZ (hw _ (List.mem_of_getElem? (i := 26) rfl))) (notFace_of_selects (args := #[]) (mvT hZ (hw _ (List.mem_of_getElem? (i := 28) rfl)))) (mvT hZ (hw _ (List.mem_of_getElem? (i := 28) rfl))) (mvT hZ (hw _ (List.mem_of_getElem? (i := 27) rfl))) (by decide) (backOf (W := 0) (rm_inf l Z a0 hw [] a3 hi T18.heap n0 Z15 g20) hZ (hw _ (List.mem_of_getElem? (i := 29) rfl)) (hw _ (List.mem_of_getElem? (i := 7) rfl)) (by decide) (by decide)) q23a q23c (g := (mkF m 124 #[.val (.long p0), .second, .val (.long p1), .second, .val (.int p2), .val (.long fl), .second, .val (.long hi), .second, .val (.int b), .val (.ref a3), .val (.ref a10)] [(.ref a3)])) rfl (by rw [hml]; rfl) (Steps.refl _) (argsL := []) (rest := []) (lenOf pd_3 rfl) rfl (by show 2 * 0 + _ ≤ _; exact Nat.le_of_eq rfl) (hb hby at_124) (fun _ _ => ⟨rfl, rfl, (by decide : 2 + 0 ≤ _), (by decide : 4 + 0 ≤ _)⟩)
      dsimp only [Pt.U, Pt.locs, Pt.cells, Pt.slots] at X22 l22 y22 z22 st22 hQ22
      subst l22 y22 z22
      obtain ⟨rfl, Nq22, eq21⟩ := hQ22
      have N22 := Fr.app N18 Nq22
      refine own_tr (T' := T22) (g' := (mkF m 127 #[.val (.long p0), .second, .val (.long p1), .second, .val (.int p2), .val (.long fl), .second, .val (.long hi), .second, .val (.int b), .val (.ref a3), .val (.ref a10)] [(.int (own_inf hi))])) st22 ?_
      refine own_step (T' := T22) (g' := (mkF m 129 #[.val (.long p0), .second, .val (.long p1), .second, .val (.int p2), .val (.long fl), .second, .val (.long hi), .second, .val (.int b), .val (.ref a3), .val (.ref a10)] [(.int b), (.int (own_inf hi))])) (fun t k => XS.iload X22.here hx rfl (hb hby at_127) rfl k) ?_
      refine own_step (T' := T22) (g' := (mkF m 132 #[.val (.long p0), .second, .val (.long p1), .second, .val (.int p2), .val (.long fl), .second, .val (.long hi), .second, .val (.int b), .val (.ref a3), .val (.ref a10)] [])) (fun t k => XS.icmpNo X22.here hx rfl (hb hby at_129) rfl (teq (hb1.elim (fun z => (own_inf_t z.2).trans z.1.symm) (fun z => (own_inf_f z.2).trans z.1.symm))).2 k) ?_
      refine own_step (T' := T22) (g' := (mkF m 134 #[.val (.long p0), .second, .val (.long p1), .second, .val (.int p2), .val (.long fl), .second, .val (.long hi), .second, .val (.int b), .val (.ref a3), .val (.ref a10)] [(.ref a10)])) (fun t k => XS.aload X22.here hx rfl (hb hby at_132) rfl rfl k) ?_
      obtain ⟨cq26, kq26, q26a, q26b, q26c⟩ := isOf hZ eq21 g16
      obtain ⟨_, _, ⟨T25, L25, k25, n25⟩, -, X25, ⟨Lc25, hQ25, l25, y25, z25⟩, st25⟩ := X22.virtualBack hx (y := (⟨"com/example/strandcast/strandcast/bson/Decimal128", "isInfinite", "()Z"⟩ : MethodName)) (z := (⟨"com/example/strandcast/strandcast/bson/Decimal128", "isInfinite", "()Z"⟩ : MethodName)) hown (mvT hZ (hw _ (List.mem_of_getElem? (i := 25) rfl))) (mvT hZ (hw _ (List.mem_of_getElem? (i := 26) rfl))) (notFace_of_selects (args := #[]) (mvT hZ (hw _ (List.mem_of_getElem? (i := 28) rfl)))) (mvT hZ (hw _ (List.mem_of_getElem? (i := 28) rfl))) (mvT hZ (hw _ (List.mem_of_getElem? (i := 27) rfl))) (by decide) (backOf (W := 0) (rm_inf l Z a0 hw [] a10 (hi ^^^ ((-9223372036854775808) : Int64)) T18.heap n0 Z15 g17) hZ (hw _ (List.mem_of_getElem? (i := 29) rfl)) (hw _ (List.mem_of_getElem? (i := 7) rfl)) (by decide) (by decide)) q26a q26c (g := (mkF m 134 #[.val (.long p0), .second, .val (.long p1), .second, .val (.int p2), .val (.long fl), .second, .val (.long hi), .second, .val (.int b), .val (.ref a3), .val (.ref a10)] [(.ref a10)])) rfl (by rw [hml]; rfl) (Steps.refl _) (argsL := []) (rest := []) (lenOf pd_3 rfl) rfl (by show 2 * 0 + _ ≤ _; exact Nat.le_of_eq rfl) (hb hby at_134) (fun _ _ => ⟨rfl, eq21, (by decide : 2 + 0 ≤ _), (by decide : 4 + 0 ≤ _)⟩)
      dsimp only [Pt.U, Pt.locs, Pt.cells, Pt.slots] at X25 l25 y25 z25 st25 hQ25
      subst l25 y25 z25
      obtain ⟨rfl, Nq25, eq24⟩ := hQ25
      have N25 := Fr.app N22 Nq25
      refine own_tr (T' := T25) (g' := (mkF m 137 #[.val (.long p0), .second, .val (.long p1), .second, .val (.int p2), .val (.long fl), .second, .val (.long hi), .second, .val (.int b), .val (.ref a3), .val (.ref a10)] [(.int (own_inf (hi ^^^ ((-9223372036854775808) : Int64))))])) st25 ?_
      refine own_step (T' := T25) (g' := (mkF m 139 #[.val (.long p0), .second, .val (.long p1), .second, .val (.int p2), .val (.long fl), .second, .val (.long hi), .second, .val (.int b), .val (.ref a3), .val (.ref a10)] [(.int b), (.int (own_inf (hi ^^^ ((-9223372036854775808) : Int64))))])) (fun t k => XS.iload X25.here hx rfl (hb hby at_137) rfl k) ?_
      refine own_step (T' := T25) (g' := (mkF m 142 #[.val (.long p0), .second, .val (.long p1), .second, .val (.int p2), .val (.long fl), .second, .val (.long hi), .second, .val (.int b), .val (.ref a3), .val (.ref a10)] [])) (fun t k => XS.icmpNo X25.here hx rfl (hb hby at_139) rfl (teq (hb1.elim (fun z => (own_inf_t ((own_flip _).mpr z.2)).trans z.1.symm) (fun z => (own_inf_f (fun q => z.2 ((own_flip _).mp q))).trans z.1.symm))).2 k) ?_
      refine own_step (T' := T25) (g' := (mkF m 143 #[.val (.long p0), .second, .val (.long p1), .second, .val (.int p2), .val (.long fl), .second, .val (.long hi), .second, .val (.int b), .val (.ref a3), .val (.ref a10)] [(.int (1 : Int32))])) (fun t k => XS.iconst X25.here hx rfl (hb hby at_142) k) ?_
      refine own_step (T' := T25) (g' := (mkF m 147 #[.val (.long p0), .second, .val (.long p1), .second, .val (.int p2), .val (.long fl), .second, .val (.long hi), .second, .val (.int b), .val (.ref a3), .val (.ref a10)] [(.int (1 : Int32))])) (fun t k => XS.goto X25.here hx rfl (pc0 := 143) (pc' := 147) rfl (hb hby at_143) (by decide) (by decide) k) ?_
      refine own_rN X25 hx hlk Bd.returns (by simp) (hb hby at_147) ?_ (by decide) (by decide)
      rw [eq24]
      exact ⟨rfl, N25⟩
    by_cases c40 : (own_bit hi (62 : Int32)) = (0 : Int32)
    · refine own_step (T' := T2) (g' := (mkF m 87 #[.val (.long p0), .second, .val (.long p1), .second, .val (.int p2), .val (.long fl), .second, .val (.long hi), .second, .unset, .unset, .unset] [])) (fun t k => XS.ifYes X2.here hx rfl (pc0 := 40) (pc' := 87) rfl (hb hby at_40) rfl ((if0 _ _).trans (teq c40).1) (by decide) (by decide) k) ?_
      refine own_step (T' := T2) (g' := (mkF m 88 #[.val (.long p0), .second, .val (.long p1), .second, .val (.int p2), .val (.long fl), .second, .val (.long hi), .second, .unset, .unset, .unset] [(.int (0 : Int32))])) (fun t k => XS.iconst X2.here hx rfl (hb hby at_87) k) ?_
      rw [own_b62] at c40
      exact j88 T2 _ X2 eq1 N2 0 (Or.inr ⟨rfl, fun q => own_ite0 c40 q.1⟩)
    · refine own_step (T' := T2) (g' := (mkF m 43 #[.val (.long p0), .second, .val (.long p1), .second, .val (.int p2), .val (.long fl), .second, .val (.long hi), .second, .unset, .unset, .unset] [])) (fun t k => XS.ifNo X2.here hx rfl (hb hby at_40) rfl ((if0 _ _).trans (feq c40).1) k) ?_
      refine own_step (T' := T2) (g' := (mkF m 45 #[.val (.long p0), .second, .val (.long p1), .second, .val (.int p2), .val (.long fl), .second, .val (.long hi), .second, .unset, .unset, .unset] [(.long hi)])) (fun t k => XS.lload X2.here hx rfl (hb hby at_43) rfl k) ?_
      refine own_step (T' := T2) (g' := (mkF m 47 #[.val (.long p0), .second, .val (.long p1), .second, .val (.int p2), .val (.long fl), .second, .val (.long hi), .second, .unset, .unset, .unset] [(.int (61 : Int32)), (.long hi)])) (fun t k => XS.bipush X2.here hx rfl (hb hby at_45) k) ?_
      obtain ⟨_, _, ⟨T28, L28, k28, n28⟩, -, X28, ⟨Lc28, hQ28, l28, y28, z28⟩, st28⟩ := Jvm.LawKit.callS X2 hx (y := (⟨"com/example/strandcast/strandcast/bson/Decimal128IsInfinitePinLaw", "bit", "(JI)Z"⟩ : MethodName)) hown (mvT hZ (hw _ (List.mem_of_getElem? (i := 1) rfl))) (mvT hZ (hw _ (List.mem_of_getElem? (i := 2) rfl))) (mvT hZ (hw _ (List.mem_of_getElem? (i := 3) rfl))) (mvT hZ (hw _ (List.mem_of_getElem? (i := 4) rfl))) (by decide) (backOf (W := 0) (rm_bit l Z a0 hw [] hi (61 : Int32) h0 n0 Z0 ) hZ (hw _ (List.mem_of_getElem? (i := 4) rfl)) (hw _ (List.mem_of_getElem? (i := 3) rfl)) (by decide) (by decide)) (g := (mkF m 47 #[.val (.long p0), .second, .val (.long p1), .second, .val (.int p2), .val (.long fl), .second, .val (.long hi), .second, .unset, .unset, .unset] [(.int (61 : Int32)), (.long hi)])) rfl (by rw [hml]; rfl) (argsL := [(.long hi), (.int (61 : Int32))]) (rest := []) (lenOf pd_1 rfl) rfl (by show 2 * 0 + _ ≤ _; exact Nat.le_of_eq rfl) (hb hby at_47) (fun _ _ => ⟨rfl, eq1, (by decide : 0 + 0 ≤ _), (by decide : 0 + 0 ≤ _)⟩)
      dsimp only [Pt.U, Pt.locs, Pt.cells, Pt.slots] at X28 l28 y28 z28 st28 hQ28
      subst l28 y28 z28
      obtain ⟨rfl, Nq28, eq27⟩ := hQ28
      have N28 := Fr.app N2 Nq28
      refine own_step (T' := T28) (g' := (mkF m 50 #[.val (.long p0), .second, .val (.long p1), .second, .val (.int p2), .val (.long fl), .second, .val (.long hi), .second, .unset, .unset, .unset] [(.int (own_bit hi (61 : Int32)))])) st28 ?_
      by_cases c50 : (own_bit hi (61 : Int32)) = (0 : Int32)
      · refine own_step (T' := T28) (g' := (mkF m 87 #[.val (.long p0), .second, .val (.long p1), .second, .val (.int p2), .val (.long fl), .second, .val (.long hi), .second, .unset, .unset, .unset] [])) (fun t k => XS.ifYes X28.here hx rfl (pc0 := 50) (pc' := 87) rfl (hb hby at_50) rfl ((if0 _ _).trans (teq c50).1) (by decide) (by decide) k) ?_
        refine own_step (T' := T28) (g' := (mkF m 88 #[.val (.long p0), .second, .val (.long p1), .second, .val (.int p2), .val (.long fl), .second, .val (.long hi), .second, .unset, .unset, .unset] [(.int (0 : Int32))])) (fun t k => XS.iconst X28.here hx rfl (hb hby at_87) k) ?_
        rw [own_b61] at c50
        exact j88 T28 _ X28 eq27 N28 0 (Or.inr ⟨rfl, fun q => own_ite0 c50 q.2.1⟩)
      · refine own_step (T' := T28) (g' := (mkF m 53 #[.val (.long p0), .second, .val (.long p1), .second, .val (.int p2), .val (.long fl), .second, .val (.long hi), .second, .unset, .unset, .unset] [])) (fun t k => XS.ifNo X28.here hx rfl (hb hby at_50) rfl ((if0 _ _).trans (feq c50).1) k) ?_
        refine own_step (T' := T28) (g' := (mkF m 55 #[.val (.long p0), .second, .val (.long p1), .second, .val (.int p2), .val (.long fl), .second, .val (.long hi), .second, .unset, .unset, .unset] [(.long hi)])) (fun t k => XS.lload X28.here hx rfl (hb hby at_53) rfl k) ?_
        refine own_step (T' := T28) (g' := (mkF m 57 #[.val (.long p0), .second, .val (.long p1), .second, .val (.int p2), .val (.long fl), .second, .val (.long hi), .second, .unset, .unset, .unset] [(.int (60 : Int32)), (.long hi)])) (fun t k => XS.bipush X28.here hx rfl (hb hby at_55) k) ?_
        obtain ⟨_, _, ⟨T30, L30, k30, n30⟩, -, X30, ⟨Lc30, hQ30, l30, y30, z30⟩, st30⟩ := Jvm.LawKit.callS X28 hx (y := (⟨"com/example/strandcast/strandcast/bson/Decimal128IsInfinitePinLaw", "bit", "(JI)Z"⟩ : MethodName)) hown (mvT hZ (hw _ (List.mem_of_getElem? (i := 1) rfl))) (mvT hZ (hw _ (List.mem_of_getElem? (i := 2) rfl))) (mvT hZ (hw _ (List.mem_of_getElem? (i := 3) rfl))) (mvT hZ (hw _ (List.mem_of_getElem? (i := 4) rfl))) (by decide) (backOf (W := 0) (rm_bit l Z a0 hw [] hi (60 : Int32) h0 n0 Z0 ) hZ (hw _ (List.mem_of_getElem? (i := 4) rfl)) (hw _ (List.mem_of_getElem? (i := 3) rfl)) (by decide) (by decide)) (g := (mkF m 57 #[.val (.long p0), .second, .val (.long p1), .second, .val (.int p2), .val (.long fl), .second, .val (.long hi), .second, .unset, .unset, .unset] [(.int (60 : Int32)), (.long hi)])) rfl (by rw [hml]; rfl) (argsL := [(.long hi), (.int (60 : Int32))]) (rest := []) (lenOf pd_1 rfl) rfl (by show 2 * 0 + _ ≤ _; exact Nat.le_of_eq rfl) (hb hby at_57) (fun _ _ => ⟨rfl, eq27, (by decide : 0 + 0 ≤ _), (by decide : 0 + 0 ≤ _)⟩)
        dsimp only [Pt.U, Pt.locs, Pt.cells, Pt.slots] at X30 l30 y30 z30 st30 hQ30
        subst l30 y30 z30
        obtain ⟨rfl, Nq30, eq29⟩ := hQ30
        have N30 := Fr.app N28 Nq30
        refine own_step (T' := T30) (g' := (mkF m 60 #[.val (.long p0), .second, .val (.long p1), .second, .val (.int p2), .val (.long fl), .second, .val (.long hi), .second, .unset, .unset, .unset] [(.int (own_bit hi (60 : Int32)))])) st30 ?_
        by_cases c60 : (own_bit hi (60 : Int32)) = (0 : Int32)
        · refine own_step (T' := T30) (g' := (mkF m 87 #[.val (.long p0), .second, .val (.long p1), .second, .val (.int p2), .val (.long fl), .second, .val (.long hi), .second, .unset, .unset, .unset] [])) (fun t k => XS.ifYes X30.here hx rfl (pc0 := 60) (pc' := 87) rfl (hb hby at_60) rfl ((if0 _ _).trans (teq c60).1) (by decide) (by decide) k) ?_
          refine own_step (T' := T30) (g' := (mkF m 88 #[.val (.long p0), .second, .val (.long p1), .second, .val (.int p2), .val (.long fl), .second, .val (.long hi), .second, .unset, .unset, .unset] [(.int (0 : Int32))])) (fun t k => XS.iconst X30.here hx rfl (hb hby at_87) k) ?_
          rw [own_b60] at c60
          exact j88 T30 _ X30 eq29 N30 0 (Or.inr ⟨rfl, fun q => own_ite0 c60 q.2.2.1⟩)
        · refine own_step (T' := T30) (g' := (mkF m 63 #[.val (.long p0), .second, .val (.long p1), .second, .val (.int p2), .val (.long fl), .second, .val (.long hi), .second, .unset, .unset, .unset] [])) (fun t k => XS.ifNo X30.here hx rfl (hb hby at_60) rfl ((if0 _ _).trans (feq c60).1) k) ?_
          refine own_step (T' := T30) (g' := (mkF m 65 #[.val (.long p0), .second, .val (.long p1), .second, .val (.int p2), .val (.long fl), .second, .val (.long hi), .second, .unset, .unset, .unset] [(.long hi)])) (fun t k => XS.lload X30.here hx rfl (hb hby at_63) rfl k) ?_
          refine own_step (T' := T30) (g' := (mkF m 67 #[.val (.long p0), .second, .val (.long p1), .second, .val (.int p2), .val (.long fl), .second, .val (.long hi), .second, .unset, .unset, .unset] [(.int (59 : Int32)), (.long hi)])) (fun t k => XS.bipush X30.here hx rfl (hb hby at_65) k) ?_
          obtain ⟨_, _, ⟨T32, L32, k32, n32⟩, -, X32, ⟨Lc32, hQ32, l32, y32, z32⟩, st32⟩ := Jvm.LawKit.callS X30 hx (y := (⟨"com/example/strandcast/strandcast/bson/Decimal128IsInfinitePinLaw", "bit", "(JI)Z"⟩ : MethodName)) hown (mvT hZ (hw _ (List.mem_of_getElem? (i := 1) rfl))) (mvT hZ (hw _ (List.mem_of_getElem? (i := 2) rfl))) (mvT hZ (hw _ (List.mem_of_getElem? (i := 3) rfl))) (mvT hZ (hw _ (List.mem_of_getElem? (i := 4) rfl))) (by decide) (backOf (W := 0) (rm_bit l Z a0 hw [] hi (59 : Int32) h0 n0 Z0 ) hZ (hw _ (List.mem_of_getElem? (i := 4) rfl)) (hw _ (List.mem_of_getElem? (i := 3) rfl)) (by decide) (by decide)) (g := (mkF m 67 #[.val (.long p0), .second, .val (.long p1), .second, .val (.int p2), .val (.long fl), .second, .val (.long hi), .second, .unset, .unset, .unset] [(.int (59 : Int32)), (.long hi)])) rfl (by rw [hml]; rfl) (argsL := [(.long hi), (.int (59 : Int32))]) (rest := []) (lenOf pd_1 rfl) rfl (by show 2 * 0 + _ ≤ _; exact Nat.le_of_eq rfl) (hb hby at_67) (fun _ _ => ⟨rfl, eq29, (by decide : 0 + 0 ≤ _), (by decide : 0 + 0 ≤ _)⟩)
          dsimp only [Pt.U, Pt.locs, Pt.cells, Pt.slots] at X32 l32 y32 z32 st32 hQ32
          subst l32 y32 z32
          obtain ⟨rfl, Nq32, eq31⟩ := hQ32
          have N32 := Fr.app N30 Nq32
          refine own_step (T' := T32) (g' := (mkF m 70 #[.val (.long p0), .second, .val (.long p1), .second, .val (.int p2), .val (.long fl), .second, .val (.long hi), .second, .unset, .unset, .unset] [(.int (own_bit hi (59 : Int32)))])) st32 ?_
          by_cases c70 : (own_bit hi (59 : Int32)) = (0 : Int32)
          · refine own_step (T' := T32) (g' := (mkF m 87 #[.val (.long p0), .second, .val (.long p1), .second, .val (.int p2), .val (.long fl), .second, .val (.long hi), .second, .unset, .unset, .unset] [])) (fun t k => XS.ifYes X32.here hx rfl (pc0 := 70) (pc' := 87) rfl (hb hby at_70) rfl ((if0 _ _).trans (teq c70).1) (by decide) (by decide) k) ?_
            refine own_step (T' := T32) (g' := (mkF m 88 #[.val (.long p0), .second, .val (.long p1), .second, .val (.int p2), .val (.long fl), .second, .val (.long hi), .second, .unset, .unset, .unset] [(.int (0 : Int32))])) (fun t k => XS.iconst X32.here hx rfl (hb hby at_87) k) ?_
            rw [own_b59] at c70
            exact j88 T32 _ X32 eq31 N32 0 (Or.inr ⟨rfl, fun q => own_ite0 c70 q.2.2.2.1⟩)
          · refine own_step (T' := T32) (g' := (mkF m 73 #[.val (.long p0), .second, .val (.long p1), .second, .val (.int p2), .val (.long fl), .second, .val (.long hi), .second, .unset, .unset, .unset] [])) (fun t k => XS.ifNo X32.here hx rfl (hb hby at_70) rfl ((if0 _ _).trans (feq c70).1) k) ?_
            refine own_step (T' := T32) (g' := (mkF m 75 #[.val (.long p0), .second, .val (.long p1), .second, .val (.int p2), .val (.long fl), .second, .val (.long hi), .second, .unset, .unset, .unset] [(.long hi)])) (fun t k => XS.lload X32.here hx rfl (hb hby at_73) rfl k) ?_
            refine own_step (T' := T32) (g' := (mkF m 77 #[.val (.long p0), .second, .val (.long p1), .second, .val (.int p2), .val (.long fl), .second, .val (.long hi), .second, .unset, .unset, .unset] [(.int (58 : Int32)), (.long hi)])) (fun t k => XS.bipush X32.here hx rfl (hb hby at_75) k) ?_
            obtain ⟨_, _, ⟨T34, L34, k34, n34⟩, -, X34, ⟨Lc34, hQ34, l34, y34, z34⟩, st34⟩ := Jvm.LawKit.callS X32 hx (y := (⟨"com/example/strandcast/strandcast/bson/Decimal128IsInfinitePinLaw", "bit", "(JI)Z"⟩ : MethodName)) hown (mvT hZ (hw _ (List.mem_of_getElem? (i := 1) rfl))) (mvT hZ (hw _ (List.mem_of_getElem? (i := 2) rfl))) (mvT hZ (hw _ (List.mem_of_getElem? (i := 3) rfl))) (mvT hZ (hw _ (List.mem_of_getElem? (i := 4) rfl))) (by decide) (backOf (W := 0) (rm_bit l Z a0 hw [] hi (58 : Int32) h0 n0 Z0 ) hZ (hw _ (List.mem_of_getElem? (i := 4) rfl)) (hw _ (List.mem_of_getElem? (i := 3) rfl)) (by decide) (by decide)) (g := (mkF m 77 #[.val (.long p0), .second, .val (.long p1), .second, .val (.int p2), .val (.long fl), .second, .val (.long hi), .second, .unset, .unset, .unset] [(.int (58 : Int32)), (.long hi)])) rfl (by rw [hml]; rfl) (argsL := [(.long hi), (.int (58 : Int32))]) (rest := []) (lenOf pd_1 rfl) rfl (by show 2 * 0 + _ ≤ _; exact Nat.le_of_eq rfl) (hb hby at_77) (fun _ _ => ⟨rfl, eq31, (by decide : 0 + 0 ≤ _), (by decide : 0 + 0 ≤ _)⟩)
            dsimp only [Pt.U, Pt.locs, Pt.cells, Pt.slots] at X34 l34 y34 z34 st34 hQ34
            subst l34 y34 z34
            obtain ⟨rfl, Nq34, eq33⟩ := hQ34
            have N34 := Fr.app N32 Nq34
            refine own_step (T' := T34) (g' := (mkF m 80 #[.val (.long p0), .second, .val (.long p1), .second, .val (.int p2), .val (.long fl), .second, .val (.long hi), .second, .unset, .unset, .unset] [(.int (own_bit hi (58 : Int32)))])) st34 ?_
            by_cases c80 : (own_bit hi (58 : Int32)) = (0 : Int32)
            · refine own_step (T' := T34) (g' := (mkF m 83 #[.val (.long p0), .second, .val (.long p1), .second, .val (.int p2), .val (.long fl), .second, .val (.long hi), .second, .unset, .unset, .unset] [])) (fun t k => XS.ifNo X34.here hx rfl (hb hby at_80) rfl ((if0 _ _).trans (teq c80).2) k) ?_
              refine own_step (T' := T34) (g' := (mkF m 84 #[.val (.long p0), .second, .val (.long p1), .second, .val (.int p2), .val (.long fl), .second, .val (.long hi), .second, .unset, .unset, .unset] [(.int (1 : Int32))])) (fun t k => XS.iconst X34.here hx rfl (hb hby at_83) k) ?_
              refine own_step (T' := T34) (g' := (mkF m 88 #[.val (.long p0), .second, .val (.long p1), .second, .val (.int p2), .val (.long fl), .second, .val (.long hi), .second, .unset, .unset, .unset] [(.int (1 : Int32))])) (fun t k => XS.goto X34.here hx rfl (pc0 := 84) (pc' := 88) rfl (hb hby at_84) (by decide) (by decide) k) ?_
              rw [own_b62] at c40; rw [own_b61] at c50; rw [own_b60] at c60; rw [own_b59] at c70; rw [own_b58] at c80
              exact j88 T34 _ X34 eq33 N34 1 (Or.inl ⟨rfl, own_ite1 c40, own_ite1 c50, own_ite1 c60, own_ite1 c70, Bool.not_eq_true _ ▸ own_ite0 c80⟩)
            · refine own_step (T' := T34) (g' := (mkF m 87 #[.val (.long p0), .second, .val (.long p1), .second, .val (.int p2), .val (.long fl), .second, .val (.long hi), .second, .unset, .unset, .unset] [])) (fun t k => XS.ifYes X34.here hx rfl (pc0 := 80) (pc' := 87) rfl (hb hby at_80) rfl ((if0 _ _).trans (feq c80).2) (by decide) (by decide) k) ?_
              refine own_step (T' := T34) (g' := (mkF m 88 #[.val (.long p0), .second, .val (.long p1), .second, .val (.int p2), .val (.long fl), .second, .val (.long hi), .second, .unset, .unset, .unset] [(.int (0 : Int32))])) (fun t k => XS.iconst X34.here hx rfl (hb hby at_87) k) ?_
              rw [own_b58] at c80
              exact j88 T34 _ X34 eq33 N34 0 (Or.inr ⟨rfl, fun q => absurd (own_ite1 c80) (by rw [q.2.2.2.2]; decide)⟩)
  by_cases c16_35 : (p2 &&& (32 : Int32)) = (0 : Int32)
  · refine own_step (T' := s₁) (g' := (mkF m 23 #[.val (.long p0), .second, .val (.long p1), .second, .val (.int p2), .val (.long fl), .second, .unset, .unset, .unset, .unset, .unset] [])) (fun t k => XS.ifYes X0.here hx rfl (pc0 := 16) (pc' := 23) rfl (hb hby at_16) rfl ((if0 _ _).trans (teq c16_35).1) (by decide) (by decide) k) ?_
    refine own_step (T' := s₁) (g' := (mkF m 24 #[.val (.long p0), .second, .val (.long p1), .second, .val (.int p2), .val (.long fl), .second, .unset, .unset, .unset, .unset, .unset] [(.long p0)])) (fun t k => XS.lloadN X0.here hx rfl (hb hby at_23) rfl k) ?_
    refine own_step (T' := s₁) (g' := (mkF m 27 #[.val (.long p0), .second, .val (.long p1), .second, .val (.int p2), .val (.long fl), .second, .unset, .unset, .unset, .unset, .unset] [(.long ((-8935141660703064065) : Int64)), (.long p0)])) (X0.ldc2Long hx hown (mvT hZ (hw _ (List.mem_of_getElem? (i := 0) rfl))) (g := (mkF m 24 #[.val (.long p0), .second, .val (.long p1), .second, .val (.int p2), .val (.long fl), .second, .unset, .unset, .unset, .unset, .unset] [(.long p0)])) rfl (hb hby at_24)) ?_
    refine own_step (T' := s₁) (g' := (mkF m 28 #[.val (.long p0), .second, .val (.long p1), .second, .val (.int p2), .val (.long fl), .second, .unset, .unset, .unset, .unset, .unset] [(.long (p0 &&& ((-8935141660703064065) : Int64)))])) (fun t k => XS.land X0.here hx rfl (hb hby at_27) rfl k) ?_
    refine own_step (T' := s₁) (g' := (mkF m 30 #[.val (.long p0), .second, .val (.long p1), .second, .val (.int p2), .val (.long fl), .second, .unset, .unset, .unset, .unset, .unset] [(.long fl), (.long (p0 &&& ((-8935141660703064065) : Int64)))])) (fun t k => XS.lload X0.here hx rfl (hb hby at_28) rfl k) ?_
    refine own_step (T' := s₁) (g' := (mkF m 31 #[.val (.long p0), .second, .val (.long p1), .second, .val (.int p2), .val (.long fl), .second, .unset, .unset, .unset, .unset, .unset] [(.long ((p0 &&& ((-8935141660703064065) : Int64)) ||| fl))])) (fun t k => XS.lor X0.here hx rfl (hb hby at_30) rfl k) ?_
    exact j31 _
  · refine own_step (T' := s₁) (g' := (mkF m 19 #[.val (.long p0), .second, .val (.long p1), .second, .val (.int p2), .val (.long fl), .second, .unset, .unset, .unset, .unset, .unset] [])) (fun t k => XS.ifNo X0.here hx rfl (hb hby at_16) rfl ((if0 _ _).trans (feq c16_35).1) k) ?_
    refine own_step (T' := s₁) (g' := (mkF m 20 #[.val (.long p0), .second, .val (.long p1), .second, .val (.int p2), .val (.long fl), .second, .unset, .unset, .unset, .unset, .unset] [(.long p0)])) (fun t k => XS.lloadN X0.here hx rfl (hb hby at_19) rfl k) ?_
    refine own_step (T' := s₁) (g' := (mkF m 31 #[.val (.long p0), .second, .val (.long p1), .second, .val (.int p2), .val (.long fl), .second, .unset, .unset, .unset, .unset, .unset] [(.long p0)])) (fun t k => XS.goto X0.here hx rfl (pc0 := 20) (pc' := 31) rfl (hb hby at_20) (by decide) (by decide) k) ?_
    exact j31 _
set_option maxRecDepth 65536 in
set_option maxHeartbeats 40000000 in
theorem comes_1 {Post : Tables → Env → Array Value → State → Outcome → State → Prop} (hpost : ∀ tb e args s v u, (limb_1_1.after args s (.returned v) u = true ∧ limb_1_2.after args s (.returned v) u = true ∧ True) → FrameEnd s (.returned v) u (Jvm.fieldLocs frame_1_writes args s ++ Jvm.arrayLocs frame_1_arrays args s ++ Jvm.staticLocs frame_1_statics s) 16 128 → Post tb e args s (.returned v) u) :
    ArmFor flags0 classFile x code maxLocals ret World_1 tables_1 room_1 Calls_1 rest_1 Pre_1 Post := by
  intro l hfl _ _ p e ha hc hk s m args below hf hA hF happ hP
  obtain ⟨hcalls, hrest, hpre⟩ := hP
  obtain ⟨-, -, -, hnamed, -, -, -, hat⟩ := (Spec.applies_iff hf).mp happ
  obtain ⟨hg, hn⟩ := and_e (Cond.before_iff.mp (show (Jvm.Cond.and given_1 narrow_1).before args s = true from hpre))
  obtain ⟨hc0, hg0⟩ := and_e hg
  obtain ⟨hc1, hg1⟩ := and_e hg0
  obtain ⟨hc2, hg2⟩ := and_e hg1
  obtain ⟨w0, w1, w2, rfl⟩ : ∃ w0 w1 w2 : Value, args = #[w0, w1, w2] := by
    have hs : args.size = 3 := by simpa [Cond.value, given_1] using hc0
    obtain ⟨L⟩ := args
    match L, hs with
    | [w0, w1, w2], _ => exact ⟨w0, w1, w2, rfl⟩
  have hw := fun d (hd : d ∈ tables_1) => atoms_spec (ws := Jvm.Cond.code x code maxLocals ret :: tables_1) hat d (List.mem_cons_of_mem _ hd)
  have hfit : Fit s := fun {y c} hc i hi => by
    obtain ⟨ha, rfl⟩ := Array.getElem?_eq_some_iff.mp hc
    have q := List.all_eq_true.mp ((Array.all_eq_true_iff_forall_mem.mp hF) _ (Array.getElem_mem ha)) i (List.mem_range.mpr hi)
    simpa [Array.getElem?_eq_getElem hi] using q
  obtain ⟨i0, ev0⟩ := isL_v hc1
  obtain rfl : w0 = (.long i0) := Option.some.inj ev0
  obtain ⟨i1, ev1⟩ := isL_v hc2
  obtain rfl : w1 = (.long i1) := Option.some.inj ev1
  obtain ⟨i2, ev2⟩ := is_v hg2
  obtain rfl : w2 = (.int i2) := Option.some.inj ev2

  obtain ⟨n, o, h1, h2, h3, _, L, rfl, ⟨rfl, N⟩, hq⟩ := rm_law l s _ hw tables_1 i0 i1 i2  s.heap s.heap.size (Nat.le_refl _)  p e ha hc hk s m _ below hf ((Spec.applies_iff_loose hf).mp happ).1 ⟨rfl, State.Warmed39.refl s, rfl⟩ trivial
  refine ⟨n, _, h1, h2, h3, hpost _ _ _ _ _ _ ⟨Cond.after_iff.mpr rfl, Cond.after_iff.mpr (eq_i res_at (Term.int_eval (1)) rfl), trivial⟩ ⟨hq.1, hq.2.1, (hq.2.2.sift fun y hy => Or.inr (N y hy)).mono (by decide) (by decide)⟩⟩
theorem main_1_1 : Claimed_1_1 := comes_1 fun _ _ _ _ _ _ h hF => ⟨h.1, hF⟩
theorem main_1_2 : Claimed_1_2 := comes_1 fun _ _ _ _ _ _ h hF => ⟨h.2.1, hF⟩

end Jvm.Pilot.@@N@@
namespace Jvm.Pilot.@@N@@
open Jvm Jvm.ClassFile Sem Op Lib Jvm.Free Jvm.Stand Jvm.Pilot.@@N@@.Jvm.D
/-! MADE BY PROGRAM (witnessworld.py) out of the Statement's table words and the real class files: 10 classes; the members and pool entries that the words name. The judged class is class 1, her method 2. -/
namespace start1
open Jvm.ClassFile
def u (s : String) : CpInfo := .utf8 (stringToUtf16 s)
/-- a pool by its gaps: so many unusable entries, then the entry; so many at the end -/
def gap : Nat → List CpInfo → List CpInfo
  | 0, r => r
  | n + 1, r => .unusable :: gap n r
def poolList (es : List (Nat × CpInfo)) (last : Nat) : List CpInfo := es.foldr (fun e r => gap e.1 (e.2 :: r)) (gap last [])
def pool (es : List (Nat × CpInfo)) (last : Nat) : Array CpInfo := ⟨poolList es last⟩
def fileOf (pool : Array CpInfo) (this : Nat) (attrs : Array Attribute := #[]) (ms : Array MethodInfo := #[]) (fl : Nat := 33) (sup : Nat := 0) (ifs : Array Nat := #[]) (fds : Array FieldInfo := #[]) : ClassFile where
  minorVersion := 0
  majorVersion := 65
  constantPool := pool
  accessFlags := fl
  thisClass := this
  superClass := sup
  interfaces := ifs
  fields := fds
  methods := ms
  attributes := attrs
def plain (name : String) (sup : Option ClassId) : Class where
  name := name
  kind := .ordinary
  loader := none
  accessFlags := 33
  super := sup
  interfaces := #[]
  cf := none
  fields := #[]
  methods := #[]
  instanceTypes := #[]
  staticTypes := #[]
  resolved := #[]
  callSites := []
  init := .initialized
  statics := none
  mirror := none

def pool0 : Array CpInfo := pool [(5, u "<init>"), (0, u "()V"), (1, .class_ 10), (1, u "java/lang/Object")] 113

def k0c0 : Code := { maxStack := 0, maxLocals := 1, code := object_method_1_code, exceptionTable := #[], attributes := #[] }
def k0m0 : Method := { name := "<init>", desc := "()V", sig := { parameters := [], returnType := none }, accessFlags := 1, code := some k0c0 }
/-- java/lang/Object -/
def k0 : Class := { plain "java/lang/Object" none with
  accessFlags := 33
  interfaces := #[]
  cf := some (fileOf pool0 8 #[] #[{ accessFlags := 1, nameIndex := 5, descriptorIndex := 6, attributes := #[] }] 33 0 #[] #[])
  fields := #[]
  methods := #[k0m0]
  instanceTypes := #[]
  staticTypes := #[]
  resolved := Array.replicate 124 none
  statics := none }

def pool1 : Array CpInfo := pool [(2, .class_ 4), (1, u "java/lang/Object"), (0, u "<init>"), (0, u "()V"), (0, .long 9511602413006487551), (1, .methodref 10 11), (0, .class_ 12), (0, .nameAndType 13 14), (0, u "com/example/strandcast/strandcast/bson/Decimal128IsInfinitePinLaw"), (0, u "bit"), (0, u "(JI)Z"), (0, .class_ 16), (0, u "com/example/strandcast/strandcast/bson/Decimal128"), (0, .methodref 15 18), (0, .nameAndType 5 19), (0, u "(JJ)V"), (2, .long 9223372036854775808), (1, .long 18446744073709551615), (1, .methodref 15 27), (0, .nameAndType 28 29), (0, u "isInfinite"), (0, u "()Z"), (3, u "law"), (0, u "(JJI)Z")] 2

def k1m0 : Method := { name := "<init>", desc := "()V", sig := { parameters := [], returnType := none }, accessFlags := 1, code := none }
def k1c1 : Code := { maxStack := 4, maxLocals := 3, code := method_2_code, exceptionTable := #[], attributes := #[] }
def k1m1 : Method := { name := "bit", desc := "(JI)Z", sig := { parameters := [.long, .int], returnType := some .boolean }, accessFlags := 10, code := some k1c1 }
def k1c2 : Code := { maxStack := 8, maxLocals := 12, code := code, exceptionTable := #[], attributes := #[] }
def k1m2 : Method := { name := "law", desc := "(JJI)Z", sig := { parameters := [.long, .long, .int], returnType := some .boolean }, accessFlags := 9, code := some k1c2 }
/-- com/example/strandcast/strandcast/bson/Decimal128IsInfinitePinLaw -/
def k1 : Class := { plain "com/example/strandcast/strandcast/bson/Decimal128IsInfinitePinLaw" (some 0) with
  accessFlags := 49
  interfaces := #[]
  cf := some (fileOf pool1 10 #[] #[{ accessFlags := 1, nameIndex := 5, descriptorIndex := 6, attributes := #[] }, { accessFlags := 10, nameIndex := 13, descriptorIndex := 14, attributes := #[] }, { accessFlags := 9, nameIndex := 33, descriptorIndex := 34, attributes := #[] }] 49 2 #[] #[])
  fields := #[]
  methods := #[k1m0, k1m1, k1m2]
  instanceTypes := #[]
  staticTypes := #[]
  resolved := Array.replicate 37 none
  statics := none }

def pool2 : Array CpInfo := pool [(1, .methodref 2 3), (0, .class_ 4), (0, .nameAndType 5 6), (0, u "java/lang/Object"), (0, u "<init>"), (0, u "()V"), (0, .class_ 8), (0, u "java/lang/Record")] 13

def k2c0 : Code := { maxStack := 1, maxLocals := 1, code := jdk_30_method_1_code, exceptionTable := #[], attributes := #[] }
def k2m0 : Method := { name := "<init>", desc := "()V", sig := { parameters := [], returnType := none }, accessFlags := 4, code := some k2c0 }
/-- java/lang/Record -/
def k2 : Class := { plain "java/lang/Record" (some 0) with
  accessFlags := 1057
  interfaces := #[]
  cf := some (fileOf pool2 7 #[] #[{ accessFlags := 4, nameIndex := 5, descriptorIndex := 6, attributes := #[] }] 1057 2 #[] #[])
  fields := #[]
  methods := #[k2m0]
  instanceTypes := #[]
  staticTypes := #[]
  resolved := Array.replicate 22 none
  statics := none }

def pool3 : Array CpInfo := pool [(1, .class_ 2), (0, u "com/example/strandcast/strandcast/bson/Decimal128"), (0, .methodref 4 5), (0, .class_ 6), (0, .nameAndType 7 8), (0, u "java/lang/Record"), (0, u "<init>"), (0, u "()V"), (0, .fieldref 1 10), (0, .nameAndType 11 12), (0, u "high"), (0, u "J"), (0, .fieldref 1 14), (0, .nameAndType 15 12), (0, u "low"), (44, u "NEGATIVE_INFINITY"), (0, u "Lcom/example/strandcast/strandcast/bson/Decimal128;"), (2, u "POSITIVE_INFINITY"), (3, u "Ljava/math/BigInteger;"), (21, u "(JJ)V"), (0, .long 8935141660703064064), (1, .long 8646911284551352320), (4, u "()Z"), (2, u "isInfinite"), (39, u "MAX_COEFFICIENT"), (34, u "NAN"), (2, u "SPECIAL_MASK"), (1, u "INFINITY_BITS"), (0, u "LARGE_COEFFICIENT_BITS"), (0, u "EXPONENT_BITS"), (0, u "I"), (1, u "EXPONENT_SHIFT"), (1, u "LARGE_EXPONENT_SHIFT"), (1, u "EXPONENT_BIAS"), (1, u "MAX_EXPONENT"), (1, u "COEFFICIENT_HIGH_MASK"), (0, u "DIGITS")] 44

def k3c0 : Code := { maxStack := 3, maxLocals := 5, code := prog_15_method_1_code, exceptionTable := #[], attributes := #[] }
def k3m0 : Method := { name := "<init>", desc := "(JJ)V", sig := { parameters := [.long, .long], returnType := none }, accessFlags := 1, code := some k3c0 }
def k3c1 : Code := { maxStack := 4, maxLocals := 1, code := prog_15_method_4_code, exceptionTable := #[], attributes := #[] }
def k3m1 : Method := { name := "isInfinite", desc := "()Z", sig := { parameters := [], returnType := some .boolean }, accessFlags := 1, code := some k3c1 }
/-- com/example/strandcast/strandcast/bson/Decimal128 -/
def k3 : Class := { plain "com/example/strandcast/strandcast/bson/Decimal128" (some 2) with
  accessFlags := 49
  interfaces := #[]
  cf := some (fileOf pool3 1 #[] #[{ accessFlags := 1, nameIndex := 7, descriptorIndex := 90, attributes := #[] }, { accessFlags := 1, nameIndex := 101, descriptorIndex := 98, attributes := #[] }] 49 4 #[] #[{ accessFlags := 18, nameIndex := 11, descriptorIndex := 12, attributes := #[] }, { accessFlags := 18, nameIndex := 15, descriptorIndex := 12, attributes := #[] }, { accessFlags := 26, nameIndex := 179, descriptorIndex := 12, attributes := #[] }, { accessFlags := 26, nameIndex := 181, descriptorIndex := 12, attributes := #[] }, { accessFlags := 26, nameIndex := 182, descriptorIndex := 12, attributes := #[] }, { accessFlags := 26, nameIndex := 183, descriptorIndex := 184, attributes := #[] }, { accessFlags := 26, nameIndex := 186, descriptorIndex := 184, attributes := #[] }, { accessFlags := 26, nameIndex := 188, descriptorIndex := 184, attributes := #[] }, { accessFlags := 26, nameIndex := 190, descriptorIndex := 184, attributes := #[] }, { accessFlags := 26, nameIndex := 192, descriptorIndex := 184, attributes := #[] }, { accessFlags := 26, nameIndex := 194, descriptorIndex := 12, attributes := #[] }, { accessFlags := 26, nameIndex := 195, descriptorIndex := 184, attributes := #[] }, { accessFlags := 26, nameIndex := 141, descriptorIndex := 68, attributes := #[] }, { accessFlags := 25, nameIndex := 176, descriptorIndex := 61, attributes := #[] }, { accessFlags := 25, nameIndex := 64, descriptorIndex := 61, attributes := #[] }, { accessFlags := 25, nameIndex := 60, descriptorIndex := 61, attributes := #[] }])
  fields := #[{ name := "high", type := .long, accessFlags := 18, slot := 0, constantValue := 0 }, { name := "low", type := .long, accessFlags := 18, slot := 1, constantValue := 0 }, { name := "SPECIAL_MASK", type := .long, accessFlags := 26, slot := 0, constantValue := 0 }, { name := "INFINITY_BITS", type := .long, accessFlags := 26, slot := 1, constantValue := 0 }, { name := "LARGE_COEFFICIENT_BITS", type := .long, accessFlags := 26, slot := 2, constantValue := 0 }, { name := "EXPONENT_BITS", type := .int, accessFlags := 26, slot := 3, constantValue := 0 }, { name := "EXPONENT_SHIFT", type := .int, accessFlags := 26, slot := 4, constantValue := 0 }, { name := "LARGE_EXPONENT_SHIFT", type := .int, accessFlags := 26, slot := 5, constantValue := 0 }, { name := "EXPONENT_BIAS", type := .int, accessFlags := 26, slot := 6, constantValue := 0 }, { name := "MAX_EXPONENT", type := .int, accessFlags := 26, slot := 7, constantValue := 0 }, { name := "COEFFICIENT_HIGH_MASK", type := .long, accessFlags := 26, slot := 8, constantValue := 0 }, { name := "DIGITS", type := .int, accessFlags := 26, slot := 9, constantValue := 0 }, { name := "MAX_COEFFICIENT", type := (.object "java/math/BigInteger"), accessFlags := 26, slot := 10, constantValue := 0 }, { name := "NAN", type := (.object "com/example/strandcast/strandcast/bson/Decimal128"), accessFlags := 25, slot := 11, constantValue := 0 }, { name := "POSITIVE_INFINITY", type := (.object "com/example/strandcast/strandcast/bson/Decimal128"), accessFlags := 25, slot := 12, constantValue := 0 }, { name := "NEGATIVE_INFINITY", type := (.object "com/example/strandcast/strandcast/bson/Decimal128"), accessFlags := 25, slot := 13, constantValue := 0 }]
  methods := #[k3m0, k3m1]
  instanceTypes := #[.long, .long]
  staticTypes := #[.long, .long, .long, .int, .int, .int, .int, .int, .long, .int, (.object "java/math/BigInteger"), (.object "com/example/strandcast/strandcast/bson/Decimal128"), (.object "com/example/strandcast/strandcast/bson/Decimal128"), (.object "com/example/strandcast/strandcast/bson/Decimal128")]
  resolved := Array.replicate 240 none
  statics := none }

def pool4 : Array CpInfo := pool [(1, u "java/lang/Cloneable"), (0, .class_ 1), (0, u "java/lang/Object"), (0, .class_ 3)] 3

/-- java/lang/Cloneable -/
def k4 : Class := { plain "java/lang/Cloneable" (some 0) with
  accessFlags := 1537
  interfaces := #[]
  cf := some (fileOf pool4 2 #[] #[] 1537 4 #[] #[])
  fields := #[]
  methods := #[]
  instanceTypes := #[]
  staticTypes := #[]
  resolved := Array.replicate 8 none
  statics := none }

def pool5 : Array CpInfo := pool [(1, u "java/io/Serializable"), (0, .class_ 1), (0, u "java/lang/Object"), (0, .class_ 3)] 3

/-- java/io/Serializable -/
def k5 : Class := { plain "java/io/Serializable" (some 0) with
  accessFlags := 1537
  interfaces := #[]
  cf := some (fileOf pool5 2 #[] #[] 1537 4 #[] #[])
  fields := #[]
  methods := #[]
  instanceTypes := #[]
  staticTypes := #[]
  resolved := Array.replicate 8 none
  statics := none }

/-- the primitive byte -/
def k6 : Class := { plain "byte" none with kind := .primitive 'B', accessFlags := 0x411 }
/-- [B -/
def k7 : Class := { plain "[B" (some 0) with kind := .array 6 .byte, interfaces := #[4, 5], accessFlags := 1041 }

/-- the primitive int -/
def k8 : Class := { plain "int" none with kind := .primitive 'I', accessFlags := 0x411 }
/-- [I -/
def k9 : Class := { plain "[I" (some 0) with kind := .array 8 .int, interfaces := #[4, 5], accessFlags := 1041 }

def heap : Heap := #[]
def classes : Array Class := #[k0, k1, k2, k3, k4, k5, k6, k7, k8, k9]
def interned : List (Array UInt16 × Addr) := []
def slotsUsed : Nat := 0
def theMethod : MethodId := ⟨1, 2⟩
def args0 : Array Value := #[.long 5, .long 3, .int 2]
def aboutOver (below : List Frame) : State where
  vm := { classes := classes, interned := interned.toArray }
  heap := heap
  slotsUsed := slotsUsed
  threads := #[{ frames := .invoking theMethod args0 :: below }]
def below0 : List Frame := [.native { method := ⟨0, 0⟩, args := #[] }]
def about1 : State := aboutOver below0
def p0 : Program := .bare "" "" ""
def e0 : Env := launch0.env 0 0 0
theorem w_frames : about1.frames = Frame.invoking theMethod args0 :: below0 := rfl
set_option maxRecDepth 65536 in
theorem w_args : argsFit about1.vm theMethod args0 = true := by decide +kernel
set_option maxRecDepth 65536 in
theorem w_heap : heapFits about1 = true := by decide +kernel
set_option maxRecDepth 65536 in
theorem w_runnable : about1.curStatus? = some .runnable := by decide +kernel
set_option maxRecDepth 65536 in
theorem w_alone : about1.alone = true := by decide +kernel
set_option maxRecDepth 65536 in
theorem w_named : about1.methodNamed? x = some theMethod := by decide +kernel
set_option maxRecDepth 65536 in
theorem w_hears : about1.hears theMethod below0 = true := by decide +kernel
set_option maxRecDepth 65536 in
theorem w_ripe : about1.ripe theMethod args0 below0 = true := by decide +kernel
theorem w_running : about1.status = .running := rfl
set_option maxRecDepth 65536 in
theorem w_room : about1.hasRoom e0.platform room_1 = true :=
  launch0.hasRoom_least _ room_1 (by decide +kernel) (by decide +kernel) (by decide +kernel) (by decide +kernel) (by decide +kernel) (by decide +kernel)
theorem allAtoms_all (ts : List Jvm.Cond) (a : Array Jvm.Value) (st : Jvm.State) : (allAtoms ts).before a st = ts.all (fun c => c.before a st) := by
  induction ts with
  | nil => rfl
  | cons c t ih =>
    show (Jvm.Cond.and c (allAtoms t)).before a st = _
    rw [Jvm.Cond.before_and, ih, List.all_cons]
def words1 : List Jvm.Cond := Jvm.Cond.code x code maxLocals ret :: tables_1
/-- a 'code' word, met by the world's own term for the bytes: nothing is compared byte by byte -/
theorem code_word {y : MethodName} {bytes : ByteArray} {mx : Nat} {rt : Option FieldType} {a : Array Value} {s : State} {m : MethodId} {meth : Method} {c : Code} (h1 : s.methodNamed? y = some m) (h2 : s.vm.method? m = some meth) (h3 : meth.code = some c) (h4 : c.code = bytes)
    (h5 : (c.maxLocals == mx && c.exceptionTable.isEmpty && decide (c.maxStack ≤ mostOperands) && decide (meth.sig.returnType = rt) && !meth.locks && decide (parseMethodDescriptor y.desc = some meth.sig)) = true) : (Jvm.Cond.code y bytes mx rt).before a s = true := by
  simp only [Bool.and_eq_true, beq_iff_eq, Bool.not_eq_true', decide_eq_true_eq] at h5
  obtain ⟨⟨⟨⟨⟨g1, g2⟩, g3⟩, g4⟩, g5⟩, g6⟩ := h5
  simp [Cond.before, Cond.holds, Cond.value, h1, h2, h3, h4, g1, g2, g3, g4, g5, g6]
def isCode : Jvm.Cond → Bool
  | .code _ _ _ _ => true
  | _ => false
theorem all_split {L : List Jvm.Cond} {P : Jvm.Cond → Bool} (h1 : L.all (fun c => isCode c || P c) = true) (h2 : ∀ c ∈ L.filter isCode, P c = true) : L.all P = true := by
  refine List.all_eq_true.mpr fun c hc => ?_
  have h := List.all_eq_true.mp h1 c hc
  rcases Bool.eq_false_or_eq_true (isCode c) with hi | hi
  · exact h2 c (List.mem_filter.mpr ⟨hc, hi⟩)
  · simpa [hi] using h
set_option maxRecDepth 65536 in
theorem w_c0 : (Jvm.Cond.code x code maxLocals ret).before args0 about1 = true := code_word (m := ⟨1, 2⟩) (meth := k1m2) (c := k1c2) (by decide +kernel) rfl rfl rfl (by decide +kernel)
set_option maxRecDepth 65536 in
theorem w_c1 : (Jvm.Cond.code ({ cls := "com/example/strandcast/strandcast/bson/Decimal128IsInfinitePinLaw", name := "bit", desc := "(JI)Z" } : Jvm.MethodName) method_2_code (3 : Nat) (Option.some Jvm.ClassFile.FieldType.boolean)).before args0 about1 = true := code_word (m := ⟨1, 1⟩) (meth := k1m1) (c := k1c1) (by decide +kernel) rfl rfl rfl (by decide +kernel)
set_option maxRecDepth 65536 in
theorem w_c2 : (Jvm.Cond.code ({ cls := "com/example/strandcast/strandcast/bson/Decimal128", name := "<init>", desc := "(JJ)V" } : Jvm.MethodName) prog_15_method_1_code (5 : Nat) (Option.none : Option Jvm.ClassFile.FieldType)).before args0 about1 = true := code_word (m := ⟨3, 0⟩) (meth := k3m0) (c := k3c0) (by decide +kernel) rfl rfl rfl (by decide +kernel)
set_option maxRecDepth 65536 in
theorem w_c3 : (Jvm.Cond.code ({ cls := "java/lang/Record", name := "<init>", desc := "()V" } : Jvm.MethodName) jdk_30_method_1_code (1 : Nat) (Option.none : Option Jvm.ClassFile.FieldType)).before args0 about1 = true := code_word (m := ⟨2, 0⟩) (meth := k2m0) (c := k2c0) (by decide +kernel) rfl rfl rfl (by decide +kernel)
set_option maxRecDepth 65536 in
theorem w_c4 : (Jvm.Cond.code ({ cls := "java/lang/Object", name := "<init>", desc := "()V" } : Jvm.MethodName) object_method_1_code (1 : Nat) (Option.none : Option Jvm.ClassFile.FieldType)).before args0 about1 = true := code_word (m := ⟨0, 0⟩) (meth := k0m0) (c := k0c0) (by decide +kernel) rfl rfl rfl (by decide +kernel)
set_option maxRecDepth 65536 in
theorem w_c5 : (Jvm.Cond.code ({ cls := "com/example/strandcast/strandcast/bson/Decimal128", name := "isInfinite", desc := "()Z" } : Jvm.MethodName) prog_15_method_4_code (1 : Nat) (Option.some Jvm.ClassFile.FieldType.boolean)).before args0 about1 = true := code_word (m := ⟨3, 1⟩) (meth := k3m1) (c := k3c1) (by decide +kernel) rfl rfl rfl (by decide +kernel)
def codes1 : List Jvm.Cond := [Jvm.Cond.code x code maxLocals ret, Jvm.Cond.code ({ cls := "com/example/strandcast/strandcast/bson/Decimal128IsInfinitePinLaw", name := "bit", desc := "(JI)Z" } : Jvm.MethodName) method_2_code (3 : Nat) (Option.some Jvm.ClassFile.FieldType.boolean), Jvm.Cond.code ({ cls := "com/example/strandcast/strandcast/bson/Decimal128", name := "<init>", desc := "(JJ)V" } : Jvm.MethodName) prog_15_method_1_code (5 : Nat) (Option.none : Option Jvm.ClassFile.FieldType), Jvm.Cond.code ({ cls := "java/lang/Record", name := "<init>", desc := "()V" } : Jvm.MethodName) jdk_30_method_1_code (1 : Nat) (Option.none : Option Jvm.ClassFile.FieldType), Jvm.Cond.code ({ cls := "java/lang/Object", name := "<init>", desc := "()V" } : Jvm.MethodName) object_method_1_code (1 : Nat) (Option.none : Option Jvm.ClassFile.FieldType), Jvm.Cond.code ({ cls := "com/example/strandcast/strandcast/bson/Decimal128", name := "isInfinite", desc := "()Z" } : Jvm.MethodName) prog_15_method_4_code (1 : Nat) (Option.some Jvm.ClassFile.FieldType.boolean)]
set_option maxRecDepth 65536 in
theorem codes_eq : words1.filter isCode = codes1 := rfl
theorem w_codes : ∀ c ∈ words1.filter isCode, c.before args0 about1 = true := by
  rw [codes_eq]
  intro c hc
  simp only [codes1, List.mem_cons, List.not_mem_nil, or_false] at hc
  rcases hc with rfl | rfl | rfl | rfl | rfl | rfl
  · exact w_c0
  · exact w_c1
  · exact w_c2
  · exact w_c3
  · exact w_c4
  · exact w_c5
set_option maxRecDepth 65536 in
theorem w_t1 : (words1.take 24).all (fun c => isCode c || c.before args0 about1) = true := by decide +kernel
set_option maxRecDepth 65536 in
theorem w_t2 : (words1.drop 24).all (fun c => isCode c || c.before args0 about1) = true := by decide +kernel
theorem w_tables : (allAtoms (Jvm.Cond.code x code maxLocals ret :: tables_1)).before args0 about1 = true := by
  rw [allAtoms_all]
  show words1.all (fun c => c.before args0 about1) = true
  refine all_split ?_ w_codes
  rw [← List.take_append_drop 24 words1, List.all_append, w_t1, w_t2]
  rfl
set_option maxRecDepth 65536 in
theorem w_case : (Jvm.Cond.and given_1 narrow_1).before args0 about1 = true := by decide +kernel
theorem w_applies : (headSpec (Jvm.Cond.code x code maxLocals ret :: tables_1) room_1).applies x e0.platform about1 = true :=
  (Spec.applies_iff w_frames).mpr ⟨w_running, w_runnable, w_alone, w_named, w_hears, w_ripe, w_room, w_tables⟩
theorem atStart : AtStart classFile x code maxLocals ret World_1 tables_1 room_1 Calls_1 rest_1 Pre_1 launch0 p0 e0 about1 theMethod args0 below0 :=
  ⟨lists_1, trivial, launch0.admits_env _ _ _, launch0.least_env, fairChoices_fair.cas, fairChoices_fair.clock, w_frames, w_args, w_heap, w_applies, trivial, trivial, w_case⟩
end start1
theorem witness_1 : WitnessClaimed_1 := ⟨start1.p0, start1.e0, start1.about1, start1.theMethod, start1.args0, start1.below0, start1.atStart⟩
end Jvm.Pilot.@@N@@
