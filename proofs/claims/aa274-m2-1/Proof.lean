import JvmDerived
import JvmDerived.Pilot.@@N@@Statement
import JvmDerived.Pilot.@@N@@Code
set_option linter.unusedVariables false
set_option linter.unusedSimpArgs false
@@BLOCK:NumsL.lean.txt@@
namespace Jvm.Pilot.@@N@@
open Jvm Jvm.ClassFile Sem Op Lib Jvm.Free Jvm.Stand Jvm.LawKit Jvm.RoadKit Bundle Jvm.Pilot.@@N@@.Jvm.D

section OwnKit
variable {p : Program} {l : Launch} {e : Env} {R : Room} {s : State} {m : MethodId} {args : Array Value} {below : List Frame} {meth : Method} {c : Code} {T : State} {locs : List Loc} {cells slots : Nat}
def own_Go (p : Program) (e : Env) (below : List Frame) (s : State) (Q : Option Value → Heap → List Loc → Prop) (rc rs : Nat) (T : State) (g : JFrame) : Prop :=
  ∃ s₂ o, Steps p.tables e below (T.setTop g) s₂ ∧ s₂.status = .running ∧ Ended s₂ below o ∧ ∃ v L, o = .returned v ∧ Q v s₂.heap L ∧ FrameEnd s o s₂ L rc rs
variable {Q : Option Value → Heap → List Loc → Prop} {rc rs : Nat} {T' : State} {g g' : JFrame}
theorem own_step (st : ∀ target, Steps p.tables e below (T'.setTop g') target → Steps p.tables e below (T.setTop g) target) (k : own_Go p e below s Q rc rs T' g') : own_Go p e below s Q rc rs T g := by
  obtain ⟨s₂, o, h1, h2⟩ := k
  exact ⟨s₂, o, st _ h1, h2⟩
theorem own_tr (st : Steps p.tables e below (T.setTop g) (T'.setTop g')) (k : own_Go p e below s Q rc rs T' g') : own_Go p e below s Q rc rs T g := by
  obtain ⟨s₂, o, h1, h2⟩ := k
  exact ⟨s₂, o, st.trans h1, h2⟩
theorem own_cast (q : g = g') (k : own_Go p e below s Q rc rs T g') : own_Go p e below s Q rc rs T g := q ▸ k
theorem own_done (X : Stand p l e R s m args below meth c T locs cells slots) {v : Option Value} (hv : meth.sig.returnType = none → v = none) (hlk : meth.locks = false)
    (st : ∀ fs, (∀ (f : JFrame) (acts : List Action), f.method = m → f.locked = none → f.entered = [] → (doReturn e (T.setTop f) acts v).1 = T.setFrames fs) → Steps p.tables e below (T.setTop g) (T.setFrames fs))
    (hQ : Q v T.heap locs) (hc : cells ≤ rc) (hs : slots ≤ rs) : own_Go p e below s Q rc rs T g := by
  obtain ⟨fs, hr, hrun, hended, hW, hsame⟩ := X.leave (v := v) hv hlk
  exact ⟨_, _, st fs hr, hrun, hended, v, locs, rfl, hQ, ⟨_, rfl⟩, hW, hsame.mono hc hs⟩
theorem own_rN (X : Stand p l e R s m args below meth c T locs cells slots) (hx : p.tables.exec = Jvm.exec) (hlk : meth.locks = false) {t : FieldType} (hret : meth.sig.returnType = some t) (ht : t = .boolean ∨ t = .byte ∨ t = .char ∨ t = .short) {pc : Nat} {Ls : Array Slot} {z : Int32} {rest : List Value}
    (hd : decode c.code pc = .ok (.ireturn, 1)) (hQ : Q (some (.int (nar t z))) T.heap locs) (hc : cells ≤ rc) (hs : slots ≤ rs) : own_Go p e below s Q rc rs T (mkF m pc Ls (.int z :: rest)) :=
  own_done X (fun h => by rw [hret] at h; cases h) hlk (fun fs hr => retN X hx hret ht hd hr) hQ hc hs
theorem own_rI (X : Stand p l e R s m args below meth c T locs cells slots) (hx : p.tables.exec = Jvm.exec) (hlk : meth.locks = false) (hret : meth.sig.returnType = some .int) {pc : Nat} {Ls : Array Slot} {z : Int32} {rest : List Value}
    (hd : decode c.code pc = .ok (.ireturn, 1)) (hQ : Q (some (.int z)) T.heap locs) (hc : cells ≤ rc) (hs : slots ≤ rs) : own_Go p e below s Q rc rs T (mkF m pc Ls (.int z :: rest)) :=
  own_done X (fun h => by rw [hret] at h; cases h) hlk (fun fs hr => retOut X hx hret rfl (Or.inl ⟨rfl, Or.inl rfl, _, rfl⟩) hd hr) hQ hc hs
theorem own_rJ (X : Stand p l e R s m args below meth c T locs cells slots) (hx : p.tables.exec = Jvm.exec) (hlk : meth.locks = false) (hret : meth.sig.returnType = some .long) {pc : Nat} {Ls : Array Slot} {z : Int64} {rest : List Value}
    (hd : decode c.code pc = .ok (.lreturn, 1)) (hQ : Q (some (.long z)) T.heap locs) (hc : cells ≤ rc) (hs : slots ≤ rs) : own_Go p e below s Q rc rs T (mkF m pc Ls (.long z :: rest)) :=
  own_done X (fun h => by rw [hret] at h; cases h) hlk (fun fs hr => retOut X hx hret rfl (Or.inr (Or.inl ⟨rfl, rfl, _, rfl⟩)) hd hr) hQ hc hs
theorem own_narA {t : FieldType} {w : Value} (ht : t.isReference = true) (hw : w.isRef = true) : narrow t w = w := by cases t <;> cases w <;> first | rfl | cases ht | cases hw
theorem own_rA (X : Stand p l e R s m args below meth c T locs cells slots) (hx : p.tables.exec = Jvm.exec) (hlk : meth.locks = false) {t : FieldType} (hret : meth.sig.returnType = some t) (ht : t.isReference = true) {pc : Nat} {Ls : Array Slot} {w : Value} {rest : List Value} (hw : w.isRef = true)
    (hd : decode c.code pc = .ok (.areturn, 1)) (hQ : Q (some w) T.heap locs) (hc : cells ≤ rc) (hs : slots ≤ rs) : own_Go p e below s Q rc rs T (mkF m pc Ls (w :: rest)) :=
  own_done X (fun h => by rw [hret] at h; cases h) hlk (fun fs hr => retOut X hx hret (own_narA ht hw) (Or.inr (Or.inr (Or.inr (Or.inr ⟨rfl, ht, hw⟩)))) hd hr) hQ hc hs
theorem own_rV (X : Stand p l e R s m args below meth c T locs cells slots) (hx : p.tables.exec = Jvm.exec) (hlk : meth.locks = false) (hret : meth.sig.returnType = none) {pc : Nat} {Ls : Array Slot}
    (hd : decode c.code pc = .ok (.return_, 1)) (hQ : Q none T.heap locs) (hc : cells ≤ rc) (hs : slots ≤ rs) : own_Go p e below s Q rc rs T (mkF m pc Ls []) :=
  own_done X (fun _ => rfl) hlk (fun fs hr => X.returnOut hx hret hd hr) hQ hc hs
end OwnKit
def Q_rec (h0 : Heap) (n0 : Nat) (v : Option Value) (h : Heap) (L : List Loc) : Prop := v = none ∧ Fr n0 L ∧ h = h0
theorem ef_rm_rec (m : MethodId) (x0 : Addr) : entryFrame m #[(.ref x0)] 1 = mkF m 0 #[.val (.ref x0)] [] := by first | (simp [entryFrame, mkF, argsToLocals, Value.category]; done) | rfl | (simp [entryFrame, mkF, argsToLocals, Value.category] <;> rfl)
theorem pn_0 : plainName "java/lang/Record" = true := by first | (simp [plainName, overriddenIn]; done) | decide +kernel
theorem d3_0 : decode jdk_30_method_1_code 0 = .ok (.aload_n 0, 1) := by decide +kernel
theorem d3_1 : decode jdk_30_method_1_code 1 = .ok (.invokespecial 1, 3) := by decide +kernel
theorem d3_4 : decode jdk_30_method_1_code 4 = .ok (.return_, 1) := by decide +kernel
set_option maxRecDepth 65536 in
set_option maxHeartbeats 40000000 in
theorem rm_rec (l : Launch) (Z : State) (a0 : Array Value) (hw : ∀ d ∈ tables_1, d.before a0 Z = true) (ws : List Jvm.Cond) (a1 : Addr) (h0 : Heap) (n0 : Nat) (Z0 : n0 ≤ h0.size)  :
    MetFree l (⟨"java/lang/Record", "<init>", "()V"⟩ : MethodName) (head1 (Jvm.Cond.code (⟨"java/lang/Record", "<init>", "()V"⟩ : MethodName) jdk_30_method_1_code 1 none :: ws) ({ frames := 1, cells := 0, slots := 0, locals := 12 } : Room)) (fun a U => a = #[(.ref a1)] ∧ Z.Warmed39 U.vm ∧ U.heap = h0) (fun _ _ _ _ _ => True) (fun _ U o U' => ∃ v L, o = .returned v ∧ (Q_rec h0 n0) v U'.heap L ∧ FrameEnd U o U' L ({ frames := 1, cells := 0, slots := 0, locals := 12 } : Room).cells ({ frames := 1, cells := 0, slots := 0, locals := 12 } : Room).slots) := by
  refine MetFree.of_bodySF (plainFor_of_name pn_0) hisR ?_
  intro p e s m args below meth c s₁ Bd hml0 hP hK
  obtain ⟨rfl, hZ, hh⟩ := hP
  have hx := Bd.exec
  have hby := Bd.bytes
  have hlk : meth.locks = false := BodyLoose.notSynchronized Bd
  have hml : c.maxLocals = 1 := hml0
  have hown : s.vm.findClass "java/lang/Record" = some m.cls := findClass_of_methodNamed Bd.named
  have hnm := (name_of_methodNamed Bd.named Bd.method).1
  have X0 : Stand p l e ({ frames := 1, cells := 0, slots := 0, locals := 12 } : Room) s m #[(.ref a1)] below meth c s₁ [] 0 0 := Stand.of_body Bd
  have e0 : s₁.heap = h0 := by rw [← hh, Bd.state]; rfl
  have N0 := Fr.nil n0
  show own_Go p e below s (Q_rec h0 n0) ({ frames := 1, cells := 0, slots := 0, locals := 12 } : Room).cells ({ frames := 1, cells := 0, slots := 0, locals := 12 } : Room).slots s₁ (entryFrame m #[(.ref a1)] 1)
  refine own_cast (g' := (mkF m 0 #[.val (.ref a1)] [])) (ef_rm_rec m a1) ?_
  refine own_step (T' := s₁) (g' := (mkF m 1 #[.val (.ref a1)] [(.ref a1)])) (fun t k => XS.aloadN X0.here hx rfl (hb hby d3_0) rfl rfl k) ?_
  obtain ⟨T1, X1, e1, st1⟩ := initO X0 hx hZ hown (hw _ (List.mem_of_getElem? (i := 18) rfl)) (hw _ (List.mem_of_getElem? (i := 19) rfl)) (hw _ (List.mem_of_getElem? (i := 20) rfl)) e0 (g := (mkF m 1 #[.val (.ref a1)] [(.ref a1)])) rfl (by rw [hml]; rfl) rfl (hb hby d3_1) (by decide) (W := 0) (by show 2 * 0 + _ ≤ _; exact Nat.le_of_eq rfl) (by decide)
  refine own_step (T' := T1) (g' := (mkF m 4 #[.val (.ref a1)] [])) st1 ?_
  refine own_rV X1 hx hlk Bd.returns (hb hby d3_4) ?_ (by decide) (by decide)
  rw [e1]
  exact ⟨rfl, N0, rfl⟩
theorem own_ci {x : Int32} (h1 : ¬ x < ((-128) : Int32)) (h2 : ¬ (127 : Int32) < x) : ¬ (x + (128 : Int32)) < 0 ∧ (x + (128 : Int32)).toNatClampNeg < 256 := by
  rw [Int32.lt_iff_toInt_lt] at h1 h2
  have z0 : (0 : Int32).toInt = 0 := by decide
  have z1 : ((-128) : Int32).toInt = -128 := by decide
  have z2 : (127 : Int32).toInt = 127 := by decide
  have z3 : (128 : Int32).toInt = 128 := by decide
  rw [z1] at h1; rw [z2] at h2
  have e : (x + (128 : Int32)).toInt = x.toInt + 128 := by rw [Jvm.Kit.i32_add (by rw [z3]; omega) (by rw [z3]; omega), z3]
  have : (x + (128 : Int32)).toNatClampNeg = (x + (128 : Int32)).toInt.toNat := rfl
  rw [Int32.lt_iff_toInt_lt, e, z0, this, e]
  omega
theorem own_eqI {args : Array Value} {s : State} {t : Term} {k : Int32} (h : (Cond.eq t (.int k)).value args s none s [] = some true) : t.eval args s none [] s = some (.int k) := by
  obtain ⟨x, y, h1, h2, k1, k2⟩ := cmp_v (Or.inl h)
  have : y = .int k := (Option.some.inj h2).symm
  subst this
  obtain ⟨z, rfl⟩ := k2
  have g := Cond.eq_ints h1 h2
  rw [g] at h
  have : z = k := by simpa using h
  rw [h1, this]
theorem own_size {n : Nat} {k : Int32} (h : n < 2 ^ 31) (e : n.toInt32 = k) (hk : ¬ k < 0) : n = k.toNatClampNeg := by
  subst e
  have h1 : (n.toInt32).toInt = n := by
    show (Int32.ofNat n).toInt = n
    exact Int32.toInt_ofNat_of_lt h
  have h2 : (n.toInt32).toNatClampNeg = (n.toInt32).toInt.toNat := rfl
  rw [h2, h1]; rfl
theorem own_allrefs {args : Array Value} {s : State} {t : Term} {C : String} {c2 : Cond} {ca : Addr} {cell : Cell} (g : (Cond.all t (.and (.exactly (.elem t (.index 0)) C) c2)).value args s none s [] = some true) (ht : ∀ idx, t.eval args s none idx s = some (.ref ca)) (l2 : s.arrayAt? ca = some cell) (hsz : cell.slots.size = 256) : ∀ i, i < 256 → ∃ r, cell.slots[i]? = some (.ref r) := by
  intro i hi
  have q := Cond.all_elim (ht []) l2 g i (by rw [hsz]; exact hi)
  obtain ⟨q1, -⟩ := and_e q
  obtain ⟨x, hx⟩ := exa_v q1
  have h1 : (i.toInt32).toInt = i := by
    show (Int32.ofNat i).toInt = i
    exact Int32.toInt_ofNat_of_lt (by omega)
  have h2 : (i.toInt32).toNatClampNeg = i := by
    have : (i.toInt32).toNatClampNeg = (i.toInt32).toInt.toNat := rfl
    rw [this, h1]; rfl
  have h3 : ¬ i.toInt32 < 0 := by
    rw [Int32.lt_iff_toInt_lt, h1]
    have z0 : (0 : Int32).toInt = 0 := by decide
    rw [z0]; omega
  have hj : (Term.index 0).eval args s none [i] s = some (.int i.toInt32) := Term.index_eval _
  have e := elem_f (ht [i]) hj l2 h3
  rw [hx, h2] at e
  exact ⟨x, e.symm⟩
def Q_num (h0 : Heap) (n0 : Nat) (v : Option Value) (h : Heap) (L : List Loc) : Prop := v = none ∧ Fr n0 L ∧ h = h0
theorem ef_rm_num (m : MethodId) (x0 : Addr) : entryFrame m #[(.ref x0)] 1 = mkF m 0 #[.val (.ref x0)] [] := by first | (simp [entryFrame, mkF, argsToLocals, Value.category]; done) | rfl | (simp [entryFrame, mkF, argsToLocals, Value.category] <;> rfl)
theorem pn_1 : plainName "java/lang/Number" = true := by first | (simp [plainName, overriddenIn]; done) | decide +kernel
theorem d8_0 : decode jdk_18_method_1_code 0 = .ok (.aload_n 0, 1) := by decide +kernel
theorem d8_1 : decode jdk_18_method_1_code 1 = .ok (.invokespecial 1, 3) := by decide +kernel
theorem d8_4 : decode jdk_18_method_1_code 4 = .ok (.return_, 1) := by decide +kernel
set_option maxRecDepth 65536 in
set_option maxHeartbeats 40000000 in
theorem rm_num (l : Launch) (Z : State) (a0 : Array Value) (hw : ∀ d ∈ tables_1, d.before a0 Z = true) (ws : List Jvm.Cond) (a1 : Addr) (h0 : Heap) (n0 : Nat) (Z0 : n0 ≤ h0.size)  :
    MetFree l (⟨"java/lang/Number", "<init>", "()V"⟩ : MethodName) (head1 (Jvm.Cond.code (⟨"java/lang/Number", "<init>", "()V"⟩ : MethodName) jdk_18_method_1_code 1 none :: ws) ({ frames := 1, cells := 0, slots := 0, locals := 12 } : Room)) (fun a U => a = #[(.ref a1)] ∧ Z.Warmed39 U.vm ∧ U.heap = h0) (fun _ _ _ _ _ => True) (fun _ U o U' => ∃ v L, o = .returned v ∧ (Q_num h0 n0) v U'.heap L ∧ FrameEnd U o U' L ({ frames := 1, cells := 0, slots := 0, locals := 12 } : Room).cells ({ frames := 1, cells := 0, slots := 0, locals := 12 } : Room).slots) := by
  refine MetFree.of_bodySF (plainFor_of_name pn_1) hisR ?_
  intro p e s m args below meth c s₁ Bd hml0 hP hK
  obtain ⟨rfl, hZ, hh⟩ := hP
  have hx := Bd.exec
  have hby := Bd.bytes
  have hlk : meth.locks = false := BodyLoose.notSynchronized Bd
  have hml : c.maxLocals = 1 := hml0
  have hown : s.vm.findClass "java/lang/Number" = some m.cls := findClass_of_methodNamed Bd.named
  have hnm := (name_of_methodNamed Bd.named Bd.method).1
  have X0 : Stand p l e ({ frames := 1, cells := 0, slots := 0, locals := 12 } : Room) s m #[(.ref a1)] below meth c s₁ [] 0 0 := Stand.of_body Bd
  have e0 : s₁.heap = h0 := by rw [← hh, Bd.state]; rfl
  have N0 := Fr.nil n0
  show own_Go p e below s (Q_num h0 n0) ({ frames := 1, cells := 0, slots := 0, locals := 12 } : Room).cells ({ frames := 1, cells := 0, slots := 0, locals := 12 } : Room).slots s₁ (entryFrame m #[(.ref a1)] 1)
  refine own_cast (g' := (mkF m 0 #[.val (.ref a1)] [])) (ef_rm_num m a1) ?_
  refine own_step (T' := s₁) (g' := (mkF m 1 #[.val (.ref a1)] [(.ref a1)])) (fun t k => XS.aloadN X0.here hx rfl (hb hby d8_0) rfl rfl k) ?_
  obtain ⟨T1, X1, e1, st1⟩ := initO X0 hx hZ hown (hw _ (List.mem_of_getElem? (i := 55) rfl)) (hw _ (List.mem_of_getElem? (i := 19) rfl)) (hw _ (List.mem_of_getElem? (i := 20) rfl)) e0 (g := (mkF m 1 #[.val (.ref a1)] [(.ref a1)])) rfl (by rw [hml]; rfl) rfl (hb hby d8_1) (by decide) (W := 0) (by show 2 * 0 + _ ≤ _; exact Nat.le_of_eq rfl) (by decide)
  refine own_step (T' := T1) (g' := (mkF m 4 #[.val (.ref a1)] [])) st1 ?_
  refine own_rV X1 hx hlk Bd.returns (hb hby d8_4) ?_ (by decide) (by decide)
  rw [e1]
  exact ⟨rfl, N0, rfl⟩
def Q_iinit (Z : State) (a1 : Addr) (x2 : Int32) (h0 : Heap) (n0 : Nat) (v : Option Value) (h : Heap) (L : List Loc) : Prop := v = none ∧ Fr n0 L ∧ Keep h0 h [a1] ∧ Exa Z h a1 "java/lang/Integer" ∧ Fld Z h a1 "java/lang/Integer" "value" "I" (.int x2)
theorem ef_rm_iinit (m : MethodId) (x0 : Addr) (x1 : Int32) : entryFrame m #[(.ref x0), (.int x1)] 2 = mkF m 0 #[.val (.ref x0), .val (.int x1)] [] := by first | (simp [entryFrame, mkF, argsToLocals, Value.category]; done) | rfl | (simp [entryFrame, mkF, argsToLocals, Value.category] <;> rfl)
theorem pn_2 : plainName "java/lang/Integer" = true := by first | (simp [plainName, overriddenIn]; done) | decide +kernel
theorem d7_0 : decode jdk_33_method_23_code 0 = .ok (.aload_n 0, 1) := by decide +kernel
theorem pd_0 : parseMethodDescriptor "()V" = some ⟨[], none⟩ := by decide +kernel
theorem d7_1 : decode jdk_33_method_23_code 1 = .ok (.invokespecial 202, 3) := by decide +kernel
theorem d7_4 : decode jdk_33_method_23_code 4 = .ok (.aload_n 0, 1) := by decide +kernel
theorem d7_5 : decode jdk_33_method_23_code 5 = .ok (.iload_n 1, 1) := by decide +kernel
theorem d7_6 : decode jdk_33_method_23_code 6 = .ok (.putfield 205, 3) := by decide +kernel
theorem d7_9 : decode jdk_33_method_23_code 9 = .ok (.return_, 1) := by decide +kernel
set_option maxRecDepth 65536 in
set_option maxHeartbeats 40000000 in
theorem rm_iinit (l : Launch) (Z : State) (a0 : Array Value) (hw : ∀ d ∈ tables_1, d.before a0 Z = true) (ws : List Jvm.Cond) (a1 : Addr) (x2 : Int32) (u0 : Value) (h0 : Heap) (n0 : Nat) (Z0 : n0 ≤ h0.size) (E_a : Exa Z h0 a1 "java/lang/Integer") (F0 : Fld Z h0 a1 "java/lang/Integer" "value" "I" u0) (o_a : n0 ≤ a1) :
    MetFree l (⟨"java/lang/Integer", "<init>", "(I)V"⟩ : MethodName) (head1 (Jvm.Cond.code (⟨"java/lang/Integer", "<init>", "(I)V"⟩ : MethodName) jdk_33_method_23_code 2 none :: ws) ({ frames := 2, cells := 0, slots := 0, locals := 24 } : Room)) (fun a U => a = #[(.ref a1), (.int x2)] ∧ Z.Warmed39 U.vm ∧ U.heap = h0) (fun _ _ _ _ _ => True) (fun _ U o U' => ∃ v L, o = .returned v ∧ (Q_iinit Z a1 x2 h0 n0) v U'.heap L ∧ FrameEnd U o U' L ({ frames := 2, cells := 0, slots := 0, locals := 24 } : Room).cells ({ frames := 2, cells := 0, slots := 0, locals := 24 } : Room).slots) := by
  refine MetFree.of_bodySF (plainFor_of_name pn_2) hisR ?_
  intro p e s m args below meth c s₁ Bd hml0 hP hK
  obtain ⟨rfl, hZ, hh⟩ := hP
  have hx := Bd.exec
  have hby := Bd.bytes
  have hlk : meth.locks = false := BodyLoose.notSynchronized Bd
  have hml : c.maxLocals = 2 := hml0
  have hown : s.vm.findClass "java/lang/Integer" = some m.cls := findClass_of_methodNamed Bd.named
  have hnm := (name_of_methodNamed Bd.named Bd.method).1
  have X0 : Stand p l e ({ frames := 2, cells := 0, slots := 0, locals := 24 } : Room) s m #[(.ref a1), (.int x2)] below meth c s₁ [] 0 0 := Stand.of_body Bd
  have e0 : s₁.heap = h0 := by rw [← hh, Bd.state]; rfl
  have N0 := Fr.nil n0
  show own_Go p e below s (Q_iinit Z a1 x2 h0 n0) ({ frames := 2, cells := 0, slots := 0, locals := 24 } : Room).cells ({ frames := 2, cells := 0, slots := 0, locals := 24 } : Room).slots s₁ (entryFrame m #[(.ref a1), (.int x2)] 2)
  refine own_cast (g' := (mkF m 0 #[.val (.ref a1), .val (.int x2)] [])) (ef_rm_iinit m a1 x2) ?_
  have K0 : Keep h0 h0 [a1] := Keep.refl _ _
  refine own_step (T' := s₁) (g' := (mkF m 1 #[.val (.ref a1), .val (.int x2)] [(.ref a1)])) (fun t k => XS.aloadN X0.here hx rfl (hb hby d7_0) rfl rfl k) ?_
  obtain ⟨_, _, ⟨T2, L2, k2, n2⟩, -, X2, ⟨Lc2, hQ2, lq2, yq2, zq2⟩, st2⟩ := X0.specialBack hx (y := (⟨"java/lang/Number", "<init>", "()V"⟩ : MethodName)) rfl hown (mvT hZ (hw _ (List.mem_of_getElem? (i := 49) rfl))) (mvT hZ (hw _ (List.mem_of_getElem? (i := 50) rfl))) (mvT hZ (hw _ (List.mem_of_getElem? (i := 54) rfl))) (by decide) (backOf (W := 0) (rm_num l Z a0 hw [] a1 h0 n0 Z0 ) hZ (hw _ (List.mem_of_getElem? (i := 54) rfl)) (hw _ (List.mem_of_getElem? (i := 53) rfl)) (by decide) (by decide)) (g := (mkF m 1 #[.val (.ref a1), .val (.int x2)] [(.ref a1)])) rfl (by rw [hml]; rfl) (Steps.refl _) (a := a1) (argsL := []) (rest := []) (lenOf pd_0 rfl) rfl (by show 2 * 0 + _ ≤ _; exact Nat.le_of_eq rfl) (hb hby d7_1) (fun _ _ => ⟨rfl, e0, (by decide : 0 + 0 ≤ _), (by decide : 0 + 0 ≤ _)⟩)
  dsimp only [Pt.U, Pt.locs, Pt.cells, Pt.slots] at X2 lq2 yq2 zq2 st2 hQ2
  subst lq2 yq2 zq2
  obtain ⟨rfl, Nq2, eq1⟩ := hQ2
  have N2 := Fr.app N0 Nq2
  refine own_tr (T' := T2) (g' := (mkF m 4 #[.val (.ref a1), .val (.int x2)] [])) st2 ?_
  refine own_step (T' := T2) (g' := (mkF m 5 #[.val (.ref a1), .val (.int x2)] [(.ref a1)])) (fun t k => XS.aloadN X2.here hx rfl (hb hby d7_4) rfl rfl k) ?_
  refine own_step (T' := T2) (g' := (mkF m 6 #[.val (.ref a1), .val (.int x2)] [(.int x2), (.ref a1)])) (fun t k => XS.iloadN X2.here hx rfl (hb hby d7_5) rfl k) ?_
  obtain ⟨T3, h3, X3, e3, W3, st3⟩ := putF X2 hx hZ hown (host := "") (Or.inl (hw _ (List.mem_of_getElem? (i := 56) rfl))) Via.refl eq1 F0 E_a (Or.inr ⟨(hw _ (List.mem_of_getElem? (i := 57) rfl)), rfl, hnm⟩) (hw _ (List.mem_of_getElem? (i := 44) rfl)) (ty := .int) (by decide) rfl rfl (g := (mkF m 6 #[.val (.ref a1), .val (.int x2)] [(.int x2), (.ref a1)])) rfl rfl (hb hby d7_6)
  have g4 : Exa Z h3 a1 "java/lang/Integer" := E_a.wr W3
  have g5 : Fld Z h3 a1 "java/lang/Integer" "value" "I" (.int x2) := F0.same W3
  have K6 : Keep h0 h3 [a1] := K0.wr W3 (Or.inl (List.mem_of_getElem? (i := 0) rfl))
  have N3 := Fr.snoc X3 N2 o_a
  have Z3 : n0 ≤ h3.size := (Nat.le_trans Z0 (Nat.le_of_eq W3.size.symm))
  refine own_step (T' := T3) (g' := (mkF m 9 #[.val (.ref a1), .val (.int x2)] [])) st3 ?_
  refine own_rV X3 hx hlk Bd.returns (hb hby d7_9) ?_ (by decide) (by decide)
  rw [e3]
  exact ⟨rfl, N3, K6, g4, g5⟩
def Q_vo (h0 : Heap) (n0 : Nat) (v : Option Value) (h : Heap) (L : List Loc) : Prop := ∃ r : Addr, v = some (.ref r) ∧ Fr n0 L ∧ Keep h0 h []
theorem ef_rm_vo (m : MethodId) (x0 : Int32) : entryFrame m #[(.int x0)] 1 = mkF m 0 #[.val (.int x0)] [] := by first | (simp [entryFrame, mkF, argsToLocals, Value.category]; done) | rfl | (simp [entryFrame, mkF, argsToLocals, Value.category] <;> rfl)
theorem d1_0 : decode jdk_33_method_22_code 0 = .ok (.iload_n 0, 1) := by decide +kernel
theorem d1_1 : decode jdk_33_method_22_code 1 = .ok (.bipush (-128), 2) := by decide +kernel
theorem d1_3 : decode jdk_33_method_22_code 3 = .ok (.if_icmp .lt 20, 3) := by decide +kernel
theorem d1_23 : decode jdk_33_method_22_code 23 = .ok (.new 1, 3) := by decide +kernel
theorem d1_26 : decode jdk_33_method_22_code 26 = .ok (.dup, 1) := by decide +kernel
theorem d1_27 : decode jdk_33_method_22_code 27 = .ok (.iload_n 0, 1) := by decide +kernel
theorem pd_1 : parseMethodDescriptor "(I)V" = some ⟨[.int], none⟩ := by decide +kernel
theorem d1_28 : decode jdk_33_method_22_code 28 = .ok (.invokespecial 199, 3) := by decide +kernel
theorem d1_31 : decode jdk_33_method_22_code 31 = .ok (.areturn, 1) := by decide +kernel
theorem d1_6 : decode jdk_33_method_22_code 6 = .ok (.iload_n 0, 1) := by decide +kernel
theorem d1_7 : decode jdk_33_method_22_code 7 = .ok (.getstatic 191, 3) := by decide +kernel
theorem d1_10 : decode jdk_33_method_22_code 10 = .ok (.if_icmp .gt 13, 3) := by decide +kernel
theorem d1_13 : decode jdk_33_method_22_code 13 = .ok (.getstatic 195, 3) := by decide +kernel
theorem d1_16 : decode jdk_33_method_22_code 16 = .ok (.iload_n 0, 1) := by decide +kernel
theorem d1_17 : decode jdk_33_method_22_code 17 = .ok (.sipush 128, 3) := by decide +kernel
theorem d1_20 : decode jdk_33_method_22_code 20 = .ok (.iadd, 1) := by decide +kernel
theorem d1_21 : decode jdk_33_method_22_code 21 = .ok (.aaload, 1) := by decide +kernel
theorem d1_22 : decode jdk_33_method_22_code 22 = .ok (.areturn, 1) := by decide +kernel
set_option maxRecDepth 65536 in
set_option maxHeartbeats 40000000 in
theorem rm_vo (l : Launch) (Z : State) (a0 : Array Value) (hw : ∀ d ∈ tables_1, d.before a0 Z = true) (ws : List Jvm.Cond) (p1 : Int32) (ca : Addr) (cc : Cell) (h0 : Heap) (n0 : Nat) (Z0 : n0 ≤ h0.size) (O0 : Old Z n0 h0) (S_h : Sta Z Z.heap "java/lang/Integer$IntegerCache" "high" "I" (.int (127 : Int32))) (S_c : Sta Z Z.heap "java/lang/Integer$IntegerCache" "cache" "[Ljava/lang/Integer;" (.ref ca)) (A_c : Arr Z Z.heap ca cc (.object "java/lang/Integer")) (H_c : cc.slots.size = 256 ∧ ∀ i, i < 256 → ∃ r, cc.slots[i]? = some (.ref r)) :
    MetFree l (⟨"java/lang/Integer", "valueOf", "(I)Ljava/lang/Integer;"⟩ : MethodName) (head1 (Jvm.Cond.code (⟨"java/lang/Integer", "valueOf", "(I)Ljava/lang/Integer;"⟩ : MethodName) jdk_33_method_22_code 1 (some (.object "java/lang/Integer")) :: ws) ({ frames := 3, cells := 1, slots := 1, locals := 38 } : Room)) (fun a U => a = #[(.int p1)] ∧ Z.Warmed39 U.vm ∧ U.heap = h0) (fun _ _ _ _ _ => True) (fun _ U o U' => ∃ v L, o = .returned v ∧ (Q_vo h0 n0) v U'.heap L ∧ FrameEnd U o U' L ({ frames := 3, cells := 1, slots := 1, locals := 38 } : Room).cells ({ frames := 3, cells := 1, slots := 1, locals := 38 } : Room).slots) := by
  refine MetFree.of_bodySF (plainFor_of_name pn_2) hisR ?_
  intro p e s m args below meth c s₁ Bd hml0 hP hK
  obtain ⟨rfl, hZ, hh⟩ := hP
  have hx := Bd.exec
  have hby := Bd.bytes
  have hlk : meth.locks = false := BodyLoose.notSynchronized Bd
  have hml : c.maxLocals = 1 := hml0
  have hown : s.vm.findClass "java/lang/Integer" = some m.cls := findClass_of_methodNamed Bd.named
  have hnm := (name_of_methodNamed Bd.named Bd.method).1
  have X0 : Stand p l e ({ frames := 3, cells := 1, slots := 1, locals := 38 } : Room) s m #[(.int p1)] below meth c s₁ [] 0 0 := Stand.of_body Bd
  have e0 : s₁.heap = h0 := by rw [← hh, Bd.state]; rfl
  have N0 := Fr.nil n0
  show own_Go p e below s (Q_vo h0 n0) ({ frames := 3, cells := 1, slots := 1, locals := 38 } : Room).cells ({ frames := 3, cells := 1, slots := 1, locals := 38 } : Room).slots s₁ (entryFrame m #[(.int p1)] 1)
  refine own_cast (g' := (mkF m 0 #[.val (.int p1)] [])) (ef_rm_vo m p1) ?_
  have K0 : Keep h0 h0 [] := Keep.refl _ _
  refine own_step (T' := s₁) (g' := (mkF m 1 #[.val (.int p1)] [(.int p1)])) (fun t k => XS.iloadN X0.here hx rfl (hb hby d1_0) rfl k) ?_
  refine own_step (T' := s₁) (g' := (mkF m 3 #[.val (.int p1)] [(.int ((-128) : Int32)), (.int p1)])) (fun t k => XS.bipush X0.here hx rfl (hb hby d1_1) k) ?_
  by_cases c3 : p1 < ((-128) : Int32)
  · refine own_step (T' := s₁) (g' := (mkF m 23 #[.val (.int p1)] [])) (fun t k => XS.icmpYes X0.here hx rfl (pc0 := 3) (pc' := 23) rfl (hb hby d1_3) rfl (tlt c3).1 (by decide) (by decide) k) ?_
    obtain ⟨T1, h1, X1, e1, E1, A1, D1, -, st1⟩ := newO X0 hx hZ hown (hw _ (List.mem_of_getElem? (i := 43) rfl)) (hw _ (List.mem_of_getElem? (i := 44) rfl)) (hw _ (List.mem_of_getElem? (i := 2) rfl)) e0 (g := (mkF m 23 #[.val (.int p1)] [])) rfl (hb hby d1_23) (by decide : 0 + 1 ≤ _) (by decide : 0 + 1 ≤ _)
    obtain ⟨ad1, g_ad1⟩ : ∃ z, z = h0.size := ⟨_, rfl⟩
    rw [← g_ad1] at A1 D1 st1
    have o1 : n0 ≤ ad1 := (Nat.le_trans Z0 (Nat.le_of_eq g_ad1.symm))
    have Z1 : n0 ≤ h1.size := (Nat.le_trans Z0 E1.1)
    have O1 : Old Z n0 h1 := O0.ext E1
    have f1 : h0.size ≤ ad1 := by rw [g_ad1]; exact K0.1
    have K2 : Keep h0 h1 [] := K0.ext E1
    have g3 : Fld Z h1 ad1 "java/lang/Integer" "value" "I" (.int (0 : Int32)) := D1 (Or.inr (hw _ (List.mem_of_getElem? (i := 57) rfl))) (ty := .int) (by decide)
    refine own_step (T' := T1) (g' := (mkF m 26 #[.val (.int p1)] [(.ref ad1)])) st1 ?_
    refine own_step (T' := T1) (g' := (mkF m 27 #[.val (.int p1)] [(.ref ad1), (.ref ad1)])) (fun t k => XS.dup X1.here hx rfl (hb hby d1_26) rfl rfl k) ?_
    refine own_step (T' := T1) (g' := (mkF m 28 #[.val (.int p1)] [(.int p1), (.ref ad1), (.ref ad1)])) (fun t k => XS.iloadN X1.here hx rfl (hb hby d1_27) rfl k) ?_
    obtain ⟨_, _, ⟨T7, L7, k7, n7⟩, -, X7, ⟨Lc7, hQ7, lq7, yq7, zq7⟩, st7⟩ := X1.specialBack hx (y := (⟨"java/lang/Integer", "<init>", "(I)V"⟩ : MethodName)) rfl hown (mvT hZ (hw _ (List.mem_of_getElem? (i := 45) rfl))) (mvT hZ (hw _ (List.mem_of_getElem? (i := 46) rfl))) (mvT hZ (hw _ (List.mem_of_getElem? (i := 48) rfl))) (by decide) (backOf (W := 1) (rm_iinit l Z a0 hw [] ad1 p1 _ h1 n0 Z1 A1 g3 o1) hZ (hw _ (List.mem_of_getElem? (i := 48) rfl)) (hw _ (List.mem_of_getElem? (i := 2) rfl)) (by decide) (by decide)) (g := (mkF m 28 #[.val (.int p1)] [(.int p1), (.ref ad1), (.ref ad1)])) rfl (by rw [hml]; rfl) (Steps.refl _) (a := ad1) (argsL := [(.int p1)]) (rest := [(.ref ad1)]) (lenOf pd_1 rfl) rfl (by show 2 * 0 + _ ≤ _; exact Nat.le_of_eq rfl) (hb hby d1_28) (fun _ _ => ⟨rfl, e1, (by decide : 1 + 0 ≤ _), (by decide : 1 + 0 ≤ _)⟩)
    dsimp only [Pt.U, Pt.locs, Pt.cells, Pt.slots] at X7 lq7 yq7 zq7 st7 hQ7
    subst lq7 yq7 zq7
    obtain ⟨rfl, Nq7, K4, g5, g6⟩ := hQ7
    have N7 := Fr.app N0 Nq7
    have Z4 : n0 ≤ T7.heap.size := (Nat.le_trans Z1 K4.1)
    have O4 : Old Z n0 T7.heap := O1.keep K4 (allS (P := fun x => n0 ≤ x) o1 all0)
    have K8 : Keep h0 T7.heap [] := K2.trans K4 (allS (P := fun x => x ∈ [] ∨ h0.size ≤ x) (Or.inr f1) all0)
    refine own_tr (T' := T7) (g' := (mkF m 31 #[.val (.int p1)] [(.ref ad1)])) st7 ?_
    refine own_rA X7 hx hlk Bd.returns rfl (w := (.ref ad1)) rfl (hb hby d1_31) ?_ (by decide) (by decide)
    exact ⟨_, rfl, N7, K8⟩
  · refine own_step (T' := s₁) (g' := (mkF m 6 #[.val (.int p1)] [])) (fun t k => XS.icmpNo X0.here hx rfl (hb hby d1_3) rfl (flt c3).1 k) ?_
    refine own_step (T' := s₁) (g' := (mkF m 7 #[.val (.int p1)] [(.int p1)])) (fun t k => XS.iloadN X0.here hx rfl (hb hby d1_6) rfl k) ?_
    obtain ⟨T9, X9, e9, st9⟩ := getS2 X0 hx hZ hown (host := "") (Or.inl (hw _ (List.mem_of_getElem? (i := 4) rfl))) Via.refl e0 (S_h.ext O0.2) (g := (mkF m 7 #[.val (.int p1)] [(.int p1)])) rfl (hb hby d1_7)
    refine own_step (T' := T9) (g' := (mkF m 10 #[.val (.int p1)] [(.int (127 : Int32)), (.int p1)])) st9 ?_
    by_cases c10 : (127 : Int32) < p1
    · refine own_step (T' := T9) (g' := (mkF m 23 #[.val (.int p1)] [])) (fun t k => XS.icmpYes X9.here hx rfl (pc0 := 10) (pc' := 23) rfl (hb hby d1_10) rfl (tlt c10).2.2.1 (by decide) (by decide) k) ?_
      obtain ⟨T10, h10, X10, e10, E10, A10, D10, -, st10⟩ := newO X9 hx hZ hown (hw _ (List.mem_of_getElem? (i := 43) rfl)) (hw _ (List.mem_of_getElem? (i := 44) rfl)) (hw _ (List.mem_of_getElem? (i := 2) rfl)) e9 (g := (mkF m 23 #[.val (.int p1)] [])) rfl (hb hby d1_23) (by decide : 0 + 1 ≤ _) (by decide : 0 + 1 ≤ _)
      obtain ⟨ad10, g_ad10⟩ : ∃ z, z = h0.size := ⟨_, rfl⟩
      rw [← g_ad10] at A10 D10 st10
      have o10 : n0 ≤ ad10 := (Nat.le_trans Z0 (Nat.le_of_eq g_ad10.symm))
      have Z10 : n0 ≤ h10.size := (Nat.le_trans Z0 E10.1)
      have O10 : Old Z n0 h10 := O0.ext E10
      have f10 : h0.size ≤ ad10 := by rw [g_ad10]; exact K0.1
      have K11 : Keep h0 h10 [] := K0.ext E10
      have g12 : Fld Z h10 ad10 "java/lang/Integer" "value" "I" (.int (0 : Int32)) := D10 (Or.inr (hw _ (List.mem_of_getElem? (i := 57) rfl))) (ty := .int) (by decide)
      refine own_step (T' := T10) (g' := (mkF m 26 #[.val (.int p1)] [(.ref ad10)])) st10 ?_
      refine own_step (T' := T10) (g' := (mkF m 27 #[.val (.int p1)] [(.ref ad10), (.ref ad10)])) (fun t k => XS.dup X10.here hx rfl (hb hby d1_26) rfl rfl k) ?_
      refine own_step (T' := T10) (g' := (mkF m 28 #[.val (.int p1)] [(.int p1), (.ref ad10), (.ref ad10)])) (fun t k => XS.iloadN X10.here hx rfl (hb hby d1_27) rfl k) ?_
      obtain ⟨_, _, ⟨T16, L16, k16, n16⟩, -, X16, ⟨Lc16, hQ16, lq16, yq16, zq16⟩, st16⟩ := X10.specialBack hx (y := (⟨"java/lang/Integer", "<init>", "(I)V"⟩ : MethodName)) rfl hown (mvT hZ (hw _ (List.mem_of_getElem? (i := 45) rfl))) (mvT hZ (hw _ (List.mem_of_getElem? (i := 46) rfl))) (mvT hZ (hw _ (List.mem_of_getElem? (i := 48) rfl))) (by decide) (backOf (W := 1) (rm_iinit l Z a0 hw [] ad10 p1 _ h10 n0 Z10 A10 g12 o10) hZ (hw _ (List.mem_of_getElem? (i := 48) rfl)) (hw _ (List.mem_of_getElem? (i := 2) rfl)) (by decide) (by decide)) (g := (mkF m 28 #[.val (.int p1)] [(.int p1), (.ref ad10), (.ref ad10)])) rfl (by rw [hml]; rfl) (Steps.refl _) (a := ad10) (argsL := [(.int p1)]) (rest := [(.ref ad10)]) (lenOf pd_1 rfl) rfl (by show 2 * 0 + _ ≤ _; exact Nat.le_of_eq rfl) (hb hby d1_28) (fun _ _ => ⟨rfl, e10, (by decide : 1 + 0 ≤ _), (by decide : 1 + 0 ≤ _)⟩)
      dsimp only [Pt.U, Pt.locs, Pt.cells, Pt.slots] at X16 lq16 yq16 zq16 st16 hQ16
      subst lq16 yq16 zq16
      obtain ⟨rfl, Nq16, K13, g14, g15⟩ := hQ16
      have N16 := Fr.app N0 Nq16
      have Z13 : n0 ≤ T16.heap.size := (Nat.le_trans Z10 K13.1)
      have O13 : Old Z n0 T16.heap := O10.keep K13 (allS (P := fun x => n0 ≤ x) o10 all0)
      have K17 : Keep h0 T16.heap [] := K11.trans K13 (allS (P := fun x => x ∈ [] ∨ h0.size ≤ x) (Or.inr f10) all0)
      refine own_tr (T' := T16) (g' := (mkF m 31 #[.val (.int p1)] [(.ref ad10)])) st16 ?_
      refine own_rA X16 hx hlk Bd.returns rfl (w := (.ref ad10)) rfl (hb hby d1_31) ?_ (by decide) (by decide)
      exact ⟨_, rfl, N16, K17⟩
    · refine own_step (T' := T9) (g' := (mkF m 13 #[.val (.int p1)] [])) (fun t k => XS.icmpNo X9.here hx rfl (hb hby d1_10) rfl (flt c10).2.2.1 k) ?_
      obtain ⟨T18, X18, e18, st18⟩ := getS2 X9 hx hZ hown (host := "") (Or.inl (hw _ (List.mem_of_getElem? (i := 6) rfl))) Via.refl e9 (S_c.ext O0.2) (g := (mkF m 13 #[.val (.int p1)] [])) rfl (hb hby d1_13)
      refine own_step (T' := T18) (g' := (mkF m 16 #[.val (.int p1)] [(.ref ca)])) st18 ?_
      refine own_step (T' := T18) (g' := (mkF m 17 #[.val (.int p1)] [(.int p1), (.ref ca)])) (fun t k => XS.iloadN X18.here hx rfl (hb hby d1_16) rfl k) ?_
      refine own_step (T' := T18) (g' := (mkF m 20 #[.val (.int p1)] [(.int (128 : Int32)), (.int p1), (.ref ca)])) (fun t k => XS.sipush X18.here hx rfl (hb hby d1_17) k) ?_
      refine own_step (T' := T18) (g' := (mkF m 21 #[.val (.int p1)] [(.int (p1 + (128 : Int32))), (.ref ca)])) (fun t k => XS.iadd X18.here hx rfl (hb hby d1_20) rfl k) ?_
      have hci := own_ci c3 c10
      obtain ⟨r, hr⟩ := H_c.2 _ hci.2
      have A_h := A_c.ext O0.2
      refine own_step (T' := T18) (g' := (mkF m 22 #[.val (.int p1)] [(.ref r)])) (fun t k => X18.aaload hx (j := (p1 + (128 : Int32))) (v := .ref r) (by rw [e18]; exact A_h.1) (State.isArrayOf_alike hZ.alike A_h.2.1) rfl A_h.2.2 (fun q => q.elim hci.1 (fun q => absurd hci.2 (by rw [H_c.1] at q; omega))) hr (g := (mkF m 21 #[.val (.int p1)] [(.int (p1 + (128 : Int32))), (.ref ca)])) rfl rfl (hb hby d1_21) t k) ?_
      refine own_rA X18 hx hlk Bd.returns rfl (w := (.ref r)) rfl (hb hby d1_22) ?_ (by decide) (by decide)
      rw [e18]
      exact ⟨_, rfl, N0, K0⟩
theorem own_nb01 {b : Int32} (h : b = 0 ∨ b = 1) : narrow .boolean (.int b) = .int b := by rcases h with rfl | rfl <;> rfl
theorem own_fb01 {b : Int32} (h : b = 0 ∨ b = 1) : fits .boolean (.int b) = true := by rcases h with rfl | rfl <;> rfl
def Q_binit (Z : State) (a1 : Addr) (x2 : Addr) (x3 : Int32) (h0 : Heap) (n0 : Nat) (v : Option Value) (h : Heap) (L : List Loc) : Prop := v = none ∧ Fr n0 L ∧ Keep h0 h [a1] ∧ Exa Z h a1 "com/example/strandcast/strandcast/query/Interval$Bound" ∧ Fld Z h a1 "com/example/strandcast/strandcast/query/Interval$Bound" "value" "Ljava/lang/Object;" (.ref x2) ∧ Fld Z h a1 "com/example/strandcast/strandcast/query/Interval$Bound" "inclusive" "Z" (.int x3)
theorem ef_rm_binit (m : MethodId) (x0 : Addr) (x1 : Addr) (x2 : Int32) : entryFrame m #[(.ref x0), (.ref x1), (.int x2)] 3 = mkF m 0 #[.val (.ref x0), .val (.ref x1), .val (.int x2)] [] := by first | (simp [entryFrame, mkF, argsToLocals, Value.category]; done) | rfl | (simp [entryFrame, mkF, argsToLocals, Value.category] <;> rfl)
theorem pn_3 : plainName "com/example/strandcast/strandcast/query/Interval$Bound" = true := by first | (simp [plainName, overriddenIn]; done) | decide +kernel
theorem d2_0 : decode prog_39_method_1_code 0 = .ok (.aload_n 0, 1) := by decide +kernel
theorem d2_1 : decode prog_39_method_1_code 1 = .ok (.invokespecial 1, 3) := by decide +kernel
theorem d2_4 : decode prog_39_method_1_code 4 = .ok (.aload_n 0, 1) := by decide +kernel
theorem d2_5 : decode prog_39_method_1_code 5 = .ok (.aload_n 1, 1) := by decide +kernel
theorem d2_6 : decode prog_39_method_1_code 6 = .ok (.putfield 7, 3) := by decide +kernel
theorem d2_9 : decode prog_39_method_1_code 9 = .ok (.aload_n 0, 1) := by decide +kernel
theorem d2_10 : decode prog_39_method_1_code 10 = .ok (.iload_n 2, 1) := by decide +kernel
theorem d2_11 : decode prog_39_method_1_code 11 = .ok (.putfield 13, 3) := by decide +kernel
theorem d2_14 : decode prog_39_method_1_code 14 = .ok (.return_, 1) := by decide +kernel
set_option maxRecDepth 65536 in
set_option maxHeartbeats 40000000 in
theorem rm_binit (l : Launch) (Z : State) (a0 : Array Value) (hw : ∀ d ∈ tables_1, d.before a0 Z = true) (ws : List Jvm.Cond) (a1 : Addr) (x2 : Addr) (x3 : Int32) (u0 : Value) (u1 : Value) (h0 : Heap) (n0 : Nat) (Z0 : n0 ≤ h0.size) (E_a : Exa Z h0 a1 "com/example/strandcast/strandcast/query/Interval$Bound") (F0 : Fld Z h0 a1 "com/example/strandcast/strandcast/query/Interval$Bound" "value" "Ljava/lang/Object;" u0) (F1 : Fld Z h0 a1 "com/example/strandcast/strandcast/query/Interval$Bound" "inclusive" "Z" u1) (o_a : n0 ≤ a1) (hb01 : x3 = 0 ∨ x3 = 1) :
    MetFree l (⟨"com/example/strandcast/strandcast/query/Interval$Bound", "<init>", "(Ljava/lang/Object;Z)V"⟩ : MethodName) (head1 (Jvm.Cond.code (⟨"com/example/strandcast/strandcast/query/Interval$Bound", "<init>", "(Ljava/lang/Object;Z)V"⟩ : MethodName) prog_39_method_1_code 3 none :: ws) ({ frames := 2, cells := 0, slots := 0, locals := 24 } : Room)) (fun a U => a = #[(.ref a1), (.ref x2), (.int x3)] ∧ Z.Warmed39 U.vm ∧ U.heap = h0) (fun _ _ _ _ _ => True) (fun _ U o U' => ∃ v L, o = .returned v ∧ (Q_binit Z a1 x2 x3 h0 n0) v U'.heap L ∧ FrameEnd U o U' L ({ frames := 2, cells := 0, slots := 0, locals := 24 } : Room).cells ({ frames := 2, cells := 0, slots := 0, locals := 24 } : Room).slots) := by
  refine MetFree.of_bodySF (plainFor_of_name pn_3) hisR ?_
  intro p e s m args below meth c s₁ Bd hml0 hP hK
  obtain ⟨rfl, hZ, hh⟩ := hP
  have hx := Bd.exec
  have hby := Bd.bytes
  have hlk : meth.locks = false := BodyLoose.notSynchronized Bd
  have hml : c.maxLocals = 3 := hml0
  have hown : s.vm.findClass "com/example/strandcast/strandcast/query/Interval$Bound" = some m.cls := findClass_of_methodNamed Bd.named
  have hnm := (name_of_methodNamed Bd.named Bd.method).1
  have X0 : Stand p l e ({ frames := 2, cells := 0, slots := 0, locals := 24 } : Room) s m #[(.ref a1), (.ref x2), (.int x3)] below meth c s₁ [] 0 0 := Stand.of_body Bd
  have e0 : s₁.heap = h0 := by rw [← hh, Bd.state]; rfl
  have N0 := Fr.nil n0
  show own_Go p e below s (Q_binit Z a1 x2 x3 h0 n0) ({ frames := 2, cells := 0, slots := 0, locals := 24 } : Room).cells ({ frames := 2, cells := 0, slots := 0, locals := 24 } : Room).slots s₁ (entryFrame m #[(.ref a1), (.ref x2), (.int x3)] 3)
  refine own_cast (g' := (mkF m 0 #[.val (.ref a1), .val (.ref x2), .val (.int x3)] [])) (ef_rm_binit m a1 x2 x3) ?_
  have K0 : Keep h0 h0 [a1] := Keep.refl _ _
  refine own_step (T' := s₁) (g' := (mkF m 1 #[.val (.ref a1), .val (.ref x2), .val (.int x3)] [(.ref a1)])) (fun t k => XS.aloadN X0.here hx rfl (hb hby d2_0) rfl rfl k) ?_
  obtain ⟨_, _, ⟨T2, L2, k2, n2⟩, -, X2, ⟨Lc2, hQ2, lq2, yq2, zq2⟩, st2⟩ := X0.specialBack hx (y := (⟨"java/lang/Record", "<init>", "()V"⟩ : MethodName)) rfl hown (mvT hZ (hw _ (List.mem_of_getElem? (i := 13) rfl))) (mvT hZ (hw _ (List.mem_of_getElem? (i := 14) rfl))) (mvT hZ (hw _ (List.mem_of_getElem? (i := 17) rfl))) (by decide) (backOf (W := 0) (rm_rec l Z a0 hw [] a1 h0 n0 Z0 ) hZ (hw _ (List.mem_of_getElem? (i := 17) rfl)) (hw _ (List.mem_of_getElem? (i := 16) rfl)) (by decide) (by decide)) (g := (mkF m 1 #[.val (.ref a1), .val (.ref x2), .val (.int x3)] [(.ref a1)])) rfl (by rw [hml]; rfl) (Steps.refl _) (a := a1) (argsL := []) (rest := []) (lenOf pd_0 rfl) rfl (by show 2 * 0 + _ ≤ _; exact Nat.le_of_eq rfl) (hb hby d2_1) (fun _ _ => ⟨rfl, e0, (by decide : 0 + 0 ≤ _), (by decide : 0 + 0 ≤ _)⟩)
  dsimp only [Pt.U, Pt.locs, Pt.cells, Pt.slots] at X2 lq2 yq2 zq2 st2 hQ2
  subst lq2 yq2 zq2
  obtain ⟨rfl, Nq2, eq1⟩ := hQ2
  have N2 := Fr.app N0 Nq2
  refine own_tr (T' := T2) (g' := (mkF m 4 #[.val (.ref a1), .val (.ref x2), .val (.int x3)] [])) st2 ?_
  refine own_step (T' := T2) (g' := (mkF m 5 #[.val (.ref a1), .val (.ref x2), .val (.int x3)] [(.ref a1)])) (fun t k => XS.aloadN X2.here hx rfl (hb hby d2_4) rfl rfl k) ?_
  refine own_step (T' := T2) (g' := (mkF m 6 #[.val (.ref a1), .val (.ref x2), .val (.int x3)] [(.ref x2), (.ref a1)])) (fun t k => XS.aloadN X2.here hx rfl (hb hby d2_5) rfl rfl k) ?_
  obtain ⟨T3, h3, X3, e3, W3, st3⟩ := putF X2 hx hZ hown (host := "") (Or.inl (hw _ (List.mem_of_getElem? (i := 21) rfl))) Via.refl eq1 F0 E_a (Or.inr ⟨(hw _ (List.mem_of_getElem? (i := 22) rfl)), rfl, hnm⟩) (hw _ (List.mem_of_getElem? (i := 8) rfl)) (ty := .object "java/lang/Object") (by decide) rfl rfl (g := (mkF m 6 #[.val (.ref a1), .val (.ref x2), .val (.int x3)] [(.ref x2), (.ref a1)])) rfl rfl (hb hby d2_6)
  have g4 : Exa Z h3 a1 "com/example/strandcast/strandcast/query/Interval$Bound" := E_a.wr W3
  have g5 : Fld Z h3 a1 "com/example/strandcast/strandcast/query/Interval$Bound" "value" "Ljava/lang/Object;" (.ref x2) := F0.same W3
  have g6 : Fld Z h3 a1 "com/example/strandcast/strandcast/query/Interval$Bound" "inclusive" "Z" u1 := F1.other W3 (Or.inr (slot_ne (Or.inr (hw _ (List.mem_of_getElem? (i := 24) rfl))) (Or.inr (hw _ (List.mem_of_getElem? (i := 22) rfl))) (by decide) (t := .boolean) (t' := .object "java/lang/Object") (by decide) (by decide)))
  have K7 : Keep h0 h3 [a1] := K0.wr W3 (Or.inl (List.mem_of_getElem? (i := 0) rfl))
  have N3 := Fr.snoc X3 N2 o_a
  have Z3 : n0 ≤ h3.size := (Nat.le_trans Z0 (Nat.le_of_eq W3.size.symm))
  refine own_step (T' := T3) (g' := (mkF m 9 #[.val (.ref a1), .val (.ref x2), .val (.int x3)] [])) st3 ?_
  refine own_step (T' := T3) (g' := (mkF m 10 #[.val (.ref a1), .val (.ref x2), .val (.int x3)] [(.ref a1)])) (fun t k => XS.aloadN X3.here hx rfl (hb hby d2_9) rfl rfl k) ?_
  refine own_step (T' := T3) (g' := (mkF m 11 #[.val (.ref a1), .val (.ref x2), .val (.int x3)] [(.int x3), (.ref a1)])) (fun t k => XS.iloadN X3.here hx rfl (hb hby d2_10) rfl k) ?_
  obtain ⟨T8, h8, X8, e8, W8, st8⟩ := putF X3 hx hZ hown (host := "") (Or.inl (hw _ (List.mem_of_getElem? (i := 23) rfl))) Via.refl e3 g6 g4 (Or.inr ⟨(hw _ (List.mem_of_getElem? (i := 24) rfl)), rfl, hnm⟩) (hw _ (List.mem_of_getElem? (i := 8) rfl)) (ty := .boolean) (by decide) (own_nb01 hb01) (own_fb01 hb01) (g := (mkF m 11 #[.val (.ref a1), .val (.ref x2), .val (.int x3)] [(.int x3), (.ref a1)])) rfl rfl (hb hby d2_11)
  have g9 : Exa Z h8 a1 "com/example/strandcast/strandcast/query/Interval$Bound" := g4.wr W8
  have g10 : Fld Z h8 a1 "com/example/strandcast/strandcast/query/Interval$Bound" "value" "Ljava/lang/Object;" (.ref x2) := g5.other W8 (Or.inr (slot_ne (Or.inr (hw _ (List.mem_of_getElem? (i := 22) rfl))) (Or.inr (hw _ (List.mem_of_getElem? (i := 24) rfl))) (by decide) (t := .object "java/lang/Object") (t' := .boolean) (by decide) (by decide)))
  have g11 : Fld Z h8 a1 "com/example/strandcast/strandcast/query/Interval$Bound" "inclusive" "Z" (.int x3) := g6.same W8
  have K12 : Keep h0 h8 [a1] := K7.wr W8 (Or.inl (List.mem_of_getElem? (i := 0) rfl))
  have N8 := Fr.snoc X8 N3 o_a
  have Z8 : n0 ≤ h8.size := (Nat.le_trans Z3 (Nat.le_of_eq W8.size.symm))
  refine own_step (T' := T8) (g' := (mkF m 14 #[.val (.ref a1), .val (.ref x2), .val (.int x3)] [])) st8 ?_
  refine own_rV X8 hx hlk Bd.returns (hb hby d2_14) ?_ (by decide) (by decide)
  rw [e8]
  exact ⟨rfl, N8, K12, g9, g10, g11⟩
def Q_ninit_ref_ref (Z : State) (a1 : Addr) (x2 : Addr) (x3 : Addr) (x4 : Addr) (h0 : Heap) (n0 : Nat) (v : Option Value) (h : Heap) (L : List Loc) : Prop := v = none ∧ Fr n0 L ∧ Keep h0 h [a1] ∧ Exa Z h a1 "com/example/strandcast/strandcast/query/Interval" ∧ Fld Z h a1 "com/example/strandcast/strandcast/query/Interval" "kind" "Ljava/lang/Object;" (.ref x2) ∧ Fld Z h a1 "com/example/strandcast/strandcast/query/Interval" "lower" "Lcom/example/strandcast/strandcast/query/Interval$Bound;" (.ref x3) ∧ Fld Z h a1 "com/example/strandcast/strandcast/query/Interval" "upper" "Lcom/example/strandcast/strandcast/query/Interval$Bound;" (.ref x4)
theorem ef_rm_ninit_ref_ref (m : MethodId) (x0 : Addr) (x1 : Addr) (x2 : Addr) (x3 : Addr) : entryFrame m #[(.ref x0), (.ref x1), (.ref x2), (.ref x3)] 4 = mkF m 0 #[.val (.ref x0), .val (.ref x1), .val (.ref x2), .val (.ref x3)] [] := by first | (simp [entryFrame, mkF, argsToLocals, Value.category]; done) | rfl | (simp [entryFrame, mkF, argsToLocals, Value.category] <;> rfl)
theorem pn_4 : plainName "com/example/strandcast/strandcast/query/Interval" = true := by first | (simp [plainName, overriddenIn]; done) | decide +kernel
theorem d5_0 : decode prog_38_method_1_code 0 = .ok (.aload_n 0, 1) := by decide +kernel
theorem d5_1 : decode prog_38_method_1_code 1 = .ok (.invokespecial 1, 3) := by decide +kernel
theorem d5_4 : decode prog_38_method_1_code 4 = .ok (.aload_n 0, 1) := by decide +kernel
theorem d5_5 : decode prog_38_method_1_code 5 = .ok (.aload_n 1, 1) := by decide +kernel
theorem d5_6 : decode prog_38_method_1_code 6 = .ok (.putfield 7, 3) := by decide +kernel
theorem d5_9 : decode prog_38_method_1_code 9 = .ok (.aload_n 0, 1) := by decide +kernel
theorem d5_10 : decode prog_38_method_1_code 10 = .ok (.aload_n 2, 1) := by decide +kernel
theorem d5_11 : decode prog_38_method_1_code 11 = .ok (.putfield 13, 3) := by decide +kernel
theorem d5_14 : decode prog_38_method_1_code 14 = .ok (.aload_n 0, 1) := by decide +kernel
theorem d5_15 : decode prog_38_method_1_code 15 = .ok (.aload_n 3, 1) := by decide +kernel
theorem d5_16 : decode prog_38_method_1_code 16 = .ok (.putfield 17, 3) := by decide +kernel
theorem d5_19 : decode prog_38_method_1_code 19 = .ok (.return_, 1) := by decide +kernel
set_option maxRecDepth 65536 in
set_option maxHeartbeats 40000000 in
theorem rm_ninit_ref_ref (l : Launch) (Z : State) (a0 : Array Value) (hw : ∀ d ∈ tables_1, d.before a0 Z = true) (ws : List Jvm.Cond) (a1 : Addr) (x2 : Addr) (x3 : Addr) (x4 : Addr) (u0 : Value) (u1 : Value) (u2 : Value) (h0 : Heap) (n0 : Nat) (Z0 : n0 ≤ h0.size) (E_a : Exa Z h0 a1 "com/example/strandcast/strandcast/query/Interval") (F0 : Fld Z h0 a1 "com/example/strandcast/strandcast/query/Interval" "kind" "Ljava/lang/Object;" u0) (F1 : Fld Z h0 a1 "com/example/strandcast/strandcast/query/Interval" "lower" "Lcom/example/strandcast/strandcast/query/Interval$Bound;" u1) (F2 : Fld Z h0 a1 "com/example/strandcast/strandcast/query/Interval" "upper" "Lcom/example/strandcast/strandcast/query/Interval$Bound;" u2) (o_a : n0 ≤ a1) :
    MetFree l (⟨"com/example/strandcast/strandcast/query/Interval", "<init>", "(Ljava/lang/Object;Lcom/example/strandcast/strandcast/query/Interval$Bound;Lcom/example/strandcast/strandcast/query/Interval$Bound;)V"⟩ : MethodName) (head1 (Jvm.Cond.code (⟨"com/example/strandcast/strandcast/query/Interval", "<init>", "(Ljava/lang/Object;Lcom/example/strandcast/strandcast/query/Interval$Bound;Lcom/example/strandcast/strandcast/query/Interval$Bound;)V"⟩ : MethodName) prog_38_method_1_code 4 none :: ws) ({ frames := 2, cells := 0, slots := 0, locals := 24 } : Room)) (fun a U => a = #[(.ref a1), (.ref x2), (.ref x3), (.ref x4)] ∧ Z.Warmed39 U.vm ∧ U.heap = h0) (fun _ _ _ _ _ => True) (fun _ U o U' => ∃ v L, o = .returned v ∧ (Q_ninit_ref_ref Z a1 x2 x3 x4 h0 n0) v U'.heap L ∧ FrameEnd U o U' L ({ frames := 2, cells := 0, slots := 0, locals := 24 } : Room).cells ({ frames := 2, cells := 0, slots := 0, locals := 24 } : Room).slots) := by
  refine MetFree.of_bodySF (plainFor_of_name pn_4) hisR ?_
  intro p e s m args below meth c s₁ Bd hml0 hP hK
  obtain ⟨rfl, hZ, hh⟩ := hP
  have hx := Bd.exec
  have hby := Bd.bytes
  have hlk : meth.locks = false := BodyLoose.notSynchronized Bd
  have hml : c.maxLocals = 4 := hml0
  have hown : s.vm.findClass "com/example/strandcast/strandcast/query/Interval" = some m.cls := findClass_of_methodNamed Bd.named
  have hnm := (name_of_methodNamed Bd.named Bd.method).1
  have X0 : Stand p l e ({ frames := 2, cells := 0, slots := 0, locals := 24 } : Room) s m #[(.ref a1), (.ref x2), (.ref x3), (.ref x4)] below meth c s₁ [] 0 0 := Stand.of_body Bd
  have e0 : s₁.heap = h0 := by rw [← hh, Bd.state]; rfl
  have N0 := Fr.nil n0
  show own_Go p e below s (Q_ninit_ref_ref Z a1 x2 x3 x4 h0 n0) ({ frames := 2, cells := 0, slots := 0, locals := 24 } : Room).cells ({ frames := 2, cells := 0, slots := 0, locals := 24 } : Room).slots s₁ (entryFrame m #[(.ref a1), (.ref x2), (.ref x3), (.ref x4)] 4)
  refine own_cast (g' := (mkF m 0 #[.val (.ref a1), .val (.ref x2), .val (.ref x3), .val (.ref x4)] [])) (ef_rm_ninit_ref_ref m a1 x2 x3 x4) ?_
  have K0 : Keep h0 h0 [a1] := Keep.refl _ _
  refine own_step (T' := s₁) (g' := (mkF m 1 #[.val (.ref a1), .val (.ref x2), .val (.ref x3), .val (.ref x4)] [(.ref a1)])) (fun t k => XS.aloadN X0.here hx rfl (hb hby d5_0) rfl rfl k) ?_
  obtain ⟨_, _, ⟨T2, L2, k2, n2⟩, -, X2, ⟨Lc2, hQ2, lq2, yq2, zq2⟩, st2⟩ := X0.specialBack hx (y := (⟨"java/lang/Record", "<init>", "()V"⟩ : MethodName)) rfl hown (mvT hZ (hw _ (List.mem_of_getElem? (i := 31) rfl))) (mvT hZ (hw _ (List.mem_of_getElem? (i := 14) rfl))) (mvT hZ (hw _ (List.mem_of_getElem? (i := 17) rfl))) (by decide) (backOf (W := 0) (rm_rec l Z a0 hw [] a1 h0 n0 Z0 ) hZ (hw _ (List.mem_of_getElem? (i := 17) rfl)) (hw _ (List.mem_of_getElem? (i := 16) rfl)) (by decide) (by decide)) (g := (mkF m 1 #[.val (.ref a1), .val (.ref x2), .val (.ref x3), .val (.ref x4)] [(.ref a1)])) rfl (by rw [hml]; rfl) (Steps.refl _) (a := a1) (argsL := []) (rest := []) (lenOf pd_0 rfl) rfl (by show 2 * 0 + _ ≤ _; exact Nat.le_of_eq rfl) (hb hby d5_1) (fun _ _ => ⟨rfl, e0, (by decide : 0 + 0 ≤ _), (by decide : 0 + 0 ≤ _)⟩)
  dsimp only [Pt.U, Pt.locs, Pt.cells, Pt.slots] at X2 lq2 yq2 zq2 st2 hQ2
  subst lq2 yq2 zq2
  obtain ⟨rfl, Nq2, eq1⟩ := hQ2
  have N2 := Fr.app N0 Nq2
  refine own_tr (T' := T2) (g' := (mkF m 4 #[.val (.ref a1), .val (.ref x2), .val (.ref x3), .val (.ref x4)] [])) st2 ?_
  refine own_step (T' := T2) (g' := (mkF m 5 #[.val (.ref a1), .val (.ref x2), .val (.ref x3), .val (.ref x4)] [(.ref a1)])) (fun t k => XS.aloadN X2.here hx rfl (hb hby d5_4) rfl rfl k) ?_
  refine own_step (T' := T2) (g' := (mkF m 6 #[.val (.ref a1), .val (.ref x2), .val (.ref x3), .val (.ref x4)] [(.ref x2), (.ref a1)])) (fun t k => XS.aloadN X2.here hx rfl (hb hby d5_5) rfl rfl k) ?_
  obtain ⟨T3, h3, X3, e3, W3, st3⟩ := putF X2 hx hZ hown (host := "") (Or.inl (hw _ (List.mem_of_getElem? (i := 32) rfl))) Via.refl eq1 F0 E_a (Or.inr ⟨(hw _ (List.mem_of_getElem? (i := 33) rfl)), rfl, hnm⟩) (hw _ (List.mem_of_getElem? (i := 26) rfl)) (ty := .object "java/lang/Object") (by decide) rfl rfl (g := (mkF m 6 #[.val (.ref a1), .val (.ref x2), .val (.ref x3), .val (.ref x4)] [(.ref x2), (.ref a1)])) rfl rfl (hb hby d5_6)
  have g4 : Exa Z h3 a1 "com/example/strandcast/strandcast/query/Interval" := E_a.wr W3
  have g5 : Fld Z h3 a1 "com/example/strandcast/strandcast/query/Interval" "kind" "Ljava/lang/Object;" (.ref x2) := F0.same W3
  have g6 : Fld Z h3 a1 "com/example/strandcast/strandcast/query/Interval" "lower" "Lcom/example/strandcast/strandcast/query/Interval$Bound;" u1 := F1.other W3 (Or.inr (slot_ne (Or.inr (hw _ (List.mem_of_getElem? (i := 35) rfl))) (Or.inr (hw _ (List.mem_of_getElem? (i := 33) rfl))) (by decide) (t := .object "com/example/strandcast/strandcast/query/Interval$Bound") (t' := .object "java/lang/Object") (by decide) (by decide)))
  have g7 : Fld Z h3 a1 "com/example/strandcast/strandcast/query/Interval" "upper" "Lcom/example/strandcast/strandcast/query/Interval$Bound;" u2 := F2.other W3 (Or.inr (slot_ne (Or.inr (hw _ (List.mem_of_getElem? (i := 37) rfl))) (Or.inr (hw _ (List.mem_of_getElem? (i := 33) rfl))) (by decide) (t := .object "com/example/strandcast/strandcast/query/Interval$Bound") (t' := .object "java/lang/Object") (by decide) (by decide)))
  have K8 : Keep h0 h3 [a1] := K0.wr W3 (Or.inl (List.mem_of_getElem? (i := 0) rfl))
  have N3 := Fr.snoc X3 N2 o_a
  have Z3 : n0 ≤ h3.size := (Nat.le_trans Z0 (Nat.le_of_eq W3.size.symm))
  refine own_step (T' := T3) (g' := (mkF m 9 #[.val (.ref a1), .val (.ref x2), .val (.ref x3), .val (.ref x4)] [])) st3 ?_
  refine own_step (T' := T3) (g' := (mkF m 10 #[.val (.ref a1), .val (.ref x2), .val (.ref x3), .val (.ref x4)] [(.ref a1)])) (fun t k => XS.aloadN X3.here hx rfl (hb hby d5_9) rfl rfl k) ?_
  refine own_step (T' := T3) (g' := (mkF m 11 #[.val (.ref a1), .val (.ref x2), .val (.ref x3), .val (.ref x4)] [(.ref x3), (.ref a1)])) (fun t k => XS.aloadN X3.here hx rfl (hb hby d5_10) rfl rfl k) ?_
  obtain ⟨T9, h9, X9, e9, W9, st9⟩ := putF X3 hx hZ hown (host := "") (Or.inl (hw _ (List.mem_of_getElem? (i := 34) rfl))) Via.refl e3 g6 g4 (Or.inr ⟨(hw _ (List.mem_of_getElem? (i := 35) rfl)), rfl, hnm⟩) (hw _ (List.mem_of_getElem? (i := 26) rfl)) (ty := .object "com/example/strandcast/strandcast/query/Interval$Bound") (by decide) rfl rfl (g := (mkF m 11 #[.val (.ref a1), .val (.ref x2), .val (.ref x3), .val (.ref x4)] [(.ref x3), (.ref a1)])) rfl rfl (hb hby d5_11)
  have g10 : Exa Z h9 a1 "com/example/strandcast/strandcast/query/Interval" := g4.wr W9
  have g11 : Fld Z h9 a1 "com/example/strandcast/strandcast/query/Interval" "kind" "Ljava/lang/Object;" (.ref x2) := g5.other W9 (Or.inr (slot_ne (Or.inr (hw _ (List.mem_of_getElem? (i := 33) rfl))) (Or.inr (hw _ (List.mem_of_getElem? (i := 35) rfl))) (by decide) (t := .object "java/lang/Object") (t' := .object "com/example/strandcast/strandcast/query/Interval$Bound") (by decide) (by decide)))
  have g12 : Fld Z h9 a1 "com/example/strandcast/strandcast/query/Interval" "lower" "Lcom/example/strandcast/strandcast/query/Interval$Bound;" (.ref x3) := g6.same W9
  have g13 : Fld Z h9 a1 "com/example/strandcast/strandcast/query/Interval" "upper" "Lcom/example/strandcast/strandcast/query/Interval$Bound;" u2 := g7.other W9 (Or.inr (slot_ne (Or.inr (hw _ (List.mem_of_getElem? (i := 37) rfl))) (Or.inr (hw _ (List.mem_of_getElem? (i := 35) rfl))) (by decide) (t := .object "com/example/strandcast/strandcast/query/Interval$Bound") (t' := .object "com/example/strandcast/strandcast/query/Interval$Bound") (by decide) (by decide)))
  have K14 : Keep h0 h9 [a1] := K8.wr W9 (Or.inl (List.mem_of_getElem? (i := 0) rfl))
  have N9 := Fr.snoc X9 N3 o_a
  have Z9 : n0 ≤ h9.size := (Nat.le_trans Z3 (Nat.le_of_eq W9.size.symm))
  refine own_step (T' := T9) (g' := (mkF m 14 #[.val (.ref a1), .val (.ref x2), .val (.ref x3), .val (.ref x4)] [])) st9 ?_
  refine own_step (T' := T9) (g' := (mkF m 15 #[.val (.ref a1), .val (.ref x2), .val (.ref x3), .val (.ref x4)] [(.ref a1)])) (fun t k => XS.aloadN X9.here hx rfl (hb hby d5_14) rfl rfl k) ?_
  refine own_step (T' := T9) (g' := (mkF m 16 #[.val (.ref a1), .val (.ref x2), .val (.ref x3), .val (.ref x4)] [(.ref x4), (.ref a1)])) (fun t k => XS.aloadN X9.here hx rfl (hb hby d5_15) rfl rfl k) ?_
  obtain ⟨T15, h15, X15, e15, W15, st15⟩ := putF X9 hx hZ hown (host := "") (Or.inl (hw _ (List.mem_of_getElem? (i := 36) rfl))) Via.refl e9 g13 g10 (Or.inr ⟨(hw _ (List.mem_of_getElem? (i := 37) rfl)), rfl, hnm⟩) (hw _ (List.mem_of_getElem? (i := 26) rfl)) (ty := .object "com/example/strandcast/strandcast/query/Interval$Bound") (by decide) rfl rfl (g := (mkF m 16 #[.val (.ref a1), .val (.ref x2), .val (.ref x3), .val (.ref x4)] [(.ref x4), (.ref a1)])) rfl rfl (hb hby d5_16)
  have g16 : Exa Z h15 a1 "com/example/strandcast/strandcast/query/Interval" := g10.wr W15
  have g17 : Fld Z h15 a1 "com/example/strandcast/strandcast/query/Interval" "kind" "Ljava/lang/Object;" (.ref x2) := g11.other W15 (Or.inr (slot_ne (Or.inr (hw _ (List.mem_of_getElem? (i := 33) rfl))) (Or.inr (hw _ (List.mem_of_getElem? (i := 37) rfl))) (by decide) (t := .object "java/lang/Object") (t' := .object "com/example/strandcast/strandcast/query/Interval$Bound") (by decide) (by decide)))
  have g18 : Fld Z h15 a1 "com/example/strandcast/strandcast/query/Interval" "lower" "Lcom/example/strandcast/strandcast/query/Interval$Bound;" (.ref x3) := g12.other W15 (Or.inr (slot_ne (Or.inr (hw _ (List.mem_of_getElem? (i := 35) rfl))) (Or.inr (hw _ (List.mem_of_getElem? (i := 37) rfl))) (by decide) (t := .object "com/example/strandcast/strandcast/query/Interval$Bound") (t' := .object "com/example/strandcast/strandcast/query/Interval$Bound") (by decide) (by decide)))
  have g19 : Fld Z h15 a1 "com/example/strandcast/strandcast/query/Interval" "upper" "Lcom/example/strandcast/strandcast/query/Interval$Bound;" (.ref x4) := g13.same W15
  have K20 : Keep h0 h15 [a1] := K14.wr W15 (Or.inl (List.mem_of_getElem? (i := 0) rfl))
  have N15 := Fr.snoc X15 N9 o_a
  have Z15 : n0 ≤ h15.size := (Nat.le_trans Z9 (Nat.le_of_eq W15.size.symm))
  refine own_step (T' := T15) (g' := (mkF m 19 #[.val (.ref a1), .val (.ref x2), .val (.ref x3), .val (.ref x4)] [])) st15 ?_
  refine own_rV X15 hx hlk Bd.returns (hb hby d5_19) ?_ (by decide) (by decide)
  rw [e15]
  exact ⟨rfl, N15, K20, g16, g17, g18, g19⟩
def Q_ninit_ref_null (Z : State) (a1 : Addr) (x2 : Addr) (x3 : Addr) (h0 : Heap) (n0 : Nat) (v : Option Value) (h : Heap) (L : List Loc) : Prop := v = none ∧ Fr n0 L ∧ Keep h0 h [a1] ∧ Exa Z h a1 "com/example/strandcast/strandcast/query/Interval" ∧ Fld Z h a1 "com/example/strandcast/strandcast/query/Interval" "kind" "Ljava/lang/Object;" (.ref x2) ∧ Fld Z h a1 "com/example/strandcast/strandcast/query/Interval" "lower" "Lcom/example/strandcast/strandcast/query/Interval$Bound;" (.ref x3) ∧ Fld Z h a1 "com/example/strandcast/strandcast/query/Interval" "upper" "Lcom/example/strandcast/strandcast/query/Interval$Bound;" .null
theorem ef_rm_ninit_ref_null (m : MethodId) (x0 : Addr) (x1 : Addr) (x2 : Addr) : entryFrame m #[(.ref x0), (.ref x1), (.ref x2), .null] 4 = mkF m 0 #[.val (.ref x0), .val (.ref x1), .val (.ref x2), .val .null] [] := by first | (simp [entryFrame, mkF, argsToLocals, Value.category]; done) | rfl | (simp [entryFrame, mkF, argsToLocals, Value.category] <;> rfl)
set_option maxRecDepth 65536 in
set_option maxHeartbeats 40000000 in
theorem rm_ninit_ref_null (l : Launch) (Z : State) (a0 : Array Value) (hw : ∀ d ∈ tables_1, d.before a0 Z = true) (ws : List Jvm.Cond) (a1 : Addr) (x2 : Addr) (x3 : Addr) (u0 : Value) (u1 : Value) (u2 : Value) (h0 : Heap) (n0 : Nat) (Z0 : n0 ≤ h0.size) (E_a : Exa Z h0 a1 "com/example/strandcast/strandcast/query/Interval") (F0 : Fld Z h0 a1 "com/example/strandcast/strandcast/query/Interval" "kind" "Ljava/lang/Object;" u0) (F1 : Fld Z h0 a1 "com/example/strandcast/strandcast/query/Interval" "lower" "Lcom/example/strandcast/strandcast/query/Interval$Bound;" u1) (F2 : Fld Z h0 a1 "com/example/strandcast/strandcast/query/Interval" "upper" "Lcom/example/strandcast/strandcast/query/Interval$Bound;" u2) (o_a : n0 ≤ a1) :
    MetFree l (⟨"com/example/strandcast/strandcast/query/Interval", "<init>", "(Ljava/lang/Object;Lcom/example/strandcast/strandcast/query/Interval$Bound;Lcom/example/strandcast/strandcast/query/Interval$Bound;)V"⟩ : MethodName) (head1 (Jvm.Cond.code (⟨"com/example/strandcast/strandcast/query/Interval", "<init>", "(Ljava/lang/Object;Lcom/example/strandcast/strandcast/query/Interval$Bound;Lcom/example/strandcast/strandcast/query/Interval$Bound;)V"⟩ : MethodName) prog_38_method_1_code 4 none :: ws) ({ frames := 2, cells := 0, slots := 0, locals := 24 } : Room)) (fun a U => a = #[(.ref a1), (.ref x2), (.ref x3), .null] ∧ Z.Warmed39 U.vm ∧ U.heap = h0) (fun _ _ _ _ _ => True) (fun _ U o U' => ∃ v L, o = .returned v ∧ (Q_ninit_ref_null Z a1 x2 x3 h0 n0) v U'.heap L ∧ FrameEnd U o U' L ({ frames := 2, cells := 0, slots := 0, locals := 24 } : Room).cells ({ frames := 2, cells := 0, slots := 0, locals := 24 } : Room).slots) := by
  refine MetFree.of_bodySF (plainFor_of_name pn_4) hisR ?_
  intro p e s m args below meth c s₁ Bd hml0 hP hK
  obtain ⟨rfl, hZ, hh⟩ := hP
  have hx := Bd.exec
  have hby := Bd.bytes
  have hlk : meth.locks = false := BodyLoose.notSynchronized Bd
  have hml : c.maxLocals = 4 := hml0
  have hown : s.vm.findClass "com/example/strandcast/strandcast/query/Interval" = some m.cls := findClass_of_methodNamed Bd.named
  have hnm := (name_of_methodNamed Bd.named Bd.method).1
  have X0 : Stand p l e ({ frames := 2, cells := 0, slots := 0, locals := 24 } : Room) s m #[(.ref a1), (.ref x2), (.ref x3), .null] below meth c s₁ [] 0 0 := Stand.of_body Bd
  have e0 : s₁.heap = h0 := by rw [← hh, Bd.state]; rfl
  have N0 := Fr.nil n0
  show own_Go p e below s (Q_ninit_ref_null Z a1 x2 x3 h0 n0) ({ frames := 2, cells := 0, slots := 0, locals := 24 } : Room).cells ({ frames := 2, cells := 0, slots := 0, locals := 24 } : Room).slots s₁ (entryFrame m #[(.ref a1), (.ref x2), (.ref x3), .null] 4)
  refine own_cast (g' := (mkF m 0 #[.val (.ref a1), .val (.ref x2), .val (.ref x3), .val .null] [])) (ef_rm_ninit_ref_null m a1 x2 x3) ?_
  have K0 : Keep h0 h0 [a1] := Keep.refl _ _
  refine own_step (T' := s₁) (g' := (mkF m 1 #[.val (.ref a1), .val (.ref x2), .val (.ref x3), .val .null] [(.ref a1)])) (fun t k => XS.aloadN X0.here hx rfl (hb hby d5_0) rfl rfl k) ?_
  obtain ⟨_, _, ⟨T2, L2, k2, n2⟩, -, X2, ⟨Lc2, hQ2, lq2, yq2, zq2⟩, st2⟩ := X0.specialBack hx (y := (⟨"java/lang/Record", "<init>", "()V"⟩ : MethodName)) rfl hown (mvT hZ (hw _ (List.mem_of_getElem? (i := 31) rfl))) (mvT hZ (hw _ (List.mem_of_getElem? (i := 14) rfl))) (mvT hZ (hw _ (List.mem_of_getElem? (i := 17) rfl))) (by decide) (backOf (W := 0) (rm_rec l Z a0 hw [] a1 h0 n0 Z0 ) hZ (hw _ (List.mem_of_getElem? (i := 17) rfl)) (hw _ (List.mem_of_getElem? (i := 16) rfl)) (by decide) (by decide)) (g := (mkF m 1 #[.val (.ref a1), .val (.ref x2), .val (.ref x3), .val .null] [(.ref a1)])) rfl (by rw [hml]; rfl) (Steps.refl _) (a := a1) (argsL := []) (rest := []) (lenOf pd_0 rfl) rfl (by show 2 * 0 + _ ≤ _; exact Nat.le_of_eq rfl) (hb hby d5_1) (fun _ _ => ⟨rfl, e0, (by decide : 0 + 0 ≤ _), (by decide : 0 + 0 ≤ _)⟩)
  dsimp only [Pt.U, Pt.locs, Pt.cells, Pt.slots] at X2 lq2 yq2 zq2 st2 hQ2
  subst lq2 yq2 zq2
  obtain ⟨rfl, Nq2, eq1⟩ := hQ2
  have N2 := Fr.app N0 Nq2
  refine own_tr (T' := T2) (g' := (mkF m 4 #[.val (.ref a1), .val (.ref x2), .val (.ref x3), .val .null] [])) st2 ?_
  refine own_step (T' := T2) (g' := (mkF m 5 #[.val (.ref a1), .val (.ref x2), .val (.ref x3), .val .null] [(.ref a1)])) (fun t k => XS.aloadN X2.here hx rfl (hb hby d5_4) rfl rfl k) ?_
  refine own_step (T' := T2) (g' := (mkF m 6 #[.val (.ref a1), .val (.ref x2), .val (.ref x3), .val .null] [(.ref x2), (.ref a1)])) (fun t k => XS.aloadN X2.here hx rfl (hb hby d5_5) rfl rfl k) ?_
  obtain ⟨T3, h3, X3, e3, W3, st3⟩ := putF X2 hx hZ hown (host := "") (Or.inl (hw _ (List.mem_of_getElem? (i := 32) rfl))) Via.refl eq1 F0 E_a (Or.inr ⟨(hw _ (List.mem_of_getElem? (i := 33) rfl)), rfl, hnm⟩) (hw _ (List.mem_of_getElem? (i := 26) rfl)) (ty := .object "java/lang/Object") (by decide) rfl rfl (g := (mkF m 6 #[.val (.ref a1), .val (.ref x2), .val (.ref x3), .val .null] [(.ref x2), (.ref a1)])) rfl rfl (hb hby d5_6)
  have g4 : Exa Z h3 a1 "com/example/strandcast/strandcast/query/Interval" := E_a.wr W3
  have g5 : Fld Z h3 a1 "com/example/strandcast/strandcast/query/Interval" "kind" "Ljava/lang/Object;" (.ref x2) := F0.same W3
  have g6 : Fld Z h3 a1 "com/example/strandcast/strandcast/query/Interval" "lower" "Lcom/example/strandcast/strandcast/query/Interval$Bound;" u1 := F1.other W3 (Or.inr (slot_ne (Or.inr (hw _ (List.mem_of_getElem? (i := 35) rfl))) (Or.inr (hw _ (List.mem_of_getElem? (i := 33) rfl))) (by decide) (t := .object "com/example/strandcast/strandcast/query/Interval$Bound") (t' := .object "java/lang/Object") (by decide) (by decide)))
  have g7 : Fld Z h3 a1 "com/example/strandcast/strandcast/query/Interval" "upper" "Lcom/example/strandcast/strandcast/query/Interval$Bound;" u2 := F2.other W3 (Or.inr (slot_ne (Or.inr (hw _ (List.mem_of_getElem? (i := 37) rfl))) (Or.inr (hw _ (List.mem_of_getElem? (i := 33) rfl))) (by decide) (t := .object "com/example/strandcast/strandcast/query/Interval$Bound") (t' := .object "java/lang/Object") (by decide) (by decide)))
  have K8 : Keep h0 h3 [a1] := K0.wr W3 (Or.inl (List.mem_of_getElem? (i := 0) rfl))
  have N3 := Fr.snoc X3 N2 o_a
  have Z3 : n0 ≤ h3.size := (Nat.le_trans Z0 (Nat.le_of_eq W3.size.symm))
  refine own_step (T' := T3) (g' := (mkF m 9 #[.val (.ref a1), .val (.ref x2), .val (.ref x3), .val .null] [])) st3 ?_
  refine own_step (T' := T3) (g' := (mkF m 10 #[.val (.ref a1), .val (.ref x2), .val (.ref x3), .val .null] [(.ref a1)])) (fun t k => XS.aloadN X3.here hx rfl (hb hby d5_9) rfl rfl k) ?_
  refine own_step (T' := T3) (g' := (mkF m 11 #[.val (.ref a1), .val (.ref x2), .val (.ref x3), .val .null] [(.ref x3), (.ref a1)])) (fun t k => XS.aloadN X3.here hx rfl (hb hby d5_10) rfl rfl k) ?_
  obtain ⟨T9, h9, X9, e9, W9, st9⟩ := putF X3 hx hZ hown (host := "") (Or.inl (hw _ (List.mem_of_getElem? (i := 34) rfl))) Via.refl e3 g6 g4 (Or.inr ⟨(hw _ (List.mem_of_getElem? (i := 35) rfl)), rfl, hnm⟩) (hw _ (List.mem_of_getElem? (i := 26) rfl)) (ty := .object "com/example/strandcast/strandcast/query/Interval$Bound") (by decide) rfl rfl (g := (mkF m 11 #[.val (.ref a1), .val (.ref x2), .val (.ref x3), .val .null] [(.ref x3), (.ref a1)])) rfl rfl (hb hby d5_11)
  have g10 : Exa Z h9 a1 "com/example/strandcast/strandcast/query/Interval" := g4.wr W9
  have g11 : Fld Z h9 a1 "com/example/strandcast/strandcast/query/Interval" "kind" "Ljava/lang/Object;" (.ref x2) := g5.other W9 (Or.inr (slot_ne (Or.inr (hw _ (List.mem_of_getElem? (i := 33) rfl))) (Or.inr (hw _ (List.mem_of_getElem? (i := 35) rfl))) (by decide) (t := .object "java/lang/Object") (t' := .object "com/example/strandcast/strandcast/query/Interval$Bound") (by decide) (by decide)))
  have g12 : Fld Z h9 a1 "com/example/strandcast/strandcast/query/Interval" "lower" "Lcom/example/strandcast/strandcast/query/Interval$Bound;" (.ref x3) := g6.same W9
  have g13 : Fld Z h9 a1 "com/example/strandcast/strandcast/query/Interval" "upper" "Lcom/example/strandcast/strandcast/query/Interval$Bound;" u2 := g7.other W9 (Or.inr (slot_ne (Or.inr (hw _ (List.mem_of_getElem? (i := 37) rfl))) (Or.inr (hw _ (List.mem_of_getElem? (i := 35) rfl))) (by decide) (t := .object "com/example/strandcast/strandcast/query/Interval$Bound") (t' := .object "com/example/strandcast/strandcast/query/Interval$Bound") (by decide) (by decide)))
  have K14 : Keep h0 h9 [a1] := K8.wr W9 (Or.inl (List.mem_of_getElem? (i := 0) rfl))
  have N9 := Fr.snoc X9 N3 o_a
  have Z9 : n0 ≤ h9.size := (Nat.le_trans Z3 (Nat.le_of_eq W9.size.symm))
  refine own_step (T' := T9) (g' := (mkF m 14 #[.val (.ref a1), .val (.ref x2), .val (.ref x3), .val .null] [])) st9 ?_
  refine own_step (T' := T9) (g' := (mkF m 15 #[.val (.ref a1), .val (.ref x2), .val (.ref x3), .val .null] [(.ref a1)])) (fun t k => XS.aloadN X9.here hx rfl (hb hby d5_14) rfl rfl k) ?_
  refine own_step (T' := T9) (g' := (mkF m 16 #[.val (.ref a1), .val (.ref x2), .val (.ref x3), .val .null] [.null, (.ref a1)])) (fun t k => XS.aloadN X9.here hx rfl (hb hby d5_15) rfl rfl k) ?_
  obtain ⟨T15, h15, X15, e15, W15, st15⟩ := putF X9 hx hZ hown (host := "") (Or.inl (hw _ (List.mem_of_getElem? (i := 36) rfl))) Via.refl e9 g13 g10 (Or.inr ⟨(hw _ (List.mem_of_getElem? (i := 37) rfl)), rfl, hnm⟩) (hw _ (List.mem_of_getElem? (i := 26) rfl)) (ty := .object "com/example/strandcast/strandcast/query/Interval$Bound") (by decide) rfl rfl (g := (mkF m 16 #[.val (.ref a1), .val (.ref x2), .val (.ref x3), .val .null] [.null, (.ref a1)])) rfl rfl (hb hby d5_16)
  have g16 : Exa Z h15 a1 "com/example/strandcast/strandcast/query/Interval" := g10.wr W15
  have g17 : Fld Z h15 a1 "com/example/strandcast/strandcast/query/Interval" "kind" "Ljava/lang/Object;" (.ref x2) := g11.other W15 (Or.inr (slot_ne (Or.inr (hw _ (List.mem_of_getElem? (i := 33) rfl))) (Or.inr (hw _ (List.mem_of_getElem? (i := 37) rfl))) (by decide) (t := .object "java/lang/Object") (t' := .object "com/example/strandcast/strandcast/query/Interval$Bound") (by decide) (by decide)))
  have g18 : Fld Z h15 a1 "com/example/strandcast/strandcast/query/Interval" "lower" "Lcom/example/strandcast/strandcast/query/Interval$Bound;" (.ref x3) := g12.other W15 (Or.inr (slot_ne (Or.inr (hw _ (List.mem_of_getElem? (i := 35) rfl))) (Or.inr (hw _ (List.mem_of_getElem? (i := 37) rfl))) (by decide) (t := .object "com/example/strandcast/strandcast/query/Interval$Bound") (t' := .object "com/example/strandcast/strandcast/query/Interval$Bound") (by decide) (by decide)))
  have g19 : Fld Z h15 a1 "com/example/strandcast/strandcast/query/Interval" "upper" "Lcom/example/strandcast/strandcast/query/Interval$Bound;" .null := g13.same W15
  have K20 : Keep h0 h15 [a1] := K14.wr W15 (Or.inl (List.mem_of_getElem? (i := 0) rfl))
  have N15 := Fr.snoc X15 N9 o_a
  have Z15 : n0 ≤ h15.size := (Nat.le_trans Z9 (Nat.le_of_eq W15.size.symm))
  refine own_step (T' := T15) (g' := (mkF m 19 #[.val (.ref a1), .val (.ref x2), .val (.ref x3), .val .null] [])) st15 ?_
  refine own_rV X15 hx hlk Bd.returns (hb hby d5_19) ?_ (by decide) (by decide)
  rw [e15]
  exact ⟨rfl, N15, K20, g16, g17, g18, g19⟩
def Q_ninit_null_ref (Z : State) (a1 : Addr) (x2 : Addr) (x4 : Addr) (h0 : Heap) (n0 : Nat) (v : Option Value) (h : Heap) (L : List Loc) : Prop := v = none ∧ Fr n0 L ∧ Keep h0 h [a1] ∧ Exa Z h a1 "com/example/strandcast/strandcast/query/Interval" ∧ Fld Z h a1 "com/example/strandcast/strandcast/query/Interval" "kind" "Ljava/lang/Object;" (.ref x2) ∧ Fld Z h a1 "com/example/strandcast/strandcast/query/Interval" "lower" "Lcom/example/strandcast/strandcast/query/Interval$Bound;" .null ∧ Fld Z h a1 "com/example/strandcast/strandcast/query/Interval" "upper" "Lcom/example/strandcast/strandcast/query/Interval$Bound;" (.ref x4)
theorem ef_rm_ninit_null_ref (m : MethodId) (x0 : Addr) (x1 : Addr) (x3 : Addr) : entryFrame m #[(.ref x0), (.ref x1), .null, (.ref x3)] 4 = mkF m 0 #[.val (.ref x0), .val (.ref x1), .val .null, .val (.ref x3)] [] := by first | (simp [entryFrame, mkF, argsToLocals, Value.category]; done) | rfl | (simp [entryFrame, mkF, argsToLocals, Value.category] <;> rfl)
set_option maxRecDepth 65536 in
set_option maxHeartbeats 40000000 in
theorem rm_ninit_null_ref (l : Launch) (Z : State) (a0 : Array Value) (hw : ∀ d ∈ tables_1, d.before a0 Z = true) (ws : List Jvm.Cond) (a1 : Addr) (x2 : Addr) (x4 : Addr) (u0 : Value) (u1 : Value) (u2 : Value) (h0 : Heap) (n0 : Nat) (Z0 : n0 ≤ h0.size) (E_a : Exa Z h0 a1 "com/example/strandcast/strandcast/query/Interval") (F0 : Fld Z h0 a1 "com/example/strandcast/strandcast/query/Interval" "kind" "Ljava/lang/Object;" u0) (F1 : Fld Z h0 a1 "com/example/strandcast/strandcast/query/Interval" "lower" "Lcom/example/strandcast/strandcast/query/Interval$Bound;" u1) (F2 : Fld Z h0 a1 "com/example/strandcast/strandcast/query/Interval" "upper" "Lcom/example/strandcast/strandcast/query/Interval$Bound;" u2) (o_a : n0 ≤ a1) :
    MetFree l (⟨"com/example/strandcast/strandcast/query/Interval", "<init>", "(Ljava/lang/Object;Lcom/example/strandcast/strandcast/query/Interval$Bound;Lcom/example/strandcast/strandcast/query/Interval$Bound;)V"⟩ : MethodName) (head1 (Jvm.Cond.code (⟨"com/example/strandcast/strandcast/query/Interval", "<init>", "(Ljava/lang/Object;Lcom/example/strandcast/strandcast/query/Interval$Bound;Lcom/example/strandcast/strandcast/query/Interval$Bound;)V"⟩ : MethodName) prog_38_method_1_code 4 none :: ws) ({ frames := 2, cells := 0, slots := 0, locals := 24 } : Room)) (fun a U => a = #[(.ref a1), (.ref x2), .null, (.ref x4)] ∧ Z.Warmed39 U.vm ∧ U.heap = h0) (fun _ _ _ _ _ => True) (fun _ U o U' => ∃ v L, o = .returned v ∧ (Q_ninit_null_ref Z a1 x2 x4 h0 n0) v U'.heap L ∧ FrameEnd U o U' L ({ frames := 2, cells := 0, slots := 0, locals := 24 } : Room).cells ({ frames := 2, cells := 0, slots := 0, locals := 24 } : Room).slots) := by
  refine MetFree.of_bodySF (plainFor_of_name pn_4) hisR ?_
  intro p e s m args below meth c s₁ Bd hml0 hP hK
  obtain ⟨rfl, hZ, hh⟩ := hP
  have hx := Bd.exec
  have hby := Bd.bytes
  have hlk : meth.locks = false := BodyLoose.notSynchronized Bd
  have hml : c.maxLocals = 4 := hml0
  have hown : s.vm.findClass "com/example/strandcast/strandcast/query/Interval" = some m.cls := findClass_of_methodNamed Bd.named
  have hnm := (name_of_methodNamed Bd.named Bd.method).1
  have X0 : Stand p l e ({ frames := 2, cells := 0, slots := 0, locals := 24 } : Room) s m #[(.ref a1), (.ref x2), .null, (.ref x4)] below meth c s₁ [] 0 0 := Stand.of_body Bd
  have e0 : s₁.heap = h0 := by rw [← hh, Bd.state]; rfl
  have N0 := Fr.nil n0
  show own_Go p e below s (Q_ninit_null_ref Z a1 x2 x4 h0 n0) ({ frames := 2, cells := 0, slots := 0, locals := 24 } : Room).cells ({ frames := 2, cells := 0, slots := 0, locals := 24 } : Room).slots s₁ (entryFrame m #[(.ref a1), (.ref x2), .null, (.ref x4)] 4)
  refine own_cast (g' := (mkF m 0 #[.val (.ref a1), .val (.ref x2), .val .null, .val (.ref x4)] [])) (ef_rm_ninit_null_ref m a1 x2 x4) ?_
  have K0 : Keep h0 h0 [a1] := Keep.refl _ _
  refine own_step (T' := s₁) (g' := (mkF m 1 #[.val (.ref a1), .val (.ref x2), .val .null, .val (.ref x4)] [(.ref a1)])) (fun t k => XS.aloadN X0.here hx rfl (hb hby d5_0) rfl rfl k) ?_
  obtain ⟨_, _, ⟨T2, L2, k2, n2⟩, -, X2, ⟨Lc2, hQ2, lq2, yq2, zq2⟩, st2⟩ := X0.specialBack hx (y := (⟨"java/lang/Record", "<init>", "()V"⟩ : MethodName)) rfl hown (mvT hZ (hw _ (List.mem_of_getElem? (i := 31) rfl))) (mvT hZ (hw _ (List.mem_of_getElem? (i := 14) rfl))) (mvT hZ (hw _ (List.mem_of_getElem? (i := 17) rfl))) (by decide) (backOf (W := 0) (rm_rec l Z a0 hw [] a1 h0 n0 Z0 ) hZ (hw _ (List.mem_of_getElem? (i := 17) rfl)) (hw _ (List.mem_of_getElem? (i := 16) rfl)) (by decide) (by decide)) (g := (mkF m 1 #[.val (.ref a1), .val (.ref x2), .val .null, .val (.ref x4)] [(.ref a1)])) rfl (by rw [hml]; rfl) (Steps.refl _) (a := a1) (argsL := []) (rest := []) (lenOf pd_0 rfl) rfl (by show 2 * 0 + _ ≤ _; exact Nat.le_of_eq rfl) (hb hby d5_1) (fun _ _ => ⟨rfl, e0, (by decide : 0 + 0 ≤ _), (by decide : 0 + 0 ≤ _)⟩)
  dsimp only [Pt.U, Pt.locs, Pt.cells, Pt.slots] at X2 lq2 yq2 zq2 st2 hQ2
  subst lq2 yq2 zq2
  obtain ⟨rfl, Nq2, eq1⟩ := hQ2
  have N2 := Fr.app N0 Nq2
  refine own_tr (T' := T2) (g' := (mkF m 4 #[.val (.ref a1), .val (.ref x2), .val .null, .val (.ref x4)] [])) st2 ?_
  refine own_step (T' := T2) (g' := (mkF m 5 #[.val (.ref a1), .val (.ref x2), .val .null, .val (.ref x4)] [(.ref a1)])) (fun t k => XS.aloadN X2.here hx rfl (hb hby d5_4) rfl rfl k) ?_
  refine own_step (T' := T2) (g' := (mkF m 6 #[.val (.ref a1), .val (.ref x2), .val .null, .val (.ref x4)] [(.ref x2), (.ref a1)])) (fun t k => XS.aloadN X2.here hx rfl (hb hby d5_5) rfl rfl k) ?_
  obtain ⟨T3, h3, X3, e3, W3, st3⟩ := putF X2 hx hZ hown (host := "") (Or.inl (hw _ (List.mem_of_getElem? (i := 32) rfl))) Via.refl eq1 F0 E_a (Or.inr ⟨(hw _ (List.mem_of_getElem? (i := 33) rfl)), rfl, hnm⟩) (hw _ (List.mem_of_getElem? (i := 26) rfl)) (ty := .object "java/lang/Object") (by decide) rfl rfl (g := (mkF m 6 #[.val (.ref a1), .val (.ref x2), .val .null, .val (.ref x4)] [(.ref x2), (.ref a1)])) rfl rfl (hb hby d5_6)
  have g4 : Exa Z h3 a1 "com/example/strandcast/strandcast/query/Interval" := E_a.wr W3
  have g5 : Fld Z h3 a1 "com/example/strandcast/strandcast/query/Interval" "kind" "Ljava/lang/Object;" (.ref x2) := F0.same W3
  have g6 : Fld Z h3 a1 "com/example/strandcast/strandcast/query/Interval" "lower" "Lcom/example/strandcast/strandcast/query/Interval$Bound;" u1 := F1.other W3 (Or.inr (slot_ne (Or.inr (hw _ (List.mem_of_getElem? (i := 35) rfl))) (Or.inr (hw _ (List.mem_of_getElem? (i := 33) rfl))) (by decide) (t := .object "com/example/strandcast/strandcast/query/Interval$Bound") (t' := .object "java/lang/Object") (by decide) (by decide)))
  have g7 : Fld Z h3 a1 "com/example/strandcast/strandcast/query/Interval" "upper" "Lcom/example/strandcast/strandcast/query/Interval$Bound;" u2 := F2.other W3 (Or.inr (slot_ne (Or.inr (hw _ (List.mem_of_getElem? (i := 37) rfl))) (Or.inr (hw _ (List.mem_of_getElem? (i := 33) rfl))) (by decide) (t := .object "com/example/strandcast/strandcast/query/Interval$Bound") (t' := .object "java/lang/Object") (by decide) (by decide)))
  have K8 : Keep h0 h3 [a1] := K0.wr W3 (Or.inl (List.mem_of_getElem? (i := 0) rfl))
  have N3 := Fr.snoc X3 N2 o_a
  have Z3 : n0 ≤ h3.size := (Nat.le_trans Z0 (Nat.le_of_eq W3.size.symm))
  refine own_step (T' := T3) (g' := (mkF m 9 #[.val (.ref a1), .val (.ref x2), .val .null, .val (.ref x4)] [])) st3 ?_
  refine own_step (T' := T3) (g' := (mkF m 10 #[.val (.ref a1), .val (.ref x2), .val .null, .val (.ref x4)] [(.ref a1)])) (fun t k => XS.aloadN X3.here hx rfl (hb hby d5_9) rfl rfl k) ?_
  refine own_step (T' := T3) (g' := (mkF m 11 #[.val (.ref a1), .val (.ref x2), .val .null, .val (.ref x4)] [.null, (.ref a1)])) (fun t k => XS.aloadN X3.here hx rfl (hb hby d5_10) rfl rfl k) ?_
  obtain ⟨T9, h9, X9, e9, W9, st9⟩ := putF X3 hx hZ hown (host := "") (Or.inl (hw _ (List.mem_of_getElem? (i := 34) rfl))) Via.refl e3 g6 g4 (Or.inr ⟨(hw _ (List.mem_of_getElem? (i := 35) rfl)), rfl, hnm⟩) (hw _ (List.mem_of_getElem? (i := 26) rfl)) (ty := .object "com/example/strandcast/strandcast/query/Interval$Bound") (by decide) rfl rfl (g := (mkF m 11 #[.val (.ref a1), .val (.ref x2), .val .null, .val (.ref x4)] [.null, (.ref a1)])) rfl rfl (hb hby d5_11)
  have g10 : Exa Z h9 a1 "com/example/strandcast/strandcast/query/Interval" := g4.wr W9
  have g11 : Fld Z h9 a1 "com/example/strandcast/strandcast/query/Interval" "kind" "Ljava/lang/Object;" (.ref x2) := g5.other W9 (Or.inr (slot_ne (Or.inr (hw _ (List.mem_of_getElem? (i := 33) rfl))) (Or.inr (hw _ (List.mem_of_getElem? (i := 35) rfl))) (by decide) (t := .object "java/lang/Object") (t' := .object "com/example/strandcast/strandcast/query/Interval$Bound") (by decide) (by decide)))
  have g12 : Fld Z h9 a1 "com/example/strandcast/strandcast/query/Interval" "lower" "Lcom/example/strandcast/strandcast/query/Interval$Bound;" .null := g6.same W9
  have g13 : Fld Z h9 a1 "com/example/strandcast/strandcast/query/Interval" "upper" "Lcom/example/strandcast/strandcast/query/Interval$Bound;" u2 := g7.other W9 (Or.inr (slot_ne (Or.inr (hw _ (List.mem_of_getElem? (i := 37) rfl))) (Or.inr (hw _ (List.mem_of_getElem? (i := 35) rfl))) (by decide) (t := .object "com/example/strandcast/strandcast/query/Interval$Bound") (t' := .object "com/example/strandcast/strandcast/query/Interval$Bound") (by decide) (by decide)))
  have K14 : Keep h0 h9 [a1] := K8.wr W9 (Or.inl (List.mem_of_getElem? (i := 0) rfl))
  have N9 := Fr.snoc X9 N3 o_a
  have Z9 : n0 ≤ h9.size := (Nat.le_trans Z3 (Nat.le_of_eq W9.size.symm))
  refine own_step (T' := T9) (g' := (mkF m 14 #[.val (.ref a1), .val (.ref x2), .val .null, .val (.ref x4)] [])) st9 ?_
  refine own_step (T' := T9) (g' := (mkF m 15 #[.val (.ref a1), .val (.ref x2), .val .null, .val (.ref x4)] [(.ref a1)])) (fun t k => XS.aloadN X9.here hx rfl (hb hby d5_14) rfl rfl k) ?_
  refine own_step (T' := T9) (g' := (mkF m 16 #[.val (.ref a1), .val (.ref x2), .val .null, .val (.ref x4)] [(.ref x4), (.ref a1)])) (fun t k => XS.aloadN X9.here hx rfl (hb hby d5_15) rfl rfl k) ?_
  obtain ⟨T15, h15, X15, e15, W15, st15⟩ := putF X9 hx hZ hown (host := "") (Or.inl (hw _ (List.mem_of_getElem? (i := 36) rfl))) Via.refl e9 g13 g10 (Or.inr ⟨(hw _ (List.mem_of_getElem? (i := 37) rfl)), rfl, hnm⟩) (hw _ (List.mem_of_getElem? (i := 26) rfl)) (ty := .object "com/example/strandcast/strandcast/query/Interval$Bound") (by decide) rfl rfl (g := (mkF m 16 #[.val (.ref a1), .val (.ref x2), .val .null, .val (.ref x4)] [(.ref x4), (.ref a1)])) rfl rfl (hb hby d5_16)
  have g16 : Exa Z h15 a1 "com/example/strandcast/strandcast/query/Interval" := g10.wr W15
  have g17 : Fld Z h15 a1 "com/example/strandcast/strandcast/query/Interval" "kind" "Ljava/lang/Object;" (.ref x2) := g11.other W15 (Or.inr (slot_ne (Or.inr (hw _ (List.mem_of_getElem? (i := 33) rfl))) (Or.inr (hw _ (List.mem_of_getElem? (i := 37) rfl))) (by decide) (t := .object "java/lang/Object") (t' := .object "com/example/strandcast/strandcast/query/Interval$Bound") (by decide) (by decide)))
  have g18 : Fld Z h15 a1 "com/example/strandcast/strandcast/query/Interval" "lower" "Lcom/example/strandcast/strandcast/query/Interval$Bound;" .null := g12.other W15 (Or.inr (slot_ne (Or.inr (hw _ (List.mem_of_getElem? (i := 35) rfl))) (Or.inr (hw _ (List.mem_of_getElem? (i := 37) rfl))) (by decide) (t := .object "com/example/strandcast/strandcast/query/Interval$Bound") (t' := .object "com/example/strandcast/strandcast/query/Interval$Bound") (by decide) (by decide)))
  have g19 : Fld Z h15 a1 "com/example/strandcast/strandcast/query/Interval" "upper" "Lcom/example/strandcast/strandcast/query/Interval$Bound;" (.ref x4) := g13.same W15
  have K20 : Keep h0 h15 [a1] := K14.wr W15 (Or.inl (List.mem_of_getElem? (i := 0) rfl))
  have N15 := Fr.snoc X15 N9 o_a
  have Z15 : n0 ≤ h15.size := (Nat.le_trans Z9 (Nat.le_of_eq W15.size.symm))
  refine own_step (T' := T15) (g' := (mkF m 19 #[.val (.ref a1), .val (.ref x2), .val .null, .val (.ref x4)] [])) st15 ?_
  refine own_rV X15 hx hlk Bd.returns (hb hby d5_19) ?_ (by decide) (by decide)
  rw [e15]
  exact ⟨rfl, N15, K20, g16, g17, g18, g19⟩
def Q_ninit_null_null (Z : State) (a1 : Addr) (x2 : Addr) (h0 : Heap) (n0 : Nat) (v : Option Value) (h : Heap) (L : List Loc) : Prop := v = none ∧ Fr n0 L ∧ Keep h0 h [a1] ∧ Exa Z h a1 "com/example/strandcast/strandcast/query/Interval" ∧ Fld Z h a1 "com/example/strandcast/strandcast/query/Interval" "kind" "Ljava/lang/Object;" (.ref x2) ∧ Fld Z h a1 "com/example/strandcast/strandcast/query/Interval" "lower" "Lcom/example/strandcast/strandcast/query/Interval$Bound;" .null ∧ Fld Z h a1 "com/example/strandcast/strandcast/query/Interval" "upper" "Lcom/example/strandcast/strandcast/query/Interval$Bound;" .null
theorem ef_rm_ninit_null_null (m : MethodId) (x0 : Addr) (x1 : Addr) : entryFrame m #[(.ref x0), (.ref x1), .null, .null] 4 = mkF m 0 #[.val (.ref x0), .val (.ref x1), .val .null, .val .null] [] := by first | (simp [entryFrame, mkF, argsToLocals, Value.category]; done) | rfl | (simp [entryFrame, mkF, argsToLocals, Value.category] <;> rfl)
set_option maxRecDepth 65536 in
set_option maxHeartbeats 40000000 in
theorem rm_ninit_null_null (l : Launch) (Z : State) (a0 : Array Value) (hw : ∀ d ∈ tables_1, d.before a0 Z = true) (ws : List Jvm.Cond) (a1 : Addr) (x2 : Addr) (u0 : Value) (u1 : Value) (u2 : Value) (h0 : Heap) (n0 : Nat) (Z0 : n0 ≤ h0.size) (E_a : Exa Z h0 a1 "com/example/strandcast/strandcast/query/Interval") (F0 : Fld Z h0 a1 "com/example/strandcast/strandcast/query/Interval" "kind" "Ljava/lang/Object;" u0) (F1 : Fld Z h0 a1 "com/example/strandcast/strandcast/query/Interval" "lower" "Lcom/example/strandcast/strandcast/query/Interval$Bound;" u1) (F2 : Fld Z h0 a1 "com/example/strandcast/strandcast/query/Interval" "upper" "Lcom/example/strandcast/strandcast/query/Interval$Bound;" u2) (o_a : n0 ≤ a1) :
    MetFree l (⟨"com/example/strandcast/strandcast/query/Interval", "<init>", "(Ljava/lang/Object;Lcom/example/strandcast/strandcast/query/Interval$Bound;Lcom/example/strandcast/strandcast/query/Interval$Bound;)V"⟩ : MethodName) (head1 (Jvm.Cond.code (⟨"com/example/strandcast/strandcast/query/Interval", "<init>", "(Ljava/lang/Object;Lcom/example/strandcast/strandcast/query/Interval$Bound;Lcom/example/strandcast/strandcast/query/Interval$Bound;)V"⟩ : MethodName) prog_38_method_1_code 4 none :: ws) ({ frames := 2, cells := 0, slots := 0, locals := 24 } : Room)) (fun a U => a = #[(.ref a1), (.ref x2), .null, .null] ∧ Z.Warmed39 U.vm ∧ U.heap = h0) (fun _ _ _ _ _ => True) (fun _ U o U' => ∃ v L, o = .returned v ∧ (Q_ninit_null_null Z a1 x2 h0 n0) v U'.heap L ∧ FrameEnd U o U' L ({ frames := 2, cells := 0, slots := 0, locals := 24 } : Room).cells ({ frames := 2, cells := 0, slots := 0, locals := 24 } : Room).slots) := by
  refine MetFree.of_bodySF (plainFor_of_name pn_4) hisR ?_
  intro p e s m args below meth c s₁ Bd hml0 hP hK
  obtain ⟨rfl, hZ, hh⟩ := hP
  have hx := Bd.exec
  have hby := Bd.bytes
  have hlk : meth.locks = false := BodyLoose.notSynchronized Bd
  have hml : c.maxLocals = 4 := hml0
  have hown : s.vm.findClass "com/example/strandcast/strandcast/query/Interval" = some m.cls := findClass_of_methodNamed Bd.named
  have hnm := (name_of_methodNamed Bd.named Bd.method).1
  have X0 : Stand p l e ({ frames := 2, cells := 0, slots := 0, locals := 24 } : Room) s m #[(.ref a1), (.ref x2), .null, .null] below meth c s₁ [] 0 0 := Stand.of_body Bd
  have e0 : s₁.heap = h0 := by rw [← hh, Bd.state]; rfl
  have N0 := Fr.nil n0
  show own_Go p e below s (Q_ninit_null_null Z a1 x2 h0 n0) ({ frames := 2, cells := 0, slots := 0, locals := 24 } : Room).cells ({ frames := 2, cells := 0, slots := 0, locals := 24 } : Room).slots s₁ (entryFrame m #[(.ref a1), (.ref x2), .null, .null] 4)
  refine own_cast (g' := (mkF m 0 #[.val (.ref a1), .val (.ref x2), .val .null, .val .null] [])) (ef_rm_ninit_null_null m a1 x2) ?_
  have K0 : Keep h0 h0 [a1] := Keep.refl _ _
  refine own_step (T' := s₁) (g' := (mkF m 1 #[.val (.ref a1), .val (.ref x2), .val .null, .val .null] [(.ref a1)])) (fun t k => XS.aloadN X0.here hx rfl (hb hby d5_0) rfl rfl k) ?_
  obtain ⟨_, _, ⟨T2, L2, k2, n2⟩, -, X2, ⟨Lc2, hQ2, lq2, yq2, zq2⟩, st2⟩ := X0.specialBack hx (y := (⟨"java/lang/Record", "<init>", "()V"⟩ : MethodName)) rfl hown (mvT hZ (hw _ (List.mem_of_getElem? (i := 31) rfl))) (mvT hZ (hw _ (List.mem_of_getElem? (i := 14) rfl))) (mvT hZ (hw _ (List.mem_of_getElem? (i := 17) rfl))) (by decide) (backOf (W := 0) (rm_rec l Z a0 hw [] a1 h0 n0 Z0 ) hZ (hw _ (List.mem_of_getElem? (i := 17) rfl)) (hw _ (List.mem_of_getElem? (i := 16) rfl)) (by decide) (by decide)) (g := (mkF m 1 #[.val (.ref a1), .val (.ref x2), .val .null, .val .null] [(.ref a1)])) rfl (by rw [hml]; rfl) (Steps.refl _) (a := a1) (argsL := []) (rest := []) (lenOf pd_0 rfl) rfl (by show 2 * 0 + _ ≤ _; exact Nat.le_of_eq rfl) (hb hby d5_1) (fun _ _ => ⟨rfl, e0, (by decide : 0 + 0 ≤ _), (by decide : 0 + 0 ≤ _)⟩)
  dsimp only [Pt.U, Pt.locs, Pt.cells, Pt.slots] at X2 lq2 yq2 zq2 st2 hQ2
  subst lq2 yq2 zq2
  obtain ⟨rfl, Nq2, eq1⟩ := hQ2
  have N2 := Fr.app N0 Nq2
  refine own_tr (T' := T2) (g' := (mkF m 4 #[.val (.ref a1), .val (.ref x2), .val .null, .val .null] [])) st2 ?_
  refine own_step (T' := T2) (g' := (mkF m 5 #[.val (.ref a1), .val (.ref x2), .val .null, .val .null] [(.ref a1)])) (fun t k => XS.aloadN X2.here hx rfl (hb hby d5_4) rfl rfl k) ?_
  refine own_step (T' := T2) (g' := (mkF m 6 #[.val (.ref a1), .val (.ref x2), .val .null, .val .null] [(.ref x2), (.ref a1)])) (fun t k => XS.aloadN X2.here hx rfl (hb hby d5_5) rfl rfl k) ?_
  obtain ⟨T3, h3, X3, e3, W3, st3⟩ := putF X2 hx hZ hown (host := "") (Or.inl (hw _ (List.mem_of_getElem? (i := 32) rfl))) Via.refl eq1 F0 E_a (Or.inr ⟨(hw _ (List.mem_of_getElem? (i := 33) rfl)), rfl, hnm⟩) (hw _ (List.mem_of_getElem? (i := 26) rfl)) (ty := .object "java/lang/Object") (by decide) rfl rfl (g := (mkF m 6 #[.val (.ref a1), .val (.ref x2), .val .null, .val .null] [(.ref x2), (.ref a1)])) rfl rfl (hb hby d5_6)
  have g4 : Exa Z h3 a1 "com/example/strandcast/strandcast/query/Interval" := E_a.wr W3
  have g5 : Fld Z h3 a1 "com/example/strandcast/strandcast/query/Interval" "kind" "Ljava/lang/Object;" (.ref x2) := F0.same W3
  have g6 : Fld Z h3 a1 "com/example/strandcast/strandcast/query/Interval" "lower" "Lcom/example/strandcast/strandcast/query/Interval$Bound;" u1 := F1.other W3 (Or.inr (slot_ne (Or.inr (hw _ (List.mem_of_getElem? (i := 35) rfl))) (Or.inr (hw _ (List.mem_of_getElem? (i := 33) rfl))) (by decide) (t := .object "com/example/strandcast/strandcast/query/Interval$Bound") (t' := .object "java/lang/Object") (by decide) (by decide)))
  have g7 : Fld Z h3 a1 "com/example/strandcast/strandcast/query/Interval" "upper" "Lcom/example/strandcast/strandcast/query/Interval$Bound;" u2 := F2.other W3 (Or.inr (slot_ne (Or.inr (hw _ (List.mem_of_getElem? (i := 37) rfl))) (Or.inr (hw _ (List.mem_of_getElem? (i := 33) rfl))) (by decide) (t := .object "com/example/strandcast/strandcast/query/Interval$Bound") (t' := .object "java/lang/Object") (by decide) (by decide)))
  have K8 : Keep h0 h3 [a1] := K0.wr W3 (Or.inl (List.mem_of_getElem? (i := 0) rfl))
  have N3 := Fr.snoc X3 N2 o_a
  have Z3 : n0 ≤ h3.size := (Nat.le_trans Z0 (Nat.le_of_eq W3.size.symm))
  refine own_step (T' := T3) (g' := (mkF m 9 #[.val (.ref a1), .val (.ref x2), .val .null, .val .null] [])) st3 ?_
  refine own_step (T' := T3) (g' := (mkF m 10 #[.val (.ref a1), .val (.ref x2), .val .null, .val .null] [(.ref a1)])) (fun t k => XS.aloadN X3.here hx rfl (hb hby d5_9) rfl rfl k) ?_
  refine own_step (T' := T3) (g' := (mkF m 11 #[.val (.ref a1), .val (.ref x2), .val .null, .val .null] [.null, (.ref a1)])) (fun t k => XS.aloadN X3.here hx rfl (hb hby d5_10) rfl rfl k) ?_
  obtain ⟨T9, h9, X9, e9, W9, st9⟩ := putF X3 hx hZ hown (host := "") (Or.inl (hw _ (List.mem_of_getElem? (i := 34) rfl))) Via.refl e3 g6 g4 (Or.inr ⟨(hw _ (List.mem_of_getElem? (i := 35) rfl)), rfl, hnm⟩) (hw _ (List.mem_of_getElem? (i := 26) rfl)) (ty := .object "com/example/strandcast/strandcast/query/Interval$Bound") (by decide) rfl rfl (g := (mkF m 11 #[.val (.ref a1), .val (.ref x2), .val .null, .val .null] [.null, (.ref a1)])) rfl rfl (hb hby d5_11)
  have g10 : Exa Z h9 a1 "com/example/strandcast/strandcast/query/Interval" := g4.wr W9
  have g11 : Fld Z h9 a1 "com/example/strandcast/strandcast/query/Interval" "kind" "Ljava/lang/Object;" (.ref x2) := g5.other W9 (Or.inr (slot_ne (Or.inr (hw _ (List.mem_of_getElem? (i := 33) rfl))) (Or.inr (hw _ (List.mem_of_getElem? (i := 35) rfl))) (by decide) (t := .object "java/lang/Object") (t' := .object "com/example/strandcast/strandcast/query/Interval$Bound") (by decide) (by decide)))
  have g12 : Fld Z h9 a1 "com/example/strandcast/strandcast/query/Interval" "lower" "Lcom/example/strandcast/strandcast/query/Interval$Bound;" .null := g6.same W9
  have g13 : Fld Z h9 a1 "com/example/strandcast/strandcast/query/Interval" "upper" "Lcom/example/strandcast/strandcast/query/Interval$Bound;" u2 := g7.other W9 (Or.inr (slot_ne (Or.inr (hw _ (List.mem_of_getElem? (i := 37) rfl))) (Or.inr (hw _ (List.mem_of_getElem? (i := 35) rfl))) (by decide) (t := .object "com/example/strandcast/strandcast/query/Interval$Bound") (t' := .object "com/example/strandcast/strandcast/query/Interval$Bound") (by decide) (by decide)))
  have K14 : Keep h0 h9 [a1] := K8.wr W9 (Or.inl (List.mem_of_getElem? (i := 0) rfl))
  have N9 := Fr.snoc X9 N3 o_a
  have Z9 : n0 ≤ h9.size := (Nat.le_trans Z3 (Nat.le_of_eq W9.size.symm))
  refine own_step (T' := T9) (g' := (mkF m 14 #[.val (.ref a1), .val (.ref x2), .val .null, .val .null] [])) st9 ?_
  refine own_step (T' := T9) (g' := (mkF m 15 #[.val (.ref a1), .val (.ref x2), .val .null, .val .null] [(.ref a1)])) (fun t k => XS.aloadN X9.here hx rfl (hb hby d5_14) rfl rfl k) ?_
  refine own_step (T' := T9) (g' := (mkF m 16 #[.val (.ref a1), .val (.ref x2), .val .null, .val .null] [.null, (.ref a1)])) (fun t k => XS.aloadN X9.here hx rfl (hb hby d5_15) rfl rfl k) ?_
  obtain ⟨T15, h15, X15, e15, W15, st15⟩ := putF X9 hx hZ hown (host := "") (Or.inl (hw _ (List.mem_of_getElem? (i := 36) rfl))) Via.refl e9 g13 g10 (Or.inr ⟨(hw _ (List.mem_of_getElem? (i := 37) rfl)), rfl, hnm⟩) (hw _ (List.mem_of_getElem? (i := 26) rfl)) (ty := .object "com/example/strandcast/strandcast/query/Interval$Bound") (by decide) rfl rfl (g := (mkF m 16 #[.val (.ref a1), .val (.ref x2), .val .null, .val .null] [.null, (.ref a1)])) rfl rfl (hb hby d5_16)
  have g16 : Exa Z h15 a1 "com/example/strandcast/strandcast/query/Interval" := g10.wr W15
  have g17 : Fld Z h15 a1 "com/example/strandcast/strandcast/query/Interval" "kind" "Ljava/lang/Object;" (.ref x2) := g11.other W15 (Or.inr (slot_ne (Or.inr (hw _ (List.mem_of_getElem? (i := 33) rfl))) (Or.inr (hw _ (List.mem_of_getElem? (i := 37) rfl))) (by decide) (t := .object "java/lang/Object") (t' := .object "com/example/strandcast/strandcast/query/Interval$Bound") (by decide) (by decide)))
  have g18 : Fld Z h15 a1 "com/example/strandcast/strandcast/query/Interval" "lower" "Lcom/example/strandcast/strandcast/query/Interval$Bound;" .null := g12.other W15 (Or.inr (slot_ne (Or.inr (hw _ (List.mem_of_getElem? (i := 35) rfl))) (Or.inr (hw _ (List.mem_of_getElem? (i := 37) rfl))) (by decide) (t := .object "com/example/strandcast/strandcast/query/Interval$Bound") (t' := .object "com/example/strandcast/strandcast/query/Interval$Bound") (by decide) (by decide)))
  have g19 : Fld Z h15 a1 "com/example/strandcast/strandcast/query/Interval" "upper" "Lcom/example/strandcast/strandcast/query/Interval$Bound;" .null := g13.same W15
  have K20 : Keep h0 h15 [a1] := K14.wr W15 (Or.inl (List.mem_of_getElem? (i := 0) rfl))
  have N15 := Fr.snoc X15 N9 o_a
  have Z15 : n0 ≤ h15.size := (Nat.le_trans Z9 (Nat.le_of_eq W15.size.symm))
  refine own_step (T' := T15) (g' := (mkF m 19 #[.val (.ref a1), .val (.ref x2), .val .null, .val .null] [])) st15 ?_
  refine own_rV X15 hx hlk Bd.returns (hb hby d5_19) ?_ (by decide) (by decide)
  rw [e15]
  exact ⟨rfl, N15, K20, g16, g17, g18, g19⟩
def Q_ip0 (h0 : Heap) (n0 : Nat) (v : Option Value) (h : Heap) (L : List Loc) : Prop := v = some (.int (0 : Int32)) ∧ Fr n0 L ∧ h = h0
theorem ef_rm_ip0 (m : MethodId) (x0 : Addr) : entryFrame m #[(.ref x0)] 1 = mkF m 0 #[.val (.ref x0)] [] := by first | (simp [entryFrame, mkF, argsToLocals, Value.category]; done) | rfl | (simp [entryFrame, mkF, argsToLocals, Value.category] <;> rfl)
theorem d6_0 : decode prog_38_method_3_code 0 = .ok (.aload_n 0, 1) := by decide +kernel
theorem d6_1 : decode prog_38_method_3_code 1 = .ok (.getfield 13, 3) := by decide +kernel
theorem d6_4 : decode prog_38_method_3_code 4 = .ok (.ifnull 18, 3) := by decide +kernel
theorem d6_22 : decode prog_38_method_3_code 22 = .ok (.iconst 0, 1) := by decide +kernel
theorem d6_23 : decode prog_38_method_3_code 23 = .ok (.ireturn, 1) := by decide +kernel
set_option maxRecDepth 65536 in
set_option maxHeartbeats 40000000 in
theorem rm_ip0 (l : Launch) (Z : State) (a0 : Array Value) (hw : ∀ d ∈ tables_1, d.before a0 Z = true) (ws : List Jvm.Cond) (a1 : Addr) (h0 : Heap) (n0 : Nat) (Z0 : n0 ≤ h0.size) (F_l : Fld Z h0 a1 "com/example/strandcast/strandcast/query/Interval" "lower" "Lcom/example/strandcast/strandcast/query/Interval$Bound;" .null) :
    MetFree l (⟨"com/example/strandcast/strandcast/query/Interval", "isPoint", "()Z"⟩ : MethodName) (head1 (Jvm.Cond.code (⟨"com/example/strandcast/strandcast/query/Interval", "isPoint", "()Z"⟩ : MethodName) prog_38_method_3_code 1 (some (.boolean)) :: ws) ({ frames := 0, cells := 0, slots := 0, locals := 0 } : Room)) (fun a U => a = #[(.ref a1)] ∧ Z.Warmed39 U.vm ∧ U.heap = h0) (fun _ _ _ _ _ => True) (fun _ U o U' => ∃ v L, o = .returned v ∧ (Q_ip0 h0 n0) v U'.heap L ∧ FrameEnd U o U' L ({ frames := 0, cells := 0, slots := 0, locals := 0 } : Room).cells ({ frames := 0, cells := 0, slots := 0, locals := 0 } : Room).slots) := by
  refine MetFree.of_bodySF (plainFor_of_name pn_4) hisR ?_
  intro p e s m args below meth c s₁ Bd hml0 hP hK
  obtain ⟨rfl, hZ, hh⟩ := hP
  have hx := Bd.exec
  have hby := Bd.bytes
  have hlk : meth.locks = false := BodyLoose.notSynchronized Bd
  have hml : c.maxLocals = 1 := hml0
  have hown : s.vm.findClass "com/example/strandcast/strandcast/query/Interval" = some m.cls := findClass_of_methodNamed Bd.named
  have hnm := (name_of_methodNamed Bd.named Bd.method).1
  have X0 : Stand p l e ({ frames := 0, cells := 0, slots := 0, locals := 0 } : Room) s m #[(.ref a1)] below meth c s₁ [] 0 0 := Stand.of_body Bd
  have e0 : s₁.heap = h0 := by rw [← hh, Bd.state]; rfl
  have N0 := Fr.nil n0
  show own_Go p e below s (Q_ip0 h0 n0) ({ frames := 0, cells := 0, slots := 0, locals := 0 } : Room).cells ({ frames := 0, cells := 0, slots := 0, locals := 0 } : Room).slots s₁ (entryFrame m #[(.ref a1)] 1)
  refine own_cast (g' := (mkF m 0 #[.val (.ref a1)] [])) (ef_rm_ip0 m a1) ?_
  refine own_step (T' := s₁) (g' := (mkF m 1 #[.val (.ref a1)] [(.ref a1)])) (fun t k => XS.aloadN X0.here hx rfl (hb hby d6_0) rfl rfl k) ?_
  obtain ⟨T1, X1, e1, st1⟩ := getF X0 hx hZ hown (host := "") (Or.inl (hw _ (List.mem_of_getElem? (i := 34) rfl))) Via.refl e0 F_l (g := (mkF m 1 #[.val (.ref a1)] [(.ref a1)])) rfl rfl (hb hby d6_1)
  refine own_step (T' := T1) (g' := (mkF m 4 #[.val (.ref a1)] [.null])) st1 ?_
  refine own_step (T' := T1) (g' := (mkF m 22 #[.val (.ref a1)] [])) (fun t k => XS.ifnullYes X1.here hx rfl (pc0 := 4) (pc' := 22) rfl (hb hby d6_4) rfl (by decide) (by decide) k) ?_
  refine own_step (T' := T1) (g' := (mkF m 23 #[.val (.ref a1)] [(.int (0 : Int32))])) (fun t k => XS.iconst X1.here hx rfl (hb hby d6_22) k) ?_
  refine own_rN X1 hx hlk Bd.returns (by simp) (hb hby d6_23) ?_ (by decide) (by decide)
  rw [e1]
  exact ⟨rfl, N0, rfl⟩
def Q_ip1 (h0 : Heap) (n0 : Nat) (v : Option Value) (h : Heap) (L : List Loc) : Prop := v = some (.int (1 : Int32)) ∧ Fr n0 L ∧ h = h0
theorem ef_rm_ip1 (m : MethodId) (x0 : Addr) : entryFrame m #[(.ref x0)] 1 = mkF m 0 #[.val (.ref x0)] [] := by first | (simp [entryFrame, mkF, argsToLocals, Value.category]; done) | rfl | (simp [entryFrame, mkF, argsToLocals, Value.category] <;> rfl)
theorem d6_7 : decode prog_38_method_3_code 7 = .ok (.aload_n 0, 1) := by decide +kernel
theorem d6_8 : decode prog_38_method_3_code 8 = .ok (.getfield 13, 3) := by decide +kernel
theorem d6_11 : decode prog_38_method_3_code 11 = .ok (.aload_n 0, 1) := by decide +kernel
theorem d6_12 : decode prog_38_method_3_code 12 = .ok (.getfield 17, 3) := by decide +kernel
theorem d6_15 : decode prog_38_method_3_code 15 = .ok (.if_acmp .ne 7, 3) := by decide +kernel
theorem d6_18 : decode prog_38_method_3_code 18 = .ok (.iconst 1, 1) := by decide +kernel
theorem d6_19 : decode prog_38_method_3_code 19 = .ok (.goto 4, 3) := by decide +kernel
set_option maxRecDepth 65536 in
set_option maxHeartbeats 40000000 in
theorem rm_ip1 (l : Launch) (Z : State) (a0 : Array Value) (hw : ∀ d ∈ tables_1, d.before a0 Z = true) (ws : List Jvm.Cond) (a1 : Addr) (x2 : Addr) (h0 : Heap) (n0 : Nat) (Z0 : n0 ≤ h0.size) (F_l : Fld Z h0 a1 "com/example/strandcast/strandcast/query/Interval" "lower" "Lcom/example/strandcast/strandcast/query/Interval$Bound;" (.ref x2)) (F_u : Fld Z h0 a1 "com/example/strandcast/strandcast/query/Interval" "upper" "Lcom/example/strandcast/strandcast/query/Interval$Bound;" (.ref x2)) :
    MetFree l (⟨"com/example/strandcast/strandcast/query/Interval", "isPoint", "()Z"⟩ : MethodName) (head1 (Jvm.Cond.code (⟨"com/example/strandcast/strandcast/query/Interval", "isPoint", "()Z"⟩ : MethodName) prog_38_method_3_code 1 (some (.boolean)) :: ws) ({ frames := 0, cells := 0, slots := 0, locals := 0 } : Room)) (fun a U => a = #[(.ref a1)] ∧ Z.Warmed39 U.vm ∧ U.heap = h0) (fun _ _ _ _ _ => True) (fun _ U o U' => ∃ v L, o = .returned v ∧ (Q_ip1 h0 n0) v U'.heap L ∧ FrameEnd U o U' L ({ frames := 0, cells := 0, slots := 0, locals := 0 } : Room).cells ({ frames := 0, cells := 0, slots := 0, locals := 0 } : Room).slots) := by
  refine MetFree.of_bodySF (plainFor_of_name pn_4) hisR ?_
  intro p e s m args below meth c s₁ Bd hml0 hP hK
  obtain ⟨rfl, hZ, hh⟩ := hP
  have hx := Bd.exec
  have hby := Bd.bytes
  have hlk : meth.locks = false := BodyLoose.notSynchronized Bd
  have hml : c.maxLocals = 1 := hml0
  have hown : s.vm.findClass "com/example/strandcast/strandcast/query/Interval" = some m.cls := findClass_of_methodNamed Bd.named
  have hnm := (name_of_methodNamed Bd.named Bd.method).1
  have X0 : Stand p l e ({ frames := 0, cells := 0, slots := 0, locals := 0 } : Room) s m #[(.ref a1)] below meth c s₁ [] 0 0 := Stand.of_body Bd
  have e0 : s₁.heap = h0 := by rw [← hh, Bd.state]; rfl
  have N0 := Fr.nil n0
  show own_Go p e below s (Q_ip1 h0 n0) ({ frames := 0, cells := 0, slots := 0, locals := 0 } : Room).cells ({ frames := 0, cells := 0, slots := 0, locals := 0 } : Room).slots s₁ (entryFrame m #[(.ref a1)] 1)
  refine own_cast (g' := (mkF m 0 #[.val (.ref a1)] [])) (ef_rm_ip1 m a1) ?_
  refine own_step (T' := s₁) (g' := (mkF m 1 #[.val (.ref a1)] [(.ref a1)])) (fun t k => XS.aloadN X0.here hx rfl (hb hby d6_0) rfl rfl k) ?_
  obtain ⟨T1, X1, e1, st1⟩ := getF X0 hx hZ hown (host := "") (Or.inl (hw _ (List.mem_of_getElem? (i := 34) rfl))) Via.refl e0 F_l (g := (mkF m 1 #[.val (.ref a1)] [(.ref a1)])) rfl rfl (hb hby d6_1)
  refine own_step (T' := T1) (g' := (mkF m 4 #[.val (.ref a1)] [(.ref x2)])) st1 ?_
  refine own_step (T' := T1) (g' := (mkF m 7 #[.val (.ref a1)] [])) (fun t k => XS.ifnullNo X1.here hx rfl (hb hby d6_4) rfl k) ?_
  refine own_step (T' := T1) (g' := (mkF m 8 #[.val (.ref a1)] [(.ref a1)])) (fun t k => XS.aloadN X1.here hx rfl (hb hby d6_7) rfl rfl k) ?_
  obtain ⟨T2, X2, e2, st2⟩ := getF X1 hx hZ hown (host := "") (Or.inl (hw _ (List.mem_of_getElem? (i := 34) rfl))) Via.refl e1 F_l (g := (mkF m 8 #[.val (.ref a1)] [(.ref a1)])) rfl rfl (hb hby d6_8)
  refine own_step (T' := T2) (g' := (mkF m 11 #[.val (.ref a1)] [(.ref x2)])) st2 ?_
  refine own_step (T' := T2) (g' := (mkF m 12 #[.val (.ref a1)] [(.ref a1), (.ref x2)])) (fun t k => XS.aloadN X2.here hx rfl (hb hby d6_11) rfl rfl k) ?_
  obtain ⟨T3, X3, e3, st3⟩ := getF X2 hx hZ hown (host := "") (Or.inl (hw _ (List.mem_of_getElem? (i := 36) rfl))) Via.refl e2 F_u (g := (mkF m 12 #[.val (.ref a1)] [(.ref a1), (.ref x2)])) rfl rfl (hb hby d6_12)
  refine own_step (T' := T3) (g' := (mkF m 15 #[.val (.ref a1)] [(.ref x2), (.ref x2)])) st3 ?_
  refine own_step (T' := T3) (g' := (mkF m 18 #[.val (.ref a1)] [])) (fun t k => acmp (g := (mkF m 15 #[.val (.ref a1)] [(.ref x2), (.ref x2)])) X3 hx rfl (x := (.ref x2)) (y := (.ref x2)) rfl rfl (pc0 := 15) (pc' := 18) (same := true) rfl (hb hby d6_15) rfl (decide_eq_true rfl) (by decide) rfl k) ?_
  refine own_step (T' := T3) (g' := (mkF m 19 #[.val (.ref a1)] [(.int (1 : Int32))])) (fun t k => XS.iconst X3.here hx rfl (hb hby d6_18) k) ?_
  refine own_step (T' := T3) (g' := (mkF m 23 #[.val (.ref a1)] [(.int (1 : Int32))])) (fun t k => XS.goto X3.here hx rfl (pc0 := 19) (pc' := 23) rfl (hb hby d6_19) (by decide) (by decide) k) ?_
  refine own_rN X3 hx hlk Bd.returns (by simp) (hb hby d6_23) ?_ (by decide) (by decide)
  rw [e3]
  exact ⟨rfl, N0, rfl⟩
def Q_ip2 (h0 : Heap) (n0 : Nat) (v : Option Value) (h : Heap) (L : List Loc) : Prop := v = some (.int (0 : Int32)) ∧ Fr n0 L ∧ h = h0
theorem ef_rm_ip2 (m : MethodId) (x0 : Addr) : entryFrame m #[(.ref x0)] 1 = mkF m 0 #[.val (.ref x0)] [] := by first | (simp [entryFrame, mkF, argsToLocals, Value.category]; done) | rfl | (simp [entryFrame, mkF, argsToLocals, Value.category] <;> rfl)
set_option maxRecDepth 65536 in
set_option maxHeartbeats 40000000 in
theorem rm_ip2 (l : Launch) (Z : State) (a0 : Array Value) (hw : ∀ d ∈ tables_1, d.before a0 Z = true) (ws : List Jvm.Cond) (a1 : Addr) (x2 : Addr) (h0 : Heap) (n0 : Nat) (Z0 : n0 ≤ h0.size) (F_l : Fld Z h0 a1 "com/example/strandcast/strandcast/query/Interval" "lower" "Lcom/example/strandcast/strandcast/query/Interval$Bound;" (.ref x2)) (F_u : Fld Z h0 a1 "com/example/strandcast/strandcast/query/Interval" "upper" "Lcom/example/strandcast/strandcast/query/Interval$Bound;" .null) :
    MetFree l (⟨"com/example/strandcast/strandcast/query/Interval", "isPoint", "()Z"⟩ : MethodName) (head1 (Jvm.Cond.code (⟨"com/example/strandcast/strandcast/query/Interval", "isPoint", "()Z"⟩ : MethodName) prog_38_method_3_code 1 (some (.boolean)) :: ws) ({ frames := 0, cells := 0, slots := 0, locals := 0 } : Room)) (fun a U => a = #[(.ref a1)] ∧ Z.Warmed39 U.vm ∧ U.heap = h0) (fun _ _ _ _ _ => True) (fun _ U o U' => ∃ v L, o = .returned v ∧ (Q_ip2 h0 n0) v U'.heap L ∧ FrameEnd U o U' L ({ frames := 0, cells := 0, slots := 0, locals := 0 } : Room).cells ({ frames := 0, cells := 0, slots := 0, locals := 0 } : Room).slots) := by
  refine MetFree.of_bodySF (plainFor_of_name pn_4) hisR ?_
  intro p e s m args below meth c s₁ Bd hml0 hP hK
  obtain ⟨rfl, hZ, hh⟩ := hP
  have hx := Bd.exec
  have hby := Bd.bytes
  have hlk : meth.locks = false := BodyLoose.notSynchronized Bd
  have hml : c.maxLocals = 1 := hml0
  have hown : s.vm.findClass "com/example/strandcast/strandcast/query/Interval" = some m.cls := findClass_of_methodNamed Bd.named
  have hnm := (name_of_methodNamed Bd.named Bd.method).1
  have X0 : Stand p l e ({ frames := 0, cells := 0, slots := 0, locals := 0 } : Room) s m #[(.ref a1)] below meth c s₁ [] 0 0 := Stand.of_body Bd
  have e0 : s₁.heap = h0 := by rw [← hh, Bd.state]; rfl
  have N0 := Fr.nil n0
  show own_Go p e below s (Q_ip2 h0 n0) ({ frames := 0, cells := 0, slots := 0, locals := 0 } : Room).cells ({ frames := 0, cells := 0, slots := 0, locals := 0 } : Room).slots s₁ (entryFrame m #[(.ref a1)] 1)
  refine own_cast (g' := (mkF m 0 #[.val (.ref a1)] [])) (ef_rm_ip2 m a1) ?_
  refine own_step (T' := s₁) (g' := (mkF m 1 #[.val (.ref a1)] [(.ref a1)])) (fun t k => XS.aloadN X0.here hx rfl (hb hby d6_0) rfl rfl k) ?_
  obtain ⟨T1, X1, e1, st1⟩ := getF X0 hx hZ hown (host := "") (Or.inl (hw _ (List.mem_of_getElem? (i := 34) rfl))) Via.refl e0 F_l (g := (mkF m 1 #[.val (.ref a1)] [(.ref a1)])) rfl rfl (hb hby d6_1)
  refine own_step (T' := T1) (g' := (mkF m 4 #[.val (.ref a1)] [(.ref x2)])) st1 ?_
  refine own_step (T' := T1) (g' := (mkF m 7 #[.val (.ref a1)] [])) (fun t k => XS.ifnullNo X1.here hx rfl (hb hby d6_4) rfl k) ?_
  refine own_step (T' := T1) (g' := (mkF m 8 #[.val (.ref a1)] [(.ref a1)])) (fun t k => XS.aloadN X1.here hx rfl (hb hby d6_7) rfl rfl k) ?_
  obtain ⟨T2, X2, e2, st2⟩ := getF X1 hx hZ hown (host := "") (Or.inl (hw _ (List.mem_of_getElem? (i := 34) rfl))) Via.refl e1 F_l (g := (mkF m 8 #[.val (.ref a1)] [(.ref a1)])) rfl rfl (hb hby d6_8)
  refine own_step (T' := T2) (g' := (mkF m 11 #[.val (.ref a1)] [(.ref x2)])) st2 ?_
  refine own_step (T' := T2) (g' := (mkF m 12 #[.val (.ref a1)] [(.ref a1), (.ref x2)])) (fun t k => XS.aloadN X2.here hx rfl (hb hby d6_11) rfl rfl k) ?_
  obtain ⟨T3, X3, e3, st3⟩ := getF X2 hx hZ hown (host := "") (Or.inl (hw _ (List.mem_of_getElem? (i := 36) rfl))) Via.refl e2 F_u (g := (mkF m 12 #[.val (.ref a1)] [(.ref a1), (.ref x2)])) rfl rfl (hb hby d6_12)
  refine own_step (T' := T3) (g' := (mkF m 15 #[.val (.ref a1)] [.null, (.ref x2)])) st3 ?_
  refine own_step (T' := T3) (g' := (mkF m 22 #[.val (.ref a1)] [])) (fun t k => acmp (g := (mkF m 15 #[.val (.ref a1)] [.null, (.ref x2)])) X3 hx rfl (x := (.ref x2)) (y := .null) rfl rfl (pc0 := 15) (pc' := 22) (same := false) rfl (hb hby d6_15) rfl (decide_eq_false (fun q => by cases q)) (by decide) rfl k) ?_
  refine own_step (T' := T3) (g' := (mkF m 23 #[.val (.ref a1)] [(.int (0 : Int32))])) (fun t k => XS.iconst X3.here hx rfl (hb hby d6_22) k) ?_
  refine own_rN X3 hx hlk Bd.returns (by simp) (hb hby d6_23) ?_ (by decide) (by decide)
  rw [e3]
  exact ⟨rfl, N0, rfl⟩
def Q_ip3 (h0 : Heap) (n0 : Nat) (v : Option Value) (h : Heap) (L : List Loc) : Prop := v = some (.int (0 : Int32)) ∧ Fr n0 L ∧ h = h0
theorem ef_rm_ip3 (m : MethodId) (x0 : Addr) : entryFrame m #[(.ref x0)] 1 = mkF m 0 #[.val (.ref x0)] [] := by first | (simp [entryFrame, mkF, argsToLocals, Value.category]; done) | rfl | (simp [entryFrame, mkF, argsToLocals, Value.category] <;> rfl)
set_option maxRecDepth 65536 in
set_option maxHeartbeats 40000000 in
theorem rm_ip3 (l : Launch) (Z : State) (a0 : Array Value) (hw : ∀ d ∈ tables_1, d.before a0 Z = true) (ws : List Jvm.Cond) (a1 : Addr) (x2 : Addr) (x3 : Addr) (h0 : Heap) (n0 : Nat) (Z0 : n0 ≤ h0.size) (F_l : Fld Z h0 a1 "com/example/strandcast/strandcast/query/Interval" "lower" "Lcom/example/strandcast/strandcast/query/Interval$Bound;" (.ref x2)) (F_u : Fld Z h0 a1 "com/example/strandcast/strandcast/query/Interval" "upper" "Lcom/example/strandcast/strandcast/query/Interval$Bound;" (.ref x3)) (hne : x2 ≠ x3) :
    MetFree l (⟨"com/example/strandcast/strandcast/query/Interval", "isPoint", "()Z"⟩ : MethodName) (head1 (Jvm.Cond.code (⟨"com/example/strandcast/strandcast/query/Interval", "isPoint", "()Z"⟩ : MethodName) prog_38_method_3_code 1 (some (.boolean)) :: ws) ({ frames := 0, cells := 0, slots := 0, locals := 0 } : Room)) (fun a U => a = #[(.ref a1)] ∧ Z.Warmed39 U.vm ∧ U.heap = h0) (fun _ _ _ _ _ => True) (fun _ U o U' => ∃ v L, o = .returned v ∧ (Q_ip3 h0 n0) v U'.heap L ∧ FrameEnd U o U' L ({ frames := 0, cells := 0, slots := 0, locals := 0 } : Room).cells ({ frames := 0, cells := 0, slots := 0, locals := 0 } : Room).slots) := by
  refine MetFree.of_bodySF (plainFor_of_name pn_4) hisR ?_
  intro p e s m args below meth c s₁ Bd hml0 hP hK
  obtain ⟨rfl, hZ, hh⟩ := hP
  have hx := Bd.exec
  have hby := Bd.bytes
  have hlk : meth.locks = false := BodyLoose.notSynchronized Bd
  have hml : c.maxLocals = 1 := hml0
  have hown : s.vm.findClass "com/example/strandcast/strandcast/query/Interval" = some m.cls := findClass_of_methodNamed Bd.named
  have hnm := (name_of_methodNamed Bd.named Bd.method).1
  have X0 : Stand p l e ({ frames := 0, cells := 0, slots := 0, locals := 0 } : Room) s m #[(.ref a1)] below meth c s₁ [] 0 0 := Stand.of_body Bd
  have e0 : s₁.heap = h0 := by rw [← hh, Bd.state]; rfl
  have N0 := Fr.nil n0
  show own_Go p e below s (Q_ip3 h0 n0) ({ frames := 0, cells := 0, slots := 0, locals := 0 } : Room).cells ({ frames := 0, cells := 0, slots := 0, locals := 0 } : Room).slots s₁ (entryFrame m #[(.ref a1)] 1)
  refine own_cast (g' := (mkF m 0 #[.val (.ref a1)] [])) (ef_rm_ip3 m a1) ?_
  refine own_step (T' := s₁) (g' := (mkF m 1 #[.val (.ref a1)] [(.ref a1)])) (fun t k => XS.aloadN X0.here hx rfl (hb hby d6_0) rfl rfl k) ?_
  obtain ⟨T1, X1, e1, st1⟩ := getF X0 hx hZ hown (host := "") (Or.inl (hw _ (List.mem_of_getElem? (i := 34) rfl))) Via.refl e0 F_l (g := (mkF m 1 #[.val (.ref a1)] [(.ref a1)])) rfl rfl (hb hby d6_1)
  refine own_step (T' := T1) (g' := (mkF m 4 #[.val (.ref a1)] [(.ref x2)])) st1 ?_
  refine own_step (T' := T1) (g' := (mkF m 7 #[.val (.ref a1)] [])) (fun t k => XS.ifnullNo X1.here hx rfl (hb hby d6_4) rfl k) ?_
  refine own_step (T' := T1) (g' := (mkF m 8 #[.val (.ref a1)] [(.ref a1)])) (fun t k => XS.aloadN X1.here hx rfl (hb hby d6_7) rfl rfl k) ?_
  obtain ⟨T2, X2, e2, st2⟩ := getF X1 hx hZ hown (host := "") (Or.inl (hw _ (List.mem_of_getElem? (i := 34) rfl))) Via.refl e1 F_l (g := (mkF m 8 #[.val (.ref a1)] [(.ref a1)])) rfl rfl (hb hby d6_8)
  refine own_step (T' := T2) (g' := (mkF m 11 #[.val (.ref a1)] [(.ref x2)])) st2 ?_
  refine own_step (T' := T2) (g' := (mkF m 12 #[.val (.ref a1)] [(.ref a1), (.ref x2)])) (fun t k => XS.aloadN X2.here hx rfl (hb hby d6_11) rfl rfl k) ?_
  obtain ⟨T3, X3, e3, st3⟩ := getF X2 hx hZ hown (host := "") (Or.inl (hw _ (List.mem_of_getElem? (i := 36) rfl))) Via.refl e2 F_u (g := (mkF m 12 #[.val (.ref a1)] [(.ref a1), (.ref x2)])) rfl rfl (hb hby d6_12)
  refine own_step (T' := T3) (g' := (mkF m 15 #[.val (.ref a1)] [(.ref x3), (.ref x2)])) st3 ?_
  refine own_step (T' := T3) (g' := (mkF m 22 #[.val (.ref a1)] [])) (fun t k => acmp (g := (mkF m 15 #[.val (.ref a1)] [(.ref x3), (.ref x2)])) X3 hx rfl (x := (.ref x2)) (y := (.ref x3)) rfl rfl (pc0 := 15) (pc' := 22) (same := false) rfl (hb hby d6_15) rfl (decide_eq_false (fun q => hne (Value.ref.inj q))) (by decide) rfl k) ?_
  refine own_step (T' := T3) (g' := (mkF m 23 #[.val (.ref a1)] [(.int (0 : Int32))])) (fun t k => XS.iconst X3.here hx rfl (hb hby d6_22) k) ?_
  refine own_rN X3 hx hlk Bd.returns (by simp) (hb hby d6_23) ?_ (by decide) (by decide)
  rw [e3]
  exact ⟨rfl, N0, rfl⟩
def Q_pt (Z : State) (h0 : Heap) (n0 : Nat) (v : Option Value) (h : Heap) (L : List Loc) : Prop := ∃ (b q : Addr), v = some (.ref b) ∧ Fr n0 L ∧ Keep h0 h [] ∧ h0.size ≤ b ∧ Exa Z h b "com/example/strandcast/strandcast/query/Interval" ∧ Fld Z h b "com/example/strandcast/strandcast/query/Interval" "lower" "Lcom/example/strandcast/strandcast/query/Interval$Bound;" (.ref q) ∧ Fld Z h b "com/example/strandcast/strandcast/query/Interval" "upper" "Lcom/example/strandcast/strandcast/query/Interval$Bound;" (.ref q)
theorem ef_rm_pt (m : MethodId) (x0 : Addr) : entryFrame m #[(.ref x0)] 2 = mkF m 0 #[.val (.ref x0), .unset] [] := by first | (simp [entryFrame, mkF, argsToLocals, Value.category]; done) | rfl | (simp [entryFrame, mkF, argsToLocals, Value.category] <;> rfl)
theorem d9_0 : decode prog_38_method_2_code 0 = .ok (.new 20, 3) := by decide +kernel
theorem d9_3 : decode prog_38_method_2_code 3 = .ok (.dup, 1) := by decide +kernel
theorem d9_4 : decode prog_38_method_2_code 4 = .ok (.aload_n 0, 1) := by decide +kernel
theorem d9_5 : decode prog_38_method_2_code 5 = .ok (.iconst 1, 1) := by decide +kernel
theorem pd_2 : parseMethodDescriptor "(Ljava/lang/Object;Z)V" = some ⟨[.object "java/lang/Object", .boolean], none⟩ := by decide +kernel
theorem d9_6 : decode prog_38_method_2_code 6 = .ok (.invokespecial 22, 3) := by decide +kernel
theorem d9_9 : decode prog_38_method_2_code 9 = .ok (.astore_n 1, 1) := by decide +kernel
theorem d9_10 : decode prog_38_method_2_code 10 = .ok (.new 8, 3) := by decide +kernel
theorem d9_13 : decode prog_38_method_2_code 13 = .ok (.dup, 1) := by decide +kernel
theorem d9_14 : decode prog_38_method_2_code 14 = .ok (.aload_n 0, 1) := by decide +kernel
theorem d9_15 : decode prog_38_method_2_code 15 = .ok (.aload_n 1, 1) := by decide +kernel
theorem d9_16 : decode prog_38_method_2_code 16 = .ok (.aload_n 1, 1) := by decide +kernel
theorem pd_3 : parseMethodDescriptor "(Ljava/lang/Object;Lcom/example/strandcast/strandcast/query/Interval$Bound;Lcom/example/strandcast/strandcast/query/Interval$Bound;)V" = some ⟨[.object "java/lang/Object", .object "com/example/strandcast/strandcast/query/Interval$Bound", .object "com/example/strandcast/strandcast/query/Interval$Bound"], none⟩ := by decide +kernel
theorem d9_17 : decode prog_38_method_2_code 17 = .ok (.invokespecial 25, 3) := by decide +kernel
theorem d9_20 : decode prog_38_method_2_code 20 = .ok (.areturn, 1) := by decide +kernel
set_option maxRecDepth 65536 in
set_option maxHeartbeats 40000000 in
theorem rm_pt (l : Launch) (Z : State) (a0 : Array Value) (hw : ∀ d ∈ tables_1, d.before a0 Z = true) (ws : List Jvm.Cond) (a1 : Addr) (h0 : Heap) (n0 : Nat) (Z0 : n0 ≤ h0.size)  :
    MetFree l (⟨"com/example/strandcast/strandcast/query/Interval", "point", "(Ljava/lang/Object;)Lcom/example/strandcast/strandcast/query/Interval;"⟩ : MethodName) (head1 (Jvm.Cond.code (⟨"com/example/strandcast/strandcast/query/Interval", "point", "(Ljava/lang/Object;)Lcom/example/strandcast/strandcast/query/Interval;"⟩ : MethodName) prog_38_method_2_code 2 (some (.object "com/example/strandcast/strandcast/query/Interval")) :: ws) ({ frames := 3, cells := 2, slots := 5, locals := 40 } : Room)) (fun a U => a = #[(.ref a1)] ∧ Z.Warmed39 U.vm ∧ U.heap = h0) (fun _ _ _ _ _ => True) (fun _ U o U' => ∃ v L, o = .returned v ∧ (Q_pt Z h0 n0) v U'.heap L ∧ FrameEnd U o U' L ({ frames := 3, cells := 2, slots := 5, locals := 40 } : Room).cells ({ frames := 3, cells := 2, slots := 5, locals := 40 } : Room).slots) := by
  refine MetFree.of_bodySF (plainFor_of_name pn_4) hisR ?_
  intro p e s m args below meth c s₁ Bd hml0 hP hK
  obtain ⟨rfl, hZ, hh⟩ := hP
  have hx := Bd.exec
  have hby := Bd.bytes
  have hlk : meth.locks = false := BodyLoose.notSynchronized Bd
  have hml : c.maxLocals = 2 := hml0
  have hown : s.vm.findClass "com/example/strandcast/strandcast/query/Interval" = some m.cls := findClass_of_methodNamed Bd.named
  have hnm := (name_of_methodNamed Bd.named Bd.method).1
  have X0 : Stand p l e ({ frames := 3, cells := 2, slots := 5, locals := 40 } : Room) s m #[(.ref a1)] below meth c s₁ [] 0 0 := Stand.of_body Bd
  have e0 : s₁.heap = h0 := by rw [← hh, Bd.state]; rfl
  have N0 := Fr.nil n0
  show own_Go p e below s (Q_pt Z h0 n0) ({ frames := 3, cells := 2, slots := 5, locals := 40 } : Room).cells ({ frames := 3, cells := 2, slots := 5, locals := 40 } : Room).slots s₁ (entryFrame m #[(.ref a1)] 2)
  refine own_cast (g' := (mkF m 0 #[.val (.ref a1), .unset] [])) (ef_rm_pt m a1) ?_
  have K0 : Keep h0 h0 [] := Keep.refl _ _
  obtain ⟨T1, h1, X1, e1, E1, A1, D1, -, st1⟩ := newO X0 hx hZ hown (hw _ (List.mem_of_getElem? (i := 61) rfl)) (hw _ (List.mem_of_getElem? (i := 8) rfl)) (hw _ (List.mem_of_getElem? (i := 9) rfl)) e0 (g := (mkF m 0 #[.val (.ref a1), .unset] [])) rfl (hb hby d9_0) (by decide : 0 + 1 ≤ _) (by decide : 0 + 2 ≤ _)
  obtain ⟨ad1, g_ad1⟩ : ∃ z, z = h0.size := ⟨_, rfl⟩
  rw [← g_ad1] at A1 D1 st1
  have o1 : n0 ≤ ad1 := (Nat.le_trans Z0 (Nat.le_of_eq g_ad1.symm))
  have Z1 : n0 ≤ h1.size := (Nat.le_trans Z0 E1.1)
  have f1 : h0.size ≤ ad1 := by rw [g_ad1]; exact K0.1
  have K2 : Keep h0 h1 [] := K0.ext E1
  have g3 : Fld Z h1 ad1 "com/example/strandcast/strandcast/query/Interval$Bound" "value" "Ljava/lang/Object;" .null := D1 (Or.inr (hw _ (List.mem_of_getElem? (i := 22) rfl))) (ty := .object "java/lang/Object") (by decide)
  have g4 : Fld Z h1 ad1 "com/example/strandcast/strandcast/query/Interval$Bound" "inclusive" "Z" (.int (0 : Int32)) := D1 (Or.inr (hw _ (List.mem_of_getElem? (i := 24) rfl))) (ty := .boolean) (by decide)
  refine own_step (T' := T1) (g' := (mkF m 3 #[.val (.ref a1), .unset] [(.ref ad1)])) st1 ?_
  refine own_step (T' := T1) (g' := (mkF m 4 #[.val (.ref a1), .unset] [(.ref ad1), (.ref ad1)])) (fun t k => XS.dup X1.here hx rfl (hb hby d9_3) rfl rfl k) ?_
  refine own_step (T' := T1) (g' := (mkF m 5 #[.val (.ref a1), .unset] [(.ref a1), (.ref ad1), (.ref ad1)])) (fun t k => XS.aloadN X1.here hx rfl (hb hby d9_4) rfl rfl k) ?_
  refine own_step (T' := T1) (g' := (mkF m 6 #[.val (.ref a1), .unset] [(.int (1 : Int32)), (.ref a1), (.ref ad1), (.ref ad1)])) (fun t k => XS.iconst X1.here hx rfl (hb hby d9_5) k) ?_
  obtain ⟨_, _, ⟨T9, L9, k9, n9⟩, -, X9, ⟨Lc9, hQ9, lq9, yq9, zq9⟩, st9⟩ := X1.specialBack hx (y := (⟨"com/example/strandcast/strandcast/query/Interval$Bound", "<init>", "(Ljava/lang/Object;Z)V"⟩ : MethodName)) rfl hown (mvT hZ (hw _ (List.mem_of_getElem? (i := 62) rfl))) (mvT hZ (hw _ (List.mem_of_getElem? (i := 11) rfl))) (mvT hZ (hw _ (List.mem_of_getElem? (i := 12) rfl))) (by decide) (backOf (W := 1) (rm_binit l Z a0 hw [] ad1 a1 (1 : Int32) _ _ h1 n0 Z1 A1 g3 g4 o1 (Or.inr rfl)) hZ (hw _ (List.mem_of_getElem? (i := 12) rfl)) (hw _ (List.mem_of_getElem? (i := 9) rfl)) (by decide) (by decide)) (g := (mkF m 6 #[.val (.ref a1), .unset] [(.int (1 : Int32)), (.ref a1), (.ref ad1), (.ref ad1)])) rfl (by rw [hml]; rfl) (Steps.refl _) (a := ad1) (argsL := [(.ref a1), (.int (1 : Int32))]) (rest := [(.ref ad1)]) (lenOf pd_2 rfl) rfl (by show 2 * 0 + _ ≤ _; exact Nat.le_of_eq rfl) (hb hby d9_6) (fun _ _ => ⟨rfl, e1, (by decide : 1 + 0 ≤ _), (by decide : 2 + 0 ≤ _)⟩)
  dsimp only [Pt.U, Pt.locs, Pt.cells, Pt.slots] at X9 lq9 yq9 zq9 st9 hQ9
  subst lq9 yq9 zq9
  obtain ⟨rfl, Nq9, K5, g6, g7, g8⟩ := hQ9
  have N9 := Fr.app N0 Nq9
  have Z5 : n0 ≤ T9.heap.size := (Nat.le_trans Z1 K5.1)
  have K10 : Keep h0 T9.heap [] := K2.trans K5 (allS (P := fun x => x ∈ [] ∨ h0.size ≤ x) (Or.inr f1) all0)
  refine own_tr (T' := T9) (g' := (mkF m 9 #[.val (.ref a1), .unset] [(.ref ad1)])) st9 ?_
  refine own_step (T' := T9) (g' := (mkF m 10 #[.val (.ref a1), .val (.ref ad1)] [])) (fun t k => XS.astoreN X9.here hx rfl (hb hby d9_9) rfl rfl (l' := #[.val (.ref a1), .val (.ref ad1)]) rfl k) ?_
  obtain ⟨T11, h11, X11, e11, E11, A11, D11, -, st11⟩ := newO X9 hx hZ hown (hw _ (List.mem_of_getElem? (i := 63) rfl)) (hw _ (List.mem_of_getElem? (i := 26) rfl)) (hw _ (List.mem_of_getElem? (i := 27) rfl)) rfl (g := (mkF m 10 #[.val (.ref a1), .val (.ref ad1)] [])) rfl (hb hby d9_10) (by decide : 1 + 1 ≤ _) (by decide : 2 + 3 ≤ _)
  obtain ⟨ad11, g_ad11⟩ : ∃ z, z = T9.heap.size := ⟨_, rfl⟩
  rw [← g_ad11] at A11 D11 st11
  have g12 : Exa Z h11 ad1 "com/example/strandcast/strandcast/query/Interval$Bound" := g6.ext E11
  have g13 : Fld Z h11 ad1 "com/example/strandcast/strandcast/query/Interval$Bound" "value" "Ljava/lang/Object;" (.ref a1) := g7.ext E11
  have g14 : Fld Z h11 ad1 "com/example/strandcast/strandcast/query/Interval$Bound" "inclusive" "Z" (.int (1 : Int32)) := g8.ext E11
  have ne11_1 : ad1 ≠ ad11 := Nat.ne_of_lt (by rw [g_ad11]; exact g6.lt)
  have o11 : n0 ≤ ad11 := (Nat.le_trans Z5 (Nat.le_of_eq g_ad11.symm))
  have Z11 : n0 ≤ h11.size := (Nat.le_trans Z5 E11.1)
  have f11 : h0.size ≤ ad11 := by rw [g_ad11]; exact K10.1
  have K15 : Keep h0 h11 [] := K10.ext E11
  have g16 : Fld Z h11 ad11 "com/example/strandcast/strandcast/query/Interval" "kind" "Ljava/lang/Object;" .null := D11 (Or.inr (hw _ (List.mem_of_getElem? (i := 33) rfl))) (ty := .object "java/lang/Object") (by decide)
  have g17 : Fld Z h11 ad11 "com/example/strandcast/strandcast/query/Interval" "lower" "Lcom/example/strandcast/strandcast/query/Interval$Bound;" .null := D11 (Or.inr (hw _ (List.mem_of_getElem? (i := 35) rfl))) (ty := .object "com/example/strandcast/strandcast/query/Interval$Bound") (by decide)
  have g18 : Fld Z h11 ad11 "com/example/strandcast/strandcast/query/Interval" "upper" "Lcom/example/strandcast/strandcast/query/Interval$Bound;" .null := D11 (Or.inr (hw _ (List.mem_of_getElem? (i := 37) rfl))) (ty := .object "com/example/strandcast/strandcast/query/Interval$Bound") (by decide)
  refine own_step (T' := T11) (g' := (mkF m 13 #[.val (.ref a1), .val (.ref ad1)] [(.ref ad11)])) st11 ?_
  refine own_step (T' := T11) (g' := (mkF m 14 #[.val (.ref a1), .val (.ref ad1)] [(.ref ad11), (.ref ad11)])) (fun t k => XS.dup X11.here hx rfl (hb hby d9_13) rfl rfl k) ?_
  refine own_step (T' := T11) (g' := (mkF m 15 #[.val (.ref a1), .val (.ref ad1)] [(.ref a1), (.ref ad11), (.ref ad11)])) (fun t k => XS.aloadN X11.here hx rfl (hb hby d9_14) rfl rfl k) ?_
  refine own_step (T' := T11) (g' := (mkF m 16 #[.val (.ref a1), .val (.ref ad1)] [(.ref ad1), (.ref a1), (.ref ad11), (.ref ad11)])) (fun t k => XS.aloadN X11.here hx rfl (hb hby d9_15) rfl rfl k) ?_
  refine own_step (T' := T11) (g' := (mkF m 17 #[.val (.ref a1), .val (.ref ad1)] [(.ref ad1), (.ref ad1), (.ref a1), (.ref ad11), (.ref ad11)])) (fun t k => XS.aloadN X11.here hx rfl (hb hby d9_16) rfl rfl k) ?_
  obtain ⟨_, _, ⟨T24, L24, k24, n24⟩, -, X24, ⟨Lc24, hQ24, lq24, yq24, zq24⟩, st24⟩ := X11.specialBack hx (y := (⟨"com/example/strandcast/strandcast/query/Interval", "<init>", "(Ljava/lang/Object;Lcom/example/strandcast/strandcast/query/Interval$Bound;Lcom/example/strandcast/strandcast/query/Interval$Bound;)V"⟩ : MethodName)) rfl hown (mvT hZ (hw _ (List.mem_of_getElem? (i := 64) rfl))) (mvT hZ (hw _ (List.mem_of_getElem? (i := 29) rfl))) (mvT hZ (hw _ (List.mem_of_getElem? (i := 30) rfl))) (by decide) (backOf (W := 1) (rm_ninit_ref_ref l Z a0 hw [] ad11 a1 ad1 ad1 _ _ _ h11 n0 Z11 A11 g16 g17 g18 o11) hZ (hw _ (List.mem_of_getElem? (i := 30) rfl)) (hw _ (List.mem_of_getElem? (i := 27) rfl)) (by decide) (by decide)) (g := (mkF m 17 #[.val (.ref a1), .val (.ref ad1)] [(.ref ad1), (.ref ad1), (.ref a1), (.ref ad11), (.ref ad11)])) rfl (by rw [hml]; rfl) (Steps.refl _) (a := ad11) (argsL := [(.ref a1), (.ref ad1), (.ref ad1)]) (rest := [(.ref ad11)]) (lenOf pd_3 rfl) rfl (by show 2 * 0 + _ ≤ _; exact Nat.le_of_eq rfl) (hb hby d9_17) (fun _ _ => ⟨rfl, e11, (by decide : 2 + 0 ≤ _), (by decide : 5 + 0 ≤ _)⟩)
  dsimp only [Pt.U, Pt.locs, Pt.cells, Pt.slots] at X24 lq24 yq24 zq24 st24 hQ24
  subst lq24 yq24 zq24
  obtain ⟨rfl, Nq24, K19, g20, g21, g22, g23⟩ := hQ24
  have N24 := Fr.app N9 Nq24
  have g25 : Exa Z T24.heap ad1 "com/example/strandcast/strandcast/query/Interval$Bound" := g12.keep K19
  have g26 : Fld Z T24.heap ad1 "com/example/strandcast/strandcast/query/Interval$Bound" "value" "Ljava/lang/Object;" (.ref a1) := g13.keep K19 (ninS ne11_1 nin0)
  have g27 : Fld Z T24.heap ad1 "com/example/strandcast/strandcast/query/Interval$Bound" "inclusive" "Z" (.int (1 : Int32)) := g14.keep K19 (ninS ne11_1 nin0)
  have Z19 : n0 ≤ T24.heap.size := (Nat.le_trans Z11 K19.1)
  have K28 : Keep h0 T24.heap [] := K15.trans K19 (allS (P := fun x => x ∈ [] ∨ h0.size ≤ x) (Or.inr f11) all0)
  refine own_tr (T' := T24) (g' := (mkF m 20 #[.val (.ref a1), .val (.ref ad1)] [(.ref ad11)])) st24 ?_
  refine own_rA X24 hx hlk Bd.returns rfl (w := (.ref ad11)) rfl (hb hby d9_20) ?_ (by decide) (by decide)
  exact ⟨ad11, ad1, rfl, N24, K28, f11, g20, g22, g23⟩
def Q_law (n0 : Nat) (v : Option Value) (h : Heap) (L : List Loc) : Prop := v = some (.int 1) ∧ Fr n0 L
theorem ef_rm_law (m : MethodId) (x0 : Int32) (x1 : Int32) (x2 : Int32) : entryFrame m #[(.int x0), (.int x1), (.int x2)] maxLocals = mkF m 0 #[.val (.int x0), .val (.int x1), .val (.int x2), .unset, .unset, .unset, .unset, .unset, .unset, .unset, .unset, .unset, .unset, .unset, .unset] [] := by first | (simp [entryFrame, mkF, argsToLocals, Value.category, maxLocals]; done) | rfl | (simp [entryFrame, mkF, argsToLocals, Value.category, maxLocals] <;> rfl)
theorem pn_5 : plainName "com/example/strandcast/strandcast/query/IntervalIsPointPinLaw" = true := by first | (simp [plainName, overriddenIn]; done) | decide +kernel
theorem pd_4 : parseMethodDescriptor "(I)Ljava/lang/Integer;" = some ⟨[.int], some (.object "java/lang/Integer")⟩ := by decide +kernel
theorem pd_5 : parseMethodDescriptor "(Ljava/lang/Object;)Lcom/example/strandcast/strandcast/query/Interval;" = some ⟨[.object "java/lang/Object"], some (.object "com/example/strandcast/strandcast/query/Interval")⟩ := by decide +kernel
theorem pd_6 : parseMethodDescriptor "()Z" = some ⟨[], some (.boolean)⟩ := by decide +kernel
set_option maxRecDepth 65536 in
set_option maxHeartbeats 40000000 in
theorem rm_law (l : Launch) (Z : State) (a0 : Array Value) (hw : ∀ d ∈ tables_1, d.before a0 Z = true) (ws : List Jvm.Cond) (p0 : Int32) (p1 : Int32) (p2 : Int32) (ca : Addr) (cc : Cell) (h0 : Heap) (n0 : Nat) (Z0 : n0 ≤ h0.size) (O0 : Old Z n0 h0) (S_h : Sta Z Z.heap "java/lang/Integer$IntegerCache" "high" "I" (.int (127 : Int32))) (S_c : Sta Z Z.heap "java/lang/Integer$IntegerCache" "cache" "[Ljava/lang/Integer;" (.ref ca)) (A_c : Arr Z Z.heap ca cc (.object "java/lang/Integer")) (H_c : cc.slots.size = 256 ∧ ∀ i, i < 256 → ∃ r, cc.slots[i]? = some (.ref r)) :
    MetFree l x (head1 (Jvm.Cond.code x code maxLocals ret :: ws) room_1) (fun a U => a = #[(.int p0), (.int p1), (.int p2)] ∧ Z.Warmed39 U.vm ∧ U.heap = h0) (fun _ _ _ _ _ => True) (fun _ U o U' => ∃ v L, o = .returned v ∧ (Q_law n0) v U'.heap L ∧ FrameEnd U o U' L 24 128) := by
  refine MetFree.of_bodySF (plainFor_of_name pn_5) hisR ?_
  intro p e s m args below meth c s₁ Bd hml0 hP hK
  obtain ⟨rfl, hZ, hh⟩ := hP
  have hx := Bd.exec
  have hby := Bd.bytes
  have hlk : meth.locks = false := BodyLoose.notSynchronized Bd
  have hml : c.maxLocals = 15 := hml0
  have hown : s.vm.findClass "com/example/strandcast/strandcast/query/IntervalIsPointPinLaw" = some m.cls := findClass_of_methodNamed Bd.named
  have hnm := (name_of_methodNamed Bd.named Bd.method).1
  have X0 : Stand p l e room_1 s m #[(.int p0), (.int p1), (.int p2)] below meth c s₁ [] 0 0 := Stand.of_body Bd
  have e0 : s₁.heap = h0 := by rw [← hh, Bd.state]; rfl
  have N0 := Fr.nil n0
  show own_Go p e below s (Q_law n0) 24 128 s₁ (entryFrame m #[(.int p0), (.int p1), (.int p2)] maxLocals)
  refine own_cast (g' := (mkF m 0 #[.val (.int p0), .val (.int p1), .val (.int p2), .unset, .unset, .unset, .unset, .unset, .unset, .unset, .unset, .unset, .unset, .unset, .unset] [])) (ef_rm_law m p0 p1 p2) ?_
  refine own_step (T' := s₁) (g' := (mkF m 1 #[.val (.int p0), .val (.int p1), .val (.int p2), .unset, .unset, .unset, .unset, .unset, .unset, .unset, .unset, .unset, .unset, .unset, .unset] [(.int p0)])) (fun t k => XS.iloadN X0.here hx rfl (hb hby at_0) rfl k) ?_
  obtain ⟨_, _, ⟨T3, L3, k3, n3⟩, -, X3, ⟨Lc3, hQ3, lq3, yq3, zq3⟩, st3⟩ := Jvm.LawKit.callS X0 hx (y := (⟨"java/lang/Integer", "valueOf", "(I)Ljava/lang/Integer;"⟩ : MethodName)) hown (mvT hZ (hw _ (List.mem_of_getElem? (i := 0) rfl))) (mvT hZ (hw _ (List.mem_of_getElem? (i := 1) rfl))) (mvT hZ (hw _ (List.mem_of_getElem? (i := 2) rfl))) (mvT hZ (hw _ (List.mem_of_getElem? (i := 3) rfl))) (by decide) (backOf (W := 0) (rm_vo l Z a0 hw [] p0 ca cc h0 n0 Z0 O0 S_h S_c A_c H_c) hZ (hw _ (List.mem_of_getElem? (i := 3) rfl)) (hw _ (List.mem_of_getElem? (i := 2) rfl)) (by decide) (by decide)) (g := (mkF m 1 #[.val (.int p0), .val (.int p1), .val (.int p2), .unset, .unset, .unset, .unset, .unset, .unset, .unset, .unset, .unset, .unset, .unset, .unset] [(.int p0)])) rfl (by rw [hml]; rfl) (argsL := [(.int p0)]) (rest := []) (lenOf pd_4 rfl) rfl (by show 2 * 0 + _ ≤ _; exact Nat.le_of_eq rfl) (hb hby at_1) (fun _ _ => ⟨rfl, e0, (by decide : 0 + 1 ≤ _), (by decide : 0 + 1 ≤ _)⟩)
  dsimp only [Pt.U, Pt.locs, Pt.cells, Pt.slots] at X3 lq3 yq3 zq3 st3 hQ3
  subst lq3 yq3 zq3
  obtain ⟨r1, rfl, Nq3, K2⟩ := hQ3
  have N3 := Fr.app N0 Nq3
  have Z2 : n0 ≤ T3.heap.size := (Nat.le_trans Z0 K2.1)
  have O2 : Old Z n0 T3.heap := O0.keep K2 (all0 (P := fun x => n0 ≤ x))
  refine own_step (T' := T3) (g' := (mkF m 4 #[.val (.int p0), .val (.int p1), .val (.int p2), .unset, .unset, .unset, .unset, .unset, .unset, .unset, .unset, .unset, .unset, .unset, .unset] [(.ref r1)])) st3 ?_
  refine own_step (T' := T3) (g' := (mkF m 5 #[.val (.int p0), .val (.int p1), .val (.int p2), .val (.ref r1), .unset, .unset, .unset, .unset, .unset, .unset, .unset, .unset, .unset, .unset, .unset] [])) (fun t k => XS.astoreN X3.here hx rfl (hb hby at_4) rfl rfl (l' := #[.val (.int p0), .val (.int p1), .val (.int p2), .val (.ref r1), .unset, .unset, .unset, .unset, .unset, .unset, .unset, .unset, .unset, .unset, .unset]) rfl k) ?_
  refine own_step (T' := T3) (g' := (mkF m 6 #[.val (.int p0), .val (.int p1), .val (.int p2), .val (.ref r1), .unset, .unset, .unset, .unset, .unset, .unset, .unset, .unset, .unset, .unset, .unset] [(.int p1)])) (fun t k => XS.iloadN X3.here hx rfl (hb hby at_5) rfl k) ?_
  obtain ⟨_, _, ⟨T6, L6, k6, n6⟩, -, X6, ⟨Lc6, hQ6, lq6, yq6, zq6⟩, st6⟩ := Jvm.LawKit.callS X3 hx (y := (⟨"java/lang/Integer", "valueOf", "(I)Ljava/lang/Integer;"⟩ : MethodName)) hown (mvT hZ (hw _ (List.mem_of_getElem? (i := 0) rfl))) (mvT hZ (hw _ (List.mem_of_getElem? (i := 1) rfl))) (mvT hZ (hw _ (List.mem_of_getElem? (i := 2) rfl))) (mvT hZ (hw _ (List.mem_of_getElem? (i := 3) rfl))) (by decide) (backOf (W := 0) (rm_vo l Z a0 hw [] p1 ca cc T3.heap n0 Z2 O2 S_h S_c A_c H_c) hZ (hw _ (List.mem_of_getElem? (i := 3) rfl)) (hw _ (List.mem_of_getElem? (i := 2) rfl)) (by decide) (by decide)) (g := (mkF m 6 #[.val (.int p0), .val (.int p1), .val (.int p2), .val (.ref r1), .unset, .unset, .unset, .unset, .unset, .unset, .unset, .unset, .unset, .unset, .unset] [(.int p1)])) rfl (by rw [hml]; rfl) (argsL := [(.int p1)]) (rest := []) (lenOf pd_4 rfl) rfl (by show 2 * 0 + _ ≤ _; exact Nat.le_of_eq rfl) (hb hby at_6) (fun _ _ => ⟨rfl, rfl, (by decide : 1 + 1 ≤ _), (by decide : 1 + 1 ≤ _)⟩)
  dsimp only [Pt.U, Pt.locs, Pt.cells, Pt.slots] at X6 lq6 yq6 zq6 st6 hQ6
  subst lq6 yq6 zq6
  obtain ⟨r4, rfl, Nq6, K5⟩ := hQ6
  have N6 := Fr.app N3 Nq6
  have Z5 : n0 ≤ T6.heap.size := (Nat.le_trans Z2 K5.1)
  have O5 : Old Z n0 T6.heap := O2.keep K5 (all0 (P := fun x => n0 ≤ x))
  refine own_step (T' := T6) (g' := (mkF m 9 #[.val (.int p0), .val (.int p1), .val (.int p2), .val (.ref r1), .unset, .unset, .unset, .unset, .unset, .unset, .unset, .unset, .unset, .unset, .unset] [(.ref r4)])) st6 ?_
  refine own_step (T' := T6) (g' := (mkF m 11 #[.val (.int p0), .val (.int p1), .val (.int p2), .val (.ref r1), .val (.ref r4), .unset, .unset, .unset, .unset, .unset, .unset, .unset, .unset, .unset, .unset] [])) (fun t k => XS.astore X6.here hx rfl (hb hby at_9) rfl rfl (l' := #[.val (.int p0), .val (.int p1), .val (.int p2), .val (.ref r1), .val (.ref r4), .unset, .unset, .unset, .unset, .unset, .unset, .unset, .unset, .unset, .unset]) rfl k) ?_
  refine own_step (T' := T6) (g' := (mkF m 12 #[.val (.int p0), .val (.int p1), .val (.int p2), .val (.ref r1), .val (.ref r4), .unset, .unset, .unset, .unset, .unset, .unset, .unset, .unset, .unset, .unset] [(.int p2)])) (fun t k => XS.iloadN X6.here hx rfl (hb hby at_11) rfl k) ?_
  refine own_step (T' := T6) (g' := (mkF m 13 #[.val (.int p0), .val (.int p1), .val (.int p2), .val (.ref r1), .val (.ref r4), .unset, .unset, .unset, .unset, .unset, .unset, .unset, .unset, .unset, .unset] [(.int (1 : Int32)), (.int p2)])) (fun t k => XS.iconst X6.here hx rfl (hb hby at_12) k) ?_
  refine own_step (T' := T6) (g' := (mkF m 14 #[.val (.int p0), .val (.int p1), .val (.int p2), .val (.ref r1), .val (.ref r4), .unset, .unset, .unset, .unset, .unset, .unset, .unset, .unset, .unset, .unset] [(.int (p2 &&& (1 : Int32)))])) (fun t k => XS.iand X6.here hx rfl (hb hby at_13) rfl k) ?_
  have j22 : ∀ (bL : Int32), (bL = 0 ∨ bL = 1) → own_Go p e below s (Q_law n0) 24 128 T6 (mkF m 22 #[.val (.int p0), .val (.int p1), .val (.int p2), .val (.ref r1), .val (.ref r4), .unset, .unset, .unset, .unset, .unset, .unset, .unset, .unset, .unset, .unset] [(.int bL)]) := by
    intro bL hbL
    refine own_step (T' := T6) (g' := (mkF m 24 #[.val (.int p0), .val (.int p1), .val (.int p2), .val (.ref r1), .val (.ref r4), .val (.int bL), .unset, .unset, .unset, .unset, .unset, .unset, .unset, .unset, .unset] [])) (fun t k => XS.istore X6.here hx rfl (hb hby at_22) rfl (l' := #[.val (.int p0), .val (.int p1), .val (.int p2), .val (.ref r1), .val (.ref r4), .val (.int bL), .unset, .unset, .unset, .unset, .unset, .unset, .unset, .unset, .unset]) rfl k) ?_
    refine own_step (T' := T6) (g' := (mkF m 25 #[.val (.int p0), .val (.int p1), .val (.int p2), .val (.ref r1), .val (.ref r4), .val (.int bL), .unset, .unset, .unset, .unset, .unset, .unset, .unset, .unset, .unset] [(.int p0)])) (fun t k => XS.iloadN X6.here hx rfl (hb hby at_24) rfl k) ?_
    refine own_step (T' := T6) (g' := (mkF m 26 #[.val (.int p0), .val (.int p1), .val (.int p2), .val (.ref r1), .val (.ref r4), .val (.int bL), .unset, .unset, .unset, .unset, .unset, .unset, .unset, .unset, .unset] [(.int p1), (.int p0)])) (fun t k => XS.iloadN X6.here hx rfl (hb hby at_25) rfl k) ?_
    have j53 : ∀ (bU : Int32), (bU = 0 ∨ bU = 1) → own_Go p e below s (Q_law n0) 24 128 T6 (mkF m 53 #[.val (.int p0), .val (.int p1), .val (.int p2), .val (.ref r1), .val (.ref r4), .val (.int bL), .unset, .unset, .unset, .unset, .unset, .unset, .unset, .unset, .unset] [(.int bU)]) := by
      intro bU hbU
      refine own_step (T' := T6) (g' := (mkF m 55 #[.val (.int p0), .val (.int p1), .val (.int p2), .val (.ref r1), .val (.ref r4), .val (.int bL), .val (.int bU), .unset, .unset, .unset, .unset, .unset, .unset, .unset, .unset] [])) (fun t k => XS.istore X6.here hx rfl (hb hby at_53) rfl (l' := #[.val (.int p0), .val (.int p1), .val (.int p2), .val (.ref r1), .val (.ref r4), .val (.int bL), .val (.int bU), .unset, .unset, .unset, .unset, .unset, .unset, .unset, .unset]) rfl k) ?_
      obtain ⟨T7, h7, X7, e7, E7, A7, D7, -, st7⟩ := newO X6 hx hZ hown (hw _ (List.mem_of_getElem? (i := 7) rfl)) (hw _ (List.mem_of_getElem? (i := 8) rfl)) (hw _ (List.mem_of_getElem? (i := 9) rfl)) rfl (g := (mkF m 55 #[.val (.int p0), .val (.int p1), .val (.int p2), .val (.ref r1), .val (.ref r4), .val (.int bL), .val (.int bU), .unset, .unset, .unset, .unset, .unset, .unset, .unset, .unset] [])) rfl (hb hby at_55) (by decide : 2 + 1 ≤ _) (by decide : 2 + 2 ≤ _)
      obtain ⟨ad7, g_ad7⟩ : ∃ z, z = T6.heap.size := ⟨_, rfl⟩
      rw [← g_ad7] at A7 D7 st7
      have o7 : n0 ≤ ad7 := (Nat.le_trans Z5 (Nat.le_of_eq g_ad7.symm))
      have Z7 : n0 ≤ h7.size := (Nat.le_trans Z5 E7.1)
      have O7 : Old Z n0 h7 := O5.ext E7
      have g8 : Fld Z h7 ad7 "com/example/strandcast/strandcast/query/Interval$Bound" "value" "Ljava/lang/Object;" .null := D7 (Or.inr (hw _ (List.mem_of_getElem? (i := 22) rfl))) (ty := .object "java/lang/Object") (by decide)
      have g9 : Fld Z h7 ad7 "com/example/strandcast/strandcast/query/Interval$Bound" "inclusive" "Z" (.int (0 : Int32)) := D7 (Or.inr (hw _ (List.mem_of_getElem? (i := 24) rfl))) (ty := .boolean) (by decide)
      refine own_step (T' := T7) (g' := (mkF m 58 #[.val (.int p0), .val (.int p1), .val (.int p2), .val (.ref r1), .val (.ref r4), .val (.int bL), .val (.int bU), .unset, .unset, .unset, .unset, .unset, .unset, .unset, .unset] [(.ref ad7)])) st7 ?_
      refine own_step (T' := T7) (g' := (mkF m 59 #[.val (.int p0), .val (.int p1), .val (.int p2), .val (.ref r1), .val (.ref r4), .val (.int bL), .val (.int bU), .unset, .unset, .unset, .unset, .unset, .unset, .unset, .unset] [(.ref ad7), (.ref ad7)])) (fun t k => XS.dup X7.here hx rfl (hb hby at_58) rfl rfl k) ?_
      refine own_step (T' := T7) (g' := (mkF m 60 #[.val (.int p0), .val (.int p1), .val (.int p2), .val (.ref r1), .val (.ref r4), .val (.int bL), .val (.int bU), .unset, .unset, .unset, .unset, .unset, .unset, .unset, .unset] [(.ref r1), (.ref ad7), (.ref ad7)])) (fun t k => XS.aloadN X7.here hx rfl (hb hby at_59) rfl rfl k) ?_
      refine own_step (T' := T7) (g' := (mkF m 62 #[.val (.int p0), .val (.int p1), .val (.int p2), .val (.ref r1), .val (.ref r4), .val (.int bL), .val (.int bU), .unset, .unset, .unset, .unset, .unset, .unset, .unset, .unset] [(.int bL), (.ref r1), (.ref ad7), (.ref ad7)])) (fun t k => XS.iload X7.here hx rfl (hb hby at_60) rfl k) ?_
      obtain ⟨_, _, ⟨T14, L14, k14, n14⟩, -, X14, ⟨Lc14, hQ14, lq14, yq14, zq14⟩, st14⟩ := X7.specialBack hx (y := (⟨"com/example/strandcast/strandcast/query/Interval$Bound", "<init>", "(Ljava/lang/Object;Z)V"⟩ : MethodName)) rfl hown (mvT hZ (hw _ (List.mem_of_getElem? (i := 10) rfl))) (mvT hZ (hw _ (List.mem_of_getElem? (i := 11) rfl))) (mvT hZ (hw _ (List.mem_of_getElem? (i := 12) rfl))) (by decide) (backOf (W := 1) (rm_binit l Z a0 hw [] ad7 r1 bL _ _ h7 n0 Z7 A7 g8 g9 o7 hbL) hZ (hw _ (List.mem_of_getElem? (i := 12) rfl)) (hw _ (List.mem_of_getElem? (i := 9) rfl)) (by decide) (by decide)) (g := (mkF m 62 #[.val (.int p0), .val (.int p1), .val (.int p2), .val (.ref r1), .val (.ref r4), .val (.int bL), .val (.int bU), .unset, .unset, .unset, .unset, .unset, .unset, .unset, .unset] [(.int bL), (.ref r1), (.ref ad7), (.ref ad7)])) rfl (by rw [hml]; rfl) (Steps.refl _) (a := ad7) (argsL := [(.ref r1), (.int bL)]) (rest := [(.ref ad7)]) (lenOf pd_2 rfl) rfl (by show 2 * 0 + _ ≤ _; exact Nat.le_of_eq rfl) (hb hby at_62) (fun _ _ => ⟨rfl, e7, (by decide : 3 + 0 ≤ _), (by decide : 4 + 0 ≤ _)⟩)
      dsimp only [Pt.U, Pt.locs, Pt.cells, Pt.slots] at X14 lq14 yq14 zq14 st14 hQ14
      subst lq14 yq14 zq14
      obtain ⟨rfl, Nq14, K10, g11, g12, g13⟩ := hQ14
      have N14 := Fr.app N6 Nq14
      have Z10 : n0 ≤ T14.heap.size := (Nat.le_trans Z7 K10.1)
      have O10 : Old Z n0 T14.heap := O7.keep K10 (allS (P := fun x => n0 ≤ x) o7 all0)
      refine own_tr (T' := T14) (g' := (mkF m 65 #[.val (.int p0), .val (.int p1), .val (.int p2), .val (.ref r1), .val (.ref r4), .val (.int bL), .val (.int bU), .unset, .unset, .unset, .unset, .unset, .unset, .unset, .unset] [(.ref ad7)])) st14 ?_
      refine own_step (T' := T14) (g' := (mkF m 67 #[.val (.int p0), .val (.int p1), .val (.int p2), .val (.ref r1), .val (.ref r4), .val (.int bL), .val (.int bU), .val (.ref ad7), .unset, .unset, .unset, .unset, .unset, .unset, .unset] [])) (fun t k => XS.astore X14.here hx rfl (hb hby at_65) rfl rfl (l' := #[.val (.int p0), .val (.int p1), .val (.int p2), .val (.ref r1), .val (.ref r4), .val (.int bL), .val (.int bU), .val (.ref ad7), .unset, .unset, .unset, .unset, .unset, .unset, .unset]) rfl k) ?_
      obtain ⟨T15, h15, X15, e15, E15, A15, D15, -, st15⟩ := newO X14 hx hZ hown (hw _ (List.mem_of_getElem? (i := 7) rfl)) (hw _ (List.mem_of_getElem? (i := 8) rfl)) (hw _ (List.mem_of_getElem? (i := 9) rfl)) rfl (g := (mkF m 67 #[.val (.int p0), .val (.int p1), .val (.int p2), .val (.ref r1), .val (.ref r4), .val (.int bL), .val (.int bU), .val (.ref ad7), .unset, .unset, .unset, .unset, .unset, .unset, .unset] [])) rfl (hb hby at_67) (by decide : 3 + 1 ≤ _) (by decide : 4 + 2 ≤ _)
      obtain ⟨ad15, g_ad15⟩ : ∃ z, z = T14.heap.size := ⟨_, rfl⟩
      rw [← g_ad15] at A15 D15 st15
      have g16 : Exa Z h15 ad7 "com/example/strandcast/strandcast/query/Interval$Bound" := g11.ext E15
      have g17 : Fld Z h15 ad7 "com/example/strandcast/strandcast/query/Interval$Bound" "value" "Ljava/lang/Object;" (.ref r1) := g12.ext E15
      have g18 : Fld Z h15 ad7 "com/example/strandcast/strandcast/query/Interval$Bound" "inclusive" "Z" (.int bL) := g13.ext E15
      have ne15_1 : ad7 ≠ ad15 := Nat.ne_of_lt (by rw [g_ad15]; exact g11.lt)
      have o15 : n0 ≤ ad15 := (Nat.le_trans Z10 (Nat.le_of_eq g_ad15.symm))
      have Z15 : n0 ≤ h15.size := (Nat.le_trans Z10 E15.1)
      have O15 : Old Z n0 h15 := O10.ext E15
      have g19 : Fld Z h15 ad15 "com/example/strandcast/strandcast/query/Interval$Bound" "value" "Ljava/lang/Object;" .null := D15 (Or.inr (hw _ (List.mem_of_getElem? (i := 22) rfl))) (ty := .object "java/lang/Object") (by decide)
      have g20 : Fld Z h15 ad15 "com/example/strandcast/strandcast/query/Interval$Bound" "inclusive" "Z" (.int (0 : Int32)) := D15 (Or.inr (hw _ (List.mem_of_getElem? (i := 24) rfl))) (ty := .boolean) (by decide)
      refine own_step (T' := T15) (g' := (mkF m 70 #[.val (.int p0), .val (.int p1), .val (.int p2), .val (.ref r1), .val (.ref r4), .val (.int bL), .val (.int bU), .val (.ref ad7), .unset, .unset, .unset, .unset, .unset, .unset, .unset] [(.ref ad15)])) st15 ?_
      refine own_step (T' := T15) (g' := (mkF m 71 #[.val (.int p0), .val (.int p1), .val (.int p2), .val (.ref r1), .val (.ref r4), .val (.int bL), .val (.int bU), .val (.ref ad7), .unset, .unset, .unset, .unset, .unset, .unset, .unset] [(.ref ad15), (.ref ad15)])) (fun t k => XS.dup X15.here hx rfl (hb hby at_70) rfl rfl k) ?_
      refine own_step (T' := T15) (g' := (mkF m 73 #[.val (.int p0), .val (.int p1), .val (.int p2), .val (.ref r1), .val (.ref r4), .val (.int bL), .val (.int bU), .val (.ref ad7), .unset, .unset, .unset, .unset, .unset, .unset, .unset] [(.ref r4), (.ref ad15), (.ref ad15)])) (fun t k => XS.aload X15.here hx rfl (hb hby at_71) rfl rfl k) ?_
      refine own_step (T' := T15) (g' := (mkF m 75 #[.val (.int p0), .val (.int p1), .val (.int p2), .val (.ref r1), .val (.ref r4), .val (.int bL), .val (.int bU), .val (.ref ad7), .unset, .unset, .unset, .unset, .unset, .unset, .unset] [(.int bU), (.ref r4), (.ref ad15), (.ref ad15)])) (fun t k => XS.iload X15.here hx rfl (hb hby at_73) rfl k) ?_
      obtain ⟨_, _, ⟨T25, L25, k25, n25⟩, -, X25, ⟨Lc25, hQ25, lq25, yq25, zq25⟩, st25⟩ := X15.specialBack hx (y := (⟨"com/example/strandcast/strandcast/query/Interval$Bound", "<init>", "(Ljava/lang/Object;Z)V"⟩ : MethodName)) rfl hown (mvT hZ (hw _ (List.mem_of_getElem? (i := 10) rfl))) (mvT hZ (hw _ (List.mem_of_getElem? (i := 11) rfl))) (mvT hZ (hw _ (List.mem_of_getElem? (i := 12) rfl))) (by decide) (backOf (W := 1) (rm_binit l Z a0 hw [] ad15 r4 bU _ _ h15 n0 Z15 A15 g19 g20 o15 hbU) hZ (hw _ (List.mem_of_getElem? (i := 12) rfl)) (hw _ (List.mem_of_getElem? (i := 9) rfl)) (by decide) (by decide)) (g := (mkF m 75 #[.val (.int p0), .val (.int p1), .val (.int p2), .val (.ref r1), .val (.ref r4), .val (.int bL), .val (.int bU), .val (.ref ad7), .unset, .unset, .unset, .unset, .unset, .unset, .unset] [(.int bU), (.ref r4), (.ref ad15), (.ref ad15)])) rfl (by rw [hml]; rfl) (Steps.refl _) (a := ad15) (argsL := [(.ref r4), (.int bU)]) (rest := [(.ref ad15)]) (lenOf pd_2 rfl) rfl (by show 2 * 0 + _ ≤ _; exact Nat.le_of_eq rfl) (hb hby at_75) (fun _ _ => ⟨rfl, e15, (by decide : 4 + 0 ≤ _), (by decide : 6 + 0 ≤ _)⟩)
      dsimp only [Pt.U, Pt.locs, Pt.cells, Pt.slots] at X25 lq25 yq25 zq25 st25 hQ25
      subst lq25 yq25 zq25
      obtain ⟨rfl, Nq25, K21, g22, g23, g24⟩ := hQ25
      have N25 := Fr.app N14 Nq25
      have g26 : Exa Z T25.heap ad7 "com/example/strandcast/strandcast/query/Interval$Bound" := g16.keep K21
      have g27 : Fld Z T25.heap ad7 "com/example/strandcast/strandcast/query/Interval$Bound" "value" "Ljava/lang/Object;" (.ref r1) := g17.keep K21 (ninS ne15_1 nin0)
      have g28 : Fld Z T25.heap ad7 "com/example/strandcast/strandcast/query/Interval$Bound" "inclusive" "Z" (.int bL) := g18.keep K21 (ninS ne15_1 nin0)
      have Z21 : n0 ≤ T25.heap.size := (Nat.le_trans Z15 K21.1)
      have O21 : Old Z n0 T25.heap := O15.keep K21 (allS (P := fun x => n0 ≤ x) o15 all0)
      refine own_tr (T' := T25) (g' := (mkF m 78 #[.val (.int p0), .val (.int p1), .val (.int p2), .val (.ref r1), .val (.ref r4), .val (.int bL), .val (.int bU), .val (.ref ad7), .unset, .unset, .unset, .unset, .unset, .unset, .unset] [(.ref ad15)])) st25 ?_
      refine own_step (T' := T25) (g' := (mkF m 80 #[.val (.int p0), .val (.int p1), .val (.int p2), .val (.ref r1), .val (.ref r4), .val (.int bL), .val (.int bU), .val (.ref ad7), .val (.ref ad15), .unset, .unset, .unset, .unset, .unset, .unset] [])) (fun t k => XS.astore X25.here hx rfl (hb hby at_78) rfl rfl (l' := #[.val (.int p0), .val (.int p1), .val (.int p2), .val (.ref r1), .val (.ref r4), .val (.int bL), .val (.int bU), .val (.ref ad7), .val (.ref ad15), .unset, .unset, .unset, .unset, .unset, .unset]) rfl k) ?_
      refine own_step (T' := T25) (g' := (mkF m 81 #[.val (.int p0), .val (.int p1), .val (.int p2), .val (.ref r1), .val (.ref r4), .val (.int bL), .val (.int bU), .val (.ref ad7), .val (.ref ad15), .unset, .unset, .unset, .unset, .unset, .unset] [(.int p2)])) (fun t k => XS.iloadN X25.here hx rfl (hb hby at_80) rfl k) ?_
      refine own_step (T' := T25) (g' := (mkF m 82 #[.val (.int p0), .val (.int p1), .val (.int p2), .val (.ref r1), .val (.ref r4), .val (.int bL), .val (.int bU), .val (.ref ad7), .val (.ref ad15), .unset, .unset, .unset, .unset, .unset, .unset] [(.int (4 : Int32)), (.int p2)])) (fun t k => XS.iconst X25.here hx rfl (hb hby at_81) k) ?_
      refine own_step (T' := T25) (g' := (mkF m 83 #[.val (.int p0), .val (.int p1), .val (.int p2), .val (.ref r1), .val (.ref r4), .val (.int bL), .val (.int bU), .val (.ref ad7), .val (.ref ad15), .unset, .unset, .unset, .unset, .unset, .unset] [(.int (p2 &&& (4 : Int32)))])) (fun t k => XS.iand X25.here hx rfl (hb hby at_82) rfl k) ?_
      have j91 : ∀ (bN : Int32), (bN = 0 ∨ bN = 1) → own_Go p e below s (Q_law n0) 24 128 T25 (mkF m 91 #[.val (.int p0), .val (.int p1), .val (.int p2), .val (.ref r1), .val (.ref r4), .val (.int bL), .val (.int bU), .val (.ref ad7), .val (.ref ad15), .unset, .unset, .unset, .unset, .unset, .unset] [(.int bN)]) := by
        intro bN hbN
        refine own_step (T' := T25) (g' := (mkF m 93 #[.val (.int p0), .val (.int p1), .val (.int p2), .val (.ref r1), .val (.ref r4), .val (.int bL), .val (.int bU), .val (.ref ad7), .val (.ref ad15), .val (.int bN), .unset, .unset, .unset, .unset, .unset] [])) (fun t k => XS.istore X25.here hx rfl (hb hby at_91) rfl (l' := #[.val (.int p0), .val (.int p1), .val (.int p2), .val (.ref r1), .val (.ref r4), .val (.int bL), .val (.int bU), .val (.ref ad7), .val (.ref ad15), .val (.int bN), .unset, .unset, .unset, .unset, .unset]) rfl k) ?_
        refine own_step (T' := T25) (g' := (mkF m 94 #[.val (.int p0), .val (.int p1), .val (.int p2), .val (.ref r1), .val (.ref r4), .val (.int bL), .val (.int bU), .val (.ref ad7), .val (.ref ad15), .val (.int bN), .unset, .unset, .unset, .unset, .unset] [(.int p2)])) (fun t k => XS.iloadN X25.here hx rfl (hb hby at_93) rfl k) ?_
        refine own_step (T' := T25) (g' := (mkF m 95 #[.val (.int p0), .val (.int p1), .val (.int p2), .val (.ref r1), .val (.ref r4), .val (.int bL), .val (.int bU), .val (.ref ad7), .val (.ref ad15), .val (.int bN), .unset, .unset, .unset, .unset, .unset] [(.int (3 : Int32)), (.int p2)])) (fun t k => XS.iconst X25.here hx rfl (hb hby at_94) k) ?_
        refine own_step (T' := T25) (g' := (mkF m 96 #[.val (.int p0), .val (.int p1), .val (.int p2), .val (.ref r1), .val (.ref r4), .val (.int bL), .val (.int bU), .val (.ref ad7), .val (.ref ad15), .val (.int bN), .unset, .unset, .unset, .unset, .unset] [(.int ((p2.toUInt32 >>> (3 : UInt32)).toInt32))])) (fun t k => XS.iushr X25.here hx rfl (hb hby at_95) rfl k) ?_
        refine own_step (T' := T25) (g' := (mkF m 97 #[.val (.int p0), .val (.int p1), .val (.int p2), .val (.ref r1), .val (.ref r4), .val (.int bL), .val (.int bU), .val (.ref ad7), .val (.ref ad15), .val (.int bN), .unset, .unset, .unset, .unset, .unset] [(.int (3 : Int32)), (.int ((p2.toUInt32 >>> (3 : UInt32)).toInt32))])) (fun t k => XS.iconst X25.here hx rfl (hb hby at_96) k) ?_
        refine own_step (T' := T25) (g' := (mkF m 98 #[.val (.int p0), .val (.int p1), .val (.int p2), .val (.ref r1), .val (.ref r4), .val (.int bL), .val (.int bU), .val (.ref ad7), .val (.ref ad15), .val (.int bN), .unset, .unset, .unset, .unset, .unset] [(.int (((p2.toUInt32 >>> (3 : UInt32)).toInt32) &&& (3 : Int32)))])) (fun t k => XS.iand X25.here hx rfl (hb hby at_97) rfl k) ?_
        generalize hd_sel : (((p2.toUInt32 >>> (3 : UInt32)).toInt32) &&& (3 : Int32)) = sel
        refine own_step (T' := T25) (g' := (mkF m 100 #[.val (.int p0), .val (.int p1), .val (.int p2), .val (.ref r1), .val (.ref r4), .val (.int bL), .val (.int bU), .val (.ref ad7), .val (.ref ad15), .val (.int bN), .val (.int sel), .unset, .unset, .unset, .unset] [])) (fun t k => XS.istore X25.here hx rfl (hb hby at_98) rfl (l' := #[.val (.int p0), .val (.int p1), .val (.int p2), .val (.ref r1), .val (.ref r4), .val (.int bL), .val (.int bU), .val (.ref ad7), .val (.ref ad15), .val (.int bN), .val (.int sel), .unset, .unset, .unset, .unset]) rfl k) ?_
        refine own_step (T' := T25) (g' := (mkF m 102 #[.val (.int p0), .val (.int p1), .val (.int p2), .val (.ref r1), .val (.ref r4), .val (.int bL), .val (.int bU), .val (.ref ad7), .val (.ref ad15), .val (.int bN), .val (.int sel), .unset, .unset, .unset, .unset] [(.int sel)])) (fun t k => XS.iload X25.here hx rfl (hb hby at_100) rfl k) ?_
        refine own_step (T' := T25) (g' := (mkF m 103 #[.val (.int p0), .val (.int p1), .val (.int p2), .val (.ref r1), .val (.ref r4), .val (.int bL), .val (.int bU), .val (.ref ad7), .val (.ref ad15), .val (.int bN), .val (.int sel), .unset, .unset, .unset, .unset] [(.int (3 : Int32)), (.int sel)])) (fun t k => XS.iconst X25.here hx rfl (hb hby at_102) k) ?_
        by_cases c103_29 : sel = (3 : Int32)
        · refine own_step (T' := T25) (g' := (mkF m 106 #[.val (.int p0), .val (.int p1), .val (.int p2), .val (.ref r1), .val (.ref r4), .val (.int bL), .val (.int bU), .val (.ref ad7), .val (.ref ad15), .val (.int bN), .val (.int sel), .unset, .unset, .unset, .unset] [])) (fun t k => XS.icmpNo X25.here hx rfl (hb hby at_103) rfl (teq c103_29).2 k) ?_
          refine own_step (T' := T25) (g' := (mkF m 107 #[.val (.int p0), .val (.int p1), .val (.int p2), .val (.ref r1), .val (.ref r4), .val (.int bL), .val (.int bU), .val (.ref ad7), .val (.ref ad15), .val (.int bN), .val (.int sel), .unset, .unset, .unset, .unset] [(.ref r1)])) (fun t k => XS.aloadN X25.here hx rfl (hb hby at_106) rfl rfl k) ?_
          obtain ⟨_, _, ⟨T36, L36, k36, n36⟩, -, X36, ⟨Lc36, hQ36, lq36, yq36, zq36⟩, st36⟩ := Jvm.LawKit.callS X25 hx (y := (⟨"com/example/strandcast/strandcast/query/Interval", "point", "(Ljava/lang/Object;)Lcom/example/strandcast/strandcast/query/Interval;"⟩ : MethodName)) hown (mvT hZ (hw _ (List.mem_of_getElem? (i := 58) rfl))) (mvT hZ (hw _ (List.mem_of_getElem? (i := 59) rfl))) (mvT hZ (hw _ (List.mem_of_getElem? (i := 27) rfl))) (mvT hZ (hw _ (List.mem_of_getElem? (i := 60) rfl))) (by decide) (backOf (W := 0) (rm_pt l Z a0 hw [] r1 T25.heap n0 Z21 ) hZ (hw _ (List.mem_of_getElem? (i := 60) rfl)) (hw _ (List.mem_of_getElem? (i := 27) rfl)) (by decide) (by decide)) (g := (mkF m 107 #[.val (.int p0), .val (.int p1), .val (.int p2), .val (.ref r1), .val (.ref r4), .val (.int bL), .val (.int bU), .val (.ref ad7), .val (.ref ad15), .val (.int bN), .val (.int sel), .unset, .unset, .unset, .unset] [(.ref r1)])) rfl (by rw [hml]; rfl) (argsL := [(.ref r1)]) (rest := []) (lenOf pd_5 rfl) rfl (by show 2 * 0 + _ ≤ _; exact Nat.le_of_eq rfl) (hb hby at_107) (fun _ _ => ⟨rfl, rfl, (by decide : 4 + 2 ≤ _), (by decide : 6 + 5 ≤ _)⟩)
          dsimp only [Pt.U, Pt.locs, Pt.cells, Pt.slots] at X36 lq36 yq36 zq36 st36 hQ36
          subst lq36 yq36 zq36
          obtain ⟨a30b, q31, rfl, Nq36, K32, fz_a30b, g33, g34, g35⟩ := hQ36
          have N36 := Fr.app N25 Nq36
          have oz_a30b : n0 ≤ a30b := Nat.le_trans Z21 fz_a30b
          have nz_ad7_a30b : ad7 ≠ a30b := Nat.ne_of_lt (Nat.lt_of_lt_of_le g26.lt fz_a30b)
          have nz_ad15_a30b : ad15 ≠ a30b := Nat.ne_of_lt (Nat.lt_of_lt_of_le g22.lt fz_a30b)
          have g37 : Exa Z T36.heap ad7 "com/example/strandcast/strandcast/query/Interval$Bound" := g26.keep K32
          have g38 : Fld Z T36.heap ad7 "com/example/strandcast/strandcast/query/Interval$Bound" "value" "Ljava/lang/Object;" (.ref r1) := g27.keep K32 nin0
          have g39 : Fld Z T36.heap ad7 "com/example/strandcast/strandcast/query/Interval$Bound" "inclusive" "Z" (.int bL) := g28.keep K32 nin0
          have g40 : Exa Z T36.heap ad15 "com/example/strandcast/strandcast/query/Interval$Bound" := g22.keep K32
          have g41 : Fld Z T36.heap ad15 "com/example/strandcast/strandcast/query/Interval$Bound" "value" "Ljava/lang/Object;" (.ref r4) := g23.keep K32 nin0
          have g42 : Fld Z T36.heap ad15 "com/example/strandcast/strandcast/query/Interval$Bound" "inclusive" "Z" (.int bU) := g24.keep K32 nin0
          have Z32 : n0 ≤ T36.heap.size := (Nat.le_trans Z21 K32.1)
          have O32 : Old Z n0 T36.heap := O21.keep K32 (all0 (P := fun x => n0 ≤ x))
          refine own_step (T' := T36) (g' := (mkF m 110 #[.val (.int p0), .val (.int p1), .val (.int p2), .val (.ref r1), .val (.ref r4), .val (.int bL), .val (.int bU), .val (.ref ad7), .val (.ref ad15), .val (.int bN), .val (.int sel), .unset, .unset, .unset, .unset] [(.ref a30b)])) st36 ?_
          obtain ⟨cq45, kq45, q45a, q45b, q45c⟩ := isOf hZ rfl g33
          obtain ⟨_, _, ⟨T44, L44, k44, n44⟩, -, X44, ⟨Lc44, hQ44, lq44, yq44, zq44⟩, st44⟩ := X36.virtualBack hx (y := (⟨"com/example/strandcast/strandcast/query/Interval", "isPoint", "()Z"⟩ : MethodName)) (z := (⟨"com/example/strandcast/strandcast/query/Interval", "isPoint", "()Z"⟩ : MethodName)) hown (mvT hZ (hw _ (List.mem_of_getElem? (i := 38) rfl))) (mvT hZ (hw _ (List.mem_of_getElem? (i := 39) rfl))) (notFace_of_selects (args := #[]) (mvT hZ (hw _ (List.mem_of_getElem? (i := 41) rfl)))) (mvT hZ (hw _ (List.mem_of_getElem? (i := 41) rfl))) (mvT hZ (hw _ (List.mem_of_getElem? (i := 40) rfl))) (by decide) (backOf (W := 0) (rm_ip1 l Z a0 hw [] a30b q31 T36.heap n0 Z32 g34 g35) hZ (hw _ (List.mem_of_getElem? (i := 42) rfl)) (hw _ (List.mem_of_getElem? (i := 27) rfl)) (by decide) (by decide)) q45a q45c (g := (mkF m 110 #[.val (.int p0), .val (.int p1), .val (.int p2), .val (.ref r1), .val (.ref r4), .val (.int bL), .val (.int bU), .val (.ref ad7), .val (.ref ad15), .val (.int bN), .val (.int sel), .unset, .unset, .unset, .unset] [(.ref a30b)])) rfl (by rw [hml]; rfl) (Steps.refl _) (argsL := []) (rest := []) (lenOf pd_6 rfl) rfl (by show 2 * 0 + _ ≤ _; exact Nat.le_of_eq rfl) (hb hby at_110) (fun _ _ => ⟨rfl, rfl, (by decide : 6 + 0 ≤ _), (by decide : 11 + 0 ≤ _)⟩)
          dsimp only [Pt.U, Pt.locs, Pt.cells, Pt.slots] at X44 lq44 yq44 zq44 st44 hQ44
          subst lq44 yq44 zq44
          obtain ⟨rfl, Nq44, eq43⟩ := hQ44
          have N44 := Fr.app N36 Nq44
          refine own_tr (T' := T44) (g' := (mkF m 113 #[.val (.int p0), .val (.int p1), .val (.int p2), .val (.ref r1), .val (.ref r4), .val (.int bL), .val (.int bU), .val (.ref ad7), .val (.ref ad15), .val (.int bN), .val (.int sel), .unset, .unset, .unset, .unset] [(.int (1 : Int32))])) st44 ?_
          refine own_rN X44 hx hlk Bd.returns (by simp) (hb hby at_113) ?_ (by decide) (by decide)
          rw [eq43]
          exact ⟨rfl, N44⟩
        · refine own_step (T' := T25) (g' := (mkF m 114 #[.val (.int p0), .val (.int p1), .val (.int p2), .val (.ref r1), .val (.ref r4), .val (.int bL), .val (.int bU), .val (.ref ad7), .val (.ref ad15), .val (.int bN), .val (.int sel), .unset, .unset, .unset, .unset] [])) (fun t k => XS.icmpYes X25.here hx rfl (pc0 := 103) (pc' := 114) rfl (hb hby at_103) rfl (feq c103_29).2 (by decide) (by decide) k) ?_
          refine own_step (T' := T25) (g' := (mkF m 116 #[.val (.int p0), .val (.int p1), .val (.int p2), .val (.ref r1), .val (.ref r4), .val (.int bL), .val (.int bU), .val (.ref ad7), .val (.ref ad15), .val (.int bN), .val (.int sel), .unset, .unset, .unset, .unset] [(.int bN)])) (fun t k => XS.iload X25.here hx rfl (hb hby at_114) rfl k) ?_
          by_cases c116_46 : bN = (0 : Int32)
          · refine own_step (T' := T25) (g' := (mkF m 123 #[.val (.int p0), .val (.int p1), .val (.int p2), .val (.ref r1), .val (.ref r4), .val (.int bL), .val (.int bU), .val (.ref ad7), .val (.ref ad15), .val (.int bN), .val (.int sel), .unset, .unset, .unset, .unset] [])) (fun t k => XS.ifYes X25.here hx rfl (pc0 := 116) (pc' := 123) rfl (hb hby at_116) rfl ((if0 _ _).trans (teq c116_46).1) (by decide) (by decide) k) ?_
            refine own_step (T' := T25) (g' := (mkF m 125 #[.val (.int p0), .val (.int p1), .val (.int p2), .val (.ref r1), .val (.ref r4), .val (.int bL), .val (.int bU), .val (.ref ad7), .val (.ref ad15), .val (.int bN), .val (.int sel), .unset, .unset, .unset, .unset] [(.ref ad7)])) (fun t k => XS.aload X25.here hx rfl (hb hby at_123) rfl rfl k) ?_
            refine own_step (T' := T25) (g' := (mkF m 127 #[.val (.int p0), .val (.int p1), .val (.int p2), .val (.ref r1), .val (.ref r4), .val (.int bL), .val (.int bU), .val (.ref ad7), .val (.ref ad15), .val (.int bN), .val (.int sel), .val (.ref ad7), .unset, .unset, .unset] [])) (fun t k => XS.astore X25.here hx rfl (hb hby at_125) rfl rfl (l' := #[.val (.int p0), .val (.int p1), .val (.int p2), .val (.ref r1), .val (.ref r4), .val (.int bL), .val (.int bU), .val (.ref ad7), .val (.ref ad15), .val (.int bN), .val (.int sel), .val (.ref ad7), .unset, .unset, .unset]) rfl k) ?_
            refine own_step (T' := T25) (g' := (mkF m 129 #[.val (.int p0), .val (.int p1), .val (.int p2), .val (.ref r1), .val (.ref r4), .val (.int bL), .val (.int bU), .val (.ref ad7), .val (.ref ad15), .val (.int bN), .val (.int sel), .val (.ref ad7), .unset, .unset, .unset] [(.int sel)])) (fun t k => XS.iload X25.here hx rfl (hb hby at_127) rfl k) ?_
            by_cases c129_47 : sel = (0 : Int32)
            · refine own_step (T' := T25) (g' := (mkF m 132 #[.val (.int p0), .val (.int p1), .val (.int p2), .val (.ref r1), .val (.ref r4), .val (.int bL), .val (.int bU), .val (.ref ad7), .val (.ref ad15), .val (.int bN), .val (.int sel), .val (.ref ad7), .unset, .unset, .unset] [])) (fun t k => XS.ifNo X25.here hx rfl (hb hby at_129) rfl ((if0 _ _).trans (teq c129_47).2) k) ?_
              refine own_step (T' := T25) (g' := (mkF m 133 #[.val (.int p0), .val (.int p1), .val (.int p2), .val (.ref r1), .val (.ref r4), .val (.int bL), .val (.int bU), .val (.ref ad7), .val (.ref ad15), .val (.int bN), .val (.int sel), .val (.ref ad7), .unset, .unset, .unset] [.null])) (fun t k => XS.aconstNull X25.here hx rfl (hb hby at_132) k) ?_
              refine own_step (T' := T25) (g' := (mkF m 149 #[.val (.int p0), .val (.int p1), .val (.int p2), .val (.ref r1), .val (.ref r4), .val (.int bL), .val (.int bU), .val (.ref ad7), .val (.ref ad15), .val (.int bN), .val (.int sel), .val (.ref ad7), .unset, .unset, .unset] [.null])) (fun t k => XS.goto X25.here hx rfl (pc0 := 133) (pc' := 149) rfl (hb hby at_133) (by decide) (by decide) k) ?_
              refine own_step (T' := T25) (g' := (mkF m 151 #[.val (.int p0), .val (.int p1), .val (.int p2), .val (.ref r1), .val (.ref r4), .val (.int bL), .val (.int bU), .val (.ref ad7), .val (.ref ad15), .val (.int bN), .val (.int sel), .val (.ref ad7), .val .null, .unset, .unset] [])) (fun t k => XS.astore X25.here hx rfl (hb hby at_149) rfl rfl (l' := #[.val (.int p0), .val (.int p1), .val (.int p2), .val (.ref r1), .val (.ref r4), .val (.int bL), .val (.int bU), .val (.ref ad7), .val (.ref ad15), .val (.int bN), .val (.int sel), .val (.ref ad7), .val .null, .unset, .unset]) rfl k) ?_
              obtain ⟨T48, h48, X48, e48, E48, A48, D48, -, st48⟩ := newO X25 hx hZ hown (hw _ (List.mem_of_getElem? (i := 25) rfl)) (hw _ (List.mem_of_getElem? (i := 26) rfl)) (hw _ (List.mem_of_getElem? (i := 27) rfl)) rfl (g := (mkF m 151 #[.val (.int p0), .val (.int p1), .val (.int p2), .val (.ref r1), .val (.ref r4), .val (.int bL), .val (.int bU), .val (.ref ad7), .val (.ref ad15), .val (.int bN), .val (.int sel), .val (.ref ad7), .val .null, .unset, .unset] [])) rfl (hb hby at_151) (by decide : 4 + 1 ≤ _) (by decide : 6 + 3 ≤ _)
              obtain ⟨ad48, g_ad48⟩ : ∃ z, z = T25.heap.size := ⟨_, rfl⟩
              rw [← g_ad48] at A48 D48 st48
              have g49 : Exa Z h48 ad7 "com/example/strandcast/strandcast/query/Interval$Bound" := g26.ext E48
              have g50 : Fld Z h48 ad7 "com/example/strandcast/strandcast/query/Interval$Bound" "value" "Ljava/lang/Object;" (.ref r1) := g27.ext E48
              have g51 : Fld Z h48 ad7 "com/example/strandcast/strandcast/query/Interval$Bound" "inclusive" "Z" (.int bL) := g28.ext E48
              have g52 : Exa Z h48 ad15 "com/example/strandcast/strandcast/query/Interval$Bound" := g22.ext E48
              have g53 : Fld Z h48 ad15 "com/example/strandcast/strandcast/query/Interval$Bound" "value" "Ljava/lang/Object;" (.ref r4) := g23.ext E48
              have g54 : Fld Z h48 ad15 "com/example/strandcast/strandcast/query/Interval$Bound" "inclusive" "Z" (.int bU) := g24.ext E48
              have ne48_1 : ad7 ≠ ad48 := Nat.ne_of_lt (by rw [g_ad48]; exact g26.lt)
              have ne48_2 : ad15 ≠ ad48 := Nat.ne_of_lt (by rw [g_ad48]; exact g22.lt)
              have o48 : n0 ≤ ad48 := (Nat.le_trans Z21 (Nat.le_of_eq g_ad48.symm))
              have Z48 : n0 ≤ h48.size := (Nat.le_trans Z21 E48.1)
              have O48 : Old Z n0 h48 := O21.ext E48
              have g55 : Fld Z h48 ad48 "com/example/strandcast/strandcast/query/Interval" "kind" "Ljava/lang/Object;" .null := D48 (Or.inr (hw _ (List.mem_of_getElem? (i := 33) rfl))) (ty := .object "java/lang/Object") (by decide)
              have g56 : Fld Z h48 ad48 "com/example/strandcast/strandcast/query/Interval" "lower" "Lcom/example/strandcast/strandcast/query/Interval$Bound;" .null := D48 (Or.inr (hw _ (List.mem_of_getElem? (i := 35) rfl))) (ty := .object "com/example/strandcast/strandcast/query/Interval$Bound") (by decide)
              have g57 : Fld Z h48 ad48 "com/example/strandcast/strandcast/query/Interval" "upper" "Lcom/example/strandcast/strandcast/query/Interval$Bound;" .null := D48 (Or.inr (hw _ (List.mem_of_getElem? (i := 37) rfl))) (ty := .object "com/example/strandcast/strandcast/query/Interval$Bound") (by decide)
              refine own_step (T' := T48) (g' := (mkF m 154 #[.val (.int p0), .val (.int p1), .val (.int p2), .val (.ref r1), .val (.ref r4), .val (.int bL), .val (.int bU), .val (.ref ad7), .val (.ref ad15), .val (.int bN), .val (.int sel), .val (.ref ad7), .val .null, .unset, .unset] [(.ref ad48)])) st48 ?_
              refine own_step (T' := T48) (g' := (mkF m 155 #[.val (.int p0), .val (.int p1), .val (.int p2), .val (.ref r1), .val (.ref r4), .val (.int bL), .val (.int bU), .val (.ref ad7), .val (.ref ad15), .val (.int bN), .val (.int sel), .val (.ref ad7), .val .null, .unset, .unset] [(.ref ad48), (.ref ad48)])) (fun t k => XS.dup X48.here hx rfl (hb hby at_154) rfl rfl k) ?_
              refine own_step (T' := T48) (g' := (mkF m 157 #[.val (.int p0), .val (.int p1), .val (.int p2), .val (.ref r1), .val (.ref r4), .val (.int bL), .val (.int bU), .val (.ref ad7), .val (.ref ad15), .val (.int bN), .val (.int sel), .val (.ref ad7), .val .null, .unset, .unset] [(.ref r4), (.ref ad48), (.ref ad48)])) (fun t k => XS.aload X48.here hx rfl (hb hby at_155) rfl rfl k) ?_
              refine own_step (T' := T48) (g' := (mkF m 159 #[.val (.int p0), .val (.int p1), .val (.int p2), .val (.ref r1), .val (.ref r4), .val (.int bL), .val (.int bU), .val (.ref ad7), .val (.ref ad15), .val (.int bN), .val (.int sel), .val (.ref ad7), .val .null, .unset, .unset] [(.ref ad7), (.ref r4), (.ref ad48), (.ref ad48)])) (fun t k => XS.aload X48.here hx rfl (hb hby at_157) rfl rfl k) ?_
              refine own_step (T' := T48) (g' := (mkF m 161 #[.val (.int p0), .val (.int p1), .val (.int p2), .val (.ref r1), .val (.ref r4), .val (.int bL), .val (.int bU), .val (.ref ad7), .val (.ref ad15), .val (.int bN), .val (.int sel), .val (.ref ad7), .val .null, .unset, .unset] [.null, (.ref ad7), (.ref r4), (.ref ad48), (.ref ad48)])) (fun t k => XS.aload X48.here hx rfl (hb hby at_159) rfl rfl k) ?_
              obtain ⟨_, _, ⟨T63, L63, k63, n63⟩, -, X63, ⟨Lc63, hQ63, lq63, yq63, zq63⟩, st63⟩ := X48.specialBack hx (y := (⟨"com/example/strandcast/strandcast/query/Interval", "<init>", "(Ljava/lang/Object;Lcom/example/strandcast/strandcast/query/Interval$Bound;Lcom/example/strandcast/strandcast/query/Interval$Bound;)V"⟩ : MethodName)) rfl hown (mvT hZ (hw _ (List.mem_of_getElem? (i := 28) rfl))) (mvT hZ (hw _ (List.mem_of_getElem? (i := 29) rfl))) (mvT hZ (hw _ (List.mem_of_getElem? (i := 30) rfl))) (by decide) (backOf (W := 1) (rm_ninit_ref_null l Z a0 hw [] ad48 r4 ad7 _ _ _ h48 n0 Z48 A48 g55 g56 g57 o48) hZ (hw _ (List.mem_of_getElem? (i := 30) rfl)) (hw _ (List.mem_of_getElem? (i := 27) rfl)) (by decide) (by decide)) (g := (mkF m 161 #[.val (.int p0), .val (.int p1), .val (.int p2), .val (.ref r1), .val (.ref r4), .val (.int bL), .val (.int bU), .val (.ref ad7), .val (.ref ad15), .val (.int bN), .val (.int sel), .val (.ref ad7), .val .null, .unset, .unset] [.null, (.ref ad7), (.ref r4), (.ref ad48), (.ref ad48)])) rfl (by rw [hml]; rfl) (Steps.refl _) (a := ad48) (argsL := [(.ref r4), (.ref ad7), .null]) (rest := [(.ref ad48)]) (lenOf pd_3 rfl) rfl (by show 2 * 0 + _ ≤ _; exact Nat.le_of_eq rfl) (hb hby at_161) (fun _ _ => ⟨rfl, e48, (by decide : 5 + 0 ≤ _), (by decide : 9 + 0 ≤ _)⟩)
              dsimp only [Pt.U, Pt.locs, Pt.cells, Pt.slots] at X63 lq63 yq63 zq63 st63 hQ63
              subst lq63 yq63 zq63
              obtain ⟨rfl, Nq63, K58, g59, g60, g61, g62⟩ := hQ63
              have N63 := Fr.app N25 Nq63
              have g64 : Exa Z T63.heap ad7 "com/example/strandcast/strandcast/query/Interval$Bound" := g49.keep K58
              have g65 : Fld Z T63.heap ad7 "com/example/strandcast/strandcast/query/Interval$Bound" "value" "Ljava/lang/Object;" (.ref r1) := g50.keep K58 (ninS ne48_1 nin0)
              have g66 : Fld Z T63.heap ad7 "com/example/strandcast/strandcast/query/Interval$Bound" "inclusive" "Z" (.int bL) := g51.keep K58 (ninS ne48_1 nin0)
              have g67 : Exa Z T63.heap ad15 "com/example/strandcast/strandcast/query/Interval$Bound" := g52.keep K58
              have g68 : Fld Z T63.heap ad15 "com/example/strandcast/strandcast/query/Interval$Bound" "value" "Ljava/lang/Object;" (.ref r4) := g53.keep K58 (ninS ne48_2 nin0)
              have g69 : Fld Z T63.heap ad15 "com/example/strandcast/strandcast/query/Interval$Bound" "inclusive" "Z" (.int bU) := g54.keep K58 (ninS ne48_2 nin0)
              have Z58 : n0 ≤ T63.heap.size := (Nat.le_trans Z48 K58.1)
              have O58 : Old Z n0 T63.heap := O48.keep K58 (allS (P := fun x => n0 ≤ x) o48 all0)
              refine own_tr (T' := T63) (g' := (mkF m 164 #[.val (.int p0), .val (.int p1), .val (.int p2), .val (.ref r1), .val (.ref r4), .val (.int bL), .val (.int bU), .val (.ref ad7), .val (.ref ad15), .val (.int bN), .val (.int sel), .val (.ref ad7), .val .null, .unset, .unset] [(.ref ad48)])) st63 ?_
              refine own_step (T' := T63) (g' := (mkF m 166 #[.val (.int p0), .val (.int p1), .val (.int p2), .val (.ref r1), .val (.ref r4), .val (.int bL), .val (.int bU), .val (.ref ad7), .val (.ref ad15), .val (.int bN), .val (.int sel), .val (.ref ad7), .val .null, .val (.ref ad48), .unset] [])) (fun t k => XS.astore X63.here hx rfl (hb hby at_164) rfl rfl (l' := #[.val (.int p0), .val (.int p1), .val (.int p2), .val (.ref r1), .val (.ref r4), .val (.int bL), .val (.int bU), .val (.ref ad7), .val (.ref ad15), .val (.int bN), .val (.int sel), .val (.ref ad7), .val .null, .val (.ref ad48), .unset]) rfl k) ?_
              refine own_step (T' := T63) (g' := (mkF m 168 #[.val (.int p0), .val (.int p1), .val (.int p2), .val (.ref r1), .val (.ref r4), .val (.int bL), .val (.int bU), .val (.ref ad7), .val (.ref ad15), .val (.int bN), .val (.int sel), .val (.ref ad7), .val .null, .val (.ref ad48), .unset] [(.int bN)])) (fun t k => XS.iload X63.here hx rfl (hb hby at_166) rfl k) ?_
              refine own_step (T' := T63) (g' := (mkF m 171 #[.val (.int p0), .val (.int p1), .val (.int p2), .val (.ref r1), .val (.ref r4), .val (.int bL), .val (.int bU), .val (.ref ad7), .val (.ref ad15), .val (.int bN), .val (.int sel), .val (.ref ad7), .val .null, .val (.ref ad48), .unset] [])) (fun t k => XS.ifNo X63.here hx rfl (hb hby at_168) rfl ((if0 _ _).trans (teq c116_46).2) k) ?_
              refine own_step (T' := T63) (g' := (mkF m 173 #[.val (.int p0), .val (.int p1), .val (.int p2), .val (.ref r1), .val (.ref r4), .val (.int bL), .val (.int bU), .val (.ref ad7), .val (.ref ad15), .val (.int bN), .val (.int sel), .val (.ref ad7), .val .null, .val (.ref ad48), .unset] [(.int sel)])) (fun t k => XS.iload X63.here hx rfl (hb hby at_171) rfl k) ?_
              refine own_step (T' := T63) (g' := (mkF m 174 #[.val (.int p0), .val (.int p1), .val (.int p2), .val (.ref r1), .val (.ref r4), .val (.int bL), .val (.int bU), .val (.ref ad7), .val (.ref ad15), .val (.int bN), .val (.int sel), .val (.ref ad7), .val .null, .val (.ref ad48), .unset] [(.int (1 : Int32)), (.int sel)])) (fun t k => XS.iconst X63.here hx rfl (hb hby at_173) k) ?_
              refine own_step (T' := T63) (g' := (mkF m 181 #[.val (.int p0), .val (.int p1), .val (.int p2), .val (.ref r1), .val (.ref r4), .val (.int bL), .val (.int bU), .val (.ref ad7), .val (.ref ad15), .val (.int bN), .val (.int sel), .val (.ref ad7), .val .null, .val (.ref ad48), .unset] [])) (fun t k => XS.icmpYes X63.here hx rfl (pc0 := 174) (pc' := 181) rfl (hb hby at_174) rfl (feq (fun q => absurd (c129_47.symm.trans q) (by decide))).2 (by decide) (by decide) k) ?_
              refine own_step (T' := T63) (g' := (mkF m 182 #[.val (.int p0), .val (.int p1), .val (.int p2), .val (.ref r1), .val (.ref r4), .val (.int bL), .val (.int bU), .val (.ref ad7), .val (.ref ad15), .val (.int bN), .val (.int sel), .val (.ref ad7), .val .null, .val (.ref ad48), .unset] [(.int (0 : Int32))])) (fun t k => XS.iconst X63.here hx rfl (hb hby at_181) k) ?_
              refine own_step (T' := T63) (g' := (mkF m 184 #[.val (.int p0), .val (.int p1), .val (.int p2), .val (.ref r1), .val (.ref r4), .val (.int bL), .val (.int bU), .val (.ref ad7), .val (.ref ad15), .val (.int bN), .val (.int sel), .val (.ref ad7), .val .null, .val (.ref ad48), .val (.int (0 : Int32))] [])) (fun t k => XS.istore X63.here hx rfl (hb hby at_182) rfl (l' := #[.val (.int p0), .val (.int p1), .val (.int p2), .val (.ref r1), .val (.ref r4), .val (.int bL), .val (.int bU), .val (.ref ad7), .val (.ref ad15), .val (.int bN), .val (.int sel), .val (.ref ad7), .val .null, .val (.ref ad48), .val (.int (0 : Int32))]) rfl k) ?_
              refine own_step (T' := T63) (g' := (mkF m 186 #[.val (.int p0), .val (.int p1), .val (.int p2), .val (.ref r1), .val (.ref r4), .val (.int bL), .val (.int bU), .val (.ref ad7), .val (.ref ad15), .val (.int bN), .val (.int sel), .val (.ref ad7), .val .null, .val (.ref ad48), .val (.int (0 : Int32))] [(.ref ad48)])) (fun t k => XS.aload X63.here hx rfl (hb hby at_184) rfl rfl k) ?_
              obtain ⟨cq72, kq72, q72a, q72b, q72c⟩ := isOf hZ rfl g59
              obtain ⟨_, _, ⟨T71, L71, k71, n71⟩, -, X71, ⟨Lc71, hQ71, lq71, yq71, zq71⟩, st71⟩ := X63.virtualBack hx (y := (⟨"com/example/strandcast/strandcast/query/Interval", "isPoint", "()Z"⟩ : MethodName)) (z := (⟨"com/example/strandcast/strandcast/query/Interval", "isPoint", "()Z"⟩ : MethodName)) hown (mvT hZ (hw _ (List.mem_of_getElem? (i := 38) rfl))) (mvT hZ (hw _ (List.mem_of_getElem? (i := 39) rfl))) (notFace_of_selects (args := #[]) (mvT hZ (hw _ (List.mem_of_getElem? (i := 41) rfl)))) (mvT hZ (hw _ (List.mem_of_getElem? (i := 41) rfl))) (mvT hZ (hw _ (List.mem_of_getElem? (i := 40) rfl))) (by decide) (backOf (W := 0) (rm_ip2 l Z a0 hw [] ad48 ad7 T63.heap n0 Z58 g61 g62) hZ (hw _ (List.mem_of_getElem? (i := 42) rfl)) (hw _ (List.mem_of_getElem? (i := 27) rfl)) (by decide) (by decide)) q72a q72c (g := (mkF m 186 #[.val (.int p0), .val (.int p1), .val (.int p2), .val (.ref r1), .val (.ref r4), .val (.int bL), .val (.int bU), .val (.ref ad7), .val (.ref ad15), .val (.int bN), .val (.int sel), .val (.ref ad7), .val .null, .val (.ref ad48), .val (.int (0 : Int32))] [(.ref ad48)])) rfl (by rw [hml]; rfl) (Steps.refl _) (argsL := []) (rest := []) (lenOf pd_6 rfl) rfl (by show 2 * 0 + _ ≤ _; exact Nat.le_of_eq rfl) (hb hby at_186) (fun _ _ => ⟨rfl, rfl, (by decide : 5 + 0 ≤ _), (by decide : 9 + 0 ≤ _)⟩)
              dsimp only [Pt.U, Pt.locs, Pt.cells, Pt.slots] at X71 lq71 yq71 zq71 st71 hQ71
              subst lq71 yq71 zq71
              obtain ⟨rfl, Nq71, eq70⟩ := hQ71
              have N71 := Fr.app N63 Nq71
              refine own_tr (T' := T71) (g' := (mkF m 189 #[.val (.int p0), .val (.int p1), .val (.int p2), .val (.ref r1), .val (.ref r4), .val (.int bL), .val (.int bU), .val (.ref ad7), .val (.ref ad15), .val (.int bN), .val (.int sel), .val (.ref ad7), .val .null, .val (.ref ad48), .val (.int (0 : Int32))] [(.int (0 : Int32))])) st71 ?_
              refine own_step (T' := T71) (g' := (mkF m 191 #[.val (.int p0), .val (.int p1), .val (.int p2), .val (.ref r1), .val (.ref r4), .val (.int bL), .val (.int bU), .val (.ref ad7), .val (.ref ad15), .val (.int bN), .val (.int sel), .val (.ref ad7), .val .null, .val (.ref ad48), .val (.int (0 : Int32))] [(.int (0 : Int32)), (.int (0 : Int32))])) (fun t k => XS.iload X71.here hx rfl (hb hby at_189) rfl k) ?_
              refine own_step (T' := T71) (g' := (mkF m 194 #[.val (.int p0), .val (.int p1), .val (.int p2), .val (.ref r1), .val (.ref r4), .val (.int bL), .val (.int bU), .val (.ref ad7), .val (.ref ad15), .val (.int bN), .val (.int sel), .val (.ref ad7), .val .null, .val (.ref ad48), .val (.int (0 : Int32))] [])) (fun t k => XS.icmpNo X71.here hx rfl (hb hby at_191) rfl (teq (by decide : ((0 : Int32) = (0 : Int32)))).2 k) ?_
              refine own_step (T' := T71) (g' := (mkF m 195 #[.val (.int p0), .val (.int p1), .val (.int p2), .val (.ref r1), .val (.ref r4), .val (.int bL), .val (.int bU), .val (.ref ad7), .val (.ref ad15), .val (.int bN), .val (.int sel), .val (.ref ad7), .val .null, .val (.ref ad48), .val (.int (0 : Int32))] [(.int (1 : Int32))])) (fun t k => XS.iconst X71.here hx rfl (hb hby at_194) k) ?_
              refine own_step (T' := T71) (g' := (mkF m 199 #[.val (.int p0), .val (.int p1), .val (.int p2), .val (.ref r1), .val (.ref r4), .val (.int bL), .val (.int bU), .val (.ref ad7), .val (.ref ad15), .val (.int bN), .val (.int sel), .val (.ref ad7), .val .null, .val (.ref ad48), .val (.int (0 : Int32))] [(.int (1 : Int32))])) (fun t k => XS.goto X71.here hx rfl (pc0 := 195) (pc' := 199) rfl (hb hby at_195) (by decide) (by decide) k) ?_
              refine own_rN X71 hx hlk Bd.returns (by simp) (hb hby at_199) ?_ (by decide) (by decide)
              rw [eq70]
              exact ⟨rfl, N71⟩
            · refine own_step (T' := T25) (g' := (mkF m 136 #[.val (.int p0), .val (.int p1), .val (.int p2), .val (.ref r1), .val (.ref r4), .val (.int bL), .val (.int bU), .val (.ref ad7), .val (.ref ad15), .val (.int bN), .val (.int sel), .val (.ref ad7), .unset, .unset, .unset] [])) (fun t k => XS.ifYes X25.here hx rfl (pc0 := 129) (pc' := 136) rfl (hb hby at_129) rfl ((if0 _ _).trans (feq c129_47).2) (by decide) (by decide) k) ?_
              refine own_step (T' := T25) (g' := (mkF m 138 #[.val (.int p0), .val (.int p1), .val (.int p2), .val (.ref r1), .val (.ref r4), .val (.int bL), .val (.int bU), .val (.ref ad7), .val (.ref ad15), .val (.int bN), .val (.int sel), .val (.ref ad7), .unset, .unset, .unset] [(.int sel)])) (fun t k => XS.iload X25.here hx rfl (hb hby at_136) rfl k) ?_
              refine own_step (T' := T25) (g' := (mkF m 139 #[.val (.int p0), .val (.int p1), .val (.int p2), .val (.ref r1), .val (.ref r4), .val (.int bL), .val (.int bU), .val (.ref ad7), .val (.ref ad15), .val (.int bN), .val (.int sel), .val (.ref ad7), .unset, .unset, .unset] [(.int (1 : Int32)), (.int sel)])) (fun t k => XS.iconst X25.here hx rfl (hb hby at_138) k) ?_
              by_cases c139_73 : sel = (1 : Int32)
              · refine own_step (T' := T25) (g' := (mkF m 142 #[.val (.int p0), .val (.int p1), .val (.int p2), .val (.ref r1), .val (.ref r4), .val (.int bL), .val (.int bU), .val (.ref ad7), .val (.ref ad15), .val (.int bN), .val (.int sel), .val (.ref ad7), .unset, .unset, .unset] [])) (fun t k => XS.icmpNo X25.here hx rfl (hb hby at_139) rfl (teq c139_73).2 k) ?_
                refine own_step (T' := T25) (g' := (mkF m 144 #[.val (.int p0), .val (.int p1), .val (.int p2), .val (.ref r1), .val (.ref r4), .val (.int bL), .val (.int bU), .val (.ref ad7), .val (.ref ad15), .val (.int bN), .val (.int sel), .val (.ref ad7), .unset, .unset, .unset] [(.ref ad7)])) (fun t k => XS.aload X25.here hx rfl (hb hby at_142) rfl rfl k) ?_
                refine own_step (T' := T25) (g' := (mkF m 149 #[.val (.int p0), .val (.int p1), .val (.int p2), .val (.ref r1), .val (.ref r4), .val (.int bL), .val (.int bU), .val (.ref ad7), .val (.ref ad15), .val (.int bN), .val (.int sel), .val (.ref ad7), .unset, .unset, .unset] [(.ref ad7)])) (fun t k => XS.goto X25.here hx rfl (pc0 := 144) (pc' := 149) rfl (hb hby at_144) (by decide) (by decide) k) ?_
                refine own_step (T' := T25) (g' := (mkF m 151 #[.val (.int p0), .val (.int p1), .val (.int p2), .val (.ref r1), .val (.ref r4), .val (.int bL), .val (.int bU), .val (.ref ad7), .val (.ref ad15), .val (.int bN), .val (.int sel), .val (.ref ad7), .val (.ref ad7), .unset, .unset] [])) (fun t k => XS.astore X25.here hx rfl (hb hby at_149) rfl rfl (l' := #[.val (.int p0), .val (.int p1), .val (.int p2), .val (.ref r1), .val (.ref r4), .val (.int bL), .val (.int bU), .val (.ref ad7), .val (.ref ad15), .val (.int bN), .val (.int sel), .val (.ref ad7), .val (.ref ad7), .unset, .unset]) rfl k) ?_
                obtain ⟨T74, h74, X74, e74, E74, A74, D74, -, st74⟩ := newO X25 hx hZ hown (hw _ (List.mem_of_getElem? (i := 25) rfl)) (hw _ (List.mem_of_getElem? (i := 26) rfl)) (hw _ (List.mem_of_getElem? (i := 27) rfl)) rfl (g := (mkF m 151 #[.val (.int p0), .val (.int p1), .val (.int p2), .val (.ref r1), .val (.ref r4), .val (.int bL), .val (.int bU), .val (.ref ad7), .val (.ref ad15), .val (.int bN), .val (.int sel), .val (.ref ad7), .val (.ref ad7), .unset, .unset] [])) rfl (hb hby at_151) (by decide : 4 + 1 ≤ _) (by decide : 6 + 3 ≤ _)
                obtain ⟨ad74, g_ad74⟩ : ∃ z, z = T25.heap.size := ⟨_, rfl⟩
                rw [← g_ad74] at A74 D74 st74
                have g75 : Exa Z h74 ad7 "com/example/strandcast/strandcast/query/Interval$Bound" := g26.ext E74
                have g76 : Fld Z h74 ad7 "com/example/strandcast/strandcast/query/Interval$Bound" "value" "Ljava/lang/Object;" (.ref r1) := g27.ext E74
                have g77 : Fld Z h74 ad7 "com/example/strandcast/strandcast/query/Interval$Bound" "inclusive" "Z" (.int bL) := g28.ext E74
                have g78 : Exa Z h74 ad15 "com/example/strandcast/strandcast/query/Interval$Bound" := g22.ext E74
                have g79 : Fld Z h74 ad15 "com/example/strandcast/strandcast/query/Interval$Bound" "value" "Ljava/lang/Object;" (.ref r4) := g23.ext E74
                have g80 : Fld Z h74 ad15 "com/example/strandcast/strandcast/query/Interval$Bound" "inclusive" "Z" (.int bU) := g24.ext E74
                have ne74_1 : ad7 ≠ ad74 := Nat.ne_of_lt (by rw [g_ad74]; exact g26.lt)
                have ne74_2 : ad15 ≠ ad74 := Nat.ne_of_lt (by rw [g_ad74]; exact g22.lt)
                have o74 : n0 ≤ ad74 := (Nat.le_trans Z21 (Nat.le_of_eq g_ad74.symm))
                have Z74 : n0 ≤ h74.size := (Nat.le_trans Z21 E74.1)
                have O74 : Old Z n0 h74 := O21.ext E74
                have g81 : Fld Z h74 ad74 "com/example/strandcast/strandcast/query/Interval" "kind" "Ljava/lang/Object;" .null := D74 (Or.inr (hw _ (List.mem_of_getElem? (i := 33) rfl))) (ty := .object "java/lang/Object") (by decide)
                have g82 : Fld Z h74 ad74 "com/example/strandcast/strandcast/query/Interval" "lower" "Lcom/example/strandcast/strandcast/query/Interval$Bound;" .null := D74 (Or.inr (hw _ (List.mem_of_getElem? (i := 35) rfl))) (ty := .object "com/example/strandcast/strandcast/query/Interval$Bound") (by decide)
                have g83 : Fld Z h74 ad74 "com/example/strandcast/strandcast/query/Interval" "upper" "Lcom/example/strandcast/strandcast/query/Interval$Bound;" .null := D74 (Or.inr (hw _ (List.mem_of_getElem? (i := 37) rfl))) (ty := .object "com/example/strandcast/strandcast/query/Interval$Bound") (by decide)
                refine own_step (T' := T74) (g' := (mkF m 154 #[.val (.int p0), .val (.int p1), .val (.int p2), .val (.ref r1), .val (.ref r4), .val (.int bL), .val (.int bU), .val (.ref ad7), .val (.ref ad15), .val (.int bN), .val (.int sel), .val (.ref ad7), .val (.ref ad7), .unset, .unset] [(.ref ad74)])) st74 ?_
                refine own_step (T' := T74) (g' := (mkF m 155 #[.val (.int p0), .val (.int p1), .val (.int p2), .val (.ref r1), .val (.ref r4), .val (.int bL), .val (.int bU), .val (.ref ad7), .val (.ref ad15), .val (.int bN), .val (.int sel), .val (.ref ad7), .val (.ref ad7), .unset, .unset] [(.ref ad74), (.ref ad74)])) (fun t k => XS.dup X74.here hx rfl (hb hby at_154) rfl rfl k) ?_
                refine own_step (T' := T74) (g' := (mkF m 157 #[.val (.int p0), .val (.int p1), .val (.int p2), .val (.ref r1), .val (.ref r4), .val (.int bL), .val (.int bU), .val (.ref ad7), .val (.ref ad15), .val (.int bN), .val (.int sel), .val (.ref ad7), .val (.ref ad7), .unset, .unset] [(.ref r4), (.ref ad74), (.ref ad74)])) (fun t k => XS.aload X74.here hx rfl (hb hby at_155) rfl rfl k) ?_
                refine own_step (T' := T74) (g' := (mkF m 159 #[.val (.int p0), .val (.int p1), .val (.int p2), .val (.ref r1), .val (.ref r4), .val (.int bL), .val (.int bU), .val (.ref ad7), .val (.ref ad15), .val (.int bN), .val (.int sel), .val (.ref ad7), .val (.ref ad7), .unset, .unset] [(.ref ad7), (.ref r4), (.ref ad74), (.ref ad74)])) (fun t k => XS.aload X74.here hx rfl (hb hby at_157) rfl rfl k) ?_
                refine own_step (T' := T74) (g' := (mkF m 161 #[.val (.int p0), .val (.int p1), .val (.int p2), .val (.ref r1), .val (.ref r4), .val (.int bL), .val (.int bU), .val (.ref ad7), .val (.ref ad15), .val (.int bN), .val (.int sel), .val (.ref ad7), .val (.ref ad7), .unset, .unset] [(.ref ad7), (.ref ad7), (.ref r4), (.ref ad74), (.ref ad74)])) (fun t k => XS.aload X74.here hx rfl (hb hby at_159) rfl rfl k) ?_
                obtain ⟨_, _, ⟨T89, L89, k89, n89⟩, -, X89, ⟨Lc89, hQ89, lq89, yq89, zq89⟩, st89⟩ := X74.specialBack hx (y := (⟨"com/example/strandcast/strandcast/query/Interval", "<init>", "(Ljava/lang/Object;Lcom/example/strandcast/strandcast/query/Interval$Bound;Lcom/example/strandcast/strandcast/query/Interval$Bound;)V"⟩ : MethodName)) rfl hown (mvT hZ (hw _ (List.mem_of_getElem? (i := 28) rfl))) (mvT hZ (hw _ (List.mem_of_getElem? (i := 29) rfl))) (mvT hZ (hw _ (List.mem_of_getElem? (i := 30) rfl))) (by decide) (backOf (W := 1) (rm_ninit_ref_ref l Z a0 hw [] ad74 r4 ad7 ad7 _ _ _ h74 n0 Z74 A74 g81 g82 g83 o74) hZ (hw _ (List.mem_of_getElem? (i := 30) rfl)) (hw _ (List.mem_of_getElem? (i := 27) rfl)) (by decide) (by decide)) (g := (mkF m 161 #[.val (.int p0), .val (.int p1), .val (.int p2), .val (.ref r1), .val (.ref r4), .val (.int bL), .val (.int bU), .val (.ref ad7), .val (.ref ad15), .val (.int bN), .val (.int sel), .val (.ref ad7), .val (.ref ad7), .unset, .unset] [(.ref ad7), (.ref ad7), (.ref r4), (.ref ad74), (.ref ad74)])) rfl (by rw [hml]; rfl) (Steps.refl _) (a := ad74) (argsL := [(.ref r4), (.ref ad7), (.ref ad7)]) (rest := [(.ref ad74)]) (lenOf pd_3 rfl) rfl (by show 2 * 0 + _ ≤ _; exact Nat.le_of_eq rfl) (hb hby at_161) (fun _ _ => ⟨rfl, e74, (by decide : 5 + 0 ≤ _), (by decide : 9 + 0 ≤ _)⟩)
                dsimp only [Pt.U, Pt.locs, Pt.cells, Pt.slots] at X89 lq89 yq89 zq89 st89 hQ89
                subst lq89 yq89 zq89
                obtain ⟨rfl, Nq89, K84, g85, g86, g87, g88⟩ := hQ89
                have N89 := Fr.app N25 Nq89
                have g90 : Exa Z T89.heap ad7 "com/example/strandcast/strandcast/query/Interval$Bound" := g75.keep K84
                have g91 : Fld Z T89.heap ad7 "com/example/strandcast/strandcast/query/Interval$Bound" "value" "Ljava/lang/Object;" (.ref r1) := g76.keep K84 (ninS ne74_1 nin0)
                have g92 : Fld Z T89.heap ad7 "com/example/strandcast/strandcast/query/Interval$Bound" "inclusive" "Z" (.int bL) := g77.keep K84 (ninS ne74_1 nin0)
                have g93 : Exa Z T89.heap ad15 "com/example/strandcast/strandcast/query/Interval$Bound" := g78.keep K84
                have g94 : Fld Z T89.heap ad15 "com/example/strandcast/strandcast/query/Interval$Bound" "value" "Ljava/lang/Object;" (.ref r4) := g79.keep K84 (ninS ne74_2 nin0)
                have g95 : Fld Z T89.heap ad15 "com/example/strandcast/strandcast/query/Interval$Bound" "inclusive" "Z" (.int bU) := g80.keep K84 (ninS ne74_2 nin0)
                have Z84 : n0 ≤ T89.heap.size := (Nat.le_trans Z74 K84.1)
                have O84 : Old Z n0 T89.heap := O74.keep K84 (allS (P := fun x => n0 ≤ x) o74 all0)
                refine own_tr (T' := T89) (g' := (mkF m 164 #[.val (.int p0), .val (.int p1), .val (.int p2), .val (.ref r1), .val (.ref r4), .val (.int bL), .val (.int bU), .val (.ref ad7), .val (.ref ad15), .val (.int bN), .val (.int sel), .val (.ref ad7), .val (.ref ad7), .unset, .unset] [(.ref ad74)])) st89 ?_
                refine own_step (T' := T89) (g' := (mkF m 166 #[.val (.int p0), .val (.int p1), .val (.int p2), .val (.ref r1), .val (.ref r4), .val (.int bL), .val (.int bU), .val (.ref ad7), .val (.ref ad15), .val (.int bN), .val (.int sel), .val (.ref ad7), .val (.ref ad7), .val (.ref ad74), .unset] [])) (fun t k => XS.astore X89.here hx rfl (hb hby at_164) rfl rfl (l' := #[.val (.int p0), .val (.int p1), .val (.int p2), .val (.ref r1), .val (.ref r4), .val (.int bL), .val (.int bU), .val (.ref ad7), .val (.ref ad15), .val (.int bN), .val (.int sel), .val (.ref ad7), .val (.ref ad7), .val (.ref ad74), .unset]) rfl k) ?_
                refine own_step (T' := T89) (g' := (mkF m 168 #[.val (.int p0), .val (.int p1), .val (.int p2), .val (.ref r1), .val (.ref r4), .val (.int bL), .val (.int bU), .val (.ref ad7), .val (.ref ad15), .val (.int bN), .val (.int sel), .val (.ref ad7), .val (.ref ad7), .val (.ref ad74), .unset] [(.int bN)])) (fun t k => XS.iload X89.here hx rfl (hb hby at_166) rfl k) ?_
                refine own_step (T' := T89) (g' := (mkF m 171 #[.val (.int p0), .val (.int p1), .val (.int p2), .val (.ref r1), .val (.ref r4), .val (.int bL), .val (.int bU), .val (.ref ad7), .val (.ref ad15), .val (.int bN), .val (.int sel), .val (.ref ad7), .val (.ref ad7), .val (.ref ad74), .unset] [])) (fun t k => XS.ifNo X89.here hx rfl (hb hby at_168) rfl ((if0 _ _).trans (teq c116_46).2) k) ?_
                refine own_step (T' := T89) (g' := (mkF m 173 #[.val (.int p0), .val (.int p1), .val (.int p2), .val (.ref r1), .val (.ref r4), .val (.int bL), .val (.int bU), .val (.ref ad7), .val (.ref ad15), .val (.int bN), .val (.int sel), .val (.ref ad7), .val (.ref ad7), .val (.ref ad74), .unset] [(.int sel)])) (fun t k => XS.iload X89.here hx rfl (hb hby at_171) rfl k) ?_
                refine own_step (T' := T89) (g' := (mkF m 174 #[.val (.int p0), .val (.int p1), .val (.int p2), .val (.ref r1), .val (.ref r4), .val (.int bL), .val (.int bU), .val (.ref ad7), .val (.ref ad15), .val (.int bN), .val (.int sel), .val (.ref ad7), .val (.ref ad7), .val (.ref ad74), .unset] [(.int (1 : Int32)), (.int sel)])) (fun t k => XS.iconst X89.here hx rfl (hb hby at_173) k) ?_
                refine own_step (T' := T89) (g' := (mkF m 177 #[.val (.int p0), .val (.int p1), .val (.int p2), .val (.ref r1), .val (.ref r4), .val (.int bL), .val (.int bU), .val (.ref ad7), .val (.ref ad15), .val (.int bN), .val (.int sel), .val (.ref ad7), .val (.ref ad7), .val (.ref ad74), .unset] [])) (fun t k => XS.icmpNo X89.here hx rfl (hb hby at_174) rfl (teq c139_73).2 k) ?_
                refine own_step (T' := T89) (g' := (mkF m 178 #[.val (.int p0), .val (.int p1), .val (.int p2), .val (.ref r1), .val (.ref r4), .val (.int bL), .val (.int bU), .val (.ref ad7), .val (.ref ad15), .val (.int bN), .val (.int sel), .val (.ref ad7), .val (.ref ad7), .val (.ref ad74), .unset] [(.int (1 : Int32))])) (fun t k => XS.iconst X89.here hx rfl (hb hby at_177) k) ?_
                refine own_step (T' := T89) (g' := (mkF m 182 #[.val (.int p0), .val (.int p1), .val (.int p2), .val (.ref r1), .val (.ref r4), .val (.int bL), .val (.int bU), .val (.ref ad7), .val (.ref ad15), .val (.int bN), .val (.int sel), .val (.ref ad7), .val (.ref ad7), .val (.ref ad74), .unset] [(.int (1 : Int32))])) (fun t k => XS.goto X89.here hx rfl (pc0 := 178) (pc' := 182) rfl (hb hby at_178) (by decide) (by decide) k) ?_
                refine own_step (T' := T89) (g' := (mkF m 184 #[.val (.int p0), .val (.int p1), .val (.int p2), .val (.ref r1), .val (.ref r4), .val (.int bL), .val (.int bU), .val (.ref ad7), .val (.ref ad15), .val (.int bN), .val (.int sel), .val (.ref ad7), .val (.ref ad7), .val (.ref ad74), .val (.int (1 : Int32))] [])) (fun t k => XS.istore X89.here hx rfl (hb hby at_182) rfl (l' := #[.val (.int p0), .val (.int p1), .val (.int p2), .val (.ref r1), .val (.ref r4), .val (.int bL), .val (.int bU), .val (.ref ad7), .val (.ref ad15), .val (.int bN), .val (.int sel), .val (.ref ad7), .val (.ref ad7), .val (.ref ad74), .val (.int (1 : Int32))]) rfl k) ?_
                refine own_step (T' := T89) (g' := (mkF m 186 #[.val (.int p0), .val (.int p1), .val (.int p2), .val (.ref r1), .val (.ref r4), .val (.int bL), .val (.int bU), .val (.ref ad7), .val (.ref ad15), .val (.int bN), .val (.int sel), .val (.ref ad7), .val (.ref ad7), .val (.ref ad74), .val (.int (1 : Int32))] [(.ref ad74)])) (fun t k => XS.aload X89.here hx rfl (hb hby at_184) rfl rfl k) ?_
                obtain ⟨cq98, kq98, q98a, q98b, q98c⟩ := isOf hZ rfl g85
                obtain ⟨_, _, ⟨T97, L97, k97, n97⟩, -, X97, ⟨Lc97, hQ97, lq97, yq97, zq97⟩, st97⟩ := X89.virtualBack hx (y := (⟨"com/example/strandcast/strandcast/query/Interval", "isPoint", "()Z"⟩ : MethodName)) (z := (⟨"com/example/strandcast/strandcast/query/Interval", "isPoint", "()Z"⟩ : MethodName)) hown (mvT hZ (hw _ (List.mem_of_getElem? (i := 38) rfl))) (mvT hZ (hw _ (List.mem_of_getElem? (i := 39) rfl))) (notFace_of_selects (args := #[]) (mvT hZ (hw _ (List.mem_of_getElem? (i := 41) rfl)))) (mvT hZ (hw _ (List.mem_of_getElem? (i := 41) rfl))) (mvT hZ (hw _ (List.mem_of_getElem? (i := 40) rfl))) (by decide) (backOf (W := 0) (rm_ip1 l Z a0 hw [] ad74 ad7 T89.heap n0 Z84 g87 g88) hZ (hw _ (List.mem_of_getElem? (i := 42) rfl)) (hw _ (List.mem_of_getElem? (i := 27) rfl)) (by decide) (by decide)) q98a q98c (g := (mkF m 186 #[.val (.int p0), .val (.int p1), .val (.int p2), .val (.ref r1), .val (.ref r4), .val (.int bL), .val (.int bU), .val (.ref ad7), .val (.ref ad15), .val (.int bN), .val (.int sel), .val (.ref ad7), .val (.ref ad7), .val (.ref ad74), .val (.int (1 : Int32))] [(.ref ad74)])) rfl (by rw [hml]; rfl) (Steps.refl _) (argsL := []) (rest := []) (lenOf pd_6 rfl) rfl (by show 2 * 0 + _ ≤ _; exact Nat.le_of_eq rfl) (hb hby at_186) (fun _ _ => ⟨rfl, rfl, (by decide : 5 + 0 ≤ _), (by decide : 9 + 0 ≤ _)⟩)
                dsimp only [Pt.U, Pt.locs, Pt.cells, Pt.slots] at X97 lq97 yq97 zq97 st97 hQ97
                subst lq97 yq97 zq97
                obtain ⟨rfl, Nq97, eq96⟩ := hQ97
                have N97 := Fr.app N89 Nq97
                refine own_tr (T' := T97) (g' := (mkF m 189 #[.val (.int p0), .val (.int p1), .val (.int p2), .val (.ref r1), .val (.ref r4), .val (.int bL), .val (.int bU), .val (.ref ad7), .val (.ref ad15), .val (.int bN), .val (.int sel), .val (.ref ad7), .val (.ref ad7), .val (.ref ad74), .val (.int (1 : Int32))] [(.int (1 : Int32))])) st97 ?_
                refine own_step (T' := T97) (g' := (mkF m 191 #[.val (.int p0), .val (.int p1), .val (.int p2), .val (.ref r1), .val (.ref r4), .val (.int bL), .val (.int bU), .val (.ref ad7), .val (.ref ad15), .val (.int bN), .val (.int sel), .val (.ref ad7), .val (.ref ad7), .val (.ref ad74), .val (.int (1 : Int32))] [(.int (1 : Int32)), (.int (1 : Int32))])) (fun t k => XS.iload X97.here hx rfl (hb hby at_189) rfl k) ?_
                refine own_step (T' := T97) (g' := (mkF m 194 #[.val (.int p0), .val (.int p1), .val (.int p2), .val (.ref r1), .val (.ref r4), .val (.int bL), .val (.int bU), .val (.ref ad7), .val (.ref ad15), .val (.int bN), .val (.int sel), .val (.ref ad7), .val (.ref ad7), .val (.ref ad74), .val (.int (1 : Int32))] [])) (fun t k => XS.icmpNo X97.here hx rfl (hb hby at_191) rfl (teq (by decide : ((1 : Int32) = (1 : Int32)))).2 k) ?_
                refine own_step (T' := T97) (g' := (mkF m 195 #[.val (.int p0), .val (.int p1), .val (.int p2), .val (.ref r1), .val (.ref r4), .val (.int bL), .val (.int bU), .val (.ref ad7), .val (.ref ad15), .val (.int bN), .val (.int sel), .val (.ref ad7), .val (.ref ad7), .val (.ref ad74), .val (.int (1 : Int32))] [(.int (1 : Int32))])) (fun t k => XS.iconst X97.here hx rfl (hb hby at_194) k) ?_
                refine own_step (T' := T97) (g' := (mkF m 199 #[.val (.int p0), .val (.int p1), .val (.int p2), .val (.ref r1), .val (.ref r4), .val (.int bL), .val (.int bU), .val (.ref ad7), .val (.ref ad15), .val (.int bN), .val (.int sel), .val (.ref ad7), .val (.ref ad7), .val (.ref ad74), .val (.int (1 : Int32))] [(.int (1 : Int32))])) (fun t k => XS.goto X97.here hx rfl (pc0 := 195) (pc' := 199) rfl (hb hby at_195) (by decide) (by decide) k) ?_
                refine own_rN X97 hx hlk Bd.returns (by simp) (hb hby at_199) ?_ (by decide) (by decide)
                rw [eq96]
                exact ⟨rfl, N97⟩
              · refine own_step (T' := T25) (g' := (mkF m 147 #[.val (.int p0), .val (.int p1), .val (.int p2), .val (.ref r1), .val (.ref r4), .val (.int bL), .val (.int bU), .val (.ref ad7), .val (.ref ad15), .val (.int bN), .val (.int sel), .val (.ref ad7), .unset, .unset, .unset] [])) (fun t k => XS.icmpYes X25.here hx rfl (pc0 := 139) (pc' := 147) rfl (hb hby at_139) rfl (feq c139_73).2 (by decide) (by decide) k) ?_
                refine own_step (T' := T25) (g' := (mkF m 149 #[.val (.int p0), .val (.int p1), .val (.int p2), .val (.ref r1), .val (.ref r4), .val (.int bL), .val (.int bU), .val (.ref ad7), .val (.ref ad15), .val (.int bN), .val (.int sel), .val (.ref ad7), .unset, .unset, .unset] [(.ref ad15)])) (fun t k => XS.aload X25.here hx rfl (hb hby at_147) rfl rfl k) ?_
                refine own_step (T' := T25) (g' := (mkF m 151 #[.val (.int p0), .val (.int p1), .val (.int p2), .val (.ref r1), .val (.ref r4), .val (.int bL), .val (.int bU), .val (.ref ad7), .val (.ref ad15), .val (.int bN), .val (.int sel), .val (.ref ad7), .val (.ref ad15), .unset, .unset] [])) (fun t k => XS.astore X25.here hx rfl (hb hby at_149) rfl rfl (l' := #[.val (.int p0), .val (.int p1), .val (.int p2), .val (.ref r1), .val (.ref r4), .val (.int bL), .val (.int bU), .val (.ref ad7), .val (.ref ad15), .val (.int bN), .val (.int sel), .val (.ref ad7), .val (.ref ad15), .unset, .unset]) rfl k) ?_
                obtain ⟨T99, h99, X99, e99, E99, A99, D99, -, st99⟩ := newO X25 hx hZ hown (hw _ (List.mem_of_getElem? (i := 25) rfl)) (hw _ (List.mem_of_getElem? (i := 26) rfl)) (hw _ (List.mem_of_getElem? (i := 27) rfl)) rfl (g := (mkF m 151 #[.val (.int p0), .val (.int p1), .val (.int p2), .val (.ref r1), .val (.ref r4), .val (.int bL), .val (.int bU), .val (.ref ad7), .val (.ref ad15), .val (.int bN), .val (.int sel), .val (.ref ad7), .val (.ref ad15), .unset, .unset] [])) rfl (hb hby at_151) (by decide : 4 + 1 ≤ _) (by decide : 6 + 3 ≤ _)
                obtain ⟨ad99, g_ad99⟩ : ∃ z, z = T25.heap.size := ⟨_, rfl⟩
                rw [← g_ad99] at A99 D99 st99
                have g100 : Exa Z h99 ad7 "com/example/strandcast/strandcast/query/Interval$Bound" := g26.ext E99
                have g101 : Fld Z h99 ad7 "com/example/strandcast/strandcast/query/Interval$Bound" "value" "Ljava/lang/Object;" (.ref r1) := g27.ext E99
                have g102 : Fld Z h99 ad7 "com/example/strandcast/strandcast/query/Interval$Bound" "inclusive" "Z" (.int bL) := g28.ext E99
                have g103 : Exa Z h99 ad15 "com/example/strandcast/strandcast/query/Interval$Bound" := g22.ext E99
                have g104 : Fld Z h99 ad15 "com/example/strandcast/strandcast/query/Interval$Bound" "value" "Ljava/lang/Object;" (.ref r4) := g23.ext E99
                have g105 : Fld Z h99 ad15 "com/example/strandcast/strandcast/query/Interval$Bound" "inclusive" "Z" (.int bU) := g24.ext E99
                have ne99_1 : ad7 ≠ ad99 := Nat.ne_of_lt (by rw [g_ad99]; exact g26.lt)
                have ne99_2 : ad15 ≠ ad99 := Nat.ne_of_lt (by rw [g_ad99]; exact g22.lt)
                have o99 : n0 ≤ ad99 := (Nat.le_trans Z21 (Nat.le_of_eq g_ad99.symm))
                have Z99 : n0 ≤ h99.size := (Nat.le_trans Z21 E99.1)
                have O99 : Old Z n0 h99 := O21.ext E99
                have g106 : Fld Z h99 ad99 "com/example/strandcast/strandcast/query/Interval" "kind" "Ljava/lang/Object;" .null := D99 (Or.inr (hw _ (List.mem_of_getElem? (i := 33) rfl))) (ty := .object "java/lang/Object") (by decide)
                have g107 : Fld Z h99 ad99 "com/example/strandcast/strandcast/query/Interval" "lower" "Lcom/example/strandcast/strandcast/query/Interval$Bound;" .null := D99 (Or.inr (hw _ (List.mem_of_getElem? (i := 35) rfl))) (ty := .object "com/example/strandcast/strandcast/query/Interval$Bound") (by decide)
                have g108 : Fld Z h99 ad99 "com/example/strandcast/strandcast/query/Interval" "upper" "Lcom/example/strandcast/strandcast/query/Interval$Bound;" .null := D99 (Or.inr (hw _ (List.mem_of_getElem? (i := 37) rfl))) (ty := .object "com/example/strandcast/strandcast/query/Interval$Bound") (by decide)
                refine own_step (T' := T99) (g' := (mkF m 154 #[.val (.int p0), .val (.int p1), .val (.int p2), .val (.ref r1), .val (.ref r4), .val (.int bL), .val (.int bU), .val (.ref ad7), .val (.ref ad15), .val (.int bN), .val (.int sel), .val (.ref ad7), .val (.ref ad15), .unset, .unset] [(.ref ad99)])) st99 ?_
                refine own_step (T' := T99) (g' := (mkF m 155 #[.val (.int p0), .val (.int p1), .val (.int p2), .val (.ref r1), .val (.ref r4), .val (.int bL), .val (.int bU), .val (.ref ad7), .val (.ref ad15), .val (.int bN), .val (.int sel), .val (.ref ad7), .val (.ref ad15), .unset, .unset] [(.ref ad99), (.ref ad99)])) (fun t k => XS.dup X99.here hx rfl (hb hby at_154) rfl rfl k) ?_
                refine own_step (T' := T99) (g' := (mkF m 157 #[.val (.int p0), .val (.int p1), .val (.int p2), .val (.ref r1), .val (.ref r4), .val (.int bL), .val (.int bU), .val (.ref ad7), .val (.ref ad15), .val (.int bN), .val (.int sel), .val (.ref ad7), .val (.ref ad15), .unset, .unset] [(.ref r4), (.ref ad99), (.ref ad99)])) (fun t k => XS.aload X99.here hx rfl (hb hby at_155) rfl rfl k) ?_
                refine own_step (T' := T99) (g' := (mkF m 159 #[.val (.int p0), .val (.int p1), .val (.int p2), .val (.ref r1), .val (.ref r4), .val (.int bL), .val (.int bU), .val (.ref ad7), .val (.ref ad15), .val (.int bN), .val (.int sel), .val (.ref ad7), .val (.ref ad15), .unset, .unset] [(.ref ad7), (.ref r4), (.ref ad99), (.ref ad99)])) (fun t k => XS.aload X99.here hx rfl (hb hby at_157) rfl rfl k) ?_
                refine own_step (T' := T99) (g' := (mkF m 161 #[.val (.int p0), .val (.int p1), .val (.int p2), .val (.ref r1), .val (.ref r4), .val (.int bL), .val (.int bU), .val (.ref ad7), .val (.ref ad15), .val (.int bN), .val (.int sel), .val (.ref ad7), .val (.ref ad15), .unset, .unset] [(.ref ad15), (.ref ad7), (.ref r4), (.ref ad99), (.ref ad99)])) (fun t k => XS.aload X99.here hx rfl (hb hby at_159) rfl rfl k) ?_
                obtain ⟨_, _, ⟨T114, L114, k114, n114⟩, -, X114, ⟨Lc114, hQ114, lq114, yq114, zq114⟩, st114⟩ := X99.specialBack hx (y := (⟨"com/example/strandcast/strandcast/query/Interval", "<init>", "(Ljava/lang/Object;Lcom/example/strandcast/strandcast/query/Interval$Bound;Lcom/example/strandcast/strandcast/query/Interval$Bound;)V"⟩ : MethodName)) rfl hown (mvT hZ (hw _ (List.mem_of_getElem? (i := 28) rfl))) (mvT hZ (hw _ (List.mem_of_getElem? (i := 29) rfl))) (mvT hZ (hw _ (List.mem_of_getElem? (i := 30) rfl))) (by decide) (backOf (W := 1) (rm_ninit_ref_ref l Z a0 hw [] ad99 r4 ad7 ad15 _ _ _ h99 n0 Z99 A99 g106 g107 g108 o99) hZ (hw _ (List.mem_of_getElem? (i := 30) rfl)) (hw _ (List.mem_of_getElem? (i := 27) rfl)) (by decide) (by decide)) (g := (mkF m 161 #[.val (.int p0), .val (.int p1), .val (.int p2), .val (.ref r1), .val (.ref r4), .val (.int bL), .val (.int bU), .val (.ref ad7), .val (.ref ad15), .val (.int bN), .val (.int sel), .val (.ref ad7), .val (.ref ad15), .unset, .unset] [(.ref ad15), (.ref ad7), (.ref r4), (.ref ad99), (.ref ad99)])) rfl (by rw [hml]; rfl) (Steps.refl _) (a := ad99) (argsL := [(.ref r4), (.ref ad7), (.ref ad15)]) (rest := [(.ref ad99)]) (lenOf pd_3 rfl) rfl (by show 2 * 0 + _ ≤ _; exact Nat.le_of_eq rfl) (hb hby at_161) (fun _ _ => ⟨rfl, e99, (by decide : 5 + 0 ≤ _), (by decide : 9 + 0 ≤ _)⟩)
                dsimp only [Pt.U, Pt.locs, Pt.cells, Pt.slots] at X114 lq114 yq114 zq114 st114 hQ114
                subst lq114 yq114 zq114
                obtain ⟨rfl, Nq114, K109, g110, g111, g112, g113⟩ := hQ114
                have N114 := Fr.app N25 Nq114
                have g115 : Exa Z T114.heap ad7 "com/example/strandcast/strandcast/query/Interval$Bound" := g100.keep K109
                have g116 : Fld Z T114.heap ad7 "com/example/strandcast/strandcast/query/Interval$Bound" "value" "Ljava/lang/Object;" (.ref r1) := g101.keep K109 (ninS ne99_1 nin0)
                have g117 : Fld Z T114.heap ad7 "com/example/strandcast/strandcast/query/Interval$Bound" "inclusive" "Z" (.int bL) := g102.keep K109 (ninS ne99_1 nin0)
                have g118 : Exa Z T114.heap ad15 "com/example/strandcast/strandcast/query/Interval$Bound" := g103.keep K109
                have g119 : Fld Z T114.heap ad15 "com/example/strandcast/strandcast/query/Interval$Bound" "value" "Ljava/lang/Object;" (.ref r4) := g104.keep K109 (ninS ne99_2 nin0)
                have g120 : Fld Z T114.heap ad15 "com/example/strandcast/strandcast/query/Interval$Bound" "inclusive" "Z" (.int bU) := g105.keep K109 (ninS ne99_2 nin0)
                have Z109 : n0 ≤ T114.heap.size := (Nat.le_trans Z99 K109.1)
                have O109 : Old Z n0 T114.heap := O99.keep K109 (allS (P := fun x => n0 ≤ x) o99 all0)
                refine own_tr (T' := T114) (g' := (mkF m 164 #[.val (.int p0), .val (.int p1), .val (.int p2), .val (.ref r1), .val (.ref r4), .val (.int bL), .val (.int bU), .val (.ref ad7), .val (.ref ad15), .val (.int bN), .val (.int sel), .val (.ref ad7), .val (.ref ad15), .unset, .unset] [(.ref ad99)])) st114 ?_
                refine own_step (T' := T114) (g' := (mkF m 166 #[.val (.int p0), .val (.int p1), .val (.int p2), .val (.ref r1), .val (.ref r4), .val (.int bL), .val (.int bU), .val (.ref ad7), .val (.ref ad15), .val (.int bN), .val (.int sel), .val (.ref ad7), .val (.ref ad15), .val (.ref ad99), .unset] [])) (fun t k => XS.astore X114.here hx rfl (hb hby at_164) rfl rfl (l' := #[.val (.int p0), .val (.int p1), .val (.int p2), .val (.ref r1), .val (.ref r4), .val (.int bL), .val (.int bU), .val (.ref ad7), .val (.ref ad15), .val (.int bN), .val (.int sel), .val (.ref ad7), .val (.ref ad15), .val (.ref ad99), .unset]) rfl k) ?_
                refine own_step (T' := T114) (g' := (mkF m 168 #[.val (.int p0), .val (.int p1), .val (.int p2), .val (.ref r1), .val (.ref r4), .val (.int bL), .val (.int bU), .val (.ref ad7), .val (.ref ad15), .val (.int bN), .val (.int sel), .val (.ref ad7), .val (.ref ad15), .val (.ref ad99), .unset] [(.int bN)])) (fun t k => XS.iload X114.here hx rfl (hb hby at_166) rfl k) ?_
                refine own_step (T' := T114) (g' := (mkF m 171 #[.val (.int p0), .val (.int p1), .val (.int p2), .val (.ref r1), .val (.ref r4), .val (.int bL), .val (.int bU), .val (.ref ad7), .val (.ref ad15), .val (.int bN), .val (.int sel), .val (.ref ad7), .val (.ref ad15), .val (.ref ad99), .unset] [])) (fun t k => XS.ifNo X114.here hx rfl (hb hby at_168) rfl ((if0 _ _).trans (teq c116_46).2) k) ?_
                refine own_step (T' := T114) (g' := (mkF m 173 #[.val (.int p0), .val (.int p1), .val (.int p2), .val (.ref r1), .val (.ref r4), .val (.int bL), .val (.int bU), .val (.ref ad7), .val (.ref ad15), .val (.int bN), .val (.int sel), .val (.ref ad7), .val (.ref ad15), .val (.ref ad99), .unset] [(.int sel)])) (fun t k => XS.iload X114.here hx rfl (hb hby at_171) rfl k) ?_
                refine own_step (T' := T114) (g' := (mkF m 174 #[.val (.int p0), .val (.int p1), .val (.int p2), .val (.ref r1), .val (.ref r4), .val (.int bL), .val (.int bU), .val (.ref ad7), .val (.ref ad15), .val (.int bN), .val (.int sel), .val (.ref ad7), .val (.ref ad15), .val (.ref ad99), .unset] [(.int (1 : Int32)), (.int sel)])) (fun t k => XS.iconst X114.here hx rfl (hb hby at_173) k) ?_
                refine own_step (T' := T114) (g' := (mkF m 181 #[.val (.int p0), .val (.int p1), .val (.int p2), .val (.ref r1), .val (.ref r4), .val (.int bL), .val (.int bU), .val (.ref ad7), .val (.ref ad15), .val (.int bN), .val (.int sel), .val (.ref ad7), .val (.ref ad15), .val (.ref ad99), .unset] [])) (fun t k => XS.icmpYes X114.here hx rfl (pc0 := 174) (pc' := 181) rfl (hb hby at_174) rfl (feq c139_73).2 (by decide) (by decide) k) ?_
                refine own_step (T' := T114) (g' := (mkF m 182 #[.val (.int p0), .val (.int p1), .val (.int p2), .val (.ref r1), .val (.ref r4), .val (.int bL), .val (.int bU), .val (.ref ad7), .val (.ref ad15), .val (.int bN), .val (.int sel), .val (.ref ad7), .val (.ref ad15), .val (.ref ad99), .unset] [(.int (0 : Int32))])) (fun t k => XS.iconst X114.here hx rfl (hb hby at_181) k) ?_
                refine own_step (T' := T114) (g' := (mkF m 184 #[.val (.int p0), .val (.int p1), .val (.int p2), .val (.ref r1), .val (.ref r4), .val (.int bL), .val (.int bU), .val (.ref ad7), .val (.ref ad15), .val (.int bN), .val (.int sel), .val (.ref ad7), .val (.ref ad15), .val (.ref ad99), .val (.int (0 : Int32))] [])) (fun t k => XS.istore X114.here hx rfl (hb hby at_182) rfl (l' := #[.val (.int p0), .val (.int p1), .val (.int p2), .val (.ref r1), .val (.ref r4), .val (.int bL), .val (.int bU), .val (.ref ad7), .val (.ref ad15), .val (.int bN), .val (.int sel), .val (.ref ad7), .val (.ref ad15), .val (.ref ad99), .val (.int (0 : Int32))]) rfl k) ?_
                refine own_step (T' := T114) (g' := (mkF m 186 #[.val (.int p0), .val (.int p1), .val (.int p2), .val (.ref r1), .val (.ref r4), .val (.int bL), .val (.int bU), .val (.ref ad7), .val (.ref ad15), .val (.int bN), .val (.int sel), .val (.ref ad7), .val (.ref ad15), .val (.ref ad99), .val (.int (0 : Int32))] [(.ref ad99)])) (fun t k => XS.aload X114.here hx rfl (hb hby at_184) rfl rfl k) ?_
                obtain ⟨cq123, kq123, q123a, q123b, q123c⟩ := isOf hZ rfl g110
                obtain ⟨_, _, ⟨T122, L122, k122, n122⟩, -, X122, ⟨Lc122, hQ122, lq122, yq122, zq122⟩, st122⟩ := X114.virtualBack hx (y := (⟨"com/example/strandcast/strandcast/query/Interval", "isPoint", "()Z"⟩ : MethodName)) (z := (⟨"com/example/strandcast/strandcast/query/Interval", "isPoint", "()Z"⟩ : MethodName)) hown (mvT hZ (hw _ (List.mem_of_getElem? (i := 38) rfl))) (mvT hZ (hw _ (List.mem_of_getElem? (i := 39) rfl))) (notFace_of_selects (args := #[]) (mvT hZ (hw _ (List.mem_of_getElem? (i := 41) rfl)))) (mvT hZ (hw _ (List.mem_of_getElem? (i := 41) rfl))) (mvT hZ (hw _ (List.mem_of_getElem? (i := 40) rfl))) (by decide) (backOf (W := 0) (rm_ip3 l Z a0 hw [] ad99 ad7 ad15 T114.heap n0 Z109 g112 g113 ne15_1) hZ (hw _ (List.mem_of_getElem? (i := 42) rfl)) (hw _ (List.mem_of_getElem? (i := 27) rfl)) (by decide) (by decide)) q123a q123c (g := (mkF m 186 #[.val (.int p0), .val (.int p1), .val (.int p2), .val (.ref r1), .val (.ref r4), .val (.int bL), .val (.int bU), .val (.ref ad7), .val (.ref ad15), .val (.int bN), .val (.int sel), .val (.ref ad7), .val (.ref ad15), .val (.ref ad99), .val (.int (0 : Int32))] [(.ref ad99)])) rfl (by rw [hml]; rfl) (Steps.refl _) (argsL := []) (rest := []) (lenOf pd_6 rfl) rfl (by show 2 * 0 + _ ≤ _; exact Nat.le_of_eq rfl) (hb hby at_186) (fun _ _ => ⟨rfl, rfl, (by decide : 5 + 0 ≤ _), (by decide : 9 + 0 ≤ _)⟩)
                dsimp only [Pt.U, Pt.locs, Pt.cells, Pt.slots] at X122 lq122 yq122 zq122 st122 hQ122
                subst lq122 yq122 zq122
                obtain ⟨rfl, Nq122, eq121⟩ := hQ122
                have N122 := Fr.app N114 Nq122
                refine own_tr (T' := T122) (g' := (mkF m 189 #[.val (.int p0), .val (.int p1), .val (.int p2), .val (.ref r1), .val (.ref r4), .val (.int bL), .val (.int bU), .val (.ref ad7), .val (.ref ad15), .val (.int bN), .val (.int sel), .val (.ref ad7), .val (.ref ad15), .val (.ref ad99), .val (.int (0 : Int32))] [(.int (0 : Int32))])) st122 ?_
                refine own_step (T' := T122) (g' := (mkF m 191 #[.val (.int p0), .val (.int p1), .val (.int p2), .val (.ref r1), .val (.ref r4), .val (.int bL), .val (.int bU), .val (.ref ad7), .val (.ref ad15), .val (.int bN), .val (.int sel), .val (.ref ad7), .val (.ref ad15), .val (.ref ad99), .val (.int (0 : Int32))] [(.int (0 : Int32)), (.int (0 : Int32))])) (fun t k => XS.iload X122.here hx rfl (hb hby at_189) rfl k) ?_
                refine own_step (T' := T122) (g' := (mkF m 194 #[.val (.int p0), .val (.int p1), .val (.int p2), .val (.ref r1), .val (.ref r4), .val (.int bL), .val (.int bU), .val (.ref ad7), .val (.ref ad15), .val (.int bN), .val (.int sel), .val (.ref ad7), .val (.ref ad15), .val (.ref ad99), .val (.int (0 : Int32))] [])) (fun t k => XS.icmpNo X122.here hx rfl (hb hby at_191) rfl (teq (by decide : ((0 : Int32) = (0 : Int32)))).2 k) ?_
                refine own_step (T' := T122) (g' := (mkF m 195 #[.val (.int p0), .val (.int p1), .val (.int p2), .val (.ref r1), .val (.ref r4), .val (.int bL), .val (.int bU), .val (.ref ad7), .val (.ref ad15), .val (.int bN), .val (.int sel), .val (.ref ad7), .val (.ref ad15), .val (.ref ad99), .val (.int (0 : Int32))] [(.int (1 : Int32))])) (fun t k => XS.iconst X122.here hx rfl (hb hby at_194) k) ?_
                refine own_step (T' := T122) (g' := (mkF m 199 #[.val (.int p0), .val (.int p1), .val (.int p2), .val (.ref r1), .val (.ref r4), .val (.int bL), .val (.int bU), .val (.ref ad7), .val (.ref ad15), .val (.int bN), .val (.int sel), .val (.ref ad7), .val (.ref ad15), .val (.ref ad99), .val (.int (0 : Int32))] [(.int (1 : Int32))])) (fun t k => XS.goto X122.here hx rfl (pc0 := 195) (pc' := 199) rfl (hb hby at_195) (by decide) (by decide) k) ?_
                refine own_rN X122 hx hlk Bd.returns (by simp) (hb hby at_199) ?_ (by decide) (by decide)
                rw [eq121]
                exact ⟨rfl, N122⟩
          · refine own_step (T' := T25) (g' := (mkF m 119 #[.val (.int p0), .val (.int p1), .val (.int p2), .val (.ref r1), .val (.ref r4), .val (.int bL), .val (.int bU), .val (.ref ad7), .val (.ref ad15), .val (.int bN), .val (.int sel), .unset, .unset, .unset, .unset] [])) (fun t k => XS.ifNo X25.here hx rfl (hb hby at_116) rfl ((if0 _ _).trans (feq c116_46).1) k) ?_
            refine own_step (T' := T25) (g' := (mkF m 120 #[.val (.int p0), .val (.int p1), .val (.int p2), .val (.ref r1), .val (.ref r4), .val (.int bL), .val (.int bU), .val (.ref ad7), .val (.ref ad15), .val (.int bN), .val (.int sel), .unset, .unset, .unset, .unset] [.null])) (fun t k => XS.aconstNull X25.here hx rfl (hb hby at_119) k) ?_
            refine own_step (T' := T25) (g' := (mkF m 125 #[.val (.int p0), .val (.int p1), .val (.int p2), .val (.ref r1), .val (.ref r4), .val (.int bL), .val (.int bU), .val (.ref ad7), .val (.ref ad15), .val (.int bN), .val (.int sel), .unset, .unset, .unset, .unset] [.null])) (fun t k => XS.goto X25.here hx rfl (pc0 := 120) (pc' := 125) rfl (hb hby at_120) (by decide) (by decide) k) ?_
            refine own_step (T' := T25) (g' := (mkF m 127 #[.val (.int p0), .val (.int p1), .val (.int p2), .val (.ref r1), .val (.ref r4), .val (.int bL), .val (.int bU), .val (.ref ad7), .val (.ref ad15), .val (.int bN), .val (.int sel), .val .null, .unset, .unset, .unset] [])) (fun t k => XS.astore X25.here hx rfl (hb hby at_125) rfl rfl (l' := #[.val (.int p0), .val (.int p1), .val (.int p2), .val (.ref r1), .val (.ref r4), .val (.int bL), .val (.int bU), .val (.ref ad7), .val (.ref ad15), .val (.int bN), .val (.int sel), .val .null, .unset, .unset, .unset]) rfl k) ?_
            refine own_step (T' := T25) (g' := (mkF m 129 #[.val (.int p0), .val (.int p1), .val (.int p2), .val (.ref r1), .val (.ref r4), .val (.int bL), .val (.int bU), .val (.ref ad7), .val (.ref ad15), .val (.int bN), .val (.int sel), .val .null, .unset, .unset, .unset] [(.int sel)])) (fun t k => XS.iload X25.here hx rfl (hb hby at_127) rfl k) ?_
            by_cases c129_124 : sel = (0 : Int32)
            · refine own_step (T' := T25) (g' := (mkF m 132 #[.val (.int p0), .val (.int p1), .val (.int p2), .val (.ref r1), .val (.ref r4), .val (.int bL), .val (.int bU), .val (.ref ad7), .val (.ref ad15), .val (.int bN), .val (.int sel), .val .null, .unset, .unset, .unset] [])) (fun t k => XS.ifNo X25.here hx rfl (hb hby at_129) rfl ((if0 _ _).trans (teq c129_124).2) k) ?_
              refine own_step (T' := T25) (g' := (mkF m 133 #[.val (.int p0), .val (.int p1), .val (.int p2), .val (.ref r1), .val (.ref r4), .val (.int bL), .val (.int bU), .val (.ref ad7), .val (.ref ad15), .val (.int bN), .val (.int sel), .val .null, .unset, .unset, .unset] [.null])) (fun t k => XS.aconstNull X25.here hx rfl (hb hby at_132) k) ?_
              refine own_step (T' := T25) (g' := (mkF m 149 #[.val (.int p0), .val (.int p1), .val (.int p2), .val (.ref r1), .val (.ref r4), .val (.int bL), .val (.int bU), .val (.ref ad7), .val (.ref ad15), .val (.int bN), .val (.int sel), .val .null, .unset, .unset, .unset] [.null])) (fun t k => XS.goto X25.here hx rfl (pc0 := 133) (pc' := 149) rfl (hb hby at_133) (by decide) (by decide) k) ?_
              refine own_step (T' := T25) (g' := (mkF m 151 #[.val (.int p0), .val (.int p1), .val (.int p2), .val (.ref r1), .val (.ref r4), .val (.int bL), .val (.int bU), .val (.ref ad7), .val (.ref ad15), .val (.int bN), .val (.int sel), .val .null, .val .null, .unset, .unset] [])) (fun t k => XS.astore X25.here hx rfl (hb hby at_149) rfl rfl (l' := #[.val (.int p0), .val (.int p1), .val (.int p2), .val (.ref r1), .val (.ref r4), .val (.int bL), .val (.int bU), .val (.ref ad7), .val (.ref ad15), .val (.int bN), .val (.int sel), .val .null, .val .null, .unset, .unset]) rfl k) ?_
              obtain ⟨T125, h125, X125, e125, E125, A125, D125, -, st125⟩ := newO X25 hx hZ hown (hw _ (List.mem_of_getElem? (i := 25) rfl)) (hw _ (List.mem_of_getElem? (i := 26) rfl)) (hw _ (List.mem_of_getElem? (i := 27) rfl)) rfl (g := (mkF m 151 #[.val (.int p0), .val (.int p1), .val (.int p2), .val (.ref r1), .val (.ref r4), .val (.int bL), .val (.int bU), .val (.ref ad7), .val (.ref ad15), .val (.int bN), .val (.int sel), .val .null, .val .null, .unset, .unset] [])) rfl (hb hby at_151) (by decide : 4 + 1 ≤ _) (by decide : 6 + 3 ≤ _)
              obtain ⟨ad125, g_ad125⟩ : ∃ z, z = T25.heap.size := ⟨_, rfl⟩
              rw [← g_ad125] at A125 D125 st125
              have g126 : Exa Z h125 ad7 "com/example/strandcast/strandcast/query/Interval$Bound" := g26.ext E125
              have g127 : Fld Z h125 ad7 "com/example/strandcast/strandcast/query/Interval$Bound" "value" "Ljava/lang/Object;" (.ref r1) := g27.ext E125
              have g128 : Fld Z h125 ad7 "com/example/strandcast/strandcast/query/Interval$Bound" "inclusive" "Z" (.int bL) := g28.ext E125
              have g129 : Exa Z h125 ad15 "com/example/strandcast/strandcast/query/Interval$Bound" := g22.ext E125
              have g130 : Fld Z h125 ad15 "com/example/strandcast/strandcast/query/Interval$Bound" "value" "Ljava/lang/Object;" (.ref r4) := g23.ext E125
              have g131 : Fld Z h125 ad15 "com/example/strandcast/strandcast/query/Interval$Bound" "inclusive" "Z" (.int bU) := g24.ext E125
              have ne125_1 : ad7 ≠ ad125 := Nat.ne_of_lt (by rw [g_ad125]; exact g26.lt)
              have ne125_2 : ad15 ≠ ad125 := Nat.ne_of_lt (by rw [g_ad125]; exact g22.lt)
              have o125 : n0 ≤ ad125 := (Nat.le_trans Z21 (Nat.le_of_eq g_ad125.symm))
              have Z125 : n0 ≤ h125.size := (Nat.le_trans Z21 E125.1)
              have O125 : Old Z n0 h125 := O21.ext E125
              have g132 : Fld Z h125 ad125 "com/example/strandcast/strandcast/query/Interval" "kind" "Ljava/lang/Object;" .null := D125 (Or.inr (hw _ (List.mem_of_getElem? (i := 33) rfl))) (ty := .object "java/lang/Object") (by decide)
              have g133 : Fld Z h125 ad125 "com/example/strandcast/strandcast/query/Interval" "lower" "Lcom/example/strandcast/strandcast/query/Interval$Bound;" .null := D125 (Or.inr (hw _ (List.mem_of_getElem? (i := 35) rfl))) (ty := .object "com/example/strandcast/strandcast/query/Interval$Bound") (by decide)
              have g134 : Fld Z h125 ad125 "com/example/strandcast/strandcast/query/Interval" "upper" "Lcom/example/strandcast/strandcast/query/Interval$Bound;" .null := D125 (Or.inr (hw _ (List.mem_of_getElem? (i := 37) rfl))) (ty := .object "com/example/strandcast/strandcast/query/Interval$Bound") (by decide)
              refine own_step (T' := T125) (g' := (mkF m 154 #[.val (.int p0), .val (.int p1), .val (.int p2), .val (.ref r1), .val (.ref r4), .val (.int bL), .val (.int bU), .val (.ref ad7), .val (.ref ad15), .val (.int bN), .val (.int sel), .val .null, .val .null, .unset, .unset] [(.ref ad125)])) st125 ?_
              refine own_step (T' := T125) (g' := (mkF m 155 #[.val (.int p0), .val (.int p1), .val (.int p2), .val (.ref r1), .val (.ref r4), .val (.int bL), .val (.int bU), .val (.ref ad7), .val (.ref ad15), .val (.int bN), .val (.int sel), .val .null, .val .null, .unset, .unset] [(.ref ad125), (.ref ad125)])) (fun t k => XS.dup X125.here hx rfl (hb hby at_154) rfl rfl k) ?_
              refine own_step (T' := T125) (g' := (mkF m 157 #[.val (.int p0), .val (.int p1), .val (.int p2), .val (.ref r1), .val (.ref r4), .val (.int bL), .val (.int bU), .val (.ref ad7), .val (.ref ad15), .val (.int bN), .val (.int sel), .val .null, .val .null, .unset, .unset] [(.ref r4), (.ref ad125), (.ref ad125)])) (fun t k => XS.aload X125.here hx rfl (hb hby at_155) rfl rfl k) ?_
              refine own_step (T' := T125) (g' := (mkF m 159 #[.val (.int p0), .val (.int p1), .val (.int p2), .val (.ref r1), .val (.ref r4), .val (.int bL), .val (.int bU), .val (.ref ad7), .val (.ref ad15), .val (.int bN), .val (.int sel), .val .null, .val .null, .unset, .unset] [.null, (.ref r4), (.ref ad125), (.ref ad125)])) (fun t k => XS.aload X125.here hx rfl (hb hby at_157) rfl rfl k) ?_
              refine own_step (T' := T125) (g' := (mkF m 161 #[.val (.int p0), .val (.int p1), .val (.int p2), .val (.ref r1), .val (.ref r4), .val (.int bL), .val (.int bU), .val (.ref ad7), .val (.ref ad15), .val (.int bN), .val (.int sel), .val .null, .val .null, .unset, .unset] [.null, .null, (.ref r4), (.ref ad125), (.ref ad125)])) (fun t k => XS.aload X125.here hx rfl (hb hby at_159) rfl rfl k) ?_
              obtain ⟨_, _, ⟨T140, L140, k140, n140⟩, -, X140, ⟨Lc140, hQ140, lq140, yq140, zq140⟩, st140⟩ := X125.specialBack hx (y := (⟨"com/example/strandcast/strandcast/query/Interval", "<init>", "(Ljava/lang/Object;Lcom/example/strandcast/strandcast/query/Interval$Bound;Lcom/example/strandcast/strandcast/query/Interval$Bound;)V"⟩ : MethodName)) rfl hown (mvT hZ (hw _ (List.mem_of_getElem? (i := 28) rfl))) (mvT hZ (hw _ (List.mem_of_getElem? (i := 29) rfl))) (mvT hZ (hw _ (List.mem_of_getElem? (i := 30) rfl))) (by decide) (backOf (W := 1) (rm_ninit_null_null l Z a0 hw [] ad125 r4 _ _ _ h125 n0 Z125 A125 g132 g133 g134 o125) hZ (hw _ (List.mem_of_getElem? (i := 30) rfl)) (hw _ (List.mem_of_getElem? (i := 27) rfl)) (by decide) (by decide)) (g := (mkF m 161 #[.val (.int p0), .val (.int p1), .val (.int p2), .val (.ref r1), .val (.ref r4), .val (.int bL), .val (.int bU), .val (.ref ad7), .val (.ref ad15), .val (.int bN), .val (.int sel), .val .null, .val .null, .unset, .unset] [.null, .null, (.ref r4), (.ref ad125), (.ref ad125)])) rfl (by rw [hml]; rfl) (Steps.refl _) (a := ad125) (argsL := [(.ref r4), .null, .null]) (rest := [(.ref ad125)]) (lenOf pd_3 rfl) rfl (by show 2 * 0 + _ ≤ _; exact Nat.le_of_eq rfl) (hb hby at_161) (fun _ _ => ⟨rfl, e125, (by decide : 5 + 0 ≤ _), (by decide : 9 + 0 ≤ _)⟩)
              dsimp only [Pt.U, Pt.locs, Pt.cells, Pt.slots] at X140 lq140 yq140 zq140 st140 hQ140
              subst lq140 yq140 zq140
              obtain ⟨rfl, Nq140, K135, g136, g137, g138, g139⟩ := hQ140
              have N140 := Fr.app N25 Nq140
              have g141 : Exa Z T140.heap ad7 "com/example/strandcast/strandcast/query/Interval$Bound" := g126.keep K135
              have g142 : Fld Z T140.heap ad7 "com/example/strandcast/strandcast/query/Interval$Bound" "value" "Ljava/lang/Object;" (.ref r1) := g127.keep K135 (ninS ne125_1 nin0)
              have g143 : Fld Z T140.heap ad7 "com/example/strandcast/strandcast/query/Interval$Bound" "inclusive" "Z" (.int bL) := g128.keep K135 (ninS ne125_1 nin0)
              have g144 : Exa Z T140.heap ad15 "com/example/strandcast/strandcast/query/Interval$Bound" := g129.keep K135
              have g145 : Fld Z T140.heap ad15 "com/example/strandcast/strandcast/query/Interval$Bound" "value" "Ljava/lang/Object;" (.ref r4) := g130.keep K135 (ninS ne125_2 nin0)
              have g146 : Fld Z T140.heap ad15 "com/example/strandcast/strandcast/query/Interval$Bound" "inclusive" "Z" (.int bU) := g131.keep K135 (ninS ne125_2 nin0)
              have Z135 : n0 ≤ T140.heap.size := (Nat.le_trans Z125 K135.1)
              have O135 : Old Z n0 T140.heap := O125.keep K135 (allS (P := fun x => n0 ≤ x) o125 all0)
              refine own_tr (T' := T140) (g' := (mkF m 164 #[.val (.int p0), .val (.int p1), .val (.int p2), .val (.ref r1), .val (.ref r4), .val (.int bL), .val (.int bU), .val (.ref ad7), .val (.ref ad15), .val (.int bN), .val (.int sel), .val .null, .val .null, .unset, .unset] [(.ref ad125)])) st140 ?_
              refine own_step (T' := T140) (g' := (mkF m 166 #[.val (.int p0), .val (.int p1), .val (.int p2), .val (.ref r1), .val (.ref r4), .val (.int bL), .val (.int bU), .val (.ref ad7), .val (.ref ad15), .val (.int bN), .val (.int sel), .val .null, .val .null, .val (.ref ad125), .unset] [])) (fun t k => XS.astore X140.here hx rfl (hb hby at_164) rfl rfl (l' := #[.val (.int p0), .val (.int p1), .val (.int p2), .val (.ref r1), .val (.ref r4), .val (.int bL), .val (.int bU), .val (.ref ad7), .val (.ref ad15), .val (.int bN), .val (.int sel), .val .null, .val .null, .val (.ref ad125), .unset]) rfl k) ?_
              refine own_step (T' := T140) (g' := (mkF m 168 #[.val (.int p0), .val (.int p1), .val (.int p2), .val (.ref r1), .val (.ref r4), .val (.int bL), .val (.int bU), .val (.ref ad7), .val (.ref ad15), .val (.int bN), .val (.int sel), .val .null, .val .null, .val (.ref ad125), .unset] [(.int bN)])) (fun t k => XS.iload X140.here hx rfl (hb hby at_166) rfl k) ?_
              refine own_step (T' := T140) (g' := (mkF m 181 #[.val (.int p0), .val (.int p1), .val (.int p2), .val (.ref r1), .val (.ref r4), .val (.int bL), .val (.int bU), .val (.ref ad7), .val (.ref ad15), .val (.int bN), .val (.int sel), .val .null, .val .null, .val (.ref ad125), .unset] [])) (fun t k => XS.ifYes X140.here hx rfl (pc0 := 168) (pc' := 181) rfl (hb hby at_168) rfl ((if0 _ _).trans (feq c116_46).2) (by decide) (by decide) k) ?_
              refine own_step (T' := T140) (g' := (mkF m 182 #[.val (.int p0), .val (.int p1), .val (.int p2), .val (.ref r1), .val (.ref r4), .val (.int bL), .val (.int bU), .val (.ref ad7), .val (.ref ad15), .val (.int bN), .val (.int sel), .val .null, .val .null, .val (.ref ad125), .unset] [(.int (0 : Int32))])) (fun t k => XS.iconst X140.here hx rfl (hb hby at_181) k) ?_
              refine own_step (T' := T140) (g' := (mkF m 184 #[.val (.int p0), .val (.int p1), .val (.int p2), .val (.ref r1), .val (.ref r4), .val (.int bL), .val (.int bU), .val (.ref ad7), .val (.ref ad15), .val (.int bN), .val (.int sel), .val .null, .val .null, .val (.ref ad125), .val (.int (0 : Int32))] [])) (fun t k => XS.istore X140.here hx rfl (hb hby at_182) rfl (l' := #[.val (.int p0), .val (.int p1), .val (.int p2), .val (.ref r1), .val (.ref r4), .val (.int bL), .val (.int bU), .val (.ref ad7), .val (.ref ad15), .val (.int bN), .val (.int sel), .val .null, .val .null, .val (.ref ad125), .val (.int (0 : Int32))]) rfl k) ?_
              refine own_step (T' := T140) (g' := (mkF m 186 #[.val (.int p0), .val (.int p1), .val (.int p2), .val (.ref r1), .val (.ref r4), .val (.int bL), .val (.int bU), .val (.ref ad7), .val (.ref ad15), .val (.int bN), .val (.int sel), .val .null, .val .null, .val (.ref ad125), .val (.int (0 : Int32))] [(.ref ad125)])) (fun t k => XS.aload X140.here hx rfl (hb hby at_184) rfl rfl k) ?_
              obtain ⟨cq149, kq149, q149a, q149b, q149c⟩ := isOf hZ rfl g136
              obtain ⟨_, _, ⟨T148, L148, k148, n148⟩, -, X148, ⟨Lc148, hQ148, lq148, yq148, zq148⟩, st148⟩ := X140.virtualBack hx (y := (⟨"com/example/strandcast/strandcast/query/Interval", "isPoint", "()Z"⟩ : MethodName)) (z := (⟨"com/example/strandcast/strandcast/query/Interval", "isPoint", "()Z"⟩ : MethodName)) hown (mvT hZ (hw _ (List.mem_of_getElem? (i := 38) rfl))) (mvT hZ (hw _ (List.mem_of_getElem? (i := 39) rfl))) (notFace_of_selects (args := #[]) (mvT hZ (hw _ (List.mem_of_getElem? (i := 41) rfl)))) (mvT hZ (hw _ (List.mem_of_getElem? (i := 41) rfl))) (mvT hZ (hw _ (List.mem_of_getElem? (i := 40) rfl))) (by decide) (backOf (W := 0) (rm_ip0 l Z a0 hw [] ad125 T140.heap n0 Z135 g138) hZ (hw _ (List.mem_of_getElem? (i := 42) rfl)) (hw _ (List.mem_of_getElem? (i := 27) rfl)) (by decide) (by decide)) q149a q149c (g := (mkF m 186 #[.val (.int p0), .val (.int p1), .val (.int p2), .val (.ref r1), .val (.ref r4), .val (.int bL), .val (.int bU), .val (.ref ad7), .val (.ref ad15), .val (.int bN), .val (.int sel), .val .null, .val .null, .val (.ref ad125), .val (.int (0 : Int32))] [(.ref ad125)])) rfl (by rw [hml]; rfl) (Steps.refl _) (argsL := []) (rest := []) (lenOf pd_6 rfl) rfl (by show 2 * 0 + _ ≤ _; exact Nat.le_of_eq rfl) (hb hby at_186) (fun _ _ => ⟨rfl, rfl, (by decide : 5 + 0 ≤ _), (by decide : 9 + 0 ≤ _)⟩)
              dsimp only [Pt.U, Pt.locs, Pt.cells, Pt.slots] at X148 lq148 yq148 zq148 st148 hQ148
              subst lq148 yq148 zq148
              obtain ⟨rfl, Nq148, eq147⟩ := hQ148
              have N148 := Fr.app N140 Nq148
              refine own_tr (T' := T148) (g' := (mkF m 189 #[.val (.int p0), .val (.int p1), .val (.int p2), .val (.ref r1), .val (.ref r4), .val (.int bL), .val (.int bU), .val (.ref ad7), .val (.ref ad15), .val (.int bN), .val (.int sel), .val .null, .val .null, .val (.ref ad125), .val (.int (0 : Int32))] [(.int (0 : Int32))])) st148 ?_
              refine own_step (T' := T148) (g' := (mkF m 191 #[.val (.int p0), .val (.int p1), .val (.int p2), .val (.ref r1), .val (.ref r4), .val (.int bL), .val (.int bU), .val (.ref ad7), .val (.ref ad15), .val (.int bN), .val (.int sel), .val .null, .val .null, .val (.ref ad125), .val (.int (0 : Int32))] [(.int (0 : Int32)), (.int (0 : Int32))])) (fun t k => XS.iload X148.here hx rfl (hb hby at_189) rfl k) ?_
              refine own_step (T' := T148) (g' := (mkF m 194 #[.val (.int p0), .val (.int p1), .val (.int p2), .val (.ref r1), .val (.ref r4), .val (.int bL), .val (.int bU), .val (.ref ad7), .val (.ref ad15), .val (.int bN), .val (.int sel), .val .null, .val .null, .val (.ref ad125), .val (.int (0 : Int32))] [])) (fun t k => XS.icmpNo X148.here hx rfl (hb hby at_191) rfl (teq (by decide : ((0 : Int32) = (0 : Int32)))).2 k) ?_
              refine own_step (T' := T148) (g' := (mkF m 195 #[.val (.int p0), .val (.int p1), .val (.int p2), .val (.ref r1), .val (.ref r4), .val (.int bL), .val (.int bU), .val (.ref ad7), .val (.ref ad15), .val (.int bN), .val (.int sel), .val .null, .val .null, .val (.ref ad125), .val (.int (0 : Int32))] [(.int (1 : Int32))])) (fun t k => XS.iconst X148.here hx rfl (hb hby at_194) k) ?_
              refine own_step (T' := T148) (g' := (mkF m 199 #[.val (.int p0), .val (.int p1), .val (.int p2), .val (.ref r1), .val (.ref r4), .val (.int bL), .val (.int bU), .val (.ref ad7), .val (.ref ad15), .val (.int bN), .val (.int sel), .val .null, .val .null, .val (.ref ad125), .val (.int (0 : Int32))] [(.int (1 : Int32))])) (fun t k => XS.goto X148.here hx rfl (pc0 := 195) (pc' := 199) rfl (hb hby at_195) (by decide) (by decide) k) ?_
              refine own_rN X148 hx hlk Bd.returns (by simp) (hb hby at_199) ?_ (by decide) (by decide)
              rw [eq147]
              exact ⟨rfl, N148⟩
            · refine own_step (T' := T25) (g' := (mkF m 136 #[.val (.int p0), .val (.int p1), .val (.int p2), .val (.ref r1), .val (.ref r4), .val (.int bL), .val (.int bU), .val (.ref ad7), .val (.ref ad15), .val (.int bN), .val (.int sel), .val .null, .unset, .unset, .unset] [])) (fun t k => XS.ifYes X25.here hx rfl (pc0 := 129) (pc' := 136) rfl (hb hby at_129) rfl ((if0 _ _).trans (feq c129_124).2) (by decide) (by decide) k) ?_
              refine own_step (T' := T25) (g' := (mkF m 138 #[.val (.int p0), .val (.int p1), .val (.int p2), .val (.ref r1), .val (.ref r4), .val (.int bL), .val (.int bU), .val (.ref ad7), .val (.ref ad15), .val (.int bN), .val (.int sel), .val .null, .unset, .unset, .unset] [(.int sel)])) (fun t k => XS.iload X25.here hx rfl (hb hby at_136) rfl k) ?_
              refine own_step (T' := T25) (g' := (mkF m 139 #[.val (.int p0), .val (.int p1), .val (.int p2), .val (.ref r1), .val (.ref r4), .val (.int bL), .val (.int bU), .val (.ref ad7), .val (.ref ad15), .val (.int bN), .val (.int sel), .val .null, .unset, .unset, .unset] [(.int (1 : Int32)), (.int sel)])) (fun t k => XS.iconst X25.here hx rfl (hb hby at_138) k) ?_
              by_cases c139_150 : sel = (1 : Int32)
              · refine own_step (T' := T25) (g' := (mkF m 142 #[.val (.int p0), .val (.int p1), .val (.int p2), .val (.ref r1), .val (.ref r4), .val (.int bL), .val (.int bU), .val (.ref ad7), .val (.ref ad15), .val (.int bN), .val (.int sel), .val .null, .unset, .unset, .unset] [])) (fun t k => XS.icmpNo X25.here hx rfl (hb hby at_139) rfl (teq c139_150).2 k) ?_
                refine own_step (T' := T25) (g' := (mkF m 144 #[.val (.int p0), .val (.int p1), .val (.int p2), .val (.ref r1), .val (.ref r4), .val (.int bL), .val (.int bU), .val (.ref ad7), .val (.ref ad15), .val (.int bN), .val (.int sel), .val .null, .unset, .unset, .unset] [(.ref ad7)])) (fun t k => XS.aload X25.here hx rfl (hb hby at_142) rfl rfl k) ?_
                refine own_step (T' := T25) (g' := (mkF m 149 #[.val (.int p0), .val (.int p1), .val (.int p2), .val (.ref r1), .val (.ref r4), .val (.int bL), .val (.int bU), .val (.ref ad7), .val (.ref ad15), .val (.int bN), .val (.int sel), .val .null, .unset, .unset, .unset] [(.ref ad7)])) (fun t k => XS.goto X25.here hx rfl (pc0 := 144) (pc' := 149) rfl (hb hby at_144) (by decide) (by decide) k) ?_
                refine own_step (T' := T25) (g' := (mkF m 151 #[.val (.int p0), .val (.int p1), .val (.int p2), .val (.ref r1), .val (.ref r4), .val (.int bL), .val (.int bU), .val (.ref ad7), .val (.ref ad15), .val (.int bN), .val (.int sel), .val .null, .val (.ref ad7), .unset, .unset] [])) (fun t k => XS.astore X25.here hx rfl (hb hby at_149) rfl rfl (l' := #[.val (.int p0), .val (.int p1), .val (.int p2), .val (.ref r1), .val (.ref r4), .val (.int bL), .val (.int bU), .val (.ref ad7), .val (.ref ad15), .val (.int bN), .val (.int sel), .val .null, .val (.ref ad7), .unset, .unset]) rfl k) ?_
                obtain ⟨T151, h151, X151, e151, E151, A151, D151, -, st151⟩ := newO X25 hx hZ hown (hw _ (List.mem_of_getElem? (i := 25) rfl)) (hw _ (List.mem_of_getElem? (i := 26) rfl)) (hw _ (List.mem_of_getElem? (i := 27) rfl)) rfl (g := (mkF m 151 #[.val (.int p0), .val (.int p1), .val (.int p2), .val (.ref r1), .val (.ref r4), .val (.int bL), .val (.int bU), .val (.ref ad7), .val (.ref ad15), .val (.int bN), .val (.int sel), .val .null, .val (.ref ad7), .unset, .unset] [])) rfl (hb hby at_151) (by decide : 4 + 1 ≤ _) (by decide : 6 + 3 ≤ _)
                obtain ⟨ad151, g_ad151⟩ : ∃ z, z = T25.heap.size := ⟨_, rfl⟩
                rw [← g_ad151] at A151 D151 st151
                have g152 : Exa Z h151 ad7 "com/example/strandcast/strandcast/query/Interval$Bound" := g26.ext E151
                have g153 : Fld Z h151 ad7 "com/example/strandcast/strandcast/query/Interval$Bound" "value" "Ljava/lang/Object;" (.ref r1) := g27.ext E151
                have g154 : Fld Z h151 ad7 "com/example/strandcast/strandcast/query/Interval$Bound" "inclusive" "Z" (.int bL) := g28.ext E151
                have g155 : Exa Z h151 ad15 "com/example/strandcast/strandcast/query/Interval$Bound" := g22.ext E151
                have g156 : Fld Z h151 ad15 "com/example/strandcast/strandcast/query/Interval$Bound" "value" "Ljava/lang/Object;" (.ref r4) := g23.ext E151
                have g157 : Fld Z h151 ad15 "com/example/strandcast/strandcast/query/Interval$Bound" "inclusive" "Z" (.int bU) := g24.ext E151
                have ne151_1 : ad7 ≠ ad151 := Nat.ne_of_lt (by rw [g_ad151]; exact g26.lt)
                have ne151_2 : ad15 ≠ ad151 := Nat.ne_of_lt (by rw [g_ad151]; exact g22.lt)
                have o151 : n0 ≤ ad151 := (Nat.le_trans Z21 (Nat.le_of_eq g_ad151.symm))
                have Z151 : n0 ≤ h151.size := (Nat.le_trans Z21 E151.1)
                have O151 : Old Z n0 h151 := O21.ext E151
                have g158 : Fld Z h151 ad151 "com/example/strandcast/strandcast/query/Interval" "kind" "Ljava/lang/Object;" .null := D151 (Or.inr (hw _ (List.mem_of_getElem? (i := 33) rfl))) (ty := .object "java/lang/Object") (by decide)
                have g159 : Fld Z h151 ad151 "com/example/strandcast/strandcast/query/Interval" "lower" "Lcom/example/strandcast/strandcast/query/Interval$Bound;" .null := D151 (Or.inr (hw _ (List.mem_of_getElem? (i := 35) rfl))) (ty := .object "com/example/strandcast/strandcast/query/Interval$Bound") (by decide)
                have g160 : Fld Z h151 ad151 "com/example/strandcast/strandcast/query/Interval" "upper" "Lcom/example/strandcast/strandcast/query/Interval$Bound;" .null := D151 (Or.inr (hw _ (List.mem_of_getElem? (i := 37) rfl))) (ty := .object "com/example/strandcast/strandcast/query/Interval$Bound") (by decide)
                refine own_step (T' := T151) (g' := (mkF m 154 #[.val (.int p0), .val (.int p1), .val (.int p2), .val (.ref r1), .val (.ref r4), .val (.int bL), .val (.int bU), .val (.ref ad7), .val (.ref ad15), .val (.int bN), .val (.int sel), .val .null, .val (.ref ad7), .unset, .unset] [(.ref ad151)])) st151 ?_
                refine own_step (T' := T151) (g' := (mkF m 155 #[.val (.int p0), .val (.int p1), .val (.int p2), .val (.ref r1), .val (.ref r4), .val (.int bL), .val (.int bU), .val (.ref ad7), .val (.ref ad15), .val (.int bN), .val (.int sel), .val .null, .val (.ref ad7), .unset, .unset] [(.ref ad151), (.ref ad151)])) (fun t k => XS.dup X151.here hx rfl (hb hby at_154) rfl rfl k) ?_
                refine own_step (T' := T151) (g' := (mkF m 157 #[.val (.int p0), .val (.int p1), .val (.int p2), .val (.ref r1), .val (.ref r4), .val (.int bL), .val (.int bU), .val (.ref ad7), .val (.ref ad15), .val (.int bN), .val (.int sel), .val .null, .val (.ref ad7), .unset, .unset] [(.ref r4), (.ref ad151), (.ref ad151)])) (fun t k => XS.aload X151.here hx rfl (hb hby at_155) rfl rfl k) ?_
                refine own_step (T' := T151) (g' := (mkF m 159 #[.val (.int p0), .val (.int p1), .val (.int p2), .val (.ref r1), .val (.ref r4), .val (.int bL), .val (.int bU), .val (.ref ad7), .val (.ref ad15), .val (.int bN), .val (.int sel), .val .null, .val (.ref ad7), .unset, .unset] [.null, (.ref r4), (.ref ad151), (.ref ad151)])) (fun t k => XS.aload X151.here hx rfl (hb hby at_157) rfl rfl k) ?_
                refine own_step (T' := T151) (g' := (mkF m 161 #[.val (.int p0), .val (.int p1), .val (.int p2), .val (.ref r1), .val (.ref r4), .val (.int bL), .val (.int bU), .val (.ref ad7), .val (.ref ad15), .val (.int bN), .val (.int sel), .val .null, .val (.ref ad7), .unset, .unset] [(.ref ad7), .null, (.ref r4), (.ref ad151), (.ref ad151)])) (fun t k => XS.aload X151.here hx rfl (hb hby at_159) rfl rfl k) ?_
                obtain ⟨_, _, ⟨T166, L166, k166, n166⟩, -, X166, ⟨Lc166, hQ166, lq166, yq166, zq166⟩, st166⟩ := X151.specialBack hx (y := (⟨"com/example/strandcast/strandcast/query/Interval", "<init>", "(Ljava/lang/Object;Lcom/example/strandcast/strandcast/query/Interval$Bound;Lcom/example/strandcast/strandcast/query/Interval$Bound;)V"⟩ : MethodName)) rfl hown (mvT hZ (hw _ (List.mem_of_getElem? (i := 28) rfl))) (mvT hZ (hw _ (List.mem_of_getElem? (i := 29) rfl))) (mvT hZ (hw _ (List.mem_of_getElem? (i := 30) rfl))) (by decide) (backOf (W := 1) (rm_ninit_null_ref l Z a0 hw [] ad151 r4 ad7 _ _ _ h151 n0 Z151 A151 g158 g159 g160 o151) hZ (hw _ (List.mem_of_getElem? (i := 30) rfl)) (hw _ (List.mem_of_getElem? (i := 27) rfl)) (by decide) (by decide)) (g := (mkF m 161 #[.val (.int p0), .val (.int p1), .val (.int p2), .val (.ref r1), .val (.ref r4), .val (.int bL), .val (.int bU), .val (.ref ad7), .val (.ref ad15), .val (.int bN), .val (.int sel), .val .null, .val (.ref ad7), .unset, .unset] [(.ref ad7), .null, (.ref r4), (.ref ad151), (.ref ad151)])) rfl (by rw [hml]; rfl) (Steps.refl _) (a := ad151) (argsL := [(.ref r4), .null, (.ref ad7)]) (rest := [(.ref ad151)]) (lenOf pd_3 rfl) rfl (by show 2 * 0 + _ ≤ _; exact Nat.le_of_eq rfl) (hb hby at_161) (fun _ _ => ⟨rfl, e151, (by decide : 5 + 0 ≤ _), (by decide : 9 + 0 ≤ _)⟩)
                dsimp only [Pt.U, Pt.locs, Pt.cells, Pt.slots] at X166 lq166 yq166 zq166 st166 hQ166
                subst lq166 yq166 zq166
                obtain ⟨rfl, Nq166, K161, g162, g163, g164, g165⟩ := hQ166
                have N166 := Fr.app N25 Nq166
                have g167 : Exa Z T166.heap ad7 "com/example/strandcast/strandcast/query/Interval$Bound" := g152.keep K161
                have g168 : Fld Z T166.heap ad7 "com/example/strandcast/strandcast/query/Interval$Bound" "value" "Ljava/lang/Object;" (.ref r1) := g153.keep K161 (ninS ne151_1 nin0)
                have g169 : Fld Z T166.heap ad7 "com/example/strandcast/strandcast/query/Interval$Bound" "inclusive" "Z" (.int bL) := g154.keep K161 (ninS ne151_1 nin0)
                have g170 : Exa Z T166.heap ad15 "com/example/strandcast/strandcast/query/Interval$Bound" := g155.keep K161
                have g171 : Fld Z T166.heap ad15 "com/example/strandcast/strandcast/query/Interval$Bound" "value" "Ljava/lang/Object;" (.ref r4) := g156.keep K161 (ninS ne151_2 nin0)
                have g172 : Fld Z T166.heap ad15 "com/example/strandcast/strandcast/query/Interval$Bound" "inclusive" "Z" (.int bU) := g157.keep K161 (ninS ne151_2 nin0)
                have Z161 : n0 ≤ T166.heap.size := (Nat.le_trans Z151 K161.1)
                have O161 : Old Z n0 T166.heap := O151.keep K161 (allS (P := fun x => n0 ≤ x) o151 all0)
                refine own_tr (T' := T166) (g' := (mkF m 164 #[.val (.int p0), .val (.int p1), .val (.int p2), .val (.ref r1), .val (.ref r4), .val (.int bL), .val (.int bU), .val (.ref ad7), .val (.ref ad15), .val (.int bN), .val (.int sel), .val .null, .val (.ref ad7), .unset, .unset] [(.ref ad151)])) st166 ?_
                refine own_step (T' := T166) (g' := (mkF m 166 #[.val (.int p0), .val (.int p1), .val (.int p2), .val (.ref r1), .val (.ref r4), .val (.int bL), .val (.int bU), .val (.ref ad7), .val (.ref ad15), .val (.int bN), .val (.int sel), .val .null, .val (.ref ad7), .val (.ref ad151), .unset] [])) (fun t k => XS.astore X166.here hx rfl (hb hby at_164) rfl rfl (l' := #[.val (.int p0), .val (.int p1), .val (.int p2), .val (.ref r1), .val (.ref r4), .val (.int bL), .val (.int bU), .val (.ref ad7), .val (.ref ad15), .val (.int bN), .val (.int sel), .val .null, .val (.ref ad7), .val (.ref ad151), .unset]) rfl k) ?_
                refine own_step (T' := T166) (g' := (mkF m 168 #[.val (.int p0), .val (.int p1), .val (.int p2), .val (.ref r1), .val (.ref r4), .val (.int bL), .val (.int bU), .val (.ref ad7), .val (.ref ad15), .val (.int bN), .val (.int sel), .val .null, .val (.ref ad7), .val (.ref ad151), .unset] [(.int bN)])) (fun t k => XS.iload X166.here hx rfl (hb hby at_166) rfl k) ?_
                refine own_step (T' := T166) (g' := (mkF m 181 #[.val (.int p0), .val (.int p1), .val (.int p2), .val (.ref r1), .val (.ref r4), .val (.int bL), .val (.int bU), .val (.ref ad7), .val (.ref ad15), .val (.int bN), .val (.int sel), .val .null, .val (.ref ad7), .val (.ref ad151), .unset] [])) (fun t k => XS.ifYes X166.here hx rfl (pc0 := 168) (pc' := 181) rfl (hb hby at_168) rfl ((if0 _ _).trans (feq c116_46).2) (by decide) (by decide) k) ?_
                refine own_step (T' := T166) (g' := (mkF m 182 #[.val (.int p0), .val (.int p1), .val (.int p2), .val (.ref r1), .val (.ref r4), .val (.int bL), .val (.int bU), .val (.ref ad7), .val (.ref ad15), .val (.int bN), .val (.int sel), .val .null, .val (.ref ad7), .val (.ref ad151), .unset] [(.int (0 : Int32))])) (fun t k => XS.iconst X166.here hx rfl (hb hby at_181) k) ?_
                refine own_step (T' := T166) (g' := (mkF m 184 #[.val (.int p0), .val (.int p1), .val (.int p2), .val (.ref r1), .val (.ref r4), .val (.int bL), .val (.int bU), .val (.ref ad7), .val (.ref ad15), .val (.int bN), .val (.int sel), .val .null, .val (.ref ad7), .val (.ref ad151), .val (.int (0 : Int32))] [])) (fun t k => XS.istore X166.here hx rfl (hb hby at_182) rfl (l' := #[.val (.int p0), .val (.int p1), .val (.int p2), .val (.ref r1), .val (.ref r4), .val (.int bL), .val (.int bU), .val (.ref ad7), .val (.ref ad15), .val (.int bN), .val (.int sel), .val .null, .val (.ref ad7), .val (.ref ad151), .val (.int (0 : Int32))]) rfl k) ?_
                refine own_step (T' := T166) (g' := (mkF m 186 #[.val (.int p0), .val (.int p1), .val (.int p2), .val (.ref r1), .val (.ref r4), .val (.int bL), .val (.int bU), .val (.ref ad7), .val (.ref ad15), .val (.int bN), .val (.int sel), .val .null, .val (.ref ad7), .val (.ref ad151), .val (.int (0 : Int32))] [(.ref ad151)])) (fun t k => XS.aload X166.here hx rfl (hb hby at_184) rfl rfl k) ?_
                obtain ⟨cq175, kq175, q175a, q175b, q175c⟩ := isOf hZ rfl g162
                obtain ⟨_, _, ⟨T174, L174, k174, n174⟩, -, X174, ⟨Lc174, hQ174, lq174, yq174, zq174⟩, st174⟩ := X166.virtualBack hx (y := (⟨"com/example/strandcast/strandcast/query/Interval", "isPoint", "()Z"⟩ : MethodName)) (z := (⟨"com/example/strandcast/strandcast/query/Interval", "isPoint", "()Z"⟩ : MethodName)) hown (mvT hZ (hw _ (List.mem_of_getElem? (i := 38) rfl))) (mvT hZ (hw _ (List.mem_of_getElem? (i := 39) rfl))) (notFace_of_selects (args := #[]) (mvT hZ (hw _ (List.mem_of_getElem? (i := 41) rfl)))) (mvT hZ (hw _ (List.mem_of_getElem? (i := 41) rfl))) (mvT hZ (hw _ (List.mem_of_getElem? (i := 40) rfl))) (by decide) (backOf (W := 0) (rm_ip0 l Z a0 hw [] ad151 T166.heap n0 Z161 g164) hZ (hw _ (List.mem_of_getElem? (i := 42) rfl)) (hw _ (List.mem_of_getElem? (i := 27) rfl)) (by decide) (by decide)) q175a q175c (g := (mkF m 186 #[.val (.int p0), .val (.int p1), .val (.int p2), .val (.ref r1), .val (.ref r4), .val (.int bL), .val (.int bU), .val (.ref ad7), .val (.ref ad15), .val (.int bN), .val (.int sel), .val .null, .val (.ref ad7), .val (.ref ad151), .val (.int (0 : Int32))] [(.ref ad151)])) rfl (by rw [hml]; rfl) (Steps.refl _) (argsL := []) (rest := []) (lenOf pd_6 rfl) rfl (by show 2 * 0 + _ ≤ _; exact Nat.le_of_eq rfl) (hb hby at_186) (fun _ _ => ⟨rfl, rfl, (by decide : 5 + 0 ≤ _), (by decide : 9 + 0 ≤ _)⟩)
                dsimp only [Pt.U, Pt.locs, Pt.cells, Pt.slots] at X174 lq174 yq174 zq174 st174 hQ174
                subst lq174 yq174 zq174
                obtain ⟨rfl, Nq174, eq173⟩ := hQ174
                have N174 := Fr.app N166 Nq174
                refine own_tr (T' := T174) (g' := (mkF m 189 #[.val (.int p0), .val (.int p1), .val (.int p2), .val (.ref r1), .val (.ref r4), .val (.int bL), .val (.int bU), .val (.ref ad7), .val (.ref ad15), .val (.int bN), .val (.int sel), .val .null, .val (.ref ad7), .val (.ref ad151), .val (.int (0 : Int32))] [(.int (0 : Int32))])) st174 ?_
                refine own_step (T' := T174) (g' := (mkF m 191 #[.val (.int p0), .val (.int p1), .val (.int p2), .val (.ref r1), .val (.ref r4), .val (.int bL), .val (.int bU), .val (.ref ad7), .val (.ref ad15), .val (.int bN), .val (.int sel), .val .null, .val (.ref ad7), .val (.ref ad151), .val (.int (0 : Int32))] [(.int (0 : Int32)), (.int (0 : Int32))])) (fun t k => XS.iload X174.here hx rfl (hb hby at_189) rfl k) ?_
                refine own_step (T' := T174) (g' := (mkF m 194 #[.val (.int p0), .val (.int p1), .val (.int p2), .val (.ref r1), .val (.ref r4), .val (.int bL), .val (.int bU), .val (.ref ad7), .val (.ref ad15), .val (.int bN), .val (.int sel), .val .null, .val (.ref ad7), .val (.ref ad151), .val (.int (0 : Int32))] [])) (fun t k => XS.icmpNo X174.here hx rfl (hb hby at_191) rfl (teq (by decide : ((0 : Int32) = (0 : Int32)))).2 k) ?_
                refine own_step (T' := T174) (g' := (mkF m 195 #[.val (.int p0), .val (.int p1), .val (.int p2), .val (.ref r1), .val (.ref r4), .val (.int bL), .val (.int bU), .val (.ref ad7), .val (.ref ad15), .val (.int bN), .val (.int sel), .val .null, .val (.ref ad7), .val (.ref ad151), .val (.int (0 : Int32))] [(.int (1 : Int32))])) (fun t k => XS.iconst X174.here hx rfl (hb hby at_194) k) ?_
                refine own_step (T' := T174) (g' := (mkF m 199 #[.val (.int p0), .val (.int p1), .val (.int p2), .val (.ref r1), .val (.ref r4), .val (.int bL), .val (.int bU), .val (.ref ad7), .val (.ref ad15), .val (.int bN), .val (.int sel), .val .null, .val (.ref ad7), .val (.ref ad151), .val (.int (0 : Int32))] [(.int (1 : Int32))])) (fun t k => XS.goto X174.here hx rfl (pc0 := 195) (pc' := 199) rfl (hb hby at_195) (by decide) (by decide) k) ?_
                refine own_rN X174 hx hlk Bd.returns (by simp) (hb hby at_199) ?_ (by decide) (by decide)
                rw [eq173]
                exact ⟨rfl, N174⟩
              · refine own_step (T' := T25) (g' := (mkF m 147 #[.val (.int p0), .val (.int p1), .val (.int p2), .val (.ref r1), .val (.ref r4), .val (.int bL), .val (.int bU), .val (.ref ad7), .val (.ref ad15), .val (.int bN), .val (.int sel), .val .null, .unset, .unset, .unset] [])) (fun t k => XS.icmpYes X25.here hx rfl (pc0 := 139) (pc' := 147) rfl (hb hby at_139) rfl (feq c139_150).2 (by decide) (by decide) k) ?_
                refine own_step (T' := T25) (g' := (mkF m 149 #[.val (.int p0), .val (.int p1), .val (.int p2), .val (.ref r1), .val (.ref r4), .val (.int bL), .val (.int bU), .val (.ref ad7), .val (.ref ad15), .val (.int bN), .val (.int sel), .val .null, .unset, .unset, .unset] [(.ref ad15)])) (fun t k => XS.aload X25.here hx rfl (hb hby at_147) rfl rfl k) ?_
                refine own_step (T' := T25) (g' := (mkF m 151 #[.val (.int p0), .val (.int p1), .val (.int p2), .val (.ref r1), .val (.ref r4), .val (.int bL), .val (.int bU), .val (.ref ad7), .val (.ref ad15), .val (.int bN), .val (.int sel), .val .null, .val (.ref ad15), .unset, .unset] [])) (fun t k => XS.astore X25.here hx rfl (hb hby at_149) rfl rfl (l' := #[.val (.int p0), .val (.int p1), .val (.int p2), .val (.ref r1), .val (.ref r4), .val (.int bL), .val (.int bU), .val (.ref ad7), .val (.ref ad15), .val (.int bN), .val (.int sel), .val .null, .val (.ref ad15), .unset, .unset]) rfl k) ?_
                obtain ⟨T176, h176, X176, e176, E176, A176, D176, -, st176⟩ := newO X25 hx hZ hown (hw _ (List.mem_of_getElem? (i := 25) rfl)) (hw _ (List.mem_of_getElem? (i := 26) rfl)) (hw _ (List.mem_of_getElem? (i := 27) rfl)) rfl (g := (mkF m 151 #[.val (.int p0), .val (.int p1), .val (.int p2), .val (.ref r1), .val (.ref r4), .val (.int bL), .val (.int bU), .val (.ref ad7), .val (.ref ad15), .val (.int bN), .val (.int sel), .val .null, .val (.ref ad15), .unset, .unset] [])) rfl (hb hby at_151) (by decide : 4 + 1 ≤ _) (by decide : 6 + 3 ≤ _)
                obtain ⟨ad176, g_ad176⟩ : ∃ z, z = T25.heap.size := ⟨_, rfl⟩
                rw [← g_ad176] at A176 D176 st176
                have g177 : Exa Z h176 ad7 "com/example/strandcast/strandcast/query/Interval$Bound" := g26.ext E176
                have g178 : Fld Z h176 ad7 "com/example/strandcast/strandcast/query/Interval$Bound" "value" "Ljava/lang/Object;" (.ref r1) := g27.ext E176
                have g179 : Fld Z h176 ad7 "com/example/strandcast/strandcast/query/Interval$Bound" "inclusive" "Z" (.int bL) := g28.ext E176
                have g180 : Exa Z h176 ad15 "com/example/strandcast/strandcast/query/Interval$Bound" := g22.ext E176
                have g181 : Fld Z h176 ad15 "com/example/strandcast/strandcast/query/Interval$Bound" "value" "Ljava/lang/Object;" (.ref r4) := g23.ext E176
                have g182 : Fld Z h176 ad15 "com/example/strandcast/strandcast/query/Interval$Bound" "inclusive" "Z" (.int bU) := g24.ext E176
                have ne176_1 : ad7 ≠ ad176 := Nat.ne_of_lt (by rw [g_ad176]; exact g26.lt)
                have ne176_2 : ad15 ≠ ad176 := Nat.ne_of_lt (by rw [g_ad176]; exact g22.lt)
                have o176 : n0 ≤ ad176 := (Nat.le_trans Z21 (Nat.le_of_eq g_ad176.symm))
                have Z176 : n0 ≤ h176.size := (Nat.le_trans Z21 E176.1)
                have O176 : Old Z n0 h176 := O21.ext E176
                have g183 : Fld Z h176 ad176 "com/example/strandcast/strandcast/query/Interval" "kind" "Ljava/lang/Object;" .null := D176 (Or.inr (hw _ (List.mem_of_getElem? (i := 33) rfl))) (ty := .object "java/lang/Object") (by decide)
                have g184 : Fld Z h176 ad176 "com/example/strandcast/strandcast/query/Interval" "lower" "Lcom/example/strandcast/strandcast/query/Interval$Bound;" .null := D176 (Or.inr (hw _ (List.mem_of_getElem? (i := 35) rfl))) (ty := .object "com/example/strandcast/strandcast/query/Interval$Bound") (by decide)
                have g185 : Fld Z h176 ad176 "com/example/strandcast/strandcast/query/Interval" "upper" "Lcom/example/strandcast/strandcast/query/Interval$Bound;" .null := D176 (Or.inr (hw _ (List.mem_of_getElem? (i := 37) rfl))) (ty := .object "com/example/strandcast/strandcast/query/Interval$Bound") (by decide)
                refine own_step (T' := T176) (g' := (mkF m 154 #[.val (.int p0), .val (.int p1), .val (.int p2), .val (.ref r1), .val (.ref r4), .val (.int bL), .val (.int bU), .val (.ref ad7), .val (.ref ad15), .val (.int bN), .val (.int sel), .val .null, .val (.ref ad15), .unset, .unset] [(.ref ad176)])) st176 ?_
                refine own_step (T' := T176) (g' := (mkF m 155 #[.val (.int p0), .val (.int p1), .val (.int p2), .val (.ref r1), .val (.ref r4), .val (.int bL), .val (.int bU), .val (.ref ad7), .val (.ref ad15), .val (.int bN), .val (.int sel), .val .null, .val (.ref ad15), .unset, .unset] [(.ref ad176), (.ref ad176)])) (fun t k => XS.dup X176.here hx rfl (hb hby at_154) rfl rfl k) ?_
                refine own_step (T' := T176) (g' := (mkF m 157 #[.val (.int p0), .val (.int p1), .val (.int p2), .val (.ref r1), .val (.ref r4), .val (.int bL), .val (.int bU), .val (.ref ad7), .val (.ref ad15), .val (.int bN), .val (.int sel), .val .null, .val (.ref ad15), .unset, .unset] [(.ref r4), (.ref ad176), (.ref ad176)])) (fun t k => XS.aload X176.here hx rfl (hb hby at_155) rfl rfl k) ?_
                refine own_step (T' := T176) (g' := (mkF m 159 #[.val (.int p0), .val (.int p1), .val (.int p2), .val (.ref r1), .val (.ref r4), .val (.int bL), .val (.int bU), .val (.ref ad7), .val (.ref ad15), .val (.int bN), .val (.int sel), .val .null, .val (.ref ad15), .unset, .unset] [.null, (.ref r4), (.ref ad176), (.ref ad176)])) (fun t k => XS.aload X176.here hx rfl (hb hby at_157) rfl rfl k) ?_
                refine own_step (T' := T176) (g' := (mkF m 161 #[.val (.int p0), .val (.int p1), .val (.int p2), .val (.ref r1), .val (.ref r4), .val (.int bL), .val (.int bU), .val (.ref ad7), .val (.ref ad15), .val (.int bN), .val (.int sel), .val .null, .val (.ref ad15), .unset, .unset] [(.ref ad15), .null, (.ref r4), (.ref ad176), (.ref ad176)])) (fun t k => XS.aload X176.here hx rfl (hb hby at_159) rfl rfl k) ?_
                obtain ⟨_, _, ⟨T191, L191, k191, n191⟩, -, X191, ⟨Lc191, hQ191, lq191, yq191, zq191⟩, st191⟩ := X176.specialBack hx (y := (⟨"com/example/strandcast/strandcast/query/Interval", "<init>", "(Ljava/lang/Object;Lcom/example/strandcast/strandcast/query/Interval$Bound;Lcom/example/strandcast/strandcast/query/Interval$Bound;)V"⟩ : MethodName)) rfl hown (mvT hZ (hw _ (List.mem_of_getElem? (i := 28) rfl))) (mvT hZ (hw _ (List.mem_of_getElem? (i := 29) rfl))) (mvT hZ (hw _ (List.mem_of_getElem? (i := 30) rfl))) (by decide) (backOf (W := 1) (rm_ninit_null_ref l Z a0 hw [] ad176 r4 ad15 _ _ _ h176 n0 Z176 A176 g183 g184 g185 o176) hZ (hw _ (List.mem_of_getElem? (i := 30) rfl)) (hw _ (List.mem_of_getElem? (i := 27) rfl)) (by decide) (by decide)) (g := (mkF m 161 #[.val (.int p0), .val (.int p1), .val (.int p2), .val (.ref r1), .val (.ref r4), .val (.int bL), .val (.int bU), .val (.ref ad7), .val (.ref ad15), .val (.int bN), .val (.int sel), .val .null, .val (.ref ad15), .unset, .unset] [(.ref ad15), .null, (.ref r4), (.ref ad176), (.ref ad176)])) rfl (by rw [hml]; rfl) (Steps.refl _) (a := ad176) (argsL := [(.ref r4), .null, (.ref ad15)]) (rest := [(.ref ad176)]) (lenOf pd_3 rfl) rfl (by show 2 * 0 + _ ≤ _; exact Nat.le_of_eq rfl) (hb hby at_161) (fun _ _ => ⟨rfl, e176, (by decide : 5 + 0 ≤ _), (by decide : 9 + 0 ≤ _)⟩)
                dsimp only [Pt.U, Pt.locs, Pt.cells, Pt.slots] at X191 lq191 yq191 zq191 st191 hQ191
                subst lq191 yq191 zq191
                obtain ⟨rfl, Nq191, K186, g187, g188, g189, g190⟩ := hQ191
                have N191 := Fr.app N25 Nq191
                have g192 : Exa Z T191.heap ad7 "com/example/strandcast/strandcast/query/Interval$Bound" := g177.keep K186
                have g193 : Fld Z T191.heap ad7 "com/example/strandcast/strandcast/query/Interval$Bound" "value" "Ljava/lang/Object;" (.ref r1) := g178.keep K186 (ninS ne176_1 nin0)
                have g194 : Fld Z T191.heap ad7 "com/example/strandcast/strandcast/query/Interval$Bound" "inclusive" "Z" (.int bL) := g179.keep K186 (ninS ne176_1 nin0)
                have g195 : Exa Z T191.heap ad15 "com/example/strandcast/strandcast/query/Interval$Bound" := g180.keep K186
                have g196 : Fld Z T191.heap ad15 "com/example/strandcast/strandcast/query/Interval$Bound" "value" "Ljava/lang/Object;" (.ref r4) := g181.keep K186 (ninS ne176_2 nin0)
                have g197 : Fld Z T191.heap ad15 "com/example/strandcast/strandcast/query/Interval$Bound" "inclusive" "Z" (.int bU) := g182.keep K186 (ninS ne176_2 nin0)
                have Z186 : n0 ≤ T191.heap.size := (Nat.le_trans Z176 K186.1)
                have O186 : Old Z n0 T191.heap := O176.keep K186 (allS (P := fun x => n0 ≤ x) o176 all0)
                refine own_tr (T' := T191) (g' := (mkF m 164 #[.val (.int p0), .val (.int p1), .val (.int p2), .val (.ref r1), .val (.ref r4), .val (.int bL), .val (.int bU), .val (.ref ad7), .val (.ref ad15), .val (.int bN), .val (.int sel), .val .null, .val (.ref ad15), .unset, .unset] [(.ref ad176)])) st191 ?_
                refine own_step (T' := T191) (g' := (mkF m 166 #[.val (.int p0), .val (.int p1), .val (.int p2), .val (.ref r1), .val (.ref r4), .val (.int bL), .val (.int bU), .val (.ref ad7), .val (.ref ad15), .val (.int bN), .val (.int sel), .val .null, .val (.ref ad15), .val (.ref ad176), .unset] [])) (fun t k => XS.astore X191.here hx rfl (hb hby at_164) rfl rfl (l' := #[.val (.int p0), .val (.int p1), .val (.int p2), .val (.ref r1), .val (.ref r4), .val (.int bL), .val (.int bU), .val (.ref ad7), .val (.ref ad15), .val (.int bN), .val (.int sel), .val .null, .val (.ref ad15), .val (.ref ad176), .unset]) rfl k) ?_
                refine own_step (T' := T191) (g' := (mkF m 168 #[.val (.int p0), .val (.int p1), .val (.int p2), .val (.ref r1), .val (.ref r4), .val (.int bL), .val (.int bU), .val (.ref ad7), .val (.ref ad15), .val (.int bN), .val (.int sel), .val .null, .val (.ref ad15), .val (.ref ad176), .unset] [(.int bN)])) (fun t k => XS.iload X191.here hx rfl (hb hby at_166) rfl k) ?_
                refine own_step (T' := T191) (g' := (mkF m 181 #[.val (.int p0), .val (.int p1), .val (.int p2), .val (.ref r1), .val (.ref r4), .val (.int bL), .val (.int bU), .val (.ref ad7), .val (.ref ad15), .val (.int bN), .val (.int sel), .val .null, .val (.ref ad15), .val (.ref ad176), .unset] [])) (fun t k => XS.ifYes X191.here hx rfl (pc0 := 168) (pc' := 181) rfl (hb hby at_168) rfl ((if0 _ _).trans (feq c116_46).2) (by decide) (by decide) k) ?_
                refine own_step (T' := T191) (g' := (mkF m 182 #[.val (.int p0), .val (.int p1), .val (.int p2), .val (.ref r1), .val (.ref r4), .val (.int bL), .val (.int bU), .val (.ref ad7), .val (.ref ad15), .val (.int bN), .val (.int sel), .val .null, .val (.ref ad15), .val (.ref ad176), .unset] [(.int (0 : Int32))])) (fun t k => XS.iconst X191.here hx rfl (hb hby at_181) k) ?_
                refine own_step (T' := T191) (g' := (mkF m 184 #[.val (.int p0), .val (.int p1), .val (.int p2), .val (.ref r1), .val (.ref r4), .val (.int bL), .val (.int bU), .val (.ref ad7), .val (.ref ad15), .val (.int bN), .val (.int sel), .val .null, .val (.ref ad15), .val (.ref ad176), .val (.int (0 : Int32))] [])) (fun t k => XS.istore X191.here hx rfl (hb hby at_182) rfl (l' := #[.val (.int p0), .val (.int p1), .val (.int p2), .val (.ref r1), .val (.ref r4), .val (.int bL), .val (.int bU), .val (.ref ad7), .val (.ref ad15), .val (.int bN), .val (.int sel), .val .null, .val (.ref ad15), .val (.ref ad176), .val (.int (0 : Int32))]) rfl k) ?_
                refine own_step (T' := T191) (g' := (mkF m 186 #[.val (.int p0), .val (.int p1), .val (.int p2), .val (.ref r1), .val (.ref r4), .val (.int bL), .val (.int bU), .val (.ref ad7), .val (.ref ad15), .val (.int bN), .val (.int sel), .val .null, .val (.ref ad15), .val (.ref ad176), .val (.int (0 : Int32))] [(.ref ad176)])) (fun t k => XS.aload X191.here hx rfl (hb hby at_184) rfl rfl k) ?_
                obtain ⟨cq200, kq200, q200a, q200b, q200c⟩ := isOf hZ rfl g187
                obtain ⟨_, _, ⟨T199, L199, k199, n199⟩, -, X199, ⟨Lc199, hQ199, lq199, yq199, zq199⟩, st199⟩ := X191.virtualBack hx (y := (⟨"com/example/strandcast/strandcast/query/Interval", "isPoint", "()Z"⟩ : MethodName)) (z := (⟨"com/example/strandcast/strandcast/query/Interval", "isPoint", "()Z"⟩ : MethodName)) hown (mvT hZ (hw _ (List.mem_of_getElem? (i := 38) rfl))) (mvT hZ (hw _ (List.mem_of_getElem? (i := 39) rfl))) (notFace_of_selects (args := #[]) (mvT hZ (hw _ (List.mem_of_getElem? (i := 41) rfl)))) (mvT hZ (hw _ (List.mem_of_getElem? (i := 41) rfl))) (mvT hZ (hw _ (List.mem_of_getElem? (i := 40) rfl))) (by decide) (backOf (W := 0) (rm_ip0 l Z a0 hw [] ad176 T191.heap n0 Z186 g189) hZ (hw _ (List.mem_of_getElem? (i := 42) rfl)) (hw _ (List.mem_of_getElem? (i := 27) rfl)) (by decide) (by decide)) q200a q200c (g := (mkF m 186 #[.val (.int p0), .val (.int p1), .val (.int p2), .val (.ref r1), .val (.ref r4), .val (.int bL), .val (.int bU), .val (.ref ad7), .val (.ref ad15), .val (.int bN), .val (.int sel), .val .null, .val (.ref ad15), .val (.ref ad176), .val (.int (0 : Int32))] [(.ref ad176)])) rfl (by rw [hml]; rfl) (Steps.refl _) (argsL := []) (rest := []) (lenOf pd_6 rfl) rfl (by show 2 * 0 + _ ≤ _; exact Nat.le_of_eq rfl) (hb hby at_186) (fun _ _ => ⟨rfl, rfl, (by decide : 5 + 0 ≤ _), (by decide : 9 + 0 ≤ _)⟩)
                dsimp only [Pt.U, Pt.locs, Pt.cells, Pt.slots] at X199 lq199 yq199 zq199 st199 hQ199
                subst lq199 yq199 zq199
                obtain ⟨rfl, Nq199, eq198⟩ := hQ199
                have N199 := Fr.app N191 Nq199
                refine own_tr (T' := T199) (g' := (mkF m 189 #[.val (.int p0), .val (.int p1), .val (.int p2), .val (.ref r1), .val (.ref r4), .val (.int bL), .val (.int bU), .val (.ref ad7), .val (.ref ad15), .val (.int bN), .val (.int sel), .val .null, .val (.ref ad15), .val (.ref ad176), .val (.int (0 : Int32))] [(.int (0 : Int32))])) st199 ?_
                refine own_step (T' := T199) (g' := (mkF m 191 #[.val (.int p0), .val (.int p1), .val (.int p2), .val (.ref r1), .val (.ref r4), .val (.int bL), .val (.int bU), .val (.ref ad7), .val (.ref ad15), .val (.int bN), .val (.int sel), .val .null, .val (.ref ad15), .val (.ref ad176), .val (.int (0 : Int32))] [(.int (0 : Int32)), (.int (0 : Int32))])) (fun t k => XS.iload X199.here hx rfl (hb hby at_189) rfl k) ?_
                refine own_step (T' := T199) (g' := (mkF m 194 #[.val (.int p0), .val (.int p1), .val (.int p2), .val (.ref r1), .val (.ref r4), .val (.int bL), .val (.int bU), .val (.ref ad7), .val (.ref ad15), .val (.int bN), .val (.int sel), .val .null, .val (.ref ad15), .val (.ref ad176), .val (.int (0 : Int32))] [])) (fun t k => XS.icmpNo X199.here hx rfl (hb hby at_191) rfl (teq (by decide : ((0 : Int32) = (0 : Int32)))).2 k) ?_
                refine own_step (T' := T199) (g' := (mkF m 195 #[.val (.int p0), .val (.int p1), .val (.int p2), .val (.ref r1), .val (.ref r4), .val (.int bL), .val (.int bU), .val (.ref ad7), .val (.ref ad15), .val (.int bN), .val (.int sel), .val .null, .val (.ref ad15), .val (.ref ad176), .val (.int (0 : Int32))] [(.int (1 : Int32))])) (fun t k => XS.iconst X199.here hx rfl (hb hby at_194) k) ?_
                refine own_step (T' := T199) (g' := (mkF m 199 #[.val (.int p0), .val (.int p1), .val (.int p2), .val (.ref r1), .val (.ref r4), .val (.int bL), .val (.int bU), .val (.ref ad7), .val (.ref ad15), .val (.int bN), .val (.int sel), .val .null, .val (.ref ad15), .val (.ref ad176), .val (.int (0 : Int32))] [(.int (1 : Int32))])) (fun t k => XS.goto X199.here hx rfl (pc0 := 195) (pc' := 199) rfl (hb hby at_195) (by decide) (by decide) k) ?_
                refine own_rN X199 hx hlk Bd.returns (by simp) (hb hby at_199) ?_ (by decide) (by decide)
                rw [eq198]
                exact ⟨rfl, N199⟩
      by_cases c83_201 : (p2 &&& (4 : Int32)) = (0 : Int32)
      · refine own_step (T' := T25) (g' := (mkF m 90 #[.val (.int p0), .val (.int p1), .val (.int p2), .val (.ref r1), .val (.ref r4), .val (.int bL), .val (.int bU), .val (.ref ad7), .val (.ref ad15), .unset, .unset, .unset, .unset, .unset, .unset] [])) (fun t k => XS.ifYes X25.here hx rfl (pc0 := 83) (pc' := 90) rfl (hb hby at_83) rfl ((if0 _ _).trans (teq c83_201).1) (by decide) (by decide) k) ?_
        refine own_step (T' := T25) (g' := (mkF m 91 #[.val (.int p0), .val (.int p1), .val (.int p2), .val (.ref r1), .val (.ref r4), .val (.int bL), .val (.int bU), .val (.ref ad7), .val (.ref ad15), .unset, .unset, .unset, .unset, .unset, .unset] [(.int (0 : Int32))])) (fun t k => XS.iconst X25.here hx rfl (hb hby at_90) k) ?_
        exact j91 _ (Or.inl rfl)
      · refine own_step (T' := T25) (g' := (mkF m 86 #[.val (.int p0), .val (.int p1), .val (.int p2), .val (.ref r1), .val (.ref r4), .val (.int bL), .val (.int bU), .val (.ref ad7), .val (.ref ad15), .unset, .unset, .unset, .unset, .unset, .unset] [])) (fun t k => XS.ifNo X25.here hx rfl (hb hby at_83) rfl ((if0 _ _).trans (feq c83_201).1) k) ?_
        refine own_step (T' := T25) (g' := (mkF m 87 #[.val (.int p0), .val (.int p1), .val (.int p2), .val (.ref r1), .val (.ref r4), .val (.int bL), .val (.int bU), .val (.ref ad7), .val (.ref ad15), .unset, .unset, .unset, .unset, .unset, .unset] [(.int (1 : Int32))])) (fun t k => XS.iconst X25.here hx rfl (hb hby at_86) k) ?_
        refine own_step (T' := T25) (g' := (mkF m 91 #[.val (.int p0), .val (.int p1), .val (.int p2), .val (.ref r1), .val (.ref r4), .val (.int bL), .val (.int bU), .val (.ref ad7), .val (.ref ad15), .unset, .unset, .unset, .unset, .unset, .unset] [(.int (1 : Int32))])) (fun t k => XS.goto X25.here hx rfl (pc0 := 87) (pc' := 91) rfl (hb hby at_87) (by decide) (by decide) k) ?_
        exact j91 _ (Or.inr rfl)
    by_cases c26_202 : p0 = p1
    · refine own_step (T' := T6) (g' := (mkF m 29 #[.val (.int p0), .val (.int p1), .val (.int p2), .val (.ref r1), .val (.ref r4), .val (.int bL), .unset, .unset, .unset, .unset, .unset, .unset, .unset, .unset, .unset] [])) (fun t k => XS.icmpNo X6.here hx rfl (hb hby at_26) rfl (teq c26_202).2 k) ?_
      refine own_step (T' := T6) (g' := (mkF m 31 #[.val (.int p0), .val (.int p1), .val (.int p2), .val (.ref r1), .val (.ref r4), .val (.int bL), .unset, .unset, .unset, .unset, .unset, .unset, .unset, .unset, .unset] [(.int bL)])) (fun t k => XS.iload X6.here hx rfl (hb hby at_29) rfl k) ?_
      by_cases c31_203 : bL = (0 : Int32)
      · refine own_step (T' := T6) (g' := (mkF m 34 #[.val (.int p0), .val (.int p1), .val (.int p2), .val (.ref r1), .val (.ref r4), .val (.int bL), .unset, .unset, .unset, .unset, .unset, .unset, .unset, .unset, .unset] [])) (fun t k => XS.ifNo X6.here hx rfl (hb hby at_31) rfl ((if0 _ _).trans (teq c31_203).2) k) ?_
        refine own_step (T' := T6) (g' := (mkF m 35 #[.val (.int p0), .val (.int p1), .val (.int p2), .val (.ref r1), .val (.ref r4), .val (.int bL), .unset, .unset, .unset, .unset, .unset, .unset, .unset, .unset, .unset] [(.int (1 : Int32))])) (fun t k => XS.iconst X6.here hx rfl (hb hby at_34) k) ?_
        refine own_step (T' := T6) (g' := (mkF m 53 #[.val (.int p0), .val (.int p1), .val (.int p2), .val (.ref r1), .val (.ref r4), .val (.int bL), .unset, .unset, .unset, .unset, .unset, .unset, .unset, .unset, .unset] [(.int (1 : Int32))])) (fun t k => XS.goto X6.here hx rfl (pc0 := 35) (pc' := 53) rfl (hb hby at_35) (by decide) (by decide) k) ?_
        exact j53 _ (Or.inr rfl)
      · refine own_step (T' := T6) (g' := (mkF m 38 #[.val (.int p0), .val (.int p1), .val (.int p2), .val (.ref r1), .val (.ref r4), .val (.int bL), .unset, .unset, .unset, .unset, .unset, .unset, .unset, .unset, .unset] [])) (fun t k => XS.ifYes X6.here hx rfl (pc0 := 31) (pc' := 38) rfl (hb hby at_31) rfl ((if0 _ _).trans (feq c31_203).2) (by decide) (by decide) k) ?_
        refine own_step (T' := T6) (g' := (mkF m 39 #[.val (.int p0), .val (.int p1), .val (.int p2), .val (.ref r1), .val (.ref r4), .val (.int bL), .unset, .unset, .unset, .unset, .unset, .unset, .unset, .unset, .unset] [(.int (0 : Int32))])) (fun t k => XS.iconst X6.here hx rfl (hb hby at_38) k) ?_
        refine own_step (T' := T6) (g' := (mkF m 53 #[.val (.int p0), .val (.int p1), .val (.int p2), .val (.ref r1), .val (.ref r4), .val (.int bL), .unset, .unset, .unset, .unset, .unset, .unset, .unset, .unset, .unset] [(.int (0 : Int32))])) (fun t k => XS.goto X6.here hx rfl (pc0 := 39) (pc' := 53) rfl (hb hby at_39) (by decide) (by decide) k) ?_
        exact j53 _ (Or.inl rfl)
    · refine own_step (T' := T6) (g' := (mkF m 42 #[.val (.int p0), .val (.int p1), .val (.int p2), .val (.ref r1), .val (.ref r4), .val (.int bL), .unset, .unset, .unset, .unset, .unset, .unset, .unset, .unset, .unset] [])) (fun t k => XS.icmpYes X6.here hx rfl (pc0 := 26) (pc' := 42) rfl (hb hby at_26) rfl (feq c26_202).2 (by decide) (by decide) k) ?_
      refine own_step (T' := T6) (g' := (mkF m 43 #[.val (.int p0), .val (.int p1), .val (.int p2), .val (.ref r1), .val (.ref r4), .val (.int bL), .unset, .unset, .unset, .unset, .unset, .unset, .unset, .unset, .unset] [(.int p2)])) (fun t k => XS.iloadN X6.here hx rfl (hb hby at_42) rfl k) ?_
      refine own_step (T' := T6) (g' := (mkF m 44 #[.val (.int p0), .val (.int p1), .val (.int p2), .val (.ref r1), .val (.ref r4), .val (.int bL), .unset, .unset, .unset, .unset, .unset, .unset, .unset, .unset, .unset] [(.int (2 : Int32)), (.int p2)])) (fun t k => XS.iconst X6.here hx rfl (hb hby at_43) k) ?_
      refine own_step (T' := T6) (g' := (mkF m 45 #[.val (.int p0), .val (.int p1), .val (.int p2), .val (.ref r1), .val (.ref r4), .val (.int bL), .unset, .unset, .unset, .unset, .unset, .unset, .unset, .unset, .unset] [(.int (p2 &&& (2 : Int32)))])) (fun t k => XS.iand X6.here hx rfl (hb hby at_44) rfl k) ?_
      by_cases c45_204 : (p2 &&& (2 : Int32)) = (0 : Int32)
      · refine own_step (T' := T6) (g' := (mkF m 52 #[.val (.int p0), .val (.int p1), .val (.int p2), .val (.ref r1), .val (.ref r4), .val (.int bL), .unset, .unset, .unset, .unset, .unset, .unset, .unset, .unset, .unset] [])) (fun t k => XS.ifYes X6.here hx rfl (pc0 := 45) (pc' := 52) rfl (hb hby at_45) rfl ((if0 _ _).trans (teq c45_204).1) (by decide) (by decide) k) ?_
        refine own_step (T' := T6) (g' := (mkF m 53 #[.val (.int p0), .val (.int p1), .val (.int p2), .val (.ref r1), .val (.ref r4), .val (.int bL), .unset, .unset, .unset, .unset, .unset, .unset, .unset, .unset, .unset] [(.int (0 : Int32))])) (fun t k => XS.iconst X6.here hx rfl (hb hby at_52) k) ?_
        exact j53 _ (Or.inl rfl)
      · refine own_step (T' := T6) (g' := (mkF m 48 #[.val (.int p0), .val (.int p1), .val (.int p2), .val (.ref r1), .val (.ref r4), .val (.int bL), .unset, .unset, .unset, .unset, .unset, .unset, .unset, .unset, .unset] [])) (fun t k => XS.ifNo X6.here hx rfl (hb hby at_45) rfl ((if0 _ _).trans (feq c45_204).1) k) ?_
        refine own_step (T' := T6) (g' := (mkF m 49 #[.val (.int p0), .val (.int p1), .val (.int p2), .val (.ref r1), .val (.ref r4), .val (.int bL), .unset, .unset, .unset, .unset, .unset, .unset, .unset, .unset, .unset] [(.int (1 : Int32))])) (fun t k => XS.iconst X6.here hx rfl (hb hby at_48) k) ?_
        refine own_step (T' := T6) (g' := (mkF m 53 #[.val (.int p0), .val (.int p1), .val (.int p2), .val (.ref r1), .val (.ref r4), .val (.int bL), .unset, .unset, .unset, .unset, .unset, .unset, .unset, .unset, .unset] [(.int (1 : Int32))])) (fun t k => XS.goto X6.here hx rfl (pc0 := 49) (pc' := 53) rfl (hb hby at_49) (by decide) (by decide) k) ?_
        exact j53 _ (Or.inr rfl)
  by_cases c14_205 : (p2 &&& (1 : Int32)) = (0 : Int32)
  · refine own_step (T' := T6) (g' := (mkF m 21 #[.val (.int p0), .val (.int p1), .val (.int p2), .val (.ref r1), .val (.ref r4), .unset, .unset, .unset, .unset, .unset, .unset, .unset, .unset, .unset, .unset] [])) (fun t k => XS.ifYes X6.here hx rfl (pc0 := 14) (pc' := 21) rfl (hb hby at_14) rfl ((if0 _ _).trans (teq c14_205).1) (by decide) (by decide) k) ?_
    refine own_step (T' := T6) (g' := (mkF m 22 #[.val (.int p0), .val (.int p1), .val (.int p2), .val (.ref r1), .val (.ref r4), .unset, .unset, .unset, .unset, .unset, .unset, .unset, .unset, .unset, .unset] [(.int (0 : Int32))])) (fun t k => XS.iconst X6.here hx rfl (hb hby at_21) k) ?_
    exact j22 _ (Or.inl rfl)
  · refine own_step (T' := T6) (g' := (mkF m 17 #[.val (.int p0), .val (.int p1), .val (.int p2), .val (.ref r1), .val (.ref r4), .unset, .unset, .unset, .unset, .unset, .unset, .unset, .unset, .unset, .unset] [])) (fun t k => XS.ifNo X6.here hx rfl (hb hby at_14) rfl ((if0 _ _).trans (feq c14_205).1) k) ?_
    refine own_step (T' := T6) (g' := (mkF m 18 #[.val (.int p0), .val (.int p1), .val (.int p2), .val (.ref r1), .val (.ref r4), .unset, .unset, .unset, .unset, .unset, .unset, .unset, .unset, .unset, .unset] [(.int (1 : Int32))])) (fun t k => XS.iconst X6.here hx rfl (hb hby at_17) k) ?_
    refine own_step (T' := T6) (g' := (mkF m 22 #[.val (.int p0), .val (.int p1), .val (.int p2), .val (.ref r1), .val (.ref r4), .unset, .unset, .unset, .unset, .unset, .unset, .unset, .unset, .unset, .unset] [(.int (1 : Int32))])) (fun t k => XS.goto X6.here hx rfl (pc0 := 18) (pc' := 22) rfl (hb hby at_18) (by decide) (by decide) k) ?_
    exact j22 _ (Or.inr rfl)
set_option maxRecDepth 65536 in
set_option maxHeartbeats 40000000 in
theorem comes_1 {Post : Tables → Env → Array Value → State → Outcome → State → Prop} (hpost : ∀ tb e args s v u, (limb_1_1.after args s (.returned v) u = true ∧ limb_1_2.after args s (.returned v) u = true ∧ True) → FrameEnd s (.returned v) u (Jvm.fieldLocs frame_1_writes args s ++ Jvm.arrayLocs frame_1_arrays args s ++ Jvm.staticLocs frame_1_statics s) 24 128 → Post tb e args s (.returned v) u) :
    ArmFor flags0 classFile x code maxLocals ret World_1 tables_1 room_1 Calls_1 rest_1 Pre_1 Post := by
  intro l hfl _ _ p e ha hc hk s m args below hf hA hF happ hP
  obtain ⟨hcalls, hrest, hpre⟩ := hP
  obtain ⟨-, -, -, hnamed, -, -, -, hat⟩ := (Spec.applies_iff hf).mp happ
  obtain ⟨hg, hn⟩ := and_e (Cond.before_iff.mp (show (Jvm.Cond.and given_1 narrow_1).before args s = true from hpre))
  obtain ⟨hc0, hg0⟩ := and_e hg
  obtain ⟨hc1, hg1⟩ := and_e hg0
  obtain ⟨hc2, hg2⟩ := and_e hg1
  obtain ⟨w0, w1, w2, rfl⟩ : ∃ w0 w1 w2 : Value, args = #[w0, w1, w2] := by
    have hs : args.size = 3 := by simpa [Cond.value, given_1] using hc0
    obtain ⟨L⟩ := args
    match L, hs with
    | [w0, w1, w2], _ => exact ⟨w0, w1, w2, rfl⟩
  have hw := fun d (hd : d ∈ tables_1) => atoms_spec (ws := Jvm.Cond.code x code maxLocals ret :: tables_1) hat d (List.mem_cons_of_mem _ hd)
  have hfit : Fit s := fun {y c} hc i hi => by
    obtain ⟨ha, rfl⟩ := Array.getElem?_eq_some_iff.mp hc
    have q := List.all_eq_true.mp ((Array.all_eq_true_iff_forall_mem.mp hF) _ (Array.getElem_mem ha)) i (List.mem_range.mpr hi)
    simpa [Array.getElem?_eq_getElem hi] using q
  obtain ⟨i0, ev0⟩ := is_v hc1
  obtain rfl : w0 = (.int i0) := Option.some.inj ev0
  obtain ⟨i1, ev1⟩ := is_v hc2
  obtain rfl : w1 = (.int i1) := Option.some.inj ev1
  obtain ⟨i2, ev2⟩ := is_v hg2
  obtain rfl : w2 = (.int i2) := Option.some.inj ev2
  obtain ⟨hsets, hown0⟩ := atoms_of _ (rest_1_c_eq ▸ (show rest_1_c.before _ s = true from hrest))
  have g3 := Cond.before_iff.mp (hsets _ (List.mem_of_getElem? (i := 3) rfl))
  have g4 := Cond.before_iff.mp (hsets _ (List.mem_of_getElem? (i := 4) rfl))
  have g6 := Cond.before_iff.mp (hsets _ (List.mem_of_getElem? (i := 6) rfl))
  have g7 := Cond.before_iff.mp (hsets _ (List.mem_of_getElem? (i := 7) rfl))
  have S_h : Sta s s.heap "java/lang/Integer$IntegerCache" "high" "I" (.int (127 : Int32)) := Sta.start (own_eqI g3) (Or.inl (hsets _ (List.mem_of_getElem? (i := 1) rfl)))
  obtain ⟨ca, evA⟩ := arr_v g4
  have S_c : Sta s s.heap "java/lang/Integer$IntegerCache" "cache" "[Ljava/lang/Integer;" (.ref ca) := Sta.start evA (Or.inr ⟨(hw _ (List.mem_of_getElem? (i := 5) rfl)), (hsets _ (List.mem_of_getElem? (i := 2) rfl))⟩)
  obtain ⟨cc, A_c⟩ := Arr.start evA g4
  obtain ⟨lx, ly, l1, l2, l3, l4⟩ := Jvm.Free.SB.Term.length_small (own_eqI g6)
  obtain rfl : lx = ca := Value.ref.inj (Option.some.inj (l1.symm.trans evA))
  obtain rfl : ly = cc := Option.some.inj (l2.symm.trans (Arr.fin (Vm.Alike.refl _) A_c))
  have hsz : ly.slots.size = 256 := own_size l4 (Value.int.inj l3).symm (by decide)
  have H_c : ly.slots.size = 256 ∧ ∀ i, i < 256 → ∃ r, ly.slots[i]? = some (.ref r) := ⟨hsz, own_allrefs g7 (fun idx => evA) l2 hsz⟩
  obtain ⟨n, o, h1, h2, h3, _, L, rfl, ⟨rfl, N⟩, hq⟩ := rm_law l s _ hw tables_1 i0 i1 i2 lx ly s.heap s.heap.size (Nat.le_refl _) (Old.start s) S_h S_c A_c H_c p e ha hc hk s m _ below hf ((Spec.applies_iff_loose hf).mp happ).1 ⟨rfl, State.Warmed39.refl s, rfl⟩ trivial
  refine ⟨n, _, h1, h2, h3, hpost _ _ _ _ _ _ ⟨Cond.after_iff.mpr rfl, Cond.after_iff.mpr (eq_i res_at (Term.int_eval (1)) rfl), trivial⟩ ⟨hq.1, hq.2.1, (hq.2.2.sift fun y hy => Or.inr (N y hy)).mono (by decide) (by decide)⟩⟩
theorem main_1_1 : Claimed_1_1 := comes_1 fun _ _ _ _ _ _ h hF => ⟨h.1, hF⟩
theorem main_1_2 : Claimed_1_2 := comes_1 fun _ _ _ _ _ _ h hF => ⟨h.2.1, hF⟩

end Jvm.Pilot.@@N@@
namespace Jvm.Pilot.@@N@@
open Jvm Jvm.ClassFile Sem Op Lib Jvm.Free Jvm.Stand Jvm.Pilot.@@N@@.Jvm.D
/-! MADE BY PROGRAM (witnessworld.py) out of the Statement's table words and the real class files: 18 classes; the members and pool entries that the words name. The judged class is class 1, her method 1. -/
namespace start1
open Jvm.ClassFile
def u (s : String) : CpInfo := .utf8 (stringToUtf16 s)
/-- a pool by its gaps: so many unusable entries, then the entry; so many at the end -/
def gap : Nat → List CpInfo → List CpInfo
  | 0, r => r
  | n + 1, r => .unusable :: gap n r
def poolList (es : List (Nat × CpInfo)) (last : Nat) : List CpInfo := es.foldr (fun e r => gap e.1 (e.2 :: r)) (gap last [])
def pool (es : List (Nat × CpInfo)) (last : Nat) : Array CpInfo := ⟨poolList es last⟩
def fileOf (pool : Array CpInfo) (this : Nat) (attrs : Array Attribute := #[]) (ms : Array MethodInfo := #[]) (fl : Nat := 33) (sup : Nat := 0) (ifs : Array Nat := #[]) (fds : Array FieldInfo := #[]) : ClassFile where
  minorVersion := 0
  majorVersion := 65
  constantPool := pool
  accessFlags := fl
  thisClass := this
  superClass := sup
  interfaces := ifs
  fields := fds
  methods := ms
  attributes := attrs
def plain (name : String) (sup : Option ClassId) : Class where
  name := name
  kind := .ordinary
  loader := none
  accessFlags := 33
  super := sup
  interfaces := #[]
  cf := none
  fields := #[]
  methods := #[]
  instanceTypes := #[]
  staticTypes := #[]
  resolved := #[]
  callSites := []
  init := .initialized
  statics := none
  mirror := none

def pool0 : Array CpInfo := pool [(5, u "<init>"), (0, u "()V"), (1, .class_ 10), (1, u "java/lang/Object")] 113

def k0c0 : Code := { maxStack := 0, maxLocals := 1, code := object_method_1_code, exceptionTable := #[], attributes := #[] }
def k0m0 : Method := { name := "<init>", desc := "()V", sig := { parameters := [], returnType := none }, accessFlags := 1, code := some k0c0 }
/-- java/lang/Object -/
def k0 : Class := { plain "java/lang/Object" none with
  accessFlags := 33
  interfaces := #[]
  cf := some (fileOf pool0 8 #[] #[{ accessFlags := 1, nameIndex := 5, descriptorIndex := 6, attributes := #[] }] 33 0 #[] #[])
  fields := #[]
  methods := #[k0m0]
  instanceTypes := #[]
  staticTypes := #[]
  resolved := Array.replicate 124 none
  statics := none }

def pool1 : Array CpInfo := pool [(2, .class_ 4), (1, u "java/lang/Object"), (0, u "<init>"), (0, u "()V"), (0, .methodref 8 9), (0, .class_ 10), (0, .nameAndType 11 12), (0, u "java/lang/Integer"), (0, u "valueOf"), (0, u "(I)Ljava/lang/Integer;"), (0, .class_ 14), (0, u "com/example/strandcast/strandcast/query/Interval$Bound"), (0, .methodref 13 16), (0, .nameAndType 5 17), (0, u "(Ljava/lang/Object;Z)V"), (0, .methodref 19 20), (0, .class_ 21), (0, .nameAndType 22 23), (0, u "com/example/strandcast/strandcast/query/Interval"), (0, u "point"), (0, u "(Ljava/lang/Object;)Lcom/example/strandcast/strandcast/query/Interval;"), (0, .methodref 19 25), (0, .nameAndType 26 27), (0, u "isPoint"), (0, u "()Z"), (0, .methodref 19 29), (0, .nameAndType 5 30), (0, u "(Ljava/lang/Object;Lcom/example/strandcast/strandcast/query/Interval$Bound;Lcom/example/strandcast/strandcast/query/Interval$Bound;)V"), (0, .class_ 32), (0, u "com/example/strandcast/strandcast/query/IntervalIsPointPinLaw"), (2, u "law"), (0, u "(III)Z")] 5

def k1m0 : Method := { name := "<init>", desc := "()V", sig := { parameters := [], returnType := none }, accessFlags := 1, code := none }
def k1c1 : Code := { maxStack := 5, maxLocals := 15, code := code, exceptionTable := #[], attributes := #[] }
def k1m1 : Method := { name := "law", desc := "(III)Z", sig := { parameters := [.int, .int, .int], returnType := some .boolean }, accessFlags := 9, code := some k1c1 }
/-- com/example/strandcast/strandcast/query/IntervalIsPointPinLaw -/
def k1 : Class := { plain "com/example/strandcast/strandcast/query/IntervalIsPointPinLaw" (some 0) with
  accessFlags := 49
  interfaces := #[]
  cf := some (fileOf pool1 31 #[] #[{ accessFlags := 1, nameIndex := 5, descriptorIndex := 6, attributes := #[] }, { accessFlags := 9, nameIndex := 35, descriptorIndex := 36, attributes := #[] }] 49 2 #[] #[])
  fields := #[]
  methods := #[k1m0, k1m1]
  instanceTypes := #[]
  staticTypes := #[]
  resolved := Array.replicate 42 none
  statics := none }

def pool2 : Array CpInfo := pool [(1, .class_ 2), (0, u "java/io/Serializable"), (0, .class_ 4), (0, u "java/lang/Object")] 2

/-- java/io/Serializable -/
def k2 : Class := { plain "java/io/Serializable" (some 0) with
  accessFlags := 1537
  interfaces := #[]
  cf := some (fileOf pool2 1 #[] #[] 1537 3 #[] #[])
  fields := #[]
  methods := #[]
  instanceTypes := #[]
  staticTypes := #[]
  resolved := Array.replicate 7 none
  statics := none }

def pool3 : Array CpInfo := pool [(1, .methodref 2 3), (0, .class_ 4), (0, .nameAndType 5 6), (0, u "java/lang/Object"), (0, u "<init>"), (0, u "()V"), (1, .class_ 10), (1, u "java/lang/Number"), (2, .class_ 14), (0, u "java/io/Serializable"), (0, u "serialVersionUID"), (0, u "J")] 20

def k3c0 : Code := { maxStack := 1, maxLocals := 1, code := jdk_18_method_1_code, exceptionTable := #[], attributes := #[] }
def k3m0 : Method := { name := "<init>", desc := "()V", sig := { parameters := [], returnType := none }, accessFlags := 1, code := some k3c0 }
/-- java/lang/Number -/
def k3 : Class := { plain "java/lang/Number" (some 0) with
  accessFlags := 1057
  interfaces := #[2]
  cf := some (fileOf pool3 8 #[] #[{ accessFlags := 1, nameIndex := 5, descriptorIndex := 6, attributes := #[] }] 1057 2 #[13] #[{ accessFlags := 26, nameIndex := 15, descriptorIndex := 16, attributes := #[] }])
  fields := #[{ name := "serialVersionUID", type := .long, accessFlags := 26, slot := 0, constantValue := 0 }]
  methods := #[k3m0]
  instanceTypes := #[]
  staticTypes := #[.long]
  resolved := Array.replicate 37 none
  statics := none }

def pool4 : Array CpInfo := pool [(1, .class_ 2), (0, u "java/lang/Comparable"), (0, .class_ 4), (0, u "java/lang/Object")] 7

/-- java/lang/Comparable -/
def k4 : Class := { plain "java/lang/Comparable" (some 0) with
  accessFlags := 1537
  interfaces := #[]
  cf := some (fileOf pool4 1 #[] #[] 1537 3 #[] #[])
  fields := #[]
  methods := #[]
  instanceTypes := #[]
  staticTypes := #[]
  resolved := Array.replicate 12 none
  statics := none }

def pool5 : Array CpInfo := pool [(1, .class_ 2), (0, u "java/lang/constant/Constable"), (0, .class_ 4), (0, u "java/lang/Object")] 6

/-- java/lang/constant/Constable -/
def k5 : Class := { plain "java/lang/constant/Constable" (some 0) with
  accessFlags := 1537
  interfaces := #[]
  cf := some (fileOf pool5 1 #[] #[] 1537 3 #[] #[])
  fields := #[]
  methods := #[]
  instanceTypes := #[]
  staticTypes := #[]
  resolved := Array.replicate 11 none
  statics := none }

def pool6 : Array CpInfo := pool [(1, .class_ 2), (0, u "java/lang/constant/ConstantDesc"), (0, .class_ 4), (0, u "java/lang/Object")] 32

/-- java/lang/constant/ConstantDesc -/
def k6 : Class := { plain "java/lang/constant/ConstantDesc" (some 0) with
  accessFlags := 1537
  interfaces := #[]
  cf := some (fileOf pool6 1 #[] #[] 1537 3 #[] #[])
  fields := #[]
  methods := #[]
  instanceTypes := #[]
  staticTypes := #[]
  resolved := Array.replicate 37 none
  statics := none }

def pool7 : Array CpInfo := pool [(1, .class_ 2), (0, u "java/lang/Integer"), (16, u "digits"), (0, u "[C"), (46, u "<init>"), (17, u "DigitOnes"), (0, u "[B"), (2, u "DigitTens"), (10, .nameAndType 67 101), (0, u "()V"), (85, u "valueOf"), (0, u "(I)Ljava/lang/Integer;"), (0, .class_ 190), (0, u "java/lang/Integer$IntegerCache"), (0, .fieldref 189 192), (0, .nameAndType 193 194), (0, u "high"), (0, u "I"), (0, .fieldref 189 196), (0, .nameAndType 197 198), (0, u "cache"), (0, u "[Ljava/lang/Integer;"), (0, .methodref 1 200), (0, .nameAndType 67 201), (0, u "(I)V"), (0, .methodref 203 100), (0, .class_ 204), (0, u "java/lang/Number"), (0, .fieldref 1 206), (0, .nameAndType 207 194), (0, u "value"), (94, u "TYPE"), (0, u "Ljava/lang/Class;"), (0, .class_ 305), (0, u "java/lang/Comparable"), (0, .class_ 307), (0, u "java/lang/constant/Constable"), (0, .class_ 309), (0, u "java/lang/constant/ConstantDesc"), (0, u "MIN_VALUE"), (1, u "MAX_VALUE"), (3, u "SIZE"), (1, u "BYTES"), (1, u "serialVersionUID"), (0, u "J")] 131

def k7c0 : Code := { maxStack := 3, maxLocals := 1, code := jdk_33_method_22_code, exceptionTable := #[], attributes := #[] }
def k7m0 : Method := { name := "valueOf", desc := "(I)Ljava/lang/Integer;", sig := { parameters := [.int], returnType := some (.object "java/lang/Integer") }, accessFlags := 9, code := some k7c0 }
def k7c1 : Code := { maxStack := 2, maxLocals := 2, code := jdk_33_method_23_code, exceptionTable := #[], attributes := #[] }
def k7m1 : Method := { name := "<init>", desc := "(I)V", sig := { parameters := [.int], returnType := none }, accessFlags := 1, code := some k7c1 }
/-- java/lang/Integer -/
def k7 : Class := { plain "java/lang/Integer" (some 3) with
  accessFlags := 49
  interfaces := #[4, 5, 6]
  cf := some (fileOf pool7 1 #[.nestMembers #[189]] #[{ accessFlags := 9, nameIndex := 187, descriptorIndex := 188, attributes := #[] }, { accessFlags := 1, nameIndex := 67, descriptorIndex := 201, attributes := #[] }] 49 203 #[304, 306, 308] #[{ accessFlags := 25, nameIndex := 310, descriptorIndex := 194, attributes := #[] }, { accessFlags := 25, nameIndex := 312, descriptorIndex := 194, attributes := #[] }, { accessFlags := 25, nameIndex := 302, descriptorIndex := 303, attributes := #[] }, { accessFlags := 24, nameIndex := 19, descriptorIndex := 20, attributes := #[] }, { accessFlags := 24, nameIndex := 89, descriptorIndex := 86, attributes := #[] }, { accessFlags := 24, nameIndex := 85, descriptorIndex := 86, attributes := #[] }, { accessFlags := 18, nameIndex := 207, descriptorIndex := 194, attributes := #[] }, { accessFlags := 25, nameIndex := 316, descriptorIndex := 194, attributes := #[] }, { accessFlags := 25, nameIndex := 318, descriptorIndex := 194, attributes := #[] }, { accessFlags := 26, nameIndex := 320, descriptorIndex := 321, attributes := #[] }])
  fields := #[{ name := "MIN_VALUE", type := .int, accessFlags := 25, slot := 0, constantValue := 0 }, { name := "MAX_VALUE", type := .int, accessFlags := 25, slot := 1, constantValue := 0 }, { name := "TYPE", type := (.object "java/lang/Class"), accessFlags := 25, slot := 2, constantValue := 0 }, { name := "digits", type := (.array .char), accessFlags := 24, slot := 3, constantValue := 0 }, { name := "DigitTens", type := (.array .byte), accessFlags := 24, slot := 4, constantValue := 0 }, { name := "DigitOnes", type := (.array .byte), accessFlags := 24, slot := 5, constantValue := 0 }, { name := "value", type := .int, accessFlags := 18, slot := 0, constantValue := 0 }, { name := "SIZE", type := .int, accessFlags := 25, slot := 6, constantValue := 0 }, { name := "BYTES", type := .int, accessFlags := 25, slot := 7, constantValue := 0 }, { name := "serialVersionUID", type := .long, accessFlags := 26, slot := 8, constantValue := 0 }]
  methods := #[k7m0, k7m1]
  instanceTypes := #[.int]
  staticTypes := #[.int, .int, (.object "java/lang/Class"), (.array .char), (.array .byte), (.array .byte), .int, .int, .long]
  resolved := Array.replicate 453 none
  statics := none }

def pool8 : Array CpInfo := pool [(2, .class_ 4), (1, u "java/lang/Object"), (0, u "<init>"), (0, u "()V"), (0, .class_ 8), (0, u "java/lang/Integer"), (7, .class_ 18), (1, u "java/lang/Integer$IntegerCache"), (0, u "$assertionsDisabled"), (0, u "Z"), (26, u "high"), (0, u "I"), (8, u "archivedCache"), (0, u "[Ljava/lang/Integer;"), (12, u "cache"), (0, u "low")] 27

def k8m0 : Method := { name := "<init>", desc := "()V", sig := { parameters := [], returnType := none }, accessFlags := 2, code := none }
/-- java/lang/Integer$IntegerCache -/
def k8 : Class := { plain "java/lang/Integer$IntegerCache" (some 0) with
  accessFlags := 48
  interfaces := #[]
  cf := some (fileOf pool8 16 #[.nestHost 7] #[{ accessFlags := 2, nameIndex := 5, descriptorIndex := 6, attributes := #[] }] 48 2 #[] #[{ accessFlags := 24, nameIndex := 72, descriptorIndex := 48, attributes := #[] }, { accessFlags := 24, nameIndex := 47, descriptorIndex := 48, attributes := #[] }, { accessFlags := 24, nameIndex := 71, descriptorIndex := 58, attributes := #[] }, { accessFlags := 8, nameIndex := 57, descriptorIndex := 58, attributes := #[] }, { accessFlags := 4120, nameIndex := 19, descriptorIndex := 20, attributes := #[] }])
  fields := #[{ name := "low", type := .int, accessFlags := 24, slot := 0, constantValue := 0 }, { name := "high", type := .int, accessFlags := 24, slot := 1, constantValue := 0 }, { name := "cache", type := (.array (.object "java/lang/Integer")), accessFlags := 24, slot := 2, constantValue := 0 }, { name := "archivedCache", type := (.array (.object "java/lang/Integer")), accessFlags := 8, slot := 3, constantValue := 0 }, { name := "$assertionsDisabled", type := .boolean, accessFlags := 4120, slot := 4, constantValue := 0 }]
  methods := #[k8m0]
  instanceTypes := #[]
  staticTypes := #[.int, .int, (.array (.object "java/lang/Integer")), (.array (.object "java/lang/Integer")), .boolean]
  resolved := Array.replicate 100 none
  statics := some 0 }

def pool9 : Array CpInfo := pool [(1, .methodref 2 3), (0, .class_ 4), (0, .nameAndType 5 6), (0, u "java/lang/Object"), (0, u "<init>"), (0, u "()V"), (0, .class_ 8), (0, u "java/lang/Record")] 13

def k9c0 : Code := { maxStack := 1, maxLocals := 1, code := jdk_30_method_1_code, exceptionTable := #[], attributes := #[] }
def k9m0 : Method := { name := "<init>", desc := "()V", sig := { parameters := [], returnType := none }, accessFlags := 4, code := some k9c0 }
/-- java/lang/Record -/
def k9 : Class := { plain "java/lang/Record" (some 0) with
  accessFlags := 1057
  interfaces := #[]
  cf := some (fileOf pool9 7 #[] #[{ accessFlags := 4, nameIndex := 5, descriptorIndex := 6, attributes := #[] }] 1057 2 #[] #[])
  fields := #[]
  methods := #[k9m0]
  instanceTypes := #[]
  staticTypes := #[]
  resolved := Array.replicate 22 none
  statics := none }

def pool10 : Array CpInfo := pool [(1, .methodref 2 3), (0, .class_ 4), (0, .nameAndType 5 6), (0, u "java/lang/Record"), (0, u "<init>"), (0, u "()V"), (0, .fieldref 8 9), (0, .class_ 10), (0, .nameAndType 11 12), (0, u "com/example/strandcast/strandcast/query/Interval$Bound"), (0, u "value"), (0, u "Ljava/lang/Object;"), (0, .fieldref 8 14), (0, .nameAndType 15 16), (0, u "inclusive"), (0, u "Z"), (12, u "(Ljava/lang/Object;Z)V"), (11, .class_ 42), (0, u "com/example/strandcast/strandcast/query/Interval")] 20

def k10c0 : Code := { maxStack := 2, maxLocals := 3, code := prog_39_method_1_code, exceptionTable := #[], attributes := #[] }
def k10m0 : Method := { name := "<init>", desc := "(Ljava/lang/Object;Z)V", sig := { parameters := [(.object "java/lang/Object"), .boolean], returnType := none }, accessFlags := 1, code := some k10c0 }
/-- com/example/strandcast/strandcast/query/Interval$Bound -/
def k10 : Class := { plain "com/example/strandcast/strandcast/query/Interval$Bound" (some 9) with
  accessFlags := 49
  interfaces := #[]
  cf := some (fileOf pool10 8 #[.nestHost 41] #[{ accessFlags := 1, nameIndex := 5, descriptorIndex := 29, attributes := #[] }] 49 2 #[] #[{ accessFlags := 18, nameIndex := 11, descriptorIndex := 12, attributes := #[] }, { accessFlags := 18, nameIndex := 15, descriptorIndex := 16, attributes := #[] }])
  fields := #[{ name := "value", type := (.object "java/lang/Object"), accessFlags := 18, slot := 0, constantValue := 0 }, { name := "inclusive", type := .boolean, accessFlags := 18, slot := 1, constantValue := 0 }]
  methods := #[k10m0]
  instanceTypes := #[(.object "java/lang/Object"), .boolean]
  staticTypes := #[]
  resolved := Array.replicate 63 none
  statics := none }

def pool11 : Array CpInfo := pool [(1, .methodref 2 3), (0, .class_ 4), (0, .nameAndType 5 6), (0, u "java/lang/Record"), (0, u "<init>"), (0, u "()V"), (0, .fieldref 8 9), (0, .class_ 10), (0, .nameAndType 11 12), (0, u "com/example/strandcast/strandcast/query/Interval"), (0, u "kind"), (0, u "Ljava/lang/Object;"), (0, .fieldref 8 14), (0, .nameAndType 15 16), (0, u "lower"), (0, u "Lcom/example/strandcast/strandcast/query/Interval$Bound;"), (0, .fieldref 8 18), (0, .nameAndType 19 16), (0, u "upper"), (0, .class_ 21), (0, u "com/example/strandcast/strandcast/query/Interval$Bound"), (0, .methodref 20 23), (0, .nameAndType 5 24), (0, u "(Ljava/lang/Object;Z)V"), (0, .methodref 8 26), (0, .nameAndType 5 27), (0, u "(Ljava/lang/Object;Lcom/example/strandcast/strandcast/query/Interval$Bound;Lcom/example/strandcast/strandcast/query/Interval$Bound;)V"), (15, u "point"), (0, u "(Ljava/lang/Object;)Lcom/example/strandcast/strandcast/query/Interval;"), (0, u "isPoint"), (0, u "()Z")] 30

def k11c0 : Code := { maxStack := 2, maxLocals := 4, code := prog_38_method_1_code, exceptionTable := #[], attributes := #[] }
def k11m0 : Method := { name := "<init>", desc := "(Ljava/lang/Object;Lcom/example/strandcast/strandcast/query/Interval$Bound;Lcom/example/strandcast/strandcast/query/Interval$Bound;)V", sig := { parameters := [(.object "java/lang/Object"), (.object "com/example/strandcast/strandcast/query/Interval$Bound"), (.object "com/example/strandcast/strandcast/query/Interval$Bound")], returnType := none }, accessFlags := 1, code := some k11c0 }
def k11c1 : Code := { maxStack := 5, maxLocals := 2, code := prog_38_method_2_code, exceptionTable := #[], attributes := #[] }
def k11m1 : Method := { name := "point", desc := "(Ljava/lang/Object;)Lcom/example/strandcast/strandcast/query/Interval;", sig := { parameters := [(.object "java/lang/Object")], returnType := some (.object "com/example/strandcast/strandcast/query/Interval") }, accessFlags := 8, code := some k11c1 }
def k11c2 : Code := { maxStack := 2, maxLocals := 1, code := prog_38_method_3_code, exceptionTable := #[], attributes := #[] }
def k11m2 : Method := { name := "isPoint", desc := "()Z", sig := { parameters := [], returnType := some .boolean }, accessFlags := 1, code := some k11c2 }
/-- com/example/strandcast/strandcast/query/Interval -/
def k11 : Class := { plain "com/example/strandcast/strandcast/query/Interval" (some 9) with
  accessFlags := 49
  interfaces := #[]
  cf := some (fileOf pool11 8 #[.nestMembers #[20]] #[{ accessFlags := 1, nameIndex := 5, descriptorIndex := 27, attributes := #[] }, { accessFlags := 8, nameIndex := 43, descriptorIndex := 44, attributes := #[] }, { accessFlags := 1, nameIndex := 45, descriptorIndex := 46, attributes := #[] }] 49 2 #[] #[{ accessFlags := 18, nameIndex := 11, descriptorIndex := 12, attributes := #[] }, { accessFlags := 18, nameIndex := 15, descriptorIndex := 16, attributes := #[] }, { accessFlags := 18, nameIndex := 19, descriptorIndex := 16, attributes := #[] }])
  fields := #[{ name := "kind", type := (.object "java/lang/Object"), accessFlags := 18, slot := 0, constantValue := 0 }, { name := "lower", type := (.object "com/example/strandcast/strandcast/query/Interval$Bound"), accessFlags := 18, slot := 1, constantValue := 0 }, { name := "upper", type := (.object "com/example/strandcast/strandcast/query/Interval$Bound"), accessFlags := 18, slot := 2, constantValue := 0 }]
  methods := #[k11m0, k11m1, k11m2]
  instanceTypes := #[(.object "java/lang/Object"), (.object "com/example/strandcast/strandcast/query/Interval$Bound"), (.object "com/example/strandcast/strandcast/query/Interval$Bound")]
  staticTypes := #[]
  resolved := Array.replicate 77 none
  statics := none }

def pool12 : Array CpInfo := pool [(1, u "java/lang/Cloneable"), (0, .class_ 1), (0, u "java/lang/Object"), (0, .class_ 3)] 3

/-- java/lang/Cloneable -/
def k12 : Class := { plain "java/lang/Cloneable" (some 0) with
  accessFlags := 1537
  interfaces := #[]
  cf := some (fileOf pool12 2 #[] #[] 1537 4 #[] #[])
  fields := #[]
  methods := #[]
  instanceTypes := #[]
  staticTypes := #[]
  resolved := Array.replicate 8 none
  statics := none }

/-- the primitive byte -/
def k13 : Class := { plain "byte" none with kind := .primitive 'B', accessFlags := 0x411 }
/-- [B -/
def k14 : Class := { plain "[B" (some 0) with kind := .array 13 .byte, interfaces := #[12, 2], accessFlags := 1041 }

/-- the primitive int -/
def k15 : Class := { plain "int" none with kind := .primitive 'I', accessFlags := 0x411 }
/-- [I -/
def k16 : Class := { plain "[I" (some 0) with kind := .array 15 .int, interfaces := #[12, 2], accessFlags := 1041 }

/-- [Ljava/lang/Integer; -/
def k17 : Class := { plain "[Ljava/lang/Integer;" (some 0) with kind := .array 7 (.object "java/lang/Integer"), interfaces := #[12, 2], accessFlags := 1041 }

def heap : Heap := #[{ cls := 8, slots := #[.int 0, .int 127, .ref 1, .null, .int 0], vm := .statics 8 },
  { cls := 17, slots := #[.ref 2, .ref 3, .ref 4, .ref 5, .ref 6, .ref 7, .ref 8, .ref 9, .ref 10, .ref 11, .ref 12, .ref 13, .ref 14, .ref 15, .ref 16, .ref 17, .ref 18, .ref 19, .ref 20, .ref 21, .ref 22, .ref 23, .ref 24, .ref 25, .ref 26, .ref 27, .ref 28, .ref 29, .ref 30, .ref 31, .ref 32, .ref 33, .ref 34, .ref 35, .ref 36, .ref 37, .ref 38, .ref 39, .ref 40, .ref 41, .ref 42, .ref 43, .ref 44, .ref 45, .ref 46, .ref 47, .ref 48, .ref 49, .ref 50, .ref 51, .ref 52, .ref 53, .ref 54, .ref 55, .ref 56, .ref 57, .ref 58, .ref 59, .ref 60, .ref 61, .ref 62, .ref 63, .ref 64, .ref 65, .ref 66, .ref 67, .ref 68, .ref 69, .ref 70, .ref 71, .ref 72, .ref 73, .ref 74, .ref 75, .ref 76, .ref 77, .ref 78, .ref 79, .ref 80, .ref 81, .ref 82, .ref 83, .ref 84, .ref 85, .ref 86, .ref 87, .ref 88, .ref 89, .ref 90, .ref 91, .ref 92, .ref 93, .ref 94, .ref 95, .ref 96, .ref 97, .ref 98, .ref 99, .ref 100, .ref 101, .ref 102, .ref 103, .ref 104, .ref 105, .ref 106, .ref 107, .ref 108, .ref 109, .ref 110, .ref 111, .ref 112, .ref 113, .ref 114, .ref 115, .ref 116, .ref 117, .ref 118, .ref 119, .ref 120, .ref 121, .ref 122, .ref 123, .ref 124, .ref 125, .ref 126, .ref 127, .ref 128, .ref 129, .ref 130, .ref 131, .ref 132, .ref 133, .ref 134, .ref 135, .ref 136, .ref 137, .ref 138, .ref 139, .ref 140, .ref 141, .ref 142, .ref 143, .ref 144, .ref 145, .ref 146, .ref 147, .ref 148, .ref 149, .ref 150, .ref 151, .ref 152, .ref 153, .ref 154, .ref 155, .ref 156, .ref 157, .ref 158, .ref 159, .ref 160, .ref 161, .ref 162, .ref 163, .ref 164, .ref 165, .ref 166, .ref 167, .ref 168, .ref 169, .ref 170, .ref 171, .ref 172, .ref 173, .ref 174, .ref 175, .ref 176, .ref 177, .ref 178, .ref 179, .ref 180, .ref 181, .ref 182, .ref 183, .ref 184, .ref 185, .ref 186, .ref 187, .ref 188, .ref 189, .ref 190, .ref 191, .ref 192, .ref 193, .ref 194, .ref 195, .ref 196, .ref 197, .ref 198, .ref 199, .ref 200, .ref 201, .ref 202, .ref 203, .ref 204, .ref 205, .ref 206, .ref 207, .ref 208, .ref 209, .ref 210, .ref 211, .ref 212, .ref 213, .ref 214, .ref 215, .ref 216, .ref 217, .ref 218, .ref 219, .ref 220, .ref 221, .ref 222, .ref 223, .ref 224, .ref 225, .ref 226, .ref 227, .ref 228, .ref 229, .ref 230, .ref 231, .ref 232, .ref 233, .ref 234, .ref 235, .ref 236, .ref 237, .ref 238, .ref 239, .ref 240, .ref 241, .ref 242, .ref 243, .ref 244, .ref 245, .ref 246, .ref 247, .ref 248, .ref 249, .ref 250, .ref 251, .ref 252, .ref 253, .ref 254, .ref 255, .ref 256, .ref 257], vm := .none },
  { cls := 7, slots := #[.int (-128)], vm := .none },
  { cls := 7, slots := #[.int (-127)], vm := .none },
  { cls := 7, slots := #[.int (-126)], vm := .none },
  { cls := 7, slots := #[.int (-125)], vm := .none },
  { cls := 7, slots := #[.int (-124)], vm := .none },
  { cls := 7, slots := #[.int (-123)], vm := .none },
  { cls := 7, slots := #[.int (-122)], vm := .none },
  { cls := 7, slots := #[.int (-121)], vm := .none },
  { cls := 7, slots := #[.int (-120)], vm := .none },
  { cls := 7, slots := #[.int (-119)], vm := .none },
  { cls := 7, slots := #[.int (-118)], vm := .none },
  { cls := 7, slots := #[.int (-117)], vm := .none },
  { cls := 7, slots := #[.int (-116)], vm := .none },
  { cls := 7, slots := #[.int (-115)], vm := .none },
  { cls := 7, slots := #[.int (-114)], vm := .none },
  { cls := 7, slots := #[.int (-113)], vm := .none },
  { cls := 7, slots := #[.int (-112)], vm := .none },
  { cls := 7, slots := #[.int (-111)], vm := .none },
  { cls := 7, slots := #[.int (-110)], vm := .none },
  { cls := 7, slots := #[.int (-109)], vm := .none },
  { cls := 7, slots := #[.int (-108)], vm := .none },
  { cls := 7, slots := #[.int (-107)], vm := .none },
  { cls := 7, slots := #[.int (-106)], vm := .none },
  { cls := 7, slots := #[.int (-105)], vm := .none },
  { cls := 7, slots := #[.int (-104)], vm := .none },
  { cls := 7, slots := #[.int (-103)], vm := .none },
  { cls := 7, slots := #[.int (-102)], vm := .none },
  { cls := 7, slots := #[.int (-101)], vm := .none },
  { cls := 7, slots := #[.int (-100)], vm := .none },
  { cls := 7, slots := #[.int (-99)], vm := .none },
  { cls := 7, slots := #[.int (-98)], vm := .none },
  { cls := 7, slots := #[.int (-97)], vm := .none },
  { cls := 7, slots := #[.int (-96)], vm := .none },
  { cls := 7, slots := #[.int (-95)], vm := .none },
  { cls := 7, slots := #[.int (-94)], vm := .none },
  { cls := 7, slots := #[.int (-93)], vm := .none },
  { cls := 7, slots := #[.int (-92)], vm := .none },
  { cls := 7, slots := #[.int (-91)], vm := .none },
  { cls := 7, slots := #[.int (-90)], vm := .none },
  { cls := 7, slots := #[.int (-89)], vm := .none },
  { cls := 7, slots := #[.int (-88)], vm := .none },
  { cls := 7, slots := #[.int (-87)], vm := .none },
  { cls := 7, slots := #[.int (-86)], vm := .none },
  { cls := 7, slots := #[.int (-85)], vm := .none },
  { cls := 7, slots := #[.int (-84)], vm := .none },
  { cls := 7, slots := #[.int (-83)], vm := .none },
  { cls := 7, slots := #[.int (-82)], vm := .none },
  { cls := 7, slots := #[.int (-81)], vm := .none },
  { cls := 7, slots := #[.int (-80)], vm := .none },
  { cls := 7, slots := #[.int (-79)], vm := .none },
  { cls := 7, slots := #[.int (-78)], vm := .none },
  { cls := 7, slots := #[.int (-77)], vm := .none },
  { cls := 7, slots := #[.int (-76)], vm := .none },
  { cls := 7, slots := #[.int (-75)], vm := .none },
  { cls := 7, slots := #[.int (-74)], vm := .none },
  { cls := 7, slots := #[.int (-73)], vm := .none },
  { cls := 7, slots := #[.int (-72)], vm := .none },
  { cls := 7, slots := #[.int (-71)], vm := .none },
  { cls := 7, slots := #[.int (-70)], vm := .none },
  { cls := 7, slots := #[.int (-69)], vm := .none },
  { cls := 7, slots := #[.int (-68)], vm := .none },
  { cls := 7, slots := #[.int (-67)], vm := .none },
  { cls := 7, slots := #[.int (-66)], vm := .none },
  { cls := 7, slots := #[.int (-65)], vm := .none },
  { cls := 7, slots := #[.int (-64)], vm := .none },
  { cls := 7, slots := #[.int (-63)], vm := .none },
  { cls := 7, slots := #[.int (-62)], vm := .none },
  { cls := 7, slots := #[.int (-61)], vm := .none },
  { cls := 7, slots := #[.int (-60)], vm := .none },
  { cls := 7, slots := #[.int (-59)], vm := .none },
  { cls := 7, slots := #[.int (-58)], vm := .none },
  { cls := 7, slots := #[.int (-57)], vm := .none },
  { cls := 7, slots := #[.int (-56)], vm := .none },
  { cls := 7, slots := #[.int (-55)], vm := .none },
  { cls := 7, slots := #[.int (-54)], vm := .none },
  { cls := 7, slots := #[.int (-53)], vm := .none },
  { cls := 7, slots := #[.int (-52)], vm := .none },
  { cls := 7, slots := #[.int (-51)], vm := .none },
  { cls := 7, slots := #[.int (-50)], vm := .none },
  { cls := 7, slots := #[.int (-49)], vm := .none },
  { cls := 7, slots := #[.int (-48)], vm := .none },
  { cls := 7, slots := #[.int (-47)], vm := .none },
  { cls := 7, slots := #[.int (-46)], vm := .none },
  { cls := 7, slots := #[.int (-45)], vm := .none },
  { cls := 7, slots := #[.int (-44)], vm := .none },
  { cls := 7, slots := #[.int (-43)], vm := .none },
  { cls := 7, slots := #[.int (-42)], vm := .none },
  { cls := 7, slots := #[.int (-41)], vm := .none },
  { cls := 7, slots := #[.int (-40)], vm := .none },
  { cls := 7, slots := #[.int (-39)], vm := .none },
  { cls := 7, slots := #[.int (-38)], vm := .none },
  { cls := 7, slots := #[.int (-37)], vm := .none },
  { cls := 7, slots := #[.int (-36)], vm := .none },
  { cls := 7, slots := #[.int (-35)], vm := .none },
  { cls := 7, slots := #[.int (-34)], vm := .none },
  { cls := 7, slots := #[.int (-33)], vm := .none },
  { cls := 7, slots := #[.int (-32)], vm := .none },
  { cls := 7, slots := #[.int (-31)], vm := .none },
  { cls := 7, slots := #[.int (-30)], vm := .none },
  { cls := 7, slots := #[.int (-29)], vm := .none },
  { cls := 7, slots := #[.int (-28)], vm := .none },
  { cls := 7, slots := #[.int (-27)], vm := .none },
  { cls := 7, slots := #[.int (-26)], vm := .none },
  { cls := 7, slots := #[.int (-25)], vm := .none },
  { cls := 7, slots := #[.int (-24)], vm := .none },
  { cls := 7, slots := #[.int (-23)], vm := .none },
  { cls := 7, slots := #[.int (-22)], vm := .none },
  { cls := 7, slots := #[.int (-21)], vm := .none },
  { cls := 7, slots := #[.int (-20)], vm := .none },
  { cls := 7, slots := #[.int (-19)], vm := .none },
  { cls := 7, slots := #[.int (-18)], vm := .none },
  { cls := 7, slots := #[.int (-17)], vm := .none },
  { cls := 7, slots := #[.int (-16)], vm := .none },
  { cls := 7, slots := #[.int (-15)], vm := .none },
  { cls := 7, slots := #[.int (-14)], vm := .none },
  { cls := 7, slots := #[.int (-13)], vm := .none },
  { cls := 7, slots := #[.int (-12)], vm := .none },
  { cls := 7, slots := #[.int (-11)], vm := .none },
  { cls := 7, slots := #[.int (-10)], vm := .none },
  { cls := 7, slots := #[.int (-9)], vm := .none },
  { cls := 7, slots := #[.int (-8)], vm := .none },
  { cls := 7, slots := #[.int (-7)], vm := .none },
  { cls := 7, slots := #[.int (-6)], vm := .none },
  { cls := 7, slots := #[.int (-5)], vm := .none },
  { cls := 7, slots := #[.int (-4)], vm := .none },
  { cls := 7, slots := #[.int (-3)], vm := .none },
  { cls := 7, slots := #[.int (-2)], vm := .none },
  { cls := 7, slots := #[.int (-1)], vm := .none },
  { cls := 7, slots := #[.int (0)], vm := .none },
  { cls := 7, slots := #[.int (1)], vm := .none },
  { cls := 7, slots := #[.int (2)], vm := .none },
  { cls := 7, slots := #[.int (3)], vm := .none },
  { cls := 7, slots := #[.int (4)], vm := .none },
  { cls := 7, slots := #[.int (5)], vm := .none },
  { cls := 7, slots := #[.int (6)], vm := .none },
  { cls := 7, slots := #[.int (7)], vm := .none },
  { cls := 7, slots := #[.int (8)], vm := .none },
  { cls := 7, slots := #[.int (9)], vm := .none },
  { cls := 7, slots := #[.int (10)], vm := .none },
  { cls := 7, slots := #[.int (11)], vm := .none },
  { cls := 7, slots := #[.int (12)], vm := .none },
  { cls := 7, slots := #[.int (13)], vm := .none },
  { cls := 7, slots := #[.int (14)], vm := .none },
  { cls := 7, slots := #[.int (15)], vm := .none },
  { cls := 7, slots := #[.int (16)], vm := .none },
  { cls := 7, slots := #[.int (17)], vm := .none },
  { cls := 7, slots := #[.int (18)], vm := .none },
  { cls := 7, slots := #[.int (19)], vm := .none },
  { cls := 7, slots := #[.int (20)], vm := .none },
  { cls := 7, slots := #[.int (21)], vm := .none },
  { cls := 7, slots := #[.int (22)], vm := .none },
  { cls := 7, slots := #[.int (23)], vm := .none },
  { cls := 7, slots := #[.int (24)], vm := .none },
  { cls := 7, slots := #[.int (25)], vm := .none },
  { cls := 7, slots := #[.int (26)], vm := .none },
  { cls := 7, slots := #[.int (27)], vm := .none },
  { cls := 7, slots := #[.int (28)], vm := .none },
  { cls := 7, slots := #[.int (29)], vm := .none },
  { cls := 7, slots := #[.int (30)], vm := .none },
  { cls := 7, slots := #[.int (31)], vm := .none },
  { cls := 7, slots := #[.int (32)], vm := .none },
  { cls := 7, slots := #[.int (33)], vm := .none },
  { cls := 7, slots := #[.int (34)], vm := .none },
  { cls := 7, slots := #[.int (35)], vm := .none },
  { cls := 7, slots := #[.int (36)], vm := .none },
  { cls := 7, slots := #[.int (37)], vm := .none },
  { cls := 7, slots := #[.int (38)], vm := .none },
  { cls := 7, slots := #[.int (39)], vm := .none },
  { cls := 7, slots := #[.int (40)], vm := .none },
  { cls := 7, slots := #[.int (41)], vm := .none },
  { cls := 7, slots := #[.int (42)], vm := .none },
  { cls := 7, slots := #[.int (43)], vm := .none },
  { cls := 7, slots := #[.int (44)], vm := .none },
  { cls := 7, slots := #[.int (45)], vm := .none },
  { cls := 7, slots := #[.int (46)], vm := .none },
  { cls := 7, slots := #[.int (47)], vm := .none },
  { cls := 7, slots := #[.int (48)], vm := .none },
  { cls := 7, slots := #[.int (49)], vm := .none },
  { cls := 7, slots := #[.int (50)], vm := .none },
  { cls := 7, slots := #[.int (51)], vm := .none },
  { cls := 7, slots := #[.int (52)], vm := .none },
  { cls := 7, slots := #[.int (53)], vm := .none },
  { cls := 7, slots := #[.int (54)], vm := .none },
  { cls := 7, slots := #[.int (55)], vm := .none },
  { cls := 7, slots := #[.int (56)], vm := .none },
  { cls := 7, slots := #[.int (57)], vm := .none },
  { cls := 7, slots := #[.int (58)], vm := .none },
  { cls := 7, slots := #[.int (59)], vm := .none },
  { cls := 7, slots := #[.int (60)], vm := .none },
  { cls := 7, slots := #[.int (61)], vm := .none },
  { cls := 7, slots := #[.int (62)], vm := .none },
  { cls := 7, slots := #[.int (63)], vm := .none },
  { cls := 7, slots := #[.int (64)], vm := .none },
  { cls := 7, slots := #[.int (65)], vm := .none },
  { cls := 7, slots := #[.int (66)], vm := .none },
  { cls := 7, slots := #[.int (67)], vm := .none },
  { cls := 7, slots := #[.int (68)], vm := .none },
  { cls := 7, slots := #[.int (69)], vm := .none },
  { cls := 7, slots := #[.int (70)], vm := .none },
  { cls := 7, slots := #[.int (71)], vm := .none },
  { cls := 7, slots := #[.int (72)], vm := .none },
  { cls := 7, slots := #[.int (73)], vm := .none },
  { cls := 7, slots := #[.int (74)], vm := .none },
  { cls := 7, slots := #[.int (75)], vm := .none },
  { cls := 7, slots := #[.int (76)], vm := .none },
  { cls := 7, slots := #[.int (77)], vm := .none },
  { cls := 7, slots := #[.int (78)], vm := .none },
  { cls := 7, slots := #[.int (79)], vm := .none },
  { cls := 7, slots := #[.int (80)], vm := .none },
  { cls := 7, slots := #[.int (81)], vm := .none },
  { cls := 7, slots := #[.int (82)], vm := .none },
  { cls := 7, slots := #[.int (83)], vm := .none },
  { cls := 7, slots := #[.int (84)], vm := .none },
  { cls := 7, slots := #[.int (85)], vm := .none },
  { cls := 7, slots := #[.int (86)], vm := .none },
  { cls := 7, slots := #[.int (87)], vm := .none },
  { cls := 7, slots := #[.int (88)], vm := .none },
  { cls := 7, slots := #[.int (89)], vm := .none },
  { cls := 7, slots := #[.int (90)], vm := .none },
  { cls := 7, slots := #[.int (91)], vm := .none },
  { cls := 7, slots := #[.int (92)], vm := .none },
  { cls := 7, slots := #[.int (93)], vm := .none },
  { cls := 7, slots := #[.int (94)], vm := .none },
  { cls := 7, slots := #[.int (95)], vm := .none },
  { cls := 7, slots := #[.int (96)], vm := .none },
  { cls := 7, slots := #[.int (97)], vm := .none },
  { cls := 7, slots := #[.int (98)], vm := .none },
  { cls := 7, slots := #[.int (99)], vm := .none },
  { cls := 7, slots := #[.int (100)], vm := .none },
  { cls := 7, slots := #[.int (101)], vm := .none },
  { cls := 7, slots := #[.int (102)], vm := .none },
  { cls := 7, slots := #[.int (103)], vm := .none },
  { cls := 7, slots := #[.int (104)], vm := .none },
  { cls := 7, slots := #[.int (105)], vm := .none },
  { cls := 7, slots := #[.int (106)], vm := .none },
  { cls := 7, slots := #[.int (107)], vm := .none },
  { cls := 7, slots := #[.int (108)], vm := .none },
  { cls := 7, slots := #[.int (109)], vm := .none },
  { cls := 7, slots := #[.int (110)], vm := .none },
  { cls := 7, slots := #[.int (111)], vm := .none },
  { cls := 7, slots := #[.int (112)], vm := .none },
  { cls := 7, slots := #[.int (113)], vm := .none },
  { cls := 7, slots := #[.int (114)], vm := .none },
  { cls := 7, slots := #[.int (115)], vm := .none },
  { cls := 7, slots := #[.int (116)], vm := .none },
  { cls := 7, slots := #[.int (117)], vm := .none },
  { cls := 7, slots := #[.int (118)], vm := .none },
  { cls := 7, slots := #[.int (119)], vm := .none },
  { cls := 7, slots := #[.int (120)], vm := .none },
  { cls := 7, slots := #[.int (121)], vm := .none },
  { cls := 7, slots := #[.int (122)], vm := .none },
  { cls := 7, slots := #[.int (123)], vm := .none },
  { cls := 7, slots := #[.int (124)], vm := .none },
  { cls := 7, slots := #[.int (125)], vm := .none },
  { cls := 7, slots := #[.int (126)], vm := .none },
  { cls := 7, slots := #[.int (127)], vm := .none }]
def classes : Array Class := #[k0, k1, k2, k3, k4, k5, k6, k7, k8, k9, k10, k11, k12, k13, k14, k15, k16, k17]
def interned : List (Array UInt16 × Addr) := []
def slotsUsed : Nat := 517
def theMethod : MethodId := ⟨1, 1⟩
def args0 : Array Value := #[.int 5, .int 3, .int 2]
def aboutOver (below : List Frame) : State where
  vm := { classes := classes, interned := interned.toArray }
  heap := heap
  slotsUsed := slotsUsed
  threads := #[{ frames := .invoking theMethod args0 :: below }]
def below0 : List Frame := [.native { method := ⟨0, 0⟩, args := #[] }]
def about1 : State := aboutOver below0
def p0 : Program := .bare "" "" ""
def e0 : Env := launch0.env 0 0 0
theorem w_frames : about1.frames = Frame.invoking theMethod args0 :: below0 := rfl
set_option maxRecDepth 65536 in
theorem w_args : argsFit about1.vm theMethod args0 = true := by decide +kernel
set_option maxRecDepth 65536 in
theorem w_heap : heapFits about1 = true := by decide +kernel
set_option maxRecDepth 65536 in
theorem w_runnable : about1.curStatus? = some .runnable := by decide +kernel
set_option maxRecDepth 65536 in
theorem w_alone : about1.alone = true := by decide +kernel
set_option maxRecDepth 65536 in
theorem w_named : about1.methodNamed? x = some theMethod := by decide +kernel
set_option maxRecDepth 65536 in
theorem w_hears : about1.hears theMethod below0 = true := by decide +kernel
set_option maxRecDepth 65536 in
theorem w_ripe : about1.ripe theMethod args0 below0 = true := by decide +kernel
theorem w_running : about1.status = .running := rfl
set_option maxRecDepth 65536 in
theorem w_room : about1.hasRoom e0.platform room_1 = true :=
  launch0.hasRoom_least _ room_1 (by decide +kernel) (by decide +kernel) (by decide +kernel) (by decide +kernel) (by decide +kernel) (by decide +kernel)
theorem allAtoms_all (ts : List Jvm.Cond) (a : Array Jvm.Value) (st : Jvm.State) : (allAtoms ts).before a st = ts.all (fun c => c.before a st) := by
  induction ts with
  | nil => rfl
  | cons c t ih =>
    show (Jvm.Cond.and c (allAtoms t)).before a st = _
    rw [Jvm.Cond.before_and, ih, List.all_cons]
def words1 : List Jvm.Cond := Jvm.Cond.code x code maxLocals ret :: tables_1
/-- a 'code' word, met by the world's own term for the bytes: nothing is compared byte by byte -/
theorem code_word {y : MethodName} {bytes : ByteArray} {mx : Nat} {rt : Option FieldType} {a : Array Value} {s : State} {m : MethodId} {meth : Method} {c : Code} (h1 : s.methodNamed? y = some m) (h2 : s.vm.method? m = some meth) (h3 : meth.code = some c) (h4 : c.code = bytes)
    (h5 : (c.maxLocals == mx && c.exceptionTable.isEmpty && decide (c.maxStack ≤ mostOperands) && decide (meth.sig.returnType = rt) && !meth.locks && decide (parseMethodDescriptor y.desc = some meth.sig)) = true) : (Jvm.Cond.code y bytes mx rt).before a s = true := by
  simp only [Bool.and_eq_true, beq_iff_eq, Bool.not_eq_true', decide_eq_true_eq] at h5
  obtain ⟨⟨⟨⟨⟨g1, g2⟩, g3⟩, g4⟩, g5⟩, g6⟩ := h5
  simp [Cond.before, Cond.holds, Cond.value, h1, h2, h3, h4, g1, g2, g3, g4, g5, g6]
def isCode : Jvm.Cond → Bool
  | .code _ _ _ _ => true
  | _ => false
theorem all_split {L : List Jvm.Cond} {P : Jvm.Cond → Bool} (h1 : L.all (fun c => isCode c || P c) = true) (h2 : ∀ c ∈ L.filter isCode, P c = true) : L.all P = true := by
  refine List.all_eq_true.mpr fun c hc => ?_
  have h := List.all_eq_true.mp h1 c hc
  rcases Bool.eq_false_or_eq_true (isCode c) with hi | hi
  · exact h2 c (List.mem_filter.mpr ⟨hc, hi⟩)
  · simpa [hi] using h
set_option maxRecDepth 65536 in
theorem w_c0 : (Jvm.Cond.code x code maxLocals ret).before args0 about1 = true := code_word (m := ⟨1, 1⟩) (meth := k1m1) (c := k1c1) (by decide +kernel) rfl rfl rfl (by decide +kernel)
set_option maxRecDepth 65536 in
theorem w_c1 : (Jvm.Cond.code ({ cls := "java/lang/Integer", name := "valueOf", desc := "(I)Ljava/lang/Integer;" } : Jvm.MethodName) jdk_33_method_22_code (1 : Nat) (Option.some (Jvm.ClassFile.FieldType.object "java/lang/Integer"))).before args0 about1 = true := code_word (m := ⟨7, 0⟩) (meth := k7m0) (c := k7c0) (by decide +kernel) rfl rfl rfl (by decide +kernel)
set_option maxRecDepth 65536 in
theorem w_c2 : (Jvm.Cond.code ({ cls := "com/example/strandcast/strandcast/query/Interval$Bound", name := "<init>", desc := "(Ljava/lang/Object;Z)V" } : Jvm.MethodName) prog_39_method_1_code (3 : Nat) (Option.none : Option Jvm.ClassFile.FieldType)).before args0 about1 = true := code_word (m := ⟨10, 0⟩) (meth := k10m0) (c := k10c0) (by decide +kernel) rfl rfl rfl (by decide +kernel)
set_option maxRecDepth 65536 in
theorem w_c3 : (Jvm.Cond.code ({ cls := "java/lang/Record", name := "<init>", desc := "()V" } : Jvm.MethodName) jdk_30_method_1_code (1 : Nat) (Option.none : Option Jvm.ClassFile.FieldType)).before args0 about1 = true := code_word (m := ⟨9, 0⟩) (meth := k9m0) (c := k9c0) (by decide +kernel) rfl rfl rfl (by decide +kernel)
set_option maxRecDepth 65536 in
theorem w_c4 : (Jvm.Cond.code ({ cls := "java/lang/Object", name := "<init>", desc := "()V" } : Jvm.MethodName) object_method_1_code (1 : Nat) (Option.none : Option Jvm.ClassFile.FieldType)).before args0 about1 = true := code_word (m := ⟨0, 0⟩) (meth := k0m0) (c := k0c0) (by decide +kernel) rfl rfl rfl (by decide +kernel)
set_option maxRecDepth 65536 in
theorem w_c5 : (Jvm.Cond.code ({ cls := "com/example/strandcast/strandcast/query/Interval", name := "<init>", desc := "(Ljava/lang/Object;Lcom/example/strandcast/strandcast/query/Interval$Bound;Lcom/example/strandcast/strandcast/query/Interval$Bound;)V" } : Jvm.MethodName) prog_38_method_1_code (4 : Nat) (Option.none : Option Jvm.ClassFile.FieldType)).before args0 about1 = true := code_word (m := ⟨11, 0⟩) (meth := k11m0) (c := k11c0) (by decide +kernel) rfl rfl rfl (by decide +kernel)
set_option maxRecDepth 65536 in
theorem w_c6 : (Jvm.Cond.code ({ cls := "com/example/strandcast/strandcast/query/Interval", name := "isPoint", desc := "()Z" } : Jvm.MethodName) prog_38_method_3_code (1 : Nat) (Option.some Jvm.ClassFile.FieldType.boolean)).before args0 about1 = true := code_word (m := ⟨11, 2⟩) (meth := k11m2) (c := k11c2) (by decide +kernel) rfl rfl rfl (by decide +kernel)
set_option maxRecDepth 65536 in
theorem w_c7 : (Jvm.Cond.code ({ cls := "java/lang/Integer", name := "<init>", desc := "(I)V" } : Jvm.MethodName) jdk_33_method_23_code (2 : Nat) (Option.none : Option Jvm.ClassFile.FieldType)).before args0 about1 = true := code_word (m := ⟨7, 1⟩) (meth := k7m1) (c := k7c1) (by decide +kernel) rfl rfl rfl (by decide +kernel)
set_option maxRecDepth 65536 in
theorem w_c8 : (Jvm.Cond.code ({ cls := "java/lang/Number", name := "<init>", desc := "()V" } : Jvm.MethodName) jdk_18_method_1_code (1 : Nat) (Option.none : Option Jvm.ClassFile.FieldType)).before args0 about1 = true := code_word (m := ⟨3, 0⟩) (meth := k3m0) (c := k3c0) (by decide +kernel) rfl rfl rfl (by decide +kernel)
set_option maxRecDepth 65536 in
theorem w_c9 : (Jvm.Cond.code ({ cls := "com/example/strandcast/strandcast/query/Interval", name := "point", desc := "(Ljava/lang/Object;)Lcom/example/strandcast/strandcast/query/Interval;" } : Jvm.MethodName) prog_38_method_2_code (2 : Nat) (Option.some (Jvm.ClassFile.FieldType.object "com/example/strandcast/strandcast/query/Interval"))).before args0 about1 = true := code_word (m := ⟨11, 1⟩) (meth := k11m1) (c := k11c1) (by decide +kernel) rfl rfl rfl (by decide +kernel)
def codes1 : List Jvm.Cond := [Jvm.Cond.code x code maxLocals ret, Jvm.Cond.code ({ cls := "java/lang/Integer", name := "valueOf", desc := "(I)Ljava/lang/Integer;" } : Jvm.MethodName) jdk_33_method_22_code (1 : Nat) (Option.some (Jvm.ClassFile.FieldType.object "java/lang/Integer")), Jvm.Cond.code ({ cls := "com/example/strandcast/strandcast/query/Interval$Bound", name := "<init>", desc := "(Ljava/lang/Object;Z)V" } : Jvm.MethodName) prog_39_method_1_code (3 : Nat) (Option.none : Option Jvm.ClassFile.FieldType), Jvm.Cond.code ({ cls := "java/lang/Record", name := "<init>", desc := "()V" } : Jvm.MethodName) jdk_30_method_1_code (1 : Nat) (Option.none : Option Jvm.ClassFile.FieldType), Jvm.Cond.code ({ cls := "java/lang/Object", name := "<init>", desc := "()V" } : Jvm.MethodName) object_method_1_code (1 : Nat) (Option.none : Option Jvm.ClassFile.FieldType), Jvm.Cond.code ({ cls := "com/example/strandcast/strandcast/query/Interval", name := "<init>", desc := "(Ljava/lang/Object;Lcom/example/strandcast/strandcast/query/Interval$Bound;Lcom/example/strandcast/strandcast/query/Interval$Bound;)V" } : Jvm.MethodName) prog_38_method_1_code (4 : Nat) (Option.none : Option Jvm.ClassFile.FieldType), Jvm.Cond.code ({ cls := "com/example/strandcast/strandcast/query/Interval", name := "isPoint", desc := "()Z" } : Jvm.MethodName) prog_38_method_3_code (1 : Nat) (Option.some Jvm.ClassFile.FieldType.boolean), Jvm.Cond.code ({ cls := "java/lang/Integer", name := "<init>", desc := "(I)V" } : Jvm.MethodName) jdk_33_method_23_code (2 : Nat) (Option.none : Option Jvm.ClassFile.FieldType), Jvm.Cond.code ({ cls := "java/lang/Number", name := "<init>", desc := "()V" } : Jvm.MethodName) jdk_18_method_1_code (1 : Nat) (Option.none : Option Jvm.ClassFile.FieldType), Jvm.Cond.code ({ cls := "com/example/strandcast/strandcast/query/Interval", name := "point", desc := "(Ljava/lang/Object;)Lcom/example/strandcast/strandcast/query/Interval;" } : Jvm.MethodName) prog_38_method_2_code (2 : Nat) (Option.some (Jvm.ClassFile.FieldType.object "com/example/strandcast/strandcast/query/Interval"))]
set_option maxRecDepth 65536 in
theorem codes_eq : words1.filter isCode = codes1 := rfl
theorem w_codes : ∀ c ∈ words1.filter isCode, c.before args0 about1 = true := by
  rw [codes_eq]
  intro c hc
  simp only [codes1, List.mem_cons, List.not_mem_nil, or_false] at hc
  rcases hc with rfl | rfl | rfl | rfl | rfl | rfl | rfl | rfl | rfl | rfl
  · exact w_c0
  · exact w_c1
  · exact w_c2
  · exact w_c3
  · exact w_c4
  · exact w_c5
  · exact w_c6
  · exact w_c7
  · exact w_c8
  · exact w_c9
set_option maxRecDepth 65536 in
theorem w_t1 : (words1.take 24).all (fun c => isCode c || c.before args0 about1) = true := by decide +kernel
set_option maxRecDepth 65536 in
theorem w_t2 : ((words1.drop 24).take 24).all (fun c => isCode c || c.before args0 about1) = true := by decide +kernel
set_option maxRecDepth 65536 in
theorem w_t3 : ((words1.drop 24).drop 24).all (fun c => isCode c || c.before args0 about1) = true := by decide +kernel
theorem w_tables : (allAtoms (Jvm.Cond.code x code maxLocals ret :: tables_1)).before args0 about1 = true := by
  rw [allAtoms_all]
  show words1.all (fun c => c.before args0 about1) = true
  refine all_split ?_ w_codes
  rw [← List.take_append_drop 24 words1, List.all_append, w_t1, ← List.take_append_drop 24 (words1.drop 24), List.all_append, w_t2, w_t3]
  rfl
set_option maxRecDepth 65536 in
theorem w_rest : rest_1_c.before args0 about1 = true := by decide +kernel
set_option maxRecDepth 65536 in
theorem w_case : (Jvm.Cond.and given_1 narrow_1).before args0 about1 = true := by decide +kernel
theorem w_applies : (headSpec (Jvm.Cond.code x code maxLocals ret :: tables_1) room_1).applies x e0.platform about1 = true :=
  (Spec.applies_iff w_frames).mpr ⟨w_running, w_runnable, w_alone, w_named, w_hears, w_ripe, w_room, w_tables⟩
theorem atStart : AtStart classFile x code maxLocals ret World_1 tables_1 room_1 Calls_1 rest_1 Pre_1 launch0 p0 e0 about1 theMethod args0 below0 :=
  ⟨lists_1, trivial, launch0.admits_env _ _ _, launch0.least_env, fairChoices_fair.cas, fairChoices_fair.clock, w_frames, w_args, w_heap, w_applies, trivial, w_rest, w_case⟩
end start1
theorem witness_1 : WitnessClaimed_1 := ⟨start1.p0, start1.e0, start1.about1, start1.theMethod, start1.args0, start1.below0, start1.atStart⟩
end Jvm.Pilot.@@N@@
