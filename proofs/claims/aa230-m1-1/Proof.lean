import JvmDerived
import JvmDerived.Pilot.@@N@@Statement
import JvmDerived.Pilot.@@N@@Code
set_option linter.unusedVariables false
set_option linter.unusedSimpArgs false
@@BLOCK:NumsL.lean.txt@@
namespace Jvm.Pilot.@@N@@
open Jvm Jvm.ClassFile Sem Op Lib Jvm.Free Jvm.Stand Jvm.LawKit Jvm.RoadKit Bundle Jvm.Pilot.@@N@@.Jvm.D

section OwnKit
variable {p : Program} {l : Launch} {e : Env} {R : Room} {s : State} {m : MethodId} {args : Array Value} {below : List Frame} {meth : Method} {c : Code} {T : State} {locs : List Loc} {cells slots : Nat}
def own_Go (p : Program) (e : Env) (below : List Frame) (s : State) (Q : Option Value → Heap → List Loc → Prop) (rc rs : Nat) (T : State) (g : JFrame) : Prop :=
  ∃ s₂ o, Steps p.tables e below (T.setTop g) s₂ ∧ s₂.status = .running ∧ Ended s₂ below o ∧ ∃ v L, o = .returned v ∧ Q v s₂.heap L ∧ FrameEnd s o s₂ L rc rs
variable {Q : Option Value → Heap → List Loc → Prop} {rc rs : Nat} {T' : State} {g g' : JFrame}
theorem own_step (st : ∀ target, Steps p.tables e below (T'.setTop g') target → Steps p.tables e below (T.setTop g) target) (k : own_Go p e below s Q rc rs T' g') : own_Go p e below s Q rc rs T g := by
  obtain ⟨s₂, o, h1, h2⟩ := k
  exact ⟨s₂, o, st _ h1, h2⟩
theorem own_tr (st : Steps p.tables e below (T.setTop g) (T'.setTop g')) (k : own_Go p e below s Q rc rs T' g') : own_Go p e below s Q rc rs T g := by
  obtain ⟨s₂, o, h1, h2⟩ := k
  exact ⟨s₂, o, st.trans h1, h2⟩
theorem own_cast (q : g = g') (k : own_Go p e below s Q rc rs T g') : own_Go p e below s Q rc rs T g := q ▸ k
theorem own_done (X : Stand p l e R s m args below meth c T locs cells slots) {v : Option Value} (hv : meth.sig.returnType = none → v = none) (hlk : meth.locks = false)
    (st : ∀ fs, (∀ (f : JFrame) (acts : List Action), f.method = m → f.locked = none → f.entered = [] → (doReturn e (T.setTop f) acts v).1 = T.setFrames fs) → Steps p.tables e below (T.setTop g) (T.setFrames fs))
    (hQ : Q v T.heap locs) (hc : cells ≤ rc) (hs : slots ≤ rs) : own_Go p e below s Q rc rs T g := by
  obtain ⟨fs, hr, hrun, hended, hW, hsame⟩ := X.leave (v := v) hv hlk
  exact ⟨_, _, st fs hr, hrun, hended, v, locs, rfl, hQ, ⟨_, rfl⟩, hW, hsame.mono hc hs⟩
theorem own_rN (X : Stand p l e R s m args below meth c T locs cells slots) (hx : p.tables.exec = Jvm.exec) (hlk : meth.locks = false) {t : FieldType} (hret : meth.sig.returnType = some t) (ht : t = .boolean ∨ t = .byte ∨ t = .char ∨ t = .short) {pc : Nat} {Ls : Array Slot} {z : Int32} {rest : List Value}
    (hd : decode c.code pc = .ok (.ireturn, 1)) (hQ : Q (some (.int (nar t z))) T.heap locs) (hc : cells ≤ rc) (hs : slots ≤ rs) : own_Go p e below s Q rc rs T (mkF m pc Ls (.int z :: rest)) :=
  own_done X (fun h => by rw [hret] at h; cases h) hlk (fun fs hr => retN X hx hret ht hd hr) hQ hc hs
theorem own_rI (X : Stand p l e R s m args below meth c T locs cells slots) (hx : p.tables.exec = Jvm.exec) (hlk : meth.locks = false) (hret : meth.sig.returnType = some .int) {pc : Nat} {Ls : Array Slot} {z : Int32} {rest : List Value}
    (hd : decode c.code pc = .ok (.ireturn, 1)) (hQ : Q (some (.int z)) T.heap locs) (hc : cells ≤ rc) (hs : slots ≤ rs) : own_Go p e below s Q rc rs T (mkF m pc Ls (.int z :: rest)) :=
  own_done X (fun h => by rw [hret] at h; cases h) hlk (fun fs hr => retOut X hx hret rfl (Or.inl ⟨rfl, Or.inl rfl, _, rfl⟩) hd hr) hQ hc hs
theorem own_rJ (X : Stand p l e R s m args below meth c T locs cells slots) (hx : p.tables.exec = Jvm.exec) (hlk : meth.locks = false) (hret : meth.sig.returnType = some .long) {pc : Nat} {Ls : Array Slot} {z : Int64} {rest : List Value}
    (hd : decode c.code pc = .ok (.lreturn, 1)) (hQ : Q (some (.long z)) T.heap locs) (hc : cells ≤ rc) (hs : slots ≤ rs) : own_Go p e below s Q rc rs T (mkF m pc Ls (.long z :: rest)) :=
  own_done X (fun h => by rw [hret] at h; cases h) hlk (fun fs hr => retOut X hx hret rfl (Or.inr (Or.inl ⟨rfl, rfl, _, rfl⟩)) hd hr) hQ hc hs
theorem own_narA {t : FieldType} {w : Value} (ht : t.isReference = true) (hw : w.isRef = true) : narrow t w = w := by cases t <;> cases w <;> first | rfl | cases ht | cases hw
theorem own_rA (X : Stand p l e R s m args below meth c T locs cells slots) (hx : p.tables.exec = Jvm.exec) (hlk : meth.locks = false) {t : FieldType} (hret : meth.sig.returnType = some t) (ht : t.isReference = true) {pc : Nat} {Ls : Array Slot} {w : Value} {rest : List Value} (hw : w.isRef = true)
    (hd : decode c.code pc = .ok (.areturn, 1)) (hQ : Q (some w) T.heap locs) (hc : cells ≤ rc) (hs : slots ≤ rs) : own_Go p e below s Q rc rs T (mkF m pc Ls (w :: rest)) :=
  own_done X (fun h => by rw [hret] at h; cases h) hlk (fun fs hr => retOut X hx hret (own_narA ht hw) (Or.inr (Or.inr (Or.inr (Or.inr ⟨rfl, ht, hw⟩)))) hd hr) hQ hc hs
theorem own_rV (X : Stand p l e R s m args below meth c T locs cells slots) (hx : p.tables.exec = Jvm.exec) (hlk : meth.locks = false) (hret : meth.sig.returnType = none) {pc : Nat} {Ls : Array Slot}
    (hd : decode c.code pc = .ok (.return_, 1)) (hQ : Q none T.heap locs) (hc : cells ≤ rc) (hs : slots ≤ rs) : own_Go p e below s Q rc rs T (mkF m pc Ls []) :=
  own_done X (fun _ => rfl) hlk (fun fs hr => X.returnOut hx hret hd hr) hQ hc hs
end OwnKit
def Q_rec (h0 : Heap) (n0 : Nat) (v : Option Value) (h : Heap) (L : List Loc) : Prop := v = none ∧ Fr n0 L ∧ h = h0
theorem ef_rm_rec (m : MethodId) (x0 : Addr) : entryFrame m #[(.ref x0)] 1 = mkF m 0 #[.val (.ref x0)] [] := by first | (simp [entryFrame, mkF, argsToLocals, Value.category]; done) | rfl | (simp [entryFrame, mkF, argsToLocals, Value.category] <;> rfl)
theorem pn_0 : plainName "java/lang/Record" = true := by first | (simp [plainName, overriddenIn]; done) | decide +kernel
theorem d7_0 : decode jdk_30_method_1_code 0 = .ok (.aload_n 0, 1) := by decide +kernel
theorem d7_1 : decode jdk_30_method_1_code 1 = .ok (.invokespecial 1, 3) := by decide +kernel
theorem d7_4 : decode jdk_30_method_1_code 4 = .ok (.return_, 1) := by decide +kernel
set_option maxRecDepth 65536 in
set_option maxHeartbeats 40000000 in
theorem rm_rec (l : Launch) (Z : State) (a0 : Array Value) (hw : ∀ d ∈ tables_1, d.before a0 Z = true) (ws : List Jvm.Cond) (a1 : Addr) (h0 : Heap) (n0 : Nat) (Z0 : n0 ≤ h0.size)  :
    MetFree l (⟨"java/lang/Record", "<init>", "()V"⟩ : MethodName) (head1 (Jvm.Cond.code (⟨"java/lang/Record", "<init>", "()V"⟩ : MethodName) jdk_30_method_1_code 1 none :: ws) ({ frames := 1, cells := 0, slots := 0, locals := 12 } : Room)) (fun a U => a = #[(.ref a1)] ∧ Z.Warmed39 U.vm ∧ U.heap = h0) (fun _ _ _ _ _ => True) (fun _ U o U' => ∃ v L, o = .returned v ∧ (Q_rec h0 n0) v U'.heap L ∧ FrameEnd U o U' L ({ frames := 1, cells := 0, slots := 0, locals := 12 } : Room).cells ({ frames := 1, cells := 0, slots := 0, locals := 12 } : Room).slots) := by
  refine MetFree.of_bodySF (plainFor_of_name pn_0) hisR ?_
  intro p e s m args below meth c s₁ Bd hml0 hP hK
  obtain ⟨rfl, hZ, hh⟩ := hP
  have hx := Bd.exec
  have hby := Bd.bytes
  have hlk : meth.locks = false := BodyLoose.notSynchronized Bd
  have hml : c.maxLocals = 1 := hml0
  have hown : s.vm.findClass "java/lang/Record" = some m.cls := findClass_of_methodNamed Bd.named
  have hnm := (name_of_methodNamed Bd.named Bd.method).1
  have X0 : Stand p l e ({ frames := 1, cells := 0, slots := 0, locals := 12 } : Room) s m #[(.ref a1)] below meth c s₁ [] 0 0 := Stand.of_body Bd
  have e0 : s₁.heap = h0 := by rw [← hh, Bd.state]; rfl
  have N0 := Fr.nil n0
  show own_Go p e below s (Q_rec h0 n0) ({ frames := 1, cells := 0, slots := 0, locals := 12 } : Room).cells ({ frames := 1, cells := 0, slots := 0, locals := 12 } : Room).slots s₁ (entryFrame m #[(.ref a1)] 1)
  refine own_cast (g' := (mkF m 0 #[.val (.ref a1)] [])) (ef_rm_rec m a1) ?_
  refine own_step (T' := s₁) (g' := (mkF m 1 #[.val (.ref a1)] [(.ref a1)])) (fun t k => XS.aloadN X0.here hx rfl (hb hby d7_0) rfl rfl k) ?_
  obtain ⟨T1, X1, e1, st1⟩ := initO X0 hx hZ hown (hw _ (List.mem_of_getElem? (i := 45) rfl)) (hw _ (List.mem_of_getElem? (i := 20) rfl)) (hw _ (List.mem_of_getElem? (i := 21) rfl)) e0 (g := (mkF m 1 #[.val (.ref a1)] [(.ref a1)])) rfl (by rw [hml]; rfl) rfl (hb hby d7_1) (by decide) (W := 0) (by show 2 * 0 + _ ≤ _; exact Nat.le_of_eq rfl) (by decide)
  refine own_step (T' := T1) (g' := (mkF m 4 #[.val (.ref a1)] [])) st1 ?_
  refine own_rV X1 hx hlk Bd.returns (hb hby d7_4) ?_ (by decide) (by decide)
  rw [e1]
  exact ⟨rfl, N0, rfl⟩
theorem own_ci {x : Int32} (h1 : ¬ x < ((-128) : Int32)) (h2 : ¬ (127 : Int32) < x) : ¬ (x + (128 : Int32)) < 0 ∧ (x + (128 : Int32)).toNatClampNeg < 256 := by
  rw [Int32.lt_iff_toInt_lt] at h1 h2
  have z0 : (0 : Int32).toInt = 0 := by decide
  have z1 : ((-128) : Int32).toInt = -128 := by decide
  have z2 : (127 : Int32).toInt = 127 := by decide
  have z3 : (128 : Int32).toInt = 128 := by decide
  rw [z1] at h1; rw [z2] at h2
  have e : (x + (128 : Int32)).toInt = x.toInt + 128 := by rw [Jvm.Kit.i32_add (by rw [z3]; omega) (by rw [z3]; omega), z3]
  have : (x + (128 : Int32)).toNatClampNeg = (x + (128 : Int32)).toInt.toNat := rfl
  rw [Int32.lt_iff_toInt_lt, e, z0, this, e]
  omega
theorem own_eqI {args : Array Value} {s : State} {t : Term} {k : Int32} (h : (Cond.eq t (.int k)).value args s none s [] = some true) : t.eval args s none [] s = some (.int k) := by
  obtain ⟨x, y, h1, h2, k1, k2⟩ := cmp_v (Or.inl h)
  have : y = .int k := (Option.some.inj h2).symm
  subst this
  obtain ⟨z, rfl⟩ := k2
  have g := Cond.eq_ints h1 h2
  rw [g] at h
  have : z = k := by simpa using h
  rw [h1, this]
theorem own_size {n : Nat} {k : Int32} (h : n < 2 ^ 31) (e : n.toInt32 = k) (hk : ¬ k < 0) : n = k.toNatClampNeg := by
  subst e
  have h1 : (n.toInt32).toInt = n := by
    show (Int32.ofNat n).toInt = n
    exact Int32.toInt_ofNat_of_lt h
  have h2 : (n.toInt32).toNatClampNeg = (n.toInt32).toInt.toNat := rfl
  rw [h2, h1]; rfl
theorem own_allrefs {args : Array Value} {s : State} {t : Term} {C : String} {c2 : Cond} {ca : Addr} {cell : Cell} (g : (Cond.all t (.and (.exactly (.elem t (.index 0)) C) c2)).value args s none s [] = some true) (ht : ∀ idx, t.eval args s none idx s = some (.ref ca)) (l2 : s.arrayAt? ca = some cell) (hsz : cell.slots.size = 256) : ∀ i, i < 256 → ∃ r, cell.slots[i]? = some (.ref r) := by
  intro i hi
  have q := Cond.all_elim (ht []) l2 g i (by rw [hsz]; exact hi)
  obtain ⟨q1, -⟩ := and_e q
  obtain ⟨x, hx⟩ := exa_v q1
  have h1 : (i.toInt32).toInt = i := by
    show (Int32.ofNat i).toInt = i
    exact Int32.toInt_ofNat_of_lt (by omega)
  have h2 : (i.toInt32).toNatClampNeg = i := by
    have : (i.toInt32).toNatClampNeg = (i.toInt32).toInt.toNat := rfl
    rw [this, h1]; rfl
  have h3 : ¬ i.toInt32 < 0 := by
    rw [Int32.lt_iff_toInt_lt, h1]
    have z0 : (0 : Int32).toInt = 0 := by decide
    rw [z0]; omega
  have hj : (Term.index 0).eval args s none [i] s = some (.int i.toInt32) := Term.index_eval _
  have e := elem_f (ht [i]) hj l2 h3
  rw [hx, h2] at e
  exact ⟨x, e.symm⟩
def Q_num (h0 : Heap) (n0 : Nat) (v : Option Value) (h : Heap) (L : List Loc) : Prop := v = none ∧ Fr n0 L ∧ h = h0
theorem ef_rm_num (m : MethodId) (x0 : Addr) : entryFrame m #[(.ref x0)] 1 = mkF m 0 #[.val (.ref x0)] [] := by first | (simp [entryFrame, mkF, argsToLocals, Value.category]; done) | rfl | (simp [entryFrame, mkF, argsToLocals, Value.category] <;> rfl)
theorem pn_1 : plainName "java/lang/Number" = true := by first | (simp [plainName, overriddenIn]; done) | decide +kernel
theorem d29_0 : decode jdk_18_method_1_code 0 = .ok (.aload_n 0, 1) := by decide +kernel
theorem d29_1 : decode jdk_18_method_1_code 1 = .ok (.invokespecial 1, 3) := by decide +kernel
theorem d29_4 : decode jdk_18_method_1_code 4 = .ok (.return_, 1) := by decide +kernel
set_option maxRecDepth 65536 in
set_option maxHeartbeats 40000000 in
theorem rm_num (l : Launch) (Z : State) (a0 : Array Value) (hw : ∀ d ∈ tables_1, d.before a0 Z = true) (ws : List Jvm.Cond) (a1 : Addr) (h0 : Heap) (n0 : Nat) (Z0 : n0 ≤ h0.size)  :
    MetFree l (⟨"java/lang/Number", "<init>", "()V"⟩ : MethodName) (head1 (Jvm.Cond.code (⟨"java/lang/Number", "<init>", "()V"⟩ : MethodName) jdk_18_method_1_code 1 none :: ws) ({ frames := 1, cells := 0, slots := 0, locals := 12 } : Room)) (fun a U => a = #[(.ref a1)] ∧ Z.Warmed39 U.vm ∧ U.heap = h0) (fun _ _ _ _ _ => True) (fun _ U o U' => ∃ v L, o = .returned v ∧ (Q_num h0 n0) v U'.heap L ∧ FrameEnd U o U' L ({ frames := 1, cells := 0, slots := 0, locals := 12 } : Room).cells ({ frames := 1, cells := 0, slots := 0, locals := 12 } : Room).slots) := by
  refine MetFree.of_bodySF (plainFor_of_name pn_1) hisR ?_
  intro p e s m args below meth c s₁ Bd hml0 hP hK
  obtain ⟨rfl, hZ, hh⟩ := hP
  have hx := Bd.exec
  have hby := Bd.bytes
  have hlk : meth.locks = false := BodyLoose.notSynchronized Bd
  have hml : c.maxLocals = 1 := hml0
  have hown : s.vm.findClass "java/lang/Number" = some m.cls := findClass_of_methodNamed Bd.named
  have hnm := (name_of_methodNamed Bd.named Bd.method).1
  have X0 : Stand p l e ({ frames := 1, cells := 0, slots := 0, locals := 12 } : Room) s m #[(.ref a1)] below meth c s₁ [] 0 0 := Stand.of_body Bd
  have e0 : s₁.heap = h0 := by rw [← hh, Bd.state]; rfl
  have N0 := Fr.nil n0
  show own_Go p e below s (Q_num h0 n0) ({ frames := 1, cells := 0, slots := 0, locals := 12 } : Room).cells ({ frames := 1, cells := 0, slots := 0, locals := 12 } : Room).slots s₁ (entryFrame m #[(.ref a1)] 1)
  refine own_cast (g' := (mkF m 0 #[.val (.ref a1)] [])) (ef_rm_num m a1) ?_
  refine own_step (T' := s₁) (g' := (mkF m 1 #[.val (.ref a1)] [(.ref a1)])) (fun t k => XS.aloadN X0.here hx rfl (hb hby d29_0) rfl rfl k) ?_
  obtain ⟨T1, X1, e1, st1⟩ := initO X0 hx hZ hown (hw _ (List.mem_of_getElem? (i := 200) rfl)) (hw _ (List.mem_of_getElem? (i := 20) rfl)) (hw _ (List.mem_of_getElem? (i := 21) rfl)) e0 (g := (mkF m 1 #[.val (.ref a1)] [(.ref a1)])) rfl (by rw [hml]; rfl) rfl (hb hby d29_1) (by decide) (W := 0) (by show 2 * 0 + _ ≤ _; exact Nat.le_of_eq rfl) (by decide)
  refine own_step (T' := T1) (g' := (mkF m 4 #[.val (.ref a1)] [])) st1 ?_
  refine own_rV X1 hx hlk Bd.returns (hb hby d29_4) ?_ (by decide) (by decide)
  rw [e1]
  exact ⟨rfl, N0, rfl⟩
def Q_iinit (Z : State) (a1 : Addr) (x2 : Int32) (h0 : Heap) (n0 : Nat) (v : Option Value) (h : Heap) (L : List Loc) : Prop := v = none ∧ Fr n0 L ∧ Keep h0 h [a1] ∧ Exa Z h a1 "java/lang/Integer" ∧ Fld Z h a1 "java/lang/Integer" "value" "I" (.int x2)
theorem ef_rm_iinit (m : MethodId) (x0 : Addr) (x1 : Int32) : entryFrame m #[(.ref x0), (.int x1)] 2 = mkF m 0 #[.val (.ref x0), .val (.int x1)] [] := by first | (simp [entryFrame, mkF, argsToLocals, Value.category]; done) | rfl | (simp [entryFrame, mkF, argsToLocals, Value.category] <;> rfl)
theorem pn_2 : plainName "java/lang/Integer" = true := by first | (simp [plainName, overriddenIn]; done) | decide +kernel
theorem d28_0 : decode jdk_33_method_23_code 0 = .ok (.aload_n 0, 1) := by decide +kernel
theorem pd_0 : parseMethodDescriptor "()V" = some ⟨[], none⟩ := by decide +kernel
theorem d28_1 : decode jdk_33_method_23_code 1 = .ok (.invokespecial 202, 3) := by decide +kernel
theorem d28_4 : decode jdk_33_method_23_code 4 = .ok (.aload_n 0, 1) := by decide +kernel
theorem d28_5 : decode jdk_33_method_23_code 5 = .ok (.iload_n 1, 1) := by decide +kernel
theorem d28_6 : decode jdk_33_method_23_code 6 = .ok (.putfield 205, 3) := by decide +kernel
theorem d28_9 : decode jdk_33_method_23_code 9 = .ok (.return_, 1) := by decide +kernel
set_option maxRecDepth 65536 in
set_option maxHeartbeats 40000000 in
theorem rm_iinit (l : Launch) (Z : State) (a0 : Array Value) (hw : ∀ d ∈ tables_1, d.before a0 Z = true) (ws : List Jvm.Cond) (a1 : Addr) (x2 : Int32) (u0 : Value) (h0 : Heap) (n0 : Nat) (Z0 : n0 ≤ h0.size) (E_a : Exa Z h0 a1 "java/lang/Integer") (F0 : Fld Z h0 a1 "java/lang/Integer" "value" "I" u0) (o_a : n0 ≤ a1) :
    MetFree l (⟨"java/lang/Integer", "<init>", "(I)V"⟩ : MethodName) (head1 (Jvm.Cond.code (⟨"java/lang/Integer", "<init>", "(I)V"⟩ : MethodName) jdk_33_method_23_code 2 none :: ws) ({ frames := 2, cells := 0, slots := 0, locals := 24 } : Room)) (fun a U => a = #[(.ref a1), (.int x2)] ∧ Z.Warmed39 U.vm ∧ U.heap = h0) (fun _ _ _ _ _ => True) (fun _ U o U' => ∃ v L, o = .returned v ∧ (Q_iinit Z a1 x2 h0 n0) v U'.heap L ∧ FrameEnd U o U' L ({ frames := 2, cells := 0, slots := 0, locals := 24 } : Room).cells ({ frames := 2, cells := 0, slots := 0, locals := 24 } : Room).slots) := by
  refine MetFree.of_bodySF (plainFor_of_name pn_2) hisR ?_
  intro p e s m args below meth c s₁ Bd hml0 hP hK
  obtain ⟨rfl, hZ, hh⟩ := hP
  have hx := Bd.exec
  have hby := Bd.bytes
  have hlk : meth.locks = false := BodyLoose.notSynchronized Bd
  have hml : c.maxLocals = 2 := hml0
  have hown : s.vm.findClass "java/lang/Integer" = some m.cls := findClass_of_methodNamed Bd.named
  have hnm := (name_of_methodNamed Bd.named Bd.method).1
  have X0 : Stand p l e ({ frames := 2, cells := 0, slots := 0, locals := 24 } : Room) s m #[(.ref a1), (.int x2)] below meth c s₁ [] 0 0 := Stand.of_body Bd
  have e0 : s₁.heap = h0 := by rw [← hh, Bd.state]; rfl
  have N0 := Fr.nil n0
  show own_Go p e below s (Q_iinit Z a1 x2 h0 n0) ({ frames := 2, cells := 0, slots := 0, locals := 24 } : Room).cells ({ frames := 2, cells := 0, slots := 0, locals := 24 } : Room).slots s₁ (entryFrame m #[(.ref a1), (.int x2)] 2)
  refine own_cast (g' := (mkF m 0 #[.val (.ref a1), .val (.int x2)] [])) (ef_rm_iinit m a1 x2) ?_
  have K0 : Keep h0 h0 [a1] := Keep.refl _ _
  refine own_step (T' := s₁) (g' := (mkF m 1 #[.val (.ref a1), .val (.int x2)] [(.ref a1)])) (fun t k => XS.aloadN X0.here hx rfl (hb hby d28_0) rfl rfl k) ?_
  obtain ⟨_, _, ⟨T2, L2, k2, n2⟩, -, X2, ⟨Lc2, hQ2, lq2, yq2, zq2⟩, st2⟩ := X0.specialBack hx (y := (⟨"java/lang/Number", "<init>", "()V"⟩ : MethodName)) rfl hown (mvT hZ (hw _ (List.mem_of_getElem? (i := 194) rfl))) (mvT hZ (hw _ (List.mem_of_getElem? (i := 195) rfl))) (mvT hZ (hw _ (List.mem_of_getElem? (i := 199) rfl))) (by decide) (backOf (W := 0) (rm_num l Z a0 hw [] a1 h0 n0 Z0 ) hZ (hw _ (List.mem_of_getElem? (i := 199) rfl)) (hw _ (List.mem_of_getElem? (i := 198) rfl)) (by decide) (by decide)) (g := (mkF m 1 #[.val (.ref a1), .val (.int x2)] [(.ref a1)])) rfl (by rw [hml]; rfl) (Steps.refl _) (a := a1) (argsL := []) (rest := []) (lenOf pd_0 rfl) rfl (by show 2 * 0 + _ ≤ _; exact Nat.le_of_eq rfl) (hb hby d28_1) (fun _ _ => ⟨rfl, e0, (by decide : 0 + 0 ≤ _), (by decide : 0 + 0 ≤ _)⟩)
  dsimp only [Pt.U, Pt.locs, Pt.cells, Pt.slots] at X2 lq2 yq2 zq2 st2 hQ2
  subst lq2 yq2 zq2
  obtain ⟨rfl, Nq2, eq1⟩ := hQ2
  have N2 := Fr.app N0 Nq2
  refine own_tr (T' := T2) (g' := (mkF m 4 #[.val (.ref a1), .val (.int x2)] [])) st2 ?_
  refine own_step (T' := T2) (g' := (mkF m 5 #[.val (.ref a1), .val (.int x2)] [(.ref a1)])) (fun t k => XS.aloadN X2.here hx rfl (hb hby d28_4) rfl rfl k) ?_
  refine own_step (T' := T2) (g' := (mkF m 6 #[.val (.ref a1), .val (.int x2)] [(.int x2), (.ref a1)])) (fun t k => XS.iloadN X2.here hx rfl (hb hby d28_5) rfl k) ?_
  obtain ⟨T3, h3, X3, e3, W3, st3⟩ := putF X2 hx hZ hown (host := "") (Or.inl (hw _ (List.mem_of_getElem? (i := 201) rfl))) Via.refl eq1 F0 E_a (Or.inr ⟨(hw _ (List.mem_of_getElem? (i := 202) rfl)), rfl, hnm⟩) (hw _ (List.mem_of_getElem? (i := 189) rfl)) (ty := .int) (by decide) rfl rfl (g := (mkF m 6 #[.val (.ref a1), .val (.int x2)] [(.int x2), (.ref a1)])) rfl rfl (hb hby d28_6)
  have g4 : Exa Z h3 a1 "java/lang/Integer" := E_a.wr W3
  have g5 : Fld Z h3 a1 "java/lang/Integer" "value" "I" (.int x2) := F0.same W3
  have K6 : Keep h0 h3 [a1] := K0.wr W3 (Or.inl (List.mem_of_getElem? (i := 0) rfl))
  have N3 := Fr.snoc X3 N2 o_a
  have Z3 : n0 ≤ h3.size := (Nat.le_trans Z0 (Nat.le_of_eq W3.size.symm))
  refine own_step (T' := T3) (g' := (mkF m 9 #[.val (.ref a1), .val (.int x2)] [])) st3 ?_
  refine own_rV X3 hx hlk Bd.returns (hb hby d28_9) ?_ (by decide) (by decide)
  rw [e3]
  exact ⟨rfl, N3, K6, g4, g5⟩
def Q_vo (h0 : Heap) (n0 : Nat) (v : Option Value) (h : Heap) (L : List Loc) : Prop := ∃ r : Addr, v = some (.ref r) ∧ Fr n0 L ∧ Keep h0 h []
theorem ef_rm_vo (m : MethodId) (x0 : Int32) : entryFrame m #[(.int x0)] 1 = mkF m 0 #[.val (.int x0)] [] := by first | (simp [entryFrame, mkF, argsToLocals, Value.category]; done) | rfl | (simp [entryFrame, mkF, argsToLocals, Value.category] <;> rfl)
theorem d5_0 : decode jdk_33_method_22_code 0 = .ok (.iload_n 0, 1) := by decide +kernel
theorem d5_1 : decode jdk_33_method_22_code 1 = .ok (.bipush (-128), 2) := by decide +kernel
theorem d5_3 : decode jdk_33_method_22_code 3 = .ok (.if_icmp .lt 20, 3) := by decide +kernel
theorem d5_23 : decode jdk_33_method_22_code 23 = .ok (.new 1, 3) := by decide +kernel
theorem d5_26 : decode jdk_33_method_22_code 26 = .ok (.dup, 1) := by decide +kernel
theorem d5_27 : decode jdk_33_method_22_code 27 = .ok (.iload_n 0, 1) := by decide +kernel
theorem pd_1 : parseMethodDescriptor "(I)V" = some ⟨[.int], none⟩ := by decide +kernel
theorem d5_28 : decode jdk_33_method_22_code 28 = .ok (.invokespecial 199, 3) := by decide +kernel
theorem d5_31 : decode jdk_33_method_22_code 31 = .ok (.areturn, 1) := by decide +kernel
theorem d5_6 : decode jdk_33_method_22_code 6 = .ok (.iload_n 0, 1) := by decide +kernel
theorem d5_7 : decode jdk_33_method_22_code 7 = .ok (.getstatic 191, 3) := by decide +kernel
theorem d5_10 : decode jdk_33_method_22_code 10 = .ok (.if_icmp .gt 13, 3) := by decide +kernel
theorem d5_13 : decode jdk_33_method_22_code 13 = .ok (.getstatic 195, 3) := by decide +kernel
theorem d5_16 : decode jdk_33_method_22_code 16 = .ok (.iload_n 0, 1) := by decide +kernel
theorem d5_17 : decode jdk_33_method_22_code 17 = .ok (.sipush 128, 3) := by decide +kernel
theorem d5_20 : decode jdk_33_method_22_code 20 = .ok (.iadd, 1) := by decide +kernel
theorem d5_21 : decode jdk_33_method_22_code 21 = .ok (.aaload, 1) := by decide +kernel
theorem d5_22 : decode jdk_33_method_22_code 22 = .ok (.areturn, 1) := by decide +kernel
set_option maxRecDepth 65536 in
set_option maxHeartbeats 40000000 in
theorem rm_vo (l : Launch) (Z : State) (a0 : Array Value) (hw : ∀ d ∈ tables_1, d.before a0 Z = true) (ws : List Jvm.Cond) (p1 : Int32) (ca : Addr) (cc : Cell) (h0 : Heap) (n0 : Nat) (Z0 : n0 ≤ h0.size) (O0 : Old Z n0 h0) (S_h : Sta Z Z.heap "java/lang/Integer$IntegerCache" "high" "I" (.int (127 : Int32))) (S_c : Sta Z Z.heap "java/lang/Integer$IntegerCache" "cache" "[Ljava/lang/Integer;" (.ref ca)) (A_c : Arr Z Z.heap ca cc (.object "java/lang/Integer")) (H_c : cc.slots.size = 256 ∧ ∀ i, i < 256 → ∃ r, cc.slots[i]? = some (.ref r)) :
    MetFree l (⟨"java/lang/Integer", "valueOf", "(I)Ljava/lang/Integer;"⟩ : MethodName) (head1 (Jvm.Cond.code (⟨"java/lang/Integer", "valueOf", "(I)Ljava/lang/Integer;"⟩ : MethodName) jdk_33_method_22_code 1 (some (.object "java/lang/Integer")) :: ws) ({ frames := 3, cells := 1, slots := 1, locals := 38 } : Room)) (fun a U => a = #[(.int p1)] ∧ Z.Warmed39 U.vm ∧ U.heap = h0) (fun _ _ _ _ _ => True) (fun _ U o U' => ∃ v L, o = .returned v ∧ (Q_vo h0 n0) v U'.heap L ∧ FrameEnd U o U' L ({ frames := 3, cells := 1, slots := 1, locals := 38 } : Room).cells ({ frames := 3, cells := 1, slots := 1, locals := 38 } : Room).slots) := by
  refine MetFree.of_bodySF (plainFor_of_name pn_2) hisR ?_
  intro p e s m args below meth c s₁ Bd hml0 hP hK
  obtain ⟨rfl, hZ, hh⟩ := hP
  have hx := Bd.exec
  have hby := Bd.bytes
  have hlk : meth.locks = false := BodyLoose.notSynchronized Bd
  have hml : c.maxLocals = 1 := hml0
  have hown : s.vm.findClass "java/lang/Integer" = some m.cls := findClass_of_methodNamed Bd.named
  have hnm := (name_of_methodNamed Bd.named Bd.method).1
  have X0 : Stand p l e ({ frames := 3, cells := 1, slots := 1, locals := 38 } : Room) s m #[(.int p1)] below meth c s₁ [] 0 0 := Stand.of_body Bd
  have e0 : s₁.heap = h0 := by rw [← hh, Bd.state]; rfl
  have N0 := Fr.nil n0
  show own_Go p e below s (Q_vo h0 n0) ({ frames := 3, cells := 1, slots := 1, locals := 38 } : Room).cells ({ frames := 3, cells := 1, slots := 1, locals := 38 } : Room).slots s₁ (entryFrame m #[(.int p1)] 1)
  refine own_cast (g' := (mkF m 0 #[.val (.int p1)] [])) (ef_rm_vo m p1) ?_
  have K0 : Keep h0 h0 [] := Keep.refl _ _
  refine own_step (T' := s₁) (g' := (mkF m 1 #[.val (.int p1)] [(.int p1)])) (fun t k => XS.iloadN X0.here hx rfl (hb hby d5_0) rfl k) ?_
  refine own_step (T' := s₁) (g' := (mkF m 3 #[.val (.int p1)] [(.int ((-128) : Int32)), (.int p1)])) (fun t k => XS.bipush X0.here hx rfl (hb hby d5_1) k) ?_
  by_cases c3 : p1 < ((-128) : Int32)
  · refine own_step (T' := s₁) (g' := (mkF m 23 #[.val (.int p1)] [])) (fun t k => XS.icmpYes X0.here hx rfl (pc0 := 3) (pc' := 23) rfl (hb hby d5_3) rfl (tlt c3).1 (by decide) (by decide) k) ?_
    obtain ⟨T1, h1, X1, e1, E1, A1, D1, -, st1⟩ := newO X0 hx hZ hown (hw _ (List.mem_of_getElem? (i := 188) rfl)) (hw _ (List.mem_of_getElem? (i := 189) rfl)) (hw _ (List.mem_of_getElem? (i := 32) rfl)) e0 (g := (mkF m 23 #[.val (.int p1)] [])) rfl (hb hby d5_23) (by decide : 0 + 1 ≤ _) (by decide : 0 + 1 ≤ _)
    obtain ⟨ad1, g_ad1⟩ : ∃ z, z = h0.size := ⟨_, rfl⟩
    rw [← g_ad1] at A1 D1 st1
    have o1 : n0 ≤ ad1 := (Nat.le_trans Z0 (Nat.le_of_eq g_ad1.symm))
    have Z1 : n0 ≤ h1.size := (Nat.le_trans Z0 E1.1)
    have O1 : Old Z n0 h1 := O0.ext E1
    have f1 : h0.size ≤ ad1 := by rw [g_ad1]; exact K0.1
    have K2 : Keep h0 h1 [] := K0.ext E1
    have g3 : Fld Z h1 ad1 "java/lang/Integer" "value" "I" (.int (0 : Int32)) := D1 (Or.inr (hw _ (List.mem_of_getElem? (i := 202) rfl))) (ty := .int) (by decide)
    refine own_step (T' := T1) (g' := (mkF m 26 #[.val (.int p1)] [(.ref ad1)])) st1 ?_
    refine own_step (T' := T1) (g' := (mkF m 27 #[.val (.int p1)] [(.ref ad1), (.ref ad1)])) (fun t k => XS.dup X1.here hx rfl (hb hby d5_26) rfl rfl k) ?_
    refine own_step (T' := T1) (g' := (mkF m 28 #[.val (.int p1)] [(.int p1), (.ref ad1), (.ref ad1)])) (fun t k => XS.iloadN X1.here hx rfl (hb hby d5_27) rfl k) ?_
    obtain ⟨_, _, ⟨T7, L7, k7, n7⟩, -, X7, ⟨Lc7, hQ7, lq7, yq7, zq7⟩, st7⟩ := X1.specialBack hx (y := (⟨"java/lang/Integer", "<init>", "(I)V"⟩ : MethodName)) rfl hown (mvT hZ (hw _ (List.mem_of_getElem? (i := 190) rfl))) (mvT hZ (hw _ (List.mem_of_getElem? (i := 191) rfl))) (mvT hZ (hw _ (List.mem_of_getElem? (i := 193) rfl))) (by decide) (backOf (W := 1) (rm_iinit l Z a0 hw [] ad1 p1 _ h1 n0 Z1 A1 g3 o1) hZ (hw _ (List.mem_of_getElem? (i := 193) rfl)) (hw _ (List.mem_of_getElem? (i := 32) rfl)) (by decide) (by decide)) (g := (mkF m 28 #[.val (.int p1)] [(.int p1), (.ref ad1), (.ref ad1)])) rfl (by rw [hml]; rfl) (Steps.refl _) (a := ad1) (argsL := [(.int p1)]) (rest := [(.ref ad1)]) (lenOf pd_1 rfl) rfl (by show 2 * 0 + _ ≤ _; exact Nat.le_of_eq rfl) (hb hby d5_28) (fun _ _ => ⟨rfl, e1, (by decide : 1 + 0 ≤ _), (by decide : 1 + 0 ≤ _)⟩)
    dsimp only [Pt.U, Pt.locs, Pt.cells, Pt.slots] at X7 lq7 yq7 zq7 st7 hQ7
    subst lq7 yq7 zq7
    obtain ⟨rfl, Nq7, K4, g5, g6⟩ := hQ7
    have N7 := Fr.app N0 Nq7
    have Z4 : n0 ≤ T7.heap.size := (Nat.le_trans Z1 K4.1)
    have O4 : Old Z n0 T7.heap := O1.keep K4 (allS (P := fun x => n0 ≤ x) o1 all0)
    have K8 : Keep h0 T7.heap [] := K2.trans K4 (allS (P := fun x => x ∈ [] ∨ h0.size ≤ x) (Or.inr f1) all0)
    refine own_tr (T' := T7) (g' := (mkF m 31 #[.val (.int p1)] [(.ref ad1)])) st7 ?_
    refine own_rA X7 hx hlk Bd.returns rfl (w := (.ref ad1)) rfl (hb hby d5_31) ?_ (by decide) (by decide)
    exact ⟨_, rfl, N7, K8⟩
  · refine own_step (T' := s₁) (g' := (mkF m 6 #[.val (.int p1)] [])) (fun t k => XS.icmpNo X0.here hx rfl (hb hby d5_3) rfl (flt c3).1 k) ?_
    refine own_step (T' := s₁) (g' := (mkF m 7 #[.val (.int p1)] [(.int p1)])) (fun t k => XS.iloadN X0.here hx rfl (hb hby d5_6) rfl k) ?_
    obtain ⟨T9, X9, e9, st9⟩ := getS2 X0 hx hZ hown (host := "") (Or.inl (hw _ (List.mem_of_getElem? (i := 34) rfl))) Via.refl e0 (S_h.ext O0.2) (g := (mkF m 7 #[.val (.int p1)] [(.int p1)])) rfl (hb hby d5_7)
    refine own_step (T' := T9) (g' := (mkF m 10 #[.val (.int p1)] [(.int (127 : Int32)), (.int p1)])) st9 ?_
    by_cases c10 : (127 : Int32) < p1
    · refine own_step (T' := T9) (g' := (mkF m 23 #[.val (.int p1)] [])) (fun t k => XS.icmpYes X9.here hx rfl (pc0 := 10) (pc' := 23) rfl (hb hby d5_10) rfl (tlt c10).2.2.1 (by decide) (by decide) k) ?_
      obtain ⟨T10, h10, X10, e10, E10, A10, D10, -, st10⟩ := newO X9 hx hZ hown (hw _ (List.mem_of_getElem? (i := 188) rfl)) (hw _ (List.mem_of_getElem? (i := 189) rfl)) (hw _ (List.mem_of_getElem? (i := 32) rfl)) e9 (g := (mkF m 23 #[.val (.int p1)] [])) rfl (hb hby d5_23) (by decide : 0 + 1 ≤ _) (by decide : 0 + 1 ≤ _)
      obtain ⟨ad10, g_ad10⟩ : ∃ z, z = h0.size := ⟨_, rfl⟩
      rw [← g_ad10] at A10 D10 st10
      have o10 : n0 ≤ ad10 := (Nat.le_trans Z0 (Nat.le_of_eq g_ad10.symm))
      have Z10 : n0 ≤ h10.size := (Nat.le_trans Z0 E10.1)
      have O10 : Old Z n0 h10 := O0.ext E10
      have f10 : h0.size ≤ ad10 := by rw [g_ad10]; exact K0.1
      have K11 : Keep h0 h10 [] := K0.ext E10
      have g12 : Fld Z h10 ad10 "java/lang/Integer" "value" "I" (.int (0 : Int32)) := D10 (Or.inr (hw _ (List.mem_of_getElem? (i := 202) rfl))) (ty := .int) (by decide)
      refine own_step (T' := T10) (g' := (mkF m 26 #[.val (.int p1)] [(.ref ad10)])) st10 ?_
      refine own_step (T' := T10) (g' := (mkF m 27 #[.val (.int p1)] [(.ref ad10), (.ref ad10)])) (fun t k => XS.dup X10.here hx rfl (hb hby d5_26) rfl rfl k) ?_
      refine own_step (T' := T10) (g' := (mkF m 28 #[.val (.int p1)] [(.int p1), (.ref ad10), (.ref ad10)])) (fun t k => XS.iloadN X10.here hx rfl (hb hby d5_27) rfl k) ?_
      obtain ⟨_, _, ⟨T16, L16, k16, n16⟩, -, X16, ⟨Lc16, hQ16, lq16, yq16, zq16⟩, st16⟩ := X10.specialBack hx (y := (⟨"java/lang/Integer", "<init>", "(I)V"⟩ : MethodName)) rfl hown (mvT hZ (hw _ (List.mem_of_getElem? (i := 190) rfl))) (mvT hZ (hw _ (List.mem_of_getElem? (i := 191) rfl))) (mvT hZ (hw _ (List.mem_of_getElem? (i := 193) rfl))) (by decide) (backOf (W := 1) (rm_iinit l Z a0 hw [] ad10 p1 _ h10 n0 Z10 A10 g12 o10) hZ (hw _ (List.mem_of_getElem? (i := 193) rfl)) (hw _ (List.mem_of_getElem? (i := 32) rfl)) (by decide) (by decide)) (g := (mkF m 28 #[.val (.int p1)] [(.int p1), (.ref ad10), (.ref ad10)])) rfl (by rw [hml]; rfl) (Steps.refl _) (a := ad10) (argsL := [(.int p1)]) (rest := [(.ref ad10)]) (lenOf pd_1 rfl) rfl (by show 2 * 0 + _ ≤ _; exact Nat.le_of_eq rfl) (hb hby d5_28) (fun _ _ => ⟨rfl, e10, (by decide : 1 + 0 ≤ _), (by decide : 1 + 0 ≤ _)⟩)
      dsimp only [Pt.U, Pt.locs, Pt.cells, Pt.slots] at X16 lq16 yq16 zq16 st16 hQ16
      subst lq16 yq16 zq16
      obtain ⟨rfl, Nq16, K13, g14, g15⟩ := hQ16
      have N16 := Fr.app N0 Nq16
      have Z13 : n0 ≤ T16.heap.size := (Nat.le_trans Z10 K13.1)
      have O13 : Old Z n0 T16.heap := O10.keep K13 (allS (P := fun x => n0 ≤ x) o10 all0)
      have K17 : Keep h0 T16.heap [] := K11.trans K13 (allS (P := fun x => x ∈ [] ∨ h0.size ≤ x) (Or.inr f10) all0)
      refine own_tr (T' := T16) (g' := (mkF m 31 #[.val (.int p1)] [(.ref ad10)])) st16 ?_
      refine own_rA X16 hx hlk Bd.returns rfl (w := (.ref ad10)) rfl (hb hby d5_31) ?_ (by decide) (by decide)
      exact ⟨_, rfl, N16, K17⟩
    · refine own_step (T' := T9) (g' := (mkF m 13 #[.val (.int p1)] [])) (fun t k => XS.icmpNo X9.here hx rfl (hb hby d5_10) rfl (flt c10).2.2.1 k) ?_
      obtain ⟨T18, X18, e18, st18⟩ := getS2 X9 hx hZ hown (host := "") (Or.inl (hw _ (List.mem_of_getElem? (i := 36) rfl))) Via.refl e9 (S_c.ext O0.2) (g := (mkF m 13 #[.val (.int p1)] [])) rfl (hb hby d5_13)
      refine own_step (T' := T18) (g' := (mkF m 16 #[.val (.int p1)] [(.ref ca)])) st18 ?_
      refine own_step (T' := T18) (g' := (mkF m 17 #[.val (.int p1)] [(.int p1), (.ref ca)])) (fun t k => XS.iloadN X18.here hx rfl (hb hby d5_16) rfl k) ?_
      refine own_step (T' := T18) (g' := (mkF m 20 #[.val (.int p1)] [(.int (128 : Int32)), (.int p1), (.ref ca)])) (fun t k => XS.sipush X18.here hx rfl (hb hby d5_17) k) ?_
      refine own_step (T' := T18) (g' := (mkF m 21 #[.val (.int p1)] [(.int (p1 + (128 : Int32))), (.ref ca)])) (fun t k => XS.iadd X18.here hx rfl (hb hby d5_20) rfl k) ?_
      have hci := own_ci c3 c10
      obtain ⟨r, hr⟩ := H_c.2 _ hci.2
      have A_h := A_c.ext O0.2
      refine own_step (T' := T18) (g' := (mkF m 22 #[.val (.int p1)] [(.ref r)])) (fun t k => X18.aaload hx (j := (p1 + (128 : Int32))) (v := .ref r) (by rw [e18]; exact A_h.1) (State.isArrayOf_alike hZ.alike A_h.2.1) rfl A_h.2.2 (fun q => q.elim hci.1 (fun q => absurd hci.2 (by rw [H_c.1] at q; omega))) hr (g := (mkF m 21 #[.val (.int p1)] [(.int (p1 + (128 : Int32))), (.ref ca)])) rfl rfl (hb hby d5_21) t k) ?_
      refine own_rA X18 hx hlk Bd.returns rfl (w := (.ref r)) rfl (hb hby d5_22) ?_ (by decide) (by decide)
      rw [e18]
      exact ⟨_, rfl, N0, K0⟩
def Q_ac (h0 : Heap) (n0 : Nat) (v : Option Value) (h : Heap) (L : List Loc) : Prop := v = none ∧ Fr n0 L ∧ h = h0
theorem ef_rm_ac (m : MethodId) (x0 : Addr) : entryFrame m #[(.ref x0)] 1 = mkF m 0 #[.val (.ref x0)] [] := by first | (simp [entryFrame, mkF, argsToLocals, Value.category]; done) | rfl | (simp [entryFrame, mkF, argsToLocals, Value.category] <;> rfl)
theorem pn_3 : plainName "java/util/AbstractCollection" = true := by first | (simp [plainName, overriddenIn]; done) | decide +kernel
theorem d3_0 : decode jdk_22_method_1_code 0 = .ok (.aload_n 0, 1) := by decide +kernel
theorem d3_1 : decode jdk_22_method_1_code 1 = .ok (.invokespecial 1, 3) := by decide +kernel
theorem d3_4 : decode jdk_22_method_1_code 4 = .ok (.return_, 1) := by decide +kernel
set_option maxRecDepth 65536 in
set_option maxHeartbeats 40000000 in
theorem rm_ac (l : Launch) (Z : State) (a0 : Array Value) (hw : ∀ d ∈ tables_1, d.before a0 Z = true) (ws : List Jvm.Cond) (a1 : Addr) (h0 : Heap) (n0 : Nat) (Z0 : n0 ≤ h0.size)  :
    MetFree l (⟨"java/util/AbstractCollection", "<init>", "()V"⟩ : MethodName) (head1 (Jvm.Cond.code (⟨"java/util/AbstractCollection", "<init>", "()V"⟩ : MethodName) jdk_22_method_1_code 1 none :: ws) ({ frames := 1, cells := 0, slots := 0, locals := 12 } : Room)) (fun a U => a = #[(.ref a1)] ∧ Z.Warmed39 U.vm ∧ U.heap = h0) (fun _ _ _ _ _ => True) (fun _ U o U' => ∃ v L, o = .returned v ∧ (Q_ac h0 n0) v U'.heap L ∧ FrameEnd U o U' L ({ frames := 1, cells := 0, slots := 0, locals := 12 } : Room).cells ({ frames := 1, cells := 0, slots := 0, locals := 12 } : Room).slots) := by
  refine MetFree.of_bodySF (plainFor_of_name pn_3) hisR ?_
  intro p e s m args below meth c s₁ Bd hml0 hP hK
  obtain ⟨rfl, hZ, hh⟩ := hP
  have hx := Bd.exec
  have hby := Bd.bytes
  have hlk : meth.locks = false := BodyLoose.notSynchronized Bd
  have hml : c.maxLocals = 1 := hml0
  have hown : s.vm.findClass "java/util/AbstractCollection" = some m.cls := findClass_of_methodNamed Bd.named
  have hnm := (name_of_methodNamed Bd.named Bd.method).1
  have X0 : Stand p l e ({ frames := 1, cells := 0, slots := 0, locals := 12 } : Room) s m #[(.ref a1)] below meth c s₁ [] 0 0 := Stand.of_body Bd
  have e0 : s₁.heap = h0 := by rw [← hh, Bd.state]; rfl
  have N0 := Fr.nil n0
  show own_Go p e below s (Q_ac h0 n0) ({ frames := 1, cells := 0, slots := 0, locals := 12 } : Room).cells ({ frames := 1, cells := 0, slots := 0, locals := 12 } : Room).slots s₁ (entryFrame m #[(.ref a1)] 1)
  refine own_cast (g' := (mkF m 0 #[.val (.ref a1)] [])) (ef_rm_ac m a1) ?_
  refine own_step (T' := s₁) (g' := (mkF m 1 #[.val (.ref a1)] [(.ref a1)])) (fun t k => XS.aloadN X0.here hx rfl (hb hby d3_0) rfl rfl k) ?_
  obtain ⟨T1, X1, e1, st1⟩ := initO X0 hx hZ hown (hw _ (List.mem_of_getElem? (i := 19) rfl)) (hw _ (List.mem_of_getElem? (i := 20) rfl)) (hw _ (List.mem_of_getElem? (i := 21) rfl)) e0 (g := (mkF m 1 #[.val (.ref a1)] [(.ref a1)])) rfl (by rw [hml]; rfl) rfl (hb hby d3_1) (by decide) (W := 0) (by show 2 * 0 + _ ≤ _; exact Nat.le_of_eq rfl) (by decide)
  refine own_step (T' := T1) (g' := (mkF m 4 #[.val (.ref a1)] [])) st1 ?_
  refine own_rV X1 hx hlk Bd.returns (hb hby d3_4) ?_ (by decide) (by decide)
  rw [e1]
  exact ⟨rfl, N0, rfl⟩
def Q_aic (h0 : Heap) (n0 : Nat) (v : Option Value) (h : Heap) (L : List Loc) : Prop := v = none ∧ Fr n0 L ∧ h = h0
theorem ef_rm_aic (m : MethodId) (x0 : Addr) : entryFrame m #[(.ref x0)] 1 = mkF m 0 #[.val (.ref x0)] [] := by first | (simp [entryFrame, mkF, argsToLocals, Value.category]; done) | rfl | (simp [entryFrame, mkF, argsToLocals, Value.category] <;> rfl)
theorem pn_4 : plainName "java/util/ImmutableCollections$AbstractImmutableCollection" = true := by first | (simp [plainName, overriddenIn]; done) | decide +kernel
theorem d24_0 : decode jdk_47_method_1_code 0 = .ok (.aload_n 0, 1) := by decide +kernel
theorem d24_1 : decode jdk_47_method_1_code 1 = .ok (.invokespecial 1, 3) := by decide +kernel
theorem d24_4 : decode jdk_47_method_1_code 4 = .ok (.return_, 1) := by decide +kernel
set_option maxRecDepth 65536 in
set_option maxHeartbeats 40000000 in
theorem rm_aic (l : Launch) (Z : State) (a0 : Array Value) (hw : ∀ d ∈ tables_1, d.before a0 Z = true) (ws : List Jvm.Cond) (a1 : Addr) (h0 : Heap) (n0 : Nat) (Z0 : n0 ≤ h0.size)  :
    MetFree l (⟨"java/util/ImmutableCollections$AbstractImmutableCollection", "<init>", "()V"⟩ : MethodName) (head1 (Jvm.Cond.code (⟨"java/util/ImmutableCollections$AbstractImmutableCollection", "<init>", "()V"⟩ : MethodName) jdk_47_method_1_code 1 none :: ws) ({ frames := 2, cells := 0, slots := 0, locals := 24 } : Room)) (fun a U => a = #[(.ref a1)] ∧ Z.Warmed39 U.vm ∧ U.heap = h0) (fun _ _ _ _ _ => True) (fun _ U o U' => ∃ v L, o = .returned v ∧ (Q_aic h0 n0) v U'.heap L ∧ FrameEnd U o U' L ({ frames := 2, cells := 0, slots := 0, locals := 24 } : Room).cells ({ frames := 2, cells := 0, slots := 0, locals := 24 } : Room).slots) := by
  refine MetFree.of_bodySF (plainFor_of_name pn_4) hisR ?_
  intro p e s m args below meth c s₁ Bd hml0 hP hK
  obtain ⟨rfl, hZ, hh⟩ := hP
  have hx := Bd.exec
  have hby := Bd.bytes
  have hlk : meth.locks = false := BodyLoose.notSynchronized Bd
  have hml : c.maxLocals = 1 := hml0
  have hown : s.vm.findClass "java/util/ImmutableCollections$AbstractImmutableCollection" = some m.cls := findClass_of_methodNamed Bd.named
  have hnm := (name_of_methodNamed Bd.named Bd.method).1
  have X0 : Stand p l e ({ frames := 2, cells := 0, slots := 0, locals := 24 } : Room) s m #[(.ref a1)] below meth c s₁ [] 0 0 := Stand.of_body Bd
  have e0 : s₁.heap = h0 := by rw [← hh, Bd.state]; rfl
  have N0 := Fr.nil n0
  show own_Go p e below s (Q_aic h0 n0) ({ frames := 2, cells := 0, slots := 0, locals := 24 } : Room).cells ({ frames := 2, cells := 0, slots := 0, locals := 24 } : Room).slots s₁ (entryFrame m #[(.ref a1)] 1)
  refine own_cast (g' := (mkF m 0 #[.val (.ref a1)] [])) (ef_rm_aic m a1) ?_
  refine own_step (T' := s₁) (g' := (mkF m 1 #[.val (.ref a1)] [(.ref a1)])) (fun t k => XS.aloadN X0.here hx rfl (hb hby d24_0) rfl rfl k) ?_
  obtain ⟨_, _, ⟨T2, L2, k2, n2⟩, -, X2, ⟨Lc2, hQ2, lq2, yq2, zq2⟩, st2⟩ := X0.specialBack hx (y := (⟨"java/util/AbstractCollection", "<init>", "()V"⟩ : MethodName)) rfl hown (mvT hZ (hw _ (List.mem_of_getElem? (i := 163) rfl))) (mvT hZ (hw _ (List.mem_of_getElem? (i := 14) rfl))) (mvT hZ (hw _ (List.mem_of_getElem? (i := 18) rfl))) (by decide) (backOf (W := 0) (rm_ac l Z a0 hw [] a1 h0 n0 Z0 ) hZ (hw _ (List.mem_of_getElem? (i := 18) rfl)) (hw _ (List.mem_of_getElem? (i := 17) rfl)) (by decide) (by decide)) (g := (mkF m 1 #[.val (.ref a1)] [(.ref a1)])) rfl (by rw [hml]; rfl) (Steps.refl _) (a := a1) (argsL := []) (rest := []) (lenOf pd_0 rfl) rfl (by show 2 * 0 + _ ≤ _; exact Nat.le_of_eq rfl) (hb hby d24_1) (fun _ _ => ⟨rfl, e0, (by decide : 0 + 0 ≤ _), (by decide : 0 + 0 ≤ _)⟩)
  dsimp only [Pt.U, Pt.locs, Pt.cells, Pt.slots] at X2 lq2 yq2 zq2 st2 hQ2
  subst lq2 yq2 zq2
  obtain ⟨rfl, Nq2, eq1⟩ := hQ2
  have N2 := Fr.app N0 Nq2
  refine own_tr (T' := T2) (g' := (mkF m 4 #[.val (.ref a1)] [])) st2 ?_
  refine own_rV X2 hx hlk Bd.returns (hb hby d24_4) ?_ (by decide) (by decide)
  rw [eq1]
  exact ⟨rfl, N2, rfl⟩
def Q_ail (h0 : Heap) (n0 : Nat) (v : Option Value) (h : Heap) (L : List Loc) : Prop := v = none ∧ Fr n0 L ∧ h = h0
theorem ef_rm_ail (m : MethodId) (x0 : Addr) : entryFrame m #[(.ref x0)] 1 = mkF m 0 #[.val (.ref x0)] [] := by first | (simp [entryFrame, mkF, argsToLocals, Value.category]; done) | rfl | (simp [entryFrame, mkF, argsToLocals, Value.category] <;> rfl)
theorem pn_5 : plainName "java/util/ImmutableCollections$AbstractImmutableList" = true := by first | (simp [plainName, overriddenIn]; done) | decide +kernel
theorem d23_0 : decode jdk_46_method_1_code 0 = .ok (.aload_n 0, 1) := by decide +kernel
theorem d23_1 : decode jdk_46_method_1_code 1 = .ok (.invokespecial 1, 3) := by decide +kernel
theorem d23_4 : decode jdk_46_method_1_code 4 = .ok (.return_, 1) := by decide +kernel
set_option maxRecDepth 65536 in
set_option maxHeartbeats 40000000 in
theorem rm_ail (l : Launch) (Z : State) (a0 : Array Value) (hw : ∀ d ∈ tables_1, d.before a0 Z = true) (ws : List Jvm.Cond) (a1 : Addr) (h0 : Heap) (n0 : Nat) (Z0 : n0 ≤ h0.size)  :
    MetFree l (⟨"java/util/ImmutableCollections$AbstractImmutableList", "<init>", "()V"⟩ : MethodName) (head1 (Jvm.Cond.code (⟨"java/util/ImmutableCollections$AbstractImmutableList", "<init>", "()V"⟩ : MethodName) jdk_46_method_1_code 1 none :: ws) ({ frames := 3, cells := 0, slots := 0, locals := 36 } : Room)) (fun a U => a = #[(.ref a1)] ∧ Z.Warmed39 U.vm ∧ U.heap = h0) (fun _ _ _ _ _ => True) (fun _ U o U' => ∃ v L, o = .returned v ∧ (Q_ail h0 n0) v U'.heap L ∧ FrameEnd U o U' L ({ frames := 3, cells := 0, slots := 0, locals := 36 } : Room).cells ({ frames := 3, cells := 0, slots := 0, locals := 36 } : Room).slots) := by
  refine MetFree.of_bodySF (plainFor_of_name pn_5) hisR ?_
  intro p e s m args below meth c s₁ Bd hml0 hP hK
  obtain ⟨rfl, hZ, hh⟩ := hP
  have hx := Bd.exec
  have hby := Bd.bytes
  have hlk : meth.locks = false := BodyLoose.notSynchronized Bd
  have hml : c.maxLocals = 1 := hml0
  have hown : s.vm.findClass "java/util/ImmutableCollections$AbstractImmutableList" = some m.cls := findClass_of_methodNamed Bd.named
  have hnm := (name_of_methodNamed Bd.named Bd.method).1
  have X0 : Stand p l e ({ frames := 3, cells := 0, slots := 0, locals := 36 } : Room) s m #[(.ref a1)] below meth c s₁ [] 0 0 := Stand.of_body Bd
  have e0 : s₁.heap = h0 := by rw [← hh, Bd.state]; rfl
  have N0 := Fr.nil n0
  show own_Go p e below s (Q_ail h0 n0) ({ frames := 3, cells := 0, slots := 0, locals := 36 } : Room).cells ({ frames := 3, cells := 0, slots := 0, locals := 36 } : Room).slots s₁ (entryFrame m #[(.ref a1)] 1)
  refine own_cast (g' := (mkF m 0 #[.val (.ref a1)] [])) (ef_rm_ail m a1) ?_
  refine own_step (T' := s₁) (g' := (mkF m 1 #[.val (.ref a1)] [(.ref a1)])) (fun t k => XS.aloadN X0.here hx rfl (hb hby d23_0) rfl rfl k) ?_
  obtain ⟨_, _, ⟨T2, L2, k2, n2⟩, -, X2, ⟨Lc2, hQ2, lq2, yq2, zq2⟩, st2⟩ := X0.specialBack hx (y := (⟨"java/util/ImmutableCollections$AbstractImmutableCollection", "<init>", "()V"⟩ : MethodName)) rfl hown (mvT hZ (hw _ (List.mem_of_getElem? (i := 157) rfl))) (mvT hZ (hw _ (List.mem_of_getElem? (i := 158) rfl))) (mvT hZ (hw _ (List.mem_of_getElem? (i := 162) rfl))) (by decide) (backOf (W := 0) (rm_aic l Z a0 hw [] a1 h0 n0 Z0 ) hZ (hw _ (List.mem_of_getElem? (i := 162) rfl)) (hw _ (List.mem_of_getElem? (i := 161) rfl)) (by decide) (by decide)) (g := (mkF m 1 #[.val (.ref a1)] [(.ref a1)])) rfl (by rw [hml]; rfl) (Steps.refl _) (a := a1) (argsL := []) (rest := []) (lenOf pd_0 rfl) rfl (by show 2 * 0 + _ ≤ _; exact Nat.le_of_eq rfl) (hb hby d23_1) (fun _ _ => ⟨rfl, e0, (by decide : 0 + 0 ≤ _), (by decide : 0 + 0 ≤ _)⟩)
  dsimp only [Pt.U, Pt.locs, Pt.cells, Pt.slots] at X2 lq2 yq2 zq2 st2 hQ2
  subst lq2 yq2 zq2
  obtain ⟨rfl, Nq2, eq1⟩ := hQ2
  have N2 := Fr.app N0 Nq2
  refine own_tr (T' := T2) (g' := (mkF m 4 #[.val (.ref a1)] [])) st2 ?_
  refine own_rV X2 hx hlk Bd.returns (hb hby d23_4) ?_ (by decide) (by decide)
  rw [eq1]
  exact ⟨rfl, N2, rfl⟩
theorem own_mvLN {Z s : State} {a0 args : Array Value} {own host : String} {index : Nat} {y : MethodName} (hZ : Z.Warmed39 s.vm) (w : (Cond.methodLinkNest own index y host).before a0 Z = true) : (Cond.methodLinkNest own index y host).before args s = true := (Cond.methodLinkNest_wide hZ w :)
def own_Mir (Z : State) (C : String) (m : Addr) : Prop := ∃ (c : ClassId) (k : Class), Z.vm.findClass C = some c ∧ Z.vm.classes[c]? = some k ∧ k.mirror = some m
theorem own_mirS {Z s : State} {C : String} {mr : Addr} {cq : ClassId} (hZ : Z.Warmed39 s.vm) (M : own_Mir Z C mr) (h : s.vm.findClass C = some cq) : ∃ k, s.vm.classes[cq]? = some k ∧ k.mirror = some mr := by
  obtain ⟨cc, kc, m1, m2, m3⟩ := M
  rw [hZ.alike.findClass] at h
  have ec : cc = cq := Option.some.inj (m1.symm.trans h)
  subst ec
  obtain ⟨k', q, ek⟩ := hZ.alike.2.2 _ _ m2
  exact ⟨k', q, by rw [ek]; exact m3⟩
theorem own_evM {Z s : State} {args : Array Value} {C : String} {mr : Addr} (hZ : Z.Warmed39 s.vm) (M : own_Mir Z C mr) : (Term.mirror C).eval args s none [] s = some (.ref mr) := by
  obtain ⟨cc, kc, m1, m2, m3⟩ := M
  obtain ⟨k', q, ek⟩ := hZ.alike.2.2 _ _ m2
  have f : s.vm.findClass C = some cc := by rw [hZ.alike.findClass]; exact m1
  have m3' : k'.mirror = some mr := by rw [ek]; exact m3
  simp [Term.eval, f, q, m3']
theorem own_NSroot {Z : State} {a0 : Array Value} {O K : String} {n : Nat} (w : (Cond.noSuperclass O).before a0 Z = true) (wk : (Cond.instantiable K n).before a0 Z = true) (hn : O ≠ K) : NS Z O K := by
  obtain ⟨c, k, h1, h2, h3, -, -⟩ := Cond.noSuperclass_spec w
  obtain ⟨t, kt, g1, -⟩ := Cond.instantiable_spec wk
  have ne := ids_ne h1 g1 hn
  refine ⟨c, t, h1, g1, fun fuel => ?_⟩
  cases fuel with
  | zero => rfl
  | succ f => simp [Vm.isSubclassAux, ne, h2, h3]
theorem own_NSno {Z : State} {a0 : Array Value} {C S K : String} {n : Nat} (w : (Cond.superclass C S).before a0 Z = true) (wk : (Cond.instantiable K n).before a0 Z = true) (ns : NS Z C K) (hn : C ≠ K) : ∃ c t, Z.vm.findClass C = some c ∧ Z.vm.findClass K = some t ∧ Z.vm.assignable c t = false := by
  obtain ⟨c, t, h0, g0, n3⟩ := ns
  obtain ⟨p, k, kp, h1, h2, h3, h4, h5, -, h7⟩ := Cond.superclass_spec h0 w
  obtain ⟨t', k', g1, g2, g3, g4, -⟩ := Cond.instantiable_spec wk
  cases g0.symm.trans g1
  have ne := ids_ne h0 g0 hn
  refine ⟨c, t, h0, g0, ?_⟩
  have g5 : k'.isInterface = false := by
    cases hq : k'.isInterface with
    | false => rfl
    | true => simp [hq] at g4
  show Z.vm.assignableAux (255 + 1) c t = false
  simp [Vm.assignableAux, ne, h2, g2, h5, g3, g5, Vm.isSubclass, n3]
def Q_abi (Z : State) (a1 : Addr) (u1 : Value) (u2 : Value) (u3 : Value) (h0 : Heap) (n0 : Nat) (v : Option Value) (h : Heap) (L : List Loc) : Prop := v = none ∧ Fr n0 L ∧ Keep h0 h [a1] ∧ Exa Z h a1 "java/util/ArrayList" ∧ Fld Z h a1 "java/util/AbstractList" "modCount" "I" (.int (0 : Int32)) ∧ Fld Z h a1 "java/util/ArrayList" "elementData" "[Ljava/lang/Object;" u2 ∧ Fld Z h a1 "java/util/ArrayList" "size" "I" u3
theorem ef_rm_abi (m : MethodId) (x0 : Addr) : entryFrame m #[(.ref x0)] 1 = mkF m 0 #[.val (.ref x0)] [] := by first | (simp [entryFrame, mkF, argsToLocals, Value.category]; done) | rfl | (simp [entryFrame, mkF, argsToLocals, Value.category] <;> rfl)
theorem pn_6 : plainName "java/util/AbstractList" = true := by first | (simp [plainName, overriddenIn]; done) | decide +kernel
theorem d2_0 : decode jdk_39_method_1_code 0 = .ok (.aload_n 0, 1) := by decide +kernel
theorem d2_1 : decode jdk_39_method_1_code 1 = .ok (.invokespecial 1, 3) := by decide +kernel
theorem d2_4 : decode jdk_39_method_1_code 4 = .ok (.aload_n 0, 1) := by decide +kernel
theorem d2_5 : decode jdk_39_method_1_code 5 = .ok (.iconst 0, 1) := by decide +kernel
theorem d2_6 : decode jdk_39_method_1_code 6 = .ok (.putfield 7, 3) := by decide +kernel
theorem d2_9 : decode jdk_39_method_1_code 9 = .ok (.return_, 1) := by decide +kernel
set_option maxRecDepth 65536 in
set_option maxHeartbeats 40000000 in
theorem rm_abi (l : Launch) (Z : State) (a0 : Array Value) (hw : ∀ d ∈ tables_1, d.before a0 Z = true) (ws : List Jvm.Cond) (a1 : Addr) (u1 : Value) (u2 : Value) (u3 : Value) (h0 : Heap) (n0 : Nat) (Z0 : n0 ≤ h0.size) (F_0 : Exa Z h0 a1 "java/util/ArrayList") (F_1 : Fld Z h0 a1 "java/util/AbstractList" "modCount" "I" u1) (F_2 : Fld Z h0 a1 "java/util/ArrayList" "elementData" "[Ljava/lang/Object;" u2) (F_3 : Fld Z h0 a1 "java/util/ArrayList" "size" "I" u3) (o_a1 : n0 ≤ a1) :
    MetFree l (⟨"java/util/AbstractList", "<init>", "()V"⟩ : MethodName) (head1 (Jvm.Cond.code (⟨"java/util/AbstractList", "<init>", "()V"⟩ : MethodName) jdk_39_method_1_code 1 none :: ws) ({ frames := 2, cells := 0, slots := 0, locals := 24 } : Room)) (fun a U => a = #[(.ref a1)] ∧ Z.Warmed39 U.vm ∧ U.heap = h0) (fun _ _ _ _ _ => True) (fun _ U o U' => ∃ v L, o = .returned v ∧ (Q_abi Z a1 u1 u2 u3 h0 n0) v U'.heap L ∧ FrameEnd U o U' L ({ frames := 2, cells := 0, slots := 0, locals := 24 } : Room).cells ({ frames := 2, cells := 0, slots := 0, locals := 24 } : Room).slots) := by
  refine MetFree.of_bodySF (plainFor_of_name pn_6) hisR ?_
  intro p e s m args below meth c s₁ Bd hml0 hP hK
  obtain ⟨rfl, hZ, hh⟩ := hP
  have hx := Bd.exec
  have hby := Bd.bytes
  have hlk : meth.locks = false := BodyLoose.notSynchronized Bd
  have hml : c.maxLocals = 1 := hml0
  have hown : s.vm.findClass "java/util/AbstractList" = some m.cls := findClass_of_methodNamed Bd.named
  have hnm := (name_of_methodNamed Bd.named Bd.method).1
  have X0 : Stand p l e ({ frames := 2, cells := 0, slots := 0, locals := 24 } : Room) s m #[(.ref a1)] below meth c s₁ [] 0 0 := Stand.of_body Bd
  have e0 : s₁.heap = h0 := by rw [← hh, Bd.state]; rfl
  have N0 := Fr.nil n0
  show own_Go p e below s (Q_abi Z a1 u1 u2 u3 h0 n0) ({ frames := 2, cells := 0, slots := 0, locals := 24 } : Room).cells ({ frames := 2, cells := 0, slots := 0, locals := 24 } : Room).slots s₁ (entryFrame m #[(.ref a1)] 1)
  refine own_cast (g' := (mkF m 0 #[.val (.ref a1)] [])) (ef_rm_abi m a1) ?_
  have K0 : Keep h0 h0 [a1] := Keep.refl _ _
  refine own_step (T' := s₁) (g' := (mkF m 1 #[.val (.ref a1)] [(.ref a1)])) (fun t k => XS.aloadN X0.here hx rfl (hb hby d2_0) rfl rfl k) ?_
  obtain ⟨_, _, ⟨T2, L2, k2, n2⟩, -, X2, ⟨Lc2, hQ2, lq2, yq2, zq2⟩, st2⟩ := X0.specialBack hx (y := (⟨"java/util/AbstractCollection", "<init>", "()V"⟩ : MethodName)) rfl hown (mvT hZ (hw _ (List.mem_of_getElem? (i := 13) rfl))) (mvT hZ (hw _ (List.mem_of_getElem? (i := 14) rfl))) (mvT hZ (hw _ (List.mem_of_getElem? (i := 18) rfl))) (by decide) (backOf (W := 0) (rm_ac l Z a0 hw [] a1 h0 n0 Z0 ) hZ (hw _ (List.mem_of_getElem? (i := 18) rfl)) (hw _ (List.mem_of_getElem? (i := 17) rfl)) (by decide) (by decide)) (g := (mkF m 1 #[.val (.ref a1)] [(.ref a1)])) rfl (by rw [hml]; rfl) (Steps.refl _) (a := a1) (argsL := []) (rest := []) (lenOf pd_0 rfl) rfl (by show 2 * 0 + _ ≤ _; exact Nat.le_of_eq rfl) (hb hby d2_1) (fun _ _ => ⟨rfl, e0, (by decide : 0 + 0 ≤ _), (by decide : 0 + 0 ≤ _)⟩)
  dsimp only [Pt.U, Pt.locs, Pt.cells, Pt.slots] at X2 lq2 yq2 zq2 st2 hQ2
  subst lq2 yq2 zq2
  obtain ⟨rfl, Nq2, eq1⟩ := hQ2
  have N2 := Fr.app N0 Nq2
  refine own_tr (T' := T2) (g' := (mkF m 4 #[.val (.ref a1)] [])) st2 ?_
  refine own_step (T' := T2) (g' := (mkF m 5 #[.val (.ref a1)] [(.ref a1)])) (fun t k => XS.aloadN X2.here hx rfl (hb hby d2_4) rfl rfl k) ?_
  refine own_step (T' := T2) (g' := (mkF m 6 #[.val (.ref a1)] [(.int (0 : Int32)), (.ref a1)])) (fun t k => XS.iconst X2.here hx rfl (hb hby d2_5) k) ?_
  obtain ⟨T3, h3, X3, e3, W3, st3⟩ := putF X2 hx hZ hown (host := "") (Or.inl (hw _ (List.mem_of_getElem? (i := 22) rfl))) Via.refl eq1 F_1 F_0 (Or.inl (hw _ (List.mem_of_getElem? (i := 23) rfl))) (hw _ (List.mem_of_getElem? (i := 2) rfl)) (ty := .int) (by decide) rfl rfl (g := (mkF m 6 #[.val (.ref a1)] [(.int (0 : Int32)), (.ref a1)])) rfl rfl (hb hby d2_6)
  have g4 : Exa Z h3 a1 "java/util/ArrayList" := F_0.wr W3
  have g5 : Fld Z h3 a1 "java/util/AbstractList" "modCount" "I" (.int (0 : Int32)) := F_1.same W3
  have g6 : Fld Z h3 a1 "java/util/ArrayList" "elementData" "[Ljava/lang/Object;" u2 := F_2.other W3 (Or.inr (slot_ne (Or.inl (hw _ (List.mem_of_getElem? (i := 26) rfl))) (Or.inl (hw _ (List.mem_of_getElem? (i := 23) rfl))) (by decide) (t := .array (.object "java/lang/Object")) (t' := .int) (by decide) (by decide)))
  have g7 : Fld Z h3 a1 "java/util/ArrayList" "size" "I" u3 := F_3.other W3 (Or.inr (slot_ne (Or.inl (hw _ (List.mem_of_getElem? (i := 58) rfl))) (Or.inl (hw _ (List.mem_of_getElem? (i := 23) rfl))) (by decide) (t := .int) (t' := .int) (by decide) (by decide)))
  have K8 : Keep h0 h3 [a1] := K0.wr W3 (Or.inl (List.mem_of_getElem? (i := 0) rfl))
  have N3 := Fr.snoc X3 N2 o_a1
  have Z3 : n0 ≤ h3.size := (Nat.le_trans Z0 (Nat.le_of_eq W3.size.symm))
  refine own_step (T' := T3) (g' := (mkF m 9 #[.val (.ref a1)] [])) st3 ?_
  refine own_rV X3 hx hlk Bd.returns (hb hby d2_9) ?_ (by decide) (by decide)
  rw [e3]
  exact ⟨rfl, N3, K8, g4, g5, g6, g7⟩
def Q_ali (Z : State) (a1 : Addr) (u1 : Value) (u2 : Value) (de : Addr) (h0 : Heap) (n0 : Nat) (v : Option Value) (h : Heap) (L : List Loc) : Prop := v = none ∧ Fr n0 L ∧ Keep h0 h [a1] ∧ Exa Z h a1 "java/util/ArrayList" ∧ Fld Z h a1 "java/util/AbstractList" "modCount" "I" (.int (0 : Int32)) ∧ Fld Z h a1 "java/util/ArrayList" "elementData" "[Ljava/lang/Object;" (.ref de) ∧ Fld Z h a1 "java/util/ArrayList" "size" "I" (.int (0 : Int32))
theorem ef_rm_ali (m : MethodId) (x0 : Addr) : entryFrame m #[(.ref x0)] 1 = mkF m 0 #[.val (.ref x0)] [] := by first | (simp [entryFrame, mkF, argsToLocals, Value.category]; done) | rfl | (simp [entryFrame, mkF, argsToLocals, Value.category] <;> rfl)
theorem pn_7 : plainName "java/util/ArrayList" = true := by first | (simp [plainName, overriddenIn]; done) | decide +kernel
theorem d1_0 : decode jdk_38_method_2_code 0 = .ok (.aload_n 0, 1) := by decide +kernel
theorem d1_1 : decode jdk_38_method_2_code 1 = .ok (.invokespecial 1, 3) := by decide +kernel
theorem d1_4 : decode jdk_38_method_2_code 4 = .ok (.aload_n 0, 1) := by decide +kernel
theorem d1_5 : decode jdk_38_method_2_code 5 = .ok (.getstatic 39, 3) := by decide +kernel
theorem d1_8 : decode jdk_38_method_2_code 8 = .ok (.putfield 9, 3) := by decide +kernel
theorem d1_11 : decode jdk_38_method_2_code 11 = .ok (.return_, 1) := by decide +kernel
set_option maxRecDepth 65536 in
set_option maxHeartbeats 40000000 in
theorem rm_ali (l : Launch) (Z : State) (a0 : Array Value) (hw : ∀ d ∈ tables_1, d.before a0 Z = true) (ws : List Jvm.Cond) (a1 : Addr) (u1 : Value) (u2 : Value) (de : Addr) (h0 : Heap) (n0 : Nat) (Z0 : n0 ≤ h0.size) (F_0 : Exa Z h0 a1 "java/util/ArrayList") (F_1 : Fld Z h0 a1 "java/util/AbstractList" "modCount" "I" u1) (F_2 : Fld Z h0 a1 "java/util/ArrayList" "elementData" "[Ljava/lang/Object;" u2) (F_3 : Fld Z h0 a1 "java/util/ArrayList" "size" "I" (.int (0 : Int32))) (o_a1 : n0 ≤ a1) (O0 : Old Z n0 h0) (S_d : Sta Z Z.heap "java/util/ArrayList" "DEFAULTCAPACITY_EMPTY_ELEMENTDATA" "[Ljava/lang/Object;" (.ref de)) :
    MetFree l (⟨"java/util/ArrayList", "<init>", "()V"⟩ : MethodName) (head1 (Jvm.Cond.code (⟨"java/util/ArrayList", "<init>", "()V"⟩ : MethodName) jdk_38_method_2_code 1 none :: ws) ({ frames := 3, cells := 0, slots := 0, locals := 36 } : Room)) (fun a U => a = #[(.ref a1)] ∧ Z.Warmed39 U.vm ∧ U.heap = h0) (fun _ _ _ _ _ => True) (fun _ U o U' => ∃ v L, o = .returned v ∧ (Q_ali Z a1 u1 u2 de h0 n0) v U'.heap L ∧ FrameEnd U o U' L ({ frames := 3, cells := 0, slots := 0, locals := 36 } : Room).cells ({ frames := 3, cells := 0, slots := 0, locals := 36 } : Room).slots) := by
  refine MetFree.of_bodySF (plainFor_of_name pn_7) hisR ?_
  intro p e s m args below meth c s₁ Bd hml0 hP hK
  obtain ⟨rfl, hZ, hh⟩ := hP
  have hx := Bd.exec
  have hby := Bd.bytes
  have hlk : meth.locks = false := BodyLoose.notSynchronized Bd
  have hml : c.maxLocals = 1 := hml0
  have hown : s.vm.findClass "java/util/ArrayList" = some m.cls := findClass_of_methodNamed Bd.named
  have hnm := (name_of_methodNamed Bd.named Bd.method).1
  have X0 : Stand p l e ({ frames := 3, cells := 0, slots := 0, locals := 36 } : Room) s m #[(.ref a1)] below meth c s₁ [] 0 0 := Stand.of_body Bd
  have e0 : s₁.heap = h0 := by rw [← hh, Bd.state]; rfl
  have N0 := Fr.nil n0
  show own_Go p e below s (Q_ali Z a1 u1 u2 de h0 n0) ({ frames := 3, cells := 0, slots := 0, locals := 36 } : Room).cells ({ frames := 3, cells := 0, slots := 0, locals := 36 } : Room).slots s₁ (entryFrame m #[(.ref a1)] 1)
  refine own_cast (g' := (mkF m 0 #[.val (.ref a1)] [])) (ef_rm_ali m a1) ?_
  have K0 : Keep h0 h0 [a1] := Keep.refl _ _
  refine own_step (T' := s₁) (g' := (mkF m 1 #[.val (.ref a1)] [(.ref a1)])) (fun t k => XS.aloadN X0.here hx rfl (hb hby d1_0) rfl rfl k) ?_
  obtain ⟨_, _, ⟨T7, L7, k7, n7⟩, -, X7, ⟨Lc7, hQ7, lq7, yq7, zq7⟩, st7⟩ := X0.specialBack hx (y := (⟨"java/util/AbstractList", "<init>", "()V"⟩ : MethodName)) rfl hown (mvT hZ (hw _ (List.mem_of_getElem? (i := 7) rfl))) (mvT hZ (hw _ (List.mem_of_getElem? (i := 8) rfl))) (mvT hZ (hw _ (List.mem_of_getElem? (i := 12) rfl))) (by decide) (backOf (W := 0) (rm_abi l Z a0 hw [] a1 u1 u2 (.int (0 : Int32)) h0 n0 Z0 F_0 F_1 F_2 F_3 o_a1) hZ (hw _ (List.mem_of_getElem? (i := 12) rfl)) (hw _ (List.mem_of_getElem? (i := 11) rfl)) (by decide) (by decide)) (g := (mkF m 1 #[.val (.ref a1)] [(.ref a1)])) rfl (by rw [hml]; rfl) (Steps.refl _) (a := a1) (argsL := []) (rest := []) (lenOf pd_0 rfl) rfl (by show 2 * 0 + _ ≤ _; exact Nat.le_of_eq rfl) (hb hby d1_1) (fun _ _ => ⟨rfl, e0, (by decide : 0 + 0 ≤ _), (by decide : 0 + 0 ≤ _)⟩)
  dsimp only [Pt.U, Pt.locs, Pt.cells, Pt.slots] at X7 lq7 yq7 zq7 st7 hQ7
  subst lq7 yq7 zq7
  obtain ⟨rfl, Nq7, K2, g3, g4, g5, g6⟩ := hQ7
  have N7 := Fr.app N0 Nq7
  have Z2 : n0 ≤ T7.heap.size := (Nat.le_trans Z0 K2.1)
  have O2 : Old Z n0 T7.heap := O0.keep K2 (allS (P := fun x => n0 ≤ x) o_a1 all0)
  have K8 : Keep h0 T7.heap [a1] := K0.trans K2 (allS (P := fun x => x ∈ [a1] ∨ h0.size ≤ x) (Or.inl (List.mem_of_getElem? (i := 0) rfl)) all0)
  refine own_tr (T' := T7) (g' := (mkF m 4 #[.val (.ref a1)] [])) st7 ?_
  refine own_step (T' := T7) (g' := (mkF m 5 #[.val (.ref a1)] [(.ref a1)])) (fun t k => XS.aloadN X7.here hx rfl (hb hby d1_4) rfl rfl k) ?_
  obtain ⟨T9, X9, e9, st9⟩ := getS2 X7 hx hZ hown (host := "") (Or.inl (hw _ (List.mem_of_getElem? (i := 24) rfl))) Via.refl rfl (S_d.ext O2.2) (g := (mkF m 5 #[.val (.ref a1)] [(.ref a1)])) rfl (hb hby d1_5)
  refine own_step (T' := T9) (g' := (mkF m 8 #[.val (.ref a1)] [(.ref de), (.ref a1)])) st9 ?_
  obtain ⟨T10, h10, X10, e10, W10, st10⟩ := putF X9 hx hZ hown (host := "") (Or.inl (hw _ (List.mem_of_getElem? (i := 25) rfl))) Via.refl e9 g5 g3 (Or.inl (hw _ (List.mem_of_getElem? (i := 26) rfl))) (hw _ (List.mem_of_getElem? (i := 2) rfl)) (ty := .array (.object "java/lang/Object")) (by decide) rfl rfl (g := (mkF m 8 #[.val (.ref a1)] [(.ref de), (.ref a1)])) rfl rfl (hb hby d1_8)
  have g11 : Exa Z h10 a1 "java/util/ArrayList" := g3.wr W10
  have g12 : Fld Z h10 a1 "java/util/AbstractList" "modCount" "I" (.int (0 : Int32)) := g4.other W10 (Or.inr (slot_ne (Or.inl (hw _ (List.mem_of_getElem? (i := 23) rfl))) (Or.inl (hw _ (List.mem_of_getElem? (i := 26) rfl))) (by decide) (t := .int) (t' := .array (.object "java/lang/Object")) (by decide) (by decide)))
  have g13 : Fld Z h10 a1 "java/util/ArrayList" "elementData" "[Ljava/lang/Object;" (.ref de) := g5.same W10
  have g14 : Fld Z h10 a1 "java/util/ArrayList" "size" "I" (.int (0 : Int32)) := g6.other W10 (Or.inr (slot_ne (Or.inl (hw _ (List.mem_of_getElem? (i := 58) rfl))) (Or.inl (hw _ (List.mem_of_getElem? (i := 26) rfl))) (by decide) (t := .int) (t' := .array (.object "java/lang/Object")) (by decide) (by decide)))
  have K15 : Keep h0 h10 [a1] := K8.wr W10 (Or.inl (List.mem_of_getElem? (i := 0) rfl))
  have N10 := Fr.snoc X10 N7 o_a1
  have Z10 : n0 ≤ h10.size := (Nat.le_trans Z2 (Nat.le_of_eq W10.size.symm))
  have O10 : Old Z n0 h10 := O2.wr W10 o_a1
  refine own_step (T' := T10) (g' := (mkF m 11 #[.val (.ref a1)] [])) st10 ?_
  refine own_rV X10 hx hlk Bd.returns (hb hby d1_11) ?_ (by decide) (by decide)
  rw [e10]
  exact ⟨rfl, N10, K15, g11, g12, g13, g14⟩
def Q_max10 (Z : State)  (h0 : Heap) (n0 : Nat) (v : Option Value) (h : Heap) (L : List Loc) : Prop := v = some (.int (10 : Int32)) ∧ Fr n0 L ∧ h = h0
theorem ef_rm_max10 (m : MethodId) (x0 : Int32) (x1 : Int32) : entryFrame m #[(.int x0), (.int x1)] 2 = mkF m 0 #[.val (.int x0), .val (.int x1)] [] := by first | (simp [entryFrame, mkF, argsToLocals, Value.category]; done) | rfl | (simp [entryFrame, mkF, argsToLocals, Value.category] <;> rfl)
theorem d12_0 : decode jdk_29_method_65_code 0 = .ok (.iload_n 0, 1) := by decide +kernel
theorem d12_1 : decode jdk_29_method_65_code 1 = .ok (.iload_n 1, 1) := by decide +kernel
theorem d12_2 : decode jdk_29_method_65_code 2 = .ok (.if_icmp .lt 7, 3) := by decide +kernel
theorem d12_5 : decode jdk_29_method_65_code 5 = .ok (.iload_n 0, 1) := by decide +kernel
theorem d12_6 : decode jdk_29_method_65_code 6 = .ok (.goto 4, 3) := by decide +kernel
theorem d12_10 : decode jdk_29_method_65_code 10 = .ok (.ireturn, 1) := by decide +kernel
set_option maxRecDepth 65536 in
set_option maxHeartbeats 40000000 in
theorem rm_max10 (l : Launch) (Z : State) (a0 : Array Value) (hw : ∀ d ∈ tables_1, d.before a0 Z = true) (ws : List Jvm.Cond)  (h0 : Heap) (n0 : Nat) (Z0 : n0 ≤ h0.size)  :
    MetFree l (⟨"java/lang/Math", "max", "(II)I"⟩ : MethodName) (head1 (Jvm.Cond.code (⟨"java/lang/Math", "max", "(II)I"⟩ : MethodName) jdk_29_method_65_code 2 (some (.int)) :: ws) ({ frames := 0, cells := 0, slots := 0, locals := 0 } : Room)) (fun a U => a = #[(.int (10 : Int32)), (.int (1 : Int32))] ∧ Z.Warmed39 U.vm ∧ U.heap = h0) (fun _ _ _ _ _ => True) (fun _ U o U' => ∃ v L, o = .returned v ∧ (Q_max10 Z h0 n0) v U'.heap L ∧ FrameEnd U o U' L ({ frames := 0, cells := 0, slots := 0, locals := 0 } : Room).cells ({ frames := 0, cells := 0, slots := 0, locals := 0 } : Room).slots) := by
  refine MetFree.of_bodySF (Jvm.Free.JP.mathPlain rfl (by decide +kernel)) hisR ?_
  intro p e s m args below meth c s₁ Bd hml0 hP hK
  obtain ⟨rfl, hZ, hh⟩ := hP
  have hx := Bd.exec
  have hby := Bd.bytes
  have hlk : meth.locks = false := BodyLoose.notSynchronized Bd
  have hml : c.maxLocals = 2 := hml0
  have hown : s.vm.findClass "java/lang/Math" = some m.cls := findClass_of_methodNamed Bd.named
  have hnm := (name_of_methodNamed Bd.named Bd.method).1
  have X0 : Stand p l e ({ frames := 0, cells := 0, slots := 0, locals := 0 } : Room) s m #[(.int (10 : Int32)), (.int (1 : Int32))] below meth c s₁ [] 0 0 := Stand.of_body Bd
  have e0 : s₁.heap = h0 := by rw [← hh, Bd.state]; rfl
  have N0 := Fr.nil n0
  show own_Go p e below s (Q_max10 Z h0 n0) ({ frames := 0, cells := 0, slots := 0, locals := 0 } : Room).cells ({ frames := 0, cells := 0, slots := 0, locals := 0 } : Room).slots s₁ (entryFrame m #[(.int (10 : Int32)), (.int (1 : Int32))] 2)
  refine own_cast (g' := (mkF m 0 #[.val (.int (10 : Int32)), .val (.int (1 : Int32))] [])) (ef_rm_max10 m (10 : Int32) (1 : Int32)) ?_
  refine own_step (T' := s₁) (g' := (mkF m 1 #[.val (.int (10 : Int32)), .val (.int (1 : Int32))] [(.int (10 : Int32))])) (fun t k => XS.iloadN X0.here hx rfl (hb hby d12_0) rfl k) ?_
  refine own_step (T' := s₁) (g' := (mkF m 2 #[.val (.int (10 : Int32)), .val (.int (1 : Int32))] [(.int (1 : Int32)), (.int (10 : Int32))])) (fun t k => XS.iloadN X0.here hx rfl (hb hby d12_1) rfl k) ?_
  refine own_step (T' := s₁) (g' := (mkF m 5 #[.val (.int (10 : Int32)), .val (.int (1 : Int32))] [])) (fun t k => XS.icmpNo X0.here hx rfl (hb hby d12_2) rfl (flt (by decide : ¬ ((10 : Int32) < (1 : Int32)))).1 k) ?_
  refine own_step (T' := s₁) (g' := (mkF m 6 #[.val (.int (10 : Int32)), .val (.int (1 : Int32))] [(.int (10 : Int32))])) (fun t k => XS.iloadN X0.here hx rfl (hb hby d12_5) rfl k) ?_
  refine own_step (T' := s₁) (g' := (mkF m 10 #[.val (.int (10 : Int32)), .val (.int (1 : Int32))] [(.int (10 : Int32))])) (fun t k => XS.goto X0.here hx rfl (pc0 := 6) (pc' := 10) rfl (hb hby d12_6) (by decide) (by decide) k) ?_
  refine own_rI X0 hx hlk Bd.returns (hb hby d12_10) ?_ (by decide) (by decide)
  rw [e0]
  exact ⟨rfl, N0, rfl⟩
def Q_min1 (Z : State)  (h0 : Heap) (n0 : Nat) (v : Option Value) (h : Heap) (L : List Loc) : Prop := v = some (.int (1 : Int32)) ∧ Fr n0 L ∧ h = h0
theorem ef_rm_min1 (m : MethodId) (x0 : Int32) (x1 : Int32) : entryFrame m #[(.int x0), (.int x1)] 2 = mkF m 0 #[.val (.int x0), .val (.int x1)] [] := by first | (simp [entryFrame, mkF, argsToLocals, Value.category]; done) | rfl | (simp [entryFrame, mkF, argsToLocals, Value.category] <;> rfl)
theorem d20_0 : decode jdk_29_method_69_code 0 = .ok (.iload_n 0, 1) := by decide +kernel
theorem d20_1 : decode jdk_29_method_69_code 1 = .ok (.iload_n 1, 1) := by decide +kernel
theorem d20_2 : decode jdk_29_method_69_code 2 = .ok (.if_icmp .gt 7, 3) := by decide +kernel
theorem d20_9 : decode jdk_29_method_69_code 9 = .ok (.iload_n 1, 1) := by decide +kernel
theorem d20_10 : decode jdk_29_method_69_code 10 = .ok (.ireturn, 1) := by decide +kernel
set_option maxRecDepth 65536 in
set_option maxHeartbeats 40000000 in
theorem rm_min1 (l : Launch) (Z : State) (a0 : Array Value) (hw : ∀ d ∈ tables_1, d.before a0 Z = true) (ws : List Jvm.Cond)  (h0 : Heap) (n0 : Nat) (Z0 : n0 ≤ h0.size)  :
    MetFree l (⟨"java/lang/Math", "min", "(II)I"⟩ : MethodName) (head1 (Jvm.Cond.code (⟨"java/lang/Math", "min", "(II)I"⟩ : MethodName) jdk_29_method_69_code 2 (some (.int)) :: ws) ({ frames := 0, cells := 0, slots := 0, locals := 0 } : Room)) (fun a U => a = #[(.int (10 : Int32)), (.int (1 : Int32))] ∧ Z.Warmed39 U.vm ∧ U.heap = h0) (fun _ _ _ _ _ => True) (fun _ U o U' => ∃ v L, o = .returned v ∧ (Q_min1 Z h0 n0) v U'.heap L ∧ FrameEnd U o U' L ({ frames := 0, cells := 0, slots := 0, locals := 0 } : Room).cells ({ frames := 0, cells := 0, slots := 0, locals := 0 } : Room).slots) := by
  refine MetFree.of_bodySF (Jvm.Free.JP.mathPlain rfl (by decide +kernel)) hisR ?_
  intro p e s m args below meth c s₁ Bd hml0 hP hK
  obtain ⟨rfl, hZ, hh⟩ := hP
  have hx := Bd.exec
  have hby := Bd.bytes
  have hlk : meth.locks = false := BodyLoose.notSynchronized Bd
  have hml : c.maxLocals = 2 := hml0
  have hown : s.vm.findClass "java/lang/Math" = some m.cls := findClass_of_methodNamed Bd.named
  have hnm := (name_of_methodNamed Bd.named Bd.method).1
  have X0 : Stand p l e ({ frames := 0, cells := 0, slots := 0, locals := 0 } : Room) s m #[(.int (10 : Int32)), (.int (1 : Int32))] below meth c s₁ [] 0 0 := Stand.of_body Bd
  have e0 : s₁.heap = h0 := by rw [← hh, Bd.state]; rfl
  have N0 := Fr.nil n0
  show own_Go p e below s (Q_min1 Z h0 n0) ({ frames := 0, cells := 0, slots := 0, locals := 0 } : Room).cells ({ frames := 0, cells := 0, slots := 0, locals := 0 } : Room).slots s₁ (entryFrame m #[(.int (10 : Int32)), (.int (1 : Int32))] 2)
  refine own_cast (g' := (mkF m 0 #[.val (.int (10 : Int32)), .val (.int (1 : Int32))] [])) (ef_rm_min1 m (10 : Int32) (1 : Int32)) ?_
  refine own_step (T' := s₁) (g' := (mkF m 1 #[.val (.int (10 : Int32)), .val (.int (1 : Int32))] [(.int (10 : Int32))])) (fun t k => XS.iloadN X0.here hx rfl (hb hby d20_0) rfl k) ?_
  refine own_step (T' := s₁) (g' := (mkF m 2 #[.val (.int (10 : Int32)), .val (.int (1 : Int32))] [(.int (1 : Int32)), (.int (10 : Int32))])) (fun t k => XS.iloadN X0.here hx rfl (hb hby d20_1) rfl k) ?_
  refine own_step (T' := s₁) (g' := (mkF m 9 #[.val (.int (10 : Int32)), .val (.int (1 : Int32))] [])) (fun t k => XS.icmpYes X0.here hx rfl (pc0 := 2) (pc' := 9) rfl (hb hby d20_2) rfl (tlt (by decide : ((1 : Int32) < (10 : Int32)))).2.2.1 (by decide) (by decide) k) ?_
  refine own_step (T' := s₁) (g' := (mkF m 10 #[.val (.int (10 : Int32)), .val (.int (1 : Int32))] [(.int (1 : Int32))])) (fun t k => XS.iloadN X0.here hx rfl (hb hby d20_9) rfl k) ?_
  refine own_rI X0 hx hlk Bd.returns (hb hby d20_10) ?_ (by decide) (by decide)
  rw [e0]
  exact ⟨rfl, N0, rfl⟩
def Q_min2 (Z : State)  (h0 : Heap) (n0 : Nat) (v : Option Value) (h : Heap) (L : List Loc) : Prop := v = some (.int (2 : Int32)) ∧ Fr n0 L ∧ h = h0
theorem ef_rm_min2 (m : MethodId) (x0 : Int32) (x1 : Int32) : entryFrame m #[(.int x0), (.int x1)] 2 = mkF m 0 #[.val (.int x0), .val (.int x1)] [] := by first | (simp [entryFrame, mkF, argsToLocals, Value.category]; done) | rfl | (simp [entryFrame, mkF, argsToLocals, Value.category] <;> rfl)
set_option maxRecDepth 65536 in
set_option maxHeartbeats 40000000 in
theorem rm_min2 (l : Launch) (Z : State) (a0 : Array Value) (hw : ∀ d ∈ tables_1, d.before a0 Z = true) (ws : List Jvm.Cond)  (h0 : Heap) (n0 : Nat) (Z0 : n0 ≤ h0.size)  :
    MetFree l (⟨"java/lang/Math", "min", "(II)I"⟩ : MethodName) (head1 (Jvm.Cond.code (⟨"java/lang/Math", "min", "(II)I"⟩ : MethodName) jdk_29_method_69_code 2 (some (.int)) :: ws) ({ frames := 0, cells := 0, slots := 0, locals := 0 } : Room)) (fun a U => a = #[(.int (10 : Int32)), (.int (2 : Int32))] ∧ Z.Warmed39 U.vm ∧ U.heap = h0) (fun _ _ _ _ _ => True) (fun _ U o U' => ∃ v L, o = .returned v ∧ (Q_min2 Z h0 n0) v U'.heap L ∧ FrameEnd U o U' L ({ frames := 0, cells := 0, slots := 0, locals := 0 } : Room).cells ({ frames := 0, cells := 0, slots := 0, locals := 0 } : Room).slots) := by
  refine MetFree.of_bodySF (Jvm.Free.JP.mathPlain rfl (by decide +kernel)) hisR ?_
  intro p e s m args below meth c s₁ Bd hml0 hP hK
  obtain ⟨rfl, hZ, hh⟩ := hP
  have hx := Bd.exec
  have hby := Bd.bytes
  have hlk : meth.locks = false := BodyLoose.notSynchronized Bd
  have hml : c.maxLocals = 2 := hml0
  have hown : s.vm.findClass "java/lang/Math" = some m.cls := findClass_of_methodNamed Bd.named
  have hnm := (name_of_methodNamed Bd.named Bd.method).1
  have X0 : Stand p l e ({ frames := 0, cells := 0, slots := 0, locals := 0 } : Room) s m #[(.int (10 : Int32)), (.int (2 : Int32))] below meth c s₁ [] 0 0 := Stand.of_body Bd
  have e0 : s₁.heap = h0 := by rw [← hh, Bd.state]; rfl
  have N0 := Fr.nil n0
  show own_Go p e below s (Q_min2 Z h0 n0) ({ frames := 0, cells := 0, slots := 0, locals := 0 } : Room).cells ({ frames := 0, cells := 0, slots := 0, locals := 0 } : Room).slots s₁ (entryFrame m #[(.int (10 : Int32)), (.int (2 : Int32))] 2)
  refine own_cast (g' := (mkF m 0 #[.val (.int (10 : Int32)), .val (.int (2 : Int32))] [])) (ef_rm_min2 m (10 : Int32) (2 : Int32)) ?_
  refine own_step (T' := s₁) (g' := (mkF m 1 #[.val (.int (10 : Int32)), .val (.int (2 : Int32))] [(.int (10 : Int32))])) (fun t k => XS.iloadN X0.here hx rfl (hb hby d20_0) rfl k) ?_
  refine own_step (T' := s₁) (g' := (mkF m 2 #[.val (.int (10 : Int32)), .val (.int (2 : Int32))] [(.int (2 : Int32)), (.int (10 : Int32))])) (fun t k => XS.iloadN X0.here hx rfl (hb hby d20_1) rfl k) ?_
  refine own_step (T' := s₁) (g' := (mkF m 9 #[.val (.int (10 : Int32)), .val (.int (2 : Int32))] [])) (fun t k => XS.icmpYes X0.here hx rfl (pc0 := 2) (pc' := 9) rfl (hb hby d20_2) rfl (tlt (by decide : ((2 : Int32) < (10 : Int32)))).2.2.1 (by decide) (by decide) k) ?_
  refine own_step (T' := s₁) (g' := (mkF m 10 #[.val (.int (10 : Int32)), .val (.int (2 : Int32))] [(.int (2 : Int32))])) (fun t k => XS.iloadN X0.here hx rfl (hb hby d20_9) rfl k) ?_
  refine own_rI X0 hx hlk Bd.returns (hb hby d20_10) ?_ (by decide) (by decide)
  rw [e0]
  exact ⟨rfl, N0, rfl⟩
def Q_min3 (Z : State)  (h0 : Heap) (n0 : Nat) (v : Option Value) (h : Heap) (L : List Loc) : Prop := v = some (.int (3 : Int32)) ∧ Fr n0 L ∧ h = h0
theorem ef_rm_min3 (m : MethodId) (x0 : Int32) (x1 : Int32) : entryFrame m #[(.int x0), (.int x1)] 2 = mkF m 0 #[.val (.int x0), .val (.int x1)] [] := by first | (simp [entryFrame, mkF, argsToLocals, Value.category]; done) | rfl | (simp [entryFrame, mkF, argsToLocals, Value.category] <;> rfl)
set_option maxRecDepth 65536 in
set_option maxHeartbeats 40000000 in
theorem rm_min3 (l : Launch) (Z : State) (a0 : Array Value) (hw : ∀ d ∈ tables_1, d.before a0 Z = true) (ws : List Jvm.Cond)  (h0 : Heap) (n0 : Nat) (Z0 : n0 ≤ h0.size)  :
    MetFree l (⟨"java/lang/Math", "min", "(II)I"⟩ : MethodName) (head1 (Jvm.Cond.code (⟨"java/lang/Math", "min", "(II)I"⟩ : MethodName) jdk_29_method_69_code 2 (some (.int)) :: ws) ({ frames := 0, cells := 0, slots := 0, locals := 0 } : Room)) (fun a U => a = #[(.int (10 : Int32)), (.int (3 : Int32))] ∧ Z.Warmed39 U.vm ∧ U.heap = h0) (fun _ _ _ _ _ => True) (fun _ U o U' => ∃ v L, o = .returned v ∧ (Q_min3 Z h0 n0) v U'.heap L ∧ FrameEnd U o U' L ({ frames := 0, cells := 0, slots := 0, locals := 0 } : Room).cells ({ frames := 0, cells := 0, slots := 0, locals := 0 } : Room).slots) := by
  refine MetFree.of_bodySF (Jvm.Free.JP.mathPlain rfl (by decide +kernel)) hisR ?_
  intro p e s m args below meth c s₁ Bd hml0 hP hK
  obtain ⟨rfl, hZ, hh⟩ := hP
  have hx := Bd.exec
  have hby := Bd.bytes
  have hlk : meth.locks = false := BodyLoose.notSynchronized Bd
  have hml : c.maxLocals = 2 := hml0
  have hown : s.vm.findClass "java/lang/Math" = some m.cls := findClass_of_methodNamed Bd.named
  have hnm := (name_of_methodNamed Bd.named Bd.method).1
  have X0 : Stand p l e ({ frames := 0, cells := 0, slots := 0, locals := 0 } : Room) s m #[(.int (10 : Int32)), (.int (3 : Int32))] below meth c s₁ [] 0 0 := Stand.of_body Bd
  have e0 : s₁.heap = h0 := by rw [← hh, Bd.state]; rfl
  have N0 := Fr.nil n0
  show own_Go p e below s (Q_min3 Z h0 n0) ({ frames := 0, cells := 0, slots := 0, locals := 0 } : Room).cells ({ frames := 0, cells := 0, slots := 0, locals := 0 } : Room).slots s₁ (entryFrame m #[(.int (10 : Int32)), (.int (3 : Int32))] 2)
  refine own_cast (g' := (mkF m 0 #[.val (.int (10 : Int32)), .val (.int (3 : Int32))] [])) (ef_rm_min3 m (10 : Int32) (3 : Int32)) ?_
  refine own_step (T' := s₁) (g' := (mkF m 1 #[.val (.int (10 : Int32)), .val (.int (3 : Int32))] [(.int (10 : Int32))])) (fun t k => XS.iloadN X0.here hx rfl (hb hby d20_0) rfl k) ?_
  refine own_step (T' := s₁) (g' := (mkF m 2 #[.val (.int (10 : Int32)), .val (.int (3 : Int32))] [(.int (3 : Int32)), (.int (10 : Int32))])) (fun t k => XS.iloadN X0.here hx rfl (hb hby d20_1) rfl k) ?_
  refine own_step (T' := s₁) (g' := (mkF m 9 #[.val (.int (10 : Int32)), .val (.int (3 : Int32))] [])) (fun t k => XS.icmpYes X0.here hx rfl (pc0 := 2) (pc' := 9) rfl (hb hby d20_2) rfl (tlt (by decide : ((3 : Int32) < (10 : Int32)))).2.2.1 (by decide) (by decide) k) ?_
  refine own_step (T' := s₁) (g' := (mkF m 10 #[.val (.int (10 : Int32)), .val (.int (3 : Int32))] [(.int (3 : Int32))])) (fun t k => XS.iloadN X0.here hx rfl (hb hby d20_9) rfl k) ?_
  refine own_rI X0 hx hlk Bd.returns (hb hby d20_10) ?_ (by decide) (by decide)
  rw [e0]
  exact ⟨rfl, N0, rfl⟩
def Q_gr1 (Z : State) (a1 : Addr) (de : Addr) (kd : ClassId) (mc : Value) (h0 : Heap) (n0 : Nat) (v : Option Value) (h : Heap) (L : List Loc) : Prop := ∃ (b : Addr) (kb : ClassId), v = some (.ref b) ∧ Fr n0 L ∧ Keep h0 h [a1] ∧ h0.size ≤ b ∧ a1 ≠ b ∧ Exa Z h a1 "java/util/ArrayList" ∧ Fld Z h a1 "java/util/ArrayList" "elementData" "[Ljava/lang/Object;" (.ref b) ∧ Fld Z h a1 "java/util/ArrayList" "size" "I" (.int (0 : Int32)) ∧ Fld Z h a1 "java/util/AbstractList" "modCount" "I" mc ∧ Arv Z h b kb (.object "java/lang/Object") (10 : Int32) [.null, .null, .null, .null, .null, .null, .null, .null, .null, .null] .null ∧ Exa Z h b "[Ljava/lang/Object;" ∧ Ovr Z kb "java/lang/Object"
theorem ef_rm_gr1 (m : MethodId) (x0 : Addr) (x1 : Int32) : entryFrame m #[(.ref x0), (.int x1)] 4 = mkF m 0 #[.val (.ref x0), .val (.int x1), .unset, .unset] [] := by first | (simp [entryFrame, mkF, argsToLocals, Value.category]; done) | rfl | (simp [entryFrame, mkF, argsToLocals, Value.category] <;> rfl)
theorem d11_0 : decode jdk_38_method_6_code 0 = .ok (.aload_n 0, 1) := by decide +kernel
theorem d11_1 : decode jdk_38_method_6_code 1 = .ok (.getfield 9, 3) := by decide +kernel
theorem d11_4 : decode jdk_38_method_6_code 4 = .ok (.arraylength, 1) := by decide +kernel
theorem d11_5 : decode jdk_38_method_6_code 5 = .ok (.istore_n 2, 1) := by decide +kernel
theorem d11_6 : decode jdk_38_method_6_code 6 = .ok (.iload_n 2, 1) := by decide +kernel
theorem d11_7 : decode jdk_38_method_6_code 7 = .ok (.ifCond .gt 13, 3) := by decide +kernel
theorem d11_10 : decode jdk_38_method_6_code 10 = .ok (.aload_n 0, 1) := by decide +kernel
theorem d11_11 : decode jdk_38_method_6_code 11 = .ok (.getfield 9, 3) := by decide +kernel
theorem d11_14 : decode jdk_38_method_6_code 14 = .ok (.getstatic 39, 3) := by decide +kernel
theorem d11_17 : decode jdk_38_method_6_code 17 = .ok (.if_acmp .eq 28, 3) := by decide +kernel
theorem d11_45 : decode jdk_38_method_6_code 45 = .ok (.aload_n 0, 1) := by decide +kernel
theorem d11_46 : decode jdk_38_method_6_code 46 = .ok (.bipush 10, 2) := by decide +kernel
theorem d11_48 : decode jdk_38_method_6_code 48 = .ok (.iload_n 1, 1) := by decide +kernel
theorem pd_2 : parseMethodDescriptor "(II)I" = some ⟨[.int, .int], some (.int)⟩ := by decide +kernel
theorem d11_49 : decode jdk_38_method_6_code 49 = .ok (.invokestatic 79, 3) := by decide +kernel
theorem d11_52 : decode jdk_38_method_6_code 52 = .ok (.anewarray 7, 3) := by decide +kernel
theorem d11_55 : decode jdk_38_method_6_code 55 = .ok (.dup_x1, 1) := by decide +kernel
theorem d11_56 : decode jdk_38_method_6_code 56 = .ok (.putfield 9, 3) := by decide +kernel
theorem d11_59 : decode jdk_38_method_6_code 59 = .ok (.areturn, 1) := by decide +kernel
set_option maxRecDepth 65536 in
set_option maxHeartbeats 40000000 in
theorem rm_gr1 (l : Launch) (Z : State) (a0 : Array Value) (hw : ∀ d ∈ tables_1, d.before a0 Z = true) (ws : List Jvm.Cond) (a1 : Addr) (de : Addr) (kd : ClassId) (mc : Value) (h0 : Heap) (n0 : Nat) (Z0 : n0 ≤ h0.size) (F_0 : Exa Z h0 a1 "java/util/ArrayList") (F_1 : Fld Z h0 a1 "java/util/ArrayList" "elementData" "[Ljava/lang/Object;" (.ref de)) (F_2 : Fld Z h0 a1 "java/util/ArrayList" "size" "I" (.int (0 : Int32))) (F_3 : Fld Z h0 a1 "java/util/AbstractList" "modCount" "I" mc) (o_a1 : n0 ≤ a1) (O0 : Old Z n0 h0) (S_d : Sta Z Z.heap "java/util/ArrayList" "DEFAULTCAPACITY_EMPTY_ELEMENTDATA" "[Ljava/lang/Object;" (.ref de)) (V_d : Arv Z Z.heap de kd (.object "java/lang/Object") (0 : Int32) [] .null) :
    MetFree l (⟨"java/util/ArrayList", "grow", "(I)[Ljava/lang/Object;"⟩ : MethodName) (head1 (Jvm.Cond.code (⟨"java/util/ArrayList", "grow", "(I)[Ljava/lang/Object;"⟩ : MethodName) jdk_38_method_6_code 4 (some (.array (.object "java/lang/Object"))) :: ws) ({ frames := 1, cells := 1, slots := 10, locals := 14 } : Room)) (fun a U => a = #[(.ref a1), (.int (1 : Int32))] ∧ Z.Warmed39 U.vm ∧ U.heap = h0) (fun _ _ _ _ _ => True) (fun _ U o U' => ∃ v L, o = .returned v ∧ (Q_gr1 Z a1 de kd mc h0 n0) v U'.heap L ∧ FrameEnd U o U' L ({ frames := 1, cells := 1, slots := 10, locals := 14 } : Room).cells ({ frames := 1, cells := 1, slots := 10, locals := 14 } : Room).slots) := by
  refine MetFree.of_bodySF (plainFor_of_name pn_7) hisR ?_
  intro p e s m args below meth c s₁ Bd hml0 hP hK
  obtain ⟨rfl, hZ, hh⟩ := hP
  have hx := Bd.exec
  have hby := Bd.bytes
  have hlk : meth.locks = false := BodyLoose.notSynchronized Bd
  have hml : c.maxLocals = 4 := hml0
  have hown : s.vm.findClass "java/util/ArrayList" = some m.cls := findClass_of_methodNamed Bd.named
  have hnm := (name_of_methodNamed Bd.named Bd.method).1
  have X0 : Stand p l e ({ frames := 1, cells := 1, slots := 10, locals := 14 } : Room) s m #[(.ref a1), (.int (1 : Int32))] below meth c s₁ [] 0 0 := Stand.of_body Bd
  have e0 : s₁.heap = h0 := by rw [← hh, Bd.state]; rfl
  have N0 := Fr.nil n0
  show own_Go p e below s (Q_gr1 Z a1 de kd mc h0 n0) ({ frames := 1, cells := 1, slots := 10, locals := 14 } : Room).cells ({ frames := 1, cells := 1, slots := 10, locals := 14 } : Room).slots s₁ (entryFrame m #[(.ref a1), (.int (1 : Int32))] 4)
  refine own_cast (g' := (mkF m 0 #[.val (.ref a1), .val (.int (1 : Int32)), .unset, .unset] [])) (ef_rm_gr1 m a1 (1 : Int32)) ?_
  have K0 : Keep h0 h0 [a1] := Keep.refl _ _
  refine own_step (T' := s₁) (g' := (mkF m 1 #[.val (.ref a1), .val (.int (1 : Int32)), .unset, .unset] [(.ref a1)])) (fun t k => XS.aloadN X0.here hx rfl (hb hby d11_0) rfl rfl k) ?_
  obtain ⟨T1, X1, e1, st1⟩ := getF X0 hx hZ hown (host := "") (Or.inl (hw _ (List.mem_of_getElem? (i := 25) rfl))) Via.refl e0 F_1 (g := (mkF m 1 #[.val (.ref a1), .val (.int (1 : Int32)), .unset, .unset] [(.ref a1)])) rfl rfl (hb hby d11_1)
  refine own_step (T' := T1) (g' := (mkF m 4 #[.val (.ref a1), .val (.int (1 : Int32)), .unset, .unset] [(.ref de)])) st1 ?_
  obtain ⟨cl2, Ar2, qa2, S2, M2, H2, U2⟩ := id (V_d.ext O0.2)
  have ln2 := len_of S2 M2
  refine own_step (T' := T1) (g' := (mkF m 5 #[.val (.ref a1), .val (.int (1 : Int32)), .unset, .unset] [(.int (0 : Int32))])) (fun t k => X1.arraylength hx (cell := cl2) (by rw [e1]; exact Ar2.1) (State.isArrayOf_alike hZ.alike Ar2.2.1) (g := (mkF m 4 #[.val (.ref a1), .val (.int (1 : Int32)), .unset, .unset] [(.ref de)])) rfl rfl (hb hby d11_4) t (by rw [ln2]; exact k)) ?_
  refine own_step (T' := T1) (g' := (mkF m 6 #[.val (.ref a1), .val (.int (1 : Int32)), .val (.int (0 : Int32)), .unset] [])) (fun t k => XS.istoreN X1.here hx rfl (hb hby d11_5) rfl (l' := #[.val (.ref a1), .val (.int (1 : Int32)), .val (.int (0 : Int32)), .unset]) rfl k) ?_
  refine own_step (T' := T1) (g' := (mkF m 7 #[.val (.ref a1), .val (.int (1 : Int32)), .val (.int (0 : Int32)), .unset] [(.int (0 : Int32))])) (fun t k => XS.iloadN X1.here hx rfl (hb hby d11_6) rfl k) ?_
  refine own_step (T' := T1) (g' := (mkF m 10 #[.val (.ref a1), .val (.int (1 : Int32)), .val (.int (0 : Int32)), .unset] [])) (fun t k => XS.ifNo X1.here hx rfl (hb hby d11_7) rfl ((if0 _ _).trans (flt (by decide : ¬ ((0 : Int32) < (0 : Int32)))).2.2.1) k) ?_
  refine own_step (T' := T1) (g' := (mkF m 11 #[.val (.ref a1), .val (.int (1 : Int32)), .val (.int (0 : Int32)), .unset] [(.ref a1)])) (fun t k => XS.aloadN X1.here hx rfl (hb hby d11_10) rfl rfl k) ?_
  obtain ⟨T3, X3, e3, st3⟩ := getF X1 hx hZ hown (host := "") (Or.inl (hw _ (List.mem_of_getElem? (i := 25) rfl))) Via.refl e1 F_1 (g := (mkF m 11 #[.val (.ref a1), .val (.int (1 : Int32)), .val (.int (0 : Int32)), .unset] [(.ref a1)])) rfl rfl (hb hby d11_11)
  refine own_step (T' := T3) (g' := (mkF m 14 #[.val (.ref a1), .val (.int (1 : Int32)), .val (.int (0 : Int32)), .unset] [(.ref de)])) st3 ?_
  obtain ⟨T4, X4, e4, st4⟩ := getS2 X3 hx hZ hown (host := "") (Or.inl (hw _ (List.mem_of_getElem? (i := 24) rfl))) Via.refl e3 (S_d.ext O0.2) (g := (mkF m 14 #[.val (.ref a1), .val (.int (1 : Int32)), .val (.int (0 : Int32)), .unset] [(.ref de)])) rfl (hb hby d11_14)
  refine own_step (T' := T4) (g' := (mkF m 17 #[.val (.ref a1), .val (.int (1 : Int32)), .val (.int (0 : Int32)), .unset] [(.ref de), (.ref de)])) st4 ?_
  refine own_step (T' := T4) (g' := (mkF m 45 #[.val (.ref a1), .val (.int (1 : Int32)), .val (.int (0 : Int32)), .unset] [])) (fun t k => acmp (g := (mkF m 17 #[.val (.ref a1), .val (.int (1 : Int32)), .val (.int (0 : Int32)), .unset] [(.ref de), (.ref de)])) X4 hx rfl (x := (.ref de)) (y := (.ref de)) rfl rfl (pc0 := 17) (pc' := 45) (same := true) rfl (hb hby d11_17) rfl (decide_eq_true rfl) (by decide) rfl k) ?_
  refine own_step (T' := T4) (g' := (mkF m 46 #[.val (.ref a1), .val (.int (1 : Int32)), .val (.int (0 : Int32)), .unset] [(.ref a1)])) (fun t k => XS.aloadN X4.here hx rfl (hb hby d11_45) rfl rfl k) ?_
  refine own_step (T' := T4) (g' := (mkF m 48 #[.val (.ref a1), .val (.int (1 : Int32)), .val (.int (0 : Int32)), .unset] [(.int (10 : Int32)), (.ref a1)])) (fun t k => XS.bipush X4.here hx rfl (hb hby d11_46) k) ?_
  refine own_step (T' := T4) (g' := (mkF m 49 #[.val (.ref a1), .val (.int (1 : Int32)), .val (.int (0 : Int32)), .unset] [(.int (1 : Int32)), (.int (10 : Int32)), (.ref a1)])) (fun t k => XS.iloadN X4.here hx rfl (hb hby d11_48) rfl k) ?_
  obtain ⟨_, _, ⟨T7, L7, k7, n7⟩, -, X7, ⟨Lc7, hQ7, lq7, yq7, zq7⟩, st7⟩ := Jvm.LawKit.callS X4 hx (y := (⟨"java/lang/Math", "max", "(II)I"⟩ : MethodName)) hown (mvT hZ (hw _ (List.mem_of_getElem? (i := 74) rfl))) (mvT hZ (hw _ (List.mem_of_getElem? (i := 75) rfl))) (mvT hZ (hw _ (List.mem_of_getElem? (i := 76) rfl))) (mvT hZ (hw _ (List.mem_of_getElem? (i := 77) rfl))) (by decide) (backOf (W := 1) (rm_max10 l Z a0 hw []  h0 n0 Z0 ) hZ (hw _ (List.mem_of_getElem? (i := 77) rfl)) (hw _ (List.mem_of_getElem? (i := 76) rfl)) (by decide) (by decide)) (g := (mkF m 49 #[.val (.ref a1), .val (.int (1 : Int32)), .val (.int (0 : Int32)), .unset] [(.int (1 : Int32)), (.int (10 : Int32)), (.ref a1)])) rfl (by rw [hml]; rfl) (argsL := [(.int (10 : Int32)), (.int (1 : Int32))]) (rest := [(.ref a1)]) (lenOf pd_2 rfl) rfl (by show 2 * 0 + _ ≤ _; exact Nat.le_of_eq rfl) (hb hby d11_49) (fun _ _ => ⟨rfl, e4, (by decide : 0 + 0 ≤ _), (by decide : 0 + 0 ≤ _)⟩)
  dsimp only [Pt.U, Pt.locs, Pt.cells, Pt.slots] at X7 lq7 yq7 zq7 st7 hQ7
  subst lq7 yq7 zq7
  obtain ⟨rfl, Nq7, eq6⟩ := hQ7
  have N7 := Fr.app N0 Nq7
  refine own_step (T' := T7) (g' := (mkF m 52 #[.val (.ref a1), .val (.int (1 : Int32)), .val (.int (0 : Int32)), .unset] [(.int (10 : Int32)), (.ref a1)])) st7 ?_
  obtain ⟨T8, h8, k8, X8, e8, E8, A8, B8, O8r, st8⟩ := newRE X7 hx hZ hown (hw _ (List.mem_of_getElem? (i := 78) rfl)) (hw _ (List.mem_of_getElem? (i := 79) rfl)) eq6 (g := (mkF m 52 #[.val (.ref a1), .val (.int (1 : Int32)), .val (.int (0 : Int32)), .unset] [(.int (10 : Int32)), (.ref a1)])) rfl (hb hby d11_52) rfl (by decide) (cap := 10) (by decide) (by decide) (by decide : 0 + 1 ≤ _) (by decide : 0 + 10 ≤ _) (ad := "[Ljava/lang/Object;") (by decide +kernel)
  obtain ⟨ad8, g_ad8⟩ : ∃ z, z = h0.size := ⟨_, rfl⟩
  rw [← g_ad8] at A8 B8 st8
  have g9 : Exa Z h8 a1 "java/util/ArrayList" := F_0.ext E8
  have g10 : Fld Z h8 a1 "java/util/ArrayList" "elementData" "[Ljava/lang/Object;" (.ref de) := F_1.ext E8
  have g11 : Fld Z h8 a1 "java/util/ArrayList" "size" "I" (.int (0 : Int32)) := F_2.ext E8
  have g12 : Fld Z h8 a1 "java/util/AbstractList" "modCount" "I" mc := F_3.ext E8
  have ne8_1 : a1 ≠ ad8 := Nat.ne_of_lt (by rw [g_ad8]; exact F_0.lt)
  have o8 : n0 ≤ ad8 := (Nat.le_trans Z0 (Nat.le_of_eq g_ad8.symm))
  have Z8 : n0 ≤ h8.size := (Nat.le_trans Z0 E8.1)
  have O8 : Old Z n0 h8 := O0.ext E8
  have f8 : h0.size ≤ ad8 := by rw [g_ad8]; exact K0.1
  have K13 : Keep h0 h8 [a1] := K0.ext E8
  have V8 : Arv Z h8 ad8 k8 (.object "java/lang/Object") (10 : Int32) [.null, .null, .null, .null, .null, .null, .null, .null, .null, .null] .null := (Arv.new A8 (by decide)).pad (pad_rep [] .null 10)
  refine own_step (T' := T8) (g' := (mkF m 55 #[.val (.ref a1), .val (.int (1 : Int32)), .val (.int (0 : Int32)), .unset] [(.ref ad8), (.ref a1)])) st8 ?_
  refine own_step (T' := T8) (g' := (mkF m 56 #[.val (.ref a1), .val (.int (1 : Int32)), .val (.int (0 : Int32)), .unset] [(.ref ad8), (.ref a1), (.ref ad8)])) (fun t k => XS.dupX1 X8.here hx rfl (hb hby d11_55) rfl rfl rfl k) ?_
  obtain ⟨T14, h14, X14, e14, W14, st14⟩ := putF X8 hx hZ hown (host := "") (Or.inl (hw _ (List.mem_of_getElem? (i := 25) rfl))) Via.refl e8 g10 g9 (Or.inl (hw _ (List.mem_of_getElem? (i := 26) rfl))) (hw _ (List.mem_of_getElem? (i := 2) rfl)) (ty := .array (.object "java/lang/Object")) (by decide) rfl rfl (g := (mkF m 56 #[.val (.ref a1), .val (.int (1 : Int32)), .val (.int (0 : Int32)), .unset] [(.ref ad8), (.ref a1), (.ref ad8)])) rfl rfl (hb hby d11_56)
  have g15 : Exa Z h14 a1 "java/util/ArrayList" := g9.wr W14
  have g16 : Fld Z h14 a1 "java/util/ArrayList" "elementData" "[Ljava/lang/Object;" (.ref ad8) := g10.same W14
  have g17 : Fld Z h14 a1 "java/util/ArrayList" "size" "I" (.int (0 : Int32)) := g11.other W14 (Or.inr (slot_ne (Or.inl (hw _ (List.mem_of_getElem? (i := 58) rfl))) (Or.inl (hw _ (List.mem_of_getElem? (i := 26) rfl))) (by decide) (t := .int) (t' := .array (.object "java/lang/Object")) (by decide) (by decide)))
  have g18 : Fld Z h14 a1 "java/util/AbstractList" "modCount" "I" mc := g12.other W14 (Or.inr (slot_ne (Or.inl (hw _ (List.mem_of_getElem? (i := 23) rfl))) (Or.inl (hw _ (List.mem_of_getElem? (i := 26) rfl))) (by decide) (t := .int) (t' := .array (.object "java/lang/Object")) (by decide) (by decide)))
  have g19 : Arv Z h14 ad8 k8 (.object "java/lang/Object") (10 : Int32) [.null, .null, .null, .null, .null, .null, .null, .null, .null, .null] .null := V8.other W14 (Ne.symm ne8_1)
  have g20 : Exa Z h14 ad8 "[Ljava/lang/Object;" := B8.wr W14
  have K21 : Keep h0 h14 [a1] := K13.wr W14 (Or.inl (List.mem_of_getElem? (i := 0) rfl))
  have N14 := Fr.snoc X14 N7 o_a1
  have Z14 : n0 ≤ h14.size := (Nat.le_trans Z8 (Nat.le_of_eq W14.size.symm))
  have O14 : Old Z n0 h14 := O8.wr W14 o_a1
  refine own_step (T' := T14) (g' := (mkF m 59 #[.val (.ref a1), .val (.int (1 : Int32)), .val (.int (0 : Int32)), .unset] [(.ref ad8)])) st14 ?_
  refine own_rA X14 hx hlk Bd.returns rfl (w := (.ref ad8)) rfl (hb hby d11_59) ?_ (by decide) (by decide)
  rw [e14]
  exact ⟨ad8, k8, rfl, N14, K21, f8, ne8_1, g15, g16, g17, g18, g19, g20, O8r⟩
def Q_gr0 (Z : State) (a1 : Addr) (de : Addr) (kd : ClassId) (mc : Value) (h0 : Heap) (n0 : Nat) (v : Option Value) (h : Heap) (L : List Loc) : Prop := ∃ (b : Addr) (kb : ClassId), v = some (.ref b) ∧ Fr n0 L ∧ Keep h0 h [a1] ∧ h0.size ≤ b ∧ a1 ≠ b ∧ Exa Z h a1 "java/util/ArrayList" ∧ Fld Z h a1 "java/util/ArrayList" "elementData" "[Ljava/lang/Object;" (.ref b) ∧ Fld Z h a1 "java/util/ArrayList" "size" "I" (.int (0 : Int32)) ∧ Fld Z h a1 "java/util/AbstractList" "modCount" "I" mc ∧ Arv Z h b kb (.object "java/lang/Object") (10 : Int32) [.null, .null, .null, .null, .null, .null, .null, .null, .null, .null] .null ∧ Exa Z h b "[Ljava/lang/Object;" ∧ Ovr Z kb "java/lang/Object"
theorem ef_rm_gr0 (m : MethodId) (x0 : Addr) : entryFrame m #[(.ref x0)] 1 = mkF m 0 #[.val (.ref x0)] [] := by first | (simp [entryFrame, mkF, argsToLocals, Value.category]; done) | rfl | (simp [entryFrame, mkF, argsToLocals, Value.category] <;> rfl)
theorem d10_0 : decode jdk_38_method_7_code 0 = .ok (.aload_n 0, 1) := by decide +kernel
theorem d10_1 : decode jdk_38_method_7_code 1 = .ok (.aload_n 0, 1) := by decide +kernel
theorem d10_2 : decode jdk_38_method_7_code 2 = .ok (.getfield 48, 3) := by decide +kernel
theorem d10_5 : decode jdk_38_method_7_code 5 = .ok (.iconst 1, 1) := by decide +kernel
theorem d10_6 : decode jdk_38_method_7_code 6 = .ok (.iadd, 1) := by decide +kernel
theorem pd_3 : parseMethodDescriptor "(I)[Ljava/lang/Object;" = some ⟨[.int], some (.array (.object "java/lang/Object"))⟩ := by decide +kernel
theorem d10_7 : decode jdk_38_method_7_code 7 = .ok (.invokevirtual 69, 3) := by decide +kernel
theorem d10_10 : decode jdk_38_method_7_code 10 = .ok (.areturn, 1) := by decide +kernel
set_option maxRecDepth 65536 in
set_option maxHeartbeats 40000000 in
theorem rm_gr0 (l : Launch) (Z : State) (a0 : Array Value) (hw : ∀ d ∈ tables_1, d.before a0 Z = true) (ws : List Jvm.Cond) (a1 : Addr) (de : Addr) (kd : ClassId) (mc : Value) (h0 : Heap) (n0 : Nat) (Z0 : n0 ≤ h0.size) (F_0 : Exa Z h0 a1 "java/util/ArrayList") (F_1 : Fld Z h0 a1 "java/util/ArrayList" "elementData" "[Ljava/lang/Object;" (.ref de)) (F_2 : Fld Z h0 a1 "java/util/ArrayList" "size" "I" (.int (0 : Int32))) (F_3 : Fld Z h0 a1 "java/util/AbstractList" "modCount" "I" mc) (o_a1 : n0 ≤ a1) (O0 : Old Z n0 h0) (S_d : Sta Z Z.heap "java/util/ArrayList" "DEFAULTCAPACITY_EMPTY_ELEMENTDATA" "[Ljava/lang/Object;" (.ref de)) (V_d : Arv Z Z.heap de kd (.object "java/lang/Object") (0 : Int32) [] .null) :
    MetFree l (⟨"java/util/ArrayList", "grow", "()[Ljava/lang/Object;"⟩ : MethodName) (head1 (Jvm.Cond.code (⟨"java/util/ArrayList", "grow", "()[Ljava/lang/Object;"⟩ : MethodName) jdk_38_method_7_code 1 (some (.array (.object "java/lang/Object"))) :: ws) ({ frames := 2, cells := 1, slots := 10, locals := 29 } : Room)) (fun a U => a = #[(.ref a1)] ∧ Z.Warmed39 U.vm ∧ U.heap = h0) (fun _ _ _ _ _ => True) (fun _ U o U' => ∃ v L, o = .returned v ∧ (Q_gr0 Z a1 de kd mc h0 n0) v U'.heap L ∧ FrameEnd U o U' L ({ frames := 2, cells := 1, slots := 10, locals := 29 } : Room).cells ({ frames := 2, cells := 1, slots := 10, locals := 29 } : Room).slots) := by
  refine MetFree.of_bodySF (plainFor_of_name pn_7) hisR ?_
  intro p e s m args below meth c s₁ Bd hml0 hP hK
  obtain ⟨rfl, hZ, hh⟩ := hP
  have hx := Bd.exec
  have hby := Bd.bytes
  have hlk : meth.locks = false := BodyLoose.notSynchronized Bd
  have hml : c.maxLocals = 1 := hml0
  have hown : s.vm.findClass "java/util/ArrayList" = some m.cls := findClass_of_methodNamed Bd.named
  have hnm := (name_of_methodNamed Bd.named Bd.method).1
  have X0 : Stand p l e ({ frames := 2, cells := 1, slots := 10, locals := 29 } : Room) s m #[(.ref a1)] below meth c s₁ [] 0 0 := Stand.of_body Bd
  have e0 : s₁.heap = h0 := by rw [← hh, Bd.state]; rfl
  have N0 := Fr.nil n0
  show own_Go p e below s (Q_gr0 Z a1 de kd mc h0 n0) ({ frames := 2, cells := 1, slots := 10, locals := 29 } : Room).cells ({ frames := 2, cells := 1, slots := 10, locals := 29 } : Room).slots s₁ (entryFrame m #[(.ref a1)] 1)
  refine own_cast (g' := (mkF m 0 #[.val (.ref a1)] [])) (ef_rm_gr0 m a1) ?_
  have K0 : Keep h0 h0 [a1] := Keep.refl _ _
  refine own_step (T' := s₁) (g' := (mkF m 1 #[.val (.ref a1)] [(.ref a1)])) (fun t k => XS.aloadN X0.here hx rfl (hb hby d10_0) rfl rfl k) ?_
  refine own_step (T' := s₁) (g' := (mkF m 2 #[.val (.ref a1)] [(.ref a1), (.ref a1)])) (fun t k => XS.aloadN X0.here hx rfl (hb hby d10_1) rfl rfl k) ?_
  obtain ⟨T1, X1, e1, st1⟩ := getF X0 hx hZ hown (host := "") (Or.inl (hw _ (List.mem_of_getElem? (i := 57) rfl))) Via.refl e0 F_2 (g := (mkF m 2 #[.val (.ref a1)] [(.ref a1), (.ref a1)])) rfl rfl (hb hby d10_2)
  refine own_step (T' := T1) (g' := (mkF m 5 #[.val (.ref a1)] [(.int (0 : Int32)), (.ref a1)])) st1 ?_
  refine own_step (T' := T1) (g' := (mkF m 6 #[.val (.ref a1)] [(.int (1 : Int32)), (.int (0 : Int32)), (.ref a1)])) (fun t k => XS.iconst X1.here hx rfl (hb hby d10_5) k) ?_
  refine own_step (T' := T1) (g' := (mkF m 7 #[.val (.ref a1)] [(.int (1 : Int32)), (.ref a1)])) (fun t k => XS.iadd X1.here hx rfl (hb hby d10_6) rfl k) ?_
  obtain ⟨cq12, q12a, q12b⟩ := F_0.cell
  obtain ⟨_, _, ⟨T11, L11, k11, n11⟩, -, X11, ⟨Lc11, hQ11, lq11, yq11, zq11⟩, st11⟩ := X1.privateBack hx (y := (⟨"java/util/ArrayList", "grow", "(I)[Ljava/lang/Object;"⟩ : MethodName)) hown (mvT hZ (hw _ (List.mem_of_getElem? (i := 69) rfl))) (mvT hZ (hw _ (List.mem_of_getElem? (i := 70) rfl))) (mvT hZ (hw _ (List.mem_of_getElem? (i := 72) rfl))) (Cond.privateMethod_at (args := #[]) (mvP hZ (hw _ (List.mem_of_getElem? (i := 71) rfl)))) (mvT hZ (hw _ (List.mem_of_getElem? (i := 73) rfl))) (by decide) (backOf (W := 0) (rm_gr1 l Z a0 hw [] a1 de kd mc h0 n0 Z0 F_0 F_1 F_2 F_3 o_a1 O0 S_d V_d) hZ (hw _ (List.mem_of_getElem? (i := 73) rfl)) (hw _ (List.mem_of_getElem? (i := 3) rfl)) (by decide) (by decide)) (g := (mkF m 7 #[.val (.ref a1)] [(.int (1 : Int32)), (.ref a1)])) rfl (by rw [hml]; rfl) (Steps.refl _) (a := a1) (cell := cq12) (by rw [e1]; exact q12a) q12b (argsL := [(.int (1 : Int32))]) (rest := []) (lenOf pd_3 rfl) rfl (by show 2 * 0 + _ ≤ _; exact Nat.le_of_eq rfl) (hb hby d10_7) (fun _ _ => ⟨rfl, e1, (by decide : 0 + 1 ≤ _), (by decide : 0 + 10 ≤ _)⟩)
  dsimp only [Pt.U, Pt.locs, Pt.cells, Pt.slots] at X11 lq11 yq11 zq11 st11 hQ11
  subst lq11 yq11 zq11
  obtain ⟨b_2, kb_2, rfl, Nq11, K3, fz_b_2, nz_a1_b_2, g4, g5, g6, g7, g8, g9, g10⟩ := hQ11
  have N11 := Fr.app N0 Nq11
  have oz_b_2 : n0 ≤ b_2 := Nat.le_trans Z0 fz_b_2
  have nz_a1_b_2 : a1 ≠ b_2 := Nat.ne_of_lt (Nat.lt_of_lt_of_le F_0.lt fz_b_2)
  have fr_b_2 : h0.size ≤ b_2 := Nat.le_trans K0.1 fz_b_2
  have Z3 : n0 ≤ T11.heap.size := (Nat.le_trans Z0 K3.1)
  have O3 : Old Z n0 T11.heap := O0.keep K3 (allS (P := fun x => n0 ≤ x) o_a1 all0)
  have K13 : Keep h0 T11.heap [a1] := K0.trans K3 (allS (P := fun x => x ∈ [a1] ∨ h0.size ≤ x) (Or.inl (List.mem_of_getElem? (i := 0) rfl)) all0)
  refine own_tr (T' := T11) (g' := (mkF m 10 #[.val (.ref a1)] [(.ref b_2)])) st11 ?_
  refine own_rA X11 hx hlk Bd.returns rfl (w := (.ref b_2)) rfl (hb hby d10_10) ?_ (by decide) (by decide)
  exact ⟨b_2, kb_2, rfl, N11, K13, fr_b_2, nz_a1_b_2, g4, g5, g6, g7, g8, g9, g10⟩
def Q_ad3_0 (Z : State) (a1 : Addr) (x : Addr) (de : Addr) (kd : ClassId) (mc : Value) (h0 : Heap) (n0 : Nat) (v : Option Value) (h : Heap) (L : List Loc) : Prop := ∃ (b : Addr) (kb : ClassId), v = none ∧ Fr n0 L ∧ Keep h0 h [a1] ∧ h0.size ≤ b ∧ a1 ≠ b ∧ Exa Z h a1 "java/util/ArrayList" ∧ Fld Z h a1 "java/util/ArrayList" "elementData" "[Ljava/lang/Object;" (.ref b) ∧ Fld Z h a1 "java/util/ArrayList" "size" "I" (.int (1 : Int32)) ∧ Arv Z h b kb (.object "java/lang/Object") (10 : Int32) [(.ref x), .null, .null, .null, .null, .null, .null, .null, .null, .null] .null ∧ Exa Z h b "[Ljava/lang/Object;" ∧ Ovr Z kb "java/lang/Object" ∧ Fld Z h a1 "java/util/AbstractList" "modCount" "I" mc
theorem ef_rm_ad3_0 (m : MethodId) (x0 : Addr) (x1 : Addr) (x2 : Addr) (x3 : Int32) : entryFrame m #[(.ref x0), (.ref x1), (.ref x2), (.int x3)] 4 = mkF m 0 #[.val (.ref x0), .val (.ref x1), .val (.ref x2), .val (.int x3)] [] := by first | (simp [entryFrame, mkF, argsToLocals, Value.category]; done) | rfl | (simp [entryFrame, mkF, argsToLocals, Value.category] <;> rfl)
theorem d9_0 : decode jdk_38_method_24_code 0 = .ok (.iload_n 3, 1) := by decide +kernel
theorem d9_1 : decode jdk_38_method_24_code 1 = .ok (.aload_n 2, 1) := by decide +kernel
theorem d9_2 : decode jdk_38_method_24_code 2 = .ok (.arraylength, 1) := by decide +kernel
theorem d9_3 : decode jdk_38_method_24_code 3 = .ok (.if_icmp .ne 8, 3) := by decide +kernel
theorem d9_6 : decode jdk_38_method_24_code 6 = .ok (.aload_n 0, 1) := by decide +kernel
theorem pd_4 : parseMethodDescriptor "()[Ljava/lang/Object;" = some ⟨[], some (.array (.object "java/lang/Object"))⟩ := by decide +kernel
theorem d9_7 : decode jdk_38_method_24_code 7 = .ok (.invokevirtual 129, 3) := by decide +kernel
theorem d9_10 : decode jdk_38_method_24_code 10 = .ok (.astore_n 2, 1) := by decide +kernel
theorem d9_11 : decode jdk_38_method_24_code 11 = .ok (.aload_n 2, 1) := by decide +kernel
theorem d9_12 : decode jdk_38_method_24_code 12 = .ok (.iload_n 3, 1) := by decide +kernel
theorem d9_13 : decode jdk_38_method_24_code 13 = .ok (.aload_n 1, 1) := by decide +kernel
theorem d9_14 : decode jdk_38_method_24_code 14 = .ok (.aastore, 1) := by decide +kernel
theorem d9_15 : decode jdk_38_method_24_code 15 = .ok (.aload_n 0, 1) := by decide +kernel
theorem d9_16 : decode jdk_38_method_24_code 16 = .ok (.iload_n 3, 1) := by decide +kernel
theorem d9_17 : decode jdk_38_method_24_code 17 = .ok (.iconst 1, 1) := by decide +kernel
theorem d9_18 : decode jdk_38_method_24_code 18 = .ok (.iadd, 1) := by decide +kernel
theorem d9_19 : decode jdk_38_method_24_code 19 = .ok (.putfield 48, 3) := by decide +kernel
theorem d9_22 : decode jdk_38_method_24_code 22 = .ok (.return_, 1) := by decide +kernel
set_option maxRecDepth 65536 in
set_option maxHeartbeats 40000000 in
theorem rm_ad3_0 (l : Launch) (Z : State) (a0 : Array Value) (hw : ∀ d ∈ tables_1, d.before a0 Z = true) (ws : List Jvm.Cond) (a1 : Addr) (x : Addr) (de : Addr) (kd : ClassId) (mc : Value) (h0 : Heap) (n0 : Nat) (Z0 : n0 ≤ h0.size) (F_0 : Exa Z h0 a1 "java/util/ArrayList") (F_1 : Fld Z h0 a1 "java/util/ArrayList" "elementData" "[Ljava/lang/Object;" (.ref de)) (F_2 : Fld Z h0 a1 "java/util/ArrayList" "size" "I" (.int (0 : Int32))) (F_3 : Exa Z h0 x "com/example/kempt_cursor/kemptcursor/Keyed") (F_4 : Fld Z h0 a1 "java/util/AbstractList" "modCount" "I" mc) (o_a1 : n0 ≤ a1) (n_a1_x : a1 ≠ x) (O0 : Old Z n0 h0) (S_d : Sta Z Z.heap "java/util/ArrayList" "DEFAULTCAPACITY_EMPTY_ELEMENTDATA" "[Ljava/lang/Object;" (.ref de)) (V_d : Arv Z Z.heap de kd (.object "java/lang/Object") (0 : Int32) [] .null) :
    MetFree l (⟨"java/util/ArrayList", "add", "(Ljava/lang/Object;[Ljava/lang/Object;I)V"⟩ : MethodName) (head1 (Jvm.Cond.code (⟨"java/util/ArrayList", "add", "(Ljava/lang/Object;[Ljava/lang/Object;I)V"⟩ : MethodName) jdk_38_method_24_code 4 none :: ws) ({ frames := 3, cells := 1, slots := 10, locals := 41 } : Room)) (fun a U => a = #[(.ref a1), (.ref x), (.ref de), (.int (0 : Int32))] ∧ Z.Warmed39 U.vm ∧ U.heap = h0) (fun _ _ _ _ _ => True) (fun _ U o U' => ∃ v L, o = .returned v ∧ (Q_ad3_0 Z a1 x de kd mc h0 n0) v U'.heap L ∧ FrameEnd U o U' L ({ frames := 3, cells := 1, slots := 10, locals := 41 } : Room).cells ({ frames := 3, cells := 1, slots := 10, locals := 41 } : Room).slots) := by
  refine MetFree.of_bodySF (plainFor_of_name pn_7) hisR ?_
  intro p e s m args below meth c s₁ Bd hml0 hP hK
  obtain ⟨rfl, hZ, hh⟩ := hP
  have hx := Bd.exec
  have hby := Bd.bytes
  have hlk : meth.locks = false := BodyLoose.notSynchronized Bd
  have hml : c.maxLocals = 4 := hml0
  have hown : s.vm.findClass "java/util/ArrayList" = some m.cls := findClass_of_methodNamed Bd.named
  have hnm := (name_of_methodNamed Bd.named Bd.method).1
  have X0 : Stand p l e ({ frames := 3, cells := 1, slots := 10, locals := 41 } : Room) s m #[(.ref a1), (.ref x), (.ref de), (.int (0 : Int32))] below meth c s₁ [] 0 0 := Stand.of_body Bd
  have e0 : s₁.heap = h0 := by rw [← hh, Bd.state]; rfl
  have N0 := Fr.nil n0
  show own_Go p e below s (Q_ad3_0 Z a1 x de kd mc h0 n0) ({ frames := 3, cells := 1, slots := 10, locals := 41 } : Room).cells ({ frames := 3, cells := 1, slots := 10, locals := 41 } : Room).slots s₁ (entryFrame m #[(.ref a1), (.ref x), (.ref de), (.int (0 : Int32))] 4)
  refine own_cast (g' := (mkF m 0 #[.val (.ref a1), .val (.ref x), .val (.ref de), .val (.int (0 : Int32))] [])) (ef_rm_ad3_0 m a1 x de (0 : Int32)) ?_
  have K0 : Keep h0 h0 [a1] := Keep.refl _ _
  refine own_step (T' := s₁) (g' := (mkF m 1 #[.val (.ref a1), .val (.ref x), .val (.ref de), .val (.int (0 : Int32))] [(.int (0 : Int32))])) (fun t k => XS.iloadN X0.here hx rfl (hb hby d9_0) rfl k) ?_
  refine own_step (T' := s₁) (g' := (mkF m 2 #[.val (.ref a1), .val (.ref x), .val (.ref de), .val (.int (0 : Int32))] [(.ref de), (.int (0 : Int32))])) (fun t k => XS.aloadN X0.here hx rfl (hb hby d9_1) rfl rfl k) ?_
  obtain ⟨cl1, Ar1, qa1, S1, M1, H1, U1⟩ := id (V_d.ext O0.2)
  have ln1 := len_of S1 M1
  refine own_step (T' := s₁) (g' := (mkF m 3 #[.val (.ref a1), .val (.ref x), .val (.ref de), .val (.int (0 : Int32))] [(.int (0 : Int32)), (.int (0 : Int32))])) (fun t k => X0.arraylength hx (cell := cl1) (by rw [e0]; exact Ar1.1) (State.isArrayOf_alike hZ.alike Ar1.2.1) (g := (mkF m 2 #[.val (.ref a1), .val (.ref x), .val (.ref de), .val (.int (0 : Int32))] [(.ref de), (.int (0 : Int32))])) rfl rfl (hb hby d9_2) t (by rw [ln1]; exact k)) ?_
  refine own_step (T' := s₁) (g' := (mkF m 6 #[.val (.ref a1), .val (.ref x), .val (.ref de), .val (.int (0 : Int32))] [])) (fun t k => XS.icmpNo X0.here hx rfl (hb hby d9_3) rfl (teq (by decide : ((0 : Int32) = (0 : Int32)))).2 k) ?_
  refine own_step (T' := s₁) (g' := (mkF m 7 #[.val (.ref a1), .val (.ref x), .val (.ref de), .val (.int (0 : Int32))] [(.ref a1)])) (fun t k => XS.aloadN X0.here hx rfl (hb hby d9_6) rfl rfl k) ?_
  obtain ⟨cq12, q12a, q12b⟩ := F_0.cell
  obtain ⟨_, _, ⟨T11, L11, k11, n11⟩, -, X11, ⟨Lc11, hQ11, lq11, yq11, zq11⟩, st11⟩ := X0.privateBack hx (y := (⟨"java/util/ArrayList", "grow", "()[Ljava/lang/Object;"⟩ : MethodName)) hown (mvT hZ (hw _ (List.mem_of_getElem? (i := 64) rfl))) (mvT hZ (hw _ (List.mem_of_getElem? (i := 65) rfl))) (mvT hZ (hw _ (List.mem_of_getElem? (i := 67) rfl))) (Cond.privateMethod_at (args := #[]) (mvP hZ (hw _ (List.mem_of_getElem? (i := 66) rfl)))) (mvT hZ (hw _ (List.mem_of_getElem? (i := 68) rfl))) (by decide) (backOf (W := 0) (rm_gr0 l Z a0 hw [] a1 de kd mc h0 n0 Z0 F_0 F_1 F_2 F_4 o_a1 O0 S_d V_d) hZ (hw _ (List.mem_of_getElem? (i := 68) rfl)) (hw _ (List.mem_of_getElem? (i := 3) rfl)) (by decide) (by decide)) (g := (mkF m 7 #[.val (.ref a1), .val (.ref x), .val (.ref de), .val (.int (0 : Int32))] [(.ref a1)])) rfl (by rw [hml]; rfl) (Steps.refl _) (a := a1) (cell := cq12) (by rw [e0]; exact q12a) q12b (argsL := []) (rest := []) (lenOf pd_4 rfl) rfl (by show 2 * 0 + _ ≤ _; exact Nat.le_of_eq rfl) (hb hby d9_7) (fun _ _ => ⟨rfl, e0, (by decide : 0 + 1 ≤ _), (by decide : 0 + 10 ≤ _)⟩)
  dsimp only [Pt.U, Pt.locs, Pt.cells, Pt.slots] at X11 lq11 yq11 zq11 st11 hQ11
  subst lq11 yq11 zq11
  obtain ⟨b_2, kb_2, rfl, Nq11, K3, fz_b_2, nz_a1_b_2, g4, g5, g6, g7, g8, g9, g10⟩ := hQ11
  have N11 := Fr.app N0 Nq11
  have oz_b_2 : n0 ≤ b_2 := Nat.le_trans Z0 fz_b_2
  have nz_a1_b_2 : a1 ≠ b_2 := Nat.ne_of_lt (Nat.lt_of_lt_of_le F_0.lt fz_b_2)
  have nz_x_b_2 : x ≠ b_2 := Nat.ne_of_lt (Nat.lt_of_lt_of_le F_3.lt fz_b_2)
  have fr_b_2 : h0.size ≤ b_2 := Nat.le_trans K0.1 fz_b_2
  have g13 : Exa Z T11.heap x "com/example/kempt_cursor/kemptcursor/Keyed" := F_3.keep K3
  have Z3 : n0 ≤ T11.heap.size := (Nat.le_trans Z0 K3.1)
  have O3 : Old Z n0 T11.heap := O0.keep K3 (allS (P := fun x => n0 ≤ x) o_a1 all0)
  have K14 : Keep h0 T11.heap [a1] := K0.trans K3 (allS (P := fun x => x ∈ [a1] ∨ h0.size ≤ x) (Or.inl (List.mem_of_getElem? (i := 0) rfl)) all0)
  refine own_tr (T' := T11) (g' := (mkF m 10 #[.val (.ref a1), .val (.ref x), .val (.ref de), .val (.int (0 : Int32))] [(.ref b_2)])) st11 ?_
  refine own_step (T' := T11) (g' := (mkF m 11 #[.val (.ref a1), .val (.ref x), .val (.ref b_2), .val (.int (0 : Int32))] [])) (fun t k => XS.astoreN X11.here hx rfl (hb hby d9_10) rfl rfl (l' := #[.val (.ref a1), .val (.ref x), .val (.ref b_2), .val (.int (0 : Int32))]) rfl k) ?_
  refine own_step (T' := T11) (g' := (mkF m 12 #[.val (.ref a1), .val (.ref x), .val (.ref b_2), .val (.int (0 : Int32))] [(.ref b_2)])) (fun t k => XS.aloadN X11.here hx rfl (hb hby d9_11) rfl rfl k) ?_
  refine own_step (T' := T11) (g' := (mkF m 13 #[.val (.ref a1), .val (.ref x), .val (.ref b_2), .val (.int (0 : Int32))] [(.int (0 : Int32)), (.ref b_2)])) (fun t k => XS.iloadN X11.here hx rfl (hb hby d9_12) rfl k) ?_
  refine own_step (T' := T11) (g' := (mkF m 14 #[.val (.ref a1), .val (.ref x), .val (.ref b_2), .val (.int (0 : Int32))] [(.ref x), (.int (0 : Int32)), (.ref b_2)])) (fun t k => XS.aloadN X11.here hx rfl (hb hby d9_13) rfl rfl k) ?_
  obtain ⟨cl15, Ar15, qa15, S15, M15, H15, U15⟩ := id g8
  obtain ⟨T15, h15, X15, e15, W15, st15⟩ := stR X11 hx hZ rfl Ar15 (j := (0 : Int32)) (inb_of S15 ⟨by decide, by decide⟩) rfl (Sto.ofV Ar15 qa15 g10 (Ins.of_exa g13 (hw _ (List.mem_of_getElem? (i := 80) rfl)))) (g := (mkF m 14 #[.val (.ref a1), .val (.ref x), .val (.ref b_2), .val (.int (0 : Int32))] [(.ref x), (.int (0 : Int32)), (.ref b_2)])) rfl rfl (hb hby d9_14)
  have g16 : Exa Z h15 x "com/example/kempt_cursor/kemptcursor/Keyed" := g13.wr W15
  have g17 : Exa Z h15 a1 "java/util/ArrayList" := g4.wr W15
  have g18 : Fld Z h15 a1 "java/util/ArrayList" "elementData" "[Ljava/lang/Object;" (.ref b_2) := g5.other W15 (Or.inl nz_a1_b_2)
  have g19 : Fld Z h15 a1 "java/util/ArrayList" "size" "I" (.int (0 : Int32)) := g6.other W15 (Or.inl nz_a1_b_2)
  have g20 : Fld Z h15 a1 "java/util/AbstractList" "modCount" "I" mc := g7.other W15 (Or.inl nz_a1_b_2)
  have g21 : Arv Z h15 b_2 kb_2 (.object "java/lang/Object") (10 : Int32) [(.ref x), .null, .null, .null, .null, .null, .null, .null, .null, .null] .null := Arv.set Ar15 qa15 S15 M15 H15 U15 rfl W15 0 rfl (Nat.le_of_ble_eq_true rfl)
  have g22 : Exa Z h15 b_2 "[Ljava/lang/Object;" := g9.wr W15
  have K23 : Keep h0 h15 [a1] := K14.wr W15 (Or.inr fr_b_2)
  have N15 := Fr.snoc X15 N11 oz_b_2
  have Z15 : n0 ≤ h15.size := (Nat.le_trans Z3 (Nat.le_of_eq W15.size.symm))
  have O15 : Old Z n0 h15 := O3.wr W15 oz_b_2
  refine own_step (T' := T15) (g' := (mkF m 15 #[.val (.ref a1), .val (.ref x), .val (.ref b_2), .val (.int (0 : Int32))] [])) st15 ?_
  refine own_step (T' := T15) (g' := (mkF m 16 #[.val (.ref a1), .val (.ref x), .val (.ref b_2), .val (.int (0 : Int32))] [(.ref a1)])) (fun t k => XS.aloadN X15.here hx rfl (hb hby d9_15) rfl rfl k) ?_
  refine own_step (T' := T15) (g' := (mkF m 17 #[.val (.ref a1), .val (.ref x), .val (.ref b_2), .val (.int (0 : Int32))] [(.int (0 : Int32)), (.ref a1)])) (fun t k => XS.iloadN X15.here hx rfl (hb hby d9_16) rfl k) ?_
  refine own_step (T' := T15) (g' := (mkF m 18 #[.val (.ref a1), .val (.ref x), .val (.ref b_2), .val (.int (0 : Int32))] [(.int (1 : Int32)), (.int (0 : Int32)), (.ref a1)])) (fun t k => XS.iconst X15.here hx rfl (hb hby d9_17) k) ?_
  refine own_step (T' := T15) (g' := (mkF m 19 #[.val (.ref a1), .val (.ref x), .val (.ref b_2), .val (.int (0 : Int32))] [(.int (1 : Int32)), (.ref a1)])) (fun t k => XS.iadd X15.here hx rfl (hb hby d9_18) rfl k) ?_
  obtain ⟨T24, h24, X24, e24, W24, st24⟩ := putF X15 hx hZ hown (host := "") (Or.inl (hw _ (List.mem_of_getElem? (i := 57) rfl))) Via.refl e15 g19 g17 (Or.inl (hw _ (List.mem_of_getElem? (i := 58) rfl))) (hw _ (List.mem_of_getElem? (i := 2) rfl)) (ty := .int) (by decide) rfl rfl (g := (mkF m 19 #[.val (.ref a1), .val (.ref x), .val (.ref b_2), .val (.int (0 : Int32))] [(.int (1 : Int32)), (.ref a1)])) rfl rfl (hb hby d9_19)
  have g25 : Exa Z h24 x "com/example/kempt_cursor/kemptcursor/Keyed" := g16.wr W24
  have g26 : Exa Z h24 a1 "java/util/ArrayList" := g17.wr W24
  have g27 : Fld Z h24 a1 "java/util/ArrayList" "elementData" "[Ljava/lang/Object;" (.ref b_2) := g18.other W24 (Or.inr (slot_ne (Or.inl (hw _ (List.mem_of_getElem? (i := 26) rfl))) (Or.inl (hw _ (List.mem_of_getElem? (i := 58) rfl))) (by decide) (t := .array (.object "java/lang/Object")) (t' := .int) (by decide) (by decide)))
  have g28 : Fld Z h24 a1 "java/util/ArrayList" "size" "I" (.int (1 : Int32)) := g19.same W24
  have g29 : Fld Z h24 a1 "java/util/AbstractList" "modCount" "I" mc := g20.other W24 (Or.inr (slot_ne (Or.inl (hw _ (List.mem_of_getElem? (i := 23) rfl))) (Or.inl (hw _ (List.mem_of_getElem? (i := 58) rfl))) (by decide) (t := .int) (t' := .int) (by decide) (by decide)))
  have g30 : Arv Z h24 b_2 kb_2 (.object "java/lang/Object") (10 : Int32) [(.ref x), .null, .null, .null, .null, .null, .null, .null, .null, .null] .null := g21.other W24 (Ne.symm nz_a1_b_2)
  have g31 : Exa Z h24 b_2 "[Ljava/lang/Object;" := g22.wr W24
  have K32 : Keep h0 h24 [a1] := K23.wr W24 (Or.inl (List.mem_of_getElem? (i := 0) rfl))
  have N24 := Fr.snoc X24 N15 o_a1
  have Z24 : n0 ≤ h24.size := (Nat.le_trans Z15 (Nat.le_of_eq W24.size.symm))
  have O24 : Old Z n0 h24 := O15.wr W24 o_a1
  refine own_step (T' := T24) (g' := (mkF m 22 #[.val (.ref a1), .val (.ref x), .val (.ref b_2), .val (.int (0 : Int32))] [])) st24 ?_
  refine own_rV X24 hx hlk Bd.returns (hb hby d9_22) ?_ (by decide) (by decide)
  rw [e24]
  exact ⟨b_2, kb_2, rfl, N24, K32, fr_b_2, nz_a1_b_2, g26, g27, g28, g30, g31, g10, g29⟩
def Q_ad1_0 (Z : State) (a1 : Addr) (x : Addr) (de : Addr) (kd : ClassId) (h0 : Heap) (n0 : Nat) (v : Option Value) (h : Heap) (L : List Loc) : Prop := ∃ (b : Addr) (kb : ClassId), v = some (.int (1 : Int32)) ∧ Fr n0 L ∧ Keep h0 h [a1] ∧ h0.size ≤ b ∧ a1 ≠ b ∧ Exa Z h a1 "java/util/ArrayList" ∧ Fld Z h a1 "java/util/ArrayList" "elementData" "[Ljava/lang/Object;" (.ref b) ∧ Fld Z h a1 "java/util/ArrayList" "size" "I" (.int (1 : Int32)) ∧ Arv Z h b kb (.object "java/lang/Object") (10 : Int32) [(.ref x), .null, .null, .null, .null, .null, .null, .null, .null, .null] .null ∧ Exa Z h b "[Ljava/lang/Object;" ∧ Ovr Z kb "java/lang/Object" ∧ Fld Z h a1 "java/util/AbstractList" "modCount" "I" (.int (1 : Int32))
theorem ef_rm_ad1_0 (m : MethodId) (x0 : Addr) (x1 : Addr) : entryFrame m #[(.ref x0), (.ref x1)] 2 = mkF m 0 #[.val (.ref x0), .val (.ref x1)] [] := by first | (simp [entryFrame, mkF, argsToLocals, Value.category]; done) | rfl | (simp [entryFrame, mkF, argsToLocals, Value.category] <;> rfl)
theorem d8_0 : decode jdk_38_method_25_code 0 = .ok (.aload_n 0, 1) := by decide +kernel
theorem d8_1 : decode jdk_38_method_25_code 1 = .ok (.dup, 1) := by decide +kernel
theorem d8_2 : decode jdk_38_method_25_code 2 = .ok (.getfield 63, 3) := by decide +kernel
theorem d8_5 : decode jdk_38_method_25_code 5 = .ok (.iconst 1, 1) := by decide +kernel
theorem d8_6 : decode jdk_38_method_25_code 6 = .ok (.iadd, 1) := by decide +kernel
theorem d8_7 : decode jdk_38_method_25_code 7 = .ok (.putfield 63, 3) := by decide +kernel
theorem d8_10 : decode jdk_38_method_25_code 10 = .ok (.aload_n 0, 1) := by decide +kernel
theorem d8_11 : decode jdk_38_method_25_code 11 = .ok (.aload_n 1, 1) := by decide +kernel
theorem d8_12 : decode jdk_38_method_25_code 12 = .ok (.aload_n 0, 1) := by decide +kernel
theorem d8_13 : decode jdk_38_method_25_code 13 = .ok (.getfield 9, 3) := by decide +kernel
theorem d8_16 : decode jdk_38_method_25_code 16 = .ok (.aload_n 0, 1) := by decide +kernel
theorem d8_17 : decode jdk_38_method_25_code 17 = .ok (.getfield 48, 3) := by decide +kernel
theorem pd_5 : parseMethodDescriptor "(Ljava/lang/Object;[Ljava/lang/Object;I)V" = some ⟨[.object "java/lang/Object", .array (.object "java/lang/Object"), .int], none⟩ := by decide +kernel
theorem d8_20 : decode jdk_38_method_25_code 20 = .ok (.invokevirtual 131, 3) := by decide +kernel
theorem d8_23 : decode jdk_38_method_25_code 23 = .ok (.iconst 1, 1) := by decide +kernel
theorem d8_24 : decode jdk_38_method_25_code 24 = .ok (.ireturn, 1) := by decide +kernel
set_option maxRecDepth 65536 in
set_option maxHeartbeats 40000000 in
theorem rm_ad1_0 (l : Launch) (Z : State) (a0 : Array Value) (hw : ∀ d ∈ tables_1, d.before a0 Z = true) (ws : List Jvm.Cond) (a1 : Addr) (x : Addr) (de : Addr) (kd : ClassId) (h0 : Heap) (n0 : Nat) (Z0 : n0 ≤ h0.size) (F_0 : Exa Z h0 a1 "java/util/ArrayList") (F_1 : Fld Z h0 a1 "java/util/ArrayList" "elementData" "[Ljava/lang/Object;" (.ref de)) (F_2 : Fld Z h0 a1 "java/util/ArrayList" "size" "I" (.int (0 : Int32))) (F_3 : Exa Z h0 x "com/example/kempt_cursor/kemptcursor/Keyed") (F_4 : Fld Z h0 a1 "java/util/AbstractList" "modCount" "I" (.int (0 : Int32))) (o_a1 : n0 ≤ a1) (n_a1_x : a1 ≠ x) (O0 : Old Z n0 h0) (S_d : Sta Z Z.heap "java/util/ArrayList" "DEFAULTCAPACITY_EMPTY_ELEMENTDATA" "[Ljava/lang/Object;" (.ref de)) (V_d : Arv Z Z.heap de kd (.object "java/lang/Object") (0 : Int32) [] .null) :
    MetFree l (⟨"java/util/ArrayList", "add", "(Ljava/lang/Object;)Z"⟩ : MethodName) (head1 (Jvm.Cond.code (⟨"java/util/ArrayList", "add", "(Ljava/lang/Object;)Z"⟩ : MethodName) jdk_38_method_25_code 2 (some (.boolean)) :: ws) ({ frames := 4, cells := 1, slots := 10, locals := 56 } : Room)) (fun a U => a = #[(.ref a1), (.ref x)] ∧ Z.Warmed39 U.vm ∧ U.heap = h0) (fun _ _ _ _ _ => True) (fun _ U o U' => ∃ v L, o = .returned v ∧ (Q_ad1_0 Z a1 x de kd h0 n0) v U'.heap L ∧ FrameEnd U o U' L ({ frames := 4, cells := 1, slots := 10, locals := 56 } : Room).cells ({ frames := 4, cells := 1, slots := 10, locals := 56 } : Room).slots) := by
  refine MetFree.of_bodySF (plainFor_of_name pn_7) hisR ?_
  intro p e s m args below meth c s₁ Bd hml0 hP hK
  obtain ⟨rfl, hZ, hh⟩ := hP
  have hx := Bd.exec
  have hby := Bd.bytes
  have hlk : meth.locks = false := BodyLoose.notSynchronized Bd
  have hml : c.maxLocals = 2 := hml0
  have hown : s.vm.findClass "java/util/ArrayList" = some m.cls := findClass_of_methodNamed Bd.named
  have hnm := (name_of_methodNamed Bd.named Bd.method).1
  have X0 : Stand p l e ({ frames := 4, cells := 1, slots := 10, locals := 56 } : Room) s m #[(.ref a1), (.ref x)] below meth c s₁ [] 0 0 := Stand.of_body Bd
  have e0 : s₁.heap = h0 := by rw [← hh, Bd.state]; rfl
  have N0 := Fr.nil n0
  show own_Go p e below s (Q_ad1_0 Z a1 x de kd h0 n0) ({ frames := 4, cells := 1, slots := 10, locals := 56 } : Room).cells ({ frames := 4, cells := 1, slots := 10, locals := 56 } : Room).slots s₁ (entryFrame m #[(.ref a1), (.ref x)] 2)
  refine own_cast (g' := (mkF m 0 #[.val (.ref a1), .val (.ref x)] [])) (ef_rm_ad1_0 m a1 x) ?_
  have K0 : Keep h0 h0 [a1] := Keep.refl _ _
  refine own_step (T' := s₁) (g' := (mkF m 1 #[.val (.ref a1), .val (.ref x)] [(.ref a1)])) (fun t k => XS.aloadN X0.here hx rfl (hb hby d8_0) rfl rfl k) ?_
  refine own_step (T' := s₁) (g' := (mkF m 2 #[.val (.ref a1), .val (.ref x)] [(.ref a1), (.ref a1)])) (fun t k => XS.dup X0.here hx rfl (hb hby d8_1) rfl rfl k) ?_
  obtain ⟨T1, X1, e1, st1⟩ := getF X0 hx hZ hown (host := "") (Or.inl (hw _ (List.mem_of_getElem? (i := 55) rfl))) (Via.of (hw _ (List.mem_of_getElem? (i := 56) rfl))) e0 F_4 (g := (mkF m 2 #[.val (.ref a1), .val (.ref x)] [(.ref a1), (.ref a1)])) rfl rfl (hb hby d8_2)
  refine own_step (T' := T1) (g' := (mkF m 5 #[.val (.ref a1), .val (.ref x)] [(.int (0 : Int32)), (.ref a1)])) st1 ?_
  refine own_step (T' := T1) (g' := (mkF m 6 #[.val (.ref a1), .val (.ref x)] [(.int (1 : Int32)), (.int (0 : Int32)), (.ref a1)])) (fun t k => XS.iconst X1.here hx rfl (hb hby d8_5) k) ?_
  refine own_step (T' := T1) (g' := (mkF m 7 #[.val (.ref a1), .val (.ref x)] [(.int (1 : Int32)), (.ref a1)])) (fun t k => XS.iadd X1.here hx rfl (hb hby d8_6) rfl k) ?_
  obtain ⟨T2, h2, X2, e2, W2, st2⟩ := putF X1 hx hZ hown (host := "") (Or.inl (hw _ (List.mem_of_getElem? (i := 55) rfl))) (Via.of (hw _ (List.mem_of_getElem? (i := 56) rfl))) e1 F_4 F_0 (Or.inl (hw _ (List.mem_of_getElem? (i := 23) rfl))) (hw _ (List.mem_of_getElem? (i := 2) rfl)) (ty := .int) (by decide) rfl rfl (g := (mkF m 7 #[.val (.ref a1), .val (.ref x)] [(.int (1 : Int32)), (.ref a1)])) rfl rfl (hb hby d8_7)
  have g3 : Exa Z h2 a1 "java/util/ArrayList" := F_0.wr W2
  have g4 : Fld Z h2 a1 "java/util/ArrayList" "elementData" "[Ljava/lang/Object;" (.ref de) := F_1.other W2 (Or.inr (slot_ne (Or.inl (hw _ (List.mem_of_getElem? (i := 26) rfl))) (Or.inl (hw _ (List.mem_of_getElem? (i := 23) rfl))) (by decide) (t := .array (.object "java/lang/Object")) (t' := .int) (by decide) (by decide)))
  have g5 : Fld Z h2 a1 "java/util/ArrayList" "size" "I" (.int (0 : Int32)) := F_2.other W2 (Or.inr (slot_ne (Or.inl (hw _ (List.mem_of_getElem? (i := 58) rfl))) (Or.inl (hw _ (List.mem_of_getElem? (i := 23) rfl))) (by decide) (t := .int) (t' := .int) (by decide) (by decide)))
  have g6 : Exa Z h2 x "com/example/kempt_cursor/kemptcursor/Keyed" := F_3.wr W2
  have g7 : Fld Z h2 a1 "java/util/AbstractList" "modCount" "I" (.int (1 : Int32)) := F_4.same W2
  have K8 : Keep h0 h2 [a1] := K0.wr W2 (Or.inl (List.mem_of_getElem? (i := 0) rfl))
  have N2 := Fr.snoc X2 N0 o_a1
  have Z2 : n0 ≤ h2.size := (Nat.le_trans Z0 (Nat.le_of_eq W2.size.symm))
  have O2 : Old Z n0 h2 := O0.wr W2 o_a1
  refine own_step (T' := T2) (g' := (mkF m 10 #[.val (.ref a1), .val (.ref x)] [])) st2 ?_
  refine own_step (T' := T2) (g' := (mkF m 11 #[.val (.ref a1), .val (.ref x)] [(.ref a1)])) (fun t k => XS.aloadN X2.here hx rfl (hb hby d8_10) rfl rfl k) ?_
  refine own_step (T' := T2) (g' := (mkF m 12 #[.val (.ref a1), .val (.ref x)] [(.ref x), (.ref a1)])) (fun t k => XS.aloadN X2.here hx rfl (hb hby d8_11) rfl rfl k) ?_
  refine own_step (T' := T2) (g' := (mkF m 13 #[.val (.ref a1), .val (.ref x)] [(.ref a1), (.ref x), (.ref a1)])) (fun t k => XS.aloadN X2.here hx rfl (hb hby d8_12) rfl rfl k) ?_
  obtain ⟨T9, X9, e9, st9⟩ := getF X2 hx hZ hown (host := "") (Or.inl (hw _ (List.mem_of_getElem? (i := 25) rfl))) Via.refl e2 g4 (g := (mkF m 13 #[.val (.ref a1), .val (.ref x)] [(.ref a1), (.ref x), (.ref a1)])) rfl rfl (hb hby d8_13)
  refine own_step (T' := T9) (g' := (mkF m 16 #[.val (.ref a1), .val (.ref x)] [(.ref de), (.ref x), (.ref a1)])) st9 ?_
  refine own_step (T' := T9) (g' := (mkF m 17 #[.val (.ref a1), .val (.ref x)] [(.ref a1), (.ref de), (.ref x), (.ref a1)])) (fun t k => XS.aloadN X9.here hx rfl (hb hby d8_16) rfl rfl k) ?_
  obtain ⟨T10, X10, e10, st10⟩ := getF X9 hx hZ hown (host := "") (Or.inl (hw _ (List.mem_of_getElem? (i := 57) rfl))) Via.refl e9 g5 (g := (mkF m 17 #[.val (.ref a1), .val (.ref x)] [(.ref a1), (.ref de), (.ref x), (.ref a1)])) rfl rfl (hb hby d8_17)
  refine own_step (T' := T10) (g' := (mkF m 20 #[.val (.ref a1), .val (.ref x)] [(.int (0 : Int32)), (.ref de), (.ref x), (.ref a1)])) st10 ?_
  obtain ⟨cq21, q21a, q21b⟩ := g3.cell
  obtain ⟨_, _, ⟨T20, L20, k20, n20⟩, -, X20, ⟨Lc20, hQ20, lq20, yq20, zq20⟩, st20⟩ := X10.privateBack hx (y := (⟨"java/util/ArrayList", "add", "(Ljava/lang/Object;[Ljava/lang/Object;I)V"⟩ : MethodName)) hown (mvT hZ (hw _ (List.mem_of_getElem? (i := 59) rfl))) (mvT hZ (hw _ (List.mem_of_getElem? (i := 60) rfl))) (mvT hZ (hw _ (List.mem_of_getElem? (i := 62) rfl))) (Cond.privateMethod_at (args := #[]) (mvP hZ (hw _ (List.mem_of_getElem? (i := 61) rfl)))) (mvT hZ (hw _ (List.mem_of_getElem? (i := 63) rfl))) (by decide) (backOf (W := 0) (rm_ad3_0 l Z a0 hw [] a1 x de kd (.int (1 : Int32)) h2 n0 Z2 g3 g4 g5 g6 g7 o_a1 n_a1_x O2 S_d V_d) hZ (hw _ (List.mem_of_getElem? (i := 63) rfl)) (hw _ (List.mem_of_getElem? (i := 3) rfl)) (by decide) (by decide)) (g := (mkF m 20 #[.val (.ref a1), .val (.ref x)] [(.int (0 : Int32)), (.ref de), (.ref x), (.ref a1)])) rfl (by rw [hml]; rfl) (Steps.refl _) (a := a1) (cell := cq21) (by rw [e10]; exact q21a) q21b (argsL := [(.ref x), (.ref de), (.int (0 : Int32))]) (rest := []) (lenOf pd_5 rfl) rfl (by show 2 * 0 + _ ≤ _; exact Nat.le_of_eq rfl) (hb hby d8_20) (fun _ _ => ⟨rfl, e10, (by decide : 0 + 1 ≤ _), (by decide : 0 + 10 ≤ _)⟩)
  dsimp only [Pt.U, Pt.locs, Pt.cells, Pt.slots] at X20 lq20 yq20 zq20 st20 hQ20
  subst lq20 yq20 zq20
  obtain ⟨b_11, kb_11, rfl, Nq20, K12, fz_b_11, nz_a1_b_11, g13, g14, g15, g16, g17, g18, g19⟩ := hQ20
  have N20 := Fr.app N2 Nq20
  have oz_b_11 : n0 ≤ b_11 := Nat.le_trans Z2 fz_b_11
  have nz_a1_b_11 : a1 ≠ b_11 := Nat.ne_of_lt (Nat.lt_of_lt_of_le g3.lt fz_b_11)
  have nz_x_b_11 : x ≠ b_11 := Nat.ne_of_lt (Nat.lt_of_lt_of_le g6.lt fz_b_11)
  have fr_b_11 : h0.size ≤ b_11 := Nat.le_trans K8.1 fz_b_11
  have g22 : Exa Z T20.heap x "com/example/kempt_cursor/kemptcursor/Keyed" := g6.keep K12
  have Z12 : n0 ≤ T20.heap.size := (Nat.le_trans Z2 K12.1)
  have O12 : Old Z n0 T20.heap := O2.keep K12 (allS (P := fun x => n0 ≤ x) o_a1 all0)
  have K23 : Keep h0 T20.heap [a1] := K8.trans K12 (allS (P := fun x => x ∈ [a1] ∨ h0.size ≤ x) (Or.inl (List.mem_of_getElem? (i := 0) rfl)) all0)
  refine own_tr (T' := T20) (g' := (mkF m 23 #[.val (.ref a1), .val (.ref x)] [])) st20 ?_
  refine own_step (T' := T20) (g' := (mkF m 24 #[.val (.ref a1), .val (.ref x)] [(.int (1 : Int32))])) (fun t k => XS.iconst X20.here hx rfl (hb hby d8_23) k) ?_
  refine own_rN X20 hx hlk Bd.returns (by simp) (hb hby d8_24) ?_ (by decide) (by decide)
  exact ⟨b_11, kb_11, rfl, N20, K23, fr_b_11, nz_a1_b_11, g13, g14, g15, g16, g17, g18, g19⟩
def Q_ad3_1 (Z : State) (a1 : Addr) (x : Addr) (b : Addr) (kb : ClassId) (y0 : Addr) (mc : Value) (h0 : Heap) (n0 : Nat) (v : Option Value) (h : Heap) (L : List Loc) : Prop := v = none ∧ Fr n0 L ∧ Keep h0 h [a1, b] ∧ Exa Z h a1 "java/util/ArrayList" ∧ Fld Z h a1 "java/util/ArrayList" "elementData" "[Ljava/lang/Object;" (.ref b) ∧ Fld Z h a1 "java/util/ArrayList" "size" "I" (.int (2 : Int32)) ∧ Arv Z h b kb (.object "java/lang/Object") (10 : Int32) [(.ref y0), (.ref x), .null, .null, .null, .null, .null, .null, .null, .null] .null ∧ Exa Z h b "[Ljava/lang/Object;" ∧ Ovr Z kb "java/lang/Object" ∧ Fld Z h a1 "java/util/AbstractList" "modCount" "I" mc
theorem ef_rm_ad3_1 (m : MethodId) (x0 : Addr) (x1 : Addr) (x2 : Addr) (x3 : Int32) : entryFrame m #[(.ref x0), (.ref x1), (.ref x2), (.int x3)] 4 = mkF m 0 #[.val (.ref x0), .val (.ref x1), .val (.ref x2), .val (.int x3)] [] := by first | (simp [entryFrame, mkF, argsToLocals, Value.category]; done) | rfl | (simp [entryFrame, mkF, argsToLocals, Value.category] <;> rfl)
set_option maxRecDepth 65536 in
set_option maxHeartbeats 40000000 in
theorem rm_ad3_1 (l : Launch) (Z : State) (a0 : Array Value) (hw : ∀ d ∈ tables_1, d.before a0 Z = true) (ws : List Jvm.Cond) (a1 : Addr) (x : Addr) (b : Addr) (kb : ClassId) (y0 : Addr) (mc : Value) (h0 : Heap) (n0 : Nat) (Z0 : n0 ≤ h0.size) (F_0 : Exa Z h0 a1 "java/util/ArrayList") (F_1 : Fld Z h0 a1 "java/util/ArrayList" "elementData" "[Ljava/lang/Object;" (.ref b)) (F_2 : Fld Z h0 a1 "java/util/ArrayList" "size" "I" (.int (1 : Int32))) (F_3 : Exa Z h0 x "com/example/kempt_cursor/kemptcursor/Keyed") (F_4 : Arv Z h0 b kb (.object "java/lang/Object") (10 : Int32) [(.ref y0), .null, .null, .null, .null, .null, .null, .null, .null, .null] .null) (F_5 : Exa Z h0 b "[Ljava/lang/Object;") (F_6 : Ovr Z kb "java/lang/Object") (F_7 : Fld Z h0 a1 "java/util/AbstractList" "modCount" "I" mc) (o_a1 : n0 ≤ a1) (o_b : n0 ≤ b) (n_a1_x : a1 ≠ x) (n_a1_b : a1 ≠ b) (n_x_b : x ≠ b) :
    MetFree l (⟨"java/util/ArrayList", "add", "(Ljava/lang/Object;[Ljava/lang/Object;I)V"⟩ : MethodName) (head1 (Jvm.Cond.code (⟨"java/util/ArrayList", "add", "(Ljava/lang/Object;[Ljava/lang/Object;I)V"⟩ : MethodName) jdk_38_method_24_code 4 none :: ws) ({ frames := 0, cells := 0, slots := 0, locals := 0 } : Room)) (fun a U => a = #[(.ref a1), (.ref x), (.ref b), (.int (1 : Int32))] ∧ Z.Warmed39 U.vm ∧ U.heap = h0) (fun _ _ _ _ _ => True) (fun _ U o U' => ∃ v L, o = .returned v ∧ (Q_ad3_1 Z a1 x b kb y0 mc h0 n0) v U'.heap L ∧ FrameEnd U o U' L ({ frames := 0, cells := 0, slots := 0, locals := 0 } : Room).cells ({ frames := 0, cells := 0, slots := 0, locals := 0 } : Room).slots) := by
  refine MetFree.of_bodySF (plainFor_of_name pn_7) hisR ?_
  intro p e s m args below meth c s₁ Bd hml0 hP hK
  obtain ⟨rfl, hZ, hh⟩ := hP
  have hx := Bd.exec
  have hby := Bd.bytes
  have hlk : meth.locks = false := BodyLoose.notSynchronized Bd
  have hml : c.maxLocals = 4 := hml0
  have hown : s.vm.findClass "java/util/ArrayList" = some m.cls := findClass_of_methodNamed Bd.named
  have hnm := (name_of_methodNamed Bd.named Bd.method).1
  have X0 : Stand p l e ({ frames := 0, cells := 0, slots := 0, locals := 0 } : Room) s m #[(.ref a1), (.ref x), (.ref b), (.int (1 : Int32))] below meth c s₁ [] 0 0 := Stand.of_body Bd
  have e0 : s₁.heap = h0 := by rw [← hh, Bd.state]; rfl
  have N0 := Fr.nil n0
  show own_Go p e below s (Q_ad3_1 Z a1 x b kb y0 mc h0 n0) ({ frames := 0, cells := 0, slots := 0, locals := 0 } : Room).cells ({ frames := 0, cells := 0, slots := 0, locals := 0 } : Room).slots s₁ (entryFrame m #[(.ref a1), (.ref x), (.ref b), (.int (1 : Int32))] 4)
  refine own_cast (g' := (mkF m 0 #[.val (.ref a1), .val (.ref x), .val (.ref b), .val (.int (1 : Int32))] [])) (ef_rm_ad3_1 m a1 x b (1 : Int32)) ?_
  have K0 : Keep h0 h0 [a1, b] := Keep.refl _ _
  refine own_step (T' := s₁) (g' := (mkF m 1 #[.val (.ref a1), .val (.ref x), .val (.ref b), .val (.int (1 : Int32))] [(.int (1 : Int32))])) (fun t k => XS.iloadN X0.here hx rfl (hb hby d9_0) rfl k) ?_
  refine own_step (T' := s₁) (g' := (mkF m 2 #[.val (.ref a1), .val (.ref x), .val (.ref b), .val (.int (1 : Int32))] [(.ref b), (.int (1 : Int32))])) (fun t k => XS.aloadN X0.here hx rfl (hb hby d9_1) rfl rfl k) ?_
  obtain ⟨cl1, Ar1, qa1, S1, M1, H1, U1⟩ := id F_4
  have ln1 := len_of S1 M1
  refine own_step (T' := s₁) (g' := (mkF m 3 #[.val (.ref a1), .val (.ref x), .val (.ref b), .val (.int (1 : Int32))] [(.int (10 : Int32)), (.int (1 : Int32))])) (fun t k => X0.arraylength hx (cell := cl1) (by rw [e0]; exact Ar1.1) (State.isArrayOf_alike hZ.alike Ar1.2.1) (g := (mkF m 2 #[.val (.ref a1), .val (.ref x), .val (.ref b), .val (.int (1 : Int32))] [(.ref b), (.int (1 : Int32))])) rfl rfl (hb hby d9_2) t (by rw [ln1]; exact k)) ?_
  refine own_step (T' := s₁) (g' := (mkF m 11 #[.val (.ref a1), .val (.ref x), .val (.ref b), .val (.int (1 : Int32))] [])) (fun t k => XS.icmpYes X0.here hx rfl (pc0 := 3) (pc' := 11) rfl (hb hby d9_3) rfl (feq (by decide : ¬ ((1 : Int32) = (10 : Int32)))).2 (by decide) (by decide) k) ?_
  refine own_step (T' := s₁) (g' := (mkF m 12 #[.val (.ref a1), .val (.ref x), .val (.ref b), .val (.int (1 : Int32))] [(.ref b)])) (fun t k => XS.aloadN X0.here hx rfl (hb hby d9_11) rfl rfl k) ?_
  refine own_step (T' := s₁) (g' := (mkF m 13 #[.val (.ref a1), .val (.ref x), .val (.ref b), .val (.int (1 : Int32))] [(.int (1 : Int32)), (.ref b)])) (fun t k => XS.iloadN X0.here hx rfl (hb hby d9_12) rfl k) ?_
  refine own_step (T' := s₁) (g' := (mkF m 14 #[.val (.ref a1), .val (.ref x), .val (.ref b), .val (.int (1 : Int32))] [(.ref x), (.int (1 : Int32)), (.ref b)])) (fun t k => XS.aloadN X0.here hx rfl (hb hby d9_13) rfl rfl k) ?_
  obtain ⟨cl2, Ar2, qa2, S2, M2, H2, U2⟩ := id F_4
  obtain ⟨T2, h2, X2, e2, W2, st2⟩ := stR X0 hx hZ e0 Ar2 (j := (1 : Int32)) (inb_of S2 ⟨by decide, by decide⟩) rfl (Sto.ofV Ar2 qa2 F_6 (Ins.of_exa F_3 (hw _ (List.mem_of_getElem? (i := 80) rfl)))) (g := (mkF m 14 #[.val (.ref a1), .val (.ref x), .val (.ref b), .val (.int (1 : Int32))] [(.ref x), (.int (1 : Int32)), (.ref b)])) rfl rfl (hb hby d9_14)
  have g3 : Exa Z h2 a1 "java/util/ArrayList" := F_0.wr W2
  have g4 : Fld Z h2 a1 "java/util/ArrayList" "elementData" "[Ljava/lang/Object;" (.ref b) := F_1.other W2 (Or.inl n_a1_b)
  have g5 : Fld Z h2 a1 "java/util/ArrayList" "size" "I" (.int (1 : Int32)) := F_2.other W2 (Or.inl n_a1_b)
  have g6 : Exa Z h2 x "com/example/kempt_cursor/kemptcursor/Keyed" := F_3.wr W2
  have g7 : Arv Z h2 b kb (.object "java/lang/Object") (10 : Int32) [(.ref y0), (.ref x), .null, .null, .null, .null, .null, .null, .null, .null] .null := Arv.set Ar2 qa2 S2 M2 H2 U2 rfl W2 1 rfl (Nat.le_of_ble_eq_true rfl)
  have g8 : Exa Z h2 b "[Ljava/lang/Object;" := F_5.wr W2
  have g9 : Fld Z h2 a1 "java/util/AbstractList" "modCount" "I" mc := F_7.other W2 (Or.inl n_a1_b)
  have K10 : Keep h0 h2 [a1, b] := K0.wr W2 (Or.inl (List.mem_of_getElem? (i := 1) rfl))
  have N2 := Fr.snoc X2 N0 o_b
  have Z2 : n0 ≤ h2.size := (Nat.le_trans Z0 (Nat.le_of_eq W2.size.symm))
  refine own_step (T' := T2) (g' := (mkF m 15 #[.val (.ref a1), .val (.ref x), .val (.ref b), .val (.int (1 : Int32))] [])) st2 ?_
  refine own_step (T' := T2) (g' := (mkF m 16 #[.val (.ref a1), .val (.ref x), .val (.ref b), .val (.int (1 : Int32))] [(.ref a1)])) (fun t k => XS.aloadN X2.here hx rfl (hb hby d9_15) rfl rfl k) ?_
  refine own_step (T' := T2) (g' := (mkF m 17 #[.val (.ref a1), .val (.ref x), .val (.ref b), .val (.int (1 : Int32))] [(.int (1 : Int32)), (.ref a1)])) (fun t k => XS.iloadN X2.here hx rfl (hb hby d9_16) rfl k) ?_
  refine own_step (T' := T2) (g' := (mkF m 18 #[.val (.ref a1), .val (.ref x), .val (.ref b), .val (.int (1 : Int32))] [(.int (1 : Int32)), (.int (1 : Int32)), (.ref a1)])) (fun t k => XS.iconst X2.here hx rfl (hb hby d9_17) k) ?_
  refine own_step (T' := T2) (g' := (mkF m 19 #[.val (.ref a1), .val (.ref x), .val (.ref b), .val (.int (1 : Int32))] [(.int (2 : Int32)), (.ref a1)])) (fun t k => XS.iadd X2.here hx rfl (hb hby d9_18) rfl k) ?_
  obtain ⟨T11, h11, X11, e11, W11, st11⟩ := putF X2 hx hZ hown (host := "") (Or.inl (hw _ (List.mem_of_getElem? (i := 57) rfl))) Via.refl e2 g5 g3 (Or.inl (hw _ (List.mem_of_getElem? (i := 58) rfl))) (hw _ (List.mem_of_getElem? (i := 2) rfl)) (ty := .int) (by decide) rfl rfl (g := (mkF m 19 #[.val (.ref a1), .val (.ref x), .val (.ref b), .val (.int (1 : Int32))] [(.int (2 : Int32)), (.ref a1)])) rfl rfl (hb hby d9_19)
  have g12 : Exa Z h11 a1 "java/util/ArrayList" := g3.wr W11
  have g13 : Fld Z h11 a1 "java/util/ArrayList" "elementData" "[Ljava/lang/Object;" (.ref b) := g4.other W11 (Or.inr (slot_ne (Or.inl (hw _ (List.mem_of_getElem? (i := 26) rfl))) (Or.inl (hw _ (List.mem_of_getElem? (i := 58) rfl))) (by decide) (t := .array (.object "java/lang/Object")) (t' := .int) (by decide) (by decide)))
  have g14 : Fld Z h11 a1 "java/util/ArrayList" "size" "I" (.int (2 : Int32)) := g5.same W11
  have g15 : Exa Z h11 x "com/example/kempt_cursor/kemptcursor/Keyed" := g6.wr W11
  have g16 : Arv Z h11 b kb (.object "java/lang/Object") (10 : Int32) [(.ref y0), (.ref x), .null, .null, .null, .null, .null, .null, .null, .null] .null := g7.other W11 (Ne.symm n_a1_b)
  have g17 : Exa Z h11 b "[Ljava/lang/Object;" := g8.wr W11
  have g18 : Fld Z h11 a1 "java/util/AbstractList" "modCount" "I" mc := g9.other W11 (Or.inr (slot_ne (Or.inl (hw _ (List.mem_of_getElem? (i := 23) rfl))) (Or.inl (hw _ (List.mem_of_getElem? (i := 58) rfl))) (by decide) (t := .int) (t' := .int) (by decide) (by decide)))
  have K19 : Keep h0 h11 [a1, b] := K10.wr W11 (Or.inl (List.mem_of_getElem? (i := 0) rfl))
  have N11 := Fr.snoc X11 N2 o_a1
  have Z11 : n0 ≤ h11.size := (Nat.le_trans Z2 (Nat.le_of_eq W11.size.symm))
  refine own_step (T' := T11) (g' := (mkF m 22 #[.val (.ref a1), .val (.ref x), .val (.ref b), .val (.int (1 : Int32))] [])) st11 ?_
  refine own_rV X11 hx hlk Bd.returns (hb hby d9_22) ?_ (by decide) (by decide)
  rw [e11]
  exact ⟨rfl, N11, K19, g12, g13, g14, g16, g17, F_6, g18⟩
def Q_ad1_1 (Z : State) (a1 : Addr) (x : Addr) (b : Addr) (kb : ClassId) (y0 : Addr) (h0 : Heap) (n0 : Nat) (v : Option Value) (h : Heap) (L : List Loc) : Prop := v = some (.int (1 : Int32)) ∧ Fr n0 L ∧ Keep h0 h [a1, b] ∧ Exa Z h a1 "java/util/ArrayList" ∧ Fld Z h a1 "java/util/ArrayList" "elementData" "[Ljava/lang/Object;" (.ref b) ∧ Fld Z h a1 "java/util/ArrayList" "size" "I" (.int (2 : Int32)) ∧ Arv Z h b kb (.object "java/lang/Object") (10 : Int32) [(.ref y0), (.ref x), .null, .null, .null, .null, .null, .null, .null, .null] .null ∧ Exa Z h b "[Ljava/lang/Object;" ∧ Ovr Z kb "java/lang/Object" ∧ Fld Z h a1 "java/util/AbstractList" "modCount" "I" (.int (2 : Int32))
theorem ef_rm_ad1_1 (m : MethodId) (x0 : Addr) (x1 : Addr) : entryFrame m #[(.ref x0), (.ref x1)] 2 = mkF m 0 #[.val (.ref x0), .val (.ref x1)] [] := by first | (simp [entryFrame, mkF, argsToLocals, Value.category]; done) | rfl | (simp [entryFrame, mkF, argsToLocals, Value.category] <;> rfl)
set_option maxRecDepth 65536 in
set_option maxHeartbeats 40000000 in
theorem rm_ad1_1 (l : Launch) (Z : State) (a0 : Array Value) (hw : ∀ d ∈ tables_1, d.before a0 Z = true) (ws : List Jvm.Cond) (a1 : Addr) (x : Addr) (b : Addr) (kb : ClassId) (y0 : Addr) (h0 : Heap) (n0 : Nat) (Z0 : n0 ≤ h0.size) (F_0 : Exa Z h0 a1 "java/util/ArrayList") (F_1 : Fld Z h0 a1 "java/util/ArrayList" "elementData" "[Ljava/lang/Object;" (.ref b)) (F_2 : Fld Z h0 a1 "java/util/ArrayList" "size" "I" (.int (1 : Int32))) (F_3 : Exa Z h0 x "com/example/kempt_cursor/kemptcursor/Keyed") (F_4 : Arv Z h0 b kb (.object "java/lang/Object") (10 : Int32) [(.ref y0), .null, .null, .null, .null, .null, .null, .null, .null, .null] .null) (F_5 : Exa Z h0 b "[Ljava/lang/Object;") (F_6 : Ovr Z kb "java/lang/Object") (F_7 : Fld Z h0 a1 "java/util/AbstractList" "modCount" "I" (.int (1 : Int32))) (o_a1 : n0 ≤ a1) (o_b : n0 ≤ b) (n_a1_x : a1 ≠ x) (n_a1_b : a1 ≠ b) (n_x_b : x ≠ b) :
    MetFree l (⟨"java/util/ArrayList", "add", "(Ljava/lang/Object;)Z"⟩ : MethodName) (head1 (Jvm.Cond.code (⟨"java/util/ArrayList", "add", "(Ljava/lang/Object;)Z"⟩ : MethodName) jdk_38_method_25_code 2 (some (.boolean)) :: ws) ({ frames := 1, cells := 0, slots := 0, locals := 15 } : Room)) (fun a U => a = #[(.ref a1), (.ref x)] ∧ Z.Warmed39 U.vm ∧ U.heap = h0) (fun _ _ _ _ _ => True) (fun _ U o U' => ∃ v L, o = .returned v ∧ (Q_ad1_1 Z a1 x b kb y0 h0 n0) v U'.heap L ∧ FrameEnd U o U' L ({ frames := 1, cells := 0, slots := 0, locals := 15 } : Room).cells ({ frames := 1, cells := 0, slots := 0, locals := 15 } : Room).slots) := by
  refine MetFree.of_bodySF (plainFor_of_name pn_7) hisR ?_
  intro p e s m args below meth c s₁ Bd hml0 hP hK
  obtain ⟨rfl, hZ, hh⟩ := hP
  have hx := Bd.exec
  have hby := Bd.bytes
  have hlk : meth.locks = false := BodyLoose.notSynchronized Bd
  have hml : c.maxLocals = 2 := hml0
  have hown : s.vm.findClass "java/util/ArrayList" = some m.cls := findClass_of_methodNamed Bd.named
  have hnm := (name_of_methodNamed Bd.named Bd.method).1
  have X0 : Stand p l e ({ frames := 1, cells := 0, slots := 0, locals := 15 } : Room) s m #[(.ref a1), (.ref x)] below meth c s₁ [] 0 0 := Stand.of_body Bd
  have e0 : s₁.heap = h0 := by rw [← hh, Bd.state]; rfl
  have N0 := Fr.nil n0
  show own_Go p e below s (Q_ad1_1 Z a1 x b kb y0 h0 n0) ({ frames := 1, cells := 0, slots := 0, locals := 15 } : Room).cells ({ frames := 1, cells := 0, slots := 0, locals := 15 } : Room).slots s₁ (entryFrame m #[(.ref a1), (.ref x)] 2)
  refine own_cast (g' := (mkF m 0 #[.val (.ref a1), .val (.ref x)] [])) (ef_rm_ad1_1 m a1 x) ?_
  have K0 : Keep h0 h0 [a1, b] := Keep.refl _ _
  refine own_step (T' := s₁) (g' := (mkF m 1 #[.val (.ref a1), .val (.ref x)] [(.ref a1)])) (fun t k => XS.aloadN X0.here hx rfl (hb hby d8_0) rfl rfl k) ?_
  refine own_step (T' := s₁) (g' := (mkF m 2 #[.val (.ref a1), .val (.ref x)] [(.ref a1), (.ref a1)])) (fun t k => XS.dup X0.here hx rfl (hb hby d8_1) rfl rfl k) ?_
  obtain ⟨T1, X1, e1, st1⟩ := getF X0 hx hZ hown (host := "") (Or.inl (hw _ (List.mem_of_getElem? (i := 55) rfl))) (Via.of (hw _ (List.mem_of_getElem? (i := 56) rfl))) e0 F_7 (g := (mkF m 2 #[.val (.ref a1), .val (.ref x)] [(.ref a1), (.ref a1)])) rfl rfl (hb hby d8_2)
  refine own_step (T' := T1) (g' := (mkF m 5 #[.val (.ref a1), .val (.ref x)] [(.int (1 : Int32)), (.ref a1)])) st1 ?_
  refine own_step (T' := T1) (g' := (mkF m 6 #[.val (.ref a1), .val (.ref x)] [(.int (1 : Int32)), (.int (1 : Int32)), (.ref a1)])) (fun t k => XS.iconst X1.here hx rfl (hb hby d8_5) k) ?_
  refine own_step (T' := T1) (g' := (mkF m 7 #[.val (.ref a1), .val (.ref x)] [(.int (2 : Int32)), (.ref a1)])) (fun t k => XS.iadd X1.here hx rfl (hb hby d8_6) rfl k) ?_
  obtain ⟨T2, h2, X2, e2, W2, st2⟩ := putF X1 hx hZ hown (host := "") (Or.inl (hw _ (List.mem_of_getElem? (i := 55) rfl))) (Via.of (hw _ (List.mem_of_getElem? (i := 56) rfl))) e1 F_7 F_0 (Or.inl (hw _ (List.mem_of_getElem? (i := 23) rfl))) (hw _ (List.mem_of_getElem? (i := 2) rfl)) (ty := .int) (by decide) rfl rfl (g := (mkF m 7 #[.val (.ref a1), .val (.ref x)] [(.int (2 : Int32)), (.ref a1)])) rfl rfl (hb hby d8_7)
  have g3 : Exa Z h2 a1 "java/util/ArrayList" := F_0.wr W2
  have g4 : Fld Z h2 a1 "java/util/ArrayList" "elementData" "[Ljava/lang/Object;" (.ref b) := F_1.other W2 (Or.inr (slot_ne (Or.inl (hw _ (List.mem_of_getElem? (i := 26) rfl))) (Or.inl (hw _ (List.mem_of_getElem? (i := 23) rfl))) (by decide) (t := .array (.object "java/lang/Object")) (t' := .int) (by decide) (by decide)))
  have g5 : Fld Z h2 a1 "java/util/ArrayList" "size" "I" (.int (1 : Int32)) := F_2.other W2 (Or.inr (slot_ne (Or.inl (hw _ (List.mem_of_getElem? (i := 58) rfl))) (Or.inl (hw _ (List.mem_of_getElem? (i := 23) rfl))) (by decide) (t := .int) (t' := .int) (by decide) (by decide)))
  have g6 : Exa Z h2 x "com/example/kempt_cursor/kemptcursor/Keyed" := F_3.wr W2
  have g7 : Arv Z h2 b kb (.object "java/lang/Object") (10 : Int32) [(.ref y0), .null, .null, .null, .null, .null, .null, .null, .null, .null] .null := F_4.other W2 (Ne.symm n_a1_b)
  have g8 : Exa Z h2 b "[Ljava/lang/Object;" := F_5.wr W2
  have g9 : Fld Z h2 a1 "java/util/AbstractList" "modCount" "I" (.int (2 : Int32)) := F_7.same W2
  have K10 : Keep h0 h2 [a1, b] := K0.wr W2 (Or.inl (List.mem_of_getElem? (i := 0) rfl))
  have N2 := Fr.snoc X2 N0 o_a1
  have Z2 : n0 ≤ h2.size := (Nat.le_trans Z0 (Nat.le_of_eq W2.size.symm))
  refine own_step (T' := T2) (g' := (mkF m 10 #[.val (.ref a1), .val (.ref x)] [])) st2 ?_
  refine own_step (T' := T2) (g' := (mkF m 11 #[.val (.ref a1), .val (.ref x)] [(.ref a1)])) (fun t k => XS.aloadN X2.here hx rfl (hb hby d8_10) rfl rfl k) ?_
  refine own_step (T' := T2) (g' := (mkF m 12 #[.val (.ref a1), .val (.ref x)] [(.ref x), (.ref a1)])) (fun t k => XS.aloadN X2.here hx rfl (hb hby d8_11) rfl rfl k) ?_
  refine own_step (T' := T2) (g' := (mkF m 13 #[.val (.ref a1), .val (.ref x)] [(.ref a1), (.ref x), (.ref a1)])) (fun t k => XS.aloadN X2.here hx rfl (hb hby d8_12) rfl rfl k) ?_
  obtain ⟨T11, X11, e11, st11⟩ := getF X2 hx hZ hown (host := "") (Or.inl (hw _ (List.mem_of_getElem? (i := 25) rfl))) Via.refl e2 g4 (g := (mkF m 13 #[.val (.ref a1), .val (.ref x)] [(.ref a1), (.ref x), (.ref a1)])) rfl rfl (hb hby d8_13)
  refine own_step (T' := T11) (g' := (mkF m 16 #[.val (.ref a1), .val (.ref x)] [(.ref b), (.ref x), (.ref a1)])) st11 ?_
  refine own_step (T' := T11) (g' := (mkF m 17 #[.val (.ref a1), .val (.ref x)] [(.ref a1), (.ref b), (.ref x), (.ref a1)])) (fun t k => XS.aloadN X11.here hx rfl (hb hby d8_16) rfl rfl k) ?_
  obtain ⟨T12, X12, e12, st12⟩ := getF X11 hx hZ hown (host := "") (Or.inl (hw _ (List.mem_of_getElem? (i := 57) rfl))) Via.refl e11 g5 (g := (mkF m 17 #[.val (.ref a1), .val (.ref x)] [(.ref a1), (.ref b), (.ref x), (.ref a1)])) rfl rfl (hb hby d8_17)
  refine own_step (T' := T12) (g' := (mkF m 20 #[.val (.ref a1), .val (.ref x)] [(.int (1 : Int32)), (.ref b), (.ref x), (.ref a1)])) st12 ?_
  obtain ⟨cq23, q23a, q23b⟩ := g3.cell
  obtain ⟨_, _, ⟨T22, L22, k22, n22⟩, -, X22, ⟨Lc22, hQ22, lq22, yq22, zq22⟩, st22⟩ := X12.privateBack hx (y := (⟨"java/util/ArrayList", "add", "(Ljava/lang/Object;[Ljava/lang/Object;I)V"⟩ : MethodName)) hown (mvT hZ (hw _ (List.mem_of_getElem? (i := 59) rfl))) (mvT hZ (hw _ (List.mem_of_getElem? (i := 60) rfl))) (mvT hZ (hw _ (List.mem_of_getElem? (i := 62) rfl))) (Cond.privateMethod_at (args := #[]) (mvP hZ (hw _ (List.mem_of_getElem? (i := 61) rfl)))) (mvT hZ (hw _ (List.mem_of_getElem? (i := 63) rfl))) (by decide) (backOf (W := 0) (rm_ad3_1 l Z a0 hw [] a1 x b kb y0 (.int (2 : Int32)) h2 n0 Z2 g3 g4 g5 g6 g7 g8 F_6 g9 o_a1 o_b n_a1_x n_a1_b n_x_b) hZ (hw _ (List.mem_of_getElem? (i := 63) rfl)) (hw _ (List.mem_of_getElem? (i := 3) rfl)) (by decide) (by decide)) (g := (mkF m 20 #[.val (.ref a1), .val (.ref x)] [(.int (1 : Int32)), (.ref b), (.ref x), (.ref a1)])) rfl (by rw [hml]; rfl) (Steps.refl _) (a := a1) (cell := cq23) (by rw [e12]; exact q23a) q23b (argsL := [(.ref x), (.ref b), (.int (1 : Int32))]) (rest := []) (lenOf pd_5 rfl) rfl (by show 2 * 0 + _ ≤ _; exact Nat.le_of_eq rfl) (hb hby d8_20) (fun _ _ => ⟨rfl, e12, (by decide : 0 + 0 ≤ _), (by decide : 0 + 0 ≤ _)⟩)
  dsimp only [Pt.U, Pt.locs, Pt.cells, Pt.slots] at X22 lq22 yq22 zq22 st22 hQ22
  subst lq22 yq22 zq22
  obtain ⟨rfl, Nq22, K14, g15, g16, g17, g18, g19, g20, g21⟩ := hQ22
  have N22 := Fr.app N2 Nq22
  have g24 : Exa Z T22.heap x "com/example/kempt_cursor/kemptcursor/Keyed" := g6.keep K14
  have Z14 : n0 ≤ T22.heap.size := (Nat.le_trans Z2 K14.1)
  have K25 : Keep h0 T22.heap [a1, b] := K10.trans K14 (allS (P := fun x => x ∈ [a1, b] ∨ h0.size ≤ x) (Or.inl (List.mem_of_getElem? (i := 0) rfl)) (allS (P := fun x => x ∈ [a1, b] ∨ h0.size ≤ x) (Or.inl (List.mem_of_getElem? (i := 1) rfl)) all0))
  refine own_tr (T' := T22) (g' := (mkF m 23 #[.val (.ref a1), .val (.ref x)] [])) st22 ?_
  refine own_step (T' := T22) (g' := (mkF m 24 #[.val (.ref a1), .val (.ref x)] [(.int (1 : Int32))])) (fun t k => XS.iconst X22.here hx rfl (hb hby d8_23) k) ?_
  refine own_rN X22 hx hlk Bd.returns (by simp) (hb hby d8_24) ?_ (by decide) (by decide)
  exact ⟨rfl, N22, K25, g15, g16, g17, g18, g19, F_6, g21⟩
def Q_ad3_2 (Z : State) (a1 : Addr) (x : Addr) (b : Addr) (kb : ClassId) (y0 : Addr) (y1 : Addr) (mc : Value) (h0 : Heap) (n0 : Nat) (v : Option Value) (h : Heap) (L : List Loc) : Prop := v = none ∧ Fr n0 L ∧ Keep h0 h [a1, b] ∧ Exa Z h a1 "java/util/ArrayList" ∧ Fld Z h a1 "java/util/ArrayList" "elementData" "[Ljava/lang/Object;" (.ref b) ∧ Fld Z h a1 "java/util/ArrayList" "size" "I" (.int (3 : Int32)) ∧ Arv Z h b kb (.object "java/lang/Object") (10 : Int32) [(.ref y0), (.ref y1), (.ref x), .null, .null, .null, .null, .null, .null, .null] .null ∧ Exa Z h b "[Ljava/lang/Object;" ∧ Ovr Z kb "java/lang/Object" ∧ Fld Z h a1 "java/util/AbstractList" "modCount" "I" mc
theorem ef_rm_ad3_2 (m : MethodId) (x0 : Addr) (x1 : Addr) (x2 : Addr) (x3 : Int32) : entryFrame m #[(.ref x0), (.ref x1), (.ref x2), (.int x3)] 4 = mkF m 0 #[.val (.ref x0), .val (.ref x1), .val (.ref x2), .val (.int x3)] [] := by first | (simp [entryFrame, mkF, argsToLocals, Value.category]; done) | rfl | (simp [entryFrame, mkF, argsToLocals, Value.category] <;> rfl)
set_option maxRecDepth 65536 in
set_option maxHeartbeats 40000000 in
theorem rm_ad3_2 (l : Launch) (Z : State) (a0 : Array Value) (hw : ∀ d ∈ tables_1, d.before a0 Z = true) (ws : List Jvm.Cond) (a1 : Addr) (x : Addr) (b : Addr) (kb : ClassId) (y0 : Addr) (y1 : Addr) (mc : Value) (h0 : Heap) (n0 : Nat) (Z0 : n0 ≤ h0.size) (F_0 : Exa Z h0 a1 "java/util/ArrayList") (F_1 : Fld Z h0 a1 "java/util/ArrayList" "elementData" "[Ljava/lang/Object;" (.ref b)) (F_2 : Fld Z h0 a1 "java/util/ArrayList" "size" "I" (.int (2 : Int32))) (F_3 : Exa Z h0 x "com/example/kempt_cursor/kemptcursor/Keyed") (F_4 : Arv Z h0 b kb (.object "java/lang/Object") (10 : Int32) [(.ref y0), (.ref y1), .null, .null, .null, .null, .null, .null, .null, .null] .null) (F_5 : Exa Z h0 b "[Ljava/lang/Object;") (F_6 : Ovr Z kb "java/lang/Object") (F_7 : Fld Z h0 a1 "java/util/AbstractList" "modCount" "I" mc) (o_a1 : n0 ≤ a1) (o_b : n0 ≤ b) (n_a1_x : a1 ≠ x) (n_a1_b : a1 ≠ b) (n_x_b : x ≠ b) :
    MetFree l (⟨"java/util/ArrayList", "add", "(Ljava/lang/Object;[Ljava/lang/Object;I)V"⟩ : MethodName) (head1 (Jvm.Cond.code (⟨"java/util/ArrayList", "add", "(Ljava/lang/Object;[Ljava/lang/Object;I)V"⟩ : MethodName) jdk_38_method_24_code 4 none :: ws) ({ frames := 0, cells := 0, slots := 0, locals := 0 } : Room)) (fun a U => a = #[(.ref a1), (.ref x), (.ref b), (.int (2 : Int32))] ∧ Z.Warmed39 U.vm ∧ U.heap = h0) (fun _ _ _ _ _ => True) (fun _ U o U' => ∃ v L, o = .returned v ∧ (Q_ad3_2 Z a1 x b kb y0 y1 mc h0 n0) v U'.heap L ∧ FrameEnd U o U' L ({ frames := 0, cells := 0, slots := 0, locals := 0 } : Room).cells ({ frames := 0, cells := 0, slots := 0, locals := 0 } : Room).slots) := by
  refine MetFree.of_bodySF (plainFor_of_name pn_7) hisR ?_
  intro p e s m args below meth c s₁ Bd hml0 hP hK
  obtain ⟨rfl, hZ, hh⟩ := hP
  have hx := Bd.exec
  have hby := Bd.bytes
  have hlk : meth.locks = false := BodyLoose.notSynchronized Bd
  have hml : c.maxLocals = 4 := hml0
  have hown : s.vm.findClass "java/util/ArrayList" = some m.cls := findClass_of_methodNamed Bd.named
  have hnm := (name_of_methodNamed Bd.named Bd.method).1
  have X0 : Stand p l e ({ frames := 0, cells := 0, slots := 0, locals := 0 } : Room) s m #[(.ref a1), (.ref x), (.ref b), (.int (2 : Int32))] below meth c s₁ [] 0 0 := Stand.of_body Bd
  have e0 : s₁.heap = h0 := by rw [← hh, Bd.state]; rfl
  have N0 := Fr.nil n0
  show own_Go p e below s (Q_ad3_2 Z a1 x b kb y0 y1 mc h0 n0) ({ frames := 0, cells := 0, slots := 0, locals := 0 } : Room).cells ({ frames := 0, cells := 0, slots := 0, locals := 0 } : Room).slots s₁ (entryFrame m #[(.ref a1), (.ref x), (.ref b), (.int (2 : Int32))] 4)
  refine own_cast (g' := (mkF m 0 #[.val (.ref a1), .val (.ref x), .val (.ref b), .val (.int (2 : Int32))] [])) (ef_rm_ad3_2 m a1 x b (2 : Int32)) ?_
  have K0 : Keep h0 h0 [a1, b] := Keep.refl _ _
  refine own_step (T' := s₁) (g' := (mkF m 1 #[.val (.ref a1), .val (.ref x), .val (.ref b), .val (.int (2 : Int32))] [(.int (2 : Int32))])) (fun t k => XS.iloadN X0.here hx rfl (hb hby d9_0) rfl k) ?_
  refine own_step (T' := s₁) (g' := (mkF m 2 #[.val (.ref a1), .val (.ref x), .val (.ref b), .val (.int (2 : Int32))] [(.ref b), (.int (2 : Int32))])) (fun t k => XS.aloadN X0.here hx rfl (hb hby d9_1) rfl rfl k) ?_
  obtain ⟨cl1, Ar1, qa1, S1, M1, H1, U1⟩ := id F_4
  have ln1 := len_of S1 M1
  refine own_step (T' := s₁) (g' := (mkF m 3 #[.val (.ref a1), .val (.ref x), .val (.ref b), .val (.int (2 : Int32))] [(.int (10 : Int32)), (.int (2 : Int32))])) (fun t k => X0.arraylength hx (cell := cl1) (by rw [e0]; exact Ar1.1) (State.isArrayOf_alike hZ.alike Ar1.2.1) (g := (mkF m 2 #[.val (.ref a1), .val (.ref x), .val (.ref b), .val (.int (2 : Int32))] [(.ref b), (.int (2 : Int32))])) rfl rfl (hb hby d9_2) t (by rw [ln1]; exact k)) ?_
  refine own_step (T' := s₁) (g' := (mkF m 11 #[.val (.ref a1), .val (.ref x), .val (.ref b), .val (.int (2 : Int32))] [])) (fun t k => XS.icmpYes X0.here hx rfl (pc0 := 3) (pc' := 11) rfl (hb hby d9_3) rfl (feq (by decide : ¬ ((2 : Int32) = (10 : Int32)))).2 (by decide) (by decide) k) ?_
  refine own_step (T' := s₁) (g' := (mkF m 12 #[.val (.ref a1), .val (.ref x), .val (.ref b), .val (.int (2 : Int32))] [(.ref b)])) (fun t k => XS.aloadN X0.here hx rfl (hb hby d9_11) rfl rfl k) ?_
  refine own_step (T' := s₁) (g' := (mkF m 13 #[.val (.ref a1), .val (.ref x), .val (.ref b), .val (.int (2 : Int32))] [(.int (2 : Int32)), (.ref b)])) (fun t k => XS.iloadN X0.here hx rfl (hb hby d9_12) rfl k) ?_
  refine own_step (T' := s₁) (g' := (mkF m 14 #[.val (.ref a1), .val (.ref x), .val (.ref b), .val (.int (2 : Int32))] [(.ref x), (.int (2 : Int32)), (.ref b)])) (fun t k => XS.aloadN X0.here hx rfl (hb hby d9_13) rfl rfl k) ?_
  obtain ⟨cl2, Ar2, qa2, S2, M2, H2, U2⟩ := id F_4
  obtain ⟨T2, h2, X2, e2, W2, st2⟩ := stR X0 hx hZ e0 Ar2 (j := (2 : Int32)) (inb_of S2 ⟨by decide, by decide⟩) rfl (Sto.ofV Ar2 qa2 F_6 (Ins.of_exa F_3 (hw _ (List.mem_of_getElem? (i := 80) rfl)))) (g := (mkF m 14 #[.val (.ref a1), .val (.ref x), .val (.ref b), .val (.int (2 : Int32))] [(.ref x), (.int (2 : Int32)), (.ref b)])) rfl rfl (hb hby d9_14)
  have g3 : Exa Z h2 a1 "java/util/ArrayList" := F_0.wr W2
  have g4 : Fld Z h2 a1 "java/util/ArrayList" "elementData" "[Ljava/lang/Object;" (.ref b) := F_1.other W2 (Or.inl n_a1_b)
  have g5 : Fld Z h2 a1 "java/util/ArrayList" "size" "I" (.int (2 : Int32)) := F_2.other W2 (Or.inl n_a1_b)
  have g6 : Exa Z h2 x "com/example/kempt_cursor/kemptcursor/Keyed" := F_3.wr W2
  have g7 : Arv Z h2 b kb (.object "java/lang/Object") (10 : Int32) [(.ref y0), (.ref y1), (.ref x), .null, .null, .null, .null, .null, .null, .null] .null := Arv.set Ar2 qa2 S2 M2 H2 U2 rfl W2 2 rfl (Nat.le_of_ble_eq_true rfl)
  have g8 : Exa Z h2 b "[Ljava/lang/Object;" := F_5.wr W2
  have g9 : Fld Z h2 a1 "java/util/AbstractList" "modCount" "I" mc := F_7.other W2 (Or.inl n_a1_b)
  have K10 : Keep h0 h2 [a1, b] := K0.wr W2 (Or.inl (List.mem_of_getElem? (i := 1) rfl))
  have N2 := Fr.snoc X2 N0 o_b
  have Z2 : n0 ≤ h2.size := (Nat.le_trans Z0 (Nat.le_of_eq W2.size.symm))
  refine own_step (T' := T2) (g' := (mkF m 15 #[.val (.ref a1), .val (.ref x), .val (.ref b), .val (.int (2 : Int32))] [])) st2 ?_
  refine own_step (T' := T2) (g' := (mkF m 16 #[.val (.ref a1), .val (.ref x), .val (.ref b), .val (.int (2 : Int32))] [(.ref a1)])) (fun t k => XS.aloadN X2.here hx rfl (hb hby d9_15) rfl rfl k) ?_
  refine own_step (T' := T2) (g' := (mkF m 17 #[.val (.ref a1), .val (.ref x), .val (.ref b), .val (.int (2 : Int32))] [(.int (2 : Int32)), (.ref a1)])) (fun t k => XS.iloadN X2.here hx rfl (hb hby d9_16) rfl k) ?_
  refine own_step (T' := T2) (g' := (mkF m 18 #[.val (.ref a1), .val (.ref x), .val (.ref b), .val (.int (2 : Int32))] [(.int (1 : Int32)), (.int (2 : Int32)), (.ref a1)])) (fun t k => XS.iconst X2.here hx rfl (hb hby d9_17) k) ?_
  refine own_step (T' := T2) (g' := (mkF m 19 #[.val (.ref a1), .val (.ref x), .val (.ref b), .val (.int (2 : Int32))] [(.int (3 : Int32)), (.ref a1)])) (fun t k => XS.iadd X2.here hx rfl (hb hby d9_18) rfl k) ?_
  obtain ⟨T11, h11, X11, e11, W11, st11⟩ := putF X2 hx hZ hown (host := "") (Or.inl (hw _ (List.mem_of_getElem? (i := 57) rfl))) Via.refl e2 g5 g3 (Or.inl (hw _ (List.mem_of_getElem? (i := 58) rfl))) (hw _ (List.mem_of_getElem? (i := 2) rfl)) (ty := .int) (by decide) rfl rfl (g := (mkF m 19 #[.val (.ref a1), .val (.ref x), .val (.ref b), .val (.int (2 : Int32))] [(.int (3 : Int32)), (.ref a1)])) rfl rfl (hb hby d9_19)
  have g12 : Exa Z h11 a1 "java/util/ArrayList" := g3.wr W11
  have g13 : Fld Z h11 a1 "java/util/ArrayList" "elementData" "[Ljava/lang/Object;" (.ref b) := g4.other W11 (Or.inr (slot_ne (Or.inl (hw _ (List.mem_of_getElem? (i := 26) rfl))) (Or.inl (hw _ (List.mem_of_getElem? (i := 58) rfl))) (by decide) (t := .array (.object "java/lang/Object")) (t' := .int) (by decide) (by decide)))
  have g14 : Fld Z h11 a1 "java/util/ArrayList" "size" "I" (.int (3 : Int32)) := g5.same W11
  have g15 : Exa Z h11 x "com/example/kempt_cursor/kemptcursor/Keyed" := g6.wr W11
  have g16 : Arv Z h11 b kb (.object "java/lang/Object") (10 : Int32) [(.ref y0), (.ref y1), (.ref x), .null, .null, .null, .null, .null, .null, .null] .null := g7.other W11 (Ne.symm n_a1_b)
  have g17 : Exa Z h11 b "[Ljava/lang/Object;" := g8.wr W11
  have g18 : Fld Z h11 a1 "java/util/AbstractList" "modCount" "I" mc := g9.other W11 (Or.inr (slot_ne (Or.inl (hw _ (List.mem_of_getElem? (i := 23) rfl))) (Or.inl (hw _ (List.mem_of_getElem? (i := 58) rfl))) (by decide) (t := .int) (t' := .int) (by decide) (by decide)))
  have K19 : Keep h0 h11 [a1, b] := K10.wr W11 (Or.inl (List.mem_of_getElem? (i := 0) rfl))
  have N11 := Fr.snoc X11 N2 o_a1
  have Z11 : n0 ≤ h11.size := (Nat.le_trans Z2 (Nat.le_of_eq W11.size.symm))
  refine own_step (T' := T11) (g' := (mkF m 22 #[.val (.ref a1), .val (.ref x), .val (.ref b), .val (.int (2 : Int32))] [])) st11 ?_
  refine own_rV X11 hx hlk Bd.returns (hb hby d9_22) ?_ (by decide) (by decide)
  rw [e11]
  exact ⟨rfl, N11, K19, g12, g13, g14, g16, g17, F_6, g18⟩
def Q_ad1_2 (Z : State) (a1 : Addr) (x : Addr) (b : Addr) (kb : ClassId) (y0 : Addr) (y1 : Addr) (h0 : Heap) (n0 : Nat) (v : Option Value) (h : Heap) (L : List Loc) : Prop := v = some (.int (1 : Int32)) ∧ Fr n0 L ∧ Keep h0 h [a1, b] ∧ Exa Z h a1 "java/util/ArrayList" ∧ Fld Z h a1 "java/util/ArrayList" "elementData" "[Ljava/lang/Object;" (.ref b) ∧ Fld Z h a1 "java/util/ArrayList" "size" "I" (.int (3 : Int32)) ∧ Arv Z h b kb (.object "java/lang/Object") (10 : Int32) [(.ref y0), (.ref y1), (.ref x), .null, .null, .null, .null, .null, .null, .null] .null ∧ Exa Z h b "[Ljava/lang/Object;" ∧ Ovr Z kb "java/lang/Object" ∧ Fld Z h a1 "java/util/AbstractList" "modCount" "I" (.int (3 : Int32))
theorem ef_rm_ad1_2 (m : MethodId) (x0 : Addr) (x1 : Addr) : entryFrame m #[(.ref x0), (.ref x1)] 2 = mkF m 0 #[.val (.ref x0), .val (.ref x1)] [] := by first | (simp [entryFrame, mkF, argsToLocals, Value.category]; done) | rfl | (simp [entryFrame, mkF, argsToLocals, Value.category] <;> rfl)
set_option maxRecDepth 65536 in
set_option maxHeartbeats 40000000 in
theorem rm_ad1_2 (l : Launch) (Z : State) (a0 : Array Value) (hw : ∀ d ∈ tables_1, d.before a0 Z = true) (ws : List Jvm.Cond) (a1 : Addr) (x : Addr) (b : Addr) (kb : ClassId) (y0 : Addr) (y1 : Addr) (h0 : Heap) (n0 : Nat) (Z0 : n0 ≤ h0.size) (F_0 : Exa Z h0 a1 "java/util/ArrayList") (F_1 : Fld Z h0 a1 "java/util/ArrayList" "elementData" "[Ljava/lang/Object;" (.ref b)) (F_2 : Fld Z h0 a1 "java/util/ArrayList" "size" "I" (.int (2 : Int32))) (F_3 : Exa Z h0 x "com/example/kempt_cursor/kemptcursor/Keyed") (F_4 : Arv Z h0 b kb (.object "java/lang/Object") (10 : Int32) [(.ref y0), (.ref y1), .null, .null, .null, .null, .null, .null, .null, .null] .null) (F_5 : Exa Z h0 b "[Ljava/lang/Object;") (F_6 : Ovr Z kb "java/lang/Object") (F_7 : Fld Z h0 a1 "java/util/AbstractList" "modCount" "I" (.int (2 : Int32))) (o_a1 : n0 ≤ a1) (o_b : n0 ≤ b) (n_a1_x : a1 ≠ x) (n_a1_b : a1 ≠ b) (n_x_b : x ≠ b) :
    MetFree l (⟨"java/util/ArrayList", "add", "(Ljava/lang/Object;)Z"⟩ : MethodName) (head1 (Jvm.Cond.code (⟨"java/util/ArrayList", "add", "(Ljava/lang/Object;)Z"⟩ : MethodName) jdk_38_method_25_code 2 (some (.boolean)) :: ws) ({ frames := 1, cells := 0, slots := 0, locals := 15 } : Room)) (fun a U => a = #[(.ref a1), (.ref x)] ∧ Z.Warmed39 U.vm ∧ U.heap = h0) (fun _ _ _ _ _ => True) (fun _ U o U' => ∃ v L, o = .returned v ∧ (Q_ad1_2 Z a1 x b kb y0 y1 h0 n0) v U'.heap L ∧ FrameEnd U o U' L ({ frames := 1, cells := 0, slots := 0, locals := 15 } : Room).cells ({ frames := 1, cells := 0, slots := 0, locals := 15 } : Room).slots) := by
  refine MetFree.of_bodySF (plainFor_of_name pn_7) hisR ?_
  intro p e s m args below meth c s₁ Bd hml0 hP hK
  obtain ⟨rfl, hZ, hh⟩ := hP
  have hx := Bd.exec
  have hby := Bd.bytes
  have hlk : meth.locks = false := BodyLoose.notSynchronized Bd
  have hml : c.maxLocals = 2 := hml0
  have hown : s.vm.findClass "java/util/ArrayList" = some m.cls := findClass_of_methodNamed Bd.named
  have hnm := (name_of_methodNamed Bd.named Bd.method).1
  have X0 : Stand p l e ({ frames := 1, cells := 0, slots := 0, locals := 15 } : Room) s m #[(.ref a1), (.ref x)] below meth c s₁ [] 0 0 := Stand.of_body Bd
  have e0 : s₁.heap = h0 := by rw [← hh, Bd.state]; rfl
  have N0 := Fr.nil n0
  show own_Go p e below s (Q_ad1_2 Z a1 x b kb y0 y1 h0 n0) ({ frames := 1, cells := 0, slots := 0, locals := 15 } : Room).cells ({ frames := 1, cells := 0, slots := 0, locals := 15 } : Room).slots s₁ (entryFrame m #[(.ref a1), (.ref x)] 2)
  refine own_cast (g' := (mkF m 0 #[.val (.ref a1), .val (.ref x)] [])) (ef_rm_ad1_2 m a1 x) ?_
  have K0 : Keep h0 h0 [a1, b] := Keep.refl _ _
  refine own_step (T' := s₁) (g' := (mkF m 1 #[.val (.ref a1), .val (.ref x)] [(.ref a1)])) (fun t k => XS.aloadN X0.here hx rfl (hb hby d8_0) rfl rfl k) ?_
  refine own_step (T' := s₁) (g' := (mkF m 2 #[.val (.ref a1), .val (.ref x)] [(.ref a1), (.ref a1)])) (fun t k => XS.dup X0.here hx rfl (hb hby d8_1) rfl rfl k) ?_
  obtain ⟨T1, X1, e1, st1⟩ := getF X0 hx hZ hown (host := "") (Or.inl (hw _ (List.mem_of_getElem? (i := 55) rfl))) (Via.of (hw _ (List.mem_of_getElem? (i := 56) rfl))) e0 F_7 (g := (mkF m 2 #[.val (.ref a1), .val (.ref x)] [(.ref a1), (.ref a1)])) rfl rfl (hb hby d8_2)
  refine own_step (T' := T1) (g' := (mkF m 5 #[.val (.ref a1), .val (.ref x)] [(.int (2 : Int32)), (.ref a1)])) st1 ?_
  refine own_step (T' := T1) (g' := (mkF m 6 #[.val (.ref a1), .val (.ref x)] [(.int (1 : Int32)), (.int (2 : Int32)), (.ref a1)])) (fun t k => XS.iconst X1.here hx rfl (hb hby d8_5) k) ?_
  refine own_step (T' := T1) (g' := (mkF m 7 #[.val (.ref a1), .val (.ref x)] [(.int (3 : Int32)), (.ref a1)])) (fun t k => XS.iadd X1.here hx rfl (hb hby d8_6) rfl k) ?_
  obtain ⟨T2, h2, X2, e2, W2, st2⟩ := putF X1 hx hZ hown (host := "") (Or.inl (hw _ (List.mem_of_getElem? (i := 55) rfl))) (Via.of (hw _ (List.mem_of_getElem? (i := 56) rfl))) e1 F_7 F_0 (Or.inl (hw _ (List.mem_of_getElem? (i := 23) rfl))) (hw _ (List.mem_of_getElem? (i := 2) rfl)) (ty := .int) (by decide) rfl rfl (g := (mkF m 7 #[.val (.ref a1), .val (.ref x)] [(.int (3 : Int32)), (.ref a1)])) rfl rfl (hb hby d8_7)
  have g3 : Exa Z h2 a1 "java/util/ArrayList" := F_0.wr W2
  have g4 : Fld Z h2 a1 "java/util/ArrayList" "elementData" "[Ljava/lang/Object;" (.ref b) := F_1.other W2 (Or.inr (slot_ne (Or.inl (hw _ (List.mem_of_getElem? (i := 26) rfl))) (Or.inl (hw _ (List.mem_of_getElem? (i := 23) rfl))) (by decide) (t := .array (.object "java/lang/Object")) (t' := .int) (by decide) (by decide)))
  have g5 : Fld Z h2 a1 "java/util/ArrayList" "size" "I" (.int (2 : Int32)) := F_2.other W2 (Or.inr (slot_ne (Or.inl (hw _ (List.mem_of_getElem? (i := 58) rfl))) (Or.inl (hw _ (List.mem_of_getElem? (i := 23) rfl))) (by decide) (t := .int) (t' := .int) (by decide) (by decide)))
  have g6 : Exa Z h2 x "com/example/kempt_cursor/kemptcursor/Keyed" := F_3.wr W2
  have g7 : Arv Z h2 b kb (.object "java/lang/Object") (10 : Int32) [(.ref y0), (.ref y1), .null, .null, .null, .null, .null, .null, .null, .null] .null := F_4.other W2 (Ne.symm n_a1_b)
  have g8 : Exa Z h2 b "[Ljava/lang/Object;" := F_5.wr W2
  have g9 : Fld Z h2 a1 "java/util/AbstractList" "modCount" "I" (.int (3 : Int32)) := F_7.same W2
  have K10 : Keep h0 h2 [a1, b] := K0.wr W2 (Or.inl (List.mem_of_getElem? (i := 0) rfl))
  have N2 := Fr.snoc X2 N0 o_a1
  have Z2 : n0 ≤ h2.size := (Nat.le_trans Z0 (Nat.le_of_eq W2.size.symm))
  refine own_step (T' := T2) (g' := (mkF m 10 #[.val (.ref a1), .val (.ref x)] [])) st2 ?_
  refine own_step (T' := T2) (g' := (mkF m 11 #[.val (.ref a1), .val (.ref x)] [(.ref a1)])) (fun t k => XS.aloadN X2.here hx rfl (hb hby d8_10) rfl rfl k) ?_
  refine own_step (T' := T2) (g' := (mkF m 12 #[.val (.ref a1), .val (.ref x)] [(.ref x), (.ref a1)])) (fun t k => XS.aloadN X2.here hx rfl (hb hby d8_11) rfl rfl k) ?_
  refine own_step (T' := T2) (g' := (mkF m 13 #[.val (.ref a1), .val (.ref x)] [(.ref a1), (.ref x), (.ref a1)])) (fun t k => XS.aloadN X2.here hx rfl (hb hby d8_12) rfl rfl k) ?_
  obtain ⟨T11, X11, e11, st11⟩ := getF X2 hx hZ hown (host := "") (Or.inl (hw _ (List.mem_of_getElem? (i := 25) rfl))) Via.refl e2 g4 (g := (mkF m 13 #[.val (.ref a1), .val (.ref x)] [(.ref a1), (.ref x), (.ref a1)])) rfl rfl (hb hby d8_13)
  refine own_step (T' := T11) (g' := (mkF m 16 #[.val (.ref a1), .val (.ref x)] [(.ref b), (.ref x), (.ref a1)])) st11 ?_
  refine own_step (T' := T11) (g' := (mkF m 17 #[.val (.ref a1), .val (.ref x)] [(.ref a1), (.ref b), (.ref x), (.ref a1)])) (fun t k => XS.aloadN X11.here hx rfl (hb hby d8_16) rfl rfl k) ?_
  obtain ⟨T12, X12, e12, st12⟩ := getF X11 hx hZ hown (host := "") (Or.inl (hw _ (List.mem_of_getElem? (i := 57) rfl))) Via.refl e11 g5 (g := (mkF m 17 #[.val (.ref a1), .val (.ref x)] [(.ref a1), (.ref b), (.ref x), (.ref a1)])) rfl rfl (hb hby d8_17)
  refine own_step (T' := T12) (g' := (mkF m 20 #[.val (.ref a1), .val (.ref x)] [(.int (2 : Int32)), (.ref b), (.ref x), (.ref a1)])) st12 ?_
  obtain ⟨cq23, q23a, q23b⟩ := g3.cell
  obtain ⟨_, _, ⟨T22, L22, k22, n22⟩, -, X22, ⟨Lc22, hQ22, lq22, yq22, zq22⟩, st22⟩ := X12.privateBack hx (y := (⟨"java/util/ArrayList", "add", "(Ljava/lang/Object;[Ljava/lang/Object;I)V"⟩ : MethodName)) hown (mvT hZ (hw _ (List.mem_of_getElem? (i := 59) rfl))) (mvT hZ (hw _ (List.mem_of_getElem? (i := 60) rfl))) (mvT hZ (hw _ (List.mem_of_getElem? (i := 62) rfl))) (Cond.privateMethod_at (args := #[]) (mvP hZ (hw _ (List.mem_of_getElem? (i := 61) rfl)))) (mvT hZ (hw _ (List.mem_of_getElem? (i := 63) rfl))) (by decide) (backOf (W := 0) (rm_ad3_2 l Z a0 hw [] a1 x b kb y0 y1 (.int (3 : Int32)) h2 n0 Z2 g3 g4 g5 g6 g7 g8 F_6 g9 o_a1 o_b n_a1_x n_a1_b n_x_b) hZ (hw _ (List.mem_of_getElem? (i := 63) rfl)) (hw _ (List.mem_of_getElem? (i := 3) rfl)) (by decide) (by decide)) (g := (mkF m 20 #[.val (.ref a1), .val (.ref x)] [(.int (2 : Int32)), (.ref b), (.ref x), (.ref a1)])) rfl (by rw [hml]; rfl) (Steps.refl _) (a := a1) (cell := cq23) (by rw [e12]; exact q23a) q23b (argsL := [(.ref x), (.ref b), (.int (2 : Int32))]) (rest := []) (lenOf pd_5 rfl) rfl (by show 2 * 0 + _ ≤ _; exact Nat.le_of_eq rfl) (hb hby d8_20) (fun _ _ => ⟨rfl, e12, (by decide : 0 + 0 ≤ _), (by decide : 0 + 0 ≤ _)⟩)
  dsimp only [Pt.U, Pt.locs, Pt.cells, Pt.slots] at X22 lq22 yq22 zq22 st22 hQ22
  subst lq22 yq22 zq22
  obtain ⟨rfl, Nq22, K14, g15, g16, g17, g18, g19, g20, g21⟩ := hQ22
  have N22 := Fr.app N2 Nq22
  have g24 : Exa Z T22.heap x "com/example/kempt_cursor/kemptcursor/Keyed" := g6.keep K14
  have Z14 : n0 ≤ T22.heap.size := (Nat.le_trans Z2 K14.1)
  have K25 : Keep h0 T22.heap [a1, b] := K10.trans K14 (allS (P := fun x => x ∈ [a1, b] ∨ h0.size ≤ x) (Or.inl (List.mem_of_getElem? (i := 0) rfl)) (allS (P := fun x => x ∈ [a1, b] ∨ h0.size ≤ x) (Or.inl (List.mem_of_getElem? (i := 1) rfl)) all0))
  refine own_tr (T' := T22) (g' := (mkF m 23 #[.val (.ref a1), .val (.ref x)] [])) st22 ?_
  refine own_step (T' := T22) (g' := (mkF m 24 #[.val (.ref a1), .val (.ref x)] [(.int (1 : Int32))])) (fun t k => XS.iconst X22.here hx rfl (hb hby d8_23) k) ?_
  refine own_rN X22 hx hlk Bd.returns (by simp) (hb hby d8_24) ?_ (by decide) (by decide)
  exact ⟨rfl, N22, K25, g15, g16, g17, g18, g19, F_6, g21⟩
def Q_cp3_1 (Z : State) (a1 : Addr) (ka : ClassId) (y0 : Addr) (mr : Addr) (h0 : Heap) (n0 : Nat) (v : Option Value) (h : Heap) (L : List Loc) : Prop := ∃ (b : Addr) (kb : ClassId), v = some (.ref b) ∧ Fr n0 L ∧ Keep h0 h [] ∧ h0.size ≤ b ∧ Arv Z h b kb (.object "java/lang/Object") (1 : Int32) [(.ref y0)] .null ∧ Exa Z h b "[Ljava/lang/Object;" ∧ Ovr Z kb "java/lang/Object"
theorem ef_rm_cp3_1 (m : MethodId) (x0 : Addr) (x1 : Int32) (x2 : Addr) : entryFrame m #[(.ref x0), (.int x1), (.ref x2)] 4 = mkF m 0 #[.val (.ref x0), .val (.int x1), .val (.ref x2), .unset] [] := by first | (simp [entryFrame, mkF, argsToLocals, Value.category]; done) | rfl | (simp [entryFrame, mkF, argsToLocals, Value.category] <;> rfl)
theorem pn_8 : plainName "java/util/Arrays" = true := by first | (simp [plainName, overriddenIn]; done) | decide +kernel
theorem d19_0 : decode jdk_65_method_120_code 0 = .ok (.aload_n 2, 1) := by decide +kernel
theorem d19_1 : decode jdk_65_method_120_code 1 = .ok (.ldc 110, 2) := by decide +kernel
theorem d19_3 : decode jdk_65_method_120_code 3 = .ok (.if_acmp .ne 10, 3) := by decide +kernel
theorem d19_6 : decode jdk_65_method_120_code 6 = .ok (.iload_n 1, 1) := by decide +kernel
theorem d19_7 : decode jdk_65_method_120_code 7 = .ok (.anewarray 2, 3) := by decide +kernel
theorem d19_10 : decode jdk_65_method_120_code 10 = .ok (.goto 14, 3) := by decide +kernel
theorem d19_24 : decode jdk_65_method_120_code 24 = .ok (.astore_n 3, 1) := by decide +kernel
theorem d19_25 : decode jdk_65_method_120_code 25 = .ok (.aload_n 0, 1) := by decide +kernel
theorem d19_26 : decode jdk_65_method_120_code 26 = .ok (.iconst 0, 1) := by decide +kernel
theorem d19_27 : decode jdk_65_method_120_code 27 = .ok (.aload_n 3, 1) := by decide +kernel
theorem d19_28 : decode jdk_65_method_120_code 28 = .ok (.iconst 0, 1) := by decide +kernel
theorem d19_29 : decode jdk_65_method_120_code 29 = .ok (.aload_n 0, 1) := by decide +kernel
theorem d19_30 : decode jdk_65_method_120_code 30 = .ok (.arraylength, 1) := by decide +kernel
theorem d19_31 : decode jdk_65_method_120_code 31 = .ok (.iload_n 1, 1) := by decide +kernel
theorem d19_32 : decode jdk_65_method_120_code 32 = .ok (.invokestatic 304, 3) := by decide +kernel
theorem d19_35 : decode jdk_65_method_120_code 35 = .ok (.invokestatic 150, 3) := by decide +kernel
theorem d19_38 : decode jdk_65_method_120_code 38 = .ok (.aload_n 3, 1) := by decide +kernel
theorem d19_39 : decode jdk_65_method_120_code 39 = .ok (.areturn, 1) := by decide +kernel
set_option maxRecDepth 65536 in
set_option maxHeartbeats 40000000 in
theorem rm_cp3_1 (l : Launch) (Z : State) (a0 : Array Value) (hw : ∀ d ∈ tables_1, d.before a0 Z = true) (ws : List Jvm.Cond) (a1 : Addr) (ka : ClassId) (y0 : Addr) (mr : Addr) (h0 : Heap) (n0 : Nat) (Z0 : n0 ≤ h0.size) (F_0 : Arv Z h0 a1 ka (.object "java/lang/Object") (10 : Int32) [(.ref y0), .null, .null, .null, .null, .null, .null, .null, .null, .null] .null) (F_1 : Exa Z h0 a1 "[Ljava/lang/Object;") (F_2 : Exa Z h0 y0 "com/example/kempt_cursor/kemptcursor/Keyed") (M_o : own_Mir Z "[Ljava/lang/Object;" mr) :
    MetFree l (⟨"java/util/Arrays", "copyOf", "([Ljava/lang/Object;ILjava/lang/Class;)[Ljava/lang/Object;"⟩ : MethodName) (head1 (Jvm.Cond.code (⟨"java/util/Arrays", "copyOf", "([Ljava/lang/Object;ILjava/lang/Class;)[Ljava/lang/Object;"⟩ : MethodName) jdk_65_method_120_code 4 (some (.array (.object "java/lang/Object"))) :: ws) ({ frames := 1, cells := 1, slots := 1, locals := 18 } : Room)) (fun a U => a = #[(.ref a1), (.int (1 : Int32)), (.ref mr)] ∧ Z.Warmed39 U.vm ∧ U.heap = h0) (fun _ _ _ _ _ => True) (fun _ U o U' => ∃ v L, o = .returned v ∧ (Q_cp3_1 Z a1 ka y0 mr h0 n0) v U'.heap L ∧ FrameEnd U o U' L ({ frames := 1, cells := 1, slots := 1, locals := 18 } : Room).cells ({ frames := 1, cells := 1, slots := 1, locals := 18 } : Room).slots) := by
  refine MetFree.of_bodySF (plainFor_of_name pn_8) hisR ?_
  intro p e s m args below meth c s₁ Bd hml0 hP hK
  obtain ⟨rfl, hZ, hh⟩ := hP
  have hx := Bd.exec
  have hby := Bd.bytes
  have hlk : meth.locks = false := BodyLoose.notSynchronized Bd
  have hml : c.maxLocals = 4 := hml0
  have hown : s.vm.findClass "java/util/Arrays" = some m.cls := findClass_of_methodNamed Bd.named
  have hnm := (name_of_methodNamed Bd.named Bd.method).1
  have X0 : Stand p l e ({ frames := 1, cells := 1, slots := 1, locals := 18 } : Room) s m #[(.ref a1), (.int (1 : Int32)), (.ref mr)] below meth c s₁ [] 0 0 := Stand.of_body Bd
  have e0 : s₁.heap = h0 := by rw [← hh, Bd.state]; rfl
  have N0 := Fr.nil n0
  show own_Go p e below s (Q_cp3_1 Z a1 ka y0 mr h0 n0) ({ frames := 1, cells := 1, slots := 1, locals := 18 } : Room).cells ({ frames := 1, cells := 1, slots := 1, locals := 18 } : Room).slots s₁ (entryFrame m #[(.ref a1), (.int (1 : Int32)), (.ref mr)] 4)
  refine own_cast (g' := (mkF m 0 #[.val (.ref a1), .val (.int (1 : Int32)), .val (.ref mr), .unset] [])) (ef_rm_cp3_1 m a1 (1 : Int32) mr) ?_
  have K0 : Keep h0 h0 [] := Keep.refl _ _
  refine own_step (T' := s₁) (g' := (mkF m 1 #[.val (.ref a1), .val (.int (1 : Int32)), .val (.ref mr), .unset] [(.ref mr)])) (fun t k => XS.aloadN X0.here hx rfl (hb hby d19_0) rfl rfl k) ?_
  obtain ⟨vm1, X1, st1⟩ := X0.ldcMirror hx hown (mvT hZ (hw _ (List.mem_of_getElem? (i := 132) rfl))) (own_evM hZ M_o) (g := (mkF m 1 #[.val (.ref a1), .val (.int (1 : Int32)), .val (.ref mr), .unset] [(.ref mr)])) rfl (hb hby d19_1)
  have e1 : (s₁.setVm vm1).heap = h0 := e0
  refine own_step (T' := (s₁.setVm vm1)) (g' := (mkF m 3 #[.val (.ref a1), .val (.int (1 : Int32)), .val (.ref mr), .unset] [(.ref mr), (.ref mr)])) st1 ?_
  refine own_step (T' := (s₁.setVm vm1)) (g' := (mkF m 6 #[.val (.ref a1), .val (.int (1 : Int32)), .val (.ref mr), .unset] [])) (fun t k => acmp (g := (mkF m 3 #[.val (.ref a1), .val (.int (1 : Int32)), .val (.ref mr), .unset] [(.ref mr), (.ref mr)])) X1 hx rfl (x := (.ref mr)) (y := (.ref mr)) rfl rfl (pc0 := 3) (pc' := 6) (same := true) rfl (hb hby d19_3) rfl (decide_eq_true rfl) (by decide) rfl k) ?_
  refine own_step (T' := (s₁.setVm vm1)) (g' := (mkF m 7 #[.val (.ref a1), .val (.int (1 : Int32)), .val (.ref mr), .unset] [(.int (1 : Int32))])) (fun t k => XS.iloadN X1.here hx rfl (hb hby d19_6) rfl k) ?_
  obtain ⟨T2, h2, k2, X2, e2, E2, A2, B2, O2r, st2⟩ := newRE X1 hx hZ hown (hw _ (List.mem_of_getElem? (i := 133) rfl)) (hw _ (List.mem_of_getElem? (i := 79) rfl)) e1 (g := (mkF m 7 #[.val (.ref a1), .val (.int (1 : Int32)), .val (.ref mr), .unset] [(.int (1 : Int32))])) rfl (hb hby d19_7) rfl (by decide) (cap := 1) (by decide) (by decide) (by decide : 0 + 1 ≤ _) (by decide : 0 + 1 ≤ _) (ad := "[Ljava/lang/Object;") (by decide +kernel)
  obtain ⟨ad2, g_ad2⟩ : ∃ z, z = h0.size := ⟨_, rfl⟩
  rw [← g_ad2] at A2 B2 st2
  have g3 : Arv Z h2 a1 ka (.object "java/lang/Object") (10 : Int32) [(.ref y0), .null, .null, .null, .null, .null, .null, .null, .null, .null] .null := F_0.ext E2
  have g4 : Exa Z h2 a1 "[Ljava/lang/Object;" := F_1.ext E2
  have g5 : Exa Z h2 y0 "com/example/kempt_cursor/kemptcursor/Keyed" := F_2.ext E2
  have ne2_1 : a1 ≠ ad2 := Nat.ne_of_lt (by rw [g_ad2]; exact F_0.lt)
  have ne2_2 : y0 ≠ ad2 := Nat.ne_of_lt (by rw [g_ad2]; exact F_2.lt)
  have o2 : n0 ≤ ad2 := (Nat.le_trans Z0 (Nat.le_of_eq g_ad2.symm))
  have Z2 : n0 ≤ h2.size := (Nat.le_trans Z0 E2.1)
  have f2 : h0.size ≤ ad2 := by rw [g_ad2]; exact K0.1
  have K6 : Keep h0 h2 [] := K0.ext E2
  have V2 : Arv Z h2 ad2 k2 (.object "java/lang/Object") (1 : Int32) [.null] .null := (Arv.new A2 (by decide)).pad (pad_rep [] .null 1)
  refine own_step (T' := T2) (g' := (mkF m 10 #[.val (.ref a1), .val (.int (1 : Int32)), .val (.ref mr), .unset] [(.ref ad2)])) st2 ?_
  refine own_step (T' := T2) (g' := (mkF m 24 #[.val (.ref a1), .val (.int (1 : Int32)), .val (.ref mr), .unset] [(.ref ad2)])) (fun t k => XS.goto X2.here hx rfl (pc0 := 10) (pc' := 24) rfl (hb hby d19_10) (by decide) (by decide) k) ?_
  refine own_step (T' := T2) (g' := (mkF m 25 #[.val (.ref a1), .val (.int (1 : Int32)), .val (.ref mr), .val (.ref ad2)] [])) (fun t k => XS.astoreN X2.here hx rfl (hb hby d19_24) rfl rfl (l' := #[.val (.ref a1), .val (.int (1 : Int32)), .val (.ref mr), .val (.ref ad2)]) rfl k) ?_
  refine own_step (T' := T2) (g' := (mkF m 26 #[.val (.ref a1), .val (.int (1 : Int32)), .val (.ref mr), .val (.ref ad2)] [(.ref a1)])) (fun t k => XS.aloadN X2.here hx rfl (hb hby d19_25) rfl rfl k) ?_
  refine own_step (T' := T2) (g' := (mkF m 27 #[.val (.ref a1), .val (.int (1 : Int32)), .val (.ref mr), .val (.ref ad2)] [(.int (0 : Int32)), (.ref a1)])) (fun t k => XS.iconst X2.here hx rfl (hb hby d19_26) k) ?_
  refine own_step (T' := T2) (g' := (mkF m 28 #[.val (.ref a1), .val (.int (1 : Int32)), .val (.ref mr), .val (.ref ad2)] [(.ref ad2), (.int (0 : Int32)), (.ref a1)])) (fun t k => XS.aloadN X2.here hx rfl (hb hby d19_27) rfl rfl k) ?_
  refine own_step (T' := T2) (g' := (mkF m 29 #[.val (.ref a1), .val (.int (1 : Int32)), .val (.ref mr), .val (.ref ad2)] [(.int (0 : Int32)), (.ref ad2), (.int (0 : Int32)), (.ref a1)])) (fun t k => XS.iconst X2.here hx rfl (hb hby d19_28) k) ?_
  refine own_step (T' := T2) (g' := (mkF m 30 #[.val (.ref a1), .val (.int (1 : Int32)), .val (.ref mr), .val (.ref ad2)] [(.ref a1), (.int (0 : Int32)), (.ref ad2), (.int (0 : Int32)), (.ref a1)])) (fun t k => XS.aloadN X2.here hx rfl (hb hby d19_29) rfl rfl k) ?_
  obtain ⟨cl7, Ar7, qa7, S7, M7, H7, U7⟩ := id g3
  have ln7 := len_of S7 M7
  refine own_step (T' := T2) (g' := (mkF m 31 #[.val (.ref a1), .val (.int (1 : Int32)), .val (.ref mr), .val (.ref ad2)] [(.int (10 : Int32)), (.int (0 : Int32)), (.ref ad2), (.int (0 : Int32)), (.ref a1)])) (fun t k => X2.arraylength hx (cell := cl7) (by rw [e2]; exact Ar7.1) (State.isArrayOf_alike hZ.alike Ar7.2.1) (g := (mkF m 30 #[.val (.ref a1), .val (.int (1 : Int32)), .val (.ref mr), .val (.ref ad2)] [(.ref a1), (.int (0 : Int32)), (.ref ad2), (.int (0 : Int32)), (.ref a1)])) rfl rfl (hb hby d19_30) t (by rw [ln7]; exact k)) ?_
  refine own_step (T' := T2) (g' := (mkF m 32 #[.val (.ref a1), .val (.int (1 : Int32)), .val (.ref mr), .val (.ref ad2)] [(.int (1 : Int32)), (.int (10 : Int32)), (.int (0 : Int32)), (.ref ad2), (.int (0 : Int32)), (.ref a1)])) (fun t k => XS.iloadN X2.here hx rfl (hb hby d19_31) rfl k) ?_
  obtain ⟨_, _, ⟨T10, L10, k10, n10⟩, -, X10, ⟨Lc10, hQ10, lq10, yq10, zq10⟩, st10⟩ := Jvm.LawKit.callS X2 hx (y := (⟨"java/lang/Math", "min", "(II)I"⟩ : MethodName)) hown (mvT hZ (hw _ (List.mem_of_getElem? (i := 134) rfl))) (mvT hZ (hw _ (List.mem_of_getElem? (i := 135) rfl))) (mvT hZ (hw _ (List.mem_of_getElem? (i := 76) rfl))) (mvT hZ (hw _ (List.mem_of_getElem? (i := 136) rfl))) (by decide) (backOf (W := 4) (rm_min1 l Z a0 hw []  h2 n0 Z2 ) hZ (hw _ (List.mem_of_getElem? (i := 136) rfl)) (hw _ (List.mem_of_getElem? (i := 76) rfl)) (by decide) (by decide)) (g := (mkF m 32 #[.val (.ref a1), .val (.int (1 : Int32)), .val (.ref mr), .val (.ref ad2)] [(.int (1 : Int32)), (.int (10 : Int32)), (.int (0 : Int32)), (.ref ad2), (.int (0 : Int32)), (.ref a1)])) rfl (by rw [hml]; rfl) (argsL := [(.int (10 : Int32)), (.int (1 : Int32))]) (rest := [(.int (0 : Int32)), (.ref ad2), (.int (0 : Int32)), (.ref a1)]) (lenOf pd_2 rfl) rfl (by show 2 * 0 + _ ≤ _; exact Nat.le_of_eq rfl) (hb hby d19_32) (fun _ _ => ⟨rfl, e2, (by decide : 1 + 0 ≤ _), (by decide : 1 + 0 ≤ _)⟩)
  dsimp only [Pt.U, Pt.locs, Pt.cells, Pt.slots] at X10 lq10 yq10 zq10 st10 hQ10
  subst lq10 yq10 zq10
  obtain ⟨rfl, Nq10, eq9⟩ := hQ10
  have N10 := Fr.app N0 Nq10
  refine own_step (T' := T10) (g' := (mkF m 35 #[.val (.ref a1), .val (.int (1 : Int32)), .val (.ref mr), .val (.ref ad2)] [(.int (1 : Int32)), (.int (0 : Int32)), (.ref ad2), (.int (0 : Int32)), (.ref a1)])) st10 ?_
  obtain ⟨cl11, Ar11, qa11, S11, M11, H11, U11⟩ := id V2
  obtain ⟨T11, h11, L11, X11, e11, N11, Kc11, V11, st11⟩ := cpA X10 hx hZ hown (hw _ (List.mem_of_getElem? (i := 137) rfl)) (hw _ (List.mem_of_getElem? (i := 140) rfl)) (hw _ (List.mem_of_getElem? (i := 138) rfl)) (hw _ (List.mem_of_getElem? (i := 139) rfl)) eq9 g3 V2 (us := [(.ref y0)]) (Or.inr ⟨rfl, rfl, ⟨Sto.ofV Ar11 qa11 O2r (Ins.of_exa g5 (hw _ (List.mem_of_getElem? (i := 80) rfl))), trivial⟩⟩) (by decide) (by decide) (by decide) (by decide) (by decide) rfl (by decide) N10 o2 (g := (mkF m 35 #[.val (.ref a1), .val (.int (1 : Int32)), .val (.ref mr), .val (.ref ad2)] [(.int (1 : Int32)), (.int (0 : Int32)), (.ref ad2), (.int (0 : Int32)), (.ref a1)])) rfl (by rw [hml]; rfl) rfl (hb hby d19_35) (by decide) (W := 0) (by show 2 * 0 + _ ≤ _; exact Nat.le_of_eq rfl) (by decide)
  have g12 : Arv Z h11 a1 ka (.object "java/lang/Object") (10 : Int32) [(.ref y0), .null, .null, .null, .null, .null, .null, .null, .null, .null] .null := g3.keep Kc11 (ninS ne2_1 nin0)
  have g13 : Exa Z h11 a1 "[Ljava/lang/Object;" := g4.keep Kc11
  have g14 : Exa Z h11 y0 "com/example/kempt_cursor/kemptcursor/Keyed" := g5.keep Kc11
  have g15 : Arv Z h11 ad2 k2 (.object "java/lang/Object") (1 : Int32) [(.ref y0)] .null := V11
  have g16 : Exa Z h11 ad2 "[Ljava/lang/Object;" := B2.keep Kc11
  have Z11 : n0 ≤ h11.size := (Nat.le_trans Z2 Kc11.1)
  have K17 : Keep h0 h11 [] := K6.trans Kc11 (allS (P := fun x => x ∈ [] ∨ h0.size ≤ x) (Or.inr f2) all0)
  refine own_step (T' := T11) (g' := (mkF m 38 #[.val (.ref a1), .val (.int (1 : Int32)), .val (.ref mr), .val (.ref ad2)] [])) st11 ?_
  refine own_step (T' := T11) (g' := (mkF m 39 #[.val (.ref a1), .val (.int (1 : Int32)), .val (.ref mr), .val (.ref ad2)] [(.ref ad2)])) (fun t k => XS.aloadN X11.here hx rfl (hb hby d19_38) rfl rfl k) ?_
  refine own_rA X11 hx hlk Bd.returns rfl (w := (.ref ad2)) rfl (hb hby d19_39) ?_ (by decide) (by decide)
  rw [e11]
  exact ⟨ad2, k2, rfl, N11, K17, f2, g15, g16, O2r⟩
def Q_cp2_1 (Z : State) (a1 : Addr) (ka : ClassId) (y0 : Addr) (mr : Addr) (h0 : Heap) (n0 : Nat) (v : Option Value) (h : Heap) (L : List Loc) : Prop := ∃ (b : Addr) (kb : ClassId), v = some (.ref b) ∧ Fr n0 L ∧ Keep h0 h [] ∧ h0.size ≤ b ∧ Arv Z h b kb (.object "java/lang/Object") (1 : Int32) [(.ref y0)] .null ∧ Exa Z h b "[Ljava/lang/Object;" ∧ Ovr Z kb "java/lang/Object"
theorem ef_rm_cp2_1 (m : MethodId) (x0 : Addr) (x1 : Int32) : entryFrame m #[(.ref x0), (.int x1)] 2 = mkF m 0 #[.val (.ref x0), .val (.int x1)] [] := by first | (simp [entryFrame, mkF, argsToLocals, Value.category]; done) | rfl | (simp [entryFrame, mkF, argsToLocals, Value.category] <;> rfl)
theorem d18_0 : decode jdk_65_method_119_code 0 = .ok (.aload_n 0, 1) := by decide +kernel
theorem d18_1 : decode jdk_65_method_119_code 1 = .ok (.iload_n 1, 1) := by decide +kernel
theorem d18_2 : decode jdk_65_method_119_code 2 = .ok (.aload_n 0, 1) := by decide +kernel
theorem d18_3 : decode jdk_65_method_119_code 3 = .ok (.invokevirtual 86, 3) := by decide +kernel
theorem pd_6 : parseMethodDescriptor "([Ljava/lang/Object;ILjava/lang/Class;)[Ljava/lang/Object;" = some ⟨[.array (.object "java/lang/Object"), .int, .object "java/lang/Class"], some (.array (.object "java/lang/Object"))⟩ := by decide +kernel
theorem d18_6 : decode jdk_65_method_119_code 6 = .ok (.invokestatic 300, 3) := by decide +kernel
theorem d18_9 : decode jdk_65_method_119_code 9 = .ok (.areturn, 1) := by decide +kernel
set_option maxRecDepth 65536 in
set_option maxHeartbeats 40000000 in
theorem rm_cp2_1 (l : Launch) (Z : State) (a0 : Array Value) (hw : ∀ d ∈ tables_1, d.before a0 Z = true) (ws : List Jvm.Cond) (a1 : Addr) (ka : ClassId) (y0 : Addr) (mr : Addr) (h0 : Heap) (n0 : Nat) (Z0 : n0 ≤ h0.size) (F_0 : Arv Z h0 a1 ka (.object "java/lang/Object") (10 : Int32) [(.ref y0), .null, .null, .null, .null, .null, .null, .null, .null, .null] .null) (F_1 : Exa Z h0 a1 "[Ljava/lang/Object;") (F_2 : Exa Z h0 y0 "com/example/kempt_cursor/kemptcursor/Keyed") (M_o : own_Mir Z "[Ljava/lang/Object;" mr) :
    MetFree l (⟨"java/util/Arrays", "copyOf", "([Ljava/lang/Object;I)[Ljava/lang/Object;"⟩ : MethodName) (head1 (Jvm.Cond.code (⟨"java/util/Arrays", "copyOf", "([Ljava/lang/Object;I)[Ljava/lang/Object;"⟩ : MethodName) jdk_65_method_119_code 2 (some (.array (.object "java/lang/Object"))) :: ws) ({ frames := 2, cells := 1, slots := 1, locals := 33 } : Room)) (fun a U => a = #[(.ref a1), (.int (1 : Int32))] ∧ Z.Warmed39 U.vm ∧ U.heap = h0) (fun _ _ _ _ _ => True) (fun _ U o U' => ∃ v L, o = .returned v ∧ (Q_cp2_1 Z a1 ka y0 mr h0 n0) v U'.heap L ∧ FrameEnd U o U' L ({ frames := 2, cells := 1, slots := 1, locals := 33 } : Room).cells ({ frames := 2, cells := 1, slots := 1, locals := 33 } : Room).slots) := by
  refine MetFree.of_bodySF (plainFor_of_name pn_8) hisR ?_
  intro p e s m args below meth c s₁ Bd hml0 hP hK
  obtain ⟨rfl, hZ, hh⟩ := hP
  have hx := Bd.exec
  have hby := Bd.bytes
  have hlk : meth.locks = false := BodyLoose.notSynchronized Bd
  have hml : c.maxLocals = 2 := hml0
  have hown : s.vm.findClass "java/util/Arrays" = some m.cls := findClass_of_methodNamed Bd.named
  have hnm := (name_of_methodNamed Bd.named Bd.method).1
  have X0 : Stand p l e ({ frames := 2, cells := 1, slots := 1, locals := 33 } : Room) s m #[(.ref a1), (.int (1 : Int32))] below meth c s₁ [] 0 0 := Stand.of_body Bd
  have e0 : s₁.heap = h0 := by rw [← hh, Bd.state]; rfl
  have N0 := Fr.nil n0
  show own_Go p e below s (Q_cp2_1 Z a1 ka y0 mr h0 n0) ({ frames := 2, cells := 1, slots := 1, locals := 33 } : Room).cells ({ frames := 2, cells := 1, slots := 1, locals := 33 } : Room).slots s₁ (entryFrame m #[(.ref a1), (.int (1 : Int32))] 2)
  refine own_cast (g' := (mkF m 0 #[.val (.ref a1), .val (.int (1 : Int32))] [])) (ef_rm_cp2_1 m a1 (1 : Int32)) ?_
  have K0 : Keep h0 h0 [] := Keep.refl _ _
  refine own_step (T' := s₁) (g' := (mkF m 1 #[.val (.ref a1), .val (.int (1 : Int32))] [(.ref a1)])) (fun t k => XS.aloadN X0.here hx rfl (hb hby d18_0) rfl rfl k) ?_
  refine own_step (T' := s₁) (g' := (mkF m 2 #[.val (.ref a1), .val (.int (1 : Int32))] [(.int (1 : Int32)), (.ref a1)])) (fun t k => XS.iloadN X0.here hx rfl (hb hby d18_1) rfl k) ?_
  refine own_step (T' := s₁) (g' := (mkF m 3 #[.val (.ref a1), .val (.int (1 : Int32))] [(.ref a1), (.int (1 : Int32)), (.ref a1)])) (fun t k => XS.aloadN X0.here hx rfl (hb hby d18_2) rfl rfl k) ?_
  obtain ⟨cq1, kq1, q1a, q1b, q1c⟩ := isOf hZ e0 F_1
  obtain ⟨km1, q1d, q1e⟩ := own_mirS hZ M_o q1a
  obtain ⟨vm1, X1, st1⟩ := X0.getClassOf hx hown (mvT hZ (hw _ (List.mem_of_getElem? (i := 123) rfl))) (mvT hZ (hw _ (List.mem_of_getElem? (i := 124) rfl))) (nf_top (args := #[]) (mvT hZ (hw _ (List.mem_of_getElem? (i := 100) rfl)))) (mvT hZ (hw _ (List.mem_of_getElem? (i := 126) rfl))) (mvT hZ (hw _ (List.mem_of_getElem? (i := 125) rfl))) (mvT hZ (hw _ (List.mem_of_getElem? (i := 127) rfl))) q1a q1c q1d q1e (g := (mkF m 3 #[.val (.ref a1), .val (.int (1 : Int32))] [(.ref a1), (.int (1 : Int32)), (.ref a1)])) rfl (by rw [hml]; rfl) rfl (hb hby d18_3) (by decide) (by show 2 * 0 + _ + _ ≤ _; exact (by decide : 2 + (nativeFrameWords "java/lang/Object" "getClass" 1 + 11) ≤ 33))
  have e1 : (s₁.setVm vm1).heap = h0 := e0
  refine own_step (T' := (s₁.setVm vm1)) (g' := (mkF m 6 #[.val (.ref a1), .val (.int (1 : Int32))] [(.ref mr), (.int (1 : Int32)), (.ref a1)])) st1 ?_
  obtain ⟨_, _, ⟨T7, L7, k7, n7⟩, -, X7, ⟨Lc7, hQ7, lq7, yq7, zq7⟩, st7⟩ := Jvm.LawKit.callS X1 hx (y := (⟨"java/util/Arrays", "copyOf", "([Ljava/lang/Object;ILjava/lang/Class;)[Ljava/lang/Object;"⟩ : MethodName)) hown (mvT hZ (hw _ (List.mem_of_getElem? (i := 129) rfl))) (mvT hZ (hw _ (List.mem_of_getElem? (i := 130) rfl))) (mvT hZ (hw _ (List.mem_of_getElem? (i := 121) rfl))) (mvT hZ (hw _ (List.mem_of_getElem? (i := 131) rfl))) (by decide) (backOf (W := 0) (rm_cp3_1 l Z a0 hw [] a1 ka y0 mr h0 n0 Z0 F_0 F_1 F_2 M_o) hZ (hw _ (List.mem_of_getElem? (i := 131) rfl)) (hw _ (List.mem_of_getElem? (i := 121) rfl)) (by decide) (by decide)) (g := (mkF m 6 #[.val (.ref a1), .val (.int (1 : Int32))] [(.ref mr), (.int (1 : Int32)), (.ref a1)])) rfl (by rw [hml]; rfl) (argsL := [(.ref a1), (.int (1 : Int32)), (.ref mr)]) (rest := []) (lenOf pd_6 rfl) rfl (by show 2 * 0 + _ ≤ _; exact Nat.le_of_eq rfl) (hb hby d18_6) (fun _ _ => ⟨rfl, e1, (by decide : 0 + 1 ≤ _), (by decide : 0 + 1 ≤ _)⟩)
  dsimp only [Pt.U, Pt.locs, Pt.cells, Pt.slots] at X7 lq7 yq7 zq7 st7 hQ7
  subst lq7 yq7 zq7
  obtain ⟨b_2, kb_2, rfl, Nq7, K3, fz_b_2, g4, g5, g6⟩ := hQ7
  have N7 := Fr.app N0 Nq7
  have oz_b_2 : n0 ≤ b_2 := Nat.le_trans Z0 fz_b_2
  have nz_a1_b_2 : a1 ≠ b_2 := Nat.ne_of_lt (Nat.lt_of_lt_of_le F_0.lt fz_b_2)
  have nz_y0_b_2 : y0 ≠ b_2 := Nat.ne_of_lt (Nat.lt_of_lt_of_le F_2.lt fz_b_2)
  have fr_b_2 : h0.size ≤ b_2 := Nat.le_trans K0.1 fz_b_2
  have g8 : Arv Z T7.heap a1 ka (.object "java/lang/Object") (10 : Int32) [(.ref y0), .null, .null, .null, .null, .null, .null, .null, .null, .null] .null := F_0.keep K3 nin0
  have g9 : Exa Z T7.heap a1 "[Ljava/lang/Object;" := F_1.keep K3
  have g10 : Exa Z T7.heap y0 "com/example/kempt_cursor/kemptcursor/Keyed" := F_2.keep K3
  have Z3 : n0 ≤ T7.heap.size := (Nat.le_trans Z0 K3.1)
  have K11 : Keep h0 T7.heap [] := K0.trans K3 (all0 (P := fun x => x ∈ [] ∨ h0.size ≤ x))
  refine own_step (T' := T7) (g' := (mkF m 9 #[.val (.ref a1), .val (.int (1 : Int32))] [(.ref b_2)])) st7 ?_
  refine own_rA X7 hx hlk Bd.returns rfl (w := (.ref b_2)) rfl (hb hby d18_9) ?_ (by decide) (by decide)
  exact ⟨b_2, kb_2, rfl, N7, K11, fr_b_2, g4, g5, g6⟩
def Q_toa_1 (Z : State) (a0s : Addr) (a1 : Addr) (ka : ClassId) (y0 : Addr) (mr : Addr) (h0 : Heap) (n0 : Nat) (v : Option Value) (h : Heap) (L : List Loc) : Prop := ∃ (b : Addr) (kb : ClassId), v = some (.ref b) ∧ Fr n0 L ∧ Keep h0 h [] ∧ h0.size ≤ b ∧ Arv Z h b kb (.object "java/lang/Object") (1 : Int32) [(.ref y0)] .null ∧ Exa Z h b "[Ljava/lang/Object;" ∧ Ovr Z kb "java/lang/Object"
theorem ef_rm_toa_1 (m : MethodId) (x0 : Addr) : entryFrame m #[(.ref x0)] 1 = mkF m 0 #[.val (.ref x0)] [] := by first | (simp [entryFrame, mkF, argsToLocals, Value.category]; done) | rfl | (simp [entryFrame, mkF, argsToLocals, Value.category] <;> rfl)
theorem d17_0 : decode jdk_38_method_16_code 0 = .ok (.aload_n 0, 1) := by decide +kernel
theorem d17_1 : decode jdk_38_method_16_code 1 = .ok (.getfield 9, 3) := by decide +kernel
theorem d17_4 : decode jdk_38_method_16_code 4 = .ok (.aload_n 0, 1) := by decide +kernel
theorem d17_5 : decode jdk_38_method_16_code 5 = .ok (.getfield 48, 3) := by decide +kernel
theorem pd_7 : parseMethodDescriptor "([Ljava/lang/Object;I)[Ljava/lang/Object;" = some ⟨[.array (.object "java/lang/Object"), .int], some (.array (.object "java/lang/Object"))⟩ := by decide +kernel
theorem d17_8 : decode jdk_38_method_16_code 8 = .ok (.invokestatic 66, 3) := by decide +kernel
theorem d17_11 : decode jdk_38_method_16_code 11 = .ok (.areturn, 1) := by decide +kernel
set_option maxRecDepth 65536 in
set_option maxHeartbeats 40000000 in
theorem rm_toa_1 (l : Launch) (Z : State) (a0 : Array Value) (hw : ∀ d ∈ tables_1, d.before a0 Z = true) (ws : List Jvm.Cond) (a0s : Addr) (a1 : Addr) (ka : ClassId) (y0 : Addr) (mr : Addr) (h0 : Heap) (n0 : Nat) (Z0 : n0 ≤ h0.size) (F_0 : Fld Z h0 a0s "java/util/ArrayList" "elementData" "[Ljava/lang/Object;" (.ref a1)) (F_1 : Fld Z h0 a0s "java/util/ArrayList" "size" "I" (.int (1 : Int32))) (F_2 : Arv Z h0 a1 ka (.object "java/lang/Object") (10 : Int32) [(.ref y0), .null, .null, .null, .null, .null, .null, .null, .null, .null] .null) (F_3 : Exa Z h0 a1 "[Ljava/lang/Object;") (F_4 : Exa Z h0 y0 "com/example/kempt_cursor/kemptcursor/Keyed") (M_o : own_Mir Z "[Ljava/lang/Object;" mr) :
    MetFree l (⟨"java/util/ArrayList", "toArray", "()[Ljava/lang/Object;"⟩ : MethodName) (head1 (Jvm.Cond.code (⟨"java/util/ArrayList", "toArray", "()[Ljava/lang/Object;"⟩ : MethodName) jdk_38_method_16_code 1 (some (.array (.object "java/lang/Object"))) :: ws) ({ frames := 3, cells := 1, slots := 1, locals := 46 } : Room)) (fun a U => a = #[(.ref a0s)] ∧ Z.Warmed39 U.vm ∧ U.heap = h0) (fun _ _ _ _ _ => True) (fun _ U o U' => ∃ v L, o = .returned v ∧ (Q_toa_1 Z a0s a1 ka y0 mr h0 n0) v U'.heap L ∧ FrameEnd U o U' L ({ frames := 3, cells := 1, slots := 1, locals := 46 } : Room).cells ({ frames := 3, cells := 1, slots := 1, locals := 46 } : Room).slots) := by
  refine MetFree.of_bodySF (plainFor_of_name pn_7) hisR ?_
  intro p e s m args below meth c s₁ Bd hml0 hP hK
  obtain ⟨rfl, hZ, hh⟩ := hP
  have hx := Bd.exec
  have hby := Bd.bytes
  have hlk : meth.locks = false := BodyLoose.notSynchronized Bd
  have hml : c.maxLocals = 1 := hml0
  have hown : s.vm.findClass "java/util/ArrayList" = some m.cls := findClass_of_methodNamed Bd.named
  have hnm := (name_of_methodNamed Bd.named Bd.method).1
  have X0 : Stand p l e ({ frames := 3, cells := 1, slots := 1, locals := 46 } : Room) s m #[(.ref a0s)] below meth c s₁ [] 0 0 := Stand.of_body Bd
  have e0 : s₁.heap = h0 := by rw [← hh, Bd.state]; rfl
  have N0 := Fr.nil n0
  show own_Go p e below s (Q_toa_1 Z a0s a1 ka y0 mr h0 n0) ({ frames := 3, cells := 1, slots := 1, locals := 46 } : Room).cells ({ frames := 3, cells := 1, slots := 1, locals := 46 } : Room).slots s₁ (entryFrame m #[(.ref a0s)] 1)
  refine own_cast (g' := (mkF m 0 #[.val (.ref a0s)] [])) (ef_rm_toa_1 m a0s) ?_
  have K0 : Keep h0 h0 [] := Keep.refl _ _
  refine own_step (T' := s₁) (g' := (mkF m 1 #[.val (.ref a0s)] [(.ref a0s)])) (fun t k => XS.aloadN X0.here hx rfl (hb hby d17_0) rfl rfl k) ?_
  obtain ⟨T1, X1, e1, st1⟩ := getF X0 hx hZ hown (host := "") (Or.inl (hw _ (List.mem_of_getElem? (i := 25) rfl))) Via.refl e0 F_0 (g := (mkF m 1 #[.val (.ref a0s)] [(.ref a0s)])) rfl rfl (hb hby d17_1)
  refine own_step (T' := T1) (g' := (mkF m 4 #[.val (.ref a0s)] [(.ref a1)])) st1 ?_
  refine own_step (T' := T1) (g' := (mkF m 5 #[.val (.ref a0s)] [(.ref a0s), (.ref a1)])) (fun t k => XS.aloadN X1.here hx rfl (hb hby d17_4) rfl rfl k) ?_
  obtain ⟨T2, X2, e2, st2⟩ := getF X1 hx hZ hown (host := "") (Or.inl (hw _ (List.mem_of_getElem? (i := 57) rfl))) Via.refl e1 F_1 (g := (mkF m 5 #[.val (.ref a0s)] [(.ref a0s), (.ref a1)])) rfl rfl (hb hby d17_5)
  refine own_step (T' := T2) (g' := (mkF m 8 #[.val (.ref a0s)] [(.int (1 : Int32)), (.ref a1)])) st2 ?_
  obtain ⟨_, _, ⟨T8, L8, k8, n8⟩, -, X8, ⟨Lc8, hQ8, lq8, yq8, zq8⟩, st8⟩ := Jvm.LawKit.callS X2 hx (y := (⟨"java/util/Arrays", "copyOf", "([Ljava/lang/Object;I)[Ljava/lang/Object;"⟩ : MethodName)) hown (mvT hZ (hw _ (List.mem_of_getElem? (i := 119) rfl))) (mvT hZ (hw _ (List.mem_of_getElem? (i := 120) rfl))) (mvT hZ (hw _ (List.mem_of_getElem? (i := 121) rfl))) (mvT hZ (hw _ (List.mem_of_getElem? (i := 122) rfl))) (by decide) (backOf (W := 0) (rm_cp2_1 l Z a0 hw [] a1 ka y0 mr h0 n0 Z0 F_2 F_3 F_4 M_o) hZ (hw _ (List.mem_of_getElem? (i := 122) rfl)) (hw _ (List.mem_of_getElem? (i := 121) rfl)) (by decide) (by decide)) (g := (mkF m 8 #[.val (.ref a0s)] [(.int (1 : Int32)), (.ref a1)])) rfl (by rw [hml]; rfl) (argsL := [(.ref a1), (.int (1 : Int32))]) (rest := []) (lenOf pd_7 rfl) rfl (by show 2 * 0 + _ ≤ _; exact Nat.le_of_eq rfl) (hb hby d17_8) (fun _ _ => ⟨rfl, e2, (by decide : 0 + 1 ≤ _), (by decide : 0 + 1 ≤ _)⟩)
  dsimp only [Pt.U, Pt.locs, Pt.cells, Pt.slots] at X8 lq8 yq8 zq8 st8 hQ8
  subst lq8 yq8 zq8
  obtain ⟨b_3, kb_3, rfl, Nq8, K4, fz_b_3, g5, g6, g7⟩ := hQ8
  have N8 := Fr.app N0 Nq8
  have oz_b_3 : n0 ≤ b_3 := Nat.le_trans Z0 fz_b_3
  have nz_a0s_b_3 : a0s ≠ b_3 := Nat.ne_of_lt (Nat.lt_of_lt_of_le F_0.lt fz_b_3)
  have nz_a1_b_3 : a1 ≠ b_3 := Nat.ne_of_lt (Nat.lt_of_lt_of_le F_2.lt fz_b_3)
  have nz_y0_b_3 : y0 ≠ b_3 := Nat.ne_of_lt (Nat.lt_of_lt_of_le F_4.lt fz_b_3)
  have fr_b_3 : h0.size ≤ b_3 := Nat.le_trans K0.1 fz_b_3
  have g9 : Fld Z T8.heap a0s "java/util/ArrayList" "elementData" "[Ljava/lang/Object;" (.ref a1) := F_0.keep K4 nin0
  have g10 : Fld Z T8.heap a0s "java/util/ArrayList" "size" "I" (.int (1 : Int32)) := F_1.keep K4 nin0
  have g11 : Arv Z T8.heap a1 ka (.object "java/lang/Object") (10 : Int32) [(.ref y0), .null, .null, .null, .null, .null, .null, .null, .null, .null] .null := F_2.keep K4 nin0
  have g12 : Exa Z T8.heap a1 "[Ljava/lang/Object;" := F_3.keep K4
  have g13 : Exa Z T8.heap y0 "com/example/kempt_cursor/kemptcursor/Keyed" := F_4.keep K4
  have Z4 : n0 ≤ T8.heap.size := (Nat.le_trans Z0 K4.1)
  have K14 : Keep h0 T8.heap [] := K0.trans K4 (all0 (P := fun x => x ∈ [] ∨ h0.size ≤ x))
  refine own_step (T' := T8) (g' := (mkF m 11 #[.val (.ref a0s)] [(.ref b_3)])) st8 ?_
  refine own_rA X8 hx hlk Bd.returns rfl (w := (.ref b_3)) rfl (hb hby d17_11) ?_ (by decide) (by decide)
  exact ⟨b_3, kb_3, rfl, N8, K14, fr_b_3, g5, g6, g7⟩
def Q_cp3_2 (Z : State) (a1 : Addr) (ka : ClassId) (y0 : Addr) (y1 : Addr) (mr : Addr) (h0 : Heap) (n0 : Nat) (v : Option Value) (h : Heap) (L : List Loc) : Prop := ∃ (b : Addr) (kb : ClassId), v = some (.ref b) ∧ Fr n0 L ∧ Keep h0 h [] ∧ h0.size ≤ b ∧ Arv Z h b kb (.object "java/lang/Object") (2 : Int32) [(.ref y0), (.ref y1)] .null ∧ Exa Z h b "[Ljava/lang/Object;" ∧ Ovr Z kb "java/lang/Object"
theorem ef_rm_cp3_2 (m : MethodId) (x0 : Addr) (x1 : Int32) (x2 : Addr) : entryFrame m #[(.ref x0), (.int x1), (.ref x2)] 4 = mkF m 0 #[.val (.ref x0), .val (.int x1), .val (.ref x2), .unset] [] := by first | (simp [entryFrame, mkF, argsToLocals, Value.category]; done) | rfl | (simp [entryFrame, mkF, argsToLocals, Value.category] <;> rfl)
set_option maxRecDepth 65536 in
set_option maxHeartbeats 40000000 in
theorem rm_cp3_2 (l : Launch) (Z : State) (a0 : Array Value) (hw : ∀ d ∈ tables_1, d.before a0 Z = true) (ws : List Jvm.Cond) (a1 : Addr) (ka : ClassId) (y0 : Addr) (y1 : Addr) (mr : Addr) (h0 : Heap) (n0 : Nat) (Z0 : n0 ≤ h0.size) (F_0 : Arv Z h0 a1 ka (.object "java/lang/Object") (10 : Int32) [(.ref y0), (.ref y1), .null, .null, .null, .null, .null, .null, .null, .null] .null) (F_1 : Exa Z h0 a1 "[Ljava/lang/Object;") (F_2 : Exa Z h0 y0 "com/example/kempt_cursor/kemptcursor/Keyed") (F_3 : Exa Z h0 y1 "com/example/kempt_cursor/kemptcursor/Keyed") (M_o : own_Mir Z "[Ljava/lang/Object;" mr) :
    MetFree l (⟨"java/util/Arrays", "copyOf", "([Ljava/lang/Object;ILjava/lang/Class;)[Ljava/lang/Object;"⟩ : MethodName) (head1 (Jvm.Cond.code (⟨"java/util/Arrays", "copyOf", "([Ljava/lang/Object;ILjava/lang/Class;)[Ljava/lang/Object;"⟩ : MethodName) jdk_65_method_120_code 4 (some (.array (.object "java/lang/Object"))) :: ws) ({ frames := 1, cells := 1, slots := 2, locals := 18 } : Room)) (fun a U => a = #[(.ref a1), (.int (2 : Int32)), (.ref mr)] ∧ Z.Warmed39 U.vm ∧ U.heap = h0) (fun _ _ _ _ _ => True) (fun _ U o U' => ∃ v L, o = .returned v ∧ (Q_cp3_2 Z a1 ka y0 y1 mr h0 n0) v U'.heap L ∧ FrameEnd U o U' L ({ frames := 1, cells := 1, slots := 2, locals := 18 } : Room).cells ({ frames := 1, cells := 1, slots := 2, locals := 18 } : Room).slots) := by
  refine MetFree.of_bodySF (plainFor_of_name pn_8) hisR ?_
  intro p e s m args below meth c s₁ Bd hml0 hP hK
  obtain ⟨rfl, hZ, hh⟩ := hP
  have hx := Bd.exec
  have hby := Bd.bytes
  have hlk : meth.locks = false := BodyLoose.notSynchronized Bd
  have hml : c.maxLocals = 4 := hml0
  have hown : s.vm.findClass "java/util/Arrays" = some m.cls := findClass_of_methodNamed Bd.named
  have hnm := (name_of_methodNamed Bd.named Bd.method).1
  have X0 : Stand p l e ({ frames := 1, cells := 1, slots := 2, locals := 18 } : Room) s m #[(.ref a1), (.int (2 : Int32)), (.ref mr)] below meth c s₁ [] 0 0 := Stand.of_body Bd
  have e0 : s₁.heap = h0 := by rw [← hh, Bd.state]; rfl
  have N0 := Fr.nil n0
  show own_Go p e below s (Q_cp3_2 Z a1 ka y0 y1 mr h0 n0) ({ frames := 1, cells := 1, slots := 2, locals := 18 } : Room).cells ({ frames := 1, cells := 1, slots := 2, locals := 18 } : Room).slots s₁ (entryFrame m #[(.ref a1), (.int (2 : Int32)), (.ref mr)] 4)
  refine own_cast (g' := (mkF m 0 #[.val (.ref a1), .val (.int (2 : Int32)), .val (.ref mr), .unset] [])) (ef_rm_cp3_2 m a1 (2 : Int32) mr) ?_
  have K0 : Keep h0 h0 [] := Keep.refl _ _
  refine own_step (T' := s₁) (g' := (mkF m 1 #[.val (.ref a1), .val (.int (2 : Int32)), .val (.ref mr), .unset] [(.ref mr)])) (fun t k => XS.aloadN X0.here hx rfl (hb hby d19_0) rfl rfl k) ?_
  obtain ⟨vm1, X1, st1⟩ := X0.ldcMirror hx hown (mvT hZ (hw _ (List.mem_of_getElem? (i := 132) rfl))) (own_evM hZ M_o) (g := (mkF m 1 #[.val (.ref a1), .val (.int (2 : Int32)), .val (.ref mr), .unset] [(.ref mr)])) rfl (hb hby d19_1)
  have e1 : (s₁.setVm vm1).heap = h0 := e0
  refine own_step (T' := (s₁.setVm vm1)) (g' := (mkF m 3 #[.val (.ref a1), .val (.int (2 : Int32)), .val (.ref mr), .unset] [(.ref mr), (.ref mr)])) st1 ?_
  refine own_step (T' := (s₁.setVm vm1)) (g' := (mkF m 6 #[.val (.ref a1), .val (.int (2 : Int32)), .val (.ref mr), .unset] [])) (fun t k => acmp (g := (mkF m 3 #[.val (.ref a1), .val (.int (2 : Int32)), .val (.ref mr), .unset] [(.ref mr), (.ref mr)])) X1 hx rfl (x := (.ref mr)) (y := (.ref mr)) rfl rfl (pc0 := 3) (pc' := 6) (same := true) rfl (hb hby d19_3) rfl (decide_eq_true rfl) (by decide) rfl k) ?_
  refine own_step (T' := (s₁.setVm vm1)) (g' := (mkF m 7 #[.val (.ref a1), .val (.int (2 : Int32)), .val (.ref mr), .unset] [(.int (2 : Int32))])) (fun t k => XS.iloadN X1.here hx rfl (hb hby d19_6) rfl k) ?_
  obtain ⟨T2, h2, k2, X2, e2, E2, A2, B2, O2r, st2⟩ := newRE X1 hx hZ hown (hw _ (List.mem_of_getElem? (i := 133) rfl)) (hw _ (List.mem_of_getElem? (i := 79) rfl)) e1 (g := (mkF m 7 #[.val (.ref a1), .val (.int (2 : Int32)), .val (.ref mr), .unset] [(.int (2 : Int32))])) rfl (hb hby d19_7) rfl (by decide) (cap := 2) (by decide) (by decide) (by decide : 0 + 1 ≤ _) (by decide : 0 + 2 ≤ _) (ad := "[Ljava/lang/Object;") (by decide +kernel)
  obtain ⟨ad2, g_ad2⟩ : ∃ z, z = h0.size := ⟨_, rfl⟩
  rw [← g_ad2] at A2 B2 st2
  have g3 : Arv Z h2 a1 ka (.object "java/lang/Object") (10 : Int32) [(.ref y0), (.ref y1), .null, .null, .null, .null, .null, .null, .null, .null] .null := F_0.ext E2
  have g4 : Exa Z h2 a1 "[Ljava/lang/Object;" := F_1.ext E2
  have g5 : Exa Z h2 y0 "com/example/kempt_cursor/kemptcursor/Keyed" := F_2.ext E2
  have g6 : Exa Z h2 y1 "com/example/kempt_cursor/kemptcursor/Keyed" := F_3.ext E2
  have ne2_1 : a1 ≠ ad2 := Nat.ne_of_lt (by rw [g_ad2]; exact F_0.lt)
  have ne2_2 : y0 ≠ ad2 := Nat.ne_of_lt (by rw [g_ad2]; exact F_2.lt)
  have ne2_3 : y1 ≠ ad2 := Nat.ne_of_lt (by rw [g_ad2]; exact F_3.lt)
  have o2 : n0 ≤ ad2 := (Nat.le_trans Z0 (Nat.le_of_eq g_ad2.symm))
  have Z2 : n0 ≤ h2.size := (Nat.le_trans Z0 E2.1)
  have f2 : h0.size ≤ ad2 := by rw [g_ad2]; exact K0.1
  have K7 : Keep h0 h2 [] := K0.ext E2
  have V2 : Arv Z h2 ad2 k2 (.object "java/lang/Object") (2 : Int32) [.null, .null] .null := (Arv.new A2 (by decide)).pad (pad_rep [] .null 2)
  refine own_step (T' := T2) (g' := (mkF m 10 #[.val (.ref a1), .val (.int (2 : Int32)), .val (.ref mr), .unset] [(.ref ad2)])) st2 ?_
  refine own_step (T' := T2) (g' := (mkF m 24 #[.val (.ref a1), .val (.int (2 : Int32)), .val (.ref mr), .unset] [(.ref ad2)])) (fun t k => XS.goto X2.here hx rfl (pc0 := 10) (pc' := 24) rfl (hb hby d19_10) (by decide) (by decide) k) ?_
  refine own_step (T' := T2) (g' := (mkF m 25 #[.val (.ref a1), .val (.int (2 : Int32)), .val (.ref mr), .val (.ref ad2)] [])) (fun t k => XS.astoreN X2.here hx rfl (hb hby d19_24) rfl rfl (l' := #[.val (.ref a1), .val (.int (2 : Int32)), .val (.ref mr), .val (.ref ad2)]) rfl k) ?_
  refine own_step (T' := T2) (g' := (mkF m 26 #[.val (.ref a1), .val (.int (2 : Int32)), .val (.ref mr), .val (.ref ad2)] [(.ref a1)])) (fun t k => XS.aloadN X2.here hx rfl (hb hby d19_25) rfl rfl k) ?_
  refine own_step (T' := T2) (g' := (mkF m 27 #[.val (.ref a1), .val (.int (2 : Int32)), .val (.ref mr), .val (.ref ad2)] [(.int (0 : Int32)), (.ref a1)])) (fun t k => XS.iconst X2.here hx rfl (hb hby d19_26) k) ?_
  refine own_step (T' := T2) (g' := (mkF m 28 #[.val (.ref a1), .val (.int (2 : Int32)), .val (.ref mr), .val (.ref ad2)] [(.ref ad2), (.int (0 : Int32)), (.ref a1)])) (fun t k => XS.aloadN X2.here hx rfl (hb hby d19_27) rfl rfl k) ?_
  refine own_step (T' := T2) (g' := (mkF m 29 #[.val (.ref a1), .val (.int (2 : Int32)), .val (.ref mr), .val (.ref ad2)] [(.int (0 : Int32)), (.ref ad2), (.int (0 : Int32)), (.ref a1)])) (fun t k => XS.iconst X2.here hx rfl (hb hby d19_28) k) ?_
  refine own_step (T' := T2) (g' := (mkF m 30 #[.val (.ref a1), .val (.int (2 : Int32)), .val (.ref mr), .val (.ref ad2)] [(.ref a1), (.int (0 : Int32)), (.ref ad2), (.int (0 : Int32)), (.ref a1)])) (fun t k => XS.aloadN X2.here hx rfl (hb hby d19_29) rfl rfl k) ?_
  obtain ⟨cl8, Ar8, qa8, S8, M8, H8, U8⟩ := id g3
  have ln8 := len_of S8 M8
  refine own_step (T' := T2) (g' := (mkF m 31 #[.val (.ref a1), .val (.int (2 : Int32)), .val (.ref mr), .val (.ref ad2)] [(.int (10 : Int32)), (.int (0 : Int32)), (.ref ad2), (.int (0 : Int32)), (.ref a1)])) (fun t k => X2.arraylength hx (cell := cl8) (by rw [e2]; exact Ar8.1) (State.isArrayOf_alike hZ.alike Ar8.2.1) (g := (mkF m 30 #[.val (.ref a1), .val (.int (2 : Int32)), .val (.ref mr), .val (.ref ad2)] [(.ref a1), (.int (0 : Int32)), (.ref ad2), (.int (0 : Int32)), (.ref a1)])) rfl rfl (hb hby d19_30) t (by rw [ln8]; exact k)) ?_
  refine own_step (T' := T2) (g' := (mkF m 32 #[.val (.ref a1), .val (.int (2 : Int32)), .val (.ref mr), .val (.ref ad2)] [(.int (2 : Int32)), (.int (10 : Int32)), (.int (0 : Int32)), (.ref ad2), (.int (0 : Int32)), (.ref a1)])) (fun t k => XS.iloadN X2.here hx rfl (hb hby d19_31) rfl k) ?_
  obtain ⟨_, _, ⟨T11, L11, k11, n11⟩, -, X11, ⟨Lc11, hQ11, lq11, yq11, zq11⟩, st11⟩ := Jvm.LawKit.callS X2 hx (y := (⟨"java/lang/Math", "min", "(II)I"⟩ : MethodName)) hown (mvT hZ (hw _ (List.mem_of_getElem? (i := 134) rfl))) (mvT hZ (hw _ (List.mem_of_getElem? (i := 135) rfl))) (mvT hZ (hw _ (List.mem_of_getElem? (i := 76) rfl))) (mvT hZ (hw _ (List.mem_of_getElem? (i := 136) rfl))) (by decide) (backOf (W := 4) (rm_min2 l Z a0 hw []  h2 n0 Z2 ) hZ (hw _ (List.mem_of_getElem? (i := 136) rfl)) (hw _ (List.mem_of_getElem? (i := 76) rfl)) (by decide) (by decide)) (g := (mkF m 32 #[.val (.ref a1), .val (.int (2 : Int32)), .val (.ref mr), .val (.ref ad2)] [(.int (2 : Int32)), (.int (10 : Int32)), (.int (0 : Int32)), (.ref ad2), (.int (0 : Int32)), (.ref a1)])) rfl (by rw [hml]; rfl) (argsL := [(.int (10 : Int32)), (.int (2 : Int32))]) (rest := [(.int (0 : Int32)), (.ref ad2), (.int (0 : Int32)), (.ref a1)]) (lenOf pd_2 rfl) rfl (by show 2 * 0 + _ ≤ _; exact Nat.le_of_eq rfl) (hb hby d19_32) (fun _ _ => ⟨rfl, e2, (by decide : 1 + 0 ≤ _), (by decide : 2 + 0 ≤ _)⟩)
  dsimp only [Pt.U, Pt.locs, Pt.cells, Pt.slots] at X11 lq11 yq11 zq11 st11 hQ11
  subst lq11 yq11 zq11
  obtain ⟨rfl, Nq11, eq10⟩ := hQ11
  have N11 := Fr.app N0 Nq11
  refine own_step (T' := T11) (g' := (mkF m 35 #[.val (.ref a1), .val (.int (2 : Int32)), .val (.ref mr), .val (.ref ad2)] [(.int (2 : Int32)), (.int (0 : Int32)), (.ref ad2), (.int (0 : Int32)), (.ref a1)])) st11 ?_
  obtain ⟨cl12, Ar12, qa12, S12, M12, H12, U12⟩ := id V2
  obtain ⟨T12, h12, L12, X12, e12, N12, Kc12, V12, st12⟩ := cpA X11 hx hZ hown (hw _ (List.mem_of_getElem? (i := 137) rfl)) (hw _ (List.mem_of_getElem? (i := 140) rfl)) (hw _ (List.mem_of_getElem? (i := 138) rfl)) (hw _ (List.mem_of_getElem? (i := 139) rfl)) eq10 g3 V2 (us := [(.ref y0), (.ref y1)]) (Or.inr ⟨rfl, rfl, ⟨Sto.ofV Ar12 qa12 O2r (Ins.of_exa g5 (hw _ (List.mem_of_getElem? (i := 80) rfl))), ⟨Sto.ofV Ar12 qa12 O2r (Ins.of_exa g6 (hw _ (List.mem_of_getElem? (i := 80) rfl))), trivial⟩⟩⟩) (by decide) (by decide) (by decide) (by decide) (by decide) rfl (by decide) N11 o2 (g := (mkF m 35 #[.val (.ref a1), .val (.int (2 : Int32)), .val (.ref mr), .val (.ref ad2)] [(.int (2 : Int32)), (.int (0 : Int32)), (.ref ad2), (.int (0 : Int32)), (.ref a1)])) rfl (by rw [hml]; rfl) rfl (hb hby d19_35) (by decide) (W := 0) (by show 2 * 0 + _ ≤ _; exact Nat.le_of_eq rfl) (by decide)
  have g13 : Arv Z h12 a1 ka (.object "java/lang/Object") (10 : Int32) [(.ref y0), (.ref y1), .null, .null, .null, .null, .null, .null, .null, .null] .null := g3.keep Kc12 (ninS ne2_1 nin0)
  have g14 : Exa Z h12 a1 "[Ljava/lang/Object;" := g4.keep Kc12
  have g15 : Exa Z h12 y0 "com/example/kempt_cursor/kemptcursor/Keyed" := g5.keep Kc12
  have g16 : Exa Z h12 y1 "com/example/kempt_cursor/kemptcursor/Keyed" := g6.keep Kc12
  have g17 : Arv Z h12 ad2 k2 (.object "java/lang/Object") (2 : Int32) [(.ref y0), (.ref y1)] .null := V12
  have g18 : Exa Z h12 ad2 "[Ljava/lang/Object;" := B2.keep Kc12
  have Z12 : n0 ≤ h12.size := (Nat.le_trans Z2 Kc12.1)
  have K19 : Keep h0 h12 [] := K7.trans Kc12 (allS (P := fun x => x ∈ [] ∨ h0.size ≤ x) (Or.inr f2) all0)
  refine own_step (T' := T12) (g' := (mkF m 38 #[.val (.ref a1), .val (.int (2 : Int32)), .val (.ref mr), .val (.ref ad2)] [])) st12 ?_
  refine own_step (T' := T12) (g' := (mkF m 39 #[.val (.ref a1), .val (.int (2 : Int32)), .val (.ref mr), .val (.ref ad2)] [(.ref ad2)])) (fun t k => XS.aloadN X12.here hx rfl (hb hby d19_38) rfl rfl k) ?_
  refine own_rA X12 hx hlk Bd.returns rfl (w := (.ref ad2)) rfl (hb hby d19_39) ?_ (by decide) (by decide)
  rw [e12]
  exact ⟨ad2, k2, rfl, N12, K19, f2, g17, g18, O2r⟩
def Q_cp2_2 (Z : State) (a1 : Addr) (ka : ClassId) (y0 : Addr) (y1 : Addr) (mr : Addr) (h0 : Heap) (n0 : Nat) (v : Option Value) (h : Heap) (L : List Loc) : Prop := ∃ (b : Addr) (kb : ClassId), v = some (.ref b) ∧ Fr n0 L ∧ Keep h0 h [] ∧ h0.size ≤ b ∧ Arv Z h b kb (.object "java/lang/Object") (2 : Int32) [(.ref y0), (.ref y1)] .null ∧ Exa Z h b "[Ljava/lang/Object;" ∧ Ovr Z kb "java/lang/Object"
theorem ef_rm_cp2_2 (m : MethodId) (x0 : Addr) (x1 : Int32) : entryFrame m #[(.ref x0), (.int x1)] 2 = mkF m 0 #[.val (.ref x0), .val (.int x1)] [] := by first | (simp [entryFrame, mkF, argsToLocals, Value.category]; done) | rfl | (simp [entryFrame, mkF, argsToLocals, Value.category] <;> rfl)
set_option maxRecDepth 65536 in
set_option maxHeartbeats 40000000 in
theorem rm_cp2_2 (l : Launch) (Z : State) (a0 : Array Value) (hw : ∀ d ∈ tables_1, d.before a0 Z = true) (ws : List Jvm.Cond) (a1 : Addr) (ka : ClassId) (y0 : Addr) (y1 : Addr) (mr : Addr) (h0 : Heap) (n0 : Nat) (Z0 : n0 ≤ h0.size) (F_0 : Arv Z h0 a1 ka (.object "java/lang/Object") (10 : Int32) [(.ref y0), (.ref y1), .null, .null, .null, .null, .null, .null, .null, .null] .null) (F_1 : Exa Z h0 a1 "[Ljava/lang/Object;") (F_2 : Exa Z h0 y0 "com/example/kempt_cursor/kemptcursor/Keyed") (F_3 : Exa Z h0 y1 "com/example/kempt_cursor/kemptcursor/Keyed") (M_o : own_Mir Z "[Ljava/lang/Object;" mr) :
    MetFree l (⟨"java/util/Arrays", "copyOf", "([Ljava/lang/Object;I)[Ljava/lang/Object;"⟩ : MethodName) (head1 (Jvm.Cond.code (⟨"java/util/Arrays", "copyOf", "([Ljava/lang/Object;I)[Ljava/lang/Object;"⟩ : MethodName) jdk_65_method_119_code 2 (some (.array (.object "java/lang/Object"))) :: ws) ({ frames := 2, cells := 1, slots := 2, locals := 33 } : Room)) (fun a U => a = #[(.ref a1), (.int (2 : Int32))] ∧ Z.Warmed39 U.vm ∧ U.heap = h0) (fun _ _ _ _ _ => True) (fun _ U o U' => ∃ v L, o = .returned v ∧ (Q_cp2_2 Z a1 ka y0 y1 mr h0 n0) v U'.heap L ∧ FrameEnd U o U' L ({ frames := 2, cells := 1, slots := 2, locals := 33 } : Room).cells ({ frames := 2, cells := 1, slots := 2, locals := 33 } : Room).slots) := by
  refine MetFree.of_bodySF (plainFor_of_name pn_8) hisR ?_
  intro p e s m args below meth c s₁ Bd hml0 hP hK
  obtain ⟨rfl, hZ, hh⟩ := hP
  have hx := Bd.exec
  have hby := Bd.bytes
  have hlk : meth.locks = false := BodyLoose.notSynchronized Bd
  have hml : c.maxLocals = 2 := hml0
  have hown : s.vm.findClass "java/util/Arrays" = some m.cls := findClass_of_methodNamed Bd.named
  have hnm := (name_of_methodNamed Bd.named Bd.method).1
  have X0 : Stand p l e ({ frames := 2, cells := 1, slots := 2, locals := 33 } : Room) s m #[(.ref a1), (.int (2 : Int32))] below meth c s₁ [] 0 0 := Stand.of_body Bd
  have e0 : s₁.heap = h0 := by rw [← hh, Bd.state]; rfl
  have N0 := Fr.nil n0
  show own_Go p e below s (Q_cp2_2 Z a1 ka y0 y1 mr h0 n0) ({ frames := 2, cells := 1, slots := 2, locals := 33 } : Room).cells ({ frames := 2, cells := 1, slots := 2, locals := 33 } : Room).slots s₁ (entryFrame m #[(.ref a1), (.int (2 : Int32))] 2)
  refine own_cast (g' := (mkF m 0 #[.val (.ref a1), .val (.int (2 : Int32))] [])) (ef_rm_cp2_2 m a1 (2 : Int32)) ?_
  have K0 : Keep h0 h0 [] := Keep.refl _ _
  refine own_step (T' := s₁) (g' := (mkF m 1 #[.val (.ref a1), .val (.int (2 : Int32))] [(.ref a1)])) (fun t k => XS.aloadN X0.here hx rfl (hb hby d18_0) rfl rfl k) ?_
  refine own_step (T' := s₁) (g' := (mkF m 2 #[.val (.ref a1), .val (.int (2 : Int32))] [(.int (2 : Int32)), (.ref a1)])) (fun t k => XS.iloadN X0.here hx rfl (hb hby d18_1) rfl k) ?_
  refine own_step (T' := s₁) (g' := (mkF m 3 #[.val (.ref a1), .val (.int (2 : Int32))] [(.ref a1), (.int (2 : Int32)), (.ref a1)])) (fun t k => XS.aloadN X0.here hx rfl (hb hby d18_2) rfl rfl k) ?_
  obtain ⟨cq1, kq1, q1a, q1b, q1c⟩ := isOf hZ e0 F_1
  obtain ⟨km1, q1d, q1e⟩ := own_mirS hZ M_o q1a
  obtain ⟨vm1, X1, st1⟩ := X0.getClassOf hx hown (mvT hZ (hw _ (List.mem_of_getElem? (i := 123) rfl))) (mvT hZ (hw _ (List.mem_of_getElem? (i := 124) rfl))) (nf_top (args := #[]) (mvT hZ (hw _ (List.mem_of_getElem? (i := 100) rfl)))) (mvT hZ (hw _ (List.mem_of_getElem? (i := 126) rfl))) (mvT hZ (hw _ (List.mem_of_getElem? (i := 125) rfl))) (mvT hZ (hw _ (List.mem_of_getElem? (i := 127) rfl))) q1a q1c q1d q1e (g := (mkF m 3 #[.val (.ref a1), .val (.int (2 : Int32))] [(.ref a1), (.int (2 : Int32)), (.ref a1)])) rfl (by rw [hml]; rfl) rfl (hb hby d18_3) (by decide) (by show 2 * 0 + _ + _ ≤ _; exact (by decide : 2 + (nativeFrameWords "java/lang/Object" "getClass" 1 + 11) ≤ 33))
  have e1 : (s₁.setVm vm1).heap = h0 := e0
  refine own_step (T' := (s₁.setVm vm1)) (g' := (mkF m 6 #[.val (.ref a1), .val (.int (2 : Int32))] [(.ref mr), (.int (2 : Int32)), (.ref a1)])) st1 ?_
  obtain ⟨_, _, ⟨T7, L7, k7, n7⟩, -, X7, ⟨Lc7, hQ7, lq7, yq7, zq7⟩, st7⟩ := Jvm.LawKit.callS X1 hx (y := (⟨"java/util/Arrays", "copyOf", "([Ljava/lang/Object;ILjava/lang/Class;)[Ljava/lang/Object;"⟩ : MethodName)) hown (mvT hZ (hw _ (List.mem_of_getElem? (i := 129) rfl))) (mvT hZ (hw _ (List.mem_of_getElem? (i := 130) rfl))) (mvT hZ (hw _ (List.mem_of_getElem? (i := 121) rfl))) (mvT hZ (hw _ (List.mem_of_getElem? (i := 131) rfl))) (by decide) (backOf (W := 0) (rm_cp3_2 l Z a0 hw [] a1 ka y0 y1 mr h0 n0 Z0 F_0 F_1 F_2 F_3 M_o) hZ (hw _ (List.mem_of_getElem? (i := 131) rfl)) (hw _ (List.mem_of_getElem? (i := 121) rfl)) (by decide) (by decide)) (g := (mkF m 6 #[.val (.ref a1), .val (.int (2 : Int32))] [(.ref mr), (.int (2 : Int32)), (.ref a1)])) rfl (by rw [hml]; rfl) (argsL := [(.ref a1), (.int (2 : Int32)), (.ref mr)]) (rest := []) (lenOf pd_6 rfl) rfl (by show 2 * 0 + _ ≤ _; exact Nat.le_of_eq rfl) (hb hby d18_6) (fun _ _ => ⟨rfl, e1, (by decide : 0 + 1 ≤ _), (by decide : 0 + 2 ≤ _)⟩)
  dsimp only [Pt.U, Pt.locs, Pt.cells, Pt.slots] at X7 lq7 yq7 zq7 st7 hQ7
  subst lq7 yq7 zq7
  obtain ⟨b_2, kb_2, rfl, Nq7, K3, fz_b_2, g4, g5, g6⟩ := hQ7
  have N7 := Fr.app N0 Nq7
  have oz_b_2 : n0 ≤ b_2 := Nat.le_trans Z0 fz_b_2
  have nz_a1_b_2 : a1 ≠ b_2 := Nat.ne_of_lt (Nat.lt_of_lt_of_le F_0.lt fz_b_2)
  have nz_y0_b_2 : y0 ≠ b_2 := Nat.ne_of_lt (Nat.lt_of_lt_of_le F_2.lt fz_b_2)
  have nz_y1_b_2 : y1 ≠ b_2 := Nat.ne_of_lt (Nat.lt_of_lt_of_le F_3.lt fz_b_2)
  have fr_b_2 : h0.size ≤ b_2 := Nat.le_trans K0.1 fz_b_2
  have g8 : Arv Z T7.heap a1 ka (.object "java/lang/Object") (10 : Int32) [(.ref y0), (.ref y1), .null, .null, .null, .null, .null, .null, .null, .null] .null := F_0.keep K3 nin0
  have g9 : Exa Z T7.heap a1 "[Ljava/lang/Object;" := F_1.keep K3
  have g10 : Exa Z T7.heap y0 "com/example/kempt_cursor/kemptcursor/Keyed" := F_2.keep K3
  have g11 : Exa Z T7.heap y1 "com/example/kempt_cursor/kemptcursor/Keyed" := F_3.keep K3
  have Z3 : n0 ≤ T7.heap.size := (Nat.le_trans Z0 K3.1)
  have K12 : Keep h0 T7.heap [] := K0.trans K3 (all0 (P := fun x => x ∈ [] ∨ h0.size ≤ x))
  refine own_step (T' := T7) (g' := (mkF m 9 #[.val (.ref a1), .val (.int (2 : Int32))] [(.ref b_2)])) st7 ?_
  refine own_rA X7 hx hlk Bd.returns rfl (w := (.ref b_2)) rfl (hb hby d18_9) ?_ (by decide) (by decide)
  exact ⟨b_2, kb_2, rfl, N7, K12, fr_b_2, g4, g5, g6⟩
def Q_toa_2 (Z : State) (a0s : Addr) (a1 : Addr) (ka : ClassId) (y0 : Addr) (y1 : Addr) (mr : Addr) (h0 : Heap) (n0 : Nat) (v : Option Value) (h : Heap) (L : List Loc) : Prop := ∃ (b : Addr) (kb : ClassId), v = some (.ref b) ∧ Fr n0 L ∧ Keep h0 h [] ∧ h0.size ≤ b ∧ Arv Z h b kb (.object "java/lang/Object") (2 : Int32) [(.ref y0), (.ref y1)] .null ∧ Exa Z h b "[Ljava/lang/Object;" ∧ Ovr Z kb "java/lang/Object"
theorem ef_rm_toa_2 (m : MethodId) (x0 : Addr) : entryFrame m #[(.ref x0)] 1 = mkF m 0 #[.val (.ref x0)] [] := by first | (simp [entryFrame, mkF, argsToLocals, Value.category]; done) | rfl | (simp [entryFrame, mkF, argsToLocals, Value.category] <;> rfl)
set_option maxRecDepth 65536 in
set_option maxHeartbeats 40000000 in
theorem rm_toa_2 (l : Launch) (Z : State) (a0 : Array Value) (hw : ∀ d ∈ tables_1, d.before a0 Z = true) (ws : List Jvm.Cond) (a0s : Addr) (a1 : Addr) (ka : ClassId) (y0 : Addr) (y1 : Addr) (mr : Addr) (h0 : Heap) (n0 : Nat) (Z0 : n0 ≤ h0.size) (F_0 : Fld Z h0 a0s "java/util/ArrayList" "elementData" "[Ljava/lang/Object;" (.ref a1)) (F_1 : Fld Z h0 a0s "java/util/ArrayList" "size" "I" (.int (2 : Int32))) (F_2 : Arv Z h0 a1 ka (.object "java/lang/Object") (10 : Int32) [(.ref y0), (.ref y1), .null, .null, .null, .null, .null, .null, .null, .null] .null) (F_3 : Exa Z h0 a1 "[Ljava/lang/Object;") (F_4 : Exa Z h0 y0 "com/example/kempt_cursor/kemptcursor/Keyed") (F_5 : Exa Z h0 y1 "com/example/kempt_cursor/kemptcursor/Keyed") (M_o : own_Mir Z "[Ljava/lang/Object;" mr) :
    MetFree l (⟨"java/util/ArrayList", "toArray", "()[Ljava/lang/Object;"⟩ : MethodName) (head1 (Jvm.Cond.code (⟨"java/util/ArrayList", "toArray", "()[Ljava/lang/Object;"⟩ : MethodName) jdk_38_method_16_code 1 (some (.array (.object "java/lang/Object"))) :: ws) ({ frames := 3, cells := 1, slots := 2, locals := 46 } : Room)) (fun a U => a = #[(.ref a0s)] ∧ Z.Warmed39 U.vm ∧ U.heap = h0) (fun _ _ _ _ _ => True) (fun _ U o U' => ∃ v L, o = .returned v ∧ (Q_toa_2 Z a0s a1 ka y0 y1 mr h0 n0) v U'.heap L ∧ FrameEnd U o U' L ({ frames := 3, cells := 1, slots := 2, locals := 46 } : Room).cells ({ frames := 3, cells := 1, slots := 2, locals := 46 } : Room).slots) := by
  refine MetFree.of_bodySF (plainFor_of_name pn_7) hisR ?_
  intro p e s m args below meth c s₁ Bd hml0 hP hK
  obtain ⟨rfl, hZ, hh⟩ := hP
  have hx := Bd.exec
  have hby := Bd.bytes
  have hlk : meth.locks = false := BodyLoose.notSynchronized Bd
  have hml : c.maxLocals = 1 := hml0
  have hown : s.vm.findClass "java/util/ArrayList" = some m.cls := findClass_of_methodNamed Bd.named
  have hnm := (name_of_methodNamed Bd.named Bd.method).1
  have X0 : Stand p l e ({ frames := 3, cells := 1, slots := 2, locals := 46 } : Room) s m #[(.ref a0s)] below meth c s₁ [] 0 0 := Stand.of_body Bd
  have e0 : s₁.heap = h0 := by rw [← hh, Bd.state]; rfl
  have N0 := Fr.nil n0
  show own_Go p e below s (Q_toa_2 Z a0s a1 ka y0 y1 mr h0 n0) ({ frames := 3, cells := 1, slots := 2, locals := 46 } : Room).cells ({ frames := 3, cells := 1, slots := 2, locals := 46 } : Room).slots s₁ (entryFrame m #[(.ref a0s)] 1)
  refine own_cast (g' := (mkF m 0 #[.val (.ref a0s)] [])) (ef_rm_toa_2 m a0s) ?_
  have K0 : Keep h0 h0 [] := Keep.refl _ _
  refine own_step (T' := s₁) (g' := (mkF m 1 #[.val (.ref a0s)] [(.ref a0s)])) (fun t k => XS.aloadN X0.here hx rfl (hb hby d17_0) rfl rfl k) ?_
  obtain ⟨T1, X1, e1, st1⟩ := getF X0 hx hZ hown (host := "") (Or.inl (hw _ (List.mem_of_getElem? (i := 25) rfl))) Via.refl e0 F_0 (g := (mkF m 1 #[.val (.ref a0s)] [(.ref a0s)])) rfl rfl (hb hby d17_1)
  refine own_step (T' := T1) (g' := (mkF m 4 #[.val (.ref a0s)] [(.ref a1)])) st1 ?_
  refine own_step (T' := T1) (g' := (mkF m 5 #[.val (.ref a0s)] [(.ref a0s), (.ref a1)])) (fun t k => XS.aloadN X1.here hx rfl (hb hby d17_4) rfl rfl k) ?_
  obtain ⟨T2, X2, e2, st2⟩ := getF X1 hx hZ hown (host := "") (Or.inl (hw _ (List.mem_of_getElem? (i := 57) rfl))) Via.refl e1 F_1 (g := (mkF m 5 #[.val (.ref a0s)] [(.ref a0s), (.ref a1)])) rfl rfl (hb hby d17_5)
  refine own_step (T' := T2) (g' := (mkF m 8 #[.val (.ref a0s)] [(.int (2 : Int32)), (.ref a1)])) st2 ?_
  obtain ⟨_, _, ⟨T8, L8, k8, n8⟩, -, X8, ⟨Lc8, hQ8, lq8, yq8, zq8⟩, st8⟩ := Jvm.LawKit.callS X2 hx (y := (⟨"java/util/Arrays", "copyOf", "([Ljava/lang/Object;I)[Ljava/lang/Object;"⟩ : MethodName)) hown (mvT hZ (hw _ (List.mem_of_getElem? (i := 119) rfl))) (mvT hZ (hw _ (List.mem_of_getElem? (i := 120) rfl))) (mvT hZ (hw _ (List.mem_of_getElem? (i := 121) rfl))) (mvT hZ (hw _ (List.mem_of_getElem? (i := 122) rfl))) (by decide) (backOf (W := 0) (rm_cp2_2 l Z a0 hw [] a1 ka y0 y1 mr h0 n0 Z0 F_2 F_3 F_4 F_5 M_o) hZ (hw _ (List.mem_of_getElem? (i := 122) rfl)) (hw _ (List.mem_of_getElem? (i := 121) rfl)) (by decide) (by decide)) (g := (mkF m 8 #[.val (.ref a0s)] [(.int (2 : Int32)), (.ref a1)])) rfl (by rw [hml]; rfl) (argsL := [(.ref a1), (.int (2 : Int32))]) (rest := []) (lenOf pd_7 rfl) rfl (by show 2 * 0 + _ ≤ _; exact Nat.le_of_eq rfl) (hb hby d17_8) (fun _ _ => ⟨rfl, e2, (by decide : 0 + 1 ≤ _), (by decide : 0 + 2 ≤ _)⟩)
  dsimp only [Pt.U, Pt.locs, Pt.cells, Pt.slots] at X8 lq8 yq8 zq8 st8 hQ8
  subst lq8 yq8 zq8
  obtain ⟨b_3, kb_3, rfl, Nq8, K4, fz_b_3, g5, g6, g7⟩ := hQ8
  have N8 := Fr.app N0 Nq8
  have oz_b_3 : n0 ≤ b_3 := Nat.le_trans Z0 fz_b_3
  have nz_a0s_b_3 : a0s ≠ b_3 := Nat.ne_of_lt (Nat.lt_of_lt_of_le F_0.lt fz_b_3)
  have nz_a1_b_3 : a1 ≠ b_3 := Nat.ne_of_lt (Nat.lt_of_lt_of_le F_2.lt fz_b_3)
  have nz_y0_b_3 : y0 ≠ b_3 := Nat.ne_of_lt (Nat.lt_of_lt_of_le F_4.lt fz_b_3)
  have nz_y1_b_3 : y1 ≠ b_3 := Nat.ne_of_lt (Nat.lt_of_lt_of_le F_5.lt fz_b_3)
  have fr_b_3 : h0.size ≤ b_3 := Nat.le_trans K0.1 fz_b_3
  have g9 : Fld Z T8.heap a0s "java/util/ArrayList" "elementData" "[Ljava/lang/Object;" (.ref a1) := F_0.keep K4 nin0
  have g10 : Fld Z T8.heap a0s "java/util/ArrayList" "size" "I" (.int (2 : Int32)) := F_1.keep K4 nin0
  have g11 : Arv Z T8.heap a1 ka (.object "java/lang/Object") (10 : Int32) [(.ref y0), (.ref y1), .null, .null, .null, .null, .null, .null, .null, .null] .null := F_2.keep K4 nin0
  have g12 : Exa Z T8.heap a1 "[Ljava/lang/Object;" := F_3.keep K4
  have g13 : Exa Z T8.heap y0 "com/example/kempt_cursor/kemptcursor/Keyed" := F_4.keep K4
  have g14 : Exa Z T8.heap y1 "com/example/kempt_cursor/kemptcursor/Keyed" := F_5.keep K4
  have Z4 : n0 ≤ T8.heap.size := (Nat.le_trans Z0 K4.1)
  have K15 : Keep h0 T8.heap [] := K0.trans K4 (all0 (P := fun x => x ∈ [] ∨ h0.size ≤ x))
  refine own_step (T' := T8) (g' := (mkF m 11 #[.val (.ref a0s)] [(.ref b_3)])) st8 ?_
  refine own_rA X8 hx hlk Bd.returns rfl (w := (.ref b_3)) rfl (hb hby d17_11) ?_ (by decide) (by decide)
  exact ⟨b_3, kb_3, rfl, N8, K15, fr_b_3, g5, g6, g7⟩
def Q_cp3_3 (Z : State) (a1 : Addr) (ka : ClassId) (y0 : Addr) (y1 : Addr) (y2 : Addr) (mr : Addr) (h0 : Heap) (n0 : Nat) (v : Option Value) (h : Heap) (L : List Loc) : Prop := ∃ (b : Addr) (kb : ClassId), v = some (.ref b) ∧ Fr n0 L ∧ Keep h0 h [] ∧ h0.size ≤ b ∧ Arv Z h b kb (.object "java/lang/Object") (3 : Int32) [(.ref y0), (.ref y1), (.ref y2)] .null ∧ Exa Z h b "[Ljava/lang/Object;" ∧ Ovr Z kb "java/lang/Object"
theorem ef_rm_cp3_3 (m : MethodId) (x0 : Addr) (x1 : Int32) (x2 : Addr) : entryFrame m #[(.ref x0), (.int x1), (.ref x2)] 4 = mkF m 0 #[.val (.ref x0), .val (.int x1), .val (.ref x2), .unset] [] := by first | (simp [entryFrame, mkF, argsToLocals, Value.category]; done) | rfl | (simp [entryFrame, mkF, argsToLocals, Value.category] <;> rfl)
set_option maxRecDepth 65536 in
set_option maxHeartbeats 40000000 in
theorem rm_cp3_3 (l : Launch) (Z : State) (a0 : Array Value) (hw : ∀ d ∈ tables_1, d.before a0 Z = true) (ws : List Jvm.Cond) (a1 : Addr) (ka : ClassId) (y0 : Addr) (y1 : Addr) (y2 : Addr) (mr : Addr) (h0 : Heap) (n0 : Nat) (Z0 : n0 ≤ h0.size) (F_0 : Arv Z h0 a1 ka (.object "java/lang/Object") (10 : Int32) [(.ref y0), (.ref y1), (.ref y2), .null, .null, .null, .null, .null, .null, .null] .null) (F_1 : Exa Z h0 a1 "[Ljava/lang/Object;") (F_2 : Exa Z h0 y0 "com/example/kempt_cursor/kemptcursor/Keyed") (F_3 : Exa Z h0 y1 "com/example/kempt_cursor/kemptcursor/Keyed") (F_4 : Exa Z h0 y2 "com/example/kempt_cursor/kemptcursor/Keyed") (M_o : own_Mir Z "[Ljava/lang/Object;" mr) :
    MetFree l (⟨"java/util/Arrays", "copyOf", "([Ljava/lang/Object;ILjava/lang/Class;)[Ljava/lang/Object;"⟩ : MethodName) (head1 (Jvm.Cond.code (⟨"java/util/Arrays", "copyOf", "([Ljava/lang/Object;ILjava/lang/Class;)[Ljava/lang/Object;"⟩ : MethodName) jdk_65_method_120_code 4 (some (.array (.object "java/lang/Object"))) :: ws) ({ frames := 1, cells := 1, slots := 3, locals := 18 } : Room)) (fun a U => a = #[(.ref a1), (.int (3 : Int32)), (.ref mr)] ∧ Z.Warmed39 U.vm ∧ U.heap = h0) (fun _ _ _ _ _ => True) (fun _ U o U' => ∃ v L, o = .returned v ∧ (Q_cp3_3 Z a1 ka y0 y1 y2 mr h0 n0) v U'.heap L ∧ FrameEnd U o U' L ({ frames := 1, cells := 1, slots := 3, locals := 18 } : Room).cells ({ frames := 1, cells := 1, slots := 3, locals := 18 } : Room).slots) := by
  refine MetFree.of_bodySF (plainFor_of_name pn_8) hisR ?_
  intro p e s m args below meth c s₁ Bd hml0 hP hK
  obtain ⟨rfl, hZ, hh⟩ := hP
  have hx := Bd.exec
  have hby := Bd.bytes
  have hlk : meth.locks = false := BodyLoose.notSynchronized Bd
  have hml : c.maxLocals = 4 := hml0
  have hown : s.vm.findClass "java/util/Arrays" = some m.cls := findClass_of_methodNamed Bd.named
  have hnm := (name_of_methodNamed Bd.named Bd.method).1
  have X0 : Stand p l e ({ frames := 1, cells := 1, slots := 3, locals := 18 } : Room) s m #[(.ref a1), (.int (3 : Int32)), (.ref mr)] below meth c s₁ [] 0 0 := Stand.of_body Bd
  have e0 : s₁.heap = h0 := by rw [← hh, Bd.state]; rfl
  have N0 := Fr.nil n0
  show own_Go p e below s (Q_cp3_3 Z a1 ka y0 y1 y2 mr h0 n0) ({ frames := 1, cells := 1, slots := 3, locals := 18 } : Room).cells ({ frames := 1, cells := 1, slots := 3, locals := 18 } : Room).slots s₁ (entryFrame m #[(.ref a1), (.int (3 : Int32)), (.ref mr)] 4)
  refine own_cast (g' := (mkF m 0 #[.val (.ref a1), .val (.int (3 : Int32)), .val (.ref mr), .unset] [])) (ef_rm_cp3_3 m a1 (3 : Int32) mr) ?_
  have K0 : Keep h0 h0 [] := Keep.refl _ _
  refine own_step (T' := s₁) (g' := (mkF m 1 #[.val (.ref a1), .val (.int (3 : Int32)), .val (.ref mr), .unset] [(.ref mr)])) (fun t k => XS.aloadN X0.here hx rfl (hb hby d19_0) rfl rfl k) ?_
  obtain ⟨vm1, X1, st1⟩ := X0.ldcMirror hx hown (mvT hZ (hw _ (List.mem_of_getElem? (i := 132) rfl))) (own_evM hZ M_o) (g := (mkF m 1 #[.val (.ref a1), .val (.int (3 : Int32)), .val (.ref mr), .unset] [(.ref mr)])) rfl (hb hby d19_1)
  have e1 : (s₁.setVm vm1).heap = h0 := e0
  refine own_step (T' := (s₁.setVm vm1)) (g' := (mkF m 3 #[.val (.ref a1), .val (.int (3 : Int32)), .val (.ref mr), .unset] [(.ref mr), (.ref mr)])) st1 ?_
  refine own_step (T' := (s₁.setVm vm1)) (g' := (mkF m 6 #[.val (.ref a1), .val (.int (3 : Int32)), .val (.ref mr), .unset] [])) (fun t k => acmp (g := (mkF m 3 #[.val (.ref a1), .val (.int (3 : Int32)), .val (.ref mr), .unset] [(.ref mr), (.ref mr)])) X1 hx rfl (x := (.ref mr)) (y := (.ref mr)) rfl rfl (pc0 := 3) (pc' := 6) (same := true) rfl (hb hby d19_3) rfl (decide_eq_true rfl) (by decide) rfl k) ?_
  refine own_step (T' := (s₁.setVm vm1)) (g' := (mkF m 7 #[.val (.ref a1), .val (.int (3 : Int32)), .val (.ref mr), .unset] [(.int (3 : Int32))])) (fun t k => XS.iloadN X1.here hx rfl (hb hby d19_6) rfl k) ?_
  obtain ⟨T2, h2, k2, X2, e2, E2, A2, B2, O2r, st2⟩ := newRE X1 hx hZ hown (hw _ (List.mem_of_getElem? (i := 133) rfl)) (hw _ (List.mem_of_getElem? (i := 79) rfl)) e1 (g := (mkF m 7 #[.val (.ref a1), .val (.int (3 : Int32)), .val (.ref mr), .unset] [(.int (3 : Int32))])) rfl (hb hby d19_7) rfl (by decide) (cap := 3) (by decide) (by decide) (by decide : 0 + 1 ≤ _) (by decide : 0 + 3 ≤ _) (ad := "[Ljava/lang/Object;") (by decide +kernel)
  obtain ⟨ad2, g_ad2⟩ : ∃ z, z = h0.size := ⟨_, rfl⟩
  rw [← g_ad2] at A2 B2 st2
  have g3 : Arv Z h2 a1 ka (.object "java/lang/Object") (10 : Int32) [(.ref y0), (.ref y1), (.ref y2), .null, .null, .null, .null, .null, .null, .null] .null := F_0.ext E2
  have g4 : Exa Z h2 a1 "[Ljava/lang/Object;" := F_1.ext E2
  have g5 : Exa Z h2 y0 "com/example/kempt_cursor/kemptcursor/Keyed" := F_2.ext E2
  have g6 : Exa Z h2 y1 "com/example/kempt_cursor/kemptcursor/Keyed" := F_3.ext E2
  have g7 : Exa Z h2 y2 "com/example/kempt_cursor/kemptcursor/Keyed" := F_4.ext E2
  have ne2_1 : a1 ≠ ad2 := Nat.ne_of_lt (by rw [g_ad2]; exact F_0.lt)
  have ne2_2 : y0 ≠ ad2 := Nat.ne_of_lt (by rw [g_ad2]; exact F_2.lt)
  have ne2_3 : y1 ≠ ad2 := Nat.ne_of_lt (by rw [g_ad2]; exact F_3.lt)
  have ne2_4 : y2 ≠ ad2 := Nat.ne_of_lt (by rw [g_ad2]; exact F_4.lt)
  have o2 : n0 ≤ ad2 := (Nat.le_trans Z0 (Nat.le_of_eq g_ad2.symm))
  have Z2 : n0 ≤ h2.size := (Nat.le_trans Z0 E2.1)
  have f2 : h0.size ≤ ad2 := by rw [g_ad2]; exact K0.1
  have K8 : Keep h0 h2 [] := K0.ext E2
  have V2 : Arv Z h2 ad2 k2 (.object "java/lang/Object") (3 : Int32) [.null, .null, .null] .null := (Arv.new A2 (by decide)).pad (pad_rep [] .null 3)
  refine own_step (T' := T2) (g' := (mkF m 10 #[.val (.ref a1), .val (.int (3 : Int32)), .val (.ref mr), .unset] [(.ref ad2)])) st2 ?_
  refine own_step (T' := T2) (g' := (mkF m 24 #[.val (.ref a1), .val (.int (3 : Int32)), .val (.ref mr), .unset] [(.ref ad2)])) (fun t k => XS.goto X2.here hx rfl (pc0 := 10) (pc' := 24) rfl (hb hby d19_10) (by decide) (by decide) k) ?_
  refine own_step (T' := T2) (g' := (mkF m 25 #[.val (.ref a1), .val (.int (3 : Int32)), .val (.ref mr), .val (.ref ad2)] [])) (fun t k => XS.astoreN X2.here hx rfl (hb hby d19_24) rfl rfl (l' := #[.val (.ref a1), .val (.int (3 : Int32)), .val (.ref mr), .val (.ref ad2)]) rfl k) ?_
  refine own_step (T' := T2) (g' := (mkF m 26 #[.val (.ref a1), .val (.int (3 : Int32)), .val (.ref mr), .val (.ref ad2)] [(.ref a1)])) (fun t k => XS.aloadN X2.here hx rfl (hb hby d19_25) rfl rfl k) ?_
  refine own_step (T' := T2) (g' := (mkF m 27 #[.val (.ref a1), .val (.int (3 : Int32)), .val (.ref mr), .val (.ref ad2)] [(.int (0 : Int32)), (.ref a1)])) (fun t k => XS.iconst X2.here hx rfl (hb hby d19_26) k) ?_
  refine own_step (T' := T2) (g' := (mkF m 28 #[.val (.ref a1), .val (.int (3 : Int32)), .val (.ref mr), .val (.ref ad2)] [(.ref ad2), (.int (0 : Int32)), (.ref a1)])) (fun t k => XS.aloadN X2.here hx rfl (hb hby d19_27) rfl rfl k) ?_
  refine own_step (T' := T2) (g' := (mkF m 29 #[.val (.ref a1), .val (.int (3 : Int32)), .val (.ref mr), .val (.ref ad2)] [(.int (0 : Int32)), (.ref ad2), (.int (0 : Int32)), (.ref a1)])) (fun t k => XS.iconst X2.here hx rfl (hb hby d19_28) k) ?_
  refine own_step (T' := T2) (g' := (mkF m 30 #[.val (.ref a1), .val (.int (3 : Int32)), .val (.ref mr), .val (.ref ad2)] [(.ref a1), (.int (0 : Int32)), (.ref ad2), (.int (0 : Int32)), (.ref a1)])) (fun t k => XS.aloadN X2.here hx rfl (hb hby d19_29) rfl rfl k) ?_
  obtain ⟨cl9, Ar9, qa9, S9, M9, H9, U9⟩ := id g3
  have ln9 := len_of S9 M9
  refine own_step (T' := T2) (g' := (mkF m 31 #[.val (.ref a1), .val (.int (3 : Int32)), .val (.ref mr), .val (.ref ad2)] [(.int (10 : Int32)), (.int (0 : Int32)), (.ref ad2), (.int (0 : Int32)), (.ref a1)])) (fun t k => X2.arraylength hx (cell := cl9) (by rw [e2]; exact Ar9.1) (State.isArrayOf_alike hZ.alike Ar9.2.1) (g := (mkF m 30 #[.val (.ref a1), .val (.int (3 : Int32)), .val (.ref mr), .val (.ref ad2)] [(.ref a1), (.int (0 : Int32)), (.ref ad2), (.int (0 : Int32)), (.ref a1)])) rfl rfl (hb hby d19_30) t (by rw [ln9]; exact k)) ?_
  refine own_step (T' := T2) (g' := (mkF m 32 #[.val (.ref a1), .val (.int (3 : Int32)), .val (.ref mr), .val (.ref ad2)] [(.int (3 : Int32)), (.int (10 : Int32)), (.int (0 : Int32)), (.ref ad2), (.int (0 : Int32)), (.ref a1)])) (fun t k => XS.iloadN X2.here hx rfl (hb hby d19_31) rfl k) ?_
  obtain ⟨_, _, ⟨T12, L12, k12, n12⟩, -, X12, ⟨Lc12, hQ12, lq12, yq12, zq12⟩, st12⟩ := Jvm.LawKit.callS X2 hx (y := (⟨"java/lang/Math", "min", "(II)I"⟩ : MethodName)) hown (mvT hZ (hw _ (List.mem_of_getElem? (i := 134) rfl))) (mvT hZ (hw _ (List.mem_of_getElem? (i := 135) rfl))) (mvT hZ (hw _ (List.mem_of_getElem? (i := 76) rfl))) (mvT hZ (hw _ (List.mem_of_getElem? (i := 136) rfl))) (by decide) (backOf (W := 4) (rm_min3 l Z a0 hw []  h2 n0 Z2 ) hZ (hw _ (List.mem_of_getElem? (i := 136) rfl)) (hw _ (List.mem_of_getElem? (i := 76) rfl)) (by decide) (by decide)) (g := (mkF m 32 #[.val (.ref a1), .val (.int (3 : Int32)), .val (.ref mr), .val (.ref ad2)] [(.int (3 : Int32)), (.int (10 : Int32)), (.int (0 : Int32)), (.ref ad2), (.int (0 : Int32)), (.ref a1)])) rfl (by rw [hml]; rfl) (argsL := [(.int (10 : Int32)), (.int (3 : Int32))]) (rest := [(.int (0 : Int32)), (.ref ad2), (.int (0 : Int32)), (.ref a1)]) (lenOf pd_2 rfl) rfl (by show 2 * 0 + _ ≤ _; exact Nat.le_of_eq rfl) (hb hby d19_32) (fun _ _ => ⟨rfl, e2, (by decide : 1 + 0 ≤ _), (by decide : 3 + 0 ≤ _)⟩)
  dsimp only [Pt.U, Pt.locs, Pt.cells, Pt.slots] at X12 lq12 yq12 zq12 st12 hQ12
  subst lq12 yq12 zq12
  obtain ⟨rfl, Nq12, eq11⟩ := hQ12
  have N12 := Fr.app N0 Nq12
  refine own_step (T' := T12) (g' := (mkF m 35 #[.val (.ref a1), .val (.int (3 : Int32)), .val (.ref mr), .val (.ref ad2)] [(.int (3 : Int32)), (.int (0 : Int32)), (.ref ad2), (.int (0 : Int32)), (.ref a1)])) st12 ?_
  obtain ⟨cl13, Ar13, qa13, S13, M13, H13, U13⟩ := id V2
  obtain ⟨T13, h13, L13, X13, e13, N13, Kc13, V13, st13⟩ := cpA X12 hx hZ hown (hw _ (List.mem_of_getElem? (i := 137) rfl)) (hw _ (List.mem_of_getElem? (i := 140) rfl)) (hw _ (List.mem_of_getElem? (i := 138) rfl)) (hw _ (List.mem_of_getElem? (i := 139) rfl)) eq11 g3 V2 (us := [(.ref y0), (.ref y1), (.ref y2)]) (Or.inr ⟨rfl, rfl, ⟨Sto.ofV Ar13 qa13 O2r (Ins.of_exa g5 (hw _ (List.mem_of_getElem? (i := 80) rfl))), ⟨Sto.ofV Ar13 qa13 O2r (Ins.of_exa g6 (hw _ (List.mem_of_getElem? (i := 80) rfl))), ⟨Sto.ofV Ar13 qa13 O2r (Ins.of_exa g7 (hw _ (List.mem_of_getElem? (i := 80) rfl))), trivial⟩⟩⟩⟩) (by decide) (by decide) (by decide) (by decide) (by decide) rfl (by decide) N12 o2 (g := (mkF m 35 #[.val (.ref a1), .val (.int (3 : Int32)), .val (.ref mr), .val (.ref ad2)] [(.int (3 : Int32)), (.int (0 : Int32)), (.ref ad2), (.int (0 : Int32)), (.ref a1)])) rfl (by rw [hml]; rfl) rfl (hb hby d19_35) (by decide) (W := 0) (by show 2 * 0 + _ ≤ _; exact Nat.le_of_eq rfl) (by decide)
  have g14 : Arv Z h13 a1 ka (.object "java/lang/Object") (10 : Int32) [(.ref y0), (.ref y1), (.ref y2), .null, .null, .null, .null, .null, .null, .null] .null := g3.keep Kc13 (ninS ne2_1 nin0)
  have g15 : Exa Z h13 a1 "[Ljava/lang/Object;" := g4.keep Kc13
  have g16 : Exa Z h13 y0 "com/example/kempt_cursor/kemptcursor/Keyed" := g5.keep Kc13
  have g17 : Exa Z h13 y1 "com/example/kempt_cursor/kemptcursor/Keyed" := g6.keep Kc13
  have g18 : Exa Z h13 y2 "com/example/kempt_cursor/kemptcursor/Keyed" := g7.keep Kc13
  have g19 : Arv Z h13 ad2 k2 (.object "java/lang/Object") (3 : Int32) [(.ref y0), (.ref y1), (.ref y2)] .null := V13
  have g20 : Exa Z h13 ad2 "[Ljava/lang/Object;" := B2.keep Kc13
  have Z13 : n0 ≤ h13.size := (Nat.le_trans Z2 Kc13.1)
  have K21 : Keep h0 h13 [] := K8.trans Kc13 (allS (P := fun x => x ∈ [] ∨ h0.size ≤ x) (Or.inr f2) all0)
  refine own_step (T' := T13) (g' := (mkF m 38 #[.val (.ref a1), .val (.int (3 : Int32)), .val (.ref mr), .val (.ref ad2)] [])) st13 ?_
  refine own_step (T' := T13) (g' := (mkF m 39 #[.val (.ref a1), .val (.int (3 : Int32)), .val (.ref mr), .val (.ref ad2)] [(.ref ad2)])) (fun t k => XS.aloadN X13.here hx rfl (hb hby d19_38) rfl rfl k) ?_
  refine own_rA X13 hx hlk Bd.returns rfl (w := (.ref ad2)) rfl (hb hby d19_39) ?_ (by decide) (by decide)
  rw [e13]
  exact ⟨ad2, k2, rfl, N13, K21, f2, g19, g20, O2r⟩
def Q_cp2_3 (Z : State) (a1 : Addr) (ka : ClassId) (y0 : Addr) (y1 : Addr) (y2 : Addr) (mr : Addr) (h0 : Heap) (n0 : Nat) (v : Option Value) (h : Heap) (L : List Loc) : Prop := ∃ (b : Addr) (kb : ClassId), v = some (.ref b) ∧ Fr n0 L ∧ Keep h0 h [] ∧ h0.size ≤ b ∧ Arv Z h b kb (.object "java/lang/Object") (3 : Int32) [(.ref y0), (.ref y1), (.ref y2)] .null ∧ Exa Z h b "[Ljava/lang/Object;" ∧ Ovr Z kb "java/lang/Object"
theorem ef_rm_cp2_3 (m : MethodId) (x0 : Addr) (x1 : Int32) : entryFrame m #[(.ref x0), (.int x1)] 2 = mkF m 0 #[.val (.ref x0), .val (.int x1)] [] := by first | (simp [entryFrame, mkF, argsToLocals, Value.category]; done) | rfl | (simp [entryFrame, mkF, argsToLocals, Value.category] <;> rfl)
set_option maxRecDepth 65536 in
set_option maxHeartbeats 40000000 in
theorem rm_cp2_3 (l : Launch) (Z : State) (a0 : Array Value) (hw : ∀ d ∈ tables_1, d.before a0 Z = true) (ws : List Jvm.Cond) (a1 : Addr) (ka : ClassId) (y0 : Addr) (y1 : Addr) (y2 : Addr) (mr : Addr) (h0 : Heap) (n0 : Nat) (Z0 : n0 ≤ h0.size) (F_0 : Arv Z h0 a1 ka (.object "java/lang/Object") (10 : Int32) [(.ref y0), (.ref y1), (.ref y2), .null, .null, .null, .null, .null, .null, .null] .null) (F_1 : Exa Z h0 a1 "[Ljava/lang/Object;") (F_2 : Exa Z h0 y0 "com/example/kempt_cursor/kemptcursor/Keyed") (F_3 : Exa Z h0 y1 "com/example/kempt_cursor/kemptcursor/Keyed") (F_4 : Exa Z h0 y2 "com/example/kempt_cursor/kemptcursor/Keyed") (M_o : own_Mir Z "[Ljava/lang/Object;" mr) :
    MetFree l (⟨"java/util/Arrays", "copyOf", "([Ljava/lang/Object;I)[Ljava/lang/Object;"⟩ : MethodName) (head1 (Jvm.Cond.code (⟨"java/util/Arrays", "copyOf", "([Ljava/lang/Object;I)[Ljava/lang/Object;"⟩ : MethodName) jdk_65_method_119_code 2 (some (.array (.object "java/lang/Object"))) :: ws) ({ frames := 2, cells := 1, slots := 3, locals := 33 } : Room)) (fun a U => a = #[(.ref a1), (.int (3 : Int32))] ∧ Z.Warmed39 U.vm ∧ U.heap = h0) (fun _ _ _ _ _ => True) (fun _ U o U' => ∃ v L, o = .returned v ∧ (Q_cp2_3 Z a1 ka y0 y1 y2 mr h0 n0) v U'.heap L ∧ FrameEnd U o U' L ({ frames := 2, cells := 1, slots := 3, locals := 33 } : Room).cells ({ frames := 2, cells := 1, slots := 3, locals := 33 } : Room).slots) := by
  refine MetFree.of_bodySF (plainFor_of_name pn_8) hisR ?_
  intro p e s m args below meth c s₁ Bd hml0 hP hK
  obtain ⟨rfl, hZ, hh⟩ := hP
  have hx := Bd.exec
  have hby := Bd.bytes
  have hlk : meth.locks = false := BodyLoose.notSynchronized Bd
  have hml : c.maxLocals = 2 := hml0
  have hown : s.vm.findClass "java/util/Arrays" = some m.cls := findClass_of_methodNamed Bd.named
  have hnm := (name_of_methodNamed Bd.named Bd.method).1
  have X0 : Stand p l e ({ frames := 2, cells := 1, slots := 3, locals := 33 } : Room) s m #[(.ref a1), (.int (3 : Int32))] below meth c s₁ [] 0 0 := Stand.of_body Bd
  have e0 : s₁.heap = h0 := by rw [← hh, Bd.state]; rfl
  have N0 := Fr.nil n0
  show own_Go p e below s (Q_cp2_3 Z a1 ka y0 y1 y2 mr h0 n0) ({ frames := 2, cells := 1, slots := 3, locals := 33 } : Room).cells ({ frames := 2, cells := 1, slots := 3, locals := 33 } : Room).slots s₁ (entryFrame m #[(.ref a1), (.int (3 : Int32))] 2)
  refine own_cast (g' := (mkF m 0 #[.val (.ref a1), .val (.int (3 : Int32))] [])) (ef_rm_cp2_3 m a1 (3 : Int32)) ?_
  have K0 : Keep h0 h0 [] := Keep.refl _ _
  refine own_step (T' := s₁) (g' := (mkF m 1 #[.val (.ref a1), .val (.int (3 : Int32))] [(.ref a1)])) (fun t k => XS.aloadN X0.here hx rfl (hb hby d18_0) rfl rfl k) ?_
  refine own_step (T' := s₁) (g' := (mkF m 2 #[.val (.ref a1), .val (.int (3 : Int32))] [(.int (3 : Int32)), (.ref a1)])) (fun t k => XS.iloadN X0.here hx rfl (hb hby d18_1) rfl k) ?_
  refine own_step (T' := s₁) (g' := (mkF m 3 #[.val (.ref a1), .val (.int (3 : Int32))] [(.ref a1), (.int (3 : Int32)), (.ref a1)])) (fun t k => XS.aloadN X0.here hx rfl (hb hby d18_2) rfl rfl k) ?_
  obtain ⟨cq1, kq1, q1a, q1b, q1c⟩ := isOf hZ e0 F_1
  obtain ⟨km1, q1d, q1e⟩ := own_mirS hZ M_o q1a
  obtain ⟨vm1, X1, st1⟩ := X0.getClassOf hx hown (mvT hZ (hw _ (List.mem_of_getElem? (i := 123) rfl))) (mvT hZ (hw _ (List.mem_of_getElem? (i := 124) rfl))) (nf_top (args := #[]) (mvT hZ (hw _ (List.mem_of_getElem? (i := 100) rfl)))) (mvT hZ (hw _ (List.mem_of_getElem? (i := 126) rfl))) (mvT hZ (hw _ (List.mem_of_getElem? (i := 125) rfl))) (mvT hZ (hw _ (List.mem_of_getElem? (i := 127) rfl))) q1a q1c q1d q1e (g := (mkF m 3 #[.val (.ref a1), .val (.int (3 : Int32))] [(.ref a1), (.int (3 : Int32)), (.ref a1)])) rfl (by rw [hml]; rfl) rfl (hb hby d18_3) (by decide) (by show 2 * 0 + _ + _ ≤ _; exact (by decide : 2 + (nativeFrameWords "java/lang/Object" "getClass" 1 + 11) ≤ 33))
  have e1 : (s₁.setVm vm1).heap = h0 := e0
  refine own_step (T' := (s₁.setVm vm1)) (g' := (mkF m 6 #[.val (.ref a1), .val (.int (3 : Int32))] [(.ref mr), (.int (3 : Int32)), (.ref a1)])) st1 ?_
  obtain ⟨_, _, ⟨T7, L7, k7, n7⟩, -, X7, ⟨Lc7, hQ7, lq7, yq7, zq7⟩, st7⟩ := Jvm.LawKit.callS X1 hx (y := (⟨"java/util/Arrays", "copyOf", "([Ljava/lang/Object;ILjava/lang/Class;)[Ljava/lang/Object;"⟩ : MethodName)) hown (mvT hZ (hw _ (List.mem_of_getElem? (i := 129) rfl))) (mvT hZ (hw _ (List.mem_of_getElem? (i := 130) rfl))) (mvT hZ (hw _ (List.mem_of_getElem? (i := 121) rfl))) (mvT hZ (hw _ (List.mem_of_getElem? (i := 131) rfl))) (by decide) (backOf (W := 0) (rm_cp3_3 l Z a0 hw [] a1 ka y0 y1 y2 mr h0 n0 Z0 F_0 F_1 F_2 F_3 F_4 M_o) hZ (hw _ (List.mem_of_getElem? (i := 131) rfl)) (hw _ (List.mem_of_getElem? (i := 121) rfl)) (by decide) (by decide)) (g := (mkF m 6 #[.val (.ref a1), .val (.int (3 : Int32))] [(.ref mr), (.int (3 : Int32)), (.ref a1)])) rfl (by rw [hml]; rfl) (argsL := [(.ref a1), (.int (3 : Int32)), (.ref mr)]) (rest := []) (lenOf pd_6 rfl) rfl (by show 2 * 0 + _ ≤ _; exact Nat.le_of_eq rfl) (hb hby d18_6) (fun _ _ => ⟨rfl, e1, (by decide : 0 + 1 ≤ _), (by decide : 0 + 3 ≤ _)⟩)
  dsimp only [Pt.U, Pt.locs, Pt.cells, Pt.slots] at X7 lq7 yq7 zq7 st7 hQ7
  subst lq7 yq7 zq7
  obtain ⟨b_2, kb_2, rfl, Nq7, K3, fz_b_2, g4, g5, g6⟩ := hQ7
  have N7 := Fr.app N0 Nq7
  have oz_b_2 : n0 ≤ b_2 := Nat.le_trans Z0 fz_b_2
  have nz_a1_b_2 : a1 ≠ b_2 := Nat.ne_of_lt (Nat.lt_of_lt_of_le F_0.lt fz_b_2)
  have nz_y0_b_2 : y0 ≠ b_2 := Nat.ne_of_lt (Nat.lt_of_lt_of_le F_2.lt fz_b_2)
  have nz_y1_b_2 : y1 ≠ b_2 := Nat.ne_of_lt (Nat.lt_of_lt_of_le F_3.lt fz_b_2)
  have nz_y2_b_2 : y2 ≠ b_2 := Nat.ne_of_lt (Nat.lt_of_lt_of_le F_4.lt fz_b_2)
  have fr_b_2 : h0.size ≤ b_2 := Nat.le_trans K0.1 fz_b_2
  have g8 : Arv Z T7.heap a1 ka (.object "java/lang/Object") (10 : Int32) [(.ref y0), (.ref y1), (.ref y2), .null, .null, .null, .null, .null, .null, .null] .null := F_0.keep K3 nin0
  have g9 : Exa Z T7.heap a1 "[Ljava/lang/Object;" := F_1.keep K3
  have g10 : Exa Z T7.heap y0 "com/example/kempt_cursor/kemptcursor/Keyed" := F_2.keep K3
  have g11 : Exa Z T7.heap y1 "com/example/kempt_cursor/kemptcursor/Keyed" := F_3.keep K3
  have g12 : Exa Z T7.heap y2 "com/example/kempt_cursor/kemptcursor/Keyed" := F_4.keep K3
  have Z3 : n0 ≤ T7.heap.size := (Nat.le_trans Z0 K3.1)
  have K13 : Keep h0 T7.heap [] := K0.trans K3 (all0 (P := fun x => x ∈ [] ∨ h0.size ≤ x))
  refine own_step (T' := T7) (g' := (mkF m 9 #[.val (.ref a1), .val (.int (3 : Int32))] [(.ref b_2)])) st7 ?_
  refine own_rA X7 hx hlk Bd.returns rfl (w := (.ref b_2)) rfl (hb hby d18_9) ?_ (by decide) (by decide)
  exact ⟨b_2, kb_2, rfl, N7, K13, fr_b_2, g4, g5, g6⟩
def Q_toa_3 (Z : State) (a0s : Addr) (a1 : Addr) (ka : ClassId) (y0 : Addr) (y1 : Addr) (y2 : Addr) (mr : Addr) (h0 : Heap) (n0 : Nat) (v : Option Value) (h : Heap) (L : List Loc) : Prop := ∃ (b : Addr) (kb : ClassId), v = some (.ref b) ∧ Fr n0 L ∧ Keep h0 h [] ∧ h0.size ≤ b ∧ Arv Z h b kb (.object "java/lang/Object") (3 : Int32) [(.ref y0), (.ref y1), (.ref y2)] .null ∧ Exa Z h b "[Ljava/lang/Object;" ∧ Ovr Z kb "java/lang/Object"
theorem ef_rm_toa_3 (m : MethodId) (x0 : Addr) : entryFrame m #[(.ref x0)] 1 = mkF m 0 #[.val (.ref x0)] [] := by first | (simp [entryFrame, mkF, argsToLocals, Value.category]; done) | rfl | (simp [entryFrame, mkF, argsToLocals, Value.category] <;> rfl)
set_option maxRecDepth 65536 in
set_option maxHeartbeats 40000000 in
theorem rm_toa_3 (l : Launch) (Z : State) (a0 : Array Value) (hw : ∀ d ∈ tables_1, d.before a0 Z = true) (ws : List Jvm.Cond) (a0s : Addr) (a1 : Addr) (ka : ClassId) (y0 : Addr) (y1 : Addr) (y2 : Addr) (mr : Addr) (h0 : Heap) (n0 : Nat) (Z0 : n0 ≤ h0.size) (F_0 : Fld Z h0 a0s "java/util/ArrayList" "elementData" "[Ljava/lang/Object;" (.ref a1)) (F_1 : Fld Z h0 a0s "java/util/ArrayList" "size" "I" (.int (3 : Int32))) (F_2 : Arv Z h0 a1 ka (.object "java/lang/Object") (10 : Int32) [(.ref y0), (.ref y1), (.ref y2), .null, .null, .null, .null, .null, .null, .null] .null) (F_3 : Exa Z h0 a1 "[Ljava/lang/Object;") (F_4 : Exa Z h0 y0 "com/example/kempt_cursor/kemptcursor/Keyed") (F_5 : Exa Z h0 y1 "com/example/kempt_cursor/kemptcursor/Keyed") (F_6 : Exa Z h0 y2 "com/example/kempt_cursor/kemptcursor/Keyed") (M_o : own_Mir Z "[Ljava/lang/Object;" mr) :
    MetFree l (⟨"java/util/ArrayList", "toArray", "()[Ljava/lang/Object;"⟩ : MethodName) (head1 (Jvm.Cond.code (⟨"java/util/ArrayList", "toArray", "()[Ljava/lang/Object;"⟩ : MethodName) jdk_38_method_16_code 1 (some (.array (.object "java/lang/Object"))) :: ws) ({ frames := 3, cells := 1, slots := 3, locals := 46 } : Room)) (fun a U => a = #[(.ref a0s)] ∧ Z.Warmed39 U.vm ∧ U.heap = h0) (fun _ _ _ _ _ => True) (fun _ U o U' => ∃ v L, o = .returned v ∧ (Q_toa_3 Z a0s a1 ka y0 y1 y2 mr h0 n0) v U'.heap L ∧ FrameEnd U o U' L ({ frames := 3, cells := 1, slots := 3, locals := 46 } : Room).cells ({ frames := 3, cells := 1, slots := 3, locals := 46 } : Room).slots) := by
  refine MetFree.of_bodySF (plainFor_of_name pn_7) hisR ?_
  intro p e s m args below meth c s₁ Bd hml0 hP hK
  obtain ⟨rfl, hZ, hh⟩ := hP
  have hx := Bd.exec
  have hby := Bd.bytes
  have hlk : meth.locks = false := BodyLoose.notSynchronized Bd
  have hml : c.maxLocals = 1 := hml0
  have hown : s.vm.findClass "java/util/ArrayList" = some m.cls := findClass_of_methodNamed Bd.named
  have hnm := (name_of_methodNamed Bd.named Bd.method).1
  have X0 : Stand p l e ({ frames := 3, cells := 1, slots := 3, locals := 46 } : Room) s m #[(.ref a0s)] below meth c s₁ [] 0 0 := Stand.of_body Bd
  have e0 : s₁.heap = h0 := by rw [← hh, Bd.state]; rfl
  have N0 := Fr.nil n0
  show own_Go p e below s (Q_toa_3 Z a0s a1 ka y0 y1 y2 mr h0 n0) ({ frames := 3, cells := 1, slots := 3, locals := 46 } : Room).cells ({ frames := 3, cells := 1, slots := 3, locals := 46 } : Room).slots s₁ (entryFrame m #[(.ref a0s)] 1)
  refine own_cast (g' := (mkF m 0 #[.val (.ref a0s)] [])) (ef_rm_toa_3 m a0s) ?_
  have K0 : Keep h0 h0 [] := Keep.refl _ _
  refine own_step (T' := s₁) (g' := (mkF m 1 #[.val (.ref a0s)] [(.ref a0s)])) (fun t k => XS.aloadN X0.here hx rfl (hb hby d17_0) rfl rfl k) ?_
  obtain ⟨T1, X1, e1, st1⟩ := getF X0 hx hZ hown (host := "") (Or.inl (hw _ (List.mem_of_getElem? (i := 25) rfl))) Via.refl e0 F_0 (g := (mkF m 1 #[.val (.ref a0s)] [(.ref a0s)])) rfl rfl (hb hby d17_1)
  refine own_step (T' := T1) (g' := (mkF m 4 #[.val (.ref a0s)] [(.ref a1)])) st1 ?_
  refine own_step (T' := T1) (g' := (mkF m 5 #[.val (.ref a0s)] [(.ref a0s), (.ref a1)])) (fun t k => XS.aloadN X1.here hx rfl (hb hby d17_4) rfl rfl k) ?_
  obtain ⟨T2, X2, e2, st2⟩ := getF X1 hx hZ hown (host := "") (Or.inl (hw _ (List.mem_of_getElem? (i := 57) rfl))) Via.refl e1 F_1 (g := (mkF m 5 #[.val (.ref a0s)] [(.ref a0s), (.ref a1)])) rfl rfl (hb hby d17_5)
  refine own_step (T' := T2) (g' := (mkF m 8 #[.val (.ref a0s)] [(.int (3 : Int32)), (.ref a1)])) st2 ?_
  obtain ⟨_, _, ⟨T8, L8, k8, n8⟩, -, X8, ⟨Lc8, hQ8, lq8, yq8, zq8⟩, st8⟩ := Jvm.LawKit.callS X2 hx (y := (⟨"java/util/Arrays", "copyOf", "([Ljava/lang/Object;I)[Ljava/lang/Object;"⟩ : MethodName)) hown (mvT hZ (hw _ (List.mem_of_getElem? (i := 119) rfl))) (mvT hZ (hw _ (List.mem_of_getElem? (i := 120) rfl))) (mvT hZ (hw _ (List.mem_of_getElem? (i := 121) rfl))) (mvT hZ (hw _ (List.mem_of_getElem? (i := 122) rfl))) (by decide) (backOf (W := 0) (rm_cp2_3 l Z a0 hw [] a1 ka y0 y1 y2 mr h0 n0 Z0 F_2 F_3 F_4 F_5 F_6 M_o) hZ (hw _ (List.mem_of_getElem? (i := 122) rfl)) (hw _ (List.mem_of_getElem? (i := 121) rfl)) (by decide) (by decide)) (g := (mkF m 8 #[.val (.ref a0s)] [(.int (3 : Int32)), (.ref a1)])) rfl (by rw [hml]; rfl) (argsL := [(.ref a1), (.int (3 : Int32))]) (rest := []) (lenOf pd_7 rfl) rfl (by show 2 * 0 + _ ≤ _; exact Nat.le_of_eq rfl) (hb hby d17_8) (fun _ _ => ⟨rfl, e2, (by decide : 0 + 1 ≤ _), (by decide : 0 + 3 ≤ _)⟩)
  dsimp only [Pt.U, Pt.locs, Pt.cells, Pt.slots] at X8 lq8 yq8 zq8 st8 hQ8
  subst lq8 yq8 zq8
  obtain ⟨b_3, kb_3, rfl, Nq8, K4, fz_b_3, g5, g6, g7⟩ := hQ8
  have N8 := Fr.app N0 Nq8
  have oz_b_3 : n0 ≤ b_3 := Nat.le_trans Z0 fz_b_3
  have nz_a0s_b_3 : a0s ≠ b_3 := Nat.ne_of_lt (Nat.lt_of_lt_of_le F_0.lt fz_b_3)
  have nz_a1_b_3 : a1 ≠ b_3 := Nat.ne_of_lt (Nat.lt_of_lt_of_le F_2.lt fz_b_3)
  have nz_y0_b_3 : y0 ≠ b_3 := Nat.ne_of_lt (Nat.lt_of_lt_of_le F_4.lt fz_b_3)
  have nz_y1_b_3 : y1 ≠ b_3 := Nat.ne_of_lt (Nat.lt_of_lt_of_le F_5.lt fz_b_3)
  have nz_y2_b_3 : y2 ≠ b_3 := Nat.ne_of_lt (Nat.lt_of_lt_of_le F_6.lt fz_b_3)
  have fr_b_3 : h0.size ≤ b_3 := Nat.le_trans K0.1 fz_b_3
  have g9 : Fld Z T8.heap a0s "java/util/ArrayList" "elementData" "[Ljava/lang/Object;" (.ref a1) := F_0.keep K4 nin0
  have g10 : Fld Z T8.heap a0s "java/util/ArrayList" "size" "I" (.int (3 : Int32)) := F_1.keep K4 nin0
  have g11 : Arv Z T8.heap a1 ka (.object "java/lang/Object") (10 : Int32) [(.ref y0), (.ref y1), (.ref y2), .null, .null, .null, .null, .null, .null, .null] .null := F_2.keep K4 nin0
  have g12 : Exa Z T8.heap a1 "[Ljava/lang/Object;" := F_3.keep K4
  have g13 : Exa Z T8.heap y0 "com/example/kempt_cursor/kemptcursor/Keyed" := F_4.keep K4
  have g14 : Exa Z T8.heap y1 "com/example/kempt_cursor/kemptcursor/Keyed" := F_5.keep K4
  have g15 : Exa Z T8.heap y2 "com/example/kempt_cursor/kemptcursor/Keyed" := F_6.keep K4
  have Z4 : n0 ≤ T8.heap.size := (Nat.le_trans Z0 K4.1)
  have K16 : Keep h0 T8.heap [] := K0.trans K4 (all0 (P := fun x => x ∈ [] ∨ h0.size ≤ x))
  refine own_step (T' := T8) (g' := (mkF m 11 #[.val (.ref a0s)] [(.ref b_3)])) st8 ?_
  refine own_rA X8 hx hlk Bd.returns rfl (w := (.ref b_3)) rfl (hb hby d17_11) ?_ (by decide) (by decide)
  exact ⟨b_3, kb_3, rfl, N8, K16, fr_b_3, g5, g6, g7⟩
def Q_emp_0 (Z : State) (a0s : Addr) (h0 : Heap) (n0 : Nat) (v : Option Value) (h : Heap) (L : List Loc) : Prop := v = some (.int (1 : Int32)) ∧ Fr n0 L ∧ h = h0
theorem ef_rm_emp_0 (m : MethodId) (x0 : Addr) : entryFrame m #[(.ref x0)] 1 = mkF m 0 #[.val (.ref x0)] [] := by first | (simp [entryFrame, mkF, argsToLocals, Value.category]; done) | rfl | (simp [entryFrame, mkF, argsToLocals, Value.category] <;> rfl)
theorem d16_0 : decode jdk_38_method_9_code 0 = .ok (.aload_n 0, 1) := by decide +kernel
theorem d16_1 : decode jdk_38_method_9_code 1 = .ok (.getfield 48, 3) := by decide +kernel
theorem d16_4 : decode jdk_38_method_9_code 4 = .ok (.ifCond .ne 7, 3) := by decide +kernel
theorem d16_7 : decode jdk_38_method_9_code 7 = .ok (.iconst 1, 1) := by decide +kernel
theorem d16_8 : decode jdk_38_method_9_code 8 = .ok (.goto 4, 3) := by decide +kernel
theorem d16_12 : decode jdk_38_method_9_code 12 = .ok (.ireturn, 1) := by decide +kernel
set_option maxRecDepth 65536 in
set_option maxHeartbeats 40000000 in
theorem rm_emp_0 (l : Launch) (Z : State) (a0 : Array Value) (hw : ∀ d ∈ tables_1, d.before a0 Z = true) (ws : List Jvm.Cond) (a0s : Addr) (h0 : Heap) (n0 : Nat) (Z0 : n0 ≤ h0.size) (F_0 : Fld Z h0 a0s "java/util/ArrayList" "size" "I" (.int (0 : Int32))) :
    MetFree l (⟨"java/util/ArrayList", "isEmpty", "()Z"⟩ : MethodName) (head1 (Jvm.Cond.code (⟨"java/util/ArrayList", "isEmpty", "()Z"⟩ : MethodName) jdk_38_method_9_code 1 (some (.boolean)) :: ws) ({ frames := 0, cells := 0, slots := 0, locals := 0 } : Room)) (fun a U => a = #[(.ref a0s)] ∧ Z.Warmed39 U.vm ∧ U.heap = h0) (fun _ _ _ _ _ => True) (fun _ U o U' => ∃ v L, o = .returned v ∧ (Q_emp_0 Z a0s h0 n0) v U'.heap L ∧ FrameEnd U o U' L ({ frames := 0, cells := 0, slots := 0, locals := 0 } : Room).cells ({ frames := 0, cells := 0, slots := 0, locals := 0 } : Room).slots) := by
  refine MetFree.of_bodySF (plainFor_of_name pn_7) hisR ?_
  intro p e s m args below meth c s₁ Bd hml0 hP hK
  obtain ⟨rfl, hZ, hh⟩ := hP
  have hx := Bd.exec
  have hby := Bd.bytes
  have hlk : meth.locks = false := BodyLoose.notSynchronized Bd
  have hml : c.maxLocals = 1 := hml0
  have hown : s.vm.findClass "java/util/ArrayList" = some m.cls := findClass_of_methodNamed Bd.named
  have hnm := (name_of_methodNamed Bd.named Bd.method).1
  have X0 : Stand p l e ({ frames := 0, cells := 0, slots := 0, locals := 0 } : Room) s m #[(.ref a0s)] below meth c s₁ [] 0 0 := Stand.of_body Bd
  have e0 : s₁.heap = h0 := by rw [← hh, Bd.state]; rfl
  have N0 := Fr.nil n0
  show own_Go p e below s (Q_emp_0 Z a0s h0 n0) ({ frames := 0, cells := 0, slots := 0, locals := 0 } : Room).cells ({ frames := 0, cells := 0, slots := 0, locals := 0 } : Room).slots s₁ (entryFrame m #[(.ref a0s)] 1)
  refine own_cast (g' := (mkF m 0 #[.val (.ref a0s)] [])) (ef_rm_emp_0 m a0s) ?_
  refine own_step (T' := s₁) (g' := (mkF m 1 #[.val (.ref a0s)] [(.ref a0s)])) (fun t k => XS.aloadN X0.here hx rfl (hb hby d16_0) rfl rfl k) ?_
  obtain ⟨T1, X1, e1, st1⟩ := getF X0 hx hZ hown (host := "") (Or.inl (hw _ (List.mem_of_getElem? (i := 57) rfl))) Via.refl e0 F_0 (g := (mkF m 1 #[.val (.ref a0s)] [(.ref a0s)])) rfl rfl (hb hby d16_1)
  refine own_step (T' := T1) (g' := (mkF m 4 #[.val (.ref a0s)] [(.int (0 : Int32))])) st1 ?_
  refine own_step (T' := T1) (g' := (mkF m 7 #[.val (.ref a0s)] [])) (fun t k => XS.ifNo X1.here hx rfl (hb hby d16_4) rfl ((if0 _ _).trans (teq (by decide : ((0 : Int32) = (0 : Int32)))).2) k) ?_
  refine own_step (T' := T1) (g' := (mkF m 8 #[.val (.ref a0s)] [(.int (1 : Int32))])) (fun t k => XS.iconst X1.here hx rfl (hb hby d16_7) k) ?_
  refine own_step (T' := T1) (g' := (mkF m 12 #[.val (.ref a0s)] [(.int (1 : Int32))])) (fun t k => XS.goto X1.here hx rfl (pc0 := 8) (pc' := 12) rfl (hb hby d16_8) (by decide) (by decide) k) ?_
  refine own_rN X1 hx hlk Bd.returns (by simp) (hb hby d16_12) ?_ (by decide) (by decide)
  rw [e1]
  exact ⟨rfl, N0, rfl⟩
def Q_emp_1 (Z : State) (a0s : Addr) (h0 : Heap) (n0 : Nat) (v : Option Value) (h : Heap) (L : List Loc) : Prop := v = some (.int (0 : Int32)) ∧ Fr n0 L ∧ h = h0
theorem ef_rm_emp_1 (m : MethodId) (x0 : Addr) : entryFrame m #[(.ref x0)] 1 = mkF m 0 #[.val (.ref x0)] [] := by first | (simp [entryFrame, mkF, argsToLocals, Value.category]; done) | rfl | (simp [entryFrame, mkF, argsToLocals, Value.category] <;> rfl)
theorem d16_11 : decode jdk_38_method_9_code 11 = .ok (.iconst 0, 1) := by decide +kernel
set_option maxRecDepth 65536 in
set_option maxHeartbeats 40000000 in
theorem rm_emp_1 (l : Launch) (Z : State) (a0 : Array Value) (hw : ∀ d ∈ tables_1, d.before a0 Z = true) (ws : List Jvm.Cond) (a0s : Addr) (h0 : Heap) (n0 : Nat) (Z0 : n0 ≤ h0.size) (F_0 : Fld Z h0 a0s "java/util/ArrayList" "size" "I" (.int (1 : Int32))) :
    MetFree l (⟨"java/util/ArrayList", "isEmpty", "()Z"⟩ : MethodName) (head1 (Jvm.Cond.code (⟨"java/util/ArrayList", "isEmpty", "()Z"⟩ : MethodName) jdk_38_method_9_code 1 (some (.boolean)) :: ws) ({ frames := 0, cells := 0, slots := 0, locals := 0 } : Room)) (fun a U => a = #[(.ref a0s)] ∧ Z.Warmed39 U.vm ∧ U.heap = h0) (fun _ _ _ _ _ => True) (fun _ U o U' => ∃ v L, o = .returned v ∧ (Q_emp_1 Z a0s h0 n0) v U'.heap L ∧ FrameEnd U o U' L ({ frames := 0, cells := 0, slots := 0, locals := 0 } : Room).cells ({ frames := 0, cells := 0, slots := 0, locals := 0 } : Room).slots) := by
  refine MetFree.of_bodySF (plainFor_of_name pn_7) hisR ?_
  intro p e s m args below meth c s₁ Bd hml0 hP hK
  obtain ⟨rfl, hZ, hh⟩ := hP
  have hx := Bd.exec
  have hby := Bd.bytes
  have hlk : meth.locks = false := BodyLoose.notSynchronized Bd
  have hml : c.maxLocals = 1 := hml0
  have hown : s.vm.findClass "java/util/ArrayList" = some m.cls := findClass_of_methodNamed Bd.named
  have hnm := (name_of_methodNamed Bd.named Bd.method).1
  have X0 : Stand p l e ({ frames := 0, cells := 0, slots := 0, locals := 0 } : Room) s m #[(.ref a0s)] below meth c s₁ [] 0 0 := Stand.of_body Bd
  have e0 : s₁.heap = h0 := by rw [← hh, Bd.state]; rfl
  have N0 := Fr.nil n0
  show own_Go p e below s (Q_emp_1 Z a0s h0 n0) ({ frames := 0, cells := 0, slots := 0, locals := 0 } : Room).cells ({ frames := 0, cells := 0, slots := 0, locals := 0 } : Room).slots s₁ (entryFrame m #[(.ref a0s)] 1)
  refine own_cast (g' := (mkF m 0 #[.val (.ref a0s)] [])) (ef_rm_emp_1 m a0s) ?_
  refine own_step (T' := s₁) (g' := (mkF m 1 #[.val (.ref a0s)] [(.ref a0s)])) (fun t k => XS.aloadN X0.here hx rfl (hb hby d16_0) rfl rfl k) ?_
  obtain ⟨T1, X1, e1, st1⟩ := getF X0 hx hZ hown (host := "") (Or.inl (hw _ (List.mem_of_getElem? (i := 57) rfl))) Via.refl e0 F_0 (g := (mkF m 1 #[.val (.ref a0s)] [(.ref a0s)])) rfl rfl (hb hby d16_1)
  refine own_step (T' := T1) (g' := (mkF m 4 #[.val (.ref a0s)] [(.int (1 : Int32))])) st1 ?_
  refine own_step (T' := T1) (g' := (mkF m 11 #[.val (.ref a0s)] [])) (fun t k => XS.ifYes X1.here hx rfl (pc0 := 4) (pc' := 11) rfl (hb hby d16_4) rfl ((if0 _ _).trans (feq (by decide : ¬ ((1 : Int32) = (0 : Int32)))).2) (by decide) (by decide) k) ?_
  refine own_step (T' := T1) (g' := (mkF m 12 #[.val (.ref a0s)] [(.int (0 : Int32))])) (fun t k => XS.iconst X1.here hx rfl (hb hby d16_11) k) ?_
  refine own_rN X1 hx hlk Bd.returns (by simp) (hb hby d16_12) ?_ (by decide) (by decide)
  rw [e1]
  exact ⟨rfl, N0, rfl⟩
def Q_emp_2 (Z : State) (a0s : Addr) (h0 : Heap) (n0 : Nat) (v : Option Value) (h : Heap) (L : List Loc) : Prop := v = some (.int (0 : Int32)) ∧ Fr n0 L ∧ h = h0
theorem ef_rm_emp_2 (m : MethodId) (x0 : Addr) : entryFrame m #[(.ref x0)] 1 = mkF m 0 #[.val (.ref x0)] [] := by first | (simp [entryFrame, mkF, argsToLocals, Value.category]; done) | rfl | (simp [entryFrame, mkF, argsToLocals, Value.category] <;> rfl)
set_option maxRecDepth 65536 in
set_option maxHeartbeats 40000000 in
theorem rm_emp_2 (l : Launch) (Z : State) (a0 : Array Value) (hw : ∀ d ∈ tables_1, d.before a0 Z = true) (ws : List Jvm.Cond) (a0s : Addr) (h0 : Heap) (n0 : Nat) (Z0 : n0 ≤ h0.size) (F_0 : Fld Z h0 a0s "java/util/ArrayList" "size" "I" (.int (2 : Int32))) :
    MetFree l (⟨"java/util/ArrayList", "isEmpty", "()Z"⟩ : MethodName) (head1 (Jvm.Cond.code (⟨"java/util/ArrayList", "isEmpty", "()Z"⟩ : MethodName) jdk_38_method_9_code 1 (some (.boolean)) :: ws) ({ frames := 0, cells := 0, slots := 0, locals := 0 } : Room)) (fun a U => a = #[(.ref a0s)] ∧ Z.Warmed39 U.vm ∧ U.heap = h0) (fun _ _ _ _ _ => True) (fun _ U o U' => ∃ v L, o = .returned v ∧ (Q_emp_2 Z a0s h0 n0) v U'.heap L ∧ FrameEnd U o U' L ({ frames := 0, cells := 0, slots := 0, locals := 0 } : Room).cells ({ frames := 0, cells := 0, slots := 0, locals := 0 } : Room).slots) := by
  refine MetFree.of_bodySF (plainFor_of_name pn_7) hisR ?_
  intro p e s m args below meth c s₁ Bd hml0 hP hK
  obtain ⟨rfl, hZ, hh⟩ := hP
  have hx := Bd.exec
  have hby := Bd.bytes
  have hlk : meth.locks = false := BodyLoose.notSynchronized Bd
  have hml : c.maxLocals = 1 := hml0
  have hown : s.vm.findClass "java/util/ArrayList" = some m.cls := findClass_of_methodNamed Bd.named
  have hnm := (name_of_methodNamed Bd.named Bd.method).1
  have X0 : Stand p l e ({ frames := 0, cells := 0, slots := 0, locals := 0 } : Room) s m #[(.ref a0s)] below meth c s₁ [] 0 0 := Stand.of_body Bd
  have e0 : s₁.heap = h0 := by rw [← hh, Bd.state]; rfl
  have N0 := Fr.nil n0
  show own_Go p e below s (Q_emp_2 Z a0s h0 n0) ({ frames := 0, cells := 0, slots := 0, locals := 0 } : Room).cells ({ frames := 0, cells := 0, slots := 0, locals := 0 } : Room).slots s₁ (entryFrame m #[(.ref a0s)] 1)
  refine own_cast (g' := (mkF m 0 #[.val (.ref a0s)] [])) (ef_rm_emp_2 m a0s) ?_
  refine own_step (T' := s₁) (g' := (mkF m 1 #[.val (.ref a0s)] [(.ref a0s)])) (fun t k => XS.aloadN X0.here hx rfl (hb hby d16_0) rfl rfl k) ?_
  obtain ⟨T1, X1, e1, st1⟩ := getF X0 hx hZ hown (host := "") (Or.inl (hw _ (List.mem_of_getElem? (i := 57) rfl))) Via.refl e0 F_0 (g := (mkF m 1 #[.val (.ref a0s)] [(.ref a0s)])) rfl rfl (hb hby d16_1)
  refine own_step (T' := T1) (g' := (mkF m 4 #[.val (.ref a0s)] [(.int (2 : Int32))])) st1 ?_
  refine own_step (T' := T1) (g' := (mkF m 11 #[.val (.ref a0s)] [])) (fun t k => XS.ifYes X1.here hx rfl (pc0 := 4) (pc' := 11) rfl (hb hby d16_4) rfl ((if0 _ _).trans (feq (by decide : ¬ ((2 : Int32) = (0 : Int32)))).2) (by decide) (by decide) k) ?_
  refine own_step (T' := T1) (g' := (mkF m 12 #[.val (.ref a0s)] [(.int (0 : Int32))])) (fun t k => XS.iconst X1.here hx rfl (hb hby d16_11) k) ?_
  refine own_rN X1 hx hlk Bd.returns (by simp) (hb hby d16_12) ?_ (by decide) (by decide)
  rw [e1]
  exact ⟨rfl, N0, rfl⟩
def Q_emp_3 (Z : State) (a0s : Addr) (h0 : Heap) (n0 : Nat) (v : Option Value) (h : Heap) (L : List Loc) : Prop := v = some (.int (0 : Int32)) ∧ Fr n0 L ∧ h = h0
theorem ef_rm_emp_3 (m : MethodId) (x0 : Addr) : entryFrame m #[(.ref x0)] 1 = mkF m 0 #[.val (.ref x0)] [] := by first | (simp [entryFrame, mkF, argsToLocals, Value.category]; done) | rfl | (simp [entryFrame, mkF, argsToLocals, Value.category] <;> rfl)
set_option maxRecDepth 65536 in
set_option maxHeartbeats 40000000 in
theorem rm_emp_3 (l : Launch) (Z : State) (a0 : Array Value) (hw : ∀ d ∈ tables_1, d.before a0 Z = true) (ws : List Jvm.Cond) (a0s : Addr) (h0 : Heap) (n0 : Nat) (Z0 : n0 ≤ h0.size) (F_0 : Fld Z h0 a0s "java/util/ArrayList" "size" "I" (.int (3 : Int32))) :
    MetFree l (⟨"java/util/ArrayList", "isEmpty", "()Z"⟩ : MethodName) (head1 (Jvm.Cond.code (⟨"java/util/ArrayList", "isEmpty", "()Z"⟩ : MethodName) jdk_38_method_9_code 1 (some (.boolean)) :: ws) ({ frames := 0, cells := 0, slots := 0, locals := 0 } : Room)) (fun a U => a = #[(.ref a0s)] ∧ Z.Warmed39 U.vm ∧ U.heap = h0) (fun _ _ _ _ _ => True) (fun _ U o U' => ∃ v L, o = .returned v ∧ (Q_emp_3 Z a0s h0 n0) v U'.heap L ∧ FrameEnd U o U' L ({ frames := 0, cells := 0, slots := 0, locals := 0 } : Room).cells ({ frames := 0, cells := 0, slots := 0, locals := 0 } : Room).slots) := by
  refine MetFree.of_bodySF (plainFor_of_name pn_7) hisR ?_
  intro p e s m args below meth c s₁ Bd hml0 hP hK
  obtain ⟨rfl, hZ, hh⟩ := hP
  have hx := Bd.exec
  have hby := Bd.bytes
  have hlk : meth.locks = false := BodyLoose.notSynchronized Bd
  have hml : c.maxLocals = 1 := hml0
  have hown : s.vm.findClass "java/util/ArrayList" = some m.cls := findClass_of_methodNamed Bd.named
  have hnm := (name_of_methodNamed Bd.named Bd.method).1
  have X0 : Stand p l e ({ frames := 0, cells := 0, slots := 0, locals := 0 } : Room) s m #[(.ref a0s)] below meth c s₁ [] 0 0 := Stand.of_body Bd
  have e0 : s₁.heap = h0 := by rw [← hh, Bd.state]; rfl
  have N0 := Fr.nil n0
  show own_Go p e below s (Q_emp_3 Z a0s h0 n0) ({ frames := 0, cells := 0, slots := 0, locals := 0 } : Room).cells ({ frames := 0, cells := 0, slots := 0, locals := 0 } : Room).slots s₁ (entryFrame m #[(.ref a0s)] 1)
  refine own_cast (g' := (mkF m 0 #[.val (.ref a0s)] [])) (ef_rm_emp_3 m a0s) ?_
  refine own_step (T' := s₁) (g' := (mkF m 1 #[.val (.ref a0s)] [(.ref a0s)])) (fun t k => XS.aloadN X0.here hx rfl (hb hby d16_0) rfl rfl k) ?_
  obtain ⟨T1, X1, e1, st1⟩ := getF X0 hx hZ hown (host := "") (Or.inl (hw _ (List.mem_of_getElem? (i := 57) rfl))) Via.refl e0 F_0 (g := (mkF m 1 #[.val (.ref a0s)] [(.ref a0s)])) rfl rfl (hb hby d16_1)
  refine own_step (T' := T1) (g' := (mkF m 4 #[.val (.ref a0s)] [(.int (3 : Int32))])) st1 ?_
  refine own_step (T' := T1) (g' := (mkF m 11 #[.val (.ref a0s)] [])) (fun t k => XS.ifYes X1.here hx rfl (pc0 := 4) (pc' := 11) rfl (hb hby d16_4) rfl ((if0 _ _).trans (feq (by decide : ¬ ((3 : Int32) = (0 : Int32)))).2) (by decide) (by decide) k) ?_
  refine own_step (T' := T1) (g' := (mkF m 12 #[.val (.ref a0s)] [(.int (0 : Int32))])) (fun t k => XS.iconst X1.here hx rfl (hb hby d16_11) k) ?_
  refine own_rN X1 hx hlk Bd.returns (by simp) (hb hby d16_12) ?_ (by decide) (by decide)
  rw [e1]
  exact ⟨rfl, N0, rfl⟩
def Q_rnn (Z : State) (x : Addr) (h0 : Heap) (n0 : Nat) (v : Option Value) (h : Heap) (L : List Loc) : Prop := v = some (.ref x) ∧ Fr n0 L ∧ h = h0
theorem ef_rm_rnn (m : MethodId) (x0 : Addr) : entryFrame m #[(.ref x0)] 1 = mkF m 0 #[.val (.ref x0)] [] := by first | (simp [entryFrame, mkF, argsToLocals, Value.category]; done) | rfl | (simp [entryFrame, mkF, argsToLocals, Value.category] <;> rfl)
theorem pn_9 : plainName "java/util/Objects" = true := by first | (simp [plainName, overriddenIn]; done) | decide +kernel
theorem d25_0 : decode jdk_31_method_10_code 0 = .ok (.aload_n 0, 1) := by decide +kernel
theorem d25_1 : decode jdk_31_method_10_code 1 = .ok (.ifnonnull 11, 3) := by decide +kernel
theorem d25_12 : decode jdk_31_method_10_code 12 = .ok (.aload_n 0, 1) := by decide +kernel
theorem d25_13 : decode jdk_31_method_10_code 13 = .ok (.areturn, 1) := by decide +kernel
set_option maxRecDepth 65536 in
set_option maxHeartbeats 40000000 in
theorem rm_rnn (l : Launch) (Z : State) (a0 : Array Value) (hw : ∀ d ∈ tables_1, d.before a0 Z = true) (ws : List Jvm.Cond) (x : Addr) (h0 : Heap) (n0 : Nat) (Z0 : n0 ≤ h0.size)  :
    MetFree l (⟨"java/util/Objects", "requireNonNull", "(Ljava/lang/Object;)Ljava/lang/Object;"⟩ : MethodName) (head1 (Jvm.Cond.code (⟨"java/util/Objects", "requireNonNull", "(Ljava/lang/Object;)Ljava/lang/Object;"⟩ : MethodName) jdk_31_method_10_code 1 (some (.object "java/lang/Object")) :: ws) ({ frames := 0, cells := 0, slots := 0, locals := 0 } : Room)) (fun a U => a = #[(.ref x)] ∧ Z.Warmed39 U.vm ∧ U.heap = h0) (fun _ _ _ _ _ => True) (fun _ U o U' => ∃ v L, o = .returned v ∧ (Q_rnn Z x h0 n0) v U'.heap L ∧ FrameEnd U o U' L ({ frames := 0, cells := 0, slots := 0, locals := 0 } : Room).cells ({ frames := 0, cells := 0, slots := 0, locals := 0 } : Room).slots) := by
  refine MetFree.of_bodySF (plainFor_of_name pn_9) hisR ?_
  intro p e s m args below meth c s₁ Bd hml0 hP hK
  obtain ⟨rfl, hZ, hh⟩ := hP
  have hx := Bd.exec
  have hby := Bd.bytes
  have hlk : meth.locks = false := BodyLoose.notSynchronized Bd
  have hml : c.maxLocals = 1 := hml0
  have hown : s.vm.findClass "java/util/Objects" = some m.cls := findClass_of_methodNamed Bd.named
  have hnm := (name_of_methodNamed Bd.named Bd.method).1
  have X0 : Stand p l e ({ frames := 0, cells := 0, slots := 0, locals := 0 } : Room) s m #[(.ref x)] below meth c s₁ [] 0 0 := Stand.of_body Bd
  have e0 : s₁.heap = h0 := by rw [← hh, Bd.state]; rfl
  have N0 := Fr.nil n0
  show own_Go p e below s (Q_rnn Z x h0 n0) ({ frames := 0, cells := 0, slots := 0, locals := 0 } : Room).cells ({ frames := 0, cells := 0, slots := 0, locals := 0 } : Room).slots s₁ (entryFrame m #[(.ref x)] 1)
  refine own_cast (g' := (mkF m 0 #[.val (.ref x)] [])) (ef_rm_rnn m x) ?_
  refine own_step (T' := s₁) (g' := (mkF m 1 #[.val (.ref x)] [(.ref x)])) (fun t k => XS.aloadN X0.here hx rfl (hb hby d25_0) rfl rfl k) ?_
  refine own_step (T' := s₁) (g' := (mkF m 12 #[.val (.ref x)] [])) (fun t k => XS.ifnonnullYes X0.here hx rfl (pc0 := 1) (pc' := 12) rfl (hb hby d25_1) rfl (by decide) (by decide) k) ?_
  refine own_step (T' := s₁) (g' := (mkF m 13 #[.val (.ref x)] [(.ref x)])) (fun t k => XS.aloadN X0.here hx rfl (hb hby d25_12) rfl rfl k) ?_
  refine own_rA X0 hx hlk Bd.returns rfl (w := (.ref x)) rfl (hb hby d25_13) ?_ (by decide) (by decide)
  rw [e0]
  exact ⟨rfl, N0, rfl⟩
def Q_loe (Z : State) (el : Addr) (h0 : Heap) (n0 : Nat) (v : Option Value) (h : Heap) (L : List Loc) : Prop := v = some (.ref el) ∧ Fr n0 L ∧ h = h0
theorem ef_rm_loe (m : MethodId)  : entryFrame m #[] 0 = mkF m 0 #[] [] := by first | (simp [entryFrame, mkF, argsToLocals, Value.category]; done) | rfl | (simp [entryFrame, mkF, argsToLocals, Value.category] <;> rfl)
theorem pn_10 : plainName "java/util/List" = true := by first | (simp [plainName, overriddenIn]; done) | decide +kernel
theorem d27_0 : decode jdk_40_method_36_code 0 = .ok (.getstatic 90, 3) := by decide +kernel
theorem d27_3 : decode jdk_40_method_36_code 3 = .ok (.areturn, 1) := by decide +kernel
set_option maxRecDepth 65536 in
set_option maxHeartbeats 40000000 in
theorem rm_loe (l : Launch) (Z : State) (a0 : Array Value) (hw : ∀ d ∈ tables_1, d.before a0 Z = true) (ws : List Jvm.Cond) (el : Addr) (h0 : Heap) (n0 : Nat) (Z0 : n0 ≤ h0.size) (O0 : Old Z n0 h0) (S_el : Sta Z Z.heap "java/util/ImmutableCollections" "EMPTY_LIST" "Ljava/util/ImmutableCollections$ListN;" (.ref el)) :
    MetFree l (⟨"java/util/List", "of", "()Ljava/util/List;"⟩ : MethodName) (head1 (Jvm.Cond.code (⟨"java/util/List", "of", "()Ljava/util/List;"⟩ : MethodName) jdk_40_method_36_code 0 (some (.object "java/util/List")) :: ws) ({ frames := 0, cells := 0, slots := 0, locals := 0 } : Room)) (fun a U => a = #[] ∧ Z.Warmed39 U.vm ∧ U.heap = h0) (fun _ _ _ _ _ => True) (fun _ U o U' => ∃ v L, o = .returned v ∧ (Q_loe Z el h0 n0) v U'.heap L ∧ FrameEnd U o U' L ({ frames := 0, cells := 0, slots := 0, locals := 0 } : Room).cells ({ frames := 0, cells := 0, slots := 0, locals := 0 } : Room).slots) := by
  refine MetFree.of_bodySF (plainFor_of_name pn_10) hisR ?_
  intro p e s m args below meth c s₁ Bd hml0 hP hK
  obtain ⟨rfl, hZ, hh⟩ := hP
  have hx := Bd.exec
  have hby := Bd.bytes
  have hlk : meth.locks = false := BodyLoose.notSynchronized Bd
  have hml : c.maxLocals = 0 := hml0
  have hown : s.vm.findClass "java/util/List" = some m.cls := findClass_of_methodNamed Bd.named
  have hnm := (name_of_methodNamed Bd.named Bd.method).1
  have X0 : Stand p l e ({ frames := 0, cells := 0, slots := 0, locals := 0 } : Room) s m #[] below meth c s₁ [] 0 0 := Stand.of_body Bd
  have e0 : s₁.heap = h0 := by rw [← hh, Bd.state]; rfl
  have N0 := Fr.nil n0
  show own_Go p e below s (Q_loe Z el h0 n0) ({ frames := 0, cells := 0, slots := 0, locals := 0 } : Room).cells ({ frames := 0, cells := 0, slots := 0, locals := 0 } : Room).slots s₁ (entryFrame m #[] 0)
  refine own_cast (g' := (mkF m 0 #[] [])) (ef_rm_loe m ) ?_
  obtain ⟨T1, X1, e1, st1⟩ := getS2 X0 hx hZ hown (host := "") (Or.inl (hw _ (List.mem_of_getElem? (i := 187) rfl))) Via.refl e0 (S_el.ext O0.2) (g := (mkF m 0 #[] [])) rfl (hb hby d27_0)
  refine own_step (T' := T1) (g' := (mkF m 3 #[] [(.ref el)])) st1 ?_
  refine own_rA X1 hx hlk Bd.returns rfl (w := (.ref el)) rfl (hb hby d27_3) ?_ (by decide) (by decide)
  rw [e1]
  exact ⟨rfl, N0, rfl⟩
def Q_i12a (Z : State) (a1 : Addr) (x : Addr) (em : Addr) (u1 : Value) (u2 : Value) (h0 : Heap) (n0 : Nat) (v : Option Value) (h : Heap) (L : List Loc) : Prop := v = none ∧ Fr n0 L ∧ Keep h0 h [a1] ∧ Exa Z h a1 "java/util/ImmutableCollections$List12"
theorem ef_rm_i12a (m : MethodId) (x0 : Addr) (x1 : Addr) : entryFrame m #[(.ref x0), (.ref x1)] 2 = mkF m 0 #[.val (.ref x0), .val (.ref x1)] [] := by first | (simp [entryFrame, mkF, argsToLocals, Value.category]; done) | rfl | (simp [entryFrame, mkF, argsToLocals, Value.category] <;> rfl)
theorem pn_11 : plainName "java/util/ImmutableCollections$List12" = true := by first | (simp [plainName, overriddenIn]; done) | decide +kernel
theorem d32_0 : decode jdk_44_method_1_code 0 = .ok (.aload_n 0, 1) := by decide +kernel
theorem d32_1 : decode jdk_44_method_1_code 1 = .ok (.invokespecial 1, 3) := by decide +kernel
theorem d32_4 : decode jdk_44_method_1_code 4 = .ok (.aload_n 0, 1) := by decide +kernel
theorem d32_5 : decode jdk_44_method_1_code 5 = .ok (.aload_n 1, 1) := by decide +kernel
theorem pd_8 : parseMethodDescriptor "(Ljava/lang/Object;)Ljava/lang/Object;" = some ⟨[.object "java/lang/Object"], some (.object "java/lang/Object")⟩ := by decide +kernel
theorem d32_6 : decode jdk_44_method_1_code 6 = .ok (.invokestatic 7, 3) := by decide +kernel
theorem d32_9 : decode jdk_44_method_1_code 9 = .ok (.putfield 13, 3) := by decide +kernel
theorem d32_12 : decode jdk_44_method_1_code 12 = .ok (.aload_n 0, 1) := by decide +kernel
theorem d32_13 : decode jdk_44_method_1_code 13 = .ok (.getstatic 19, 3) := by decide +kernel
theorem d32_16 : decode jdk_44_method_1_code 16 = .ok (.putfield 24, 3) := by decide +kernel
theorem d32_19 : decode jdk_44_method_1_code 19 = .ok (.return_, 1) := by decide +kernel
set_option maxRecDepth 65536 in
set_option maxHeartbeats 40000000 in
theorem rm_i12a (l : Launch) (Z : State) (a0 : Array Value) (hw : ∀ d ∈ tables_1, d.before a0 Z = true) (ws : List Jvm.Cond) (a1 : Addr) (x : Addr) (em : Addr) (u1 : Value) (u2 : Value) (h0 : Heap) (n0 : Nat) (Z0 : n0 ≤ h0.size) (F_0 : Exa Z h0 a1 "java/util/ImmutableCollections$List12") (F_1 : Fld Z h0 a1 "java/util/ImmutableCollections$List12" "e0" "Ljava/lang/Object;" u1) (F_2 : Fld Z h0 a1 "java/util/ImmutableCollections$List12" "e1" "Ljava/lang/Object;" u2) (o_a1 : n0 ≤ a1) (O0 : Old Z n0 h0) (S_em : Sta Z Z.heap "java/util/ImmutableCollections" "EMPTY" "Ljava/lang/Object;" (.ref em)) :
    MetFree l (⟨"java/util/ImmutableCollections$List12", "<init>", "(Ljava/lang/Object;)V"⟩ : MethodName) (head1 (Jvm.Cond.code (⟨"java/util/ImmutableCollections$List12", "<init>", "(Ljava/lang/Object;)V"⟩ : MethodName) jdk_44_method_1_code 2 none :: ws) ({ frames := 4, cells := 0, slots := 0, locals := 48 } : Room)) (fun a U => a = #[(.ref a1), (.ref x)] ∧ Z.Warmed39 U.vm ∧ U.heap = h0) (fun _ _ _ _ _ => True) (fun _ U o U' => ∃ v L, o = .returned v ∧ (Q_i12a Z a1 x em u1 u2 h0 n0) v U'.heap L ∧ FrameEnd U o U' L ({ frames := 4, cells := 0, slots := 0, locals := 48 } : Room).cells ({ frames := 4, cells := 0, slots := 0, locals := 48 } : Room).slots) := by
  refine MetFree.of_bodySF (plainFor_of_name pn_11) hisR ?_
  intro p e s m args below meth c s₁ Bd hml0 hP hK
  obtain ⟨rfl, hZ, hh⟩ := hP
  have hx := Bd.exec
  have hby := Bd.bytes
  have hlk : meth.locks = false := BodyLoose.notSynchronized Bd
  have hml : c.maxLocals = 2 := hml0
  have hown : s.vm.findClass "java/util/ImmutableCollections$List12" = some m.cls := findClass_of_methodNamed Bd.named
  have hnm := (name_of_methodNamed Bd.named Bd.method).1
  have X0 : Stand p l e ({ frames := 4, cells := 0, slots := 0, locals := 48 } : Room) s m #[(.ref a1), (.ref x)] below meth c s₁ [] 0 0 := Stand.of_body Bd
  have e0 : s₁.heap = h0 := by rw [← hh, Bd.state]; rfl
  have N0 := Fr.nil n0
  show own_Go p e below s (Q_i12a Z a1 x em u1 u2 h0 n0) ({ frames := 4, cells := 0, slots := 0, locals := 48 } : Room).cells ({ frames := 4, cells := 0, slots := 0, locals := 48 } : Room).slots s₁ (entryFrame m #[(.ref a1), (.ref x)] 2)
  refine own_cast (g' := (mkF m 0 #[.val (.ref a1), .val (.ref x)] [])) (ef_rm_i12a m a1 x) ?_
  have K0 : Keep h0 h0 [a1] := Keep.refl _ _
  refine own_step (T' := s₁) (g' := (mkF m 1 #[.val (.ref a1), .val (.ref x)] [(.ref a1)])) (fun t k => XS.aloadN X0.here hx rfl (hb hby d32_0) rfl rfl k) ?_
  obtain ⟨_, _, ⟨T2, L2, k2, n2⟩, -, X2, ⟨Lc2, hQ2, lq2, yq2, zq2⟩, st2⟩ := X0.specialBack hx (y := (⟨"java/util/ImmutableCollections$AbstractImmutableList", "<init>", "()V"⟩ : MethodName)) rfl hown (mvT hZ (hw _ (List.mem_of_getElem? (i := 151) rfl))) (mvT hZ (hw _ (List.mem_of_getElem? (i := 152) rfl))) (mvT hZ (hw _ (List.mem_of_getElem? (i := 156) rfl))) (by decide) (backOf (W := 0) (rm_ail l Z a0 hw [] a1 h0 n0 Z0 ) hZ (hw _ (List.mem_of_getElem? (i := 156) rfl)) (hw _ (List.mem_of_getElem? (i := 155) rfl)) (by decide) (by decide)) (g := (mkF m 1 #[.val (.ref a1), .val (.ref x)] [(.ref a1)])) rfl (by rw [hml]; rfl) (Steps.refl _) (a := a1) (argsL := []) (rest := []) (lenOf pd_0 rfl) rfl (by show 2 * 0 + _ ≤ _; exact Nat.le_of_eq rfl) (hb hby d32_1) (fun _ _ => ⟨rfl, e0, (by decide : 0 + 0 ≤ _), (by decide : 0 + 0 ≤ _)⟩)
  dsimp only [Pt.U, Pt.locs, Pt.cells, Pt.slots] at X2 lq2 yq2 zq2 st2 hQ2
  subst lq2 yq2 zq2
  obtain ⟨rfl, Nq2, eq1⟩ := hQ2
  have N2 := Fr.app N0 Nq2
  refine own_tr (T' := T2) (g' := (mkF m 4 #[.val (.ref a1), .val (.ref x)] [])) st2 ?_
  refine own_step (T' := T2) (g' := (mkF m 5 #[.val (.ref a1), .val (.ref x)] [(.ref a1)])) (fun t k => XS.aloadN X2.here hx rfl (hb hby d32_4) rfl rfl k) ?_
  refine own_step (T' := T2) (g' := (mkF m 6 #[.val (.ref a1), .val (.ref x)] [(.ref x), (.ref a1)])) (fun t k => XS.aloadN X2.here hx rfl (hb hby d32_5) rfl rfl k) ?_
  obtain ⟨_, _, ⟨T5, L5, k5, n5⟩, -, X5, ⟨Lc5, hQ5, lq5, yq5, zq5⟩, st5⟩ := Jvm.LawKit.callS X2 hx (y := (⟨"java/util/Objects", "requireNonNull", "(Ljava/lang/Object;)Ljava/lang/Object;"⟩ : MethodName)) hown (mvT hZ (hw _ (List.mem_of_getElem? (i := 165) rfl))) (mvT hZ (hw _ (List.mem_of_getElem? (i := 166) rfl))) (mvT hZ (hw _ (List.mem_of_getElem? (i := 167) rfl))) (mvT hZ (hw _ (List.mem_of_getElem? (i := 168) rfl))) (by decide) (backOf (W := 1) (rm_rnn l Z a0 hw [] x h0 n0 Z0 ) hZ (hw _ (List.mem_of_getElem? (i := 168) rfl)) (hw _ (List.mem_of_getElem? (i := 167) rfl)) (by decide) (by decide)) (g := (mkF m 6 #[.val (.ref a1), .val (.ref x)] [(.ref x), (.ref a1)])) rfl (by rw [hml]; rfl) (argsL := [(.ref x)]) (rest := [(.ref a1)]) (lenOf pd_8 rfl) rfl (by show 2 * 0 + _ ≤ _; exact Nat.le_of_eq rfl) (hb hby d32_6) (fun _ _ => ⟨rfl, eq1, (by decide : 0 + 0 ≤ _), (by decide : 0 + 0 ≤ _)⟩)
  dsimp only [Pt.U, Pt.locs, Pt.cells, Pt.slots] at X5 lq5 yq5 zq5 st5 hQ5
  subst lq5 yq5 zq5
  obtain ⟨rfl, Nq5, eq4⟩ := hQ5
  have N5 := Fr.app N2 Nq5
  refine own_step (T' := T5) (g' := (mkF m 9 #[.val (.ref a1), .val (.ref x)] [(.ref x), (.ref a1)])) st5 ?_
  obtain ⟨T6, h6, X6, e6, W6, st6⟩ := putF X5 hx hZ hown (host := "") (Or.inl (hw _ (List.mem_of_getElem? (i := 169) rfl))) Via.refl eq4 F_1 F_0 (Or.inr ⟨(hw _ (List.mem_of_getElem? (i := 170) rfl)), rfl, hnm⟩) (hw _ (List.mem_of_getElem? (i := 145) rfl)) (ty := .object "java/lang/Object") (by decide) rfl rfl (g := (mkF m 9 #[.val (.ref a1), .val (.ref x)] [(.ref x), (.ref a1)])) rfl rfl (hb hby d32_9)
  have g7 : Exa Z h6 a1 "java/util/ImmutableCollections$List12" := F_0.wr W6
  have g8 : Fld Z h6 a1 "java/util/ImmutableCollections$List12" "e0" "Ljava/lang/Object;" (.ref x) := F_1.same W6
  have g9 : Fld Z h6 a1 "java/util/ImmutableCollections$List12" "e1" "Ljava/lang/Object;" u2 := F_2.other W6 (Or.inr (slot_ne (Or.inr (hw _ (List.mem_of_getElem? (i := 172) rfl))) (Or.inr (hw _ (List.mem_of_getElem? (i := 170) rfl))) (by decide) (t := .object "java/lang/Object") (t' := .object "java/lang/Object") (by decide) (by decide)))
  have K10 : Keep h0 h6 [a1] := K0.wr W6 (Or.inl (List.mem_of_getElem? (i := 0) rfl))
  have N6 := Fr.snoc X6 N5 o_a1
  have Z6 : n0 ≤ h6.size := (Nat.le_trans Z0 (Nat.le_of_eq W6.size.symm))
  have O6 : Old Z n0 h6 := O0.wr W6 o_a1
  refine own_step (T' := T6) (g' := (mkF m 12 #[.val (.ref a1), .val (.ref x)] [])) st6 ?_
  refine own_step (T' := T6) (g' := (mkF m 13 #[.val (.ref a1), .val (.ref x)] [(.ref a1)])) (fun t k => XS.aloadN X6.here hx rfl (hb hby d32_12) rfl rfl k) ?_
  obtain ⟨T11, X11, e11, st11⟩ := getS2 X6 hx hZ hown (host := "java/util/ImmutableCollections") (Or.inr (hw _ (List.mem_of_getElem? (i := 225) rfl))) Via.refl e6 (S_em.ext O6.2) (g := (mkF m 13 #[.val (.ref a1), .val (.ref x)] [(.ref a1)])) rfl (hb hby d32_13)
  refine own_step (T' := T11) (g' := (mkF m 16 #[.val (.ref a1), .val (.ref x)] [(.ref em), (.ref a1)])) st11 ?_
  obtain ⟨T12, h12, X12, e12, W12, st12⟩ := putF X11 hx hZ hown (host := "") (Or.inl (hw _ (List.mem_of_getElem? (i := 171) rfl))) Via.refl e11 g9 g7 (Or.inr ⟨(hw _ (List.mem_of_getElem? (i := 172) rfl)), rfl, hnm⟩) (hw _ (List.mem_of_getElem? (i := 145) rfl)) (ty := .object "java/lang/Object") (by decide) rfl rfl (g := (mkF m 16 #[.val (.ref a1), .val (.ref x)] [(.ref em), (.ref a1)])) rfl rfl (hb hby d32_16)
  have g13 : Exa Z h12 a1 "java/util/ImmutableCollections$List12" := g7.wr W12
  have g14 : Fld Z h12 a1 "java/util/ImmutableCollections$List12" "e0" "Ljava/lang/Object;" (.ref x) := g8.other W12 (Or.inr (slot_ne (Or.inr (hw _ (List.mem_of_getElem? (i := 170) rfl))) (Or.inr (hw _ (List.mem_of_getElem? (i := 172) rfl))) (by decide) (t := .object "java/lang/Object") (t' := .object "java/lang/Object") (by decide) (by decide)))
  have g15 : Fld Z h12 a1 "java/util/ImmutableCollections$List12" "e1" "Ljava/lang/Object;" (.ref em) := g9.same W12
  have K16 : Keep h0 h12 [a1] := K10.wr W12 (Or.inl (List.mem_of_getElem? (i := 0) rfl))
  have N12 := Fr.snoc X12 N6 o_a1
  have Z12 : n0 ≤ h12.size := (Nat.le_trans Z6 (Nat.le_of_eq W12.size.symm))
  have O12 : Old Z n0 h12 := O6.wr W12 o_a1
  refine own_step (T' := T12) (g' := (mkF m 19 #[.val (.ref a1), .val (.ref x)] [])) st12 ?_
  refine own_rV X12 hx hlk Bd.returns (hb hby d32_19) ?_ (by decide) (by decide)
  rw [e12]
  exact ⟨rfl, N12, K16, g13⟩
def Q_i12b (Z : State) (a1 : Addr) (x : Addr) (y : Addr) (u1 : Value) (u2 : Value) (h0 : Heap) (n0 : Nat) (v : Option Value) (h : Heap) (L : List Loc) : Prop := v = none ∧ Fr n0 L ∧ Keep h0 h [a1] ∧ Exa Z h a1 "java/util/ImmutableCollections$List12"
theorem ef_rm_i12b (m : MethodId) (x0 : Addr) (x1 : Addr) (x2 : Addr) : entryFrame m #[(.ref x0), (.ref x1), (.ref x2)] 3 = mkF m 0 #[.val (.ref x0), .val (.ref x1), .val (.ref x2)] [] := by first | (simp [entryFrame, mkF, argsToLocals, Value.category]; done) | rfl | (simp [entryFrame, mkF, argsToLocals, Value.category] <;> rfl)
theorem d22_0 : decode jdk_44_method_2_code 0 = .ok (.aload_n 0, 1) := by decide +kernel
theorem d22_1 : decode jdk_44_method_2_code 1 = .ok (.invokespecial 1, 3) := by decide +kernel
theorem d22_4 : decode jdk_44_method_2_code 4 = .ok (.aload_n 0, 1) := by decide +kernel
theorem d22_5 : decode jdk_44_method_2_code 5 = .ok (.aload_n 1, 1) := by decide +kernel
theorem d22_6 : decode jdk_44_method_2_code 6 = .ok (.invokestatic 7, 3) := by decide +kernel
theorem d22_9 : decode jdk_44_method_2_code 9 = .ok (.putfield 13, 3) := by decide +kernel
theorem d22_12 : decode jdk_44_method_2_code 12 = .ok (.aload_n 0, 1) := by decide +kernel
theorem d22_13 : decode jdk_44_method_2_code 13 = .ok (.aload_n 2, 1) := by decide +kernel
theorem d22_14 : decode jdk_44_method_2_code 14 = .ok (.invokestatic 7, 3) := by decide +kernel
theorem d22_17 : decode jdk_44_method_2_code 17 = .ok (.putfield 24, 3) := by decide +kernel
theorem d22_20 : decode jdk_44_method_2_code 20 = .ok (.return_, 1) := by decide +kernel
set_option maxRecDepth 65536 in
set_option maxHeartbeats 40000000 in
theorem rm_i12b (l : Launch) (Z : State) (a0 : Array Value) (hw : ∀ d ∈ tables_1, d.before a0 Z = true) (ws : List Jvm.Cond) (a1 : Addr) (x : Addr) (y : Addr) (u1 : Value) (u2 : Value) (h0 : Heap) (n0 : Nat) (Z0 : n0 ≤ h0.size) (F_0 : Exa Z h0 a1 "java/util/ImmutableCollections$List12") (F_1 : Fld Z h0 a1 "java/util/ImmutableCollections$List12" "e0" "Ljava/lang/Object;" u1) (F_2 : Fld Z h0 a1 "java/util/ImmutableCollections$List12" "e1" "Ljava/lang/Object;" u2) (o_a1 : n0 ≤ a1) :
    MetFree l (⟨"java/util/ImmutableCollections$List12", "<init>", "(Ljava/lang/Object;Ljava/lang/Object;)V"⟩ : MethodName) (head1 (Jvm.Cond.code (⟨"java/util/ImmutableCollections$List12", "<init>", "(Ljava/lang/Object;Ljava/lang/Object;)V"⟩ : MethodName) jdk_44_method_2_code 3 none :: ws) ({ frames := 4, cells := 0, slots := 0, locals := 48 } : Room)) (fun a U => a = #[(.ref a1), (.ref x), (.ref y)] ∧ Z.Warmed39 U.vm ∧ U.heap = h0) (fun _ _ _ _ _ => True) (fun _ U o U' => ∃ v L, o = .returned v ∧ (Q_i12b Z a1 x y u1 u2 h0 n0) v U'.heap L ∧ FrameEnd U o U' L ({ frames := 4, cells := 0, slots := 0, locals := 48 } : Room).cells ({ frames := 4, cells := 0, slots := 0, locals := 48 } : Room).slots) := by
  refine MetFree.of_bodySF (plainFor_of_name pn_11) hisR ?_
  intro p e s m args below meth c s₁ Bd hml0 hP hK
  obtain ⟨rfl, hZ, hh⟩ := hP
  have hx := Bd.exec
  have hby := Bd.bytes
  have hlk : meth.locks = false := BodyLoose.notSynchronized Bd
  have hml : c.maxLocals = 3 := hml0
  have hown : s.vm.findClass "java/util/ImmutableCollections$List12" = some m.cls := findClass_of_methodNamed Bd.named
  have hnm := (name_of_methodNamed Bd.named Bd.method).1
  have X0 : Stand p l e ({ frames := 4, cells := 0, slots := 0, locals := 48 } : Room) s m #[(.ref a1), (.ref x), (.ref y)] below meth c s₁ [] 0 0 := Stand.of_body Bd
  have e0 : s₁.heap = h0 := by rw [← hh, Bd.state]; rfl
  have N0 := Fr.nil n0
  show own_Go p e below s (Q_i12b Z a1 x y u1 u2 h0 n0) ({ frames := 4, cells := 0, slots := 0, locals := 48 } : Room).cells ({ frames := 4, cells := 0, slots := 0, locals := 48 } : Room).slots s₁ (entryFrame m #[(.ref a1), (.ref x), (.ref y)] 3)
  refine own_cast (g' := (mkF m 0 #[.val (.ref a1), .val (.ref x), .val (.ref y)] [])) (ef_rm_i12b m a1 x y) ?_
  have K0 : Keep h0 h0 [a1] := Keep.refl _ _
  refine own_step (T' := s₁) (g' := (mkF m 1 #[.val (.ref a1), .val (.ref x), .val (.ref y)] [(.ref a1)])) (fun t k => XS.aloadN X0.here hx rfl (hb hby d22_0) rfl rfl k) ?_
  obtain ⟨_, _, ⟨T2, L2, k2, n2⟩, -, X2, ⟨Lc2, hQ2, lq2, yq2, zq2⟩, st2⟩ := X0.specialBack hx (y := (⟨"java/util/ImmutableCollections$AbstractImmutableList", "<init>", "()V"⟩ : MethodName)) rfl hown (mvT hZ (hw _ (List.mem_of_getElem? (i := 151) rfl))) (mvT hZ (hw _ (List.mem_of_getElem? (i := 152) rfl))) (mvT hZ (hw _ (List.mem_of_getElem? (i := 156) rfl))) (by decide) (backOf (W := 0) (rm_ail l Z a0 hw [] a1 h0 n0 Z0 ) hZ (hw _ (List.mem_of_getElem? (i := 156) rfl)) (hw _ (List.mem_of_getElem? (i := 155) rfl)) (by decide) (by decide)) (g := (mkF m 1 #[.val (.ref a1), .val (.ref x), .val (.ref y)] [(.ref a1)])) rfl (by rw [hml]; rfl) (Steps.refl _) (a := a1) (argsL := []) (rest := []) (lenOf pd_0 rfl) rfl (by show 2 * 0 + _ ≤ _; exact Nat.le_of_eq rfl) (hb hby d22_1) (fun _ _ => ⟨rfl, e0, (by decide : 0 + 0 ≤ _), (by decide : 0 + 0 ≤ _)⟩)
  dsimp only [Pt.U, Pt.locs, Pt.cells, Pt.slots] at X2 lq2 yq2 zq2 st2 hQ2
  subst lq2 yq2 zq2
  obtain ⟨rfl, Nq2, eq1⟩ := hQ2
  have N2 := Fr.app N0 Nq2
  refine own_tr (T' := T2) (g' := (mkF m 4 #[.val (.ref a1), .val (.ref x), .val (.ref y)] [])) st2 ?_
  refine own_step (T' := T2) (g' := (mkF m 5 #[.val (.ref a1), .val (.ref x), .val (.ref y)] [(.ref a1)])) (fun t k => XS.aloadN X2.here hx rfl (hb hby d22_4) rfl rfl k) ?_
  refine own_step (T' := T2) (g' := (mkF m 6 #[.val (.ref a1), .val (.ref x), .val (.ref y)] [(.ref x), (.ref a1)])) (fun t k => XS.aloadN X2.here hx rfl (hb hby d22_5) rfl rfl k) ?_
  obtain ⟨_, _, ⟨T5, L5, k5, n5⟩, -, X5, ⟨Lc5, hQ5, lq5, yq5, zq5⟩, st5⟩ := Jvm.LawKit.callS X2 hx (y := (⟨"java/util/Objects", "requireNonNull", "(Ljava/lang/Object;)Ljava/lang/Object;"⟩ : MethodName)) hown (mvT hZ (hw _ (List.mem_of_getElem? (i := 165) rfl))) (mvT hZ (hw _ (List.mem_of_getElem? (i := 166) rfl))) (mvT hZ (hw _ (List.mem_of_getElem? (i := 167) rfl))) (mvT hZ (hw _ (List.mem_of_getElem? (i := 168) rfl))) (by decide) (backOf (W := 1) (rm_rnn l Z a0 hw [] x h0 n0 Z0 ) hZ (hw _ (List.mem_of_getElem? (i := 168) rfl)) (hw _ (List.mem_of_getElem? (i := 167) rfl)) (by decide) (by decide)) (g := (mkF m 6 #[.val (.ref a1), .val (.ref x), .val (.ref y)] [(.ref x), (.ref a1)])) rfl (by rw [hml]; rfl) (argsL := [(.ref x)]) (rest := [(.ref a1)]) (lenOf pd_8 rfl) rfl (by show 2 * 0 + _ ≤ _; exact Nat.le_of_eq rfl) (hb hby d22_6) (fun _ _ => ⟨rfl, eq1, (by decide : 0 + 0 ≤ _), (by decide : 0 + 0 ≤ _)⟩)
  dsimp only [Pt.U, Pt.locs, Pt.cells, Pt.slots] at X5 lq5 yq5 zq5 st5 hQ5
  subst lq5 yq5 zq5
  obtain ⟨rfl, Nq5, eq4⟩ := hQ5
  have N5 := Fr.app N2 Nq5
  refine own_step (T' := T5) (g' := (mkF m 9 #[.val (.ref a1), .val (.ref x), .val (.ref y)] [(.ref x), (.ref a1)])) st5 ?_
  obtain ⟨T6, h6, X6, e6, W6, st6⟩ := putF X5 hx hZ hown (host := "") (Or.inl (hw _ (List.mem_of_getElem? (i := 169) rfl))) Via.refl eq4 F_1 F_0 (Or.inr ⟨(hw _ (List.mem_of_getElem? (i := 170) rfl)), rfl, hnm⟩) (hw _ (List.mem_of_getElem? (i := 145) rfl)) (ty := .object "java/lang/Object") (by decide) rfl rfl (g := (mkF m 9 #[.val (.ref a1), .val (.ref x), .val (.ref y)] [(.ref x), (.ref a1)])) rfl rfl (hb hby d22_9)
  have g7 : Exa Z h6 a1 "java/util/ImmutableCollections$List12" := F_0.wr W6
  have g8 : Fld Z h6 a1 "java/util/ImmutableCollections$List12" "e0" "Ljava/lang/Object;" (.ref x) := F_1.same W6
  have g9 : Fld Z h6 a1 "java/util/ImmutableCollections$List12" "e1" "Ljava/lang/Object;" u2 := F_2.other W6 (Or.inr (slot_ne (Or.inr (hw _ (List.mem_of_getElem? (i := 172) rfl))) (Or.inr (hw _ (List.mem_of_getElem? (i := 170) rfl))) (by decide) (t := .object "java/lang/Object") (t' := .object "java/lang/Object") (by decide) (by decide)))
  have K10 : Keep h0 h6 [a1] := K0.wr W6 (Or.inl (List.mem_of_getElem? (i := 0) rfl))
  have N6 := Fr.snoc X6 N5 o_a1
  have Z6 : n0 ≤ h6.size := (Nat.le_trans Z0 (Nat.le_of_eq W6.size.symm))
  refine own_step (T' := T6) (g' := (mkF m 12 #[.val (.ref a1), .val (.ref x), .val (.ref y)] [])) st6 ?_
  refine own_step (T' := T6) (g' := (mkF m 13 #[.val (.ref a1), .val (.ref x), .val (.ref y)] [(.ref a1)])) (fun t k => XS.aloadN X6.here hx rfl (hb hby d22_12) rfl rfl k) ?_
  refine own_step (T' := T6) (g' := (mkF m 14 #[.val (.ref a1), .val (.ref x), .val (.ref y)] [(.ref y), (.ref a1)])) (fun t k => XS.aloadN X6.here hx rfl (hb hby d22_13) rfl rfl k) ?_
  obtain ⟨_, _, ⟨T13, L13, k13, n13⟩, -, X13, ⟨Lc13, hQ13, lq13, yq13, zq13⟩, st13⟩ := Jvm.LawKit.callS X6 hx (y := (⟨"java/util/Objects", "requireNonNull", "(Ljava/lang/Object;)Ljava/lang/Object;"⟩ : MethodName)) hown (mvT hZ (hw _ (List.mem_of_getElem? (i := 165) rfl))) (mvT hZ (hw _ (List.mem_of_getElem? (i := 166) rfl))) (mvT hZ (hw _ (List.mem_of_getElem? (i := 167) rfl))) (mvT hZ (hw _ (List.mem_of_getElem? (i := 168) rfl))) (by decide) (backOf (W := 1) (rm_rnn l Z a0 hw [] y h6 n0 Z6 ) hZ (hw _ (List.mem_of_getElem? (i := 168) rfl)) (hw _ (List.mem_of_getElem? (i := 167) rfl)) (by decide) (by decide)) (g := (mkF m 14 #[.val (.ref a1), .val (.ref x), .val (.ref y)] [(.ref y), (.ref a1)])) rfl (by rw [hml]; rfl) (argsL := [(.ref y)]) (rest := [(.ref a1)]) (lenOf pd_8 rfl) rfl (by show 2 * 0 + _ ≤ _; exact Nat.le_of_eq rfl) (hb hby d22_14) (fun _ _ => ⟨rfl, e6, (by decide : 0 + 0 ≤ _), (by decide : 0 + 0 ≤ _)⟩)
  dsimp only [Pt.U, Pt.locs, Pt.cells, Pt.slots] at X13 lq13 yq13 zq13 st13 hQ13
  subst lq13 yq13 zq13
  obtain ⟨rfl, Nq13, eq12⟩ := hQ13
  have N13 := Fr.app N6 Nq13
  refine own_step (T' := T13) (g' := (mkF m 17 #[.val (.ref a1), .val (.ref x), .val (.ref y)] [(.ref y), (.ref a1)])) st13 ?_
  obtain ⟨T14, h14, X14, e14, W14, st14⟩ := putF X13 hx hZ hown (host := "") (Or.inl (hw _ (List.mem_of_getElem? (i := 171) rfl))) Via.refl eq12 g9 g7 (Or.inr ⟨(hw _ (List.mem_of_getElem? (i := 172) rfl)), rfl, hnm⟩) (hw _ (List.mem_of_getElem? (i := 145) rfl)) (ty := .object "java/lang/Object") (by decide) rfl rfl (g := (mkF m 17 #[.val (.ref a1), .val (.ref x), .val (.ref y)] [(.ref y), (.ref a1)])) rfl rfl (hb hby d22_17)
  have g15 : Exa Z h14 a1 "java/util/ImmutableCollections$List12" := g7.wr W14
  have g16 : Fld Z h14 a1 "java/util/ImmutableCollections$List12" "e0" "Ljava/lang/Object;" (.ref x) := g8.other W14 (Or.inr (slot_ne (Or.inr (hw _ (List.mem_of_getElem? (i := 170) rfl))) (Or.inr (hw _ (List.mem_of_getElem? (i := 172) rfl))) (by decide) (t := .object "java/lang/Object") (t' := .object "java/lang/Object") (by decide) (by decide)))
  have g17 : Fld Z h14 a1 "java/util/ImmutableCollections$List12" "e1" "Ljava/lang/Object;" (.ref y) := g9.same W14
  have K18 : Keep h0 h14 [a1] := K10.wr W14 (Or.inl (List.mem_of_getElem? (i := 0) rfl))
  have N14 := Fr.snoc X14 N13 o_a1
  have Z14 : n0 ≤ h14.size := (Nat.le_trans Z6 (Nat.le_of_eq W14.size.symm))
  refine own_step (T' := T14) (g' := (mkF m 20 #[.val (.ref a1), .val (.ref x), .val (.ref y)] [])) st14 ?_
  refine own_rV X14 hx hlk Bd.returns (hb hby d22_20) ?_ (by decide) (by decide)
  rw [e14]
  exact ⟨rfl, N14, K18, g15⟩
def Q_inn (Z : State) (a1 : Addr) (x : Addr) (u1 : Value) (u2 : Value) (h0 : Heap) (n0 : Nat) (v : Option Value) (h : Heap) (L : List Loc) : Prop := v = none ∧ Fr n0 L ∧ Keep h0 h [a1] ∧ Exa Z h a1 "java/util/ImmutableCollections$ListN"
theorem ef_rm_inn (m : MethodId) (x0 : Addr) (x1 : Addr) (x2 : Int32) : entryFrame m #[(.ref x0), (.ref x1), (.int x2)] 3 = mkF m 0 #[.val (.ref x0), .val (.ref x1), .val (.int x2)] [] := by first | (simp [entryFrame, mkF, argsToLocals, Value.category]; done) | rfl | (simp [entryFrame, mkF, argsToLocals, Value.category] <;> rfl)
theorem pn_12 : plainName "java/util/ImmutableCollections$ListN" = true := by first | (simp [plainName, overriddenIn]; done) | decide +kernel
theorem d31_0 : decode jdk_45_method_1_code 0 = .ok (.aload_n 0, 1) := by decide +kernel
theorem d31_1 : decode jdk_45_method_1_code 1 = .ok (.invokespecial 1, 3) := by decide +kernel
theorem d31_4 : decode jdk_45_method_1_code 4 = .ok (.aload_n 0, 1) := by decide +kernel
theorem d31_5 : decode jdk_45_method_1_code 5 = .ok (.aload_n 1, 1) := by decide +kernel
theorem d31_6 : decode jdk_45_method_1_code 6 = .ok (.putfield 7, 3) := by decide +kernel
theorem d31_9 : decode jdk_45_method_1_code 9 = .ok (.aload_n 0, 1) := by decide +kernel
theorem d31_10 : decode jdk_45_method_1_code 10 = .ok (.iload_n 2, 1) := by decide +kernel
theorem d31_11 : decode jdk_45_method_1_code 11 = .ok (.putfield 13, 3) := by decide +kernel
theorem d31_14 : decode jdk_45_method_1_code 14 = .ok (.return_, 1) := by decide +kernel
set_option maxRecDepth 65536 in
set_option maxHeartbeats 40000000 in
theorem rm_inn (l : Launch) (Z : State) (a0 : Array Value) (hw : ∀ d ∈ tables_1, d.before a0 Z = true) (ws : List Jvm.Cond) (a1 : Addr) (x : Addr) (u1 : Value) (u2 : Value) (h0 : Heap) (n0 : Nat) (Z0 : n0 ≤ h0.size) (F_0 : Exa Z h0 a1 "java/util/ImmutableCollections$ListN") (F_1 : Fld Z h0 a1 "java/util/ImmutableCollections$ListN" "elements" "[Ljava/lang/Object;" u1) (F_2 : Fld Z h0 a1 "java/util/ImmutableCollections$ListN" "allowNulls" "Z" u2) (o_a1 : n0 ≤ a1) :
    MetFree l (⟨"java/util/ImmutableCollections$ListN", "<init>", "([Ljava/lang/Object;Z)V"⟩ : MethodName) (head1 (Jvm.Cond.code (⟨"java/util/ImmutableCollections$ListN", "<init>", "([Ljava/lang/Object;Z)V"⟩ : MethodName) jdk_45_method_1_code 3 none :: ws) ({ frames := 4, cells := 0, slots := 0, locals := 48 } : Room)) (fun a U => a = #[(.ref a1), (.ref x), (.int (0 : Int32))] ∧ Z.Warmed39 U.vm ∧ U.heap = h0) (fun _ _ _ _ _ => True) (fun _ U o U' => ∃ v L, o = .returned v ∧ (Q_inn Z a1 x u1 u2 h0 n0) v U'.heap L ∧ FrameEnd U o U' L ({ frames := 4, cells := 0, slots := 0, locals := 48 } : Room).cells ({ frames := 4, cells := 0, slots := 0, locals := 48 } : Room).slots) := by
  refine MetFree.of_bodySF (plainFor_of_name pn_12) hisR ?_
  intro p e s m args below meth c s₁ Bd hml0 hP hK
  obtain ⟨rfl, hZ, hh⟩ := hP
  have hx := Bd.exec
  have hby := Bd.bytes
  have hlk : meth.locks = false := BodyLoose.notSynchronized Bd
  have hml : c.maxLocals = 3 := hml0
  have hown : s.vm.findClass "java/util/ImmutableCollections$ListN" = some m.cls := findClass_of_methodNamed Bd.named
  have hnm := (name_of_methodNamed Bd.named Bd.method).1
  have X0 : Stand p l e ({ frames := 4, cells := 0, slots := 0, locals := 48 } : Room) s m #[(.ref a1), (.ref x), (.int (0 : Int32))] below meth c s₁ [] 0 0 := Stand.of_body Bd
  have e0 : s₁.heap = h0 := by rw [← hh, Bd.state]; rfl
  have N0 := Fr.nil n0
  show own_Go p e below s (Q_inn Z a1 x u1 u2 h0 n0) ({ frames := 4, cells := 0, slots := 0, locals := 48 } : Room).cells ({ frames := 4, cells := 0, slots := 0, locals := 48 } : Room).slots s₁ (entryFrame m #[(.ref a1), (.ref x), (.int (0 : Int32))] 3)
  refine own_cast (g' := (mkF m 0 #[.val (.ref a1), .val (.ref x), .val (.int (0 : Int32))] [])) (ef_rm_inn m a1 x (0 : Int32)) ?_
  have K0 : Keep h0 h0 [a1] := Keep.refl _ _
  refine own_step (T' := s₁) (g' := (mkF m 1 #[.val (.ref a1), .val (.ref x), .val (.int (0 : Int32))] [(.ref a1)])) (fun t k => XS.aloadN X0.here hx rfl (hb hby d31_0) rfl rfl k) ?_
  obtain ⟨_, _, ⟨T2, L2, k2, n2⟩, -, X2, ⟨Lc2, hQ2, lq2, yq2, zq2⟩, st2⟩ := X0.specialBack hx (y := (⟨"java/util/ImmutableCollections$AbstractImmutableList", "<init>", "()V"⟩ : MethodName)) rfl hown (mvT hZ (hw _ (List.mem_of_getElem? (i := 214) rfl))) (mvT hZ (hw _ (List.mem_of_getElem? (i := 152) rfl))) (mvT hZ (hw _ (List.mem_of_getElem? (i := 156) rfl))) (by decide) (backOf (W := 0) (rm_ail l Z a0 hw [] a1 h0 n0 Z0 ) hZ (hw _ (List.mem_of_getElem? (i := 156) rfl)) (hw _ (List.mem_of_getElem? (i := 155) rfl)) (by decide) (by decide)) (g := (mkF m 1 #[.val (.ref a1), .val (.ref x), .val (.int (0 : Int32))] [(.ref a1)])) rfl (by rw [hml]; rfl) (Steps.refl _) (a := a1) (argsL := []) (rest := []) (lenOf pd_0 rfl) rfl (by show 2 * 0 + _ ≤ _; exact Nat.le_of_eq rfl) (hb hby d31_1) (fun _ _ => ⟨rfl, e0, (by decide : 0 + 0 ≤ _), (by decide : 0 + 0 ≤ _)⟩)
  dsimp only [Pt.U, Pt.locs, Pt.cells, Pt.slots] at X2 lq2 yq2 zq2 st2 hQ2
  subst lq2 yq2 zq2
  obtain ⟨rfl, Nq2, eq1⟩ := hQ2
  have N2 := Fr.app N0 Nq2
  refine own_tr (T' := T2) (g' := (mkF m 4 #[.val (.ref a1), .val (.ref x), .val (.int (0 : Int32))] [])) st2 ?_
  refine own_step (T' := T2) (g' := (mkF m 5 #[.val (.ref a1), .val (.ref x), .val (.int (0 : Int32))] [(.ref a1)])) (fun t k => XS.aloadN X2.here hx rfl (hb hby d31_4) rfl rfl k) ?_
  refine own_step (T' := T2) (g' := (mkF m 6 #[.val (.ref a1), .val (.ref x), .val (.int (0 : Int32))] [(.ref x), (.ref a1)])) (fun t k => XS.aloadN X2.here hx rfl (hb hby d31_5) rfl rfl k) ?_
  obtain ⟨T3, h3, X3, e3, W3, st3⟩ := putF X2 hx hZ hown (host := "") (Or.inl (hw _ (List.mem_of_getElem? (i := 218) rfl))) Via.refl eq1 F_1 F_0 (Or.inr ⟨(hw _ (List.mem_of_getElem? (i := 219) rfl)), rfl, hnm⟩) (hw _ (List.mem_of_getElem? (i := 208) rfl)) (ty := .array (.object "java/lang/Object")) (by decide) rfl rfl (g := (mkF m 6 #[.val (.ref a1), .val (.ref x), .val (.int (0 : Int32))] [(.ref x), (.ref a1)])) rfl rfl (hb hby d31_6)
  have g4 : Exa Z h3 a1 "java/util/ImmutableCollections$ListN" := F_0.wr W3
  have g5 : Fld Z h3 a1 "java/util/ImmutableCollections$ListN" "elements" "[Ljava/lang/Object;" (.ref x) := F_1.same W3
  have g6 : Fld Z h3 a1 "java/util/ImmutableCollections$ListN" "allowNulls" "Z" u2 := F_2.other W3 (Or.inr (slot_ne (Or.inr (hw _ (List.mem_of_getElem? (i := 221) rfl))) (Or.inr (hw _ (List.mem_of_getElem? (i := 219) rfl))) (by decide) (t := .boolean) (t' := .array (.object "java/lang/Object")) (by decide) (by decide)))
  have K7 : Keep h0 h3 [a1] := K0.wr W3 (Or.inl (List.mem_of_getElem? (i := 0) rfl))
  have N3 := Fr.snoc X3 N2 o_a1
  have Z3 : n0 ≤ h3.size := (Nat.le_trans Z0 (Nat.le_of_eq W3.size.symm))
  refine own_step (T' := T3) (g' := (mkF m 9 #[.val (.ref a1), .val (.ref x), .val (.int (0 : Int32))] [])) st3 ?_
  refine own_step (T' := T3) (g' := (mkF m 10 #[.val (.ref a1), .val (.ref x), .val (.int (0 : Int32))] [(.ref a1)])) (fun t k => XS.aloadN X3.here hx rfl (hb hby d31_9) rfl rfl k) ?_
  refine own_step (T' := T3) (g' := (mkF m 11 #[.val (.ref a1), .val (.ref x), .val (.int (0 : Int32))] [(.int (0 : Int32)), (.ref a1)])) (fun t k => XS.iloadN X3.here hx rfl (hb hby d31_10) rfl k) ?_
  obtain ⟨T8, h8, X8, e8, W8, st8⟩ := putF X3 hx hZ hown (host := "") (Or.inl (hw _ (List.mem_of_getElem? (i := 220) rfl))) Via.refl e3 g6 g4 (Or.inr ⟨(hw _ (List.mem_of_getElem? (i := 221) rfl)), rfl, hnm⟩) (hw _ (List.mem_of_getElem? (i := 208) rfl)) (ty := .boolean) (by decide) rfl rfl (g := (mkF m 11 #[.val (.ref a1), .val (.ref x), .val (.int (0 : Int32))] [(.int (0 : Int32)), (.ref a1)])) rfl rfl (hb hby d31_11)
  have g9 : Exa Z h8 a1 "java/util/ImmutableCollections$ListN" := g4.wr W8
  have g10 : Fld Z h8 a1 "java/util/ImmutableCollections$ListN" "elements" "[Ljava/lang/Object;" (.ref x) := g5.other W8 (Or.inr (slot_ne (Or.inr (hw _ (List.mem_of_getElem? (i := 219) rfl))) (Or.inr (hw _ (List.mem_of_getElem? (i := 221) rfl))) (by decide) (t := .array (.object "java/lang/Object")) (t' := .boolean) (by decide) (by decide)))
  have g11 : Fld Z h8 a1 "java/util/ImmutableCollections$ListN" "allowNulls" "Z" (.int (0 : Int32)) := g6.same W8
  have K12 : Keep h0 h8 [a1] := K7.wr W8 (Or.inl (List.mem_of_getElem? (i := 0) rfl))
  have N8 := Fr.snoc X8 N3 o_a1
  have Z8 : n0 ≤ h8.size := (Nat.le_trans Z3 (Nat.le_of_eq W8.size.symm))
  refine own_step (T' := T8) (g' := (mkF m 14 #[.val (.ref a1), .val (.ref x), .val (.int (0 : Int32))] [])) st8 ?_
  refine own_rV X8 hx hlk Bd.returns (hb hby d31_14) ?_ (by decide) (by decide)
  rw [e8]
  exact ⟨rfl, N8, K12, g9⟩
def Q_lfa (Z : State) (a1 : Addr) (ka : ClassId) (y0 : Addr) (y1 : Addr) (y2 : Addr) (h0 : Heap) (n0 : Nat) (v : Option Value) (h : Heap) (L : List Loc) : Prop := ∃ (r : Addr), v = some (.ref r) ∧ Fr n0 L ∧ Keep h0 h []
theorem ef_rm_lfa (m : MethodId) (x0 : Addr) : entryFrame m #[(.ref x0)] 3 = mkF m 0 #[.val (.ref x0), .unset, .unset] [] := by first | (simp [entryFrame, mkF, argsToLocals, Value.category]; done) | rfl | (simp [entryFrame, mkF, argsToLocals, Value.category] <;> rfl)
theorem pn_13 : plainName "java/util/ImmutableCollections" = true := by first | (simp [plainName, overriddenIn]; done) | decide +kernel
theorem d30_0 : decode jdk_56_method_4_code 0 = .ok (.aload_n 0, 1) := by decide +kernel
theorem d30_1 : decode jdk_56_method_4_code 1 = .ok (.arraylength, 1) := by decide +kernel
theorem d30_2 : decode jdk_56_method_4_code 2 = .ok (.anewarray 2, 3) := by decide +kernel
theorem d30_5 : decode jdk_56_method_4_code 5 = .ok (.astore_n 1, 1) := by decide +kernel
theorem d30_6 : decode jdk_56_method_4_code 6 = .ok (.iconst 0, 1) := by decide +kernel
theorem d30_7 : decode jdk_56_method_4_code 7 = .ok (.istore_n 2, 1) := by decide +kernel
theorem d30_8 : decode jdk_56_method_4_code 8 = .ok (.iload_n 2, 1) := by decide +kernel
theorem d30_9 : decode jdk_56_method_4_code 9 = .ok (.aload_n 0, 1) := by decide +kernel
theorem d30_10 : decode jdk_56_method_4_code 10 = .ok (.arraylength, 1) := by decide +kernel
theorem d30_11 : decode jdk_56_method_4_code 11 = .ok (.if_icmp .ge 18, 3) := by decide +kernel
theorem d30_14 : decode jdk_56_method_4_code 14 = .ok (.aload_n 1, 1) := by decide +kernel
theorem d30_15 : decode jdk_56_method_4_code 15 = .ok (.iload_n 2, 1) := by decide +kernel
theorem d30_16 : decode jdk_56_method_4_code 16 = .ok (.aload_n 0, 1) := by decide +kernel
theorem d30_17 : decode jdk_56_method_4_code 17 = .ok (.iload_n 2, 1) := by decide +kernel
theorem d30_18 : decode jdk_56_method_4_code 18 = .ok (.aaload, 1) := by decide +kernel
theorem d30_19 : decode jdk_56_method_4_code 19 = .ok (.invokestatic 37, 3) := by decide +kernel
theorem d30_22 : decode jdk_56_method_4_code 22 = .ok (.aastore, 1) := by decide +kernel
theorem d30_23 : decode jdk_56_method_4_code 23 = .ok (.iinc 2 1, 3) := by decide +kernel
theorem d30_26 : decode jdk_56_method_4_code 26 = .ok (.goto (-18), 3) := by decide +kernel
theorem d30_29 : decode jdk_56_method_4_code 29 = .ok (.new 12, 3) := by decide +kernel
theorem d30_32 : decode jdk_56_method_4_code 32 = .ok (.dup, 1) := by decide +kernel
theorem d30_33 : decode jdk_56_method_4_code 33 = .ok (.aload_n 1, 1) := by decide +kernel
theorem d30_34 : decode jdk_56_method_4_code 34 = .ok (.iconst 0, 1) := by decide +kernel
theorem pd_9 : parseMethodDescriptor "([Ljava/lang/Object;Z)V" = some ⟨[.array (.object "java/lang/Object"), .boolean], none⟩ := by decide +kernel
theorem d30_35 : decode jdk_56_method_4_code 35 = .ok (.invokespecial 43, 3) := by decide +kernel
theorem d30_38 : decode jdk_56_method_4_code 38 = .ok (.areturn, 1) := by decide +kernel
set_option maxRecDepth 65536 in
set_option maxHeartbeats 40000000 in
theorem rm_lfa (l : Launch) (Z : State) (a0 : Array Value) (hw : ∀ d ∈ tables_1, d.before a0 Z = true) (ws : List Jvm.Cond) (a1 : Addr) (ka : ClassId) (y0 : Addr) (y1 : Addr) (y2 : Addr) (h0 : Heap) (n0 : Nat) (Z0 : n0 ≤ h0.size) (F_0 : Arv Z h0 a1 ka (.object "java/lang/Object") (3 : Int32) [(.ref y0), (.ref y1), (.ref y2)] .null) (F_1 : Exa Z h0 y0 "com/example/kempt_cursor/kemptcursor/Keyed") (F_2 : Exa Z h0 y1 "com/example/kempt_cursor/kemptcursor/Keyed") (F_3 : Exa Z h0 y2 "com/example/kempt_cursor/kemptcursor/Keyed") :
    MetFree l (⟨"java/util/ImmutableCollections", "listFromArray", "([Ljava/lang/Object;)Ljava/util/List;"⟩ : MethodName) (head1 (Jvm.Cond.code (⟨"java/util/ImmutableCollections", "listFromArray", "([Ljava/lang/Object;)Ljava/util/List;"⟩ : MethodName) jdk_56_method_4_code 3 (some (.object "java/util/List")) :: ws) ({ frames := 5, cells := 2, slots := 5, locals := 63 } : Room)) (fun a U => a = #[(.ref a1)] ∧ Z.Warmed39 U.vm ∧ U.heap = h0) (fun _ _ _ _ _ => True) (fun _ U o U' => ∃ v L, o = .returned v ∧ (Q_lfa Z a1 ka y0 y1 y2 h0 n0) v U'.heap L ∧ FrameEnd U o U' L ({ frames := 5, cells := 2, slots := 5, locals := 63 } : Room).cells ({ frames := 5, cells := 2, slots := 5, locals := 63 } : Room).slots) := by
  refine MetFree.of_bodySF (plainFor_of_name pn_13) hisR ?_
  intro p e s m args below meth c s₁ Bd hml0 hP hK
  obtain ⟨rfl, hZ, hh⟩ := hP
  have hx := Bd.exec
  have hby := Bd.bytes
  have hlk : meth.locks = false := BodyLoose.notSynchronized Bd
  have hml : c.maxLocals = 3 := hml0
  have hown : s.vm.findClass "java/util/ImmutableCollections" = some m.cls := findClass_of_methodNamed Bd.named
  have hnm := (name_of_methodNamed Bd.named Bd.method).1
  have X0 : Stand p l e ({ frames := 5, cells := 2, slots := 5, locals := 63 } : Room) s m #[(.ref a1)] below meth c s₁ [] 0 0 := Stand.of_body Bd
  have e0 : s₁.heap = h0 := by rw [← hh, Bd.state]; rfl
  have N0 := Fr.nil n0
  show own_Go p e below s (Q_lfa Z a1 ka y0 y1 y2 h0 n0) ({ frames := 5, cells := 2, slots := 5, locals := 63 } : Room).cells ({ frames := 5, cells := 2, slots := 5, locals := 63 } : Room).slots s₁ (entryFrame m #[(.ref a1)] 3)
  refine own_cast (g' := (mkF m 0 #[.val (.ref a1), .unset, .unset] [])) (ef_rm_lfa m a1) ?_
  have K0 : Keep h0 h0 [] := Keep.refl _ _
  refine own_step (T' := s₁) (g' := (mkF m 1 #[.val (.ref a1), .unset, .unset] [(.ref a1)])) (fun t k => XS.aloadN X0.here hx rfl (hb hby d30_0) rfl rfl k) ?_
  obtain ⟨cl1, Ar1, qa1, S1, M1, H1, U1⟩ := id F_0
  have ln1 := len_of S1 M1
  refine own_step (T' := s₁) (g' := (mkF m 2 #[.val (.ref a1), .unset, .unset] [(.int (3 : Int32))])) (fun t k => X0.arraylength hx (cell := cl1) (by rw [e0]; exact Ar1.1) (State.isArrayOf_alike hZ.alike Ar1.2.1) (g := (mkF m 1 #[.val (.ref a1), .unset, .unset] [(.ref a1)])) rfl rfl (hb hby d30_1) t (by rw [ln1]; exact k)) ?_
  obtain ⟨T2, h2, k2, X2, e2, E2, A2, B2, O2r, st2⟩ := newRE X0 hx hZ hown (hw _ (List.mem_of_getElem? (i := 206) rfl)) (hw _ (List.mem_of_getElem? (i := 79) rfl)) e0 (g := (mkF m 2 #[.val (.ref a1), .unset, .unset] [(.int (3 : Int32))])) rfl (hb hby d30_2) rfl (by decide) (cap := 3) (by decide) (by decide) (by decide : 0 + 1 ≤ _) (by decide : 0 + 3 ≤ _) (ad := "[Ljava/lang/Object;") (by decide +kernel)
  obtain ⟨ad2, g_ad2⟩ : ∃ z, z = h0.size := ⟨_, rfl⟩
  rw [← g_ad2] at A2 B2 st2
  have g3 : Arv Z h2 a1 ka (.object "java/lang/Object") (3 : Int32) [(.ref y0), (.ref y1), (.ref y2)] .null := F_0.ext E2
  have g4 : Exa Z h2 y0 "com/example/kempt_cursor/kemptcursor/Keyed" := F_1.ext E2
  have g5 : Exa Z h2 y1 "com/example/kempt_cursor/kemptcursor/Keyed" := F_2.ext E2
  have g6 : Exa Z h2 y2 "com/example/kempt_cursor/kemptcursor/Keyed" := F_3.ext E2
  have ne2_1 : a1 ≠ ad2 := Nat.ne_of_lt (by rw [g_ad2]; exact F_0.lt)
  have ne2_2 : y0 ≠ ad2 := Nat.ne_of_lt (by rw [g_ad2]; exact F_1.lt)
  have ne2_3 : y1 ≠ ad2 := Nat.ne_of_lt (by rw [g_ad2]; exact F_2.lt)
  have ne2_4 : y2 ≠ ad2 := Nat.ne_of_lt (by rw [g_ad2]; exact F_3.lt)
  have o2 : n0 ≤ ad2 := (Nat.le_trans Z0 (Nat.le_of_eq g_ad2.symm))
  have Z2 : n0 ≤ h2.size := (Nat.le_trans Z0 E2.1)
  have f2 : h0.size ≤ ad2 := by rw [g_ad2]; exact K0.1
  have K7 : Keep h0 h2 [] := K0.ext E2
  have V2 : Arv Z h2 ad2 k2 (.object "java/lang/Object") (3 : Int32) [.null, .null, .null] .null := (Arv.new A2 (by decide)).pad (pad_rep [] .null 3)
  refine own_step (T' := T2) (g' := (mkF m 5 #[.val (.ref a1), .unset, .unset] [(.ref ad2)])) st2 ?_
  refine own_step (T' := T2) (g' := (mkF m 6 #[.val (.ref a1), .val (.ref ad2), .unset] [])) (fun t k => XS.astoreN X2.here hx rfl (hb hby d30_5) rfl rfl (l' := #[.val (.ref a1), .val (.ref ad2), .unset]) rfl k) ?_
  refine own_step (T' := T2) (g' := (mkF m 7 #[.val (.ref a1), .val (.ref ad2), .unset] [(.int (0 : Int32))])) (fun t k => XS.iconst X2.here hx rfl (hb hby d30_6) k) ?_
  refine own_step (T' := T2) (g' := (mkF m 8 #[.val (.ref a1), .val (.ref ad2), .val (.int (0 : Int32))] [])) (fun t k => XS.istoreN X2.here hx rfl (hb hby d30_7) rfl (l' := #[.val (.ref a1), .val (.ref ad2), .val (.int (0 : Int32))]) rfl k) ?_
  refine own_step (T' := T2) (g' := (mkF m 9 #[.val (.ref a1), .val (.ref ad2), .val (.int (0 : Int32))] [(.int (0 : Int32))])) (fun t k => XS.iloadN X2.here hx rfl (hb hby d30_8) rfl k) ?_
  refine own_step (T' := T2) (g' := (mkF m 10 #[.val (.ref a1), .val (.ref ad2), .val (.int (0 : Int32))] [(.ref a1), (.int (0 : Int32))])) (fun t k => XS.aloadN X2.here hx rfl (hb hby d30_9) rfl rfl k) ?_
  obtain ⟨cl8, Ar8, qa8, S8, M8, H8, U8⟩ := id g3
  have ln8 := len_of S8 M8
  refine own_step (T' := T2) (g' := (mkF m 11 #[.val (.ref a1), .val (.ref ad2), .val (.int (0 : Int32))] [(.int (3 : Int32)), (.int (0 : Int32))])) (fun t k => X2.arraylength hx (cell := cl8) (by rw [e2]; exact Ar8.1) (State.isArrayOf_alike hZ.alike Ar8.2.1) (g := (mkF m 10 #[.val (.ref a1), .val (.ref ad2), .val (.int (0 : Int32))] [(.ref a1), (.int (0 : Int32))])) rfl rfl (hb hby d30_10) t (by rw [ln8]; exact k)) ?_
  refine own_step (T' := T2) (g' := (mkF m 14 #[.val (.ref a1), .val (.ref ad2), .val (.int (0 : Int32))] [])) (fun t k => XS.icmpNo X2.here hx rfl (hb hby d30_11) rfl (tlt (by decide : ((0 : Int32) < (3 : Int32)))).2.1 k) ?_
  refine own_step (T' := T2) (g' := (mkF m 15 #[.val (.ref a1), .val (.ref ad2), .val (.int (0 : Int32))] [(.ref ad2)])) (fun t k => XS.aloadN X2.here hx rfl (hb hby d30_14) rfl rfl k) ?_
  refine own_step (T' := T2) (g' := (mkF m 16 #[.val (.ref a1), .val (.ref ad2), .val (.int (0 : Int32))] [(.int (0 : Int32)), (.ref ad2)])) (fun t k => XS.iloadN X2.here hx rfl (hb hby d30_15) rfl k) ?_
  refine own_step (T' := T2) (g' := (mkF m 17 #[.val (.ref a1), .val (.ref ad2), .val (.int (0 : Int32))] [(.ref a1), (.int (0 : Int32)), (.ref ad2)])) (fun t k => XS.aloadN X2.here hx rfl (hb hby d30_16) rfl rfl k) ?_
  refine own_step (T' := T2) (g' := (mkF m 18 #[.val (.ref a1), .val (.ref ad2), .val (.int (0 : Int32))] [(.int (0 : Int32)), (.ref a1), (.int (0 : Int32)), (.ref ad2)])) (fun t k => XS.iloadN X2.here hx rfl (hb hby d30_17) rfl k) ?_
  obtain ⟨cl9, Ar9, qa9, S9, M9, H9, U9⟩ := id g3
  have hi9 := inb_of S9 (j := (0 : Int32)) ⟨by decide, by decide⟩
  have hat9 := H9.at hi9 (v := (.ref y0)) rfl
  refine own_step (T' := T2) (g' := (mkF m 19 #[.val (.ref a1), .val (.ref ad2), .val (.int (0 : Int32))] [(.ref y0), (.int (0 : Int32)), (.ref ad2)])) (fun t k => X2.aaload hx (j := (0 : Int32)) (v := (.ref y0)) (by rw [e2]; exact Ar9.1) (State.isArrayOf_alike hZ.alike Ar9.2.1) rfl Ar9.2.2 hi9 hat9 (g := (mkF m 18 #[.val (.ref a1), .val (.ref ad2), .val (.int (0 : Int32))] [(.int (0 : Int32)), (.ref a1), (.int (0 : Int32)), (.ref ad2)])) rfl rfl (hb hby d30_18) t k) ?_
  obtain ⟨_, _, ⟨T12, L12, k12, n12⟩, -, X12, ⟨Lc12, hQ12, lq12, yq12, zq12⟩, st12⟩ := Jvm.LawKit.callS X2 hx (y := (⟨"java/util/Objects", "requireNonNull", "(Ljava/lang/Object;)Ljava/lang/Object;"⟩ : MethodName)) hown (mvT hZ (hw _ (List.mem_of_getElem? (i := 207) rfl))) (mvT hZ (hw _ (List.mem_of_getElem? (i := 166) rfl))) (mvT hZ (hw _ (List.mem_of_getElem? (i := 167) rfl))) (mvT hZ (hw _ (List.mem_of_getElem? (i := 168) rfl))) (by decide) (backOf (W := 2) (rm_rnn l Z a0 hw [] y0 h2 n0 Z2 ) hZ (hw _ (List.mem_of_getElem? (i := 168) rfl)) (hw _ (List.mem_of_getElem? (i := 167) rfl)) (by decide) (by decide)) (g := (mkF m 19 #[.val (.ref a1), .val (.ref ad2), .val (.int (0 : Int32))] [(.ref y0), (.int (0 : Int32)), (.ref ad2)])) rfl (by rw [hml]; rfl) (argsL := [(.ref y0)]) (rest := [(.int (0 : Int32)), (.ref ad2)]) (lenOf pd_8 rfl) rfl (by show 2 * 0 + _ ≤ _; exact Nat.le_of_eq rfl) (hb hby d30_19) (fun _ _ => ⟨rfl, e2, (by decide : 1 + 0 ≤ _), (by decide : 3 + 0 ≤ _)⟩)
  dsimp only [Pt.U, Pt.locs, Pt.cells, Pt.slots] at X12 lq12 yq12 zq12 st12 hQ12
  subst lq12 yq12 zq12
  obtain ⟨rfl, Nq12, eq11⟩ := hQ12
  have N12 := Fr.app N0 Nq12
  refine own_step (T' := T12) (g' := (mkF m 22 #[.val (.ref a1), .val (.ref ad2), .val (.int (0 : Int32))] [(.ref y0), (.int (0 : Int32)), (.ref ad2)])) st12 ?_
  obtain ⟨cl13, Ar13, qa13, S13, M13, H13, U13⟩ := id V2
  obtain ⟨T13, h13, X13, e13, W13, st13⟩ := stR X12 hx hZ eq11 Ar13 (j := (0 : Int32)) (inb_of S13 ⟨by decide, by decide⟩) rfl (Sto.ofV Ar13 qa13 O2r (Ins.of_exa g4 (hw _ (List.mem_of_getElem? (i := 80) rfl)))) (g := (mkF m 22 #[.val (.ref a1), .val (.ref ad2), .val (.int (0 : Int32))] [(.ref y0), (.int (0 : Int32)), (.ref ad2)])) rfl rfl (hb hby d30_22)
  have g14 : Arv Z h13 a1 ka (.object "java/lang/Object") (3 : Int32) [(.ref y0), (.ref y1), (.ref y2)] .null := g3.other W13 ne2_1
  have g15 : Exa Z h13 y0 "com/example/kempt_cursor/kemptcursor/Keyed" := g4.wr W13
  have g16 : Exa Z h13 y1 "com/example/kempt_cursor/kemptcursor/Keyed" := g5.wr W13
  have g17 : Exa Z h13 y2 "com/example/kempt_cursor/kemptcursor/Keyed" := g6.wr W13
  have g18 : Arv Z h13 ad2 k2 (.object "java/lang/Object") (3 : Int32) [(.ref y0), .null, .null] .null := Arv.set Ar13 qa13 S13 M13 H13 U13 rfl W13 0 rfl (Nat.le_of_ble_eq_true rfl)
  have g19 : Exa Z h13 ad2 "[Ljava/lang/Object;" := B2.wr W13
  have K20 : Keep h0 h13 [] := K7.wr W13 (Or.inr f2)
  have N13 := Fr.snoc X13 N12 o2
  have Z13 : n0 ≤ h13.size := (Nat.le_trans Z2 (Nat.le_of_eq W13.size.symm))
  refine own_step (T' := T13) (g' := (mkF m 23 #[.val (.ref a1), .val (.ref ad2), .val (.int (0 : Int32))] [])) st13 ?_
  refine own_step (T' := T13) (g' := (mkF m 26 #[.val (.ref a1), .val (.ref ad2), .val (.int (1 : Int32))] [])) (fun t k => XS.iinc X13.here hx rfl (hb hby d30_23) rfl (l' := #[.val (.ref a1), .val (.ref ad2), .val (.int (1 : Int32))]) rfl k) ?_
  refine own_step (T' := T13) (g' := (mkF m 8 #[.val (.ref a1), .val (.ref ad2), .val (.int (1 : Int32))] [])) (fun t k => XS.goto X13.here hx rfl (pc0 := 26) (pc' := 8) rfl (hb hby d30_26) (by decide) (by decide) k) ?_
  refine own_step (T' := T13) (g' := (mkF m 9 #[.val (.ref a1), .val (.ref ad2), .val (.int (1 : Int32))] [(.int (1 : Int32))])) (fun t k => XS.iloadN X13.here hx rfl (hb hby d30_8) rfl k) ?_
  refine own_step (T' := T13) (g' := (mkF m 10 #[.val (.ref a1), .val (.ref ad2), .val (.int (1 : Int32))] [(.ref a1), (.int (1 : Int32))])) (fun t k => XS.aloadN X13.here hx rfl (hb hby d30_9) rfl rfl k) ?_
  obtain ⟨cl21, Ar21, qa21, S21, M21, H21, U21⟩ := id g14
  have ln21 := len_of S21 M21
  refine own_step (T' := T13) (g' := (mkF m 11 #[.val (.ref a1), .val (.ref ad2), .val (.int (1 : Int32))] [(.int (3 : Int32)), (.int (1 : Int32))])) (fun t k => X13.arraylength hx (cell := cl21) (by rw [e13]; exact Ar21.1) (State.isArrayOf_alike hZ.alike Ar21.2.1) (g := (mkF m 10 #[.val (.ref a1), .val (.ref ad2), .val (.int (1 : Int32))] [(.ref a1), (.int (1 : Int32))])) rfl rfl (hb hby d30_10) t (by rw [ln21]; exact k)) ?_
  refine own_step (T' := T13) (g' := (mkF m 14 #[.val (.ref a1), .val (.ref ad2), .val (.int (1 : Int32))] [])) (fun t k => XS.icmpNo X13.here hx rfl (hb hby d30_11) rfl (tlt (by decide : ((1 : Int32) < (3 : Int32)))).2.1 k) ?_
  refine own_step (T' := T13) (g' := (mkF m 15 #[.val (.ref a1), .val (.ref ad2), .val (.int (1 : Int32))] [(.ref ad2)])) (fun t k => XS.aloadN X13.here hx rfl (hb hby d30_14) rfl rfl k) ?_
  refine own_step (T' := T13) (g' := (mkF m 16 #[.val (.ref a1), .val (.ref ad2), .val (.int (1 : Int32))] [(.int (1 : Int32)), (.ref ad2)])) (fun t k => XS.iloadN X13.here hx rfl (hb hby d30_15) rfl k) ?_
  refine own_step (T' := T13) (g' := (mkF m 17 #[.val (.ref a1), .val (.ref ad2), .val (.int (1 : Int32))] [(.ref a1), (.int (1 : Int32)), (.ref ad2)])) (fun t k => XS.aloadN X13.here hx rfl (hb hby d30_16) rfl rfl k) ?_
  refine own_step (T' := T13) (g' := (mkF m 18 #[.val (.ref a1), .val (.ref ad2), .val (.int (1 : Int32))] [(.int (1 : Int32)), (.ref a1), (.int (1 : Int32)), (.ref ad2)])) (fun t k => XS.iloadN X13.here hx rfl (hb hby d30_17) rfl k) ?_
  obtain ⟨cl22, Ar22, qa22, S22, M22, H22, U22⟩ := id g14
  have hi22 := inb_of S22 (j := (1 : Int32)) ⟨by decide, by decide⟩
  have hat22 := H22.at hi22 (v := (.ref y1)) rfl
  refine own_step (T' := T13) (g' := (mkF m 19 #[.val (.ref a1), .val (.ref ad2), .val (.int (1 : Int32))] [(.ref y1), (.int (1 : Int32)), (.ref ad2)])) (fun t k => X13.aaload hx (j := (1 : Int32)) (v := (.ref y1)) (by rw [e13]; exact Ar22.1) (State.isArrayOf_alike hZ.alike Ar22.2.1) rfl Ar22.2.2 hi22 hat22 (g := (mkF m 18 #[.val (.ref a1), .val (.ref ad2), .val (.int (1 : Int32))] [(.int (1 : Int32)), (.ref a1), (.int (1 : Int32)), (.ref ad2)])) rfl rfl (hb hby d30_18) t k) ?_
  obtain ⟨_, _, ⟨T25, L25, k25, n25⟩, -, X25, ⟨Lc25, hQ25, lq25, yq25, zq25⟩, st25⟩ := Jvm.LawKit.callS X13 hx (y := (⟨"java/util/Objects", "requireNonNull", "(Ljava/lang/Object;)Ljava/lang/Object;"⟩ : MethodName)) hown (mvT hZ (hw _ (List.mem_of_getElem? (i := 207) rfl))) (mvT hZ (hw _ (List.mem_of_getElem? (i := 166) rfl))) (mvT hZ (hw _ (List.mem_of_getElem? (i := 167) rfl))) (mvT hZ (hw _ (List.mem_of_getElem? (i := 168) rfl))) (by decide) (backOf (W := 2) (rm_rnn l Z a0 hw [] y1 h13 n0 Z13 ) hZ (hw _ (List.mem_of_getElem? (i := 168) rfl)) (hw _ (List.mem_of_getElem? (i := 167) rfl)) (by decide) (by decide)) (g := (mkF m 19 #[.val (.ref a1), .val (.ref ad2), .val (.int (1 : Int32))] [(.ref y1), (.int (1 : Int32)), (.ref ad2)])) rfl (by rw [hml]; rfl) (argsL := [(.ref y1)]) (rest := [(.int (1 : Int32)), (.ref ad2)]) (lenOf pd_8 rfl) rfl (by show 2 * 0 + _ ≤ _; exact Nat.le_of_eq rfl) (hb hby d30_19) (fun _ _ => ⟨rfl, e13, (by decide : 1 + 0 ≤ _), (by decide : 3 + 0 ≤ _)⟩)
  dsimp only [Pt.U, Pt.locs, Pt.cells, Pt.slots] at X25 lq25 yq25 zq25 st25 hQ25
  subst lq25 yq25 zq25
  obtain ⟨rfl, Nq25, eq24⟩ := hQ25
  have N25 := Fr.app N13 Nq25
  refine own_step (T' := T25) (g' := (mkF m 22 #[.val (.ref a1), .val (.ref ad2), .val (.int (1 : Int32))] [(.ref y1), (.int (1 : Int32)), (.ref ad2)])) st25 ?_
  obtain ⟨cl26, Ar26, qa26, S26, M26, H26, U26⟩ := id g18
  obtain ⟨T26, h26, X26, e26, W26, st26⟩ := stR X25 hx hZ eq24 Ar26 (j := (1 : Int32)) (inb_of S26 ⟨by decide, by decide⟩) rfl (Sto.ofV Ar26 qa26 O2r (Ins.of_exa g16 (hw _ (List.mem_of_getElem? (i := 80) rfl)))) (g := (mkF m 22 #[.val (.ref a1), .val (.ref ad2), .val (.int (1 : Int32))] [(.ref y1), (.int (1 : Int32)), (.ref ad2)])) rfl rfl (hb hby d30_22)
  have g27 : Arv Z h26 a1 ka (.object "java/lang/Object") (3 : Int32) [(.ref y0), (.ref y1), (.ref y2)] .null := g14.other W26 ne2_1
  have g28 : Exa Z h26 y0 "com/example/kempt_cursor/kemptcursor/Keyed" := g15.wr W26
  have g29 : Exa Z h26 y1 "com/example/kempt_cursor/kemptcursor/Keyed" := g16.wr W26
  have g30 : Exa Z h26 y2 "com/example/kempt_cursor/kemptcursor/Keyed" := g17.wr W26
  have g31 : Arv Z h26 ad2 k2 (.object "java/lang/Object") (3 : Int32) [(.ref y0), (.ref y1), .null] .null := Arv.set Ar26 qa26 S26 M26 H26 U26 rfl W26 1 rfl (Nat.le_of_ble_eq_true rfl)
  have g32 : Exa Z h26 ad2 "[Ljava/lang/Object;" := g19.wr W26
  have K33 : Keep h0 h26 [] := K20.wr W26 (Or.inr f2)
  have N26 := Fr.snoc X26 N25 o2
  have Z26 : n0 ≤ h26.size := (Nat.le_trans Z13 (Nat.le_of_eq W26.size.symm))
  refine own_step (T' := T26) (g' := (mkF m 23 #[.val (.ref a1), .val (.ref ad2), .val (.int (1 : Int32))] [])) st26 ?_
  refine own_step (T' := T26) (g' := (mkF m 26 #[.val (.ref a1), .val (.ref ad2), .val (.int (2 : Int32))] [])) (fun t k => XS.iinc X26.here hx rfl (hb hby d30_23) rfl (l' := #[.val (.ref a1), .val (.ref ad2), .val (.int (2 : Int32))]) rfl k) ?_
  refine own_step (T' := T26) (g' := (mkF m 8 #[.val (.ref a1), .val (.ref ad2), .val (.int (2 : Int32))] [])) (fun t k => XS.goto X26.here hx rfl (pc0 := 26) (pc' := 8) rfl (hb hby d30_26) (by decide) (by decide) k) ?_
  refine own_step (T' := T26) (g' := (mkF m 9 #[.val (.ref a1), .val (.ref ad2), .val (.int (2 : Int32))] [(.int (2 : Int32))])) (fun t k => XS.iloadN X26.here hx rfl (hb hby d30_8) rfl k) ?_
  refine own_step (T' := T26) (g' := (mkF m 10 #[.val (.ref a1), .val (.ref ad2), .val (.int (2 : Int32))] [(.ref a1), (.int (2 : Int32))])) (fun t k => XS.aloadN X26.here hx rfl (hb hby d30_9) rfl rfl k) ?_
  obtain ⟨cl34, Ar34, qa34, S34, M34, H34, U34⟩ := id g27
  have ln34 := len_of S34 M34
  refine own_step (T' := T26) (g' := (mkF m 11 #[.val (.ref a1), .val (.ref ad2), .val (.int (2 : Int32))] [(.int (3 : Int32)), (.int (2 : Int32))])) (fun t k => X26.arraylength hx (cell := cl34) (by rw [e26]; exact Ar34.1) (State.isArrayOf_alike hZ.alike Ar34.2.1) (g := (mkF m 10 #[.val (.ref a1), .val (.ref ad2), .val (.int (2 : Int32))] [(.ref a1), (.int (2 : Int32))])) rfl rfl (hb hby d30_10) t (by rw [ln34]; exact k)) ?_
  refine own_step (T' := T26) (g' := (mkF m 14 #[.val (.ref a1), .val (.ref ad2), .val (.int (2 : Int32))] [])) (fun t k => XS.icmpNo X26.here hx rfl (hb hby d30_11) rfl (tlt (by decide : ((2 : Int32) < (3 : Int32)))).2.1 k) ?_
  refine own_step (T' := T26) (g' := (mkF m 15 #[.val (.ref a1), .val (.ref ad2), .val (.int (2 : Int32))] [(.ref ad2)])) (fun t k => XS.aloadN X26.here hx rfl (hb hby d30_14) rfl rfl k) ?_
  refine own_step (T' := T26) (g' := (mkF m 16 #[.val (.ref a1), .val (.ref ad2), .val (.int (2 : Int32))] [(.int (2 : Int32)), (.ref ad2)])) (fun t k => XS.iloadN X26.here hx rfl (hb hby d30_15) rfl k) ?_
  refine own_step (T' := T26) (g' := (mkF m 17 #[.val (.ref a1), .val (.ref ad2), .val (.int (2 : Int32))] [(.ref a1), (.int (2 : Int32)), (.ref ad2)])) (fun t k => XS.aloadN X26.here hx rfl (hb hby d30_16) rfl rfl k) ?_
  refine own_step (T' := T26) (g' := (mkF m 18 #[.val (.ref a1), .val (.ref ad2), .val (.int (2 : Int32))] [(.int (2 : Int32)), (.ref a1), (.int (2 : Int32)), (.ref ad2)])) (fun t k => XS.iloadN X26.here hx rfl (hb hby d30_17) rfl k) ?_
  obtain ⟨cl35, Ar35, qa35, S35, M35, H35, U35⟩ := id g27
  have hi35 := inb_of S35 (j := (2 : Int32)) ⟨by decide, by decide⟩
  have hat35 := H35.at hi35 (v := (.ref y2)) rfl
  refine own_step (T' := T26) (g' := (mkF m 19 #[.val (.ref a1), .val (.ref ad2), .val (.int (2 : Int32))] [(.ref y2), (.int (2 : Int32)), (.ref ad2)])) (fun t k => X26.aaload hx (j := (2 : Int32)) (v := (.ref y2)) (by rw [e26]; exact Ar35.1) (State.isArrayOf_alike hZ.alike Ar35.2.1) rfl Ar35.2.2 hi35 hat35 (g := (mkF m 18 #[.val (.ref a1), .val (.ref ad2), .val (.int (2 : Int32))] [(.int (2 : Int32)), (.ref a1), (.int (2 : Int32)), (.ref ad2)])) rfl rfl (hb hby d30_18) t k) ?_
  obtain ⟨_, _, ⟨T38, L38, k38, n38⟩, -, X38, ⟨Lc38, hQ38, lq38, yq38, zq38⟩, st38⟩ := Jvm.LawKit.callS X26 hx (y := (⟨"java/util/Objects", "requireNonNull", "(Ljava/lang/Object;)Ljava/lang/Object;"⟩ : MethodName)) hown (mvT hZ (hw _ (List.mem_of_getElem? (i := 207) rfl))) (mvT hZ (hw _ (List.mem_of_getElem? (i := 166) rfl))) (mvT hZ (hw _ (List.mem_of_getElem? (i := 167) rfl))) (mvT hZ (hw _ (List.mem_of_getElem? (i := 168) rfl))) (by decide) (backOf (W := 2) (rm_rnn l Z a0 hw [] y2 h26 n0 Z26 ) hZ (hw _ (List.mem_of_getElem? (i := 168) rfl)) (hw _ (List.mem_of_getElem? (i := 167) rfl)) (by decide) (by decide)) (g := (mkF m 19 #[.val (.ref a1), .val (.ref ad2), .val (.int (2 : Int32))] [(.ref y2), (.int (2 : Int32)), (.ref ad2)])) rfl (by rw [hml]; rfl) (argsL := [(.ref y2)]) (rest := [(.int (2 : Int32)), (.ref ad2)]) (lenOf pd_8 rfl) rfl (by show 2 * 0 + _ ≤ _; exact Nat.le_of_eq rfl) (hb hby d30_19) (fun _ _ => ⟨rfl, e26, (by decide : 1 + 0 ≤ _), (by decide : 3 + 0 ≤ _)⟩)
  dsimp only [Pt.U, Pt.locs, Pt.cells, Pt.slots] at X38 lq38 yq38 zq38 st38 hQ38
  subst lq38 yq38 zq38
  obtain ⟨rfl, Nq38, eq37⟩ := hQ38
  have N38 := Fr.app N26 Nq38
  refine own_step (T' := T38) (g' := (mkF m 22 #[.val (.ref a1), .val (.ref ad2), .val (.int (2 : Int32))] [(.ref y2), (.int (2 : Int32)), (.ref ad2)])) st38 ?_
  obtain ⟨cl39, Ar39, qa39, S39, M39, H39, U39⟩ := id g31
  obtain ⟨T39, h39, X39, e39, W39, st39⟩ := stR X38 hx hZ eq37 Ar39 (j := (2 : Int32)) (inb_of S39 ⟨by decide, by decide⟩) rfl (Sto.ofV Ar39 qa39 O2r (Ins.of_exa g30 (hw _ (List.mem_of_getElem? (i := 80) rfl)))) (g := (mkF m 22 #[.val (.ref a1), .val (.ref ad2), .val (.int (2 : Int32))] [(.ref y2), (.int (2 : Int32)), (.ref ad2)])) rfl rfl (hb hby d30_22)
  have g40 : Arv Z h39 a1 ka (.object "java/lang/Object") (3 : Int32) [(.ref y0), (.ref y1), (.ref y2)] .null := g27.other W39 ne2_1
  have g41 : Exa Z h39 y0 "com/example/kempt_cursor/kemptcursor/Keyed" := g28.wr W39
  have g42 : Exa Z h39 y1 "com/example/kempt_cursor/kemptcursor/Keyed" := g29.wr W39
  have g43 : Exa Z h39 y2 "com/example/kempt_cursor/kemptcursor/Keyed" := g30.wr W39
  have g44 : Arv Z h39 ad2 k2 (.object "java/lang/Object") (3 : Int32) [(.ref y0), (.ref y1), (.ref y2)] .null := Arv.set Ar39 qa39 S39 M39 H39 U39 rfl W39 2 rfl (Nat.le_of_ble_eq_true rfl)
  have g45 : Exa Z h39 ad2 "[Ljava/lang/Object;" := g32.wr W39
  have K46 : Keep h0 h39 [] := K33.wr W39 (Or.inr f2)
  have N39 := Fr.snoc X39 N38 o2
  have Z39 : n0 ≤ h39.size := (Nat.le_trans Z26 (Nat.le_of_eq W39.size.symm))
  refine own_step (T' := T39) (g' := (mkF m 23 #[.val (.ref a1), .val (.ref ad2), .val (.int (2 : Int32))] [])) st39 ?_
  refine own_step (T' := T39) (g' := (mkF m 26 #[.val (.ref a1), .val (.ref ad2), .val (.int (3 : Int32))] [])) (fun t k => XS.iinc X39.here hx rfl (hb hby d30_23) rfl (l' := #[.val (.ref a1), .val (.ref ad2), .val (.int (3 : Int32))]) rfl k) ?_
  refine own_step (T' := T39) (g' := (mkF m 8 #[.val (.ref a1), .val (.ref ad2), .val (.int (3 : Int32))] [])) (fun t k => XS.goto X39.here hx rfl (pc0 := 26) (pc' := 8) rfl (hb hby d30_26) (by decide) (by decide) k) ?_
  refine own_step (T' := T39) (g' := (mkF m 9 #[.val (.ref a1), .val (.ref ad2), .val (.int (3 : Int32))] [(.int (3 : Int32))])) (fun t k => XS.iloadN X39.here hx rfl (hb hby d30_8) rfl k) ?_
  refine own_step (T' := T39) (g' := (mkF m 10 #[.val (.ref a1), .val (.ref ad2), .val (.int (3 : Int32))] [(.ref a1), (.int (3 : Int32))])) (fun t k => XS.aloadN X39.here hx rfl (hb hby d30_9) rfl rfl k) ?_
  obtain ⟨cl47, Ar47, qa47, S47, M47, H47, U47⟩ := id g40
  have ln47 := len_of S47 M47
  refine own_step (T' := T39) (g' := (mkF m 11 #[.val (.ref a1), .val (.ref ad2), .val (.int (3 : Int32))] [(.int (3 : Int32)), (.int (3 : Int32))])) (fun t k => X39.arraylength hx (cell := cl47) (by rw [e39]; exact Ar47.1) (State.isArrayOf_alike hZ.alike Ar47.2.1) (g := (mkF m 10 #[.val (.ref a1), .val (.ref ad2), .val (.int (3 : Int32))] [(.ref a1), (.int (3 : Int32))])) rfl rfl (hb hby d30_10) t (by rw [ln47]; exact k)) ?_
  refine own_step (T' := T39) (g' := (mkF m 29 #[.val (.ref a1), .val (.ref ad2), .val (.int (3 : Int32))] [])) (fun t k => XS.icmpYes X39.here hx rfl (pc0 := 11) (pc' := 29) rfl (hb hby d30_11) rfl (flt (by decide : ¬ ((3 : Int32) < (3 : Int32)))).2.1 (by decide) (by decide) k) ?_
  obtain ⟨T48, h48, X48, e48, E48, A48, D48, -, st48⟩ := newO X39 hx hZ hown (hw _ (List.mem_of_getElem? (i := 101) rfl)) (hw _ (List.mem_of_getElem? (i := 208) rfl)) (hw _ (List.mem_of_getElem? (i := 209) rfl)) e39 (g := (mkF m 29 #[.val (.ref a1), .val (.ref ad2), .val (.int (3 : Int32))] [])) rfl (hb hby d30_29) (by decide : 1 + 1 ≤ _) (by decide : 3 + 2 ≤ _)
  obtain ⟨ad48, g_ad48⟩ : ∃ z, z = h39.size := ⟨_, rfl⟩
  rw [← g_ad48] at A48 D48 st48
  have g49 : Arv Z h48 a1 ka (.object "java/lang/Object") (3 : Int32) [(.ref y0), (.ref y1), (.ref y2)] .null := g40.ext E48
  have g50 : Exa Z h48 y0 "com/example/kempt_cursor/kemptcursor/Keyed" := g41.ext E48
  have g51 : Exa Z h48 y1 "com/example/kempt_cursor/kemptcursor/Keyed" := g42.ext E48
  have g52 : Exa Z h48 y2 "com/example/kempt_cursor/kemptcursor/Keyed" := g43.ext E48
  have g53 : Arv Z h48 ad2 k2 (.object "java/lang/Object") (3 : Int32) [(.ref y0), (.ref y1), (.ref y2)] .null := g44.ext E48
  have g54 : Exa Z h48 ad2 "[Ljava/lang/Object;" := g45.ext E48
  have ne48_1 : a1 ≠ ad48 := Nat.ne_of_lt (by rw [g_ad48]; exact g40.lt)
  have ne48_2 : y0 ≠ ad48 := Nat.ne_of_lt (by rw [g_ad48]; exact g41.lt)
  have ne48_3 : y1 ≠ ad48 := Nat.ne_of_lt (by rw [g_ad48]; exact g42.lt)
  have ne48_4 : y2 ≠ ad48 := Nat.ne_of_lt (by rw [g_ad48]; exact g43.lt)
  have ne48_5 : ad2 ≠ ad48 := Nat.ne_of_lt (by rw [g_ad48]; exact g44.lt)
  have o48 : n0 ≤ ad48 := (Nat.le_trans Z39 (Nat.le_of_eq g_ad48.symm))
  have Z48 : n0 ≤ h48.size := (Nat.le_trans Z39 E48.1)
  have f48 : h0.size ≤ ad48 := by rw [g_ad48]; exact K46.1
  have K55 : Keep h0 h48 [] := K46.ext E48
  have g56 : Fld Z h48 ad48 "java/util/ImmutableCollections$ListN" "elements" "[Ljava/lang/Object;" .null := D48 (Or.inr (hw _ (List.mem_of_getElem? (i := 219) rfl))) (ty := .array (.object "java/lang/Object")) (by decide)
  have g57 : Fld Z h48 ad48 "java/util/ImmutableCollections$ListN" "allowNulls" "Z" (.int (0 : Int32)) := D48 (Or.inr (hw _ (List.mem_of_getElem? (i := 221) rfl))) (ty := .boolean) (by decide)
  refine own_step (T' := T48) (g' := (mkF m 32 #[.val (.ref a1), .val (.ref ad2), .val (.int (3 : Int32))] [(.ref ad48)])) st48 ?_
  refine own_step (T' := T48) (g' := (mkF m 33 #[.val (.ref a1), .val (.ref ad2), .val (.int (3 : Int32))] [(.ref ad48), (.ref ad48)])) (fun t k => XS.dup X48.here hx rfl (hb hby d30_32) rfl rfl k) ?_
  refine own_step (T' := T48) (g' := (mkF m 34 #[.val (.ref a1), .val (.ref ad2), .val (.int (3 : Int32))] [(.ref ad2), (.ref ad48), (.ref ad48)])) (fun t k => XS.aloadN X48.here hx rfl (hb hby d30_33) rfl rfl k) ?_
  refine own_step (T' := T48) (g' := (mkF m 35 #[.val (.ref a1), .val (.ref ad2), .val (.int (3 : Int32))] [(.int (0 : Int32)), (.ref ad2), (.ref ad48), (.ref ad48)])) (fun t k => XS.iconst X48.here hx rfl (hb hby d30_34) k) ?_
  obtain ⟨_, _, ⟨T61, L61, k61, n61⟩, -, X61, ⟨Lc61, hQ61, lq61, yq61, zq61⟩, st61⟩ := X48.specialBackNest hx (y := (⟨"java/util/ImmutableCollections$ListN", "<init>", "([Ljava/lang/Object;Z)V"⟩ : MethodName)) rfl hown (own_mvLN hZ (hw _ (List.mem_of_getElem? (i := 210) rfl))) (mvT hZ (hw _ (List.mem_of_getElem? (i := 211) rfl))) (mvT hZ (hw _ (List.mem_of_getElem? (i := 213) rfl))) (by decide) (backOf (W := 1) (rm_inn l Z a0 hw [] ad48 ad2 .null (.int (0 : Int32)) h48 n0 Z48 A48 g56 g57 o48) hZ (hw _ (List.mem_of_getElem? (i := 213) rfl)) (hw _ (List.mem_of_getElem? (i := 209) rfl)) (by decide) (by decide)) (g := (mkF m 35 #[.val (.ref a1), .val (.ref ad2), .val (.int (3 : Int32))] [(.int (0 : Int32)), (.ref ad2), (.ref ad48), (.ref ad48)])) rfl (by rw [hml]; rfl) (Steps.refl _) (a := ad48) (argsL := [(.ref ad2), (.int (0 : Int32))]) (rest := [(.ref ad48)]) (lenOf pd_9 rfl) rfl (by show 2 * 0 + _ ≤ _; exact Nat.le_of_eq rfl) (hb hby d30_35) (fun _ _ => ⟨rfl, e48, (by decide : 2 + 0 ≤ _), (by decide : 5 + 0 ≤ _)⟩)
  dsimp only [Pt.U, Pt.locs, Pt.cells, Pt.slots] at X61 lq61 yq61 zq61 st61 hQ61
  subst lq61 yq61 zq61
  obtain ⟨rfl, Nq61, K59, g60⟩ := hQ61
  have N61 := Fr.app N39 Nq61
  have g62 : Arv Z T61.heap a1 ka (.object "java/lang/Object") (3 : Int32) [(.ref y0), (.ref y1), (.ref y2)] .null := g49.keep K59 (ninS ne48_1 nin0)
  have g63 : Exa Z T61.heap y0 "com/example/kempt_cursor/kemptcursor/Keyed" := g50.keep K59
  have g64 : Exa Z T61.heap y1 "com/example/kempt_cursor/kemptcursor/Keyed" := g51.keep K59
  have g65 : Exa Z T61.heap y2 "com/example/kempt_cursor/kemptcursor/Keyed" := g52.keep K59
  have g66 : Arv Z T61.heap ad2 k2 (.object "java/lang/Object") (3 : Int32) [(.ref y0), (.ref y1), (.ref y2)] .null := g53.keep K59 (ninS ne48_5 nin0)
  have g67 : Exa Z T61.heap ad2 "[Ljava/lang/Object;" := g54.keep K59
  have Z59 : n0 ≤ T61.heap.size := (Nat.le_trans Z48 K59.1)
  have K68 : Keep h0 T61.heap [] := K55.trans K59 (allS (P := fun x => x ∈ [] ∨ h0.size ≤ x) (Or.inr f48) all0)
  refine own_tr (T' := T61) (g' := (mkF m 38 #[.val (.ref a1), .val (.ref ad2), .val (.int (3 : Int32))] [(.ref ad48)])) st61 ?_
  refine own_rA X61 hx hlk Bd.returns rfl (w := (.ref ad48)) rfl (hb hby d30_38) ?_ (by decide) (by decide)
  exact ⟨ad48, rfl, N61, K68⟩
def Q_loa_1 (Z : State) (a1 : Addr) (ka : ClassId) (y0 : Addr) (em : Addr) (h0 : Heap) (n0 : Nat) (v : Option Value) (h : Heap) (L : List Loc) : Prop := ∃ (r : Addr), v = some (.ref r) ∧ Fr n0 L ∧ Keep h0 h []
theorem ef_rm_loa_1 (m : MethodId) (x0 : Addr) : entryFrame m #[(.ref x0)] 2 = mkF m 0 #[.val (.ref x0), .unset] [] := by first | (simp [entryFrame, mkF, argsToLocals, Value.category]; done) | rfl | (simp [entryFrame, mkF, argsToLocals, Value.category] <;> rfl)
theorem d21_0 : decode jdk_40_method_47_code 0 = .ok (.aload_n 0, 1) := by decide +kernel
theorem d21_1 : decode jdk_40_method_47_code 1 = .ok (.arraylength, 1) := by decide +kernel
theorem d21_2 : decode jdk_40_method_47_code 2 = .ok (.tableswitch 57 0 2 #[26, 32, 43], 26) := by decide +kernel
theorem d21_34 : decode jdk_40_method_47_code 34 = .ok (.new 96, 3) := by decide +kernel
theorem d21_37 : decode jdk_40_method_47_code 37 = .ok (.dup, 1) := by decide +kernel
theorem d21_38 : decode jdk_40_method_47_code 38 = .ok (.aload_n 0, 1) := by decide +kernel
theorem d21_39 : decode jdk_40_method_47_code 39 = .ok (.iconst 0, 1) := by decide +kernel
theorem d21_40 : decode jdk_40_method_47_code 40 = .ok (.aaload, 1) := by decide +kernel
theorem pd_10 : parseMethodDescriptor "(Ljava/lang/Object;)V" = some ⟨[.object "java/lang/Object"], none⟩ := by decide +kernel
theorem d21_41 : decode jdk_40_method_47_code 41 = .ok (.invokespecial 98, 3) := by decide +kernel
theorem d21_44 : decode jdk_40_method_47_code 44 = .ok (.areturn, 1) := by decide +kernel
set_option maxRecDepth 65536 in
set_option maxHeartbeats 40000000 in
theorem rm_loa_1 (l : Launch) (Z : State) (a0 : Array Value) (hw : ∀ d ∈ tables_1, d.before a0 Z = true) (ws : List Jvm.Cond) (a1 : Addr) (ka : ClassId) (y0 : Addr) (em : Addr) (h0 : Heap) (n0 : Nat) (Z0 : n0 ≤ h0.size) (F_0 : Arv Z h0 a1 ka (.object "java/lang/Object") (1 : Int32) [(.ref y0)] .null) (F_1 : Exa Z h0 y0 "com/example/kempt_cursor/kemptcursor/Keyed") (O0 : Old Z n0 h0) (S_em : Sta Z Z.heap "java/util/ImmutableCollections" "EMPTY" "Ljava/lang/Object;" (.ref em)) :
    MetFree l (⟨"java/util/List", "of", "([Ljava/lang/Object;)Ljava/util/List;"⟩ : MethodName) (head1 (Jvm.Cond.code (⟨"java/util/List", "of", "([Ljava/lang/Object;)Ljava/util/List;"⟩ : MethodName) jdk_40_method_47_code 2 (some (.object "java/util/List")) :: ws) ({ frames := 5, cells := 1, slots := 2, locals := 62 } : Room)) (fun a U => a = #[(.ref a1)] ∧ Z.Warmed39 U.vm ∧ U.heap = h0) (fun _ _ _ _ _ => True) (fun _ U o U' => ∃ v L, o = .returned v ∧ (Q_loa_1 Z a1 ka y0 em h0 n0) v U'.heap L ∧ FrameEnd U o U' L ({ frames := 5, cells := 1, slots := 2, locals := 62 } : Room).cells ({ frames := 5, cells := 1, slots := 2, locals := 62 } : Room).slots) := by
  refine MetFree.of_bodySF (plainFor_of_name pn_10) hisR ?_
  intro p e s m args below meth c s₁ Bd hml0 hP hK
  obtain ⟨rfl, hZ, hh⟩ := hP
  have hx := Bd.exec
  have hby := Bd.bytes
  have hlk : meth.locks = false := BodyLoose.notSynchronized Bd
  have hml : c.maxLocals = 2 := hml0
  have hown : s.vm.findClass "java/util/List" = some m.cls := findClass_of_methodNamed Bd.named
  have hnm := (name_of_methodNamed Bd.named Bd.method).1
  have X0 : Stand p l e ({ frames := 5, cells := 1, slots := 2, locals := 62 } : Room) s m #[(.ref a1)] below meth c s₁ [] 0 0 := Stand.of_body Bd
  have e0 : s₁.heap = h0 := by rw [← hh, Bd.state]; rfl
  have N0 := Fr.nil n0
  show own_Go p e below s (Q_loa_1 Z a1 ka y0 em h0 n0) ({ frames := 5, cells := 1, slots := 2, locals := 62 } : Room).cells ({ frames := 5, cells := 1, slots := 2, locals := 62 } : Room).slots s₁ (entryFrame m #[(.ref a1)] 2)
  refine own_cast (g' := (mkF m 0 #[.val (.ref a1), .unset] [])) (ef_rm_loa_1 m a1) ?_
  have K0 : Keep h0 h0 [] := Keep.refl _ _
  refine own_step (T' := s₁) (g' := (mkF m 1 #[.val (.ref a1), .unset] [(.ref a1)])) (fun t k => XS.aloadN X0.here hx rfl (hb hby d21_0) rfl rfl k) ?_
  obtain ⟨cl1, Ar1, qa1, S1, M1, H1, U1⟩ := id F_0
  have ln1 := len_of S1 M1
  refine own_step (T' := s₁) (g' := (mkF m 2 #[.val (.ref a1), .unset] [(.int (1 : Int32))])) (fun t k => X0.arraylength hx (cell := cl1) (by rw [e0]; exact Ar1.1) (State.isArrayOf_alike hZ.alike Ar1.2.1) (g := (mkF m 1 #[.val (.ref a1), .unset] [(.ref a1)])) rfl rfl (hb hby d21_1) t (by rw [ln1]; exact k)) ?_
  refine own_step (T' := s₁) (g' := (mkF m 34 #[.val (.ref a1), .unset] [])) (fun t k => XS.tswIn X0.here hx rfl (pc0 := 2) (pc' := 34) (o := 32) rfl (hb hby d21_2) rfl (by decide) (by decide) (by decide) (by decide) k) ?_
  obtain ⟨T2, h2, X2, e2, E2, A2, D2, -, st2⟩ := newO X0 hx hZ hown (hw _ (List.mem_of_getElem? (i := 144) rfl)) (hw _ (List.mem_of_getElem? (i := 145) rfl)) (hw _ (List.mem_of_getElem? (i := 146) rfl)) e0 (g := (mkF m 34 #[.val (.ref a1), .unset] [])) rfl (hb hby d21_34) (by decide : 0 + 1 ≤ _) (by decide : 0 + 2 ≤ _)
  obtain ⟨ad2, g_ad2⟩ : ∃ z, z = h0.size := ⟨_, rfl⟩
  rw [← g_ad2] at A2 D2 st2
  have g3 : Arv Z h2 a1 ka (.object "java/lang/Object") (1 : Int32) [(.ref y0)] .null := F_0.ext E2
  have g4 : Exa Z h2 y0 "com/example/kempt_cursor/kemptcursor/Keyed" := F_1.ext E2
  have ne2_1 : a1 ≠ ad2 := Nat.ne_of_lt (by rw [g_ad2]; exact F_0.lt)
  have ne2_2 : y0 ≠ ad2 := Nat.ne_of_lt (by rw [g_ad2]; exact F_1.lt)
  have o2 : n0 ≤ ad2 := (Nat.le_trans Z0 (Nat.le_of_eq g_ad2.symm))
  have Z2 : n0 ≤ h2.size := (Nat.le_trans Z0 E2.1)
  have O2 : Old Z n0 h2 := O0.ext E2
  have f2 : h0.size ≤ ad2 := by rw [g_ad2]; exact K0.1
  have K5 : Keep h0 h2 [] := K0.ext E2
  have g6 : Fld Z h2 ad2 "java/util/ImmutableCollections$List12" "e0" "Ljava/lang/Object;" .null := D2 (Or.inr (hw _ (List.mem_of_getElem? (i := 170) rfl))) (ty := .object "java/lang/Object") (by decide)
  have g7 : Fld Z h2 ad2 "java/util/ImmutableCollections$List12" "e1" "Ljava/lang/Object;" .null := D2 (Or.inr (hw _ (List.mem_of_getElem? (i := 172) rfl))) (ty := .object "java/lang/Object") (by decide)
  refine own_step (T' := T2) (g' := (mkF m 37 #[.val (.ref a1), .unset] [(.ref ad2)])) st2 ?_
  refine own_step (T' := T2) (g' := (mkF m 38 #[.val (.ref a1), .unset] [(.ref ad2), (.ref ad2)])) (fun t k => XS.dup X2.here hx rfl (hb hby d21_37) rfl rfl k) ?_
  refine own_step (T' := T2) (g' := (mkF m 39 #[.val (.ref a1), .unset] [(.ref a1), (.ref ad2), (.ref ad2)])) (fun t k => XS.aloadN X2.here hx rfl (hb hby d21_38) rfl rfl k) ?_
  refine own_step (T' := T2) (g' := (mkF m 40 #[.val (.ref a1), .unset] [(.int (0 : Int32)), (.ref a1), (.ref ad2), (.ref ad2)])) (fun t k => XS.iconst X2.here hx rfl (hb hby d21_39) k) ?_
  obtain ⟨cl8, Ar8, qa8, S8, M8, H8, U8⟩ := id g3
  have hi8 := inb_of S8 (j := (0 : Int32)) ⟨by decide, by decide⟩
  have hat8 := H8.at hi8 (v := (.ref y0)) rfl
  refine own_step (T' := T2) (g' := (mkF m 41 #[.val (.ref a1), .unset] [(.ref y0), (.ref ad2), (.ref ad2)])) (fun t k => X2.aaload hx (j := (0 : Int32)) (v := (.ref y0)) (by rw [e2]; exact Ar8.1) (State.isArrayOf_alike hZ.alike Ar8.2.1) rfl Ar8.2.2 hi8 hat8 (g := (mkF m 40 #[.val (.ref a1), .unset] [(.int (0 : Int32)), (.ref a1), (.ref ad2), (.ref ad2)])) rfl rfl (hb hby d21_40) t k) ?_
  obtain ⟨_, _, ⟨T12, L12, k12, n12⟩, -, X12, ⟨Lc12, hQ12, lq12, yq12, zq12⟩, st12⟩ := X2.specialBack hx (y := (⟨"java/util/ImmutableCollections$List12", "<init>", "(Ljava/lang/Object;)V"⟩ : MethodName)) rfl hown (mvT hZ (hw _ (List.mem_of_getElem? (i := 222) rfl))) (mvT hZ (hw _ (List.mem_of_getElem? (i := 223) rfl))) (mvT hZ (hw _ (List.mem_of_getElem? (i := 224) rfl))) (by decide) (backOf (W := 1) (rm_i12a l Z a0 hw [] ad2 y0 em .null .null h2 n0 Z2 A2 g6 g7 o2 O2 S_em) hZ (hw _ (List.mem_of_getElem? (i := 224) rfl)) (hw _ (List.mem_of_getElem? (i := 146) rfl)) (by decide) (by decide)) (g := (mkF m 41 #[.val (.ref a1), .unset] [(.ref y0), (.ref ad2), (.ref ad2)])) rfl (by rw [hml]; rfl) (Steps.refl _) (a := ad2) (argsL := [(.ref y0)]) (rest := [(.ref ad2)]) (lenOf pd_10 rfl) rfl (by show 2 * 0 + _ ≤ _; exact Nat.le_of_eq rfl) (hb hby d21_41) (fun _ _ => ⟨rfl, e2, (by decide : 1 + 0 ≤ _), (by decide : 2 + 0 ≤ _)⟩)
  dsimp only [Pt.U, Pt.locs, Pt.cells, Pt.slots] at X12 lq12 yq12 zq12 st12 hQ12
  subst lq12 yq12 zq12
  obtain ⟨rfl, Nq12, K10, g11⟩ := hQ12
  have N12 := Fr.app N0 Nq12
  have g13 : Arv Z T12.heap a1 ka (.object "java/lang/Object") (1 : Int32) [(.ref y0)] .null := g3.keep K10 (ninS ne2_1 nin0)
  have g14 : Exa Z T12.heap y0 "com/example/kempt_cursor/kemptcursor/Keyed" := g4.keep K10
  have Z10 : n0 ≤ T12.heap.size := (Nat.le_trans Z2 K10.1)
  have O10 : Old Z n0 T12.heap := O2.keep K10 (allS (P := fun x => n0 ≤ x) o2 all0)
  have K15 : Keep h0 T12.heap [] := K5.trans K10 (allS (P := fun x => x ∈ [] ∨ h0.size ≤ x) (Or.inr f2) all0)
  refine own_tr (T' := T12) (g' := (mkF m 44 #[.val (.ref a1), .unset] [(.ref ad2)])) st12 ?_
  refine own_rA X12 hx hlk Bd.returns rfl (w := (.ref ad2)) rfl (hb hby d21_44) ?_ (by decide) (by decide)
  exact ⟨ad2, rfl, N12, K15⟩
def Q_loa_2 (Z : State) (a1 : Addr) (ka : ClassId) (y0 : Addr) (y1 : Addr) (em : Addr) (h0 : Heap) (n0 : Nat) (v : Option Value) (h : Heap) (L : List Loc) : Prop := ∃ (r : Addr), v = some (.ref r) ∧ Fr n0 L ∧ Keep h0 h []
theorem ef_rm_loa_2 (m : MethodId) (x0 : Addr) : entryFrame m #[(.ref x0)] 2 = mkF m 0 #[.val (.ref x0), .unset] [] := by first | (simp [entryFrame, mkF, argsToLocals, Value.category]; done) | rfl | (simp [entryFrame, mkF, argsToLocals, Value.category] <;> rfl)
theorem d21_45 : decode jdk_40_method_47_code 45 = .ok (.new 96, 3) := by decide +kernel
theorem d21_48 : decode jdk_40_method_47_code 48 = .ok (.dup, 1) := by decide +kernel
theorem d21_49 : decode jdk_40_method_47_code 49 = .ok (.aload_n 0, 1) := by decide +kernel
theorem d21_50 : decode jdk_40_method_47_code 50 = .ok (.iconst 0, 1) := by decide +kernel
theorem d21_51 : decode jdk_40_method_47_code 51 = .ok (.aaload, 1) := by decide +kernel
theorem d21_52 : decode jdk_40_method_47_code 52 = .ok (.aload_n 0, 1) := by decide +kernel
theorem d21_53 : decode jdk_40_method_47_code 53 = .ok (.iconst 1, 1) := by decide +kernel
theorem d21_54 : decode jdk_40_method_47_code 54 = .ok (.aaload, 1) := by decide +kernel
theorem pd_11 : parseMethodDescriptor "(Ljava/lang/Object;Ljava/lang/Object;)V" = some ⟨[.object "java/lang/Object", .object "java/lang/Object"], none⟩ := by decide +kernel
theorem d21_55 : decode jdk_40_method_47_code 55 = .ok (.invokespecial 100, 3) := by decide +kernel
theorem d21_58 : decode jdk_40_method_47_code 58 = .ok (.areturn, 1) := by decide +kernel
set_option maxRecDepth 65536 in
set_option maxHeartbeats 40000000 in
theorem rm_loa_2 (l : Launch) (Z : State) (a0 : Array Value) (hw : ∀ d ∈ tables_1, d.before a0 Z = true) (ws : List Jvm.Cond) (a1 : Addr) (ka : ClassId) (y0 : Addr) (y1 : Addr) (em : Addr) (h0 : Heap) (n0 : Nat) (Z0 : n0 ≤ h0.size) (F_0 : Arv Z h0 a1 ka (.object "java/lang/Object") (2 : Int32) [(.ref y0), (.ref y1)] .null) (F_1 : Exa Z h0 y0 "com/example/kempt_cursor/kemptcursor/Keyed") (F_2 : Exa Z h0 y1 "com/example/kempt_cursor/kemptcursor/Keyed") (O0 : Old Z n0 h0) (S_em : Sta Z Z.heap "java/util/ImmutableCollections" "EMPTY" "Ljava/lang/Object;" (.ref em)) :
    MetFree l (⟨"java/util/List", "of", "([Ljava/lang/Object;)Ljava/util/List;"⟩ : MethodName) (head1 (Jvm.Cond.code (⟨"java/util/List", "of", "([Ljava/lang/Object;)Ljava/util/List;"⟩ : MethodName) jdk_40_method_47_code 2 (some (.object "java/util/List")) :: ws) ({ frames := 5, cells := 1, slots := 2, locals := 63 } : Room)) (fun a U => a = #[(.ref a1)] ∧ Z.Warmed39 U.vm ∧ U.heap = h0) (fun _ _ _ _ _ => True) (fun _ U o U' => ∃ v L, o = .returned v ∧ (Q_loa_2 Z a1 ka y0 y1 em h0 n0) v U'.heap L ∧ FrameEnd U o U' L ({ frames := 5, cells := 1, slots := 2, locals := 63 } : Room).cells ({ frames := 5, cells := 1, slots := 2, locals := 63 } : Room).slots) := by
  refine MetFree.of_bodySF (plainFor_of_name pn_10) hisR ?_
  intro p e s m args below meth c s₁ Bd hml0 hP hK
  obtain ⟨rfl, hZ, hh⟩ := hP
  have hx := Bd.exec
  have hby := Bd.bytes
  have hlk : meth.locks = false := BodyLoose.notSynchronized Bd
  have hml : c.maxLocals = 2 := hml0
  have hown : s.vm.findClass "java/util/List" = some m.cls := findClass_of_methodNamed Bd.named
  have hnm := (name_of_methodNamed Bd.named Bd.method).1
  have X0 : Stand p l e ({ frames := 5, cells := 1, slots := 2, locals := 63 } : Room) s m #[(.ref a1)] below meth c s₁ [] 0 0 := Stand.of_body Bd
  have e0 : s₁.heap = h0 := by rw [← hh, Bd.state]; rfl
  have N0 := Fr.nil n0
  show own_Go p e below s (Q_loa_2 Z a1 ka y0 y1 em h0 n0) ({ frames := 5, cells := 1, slots := 2, locals := 63 } : Room).cells ({ frames := 5, cells := 1, slots := 2, locals := 63 } : Room).slots s₁ (entryFrame m #[(.ref a1)] 2)
  refine own_cast (g' := (mkF m 0 #[.val (.ref a1), .unset] [])) (ef_rm_loa_2 m a1) ?_
  have K0 : Keep h0 h0 [] := Keep.refl _ _
  refine own_step (T' := s₁) (g' := (mkF m 1 #[.val (.ref a1), .unset] [(.ref a1)])) (fun t k => XS.aloadN X0.here hx rfl (hb hby d21_0) rfl rfl k) ?_
  obtain ⟨cl1, Ar1, qa1, S1, M1, H1, U1⟩ := id F_0
  have ln1 := len_of S1 M1
  refine own_step (T' := s₁) (g' := (mkF m 2 #[.val (.ref a1), .unset] [(.int (2 : Int32))])) (fun t k => X0.arraylength hx (cell := cl1) (by rw [e0]; exact Ar1.1) (State.isArrayOf_alike hZ.alike Ar1.2.1) (g := (mkF m 1 #[.val (.ref a1), .unset] [(.ref a1)])) rfl rfl (hb hby d21_1) t (by rw [ln1]; exact k)) ?_
  refine own_step (T' := s₁) (g' := (mkF m 45 #[.val (.ref a1), .unset] [])) (fun t k => XS.tswIn X0.here hx rfl (pc0 := 2) (pc' := 45) (o := 43) rfl (hb hby d21_2) rfl (by decide) (by decide) (by decide) (by decide) k) ?_
  obtain ⟨T2, h2, X2, e2, E2, A2, D2, -, st2⟩ := newO X0 hx hZ hown (hw _ (List.mem_of_getElem? (i := 144) rfl)) (hw _ (List.mem_of_getElem? (i := 145) rfl)) (hw _ (List.mem_of_getElem? (i := 146) rfl)) e0 (g := (mkF m 45 #[.val (.ref a1), .unset] [])) rfl (hb hby d21_45) (by decide : 0 + 1 ≤ _) (by decide : 0 + 2 ≤ _)
  obtain ⟨ad2, g_ad2⟩ : ∃ z, z = h0.size := ⟨_, rfl⟩
  rw [← g_ad2] at A2 D2 st2
  have g3 : Arv Z h2 a1 ka (.object "java/lang/Object") (2 : Int32) [(.ref y0), (.ref y1)] .null := F_0.ext E2
  have g4 : Exa Z h2 y0 "com/example/kempt_cursor/kemptcursor/Keyed" := F_1.ext E2
  have g5 : Exa Z h2 y1 "com/example/kempt_cursor/kemptcursor/Keyed" := F_2.ext E2
  have ne2_1 : a1 ≠ ad2 := Nat.ne_of_lt (by rw [g_ad2]; exact F_0.lt)
  have ne2_2 : y0 ≠ ad2 := Nat.ne_of_lt (by rw [g_ad2]; exact F_1.lt)
  have ne2_3 : y1 ≠ ad2 := Nat.ne_of_lt (by rw [g_ad2]; exact F_2.lt)
  have o2 : n0 ≤ ad2 := (Nat.le_trans Z0 (Nat.le_of_eq g_ad2.symm))
  have Z2 : n0 ≤ h2.size := (Nat.le_trans Z0 E2.1)
  have O2 : Old Z n0 h2 := O0.ext E2
  have f2 : h0.size ≤ ad2 := by rw [g_ad2]; exact K0.1
  have K6 : Keep h0 h2 [] := K0.ext E2
  have g7 : Fld Z h2 ad2 "java/util/ImmutableCollections$List12" "e0" "Ljava/lang/Object;" .null := D2 (Or.inr (hw _ (List.mem_of_getElem? (i := 170) rfl))) (ty := .object "java/lang/Object") (by decide)
  have g8 : Fld Z h2 ad2 "java/util/ImmutableCollections$List12" "e1" "Ljava/lang/Object;" .null := D2 (Or.inr (hw _ (List.mem_of_getElem? (i := 172) rfl))) (ty := .object "java/lang/Object") (by decide)
  refine own_step (T' := T2) (g' := (mkF m 48 #[.val (.ref a1), .unset] [(.ref ad2)])) st2 ?_
  refine own_step (T' := T2) (g' := (mkF m 49 #[.val (.ref a1), .unset] [(.ref ad2), (.ref ad2)])) (fun t k => XS.dup X2.here hx rfl (hb hby d21_48) rfl rfl k) ?_
  refine own_step (T' := T2) (g' := (mkF m 50 #[.val (.ref a1), .unset] [(.ref a1), (.ref ad2), (.ref ad2)])) (fun t k => XS.aloadN X2.here hx rfl (hb hby d21_49) rfl rfl k) ?_
  refine own_step (T' := T2) (g' := (mkF m 51 #[.val (.ref a1), .unset] [(.int (0 : Int32)), (.ref a1), (.ref ad2), (.ref ad2)])) (fun t k => XS.iconst X2.here hx rfl (hb hby d21_50) k) ?_
  obtain ⟨cl9, Ar9, qa9, S9, M9, H9, U9⟩ := id g3
  have hi9 := inb_of S9 (j := (0 : Int32)) ⟨by decide, by decide⟩
  have hat9 := H9.at hi9 (v := (.ref y0)) rfl
  refine own_step (T' := T2) (g' := (mkF m 52 #[.val (.ref a1), .unset] [(.ref y0), (.ref ad2), (.ref ad2)])) (fun t k => X2.aaload hx (j := (0 : Int32)) (v := (.ref y0)) (by rw [e2]; exact Ar9.1) (State.isArrayOf_alike hZ.alike Ar9.2.1) rfl Ar9.2.2 hi9 hat9 (g := (mkF m 51 #[.val (.ref a1), .unset] [(.int (0 : Int32)), (.ref a1), (.ref ad2), (.ref ad2)])) rfl rfl (hb hby d21_51) t k) ?_
  refine own_step (T' := T2) (g' := (mkF m 53 #[.val (.ref a1), .unset] [(.ref a1), (.ref y0), (.ref ad2), (.ref ad2)])) (fun t k => XS.aloadN X2.here hx rfl (hb hby d21_52) rfl rfl k) ?_
  refine own_step (T' := T2) (g' := (mkF m 54 #[.val (.ref a1), .unset] [(.int (1 : Int32)), (.ref a1), (.ref y0), (.ref ad2), (.ref ad2)])) (fun t k => XS.iconst X2.here hx rfl (hb hby d21_53) k) ?_
  obtain ⟨cl10, Ar10, qa10, S10, M10, H10, U10⟩ := id g3
  have hi10 := inb_of S10 (j := (1 : Int32)) ⟨by decide, by decide⟩
  have hat10 := H10.at hi10 (v := (.ref y1)) rfl
  refine own_step (T' := T2) (g' := (mkF m 55 #[.val (.ref a1), .unset] [(.ref y1), (.ref y0), (.ref ad2), (.ref ad2)])) (fun t k => X2.aaload hx (j := (1 : Int32)) (v := (.ref y1)) (by rw [e2]; exact Ar10.1) (State.isArrayOf_alike hZ.alike Ar10.2.1) rfl Ar10.2.2 hi10 hat10 (g := (mkF m 54 #[.val (.ref a1), .unset] [(.int (1 : Int32)), (.ref a1), (.ref y0), (.ref ad2), (.ref ad2)])) rfl rfl (hb hby d21_54) t k) ?_
  obtain ⟨_, _, ⟨T14, L14, k14, n14⟩, -, X14, ⟨Lc14, hQ14, lq14, yq14, zq14⟩, st14⟩ := X2.specialBack hx (y := (⟨"java/util/ImmutableCollections$List12", "<init>", "(Ljava/lang/Object;Ljava/lang/Object;)V"⟩ : MethodName)) rfl hown (mvT hZ (hw _ (List.mem_of_getElem? (i := 147) rfl))) (mvT hZ (hw _ (List.mem_of_getElem? (i := 148) rfl))) (mvT hZ (hw _ (List.mem_of_getElem? (i := 150) rfl))) (by decide) (backOf (W := 1) (rm_i12b l Z a0 hw [] ad2 y0 y1 .null .null h2 n0 Z2 A2 g7 g8 o2) hZ (hw _ (List.mem_of_getElem? (i := 150) rfl)) (hw _ (List.mem_of_getElem? (i := 146) rfl)) (by decide) (by decide)) (g := (mkF m 55 #[.val (.ref a1), .unset] [(.ref y1), (.ref y0), (.ref ad2), (.ref ad2)])) rfl (by rw [hml]; rfl) (Steps.refl _) (a := ad2) (argsL := [(.ref y0), (.ref y1)]) (rest := [(.ref ad2)]) (lenOf pd_11 rfl) rfl (by show 2 * 0 + _ ≤ _; exact Nat.le_of_eq rfl) (hb hby d21_55) (fun _ _ => ⟨rfl, e2, (by decide : 1 + 0 ≤ _), (by decide : 2 + 0 ≤ _)⟩)
  dsimp only [Pt.U, Pt.locs, Pt.cells, Pt.slots] at X14 lq14 yq14 zq14 st14 hQ14
  subst lq14 yq14 zq14
  obtain ⟨rfl, Nq14, K12, g13⟩ := hQ14
  have N14 := Fr.app N0 Nq14
  have g15 : Arv Z T14.heap a1 ka (.object "java/lang/Object") (2 : Int32) [(.ref y0), (.ref y1)] .null := g3.keep K12 (ninS ne2_1 nin0)
  have g16 : Exa Z T14.heap y0 "com/example/kempt_cursor/kemptcursor/Keyed" := g4.keep K12
  have g17 : Exa Z T14.heap y1 "com/example/kempt_cursor/kemptcursor/Keyed" := g5.keep K12
  have Z12 : n0 ≤ T14.heap.size := (Nat.le_trans Z2 K12.1)
  have O12 : Old Z n0 T14.heap := O2.keep K12 (allS (P := fun x => n0 ≤ x) o2 all0)
  have K18 : Keep h0 T14.heap [] := K6.trans K12 (allS (P := fun x => x ∈ [] ∨ h0.size ≤ x) (Or.inr f2) all0)
  refine own_tr (T' := T14) (g' := (mkF m 58 #[.val (.ref a1), .unset] [(.ref ad2)])) st14 ?_
  refine own_rA X14 hx hlk Bd.returns rfl (w := (.ref ad2)) rfl (hb hby d21_58) ?_ (by decide) (by decide)
  exact ⟨ad2, rfl, N14, K18⟩
def Q_loa_3 (Z : State) (a1 : Addr) (ka : ClassId) (y0 : Addr) (y1 : Addr) (y2 : Addr) (em : Addr) (h0 : Heap) (n0 : Nat) (v : Option Value) (h : Heap) (L : List Loc) : Prop := ∃ (r : Addr), v = some (.ref r) ∧ Fr n0 L ∧ Keep h0 h []
theorem ef_rm_loa_3 (m : MethodId) (x0 : Addr) : entryFrame m #[(.ref x0)] 2 = mkF m 0 #[.val (.ref x0), .unset] [] := by first | (simp [entryFrame, mkF, argsToLocals, Value.category]; done) | rfl | (simp [entryFrame, mkF, argsToLocals, Value.category] <;> rfl)
theorem d21_59 : decode jdk_40_method_47_code 59 = .ok (.aload_n 0, 1) := by decide +kernel
theorem pd_12 : parseMethodDescriptor "([Ljava/lang/Object;)Ljava/util/List;" = some ⟨[.array (.object "java/lang/Object")], some (.object "java/util/List")⟩ := by decide +kernel
theorem d21_60 : decode jdk_40_method_47_code 60 = .ok (.invokestatic 109, 3) := by decide +kernel
theorem d21_63 : decode jdk_40_method_47_code 63 = .ok (.areturn, 1) := by decide +kernel
set_option maxRecDepth 65536 in
set_option maxHeartbeats 40000000 in
theorem rm_loa_3 (l : Launch) (Z : State) (a0 : Array Value) (hw : ∀ d ∈ tables_1, d.before a0 Z = true) (ws : List Jvm.Cond) (a1 : Addr) (ka : ClassId) (y0 : Addr) (y1 : Addr) (y2 : Addr) (em : Addr) (h0 : Heap) (n0 : Nat) (Z0 : n0 ≤ h0.size) (F_0 : Arv Z h0 a1 ka (.object "java/lang/Object") (3 : Int32) [(.ref y0), (.ref y1), (.ref y2)] .null) (F_1 : Exa Z h0 y0 "com/example/kempt_cursor/kemptcursor/Keyed") (F_2 : Exa Z h0 y1 "com/example/kempt_cursor/kemptcursor/Keyed") (F_3 : Exa Z h0 y2 "com/example/kempt_cursor/kemptcursor/Keyed") (O0 : Old Z n0 h0) (S_em : Sta Z Z.heap "java/util/ImmutableCollections" "EMPTY" "Ljava/lang/Object;" (.ref em)) :
    MetFree l (⟨"java/util/List", "of", "([Ljava/lang/Object;)Ljava/util/List;"⟩ : MethodName) (head1 (Jvm.Cond.code (⟨"java/util/List", "of", "([Ljava/lang/Object;)Ljava/util/List;"⟩ : MethodName) jdk_40_method_47_code 2 (some (.object "java/util/List")) :: ws) ({ frames := 6, cells := 2, slots := 5, locals := 77 } : Room)) (fun a U => a = #[(.ref a1)] ∧ Z.Warmed39 U.vm ∧ U.heap = h0) (fun _ _ _ _ _ => True) (fun _ U o U' => ∃ v L, o = .returned v ∧ (Q_loa_3 Z a1 ka y0 y1 y2 em h0 n0) v U'.heap L ∧ FrameEnd U o U' L ({ frames := 6, cells := 2, slots := 5, locals := 77 } : Room).cells ({ frames := 6, cells := 2, slots := 5, locals := 77 } : Room).slots) := by
  refine MetFree.of_bodySF (plainFor_of_name pn_10) hisR ?_
  intro p e s m args below meth c s₁ Bd hml0 hP hK
  obtain ⟨rfl, hZ, hh⟩ := hP
  have hx := Bd.exec
  have hby := Bd.bytes
  have hlk : meth.locks = false := BodyLoose.notSynchronized Bd
  have hml : c.maxLocals = 2 := hml0
  have hown : s.vm.findClass "java/util/List" = some m.cls := findClass_of_methodNamed Bd.named
  have hnm := (name_of_methodNamed Bd.named Bd.method).1
  have X0 : Stand p l e ({ frames := 6, cells := 2, slots := 5, locals := 77 } : Room) s m #[(.ref a1)] below meth c s₁ [] 0 0 := Stand.of_body Bd
  have e0 : s₁.heap = h0 := by rw [← hh, Bd.state]; rfl
  have N0 := Fr.nil n0
  show own_Go p e below s (Q_loa_3 Z a1 ka y0 y1 y2 em h0 n0) ({ frames := 6, cells := 2, slots := 5, locals := 77 } : Room).cells ({ frames := 6, cells := 2, slots := 5, locals := 77 } : Room).slots s₁ (entryFrame m #[(.ref a1)] 2)
  refine own_cast (g' := (mkF m 0 #[.val (.ref a1), .unset] [])) (ef_rm_loa_3 m a1) ?_
  have K0 : Keep h0 h0 [] := Keep.refl _ _
  refine own_step (T' := s₁) (g' := (mkF m 1 #[.val (.ref a1), .unset] [(.ref a1)])) (fun t k => XS.aloadN X0.here hx rfl (hb hby d21_0) rfl rfl k) ?_
  obtain ⟨cl1, Ar1, qa1, S1, M1, H1, U1⟩ := id F_0
  have ln1 := len_of S1 M1
  refine own_step (T' := s₁) (g' := (mkF m 2 #[.val (.ref a1), .unset] [(.int (3 : Int32))])) (fun t k => X0.arraylength hx (cell := cl1) (by rw [e0]; exact Ar1.1) (State.isArrayOf_alike hZ.alike Ar1.2.1) (g := (mkF m 1 #[.val (.ref a1), .unset] [(.ref a1)])) rfl rfl (hb hby d21_1) t (by rw [ln1]; exact k)) ?_
  refine own_step (T' := s₁) (g' := (mkF m 59 #[.val (.ref a1), .unset] [])) (fun t k => XS.tswOut X0.here hx rfl (pc0 := 2) (pc' := 59) rfl (hb hby d21_2) rfl (by decide) (by decide) (by decide) k) ?_
  refine own_step (T' := s₁) (g' := (mkF m 60 #[.val (.ref a1), .unset] [(.ref a1)])) (fun t k => XS.aloadN X0.here hx rfl (hb hby d21_59) rfl rfl k) ?_
  obtain ⟨_, _, ⟨T4, L4, k4, n4⟩, -, X4, ⟨Lc4, hQ4, lq4, yq4, zq4⟩, st4⟩ := Jvm.LawKit.callS X0 hx (y := (⟨"java/util/ImmutableCollections", "listFromArray", "([Ljava/lang/Object;)Ljava/util/List;"⟩ : MethodName)) hown (mvT hZ (hw _ (List.mem_of_getElem? (i := 203) rfl))) (mvT hZ (hw _ (List.mem_of_getElem? (i := 204) rfl))) (mvT hZ (hw _ (List.mem_of_getElem? (i := 94) rfl))) (mvT hZ (hw _ (List.mem_of_getElem? (i := 205) rfl))) (by decide) (backOf (W := 0) (rm_lfa l Z a0 hw [] a1 ka y0 y1 y2 h0 n0 Z0 F_0 F_1 F_2 F_3) hZ (hw _ (List.mem_of_getElem? (i := 205) rfl)) (hw _ (List.mem_of_getElem? (i := 94) rfl)) (by decide) (by decide)) (g := (mkF m 60 #[.val (.ref a1), .unset] [(.ref a1)])) rfl (by rw [hml]; rfl) (argsL := [(.ref a1)]) (rest := []) (lenOf pd_12 rfl) rfl (by show 2 * 0 + _ ≤ _; exact Nat.le_of_eq rfl) (hb hby d21_60) (fun _ _ => ⟨rfl, e0, (by decide : 0 + 2 ≤ _), (by decide : 0 + 5 ≤ _)⟩)
  dsimp only [Pt.U, Pt.locs, Pt.cells, Pt.slots] at X4 lq4 yq4 zq4 st4 hQ4
  subst lq4 yq4 zq4
  obtain ⟨r_2, rfl, Nq4, K3⟩ := hQ4
  have N4 := Fr.app N0 Nq4
  have g5 : Arv Z T4.heap a1 ka (.object "java/lang/Object") (3 : Int32) [(.ref y0), (.ref y1), (.ref y2)] .null := F_0.keep K3 nin0
  have g6 : Exa Z T4.heap y0 "com/example/kempt_cursor/kemptcursor/Keyed" := F_1.keep K3
  have g7 : Exa Z T4.heap y1 "com/example/kempt_cursor/kemptcursor/Keyed" := F_2.keep K3
  have g8 : Exa Z T4.heap y2 "com/example/kempt_cursor/kemptcursor/Keyed" := F_3.keep K3
  have Z3 : n0 ≤ T4.heap.size := (Nat.le_trans Z0 K3.1)
  have O3 : Old Z n0 T4.heap := O0.keep K3 (all0 (P := fun x => n0 ≤ x))
  have K9 : Keep h0 T4.heap [] := K0.trans K3 (all0 (P := fun x => x ∈ [] ∨ h0.size ≤ x))
  refine own_step (T' := T4) (g' := (mkF m 63 #[.val (.ref a1), .unset] [(.ref r_2)])) st4 ?_
  refine own_rA X4 hx hlk Bd.returns rfl (w := (.ref r_2)) rfl (hb hby d21_63) ?_ (by decide) (by decide)
  exact ⟨r_2, rfl, N4, K9⟩
def Q_lcp_0 (Z : State) (a0s : Addr) (el : Addr) (em : Addr) (mr : Addr) (h0 : Heap) (n0 : Nat) (v : Option Value) (h : Heap) (L : List Loc) : Prop := ∃ (r : Addr), v = some (.ref r) ∧ Fr n0 L ∧ Keep h0 h []
theorem ef_rm_lcp_0 (m : MethodId) (x0 : Addr) : entryFrame m #[(.ref x0)] 2 = mkF m 0 #[.val (.ref x0), .unset] [] := by first | (simp [entryFrame, mkF, argsToLocals, Value.category]; done) | rfl | (simp [entryFrame, mkF, argsToLocals, Value.category] <;> rfl)
theorem d15_0 : decode jdk_56_method_3_code 0 = .ok (.aload_n 0, 1) := by decide +kernel
theorem d15_1 : decode jdk_56_method_3_code 1 = .ok (.instanceof 10, 3) := by decide +kernel
theorem d15_4 : decode jdk_56_method_3_code 4 = .ok (.ifCond .ne 22, 3) := by decide +kernel
theorem d15_7 : decode jdk_56_method_3_code 7 = .ok (.aload_n 0, 1) := by decide +kernel
theorem d15_8 : decode jdk_56_method_3_code 8 = .ok (.instanceof 12, 3) := by decide +kernel
theorem d15_11 : decode jdk_56_method_3_code 11 = .ok (.ifCond .eq 20, 3) := by decide +kernel
theorem d15_31 : decode jdk_56_method_3_code 31 = .ok (.aload_n 0, 1) := by decide +kernel
theorem pd_13 : parseMethodDescriptor "()Z" = some ⟨[], some (.boolean)⟩ := by decide +kernel
theorem d15_32 : decode jdk_56_method_3_code 32 = .ok (.invokeinterface 20 1, 5) := by decide +kernel
theorem d15_37 : decode jdk_56_method_3_code 37 = .ok (.ifCond .eq 7, 3) := by decide +kernel
theorem pd_14 : parseMethodDescriptor "()Ljava/util/List;" = some ⟨[], some (.object "java/util/List")⟩ := by decide +kernel
theorem d15_40 : decode jdk_56_method_3_code 40 = .ok (.invokestatic 26, 3) := by decide +kernel
theorem d15_43 : decode jdk_56_method_3_code 43 = .ok (.areturn, 1) := by decide +kernel
set_option maxRecDepth 65536 in
set_option maxHeartbeats 40000000 in
theorem rm_lcp_0 (l : Launch) (Z : State) (a0 : Array Value) (hw : ∀ d ∈ tables_1, d.before a0 Z = true) (ws : List Jvm.Cond) (a0s : Addr) (el : Addr) (em : Addr) (mr : Addr) (h0 : Heap) (n0 : Nat) (Z0 : n0 ≤ h0.size) (F_0 : Exa Z h0 a0s "java/util/ArrayList") (F_1 : Fld Z h0 a0s "java/util/ArrayList" "size" "I" (.int (0 : Int32))) (O0 : Old Z n0 h0) (S_el : Sta Z Z.heap "java/util/ImmutableCollections" "EMPTY_LIST" "Ljava/util/ImmutableCollections$ListN;" (.ref el)) (S_em : Sta Z Z.heap "java/util/ImmutableCollections" "EMPTY" "Ljava/lang/Object;" (.ref em)) (M_o : own_Mir Z "[Ljava/lang/Object;" mr) :
    MetFree l (⟨"java/util/ImmutableCollections", "listCopy", "(Ljava/util/Collection;)Ljava/util/List;"⟩ : MethodName) (head1 (Jvm.Cond.code (⟨"java/util/ImmutableCollections", "listCopy", "(Ljava/util/Collection;)Ljava/util/List;"⟩ : MethodName) jdk_56_method_3_code 2 (some (.object "java/util/List")) :: ws) ({ frames := 1, cells := 0, slots := 0, locals := 12 } : Room)) (fun a U => a = #[(.ref a0s)] ∧ Z.Warmed39 U.vm ∧ U.heap = h0) (fun _ _ _ _ _ => True) (fun _ U o U' => ∃ v L, o = .returned v ∧ (Q_lcp_0 Z a0s el em mr h0 n0) v U'.heap L ∧ FrameEnd U o U' L ({ frames := 1, cells := 0, slots := 0, locals := 12 } : Room).cells ({ frames := 1, cells := 0, slots := 0, locals := 12 } : Room).slots) := by
  refine MetFree.of_bodySF (plainFor_of_name pn_13) hisR ?_
  intro p e s m args below meth c s₁ Bd hml0 hP hK
  obtain ⟨rfl, hZ, hh⟩ := hP
  have hx := Bd.exec
  have hby := Bd.bytes
  have hlk : meth.locks = false := BodyLoose.notSynchronized Bd
  have hml : c.maxLocals = 2 := hml0
  have hown : s.vm.findClass "java/util/ImmutableCollections" = some m.cls := findClass_of_methodNamed Bd.named
  have hnm := (name_of_methodNamed Bd.named Bd.method).1
  have X0 : Stand p l e ({ frames := 1, cells := 0, slots := 0, locals := 12 } : Room) s m #[(.ref a0s)] below meth c s₁ [] 0 0 := Stand.of_body Bd
  have e0 : s₁.heap = h0 := by rw [← hh, Bd.state]; rfl
  have N0 := Fr.nil n0
  show own_Go p e below s (Q_lcp_0 Z a0s el em mr h0 n0) ({ frames := 1, cells := 0, slots := 0, locals := 12 } : Room).cells ({ frames := 1, cells := 0, slots := 0, locals := 12 } : Room).slots s₁ (entryFrame m #[(.ref a0s)] 2)
  refine own_cast (g' := (mkF m 0 #[.val (.ref a0s), .unset] [])) (ef_rm_lcp_0 m a0s) ?_
  have K0 : Keep h0 h0 [] := Keep.refl _ _
  refine own_step (T' := s₁) (g' := (mkF m 1 #[.val (.ref a0s), .unset] [(.ref a0s)])) (fun t k => XS.aloadN X0.here hx rfl (hb hby d15_0) rfl rfl k) ?_
  obtain ⟨T1, X1, e1, st1⟩ := instNo X0 hx hZ hown (hw _ (List.mem_of_getElem? (i := 96) rfl)) e0 F_0 (own_NSno (hw _ (List.mem_of_getElem? (i := 97) rfl)) (hw _ (List.mem_of_getElem? (i := 145) rfl)) (NS.step (hw _ (List.mem_of_getElem? (i := 97) rfl)) (NS.step (hw _ (List.mem_of_getElem? (i := 98) rfl)) (NS.step (hw _ (List.mem_of_getElem? (i := 99) rfl)) (own_NSroot (hw _ (List.mem_of_getElem? (i := 100) rfl)) (hw _ (List.mem_of_getElem? (i := 145) rfl)) (by decide)) (by decide)) (by decide)) (by decide)) (by decide)) (g := (mkF m 1 #[.val (.ref a0s), .unset] [(.ref a0s)])) rfl rfl (hb hby d15_1)
  refine own_step (T' := T1) (g' := (mkF m 4 #[.val (.ref a0s), .unset] [(.int (0 : Int32))])) st1 ?_
  refine own_step (T' := T1) (g' := (mkF m 7 #[.val (.ref a0s), .unset] [])) (fun t k => XS.ifNo X1.here hx rfl (hb hby d15_4) rfl ((if0 _ _).trans (teq (by decide : ((0 : Int32) = (0 : Int32)))).2) k) ?_
  refine own_step (T' := T1) (g' := (mkF m 8 #[.val (.ref a0s), .unset] [(.ref a0s)])) (fun t k => XS.aloadN X1.here hx rfl (hb hby d15_7) rfl rfl k) ?_
  obtain ⟨T2, X2, e2, st2⟩ := instNo X1 hx hZ hown (hw _ (List.mem_of_getElem? (i := 101) rfl)) e1 F_0 (own_NSno (hw _ (List.mem_of_getElem? (i := 97) rfl)) (hw _ (List.mem_of_getElem? (i := 208) rfl)) (NS.step (hw _ (List.mem_of_getElem? (i := 97) rfl)) (NS.step (hw _ (List.mem_of_getElem? (i := 98) rfl)) (NS.step (hw _ (List.mem_of_getElem? (i := 99) rfl)) (own_NSroot (hw _ (List.mem_of_getElem? (i := 100) rfl)) (hw _ (List.mem_of_getElem? (i := 208) rfl)) (by decide)) (by decide)) (by decide)) (by decide)) (by decide)) (g := (mkF m 8 #[.val (.ref a0s), .unset] [(.ref a0s)])) rfl rfl (hb hby d15_8)
  refine own_step (T' := T2) (g' := (mkF m 11 #[.val (.ref a0s), .unset] [(.int (0 : Int32))])) st2 ?_
  refine own_step (T' := T2) (g' := (mkF m 31 #[.val (.ref a0s), .unset] [])) (fun t k => XS.ifYes X2.here hx rfl (pc0 := 11) (pc' := 31) rfl (hb hby d15_11) rfl ((if0 _ _).trans (teq (by decide : ((0 : Int32) = (0 : Int32)))).1) (by decide) (by decide) k) ?_
  refine own_step (T' := T2) (g' := (mkF m 32 #[.val (.ref a0s), .unset] [(.ref a0s)])) (fun t k => XS.aloadN X2.here hx rfl (hb hby d15_31) rfl rfl k) ?_
  obtain ⟨cq6, kq6, q6a, q6b, q6c⟩ := isOf hZ e2 F_0
  obtain ⟨_, _, ⟨T5, L5, k5, n5⟩, -, X5, ⟨Lc5, hQ5, lq5, yq5, zq5⟩, st5⟩ := X2.interfaceBack hx (xi := (⟨"java/util/Collection", "isEmpty", "()Z"⟩ : MethodName)) (y := (⟨"java/util/ArrayList", "isEmpty", "()Z"⟩ : MethodName)) hown (mvT hZ (hw _ (List.mem_of_getElem? (i := 102) rfl))) (mvT hZ (hw _ (List.mem_of_getElem? (i := 103) rfl))) (mvT hZ (hw _ (List.mem_of_getElem? (i := 104) rfl))) (mvT hZ (hw _ (List.mem_of_getElem? (i := 105) rfl))) (mvT hZ (hw _ (List.mem_of_getElem? (i := 106) rfl))) (mvT hZ (hw _ (List.mem_of_getElem? (i := 107) rfl))) (mvT hZ (hw _ (List.mem_of_getElem? (i := 108) rfl))) (mvT hZ (hw _ (List.mem_of_getElem? (i := 109) rfl))) (by decide) (backOf (W := 0) (rm_emp_0 l Z a0 hw [] a0s h0 n0 Z0 F_1) hZ (hw _ (List.mem_of_getElem? (i := 110) rfl)) (hw _ (List.mem_of_getElem? (i := 3) rfl)) (by decide) (by decide)) q6a q6b q6c (g := (mkF m 32 #[.val (.ref a0s), .unset] [(.ref a0s)])) rfl (by rw [hml]; rfl) (Steps.refl _) (argsL := []) (rest := []) (lenOf pd_13 rfl) rfl (by show 2 * 0 + _ ≤ _; exact Nat.le_of_eq rfl) (hb hby d15_32) (fun _ _ => ⟨rfl, e2, (by decide : 0 + 0 ≤ _), (by decide : 0 + 0 ≤ _)⟩)
  dsimp only [Pt.U, Pt.locs, Pt.cells, Pt.slots] at X5 lq5 yq5 zq5 st5 hQ5
  subst lq5 yq5 zq5
  obtain ⟨rfl, Nq5, eq4⟩ := hQ5
  have N5 := Fr.app N0 Nq5
  refine own_tr (T' := T5) (g' := (mkF m 37 #[.val (.ref a0s), .unset] [(.int (1 : Int32))])) st5 ?_
  refine own_step (T' := T5) (g' := (mkF m 40 #[.val (.ref a0s), .unset] [])) (fun t k => XS.ifNo X5.here hx rfl (hb hby d15_37) rfl ((if0 _ _).trans (feq (by decide : ¬ ((1 : Int32) = (0 : Int32)))).1) k) ?_
  obtain ⟨_, _, ⟨T9, L9, k9, n9⟩, -, X9, ⟨Lc9, hQ9, lq9, yq9, zq9⟩, st9⟩ := Jvm.LawKit.callS X5 hx (y := (⟨"java/util/List", "of", "()Ljava/util/List;"⟩ : MethodName)) hown (mvT hZ (hw _ (List.mem_of_getElem? (i := 184) rfl))) (mvT hZ (hw _ (List.mem_of_getElem? (i := 185) rfl))) (mvT hZ (hw _ (List.mem_of_getElem? (i := 90) rfl))) (mvT hZ (hw _ (List.mem_of_getElem? (i := 186) rfl))) (by decide) (backOf (W := 0) (rm_loe l Z a0 hw [] el h0 n0 Z0 O0 S_el) hZ (hw _ (List.mem_of_getElem? (i := 186) rfl)) (hw _ (List.mem_of_getElem? (i := 90) rfl)) (by decide) (by decide)) (g := (mkF m 40 #[.val (.ref a0s), .unset] [])) rfl (by rw [hml]; rfl) (argsL := []) (rest := []) (lenOf pd_14 rfl) rfl (by show 2 * 0 + _ ≤ _; exact Nat.le_of_eq rfl) (hb hby d15_40) (fun _ _ => ⟨rfl, eq4, (by decide : 0 + 0 ≤ _), (by decide : 0 + 0 ≤ _)⟩)
  dsimp only [Pt.U, Pt.locs, Pt.cells, Pt.slots] at X9 lq9 yq9 zq9 st9 hQ9
  subst lq9 yq9 zq9
  obtain ⟨rfl, Nq9, eq8⟩ := hQ9
  have N9 := Fr.app N5 Nq9
  refine own_step (T' := T9) (g' := (mkF m 43 #[.val (.ref a0s), .unset] [(.ref el)])) st9 ?_
  refine own_rA X9 hx hlk Bd.returns rfl (w := (.ref el)) rfl (hb hby d15_43) ?_ (by decide) (by decide)
  rw [eq8]
  exact ⟨el, rfl, N9, K0⟩
def Q_cpo_0 (Z : State) (a0s : Addr) (el : Addr) (em : Addr) (mr : Addr) (h0 : Heap) (n0 : Nat) (v : Option Value) (h : Heap) (L : List Loc) : Prop := ∃ (r : Addr), v = some (.ref r) ∧ Fr n0 L ∧ Keep h0 h []
theorem ef_rm_cpo_0 (m : MethodId) (x0 : Addr) : entryFrame m #[(.ref x0)] 1 = mkF m 0 #[.val (.ref x0)] [] := by first | (simp [entryFrame, mkF, argsToLocals, Value.category]; done) | rfl | (simp [entryFrame, mkF, argsToLocals, Value.category] <;> rfl)
theorem d14_0 : decode jdk_40_method_48_code 0 = .ok (.aload_n 0, 1) := by decide +kernel
theorem pd_15 : parseMethodDescriptor "(Ljava/util/Collection;)Ljava/util/List;" = some ⟨[.object "java/util/Collection"], some (.object "java/util/List")⟩ := by decide +kernel
theorem d14_1 : decode jdk_40_method_48_code 1 = .ok (.invokestatic 112, 3) := by decide +kernel
theorem d14_4 : decode jdk_40_method_48_code 4 = .ok (.areturn, 1) := by decide +kernel
set_option maxRecDepth 65536 in
set_option maxHeartbeats 40000000 in
theorem rm_cpo_0 (l : Launch) (Z : State) (a0 : Array Value) (hw : ∀ d ∈ tables_1, d.before a0 Z = true) (ws : List Jvm.Cond) (a0s : Addr) (el : Addr) (em : Addr) (mr : Addr) (h0 : Heap) (n0 : Nat) (Z0 : n0 ≤ h0.size) (F_0 : Exa Z h0 a0s "java/util/ArrayList") (F_1 : Fld Z h0 a0s "java/util/ArrayList" "size" "I" (.int (0 : Int32))) (O0 : Old Z n0 h0) (S_el : Sta Z Z.heap "java/util/ImmutableCollections" "EMPTY_LIST" "Ljava/util/ImmutableCollections$ListN;" (.ref el)) (S_em : Sta Z Z.heap "java/util/ImmutableCollections" "EMPTY" "Ljava/lang/Object;" (.ref em)) (M_o : own_Mir Z "[Ljava/lang/Object;" mr) :
    MetFree l (⟨"java/util/List", "copyOf", "(Ljava/util/Collection;)Ljava/util/List;"⟩ : MethodName) (head1 (Jvm.Cond.code (⟨"java/util/List", "copyOf", "(Ljava/util/Collection;)Ljava/util/List;"⟩ : MethodName) jdk_40_method_48_code 1 (some (.object "java/util/List")) :: ws) ({ frames := 2, cells := 0, slots := 0, locals := 25 } : Room)) (fun a U => a = #[(.ref a0s)] ∧ Z.Warmed39 U.vm ∧ U.heap = h0) (fun _ _ _ _ _ => True) (fun _ U o U' => ∃ v L, o = .returned v ∧ (Q_cpo_0 Z a0s el em mr h0 n0) v U'.heap L ∧ FrameEnd U o U' L ({ frames := 2, cells := 0, slots := 0, locals := 25 } : Room).cells ({ frames := 2, cells := 0, slots := 0, locals := 25 } : Room).slots) := by
  refine MetFree.of_bodySF (plainFor_of_name pn_10) hisR ?_
  intro p e s m args below meth c s₁ Bd hml0 hP hK
  obtain ⟨rfl, hZ, hh⟩ := hP
  have hx := Bd.exec
  have hby := Bd.bytes
  have hlk : meth.locks = false := BodyLoose.notSynchronized Bd
  have hml : c.maxLocals = 1 := hml0
  have hown : s.vm.findClass "java/util/List" = some m.cls := findClass_of_methodNamed Bd.named
  have hnm := (name_of_methodNamed Bd.named Bd.method).1
  have X0 : Stand p l e ({ frames := 2, cells := 0, slots := 0, locals := 25 } : Room) s m #[(.ref a0s)] below meth c s₁ [] 0 0 := Stand.of_body Bd
  have e0 : s₁.heap = h0 := by rw [← hh, Bd.state]; rfl
  have N0 := Fr.nil n0
  show own_Go p e below s (Q_cpo_0 Z a0s el em mr h0 n0) ({ frames := 2, cells := 0, slots := 0, locals := 25 } : Room).cells ({ frames := 2, cells := 0, slots := 0, locals := 25 } : Room).slots s₁ (entryFrame m #[(.ref a0s)] 1)
  refine own_cast (g' := (mkF m 0 #[.val (.ref a0s)] [])) (ef_rm_cpo_0 m a0s) ?_
  have K0 : Keep h0 h0 [] := Keep.refl _ _
  refine own_step (T' := s₁) (g' := (mkF m 1 #[.val (.ref a0s)] [(.ref a0s)])) (fun t k => XS.aloadN X0.here hx rfl (hb hby d14_0) rfl rfl k) ?_
  obtain ⟨_, _, ⟨T3, L3, k3, n3⟩, -, X3, ⟨Lc3, hQ3, lq3, yq3, zq3⟩, st3⟩ := Jvm.LawKit.callS X0 hx (y := (⟨"java/util/ImmutableCollections", "listCopy", "(Ljava/util/Collection;)Ljava/util/List;"⟩ : MethodName)) hown (mvT hZ (hw _ (List.mem_of_getElem? (i := 92) rfl))) (mvT hZ (hw _ (List.mem_of_getElem? (i := 93) rfl))) (mvT hZ (hw _ (List.mem_of_getElem? (i := 94) rfl))) (mvT hZ (hw _ (List.mem_of_getElem? (i := 95) rfl))) (by decide) (backOf (W := 0) (rm_lcp_0 l Z a0 hw [] a0s el em mr h0 n0 Z0 F_0 F_1 O0 S_el S_em M_o) hZ (hw _ (List.mem_of_getElem? (i := 95) rfl)) (hw _ (List.mem_of_getElem? (i := 94) rfl)) (by decide) (by decide)) (g := (mkF m 1 #[.val (.ref a0s)] [(.ref a0s)])) rfl (by rw [hml]; rfl) (argsL := [(.ref a0s)]) (rest := []) (lenOf pd_15 rfl) rfl (by show 2 * 0 + _ ≤ _; exact Nat.le_of_eq rfl) (hb hby d14_1) (fun _ _ => ⟨rfl, e0, (by decide : 0 + 0 ≤ _), (by decide : 0 + 0 ≤ _)⟩)
  dsimp only [Pt.U, Pt.locs, Pt.cells, Pt.slots] at X3 lq3 yq3 zq3 st3 hQ3
  subst lq3 yq3 zq3
  obtain ⟨r_1, rfl, Nq3, K2⟩ := hQ3
  have N3 := Fr.app N0 Nq3
  have g4 : Exa Z T3.heap a0s "java/util/ArrayList" := F_0.keep K2
  have g5 : Fld Z T3.heap a0s "java/util/ArrayList" "size" "I" (.int (0 : Int32)) := F_1.keep K2 nin0
  have Z2 : n0 ≤ T3.heap.size := (Nat.le_trans Z0 K2.1)
  have O2 : Old Z n0 T3.heap := O0.keep K2 (all0 (P := fun x => n0 ≤ x))
  have K6 : Keep h0 T3.heap [] := K0.trans K2 (all0 (P := fun x => x ∈ [] ∨ h0.size ≤ x))
  refine own_step (T' := T3) (g' := (mkF m 4 #[.val (.ref a0s)] [(.ref r_1)])) st3 ?_
  refine own_rA X3 hx hlk Bd.returns rfl (w := (.ref r_1)) rfl (hb hby d14_4) ?_ (by decide) (by decide)
  exact ⟨r_1, rfl, N3, K6⟩
def Q_lcp_1 (Z : State) (a0s : Addr) (a1 : Addr) (ka : ClassId) (y0 : Addr) (el : Addr) (em : Addr) (mr : Addr) (h0 : Heap) (n0 : Nat) (v : Option Value) (h : Heap) (L : List Loc) : Prop := ∃ (r : Addr), v = some (.ref r) ∧ Fr n0 L ∧ Keep h0 h []
theorem ef_rm_lcp_1 (m : MethodId) (x0 : Addr) : entryFrame m #[(.ref x0)] 2 = mkF m 0 #[.val (.ref x0), .unset] [] := by first | (simp [entryFrame, mkF, argsToLocals, Value.category]; done) | rfl | (simp [entryFrame, mkF, argsToLocals, Value.category] <;> rfl)
theorem d15_44 : decode jdk_56_method_3_code 44 = .ok (.aload_n 0, 1) := by decide +kernel
theorem d15_45 : decode jdk_56_method_3_code 45 = .ok (.invokeinterface 30 1, 5) := by decide +kernel
theorem d15_50 : decode jdk_56_method_3_code 50 = .ok (.invokestatic 34, 3) := by decide +kernel
theorem d15_53 : decode jdk_56_method_3_code 53 = .ok (.areturn, 1) := by decide +kernel
set_option maxRecDepth 65536 in
set_option maxHeartbeats 40000000 in
theorem rm_lcp_1 (l : Launch) (Z : State) (a0 : Array Value) (hw : ∀ d ∈ tables_1, d.before a0 Z = true) (ws : List Jvm.Cond) (a0s : Addr) (a1 : Addr) (ka : ClassId) (y0 : Addr) (el : Addr) (em : Addr) (mr : Addr) (h0 : Heap) (n0 : Nat) (Z0 : n0 ≤ h0.size) (F_0 : Exa Z h0 a0s "java/util/ArrayList") (F_1 : Fld Z h0 a0s "java/util/ArrayList" "size" "I" (.int (1 : Int32))) (F_2 : Fld Z h0 a0s "java/util/ArrayList" "elementData" "[Ljava/lang/Object;" (.ref a1)) (F_3 : Arv Z h0 a1 ka (.object "java/lang/Object") (10 : Int32) [(.ref y0), .null, .null, .null, .null, .null, .null, .null, .null, .null] .null) (F_4 : Exa Z h0 a1 "[Ljava/lang/Object;") (F_5 : Exa Z h0 y0 "com/example/kempt_cursor/kemptcursor/Keyed") (O0 : Old Z n0 h0) (S_el : Sta Z Z.heap "java/util/ImmutableCollections" "EMPTY_LIST" "Ljava/util/ImmutableCollections$ListN;" (.ref el)) (S_em : Sta Z Z.heap "java/util/ImmutableCollections" "EMPTY" "Ljava/lang/Object;" (.ref em)) (M_o : own_Mir Z "[Ljava/lang/Object;" mr) :
    MetFree l (⟨"java/util/ImmutableCollections", "listCopy", "(Ljava/util/Collection;)Ljava/util/List;"⟩ : MethodName) (head1 (Jvm.Cond.code (⟨"java/util/ImmutableCollections", "listCopy", "(Ljava/util/Collection;)Ljava/util/List;"⟩ : MethodName) jdk_56_method_3_code 2 (some (.object "java/util/List")) :: ws) ({ frames := 6, cells := 2, slots := 3, locals := 75 } : Room)) (fun a U => a = #[(.ref a0s)] ∧ Z.Warmed39 U.vm ∧ U.heap = h0) (fun _ _ _ _ _ => True) (fun _ U o U' => ∃ v L, o = .returned v ∧ (Q_lcp_1 Z a0s a1 ka y0 el em mr h0 n0) v U'.heap L ∧ FrameEnd U o U' L ({ frames := 6, cells := 2, slots := 3, locals := 75 } : Room).cells ({ frames := 6, cells := 2, slots := 3, locals := 75 } : Room).slots) := by
  refine MetFree.of_bodySF (plainFor_of_name pn_13) hisR ?_
  intro p e s m args below meth c s₁ Bd hml0 hP hK
  obtain ⟨rfl, hZ, hh⟩ := hP
  have hx := Bd.exec
  have hby := Bd.bytes
  have hlk : meth.locks = false := BodyLoose.notSynchronized Bd
  have hml : c.maxLocals = 2 := hml0
  have hown : s.vm.findClass "java/util/ImmutableCollections" = some m.cls := findClass_of_methodNamed Bd.named
  have hnm := (name_of_methodNamed Bd.named Bd.method).1
  have X0 : Stand p l e ({ frames := 6, cells := 2, slots := 3, locals := 75 } : Room) s m #[(.ref a0s)] below meth c s₁ [] 0 0 := Stand.of_body Bd
  have e0 : s₁.heap = h0 := by rw [← hh, Bd.state]; rfl
  have N0 := Fr.nil n0
  show own_Go p e below s (Q_lcp_1 Z a0s a1 ka y0 el em mr h0 n0) ({ frames := 6, cells := 2, slots := 3, locals := 75 } : Room).cells ({ frames := 6, cells := 2, slots := 3, locals := 75 } : Room).slots s₁ (entryFrame m #[(.ref a0s)] 2)
  refine own_cast (g' := (mkF m 0 #[.val (.ref a0s), .unset] [])) (ef_rm_lcp_1 m a0s) ?_
  have K0 : Keep h0 h0 [] := Keep.refl _ _
  refine own_step (T' := s₁) (g' := (mkF m 1 #[.val (.ref a0s), .unset] [(.ref a0s)])) (fun t k => XS.aloadN X0.here hx rfl (hb hby d15_0) rfl rfl k) ?_
  obtain ⟨T1, X1, e1, st1⟩ := instNo X0 hx hZ hown (hw _ (List.mem_of_getElem? (i := 96) rfl)) e0 F_0 (own_NSno (hw _ (List.mem_of_getElem? (i := 97) rfl)) (hw _ (List.mem_of_getElem? (i := 145) rfl)) (NS.step (hw _ (List.mem_of_getElem? (i := 97) rfl)) (NS.step (hw _ (List.mem_of_getElem? (i := 98) rfl)) (NS.step (hw _ (List.mem_of_getElem? (i := 99) rfl)) (own_NSroot (hw _ (List.mem_of_getElem? (i := 100) rfl)) (hw _ (List.mem_of_getElem? (i := 145) rfl)) (by decide)) (by decide)) (by decide)) (by decide)) (by decide)) (g := (mkF m 1 #[.val (.ref a0s), .unset] [(.ref a0s)])) rfl rfl (hb hby d15_1)
  refine own_step (T' := T1) (g' := (mkF m 4 #[.val (.ref a0s), .unset] [(.int (0 : Int32))])) st1 ?_
  refine own_step (T' := T1) (g' := (mkF m 7 #[.val (.ref a0s), .unset] [])) (fun t k => XS.ifNo X1.here hx rfl (hb hby d15_4) rfl ((if0 _ _).trans (teq (by decide : ((0 : Int32) = (0 : Int32)))).2) k) ?_
  refine own_step (T' := T1) (g' := (mkF m 8 #[.val (.ref a0s), .unset] [(.ref a0s)])) (fun t k => XS.aloadN X1.here hx rfl (hb hby d15_7) rfl rfl k) ?_
  obtain ⟨T2, X2, e2, st2⟩ := instNo X1 hx hZ hown (hw _ (List.mem_of_getElem? (i := 101) rfl)) e1 F_0 (own_NSno (hw _ (List.mem_of_getElem? (i := 97) rfl)) (hw _ (List.mem_of_getElem? (i := 208) rfl)) (NS.step (hw _ (List.mem_of_getElem? (i := 97) rfl)) (NS.step (hw _ (List.mem_of_getElem? (i := 98) rfl)) (NS.step (hw _ (List.mem_of_getElem? (i := 99) rfl)) (own_NSroot (hw _ (List.mem_of_getElem? (i := 100) rfl)) (hw _ (List.mem_of_getElem? (i := 208) rfl)) (by decide)) (by decide)) (by decide)) (by decide)) (by decide)) (g := (mkF m 8 #[.val (.ref a0s), .unset] [(.ref a0s)])) rfl rfl (hb hby d15_8)
  refine own_step (T' := T2) (g' := (mkF m 11 #[.val (.ref a0s), .unset] [(.int (0 : Int32))])) st2 ?_
  refine own_step (T' := T2) (g' := (mkF m 31 #[.val (.ref a0s), .unset] [])) (fun t k => XS.ifYes X2.here hx rfl (pc0 := 11) (pc' := 31) rfl (hb hby d15_11) rfl ((if0 _ _).trans (teq (by decide : ((0 : Int32) = (0 : Int32)))).1) (by decide) (by decide) k) ?_
  refine own_step (T' := T2) (g' := (mkF m 32 #[.val (.ref a0s), .unset] [(.ref a0s)])) (fun t k => XS.aloadN X2.here hx rfl (hb hby d15_31) rfl rfl k) ?_
  obtain ⟨cq6, kq6, q6a, q6b, q6c⟩ := isOf hZ e2 F_0
  obtain ⟨_, _, ⟨T5, L5, k5, n5⟩, -, X5, ⟨Lc5, hQ5, lq5, yq5, zq5⟩, st5⟩ := X2.interfaceBack hx (xi := (⟨"java/util/Collection", "isEmpty", "()Z"⟩ : MethodName)) (y := (⟨"java/util/ArrayList", "isEmpty", "()Z"⟩ : MethodName)) hown (mvT hZ (hw _ (List.mem_of_getElem? (i := 102) rfl))) (mvT hZ (hw _ (List.mem_of_getElem? (i := 103) rfl))) (mvT hZ (hw _ (List.mem_of_getElem? (i := 104) rfl))) (mvT hZ (hw _ (List.mem_of_getElem? (i := 105) rfl))) (mvT hZ (hw _ (List.mem_of_getElem? (i := 106) rfl))) (mvT hZ (hw _ (List.mem_of_getElem? (i := 107) rfl))) (mvT hZ (hw _ (List.mem_of_getElem? (i := 108) rfl))) (mvT hZ (hw _ (List.mem_of_getElem? (i := 109) rfl))) (by decide) (backOf (W := 0) (rm_emp_1 l Z a0 hw [] a0s h0 n0 Z0 F_1) hZ (hw _ (List.mem_of_getElem? (i := 110) rfl)) (hw _ (List.mem_of_getElem? (i := 3) rfl)) (by decide) (by decide)) q6a q6b q6c (g := (mkF m 32 #[.val (.ref a0s), .unset] [(.ref a0s)])) rfl (by rw [hml]; rfl) (Steps.refl _) (argsL := []) (rest := []) (lenOf pd_13 rfl) rfl (by show 2 * 0 + _ ≤ _; exact Nat.le_of_eq rfl) (hb hby d15_32) (fun _ _ => ⟨rfl, e2, (by decide : 0 + 0 ≤ _), (by decide : 0 + 0 ≤ _)⟩)
  dsimp only [Pt.U, Pt.locs, Pt.cells, Pt.slots] at X5 lq5 yq5 zq5 st5 hQ5
  subst lq5 yq5 zq5
  obtain ⟨rfl, Nq5, eq4⟩ := hQ5
  have N5 := Fr.app N0 Nq5
  refine own_tr (T' := T5) (g' := (mkF m 37 #[.val (.ref a0s), .unset] [(.int (0 : Int32))])) st5 ?_
  refine own_step (T' := T5) (g' := (mkF m 44 #[.val (.ref a0s), .unset] [])) (fun t k => XS.ifYes X5.here hx rfl (pc0 := 37) (pc' := 44) rfl (hb hby d15_37) rfl ((if0 _ _).trans (teq (by decide : ((0 : Int32) = (0 : Int32)))).1) (by decide) (by decide) k) ?_
  refine own_step (T' := T5) (g' := (mkF m 45 #[.val (.ref a0s), .unset] [(.ref a0s)])) (fun t k => XS.aloadN X5.here hx rfl (hb hby d15_44) rfl rfl k) ?_
  obtain ⟨cq13, kq13, q13a, q13b, q13c⟩ := isOf hZ eq4 F_0
  obtain ⟨_, _, ⟨T12, L12, k12, n12⟩, -, X12, ⟨Lc12, hQ12, lq12, yq12, zq12⟩, st12⟩ := X5.interfaceBack hx (xi := (⟨"java/util/Collection", "toArray", "()[Ljava/lang/Object;"⟩ : MethodName)) (y := (⟨"java/util/ArrayList", "toArray", "()[Ljava/lang/Object;"⟩ : MethodName)) hown (mvT hZ (hw _ (List.mem_of_getElem? (i := 111) rfl))) (mvT hZ (hw _ (List.mem_of_getElem? (i := 112) rfl))) (mvT hZ (hw _ (List.mem_of_getElem? (i := 113) rfl))) (mvT hZ (hw _ (List.mem_of_getElem? (i := 114) rfl))) (mvT hZ (hw _ (List.mem_of_getElem? (i := 115) rfl))) (mvT hZ (hw _ (List.mem_of_getElem? (i := 116) rfl))) (mvT hZ (hw _ (List.mem_of_getElem? (i := 117) rfl))) (mvT hZ (hw _ (List.mem_of_getElem? (i := 109) rfl))) (by decide) (backOf (W := 0) (rm_toa_1 l Z a0 hw [] a0s a1 ka y0 mr h0 n0 Z0 F_2 F_1 F_3 F_4 F_5 M_o) hZ (hw _ (List.mem_of_getElem? (i := 118) rfl)) (hw _ (List.mem_of_getElem? (i := 3) rfl)) (by decide) (by decide)) q13a q13b q13c (g := (mkF m 45 #[.val (.ref a0s), .unset] [(.ref a0s)])) rfl (by rw [hml]; rfl) (Steps.refl _) (argsL := []) (rest := []) (lenOf pd_4 rfl) rfl (by show 2 * 0 + _ ≤ _; exact Nat.le_of_eq rfl) (hb hby d15_45) (fun _ _ => ⟨rfl, eq4, (by decide : 0 + 1 ≤ _), (by decide : 0 + 1 ≤ _)⟩)
  dsimp only [Pt.U, Pt.locs, Pt.cells, Pt.slots] at X12 lq12 yq12 zq12 st12 hQ12
  subst lq12 yq12 zq12
  obtain ⟨b_7, kb_7, rfl, Nq12, K8, fz_b_7, g9, g10, g11⟩ := hQ12
  have N12 := Fr.app N5 Nq12
  have oz_b_7 : n0 ≤ b_7 := Nat.le_trans Z0 fz_b_7
  have nz_a0s_b_7 : a0s ≠ b_7 := Nat.ne_of_lt (Nat.lt_of_lt_of_le F_0.lt fz_b_7)
  have nz_a1_b_7 : a1 ≠ b_7 := Nat.ne_of_lt (Nat.lt_of_lt_of_le F_3.lt fz_b_7)
  have nz_y0_b_7 : y0 ≠ b_7 := Nat.ne_of_lt (Nat.lt_of_lt_of_le F_5.lt fz_b_7)
  have fr_b_7 : h0.size ≤ b_7 := Nat.le_trans K0.1 fz_b_7
  have g14 : Exa Z T12.heap a0s "java/util/ArrayList" := F_0.keep K8
  have g15 : Fld Z T12.heap a0s "java/util/ArrayList" "size" "I" (.int (1 : Int32)) := F_1.keep K8 nin0
  have g16 : Fld Z T12.heap a0s "java/util/ArrayList" "elementData" "[Ljava/lang/Object;" (.ref a1) := F_2.keep K8 nin0
  have g17 : Arv Z T12.heap a1 ka (.object "java/lang/Object") (10 : Int32) [(.ref y0), .null, .null, .null, .null, .null, .null, .null, .null, .null] .null := F_3.keep K8 nin0
  have g18 : Exa Z T12.heap a1 "[Ljava/lang/Object;" := F_4.keep K8
  have g19 : Exa Z T12.heap y0 "com/example/kempt_cursor/kemptcursor/Keyed" := F_5.keep K8
  have Z8 : n0 ≤ T12.heap.size := (Nat.le_trans Z0 K8.1)
  have O8 : Old Z n0 T12.heap := O0.keep K8 (all0 (P := fun x => n0 ≤ x))
  have K20 : Keep h0 T12.heap [] := K0.trans K8 (all0 (P := fun x => x ∈ [] ∨ h0.size ≤ x))
  refine own_tr (T' := T12) (g' := (mkF m 50 #[.val (.ref a0s), .unset] [(.ref b_7)])) st12 ?_
  obtain ⟨_, _, ⟨T23, L23, k23, n23⟩, -, X23, ⟨Lc23, hQ23, lq23, yq23, zq23⟩, st23⟩ := Jvm.LawKit.callS X12 hx (y := (⟨"java/util/List", "of", "([Ljava/lang/Object;)Ljava/util/List;"⟩ : MethodName)) hown (mvT hZ (hw _ (List.mem_of_getElem? (i := 141) rfl))) (mvT hZ (hw _ (List.mem_of_getElem? (i := 142) rfl))) (mvT hZ (hw _ (List.mem_of_getElem? (i := 90) rfl))) (mvT hZ (hw _ (List.mem_of_getElem? (i := 143) rfl))) (by decide) (backOf (W := 0) (rm_loa_1 l Z a0 hw [] b_7 kb_7 y0 em T12.heap n0 Z8 g9 g19 O8 S_em) hZ (hw _ (List.mem_of_getElem? (i := 143) rfl)) (hw _ (List.mem_of_getElem? (i := 90) rfl)) (by decide) (by decide)) (g := (mkF m 50 #[.val (.ref a0s), .unset] [(.ref b_7)])) rfl (by rw [hml]; rfl) (argsL := [(.ref b_7)]) (rest := []) (lenOf pd_12 rfl) rfl (by show 2 * 0 + _ ≤ _; exact Nat.le_of_eq rfl) (hb hby d15_50) (fun _ _ => ⟨rfl, rfl, (by decide : 1 + 1 ≤ _), (by decide : 1 + 2 ≤ _)⟩)
  dsimp only [Pt.U, Pt.locs, Pt.cells, Pt.slots] at X23 lq23 yq23 zq23 st23 hQ23
  subst lq23 yq23 zq23
  obtain ⟨r_21, rfl, Nq23, K22⟩ := hQ23
  have N23 := Fr.app N12 Nq23
  have g24 : Exa Z T23.heap a0s "java/util/ArrayList" := g14.keep K22
  have g25 : Fld Z T23.heap a0s "java/util/ArrayList" "size" "I" (.int (1 : Int32)) := g15.keep K22 nin0
  have g26 : Fld Z T23.heap a0s "java/util/ArrayList" "elementData" "[Ljava/lang/Object;" (.ref a1) := g16.keep K22 nin0
  have g27 : Arv Z T23.heap a1 ka (.object "java/lang/Object") (10 : Int32) [(.ref y0), .null, .null, .null, .null, .null, .null, .null, .null, .null] .null := g17.keep K22 nin0
  have g28 : Exa Z T23.heap a1 "[Ljava/lang/Object;" := g18.keep K22
  have g29 : Exa Z T23.heap y0 "com/example/kempt_cursor/kemptcursor/Keyed" := g19.keep K22
  have g30 : Arv Z T23.heap b_7 kb_7 (.object "java/lang/Object") (1 : Int32) [(.ref y0)] .null := g9.keep K22 nin0
  have g31 : Exa Z T23.heap b_7 "[Ljava/lang/Object;" := g10.keep K22
  have Z22 : n0 ≤ T23.heap.size := (Nat.le_trans Z8 K22.1)
  have O22 : Old Z n0 T23.heap := O8.keep K22 (all0 (P := fun x => n0 ≤ x))
  have K32 : Keep h0 T23.heap [] := K20.trans K22 (all0 (P := fun x => x ∈ [] ∨ h0.size ≤ x))
  refine own_step (T' := T23) (g' := (mkF m 53 #[.val (.ref a0s), .unset] [(.ref r_21)])) st23 ?_
  refine own_rA X23 hx hlk Bd.returns rfl (w := (.ref r_21)) rfl (hb hby d15_53) ?_ (by decide) (by decide)
  exact ⟨r_21, rfl, N23, K32⟩
def Q_cpo_1 (Z : State) (a0s : Addr) (a1 : Addr) (ka : ClassId) (y0 : Addr) (el : Addr) (em : Addr) (mr : Addr) (h0 : Heap) (n0 : Nat) (v : Option Value) (h : Heap) (L : List Loc) : Prop := ∃ (r : Addr), v = some (.ref r) ∧ Fr n0 L ∧ Keep h0 h []
theorem ef_rm_cpo_1 (m : MethodId) (x0 : Addr) : entryFrame m #[(.ref x0)] 1 = mkF m 0 #[.val (.ref x0)] [] := by first | (simp [entryFrame, mkF, argsToLocals, Value.category]; done) | rfl | (simp [entryFrame, mkF, argsToLocals, Value.category] <;> rfl)
set_option maxRecDepth 65536 in
set_option maxHeartbeats 40000000 in
theorem rm_cpo_1 (l : Launch) (Z : State) (a0 : Array Value) (hw : ∀ d ∈ tables_1, d.before a0 Z = true) (ws : List Jvm.Cond) (a0s : Addr) (a1 : Addr) (ka : ClassId) (y0 : Addr) (el : Addr) (em : Addr) (mr : Addr) (h0 : Heap) (n0 : Nat) (Z0 : n0 ≤ h0.size) (F_0 : Exa Z h0 a0s "java/util/ArrayList") (F_1 : Fld Z h0 a0s "java/util/ArrayList" "size" "I" (.int (1 : Int32))) (F_2 : Fld Z h0 a0s "java/util/ArrayList" "elementData" "[Ljava/lang/Object;" (.ref a1)) (F_3 : Arv Z h0 a1 ka (.object "java/lang/Object") (10 : Int32) [(.ref y0), .null, .null, .null, .null, .null, .null, .null, .null, .null] .null) (F_4 : Exa Z h0 a1 "[Ljava/lang/Object;") (F_5 : Exa Z h0 y0 "com/example/kempt_cursor/kemptcursor/Keyed") (O0 : Old Z n0 h0) (S_el : Sta Z Z.heap "java/util/ImmutableCollections" "EMPTY_LIST" "Ljava/util/ImmutableCollections$ListN;" (.ref el)) (S_em : Sta Z Z.heap "java/util/ImmutableCollections" "EMPTY" "Ljava/lang/Object;" (.ref em)) (M_o : own_Mir Z "[Ljava/lang/Object;" mr) :
    MetFree l (⟨"java/util/List", "copyOf", "(Ljava/util/Collection;)Ljava/util/List;"⟩ : MethodName) (head1 (Jvm.Cond.code (⟨"java/util/List", "copyOf", "(Ljava/util/Collection;)Ljava/util/List;"⟩ : MethodName) jdk_40_method_48_code 1 (some (.object "java/util/List")) :: ws) ({ frames := 7, cells := 2, slots := 3, locals := 88 } : Room)) (fun a U => a = #[(.ref a0s)] ∧ Z.Warmed39 U.vm ∧ U.heap = h0) (fun _ _ _ _ _ => True) (fun _ U o U' => ∃ v L, o = .returned v ∧ (Q_cpo_1 Z a0s a1 ka y0 el em mr h0 n0) v U'.heap L ∧ FrameEnd U o U' L ({ frames := 7, cells := 2, slots := 3, locals := 88 } : Room).cells ({ frames := 7, cells := 2, slots := 3, locals := 88 } : Room).slots) := by
  refine MetFree.of_bodySF (plainFor_of_name pn_10) hisR ?_
  intro p e s m args below meth c s₁ Bd hml0 hP hK
  obtain ⟨rfl, hZ, hh⟩ := hP
  have hx := Bd.exec
  have hby := Bd.bytes
  have hlk : meth.locks = false := BodyLoose.notSynchronized Bd
  have hml : c.maxLocals = 1 := hml0
  have hown : s.vm.findClass "java/util/List" = some m.cls := findClass_of_methodNamed Bd.named
  have hnm := (name_of_methodNamed Bd.named Bd.method).1
  have X0 : Stand p l e ({ frames := 7, cells := 2, slots := 3, locals := 88 } : Room) s m #[(.ref a0s)] below meth c s₁ [] 0 0 := Stand.of_body Bd
  have e0 : s₁.heap = h0 := by rw [← hh, Bd.state]; rfl
  have N0 := Fr.nil n0
  show own_Go p e below s (Q_cpo_1 Z a0s a1 ka y0 el em mr h0 n0) ({ frames := 7, cells := 2, slots := 3, locals := 88 } : Room).cells ({ frames := 7, cells := 2, slots := 3, locals := 88 } : Room).slots s₁ (entryFrame m #[(.ref a0s)] 1)
  refine own_cast (g' := (mkF m 0 #[.val (.ref a0s)] [])) (ef_rm_cpo_1 m a0s) ?_
  have K0 : Keep h0 h0 [] := Keep.refl _ _
  refine own_step (T' := s₁) (g' := (mkF m 1 #[.val (.ref a0s)] [(.ref a0s)])) (fun t k => XS.aloadN X0.here hx rfl (hb hby d14_0) rfl rfl k) ?_
  obtain ⟨_, _, ⟨T3, L3, k3, n3⟩, -, X3, ⟨Lc3, hQ3, lq3, yq3, zq3⟩, st3⟩ := Jvm.LawKit.callS X0 hx (y := (⟨"java/util/ImmutableCollections", "listCopy", "(Ljava/util/Collection;)Ljava/util/List;"⟩ : MethodName)) hown (mvT hZ (hw _ (List.mem_of_getElem? (i := 92) rfl))) (mvT hZ (hw _ (List.mem_of_getElem? (i := 93) rfl))) (mvT hZ (hw _ (List.mem_of_getElem? (i := 94) rfl))) (mvT hZ (hw _ (List.mem_of_getElem? (i := 95) rfl))) (by decide) (backOf (W := 0) (rm_lcp_1 l Z a0 hw [] a0s a1 ka y0 el em mr h0 n0 Z0 F_0 F_1 F_2 F_3 F_4 F_5 O0 S_el S_em M_o) hZ (hw _ (List.mem_of_getElem? (i := 95) rfl)) (hw _ (List.mem_of_getElem? (i := 94) rfl)) (by decide) (by decide)) (g := (mkF m 1 #[.val (.ref a0s)] [(.ref a0s)])) rfl (by rw [hml]; rfl) (argsL := [(.ref a0s)]) (rest := []) (lenOf pd_15 rfl) rfl (by show 2 * 0 + _ ≤ _; exact Nat.le_of_eq rfl) (hb hby d14_1) (fun _ _ => ⟨rfl, e0, (by decide : 0 + 2 ≤ _), (by decide : 0 + 3 ≤ _)⟩)
  dsimp only [Pt.U, Pt.locs, Pt.cells, Pt.slots] at X3 lq3 yq3 zq3 st3 hQ3
  subst lq3 yq3 zq3
  obtain ⟨r_1, rfl, Nq3, K2⟩ := hQ3
  have N3 := Fr.app N0 Nq3
  have g4 : Exa Z T3.heap a0s "java/util/ArrayList" := F_0.keep K2
  have g5 : Fld Z T3.heap a0s "java/util/ArrayList" "size" "I" (.int (1 : Int32)) := F_1.keep K2 nin0
  have g6 : Fld Z T3.heap a0s "java/util/ArrayList" "elementData" "[Ljava/lang/Object;" (.ref a1) := F_2.keep K2 nin0
  have g7 : Arv Z T3.heap a1 ka (.object "java/lang/Object") (10 : Int32) [(.ref y0), .null, .null, .null, .null, .null, .null, .null, .null, .null] .null := F_3.keep K2 nin0
  have g8 : Exa Z T3.heap a1 "[Ljava/lang/Object;" := F_4.keep K2
  have g9 : Exa Z T3.heap y0 "com/example/kempt_cursor/kemptcursor/Keyed" := F_5.keep K2
  have Z2 : n0 ≤ T3.heap.size := (Nat.le_trans Z0 K2.1)
  have O2 : Old Z n0 T3.heap := O0.keep K2 (all0 (P := fun x => n0 ≤ x))
  have K10 : Keep h0 T3.heap [] := K0.trans K2 (all0 (P := fun x => x ∈ [] ∨ h0.size ≤ x))
  refine own_step (T' := T3) (g' := (mkF m 4 #[.val (.ref a0s)] [(.ref r_1)])) st3 ?_
  refine own_rA X3 hx hlk Bd.returns rfl (w := (.ref r_1)) rfl (hb hby d14_4) ?_ (by decide) (by decide)
  exact ⟨r_1, rfl, N3, K10⟩
def Q_lcp_2 (Z : State) (a0s : Addr) (a1 : Addr) (ka : ClassId) (y0 : Addr) (y1 : Addr) (el : Addr) (em : Addr) (mr : Addr) (h0 : Heap) (n0 : Nat) (v : Option Value) (h : Heap) (L : List Loc) : Prop := ∃ (r : Addr), v = some (.ref r) ∧ Fr n0 L ∧ Keep h0 h []
theorem ef_rm_lcp_2 (m : MethodId) (x0 : Addr) : entryFrame m #[(.ref x0)] 2 = mkF m 0 #[.val (.ref x0), .unset] [] := by first | (simp [entryFrame, mkF, argsToLocals, Value.category]; done) | rfl | (simp [entryFrame, mkF, argsToLocals, Value.category] <;> rfl)
set_option maxRecDepth 65536 in
set_option maxHeartbeats 40000000 in
theorem rm_lcp_2 (l : Launch) (Z : State) (a0 : Array Value) (hw : ∀ d ∈ tables_1, d.before a0 Z = true) (ws : List Jvm.Cond) (a0s : Addr) (a1 : Addr) (ka : ClassId) (y0 : Addr) (y1 : Addr) (el : Addr) (em : Addr) (mr : Addr) (h0 : Heap) (n0 : Nat) (Z0 : n0 ≤ h0.size) (F_0 : Exa Z h0 a0s "java/util/ArrayList") (F_1 : Fld Z h0 a0s "java/util/ArrayList" "size" "I" (.int (2 : Int32))) (F_2 : Fld Z h0 a0s "java/util/ArrayList" "elementData" "[Ljava/lang/Object;" (.ref a1)) (F_3 : Arv Z h0 a1 ka (.object "java/lang/Object") (10 : Int32) [(.ref y0), (.ref y1), .null, .null, .null, .null, .null, .null, .null, .null] .null) (F_4 : Exa Z h0 a1 "[Ljava/lang/Object;") (F_5 : Exa Z h0 y0 "com/example/kempt_cursor/kemptcursor/Keyed") (F_6 : Exa Z h0 y1 "com/example/kempt_cursor/kemptcursor/Keyed") (O0 : Old Z n0 h0) (S_el : Sta Z Z.heap "java/util/ImmutableCollections" "EMPTY_LIST" "Ljava/util/ImmutableCollections$ListN;" (.ref el)) (S_em : Sta Z Z.heap "java/util/ImmutableCollections" "EMPTY" "Ljava/lang/Object;" (.ref em)) (M_o : own_Mir Z "[Ljava/lang/Object;" mr) :
    MetFree l (⟨"java/util/ImmutableCollections", "listCopy", "(Ljava/util/Collection;)Ljava/util/List;"⟩ : MethodName) (head1 (Jvm.Cond.code (⟨"java/util/ImmutableCollections", "listCopy", "(Ljava/util/Collection;)Ljava/util/List;"⟩ : MethodName) jdk_56_method_3_code 2 (some (.object "java/util/List")) :: ws) ({ frames := 6, cells := 2, slots := 4, locals := 76 } : Room)) (fun a U => a = #[(.ref a0s)] ∧ Z.Warmed39 U.vm ∧ U.heap = h0) (fun _ _ _ _ _ => True) (fun _ U o U' => ∃ v L, o = .returned v ∧ (Q_lcp_2 Z a0s a1 ka y0 y1 el em mr h0 n0) v U'.heap L ∧ FrameEnd U o U' L ({ frames := 6, cells := 2, slots := 4, locals := 76 } : Room).cells ({ frames := 6, cells := 2, slots := 4, locals := 76 } : Room).slots) := by
  refine MetFree.of_bodySF (plainFor_of_name pn_13) hisR ?_
  intro p e s m args below meth c s₁ Bd hml0 hP hK
  obtain ⟨rfl, hZ, hh⟩ := hP
  have hx := Bd.exec
  have hby := Bd.bytes
  have hlk : meth.locks = false := BodyLoose.notSynchronized Bd
  have hml : c.maxLocals = 2 := hml0
  have hown : s.vm.findClass "java/util/ImmutableCollections" = some m.cls := findClass_of_methodNamed Bd.named
  have hnm := (name_of_methodNamed Bd.named Bd.method).1
  have X0 : Stand p l e ({ frames := 6, cells := 2, slots := 4, locals := 76 } : Room) s m #[(.ref a0s)] below meth c s₁ [] 0 0 := Stand.of_body Bd
  have e0 : s₁.heap = h0 := by rw [← hh, Bd.state]; rfl
  have N0 := Fr.nil n0
  show own_Go p e below s (Q_lcp_2 Z a0s a1 ka y0 y1 el em mr h0 n0) ({ frames := 6, cells := 2, slots := 4, locals := 76 } : Room).cells ({ frames := 6, cells := 2, slots := 4, locals := 76 } : Room).slots s₁ (entryFrame m #[(.ref a0s)] 2)
  refine own_cast (g' := (mkF m 0 #[.val (.ref a0s), .unset] [])) (ef_rm_lcp_2 m a0s) ?_
  have K0 : Keep h0 h0 [] := Keep.refl _ _
  refine own_step (T' := s₁) (g' := (mkF m 1 #[.val (.ref a0s), .unset] [(.ref a0s)])) (fun t k => XS.aloadN X0.here hx rfl (hb hby d15_0) rfl rfl k) ?_
  obtain ⟨T1, X1, e1, st1⟩ := instNo X0 hx hZ hown (hw _ (List.mem_of_getElem? (i := 96) rfl)) e0 F_0 (own_NSno (hw _ (List.mem_of_getElem? (i := 97) rfl)) (hw _ (List.mem_of_getElem? (i := 145) rfl)) (NS.step (hw _ (List.mem_of_getElem? (i := 97) rfl)) (NS.step (hw _ (List.mem_of_getElem? (i := 98) rfl)) (NS.step (hw _ (List.mem_of_getElem? (i := 99) rfl)) (own_NSroot (hw _ (List.mem_of_getElem? (i := 100) rfl)) (hw _ (List.mem_of_getElem? (i := 145) rfl)) (by decide)) (by decide)) (by decide)) (by decide)) (by decide)) (g := (mkF m 1 #[.val (.ref a0s), .unset] [(.ref a0s)])) rfl rfl (hb hby d15_1)
  refine own_step (T' := T1) (g' := (mkF m 4 #[.val (.ref a0s), .unset] [(.int (0 : Int32))])) st1 ?_
  refine own_step (T' := T1) (g' := (mkF m 7 #[.val (.ref a0s), .unset] [])) (fun t k => XS.ifNo X1.here hx rfl (hb hby d15_4) rfl ((if0 _ _).trans (teq (by decide : ((0 : Int32) = (0 : Int32)))).2) k) ?_
  refine own_step (T' := T1) (g' := (mkF m 8 #[.val (.ref a0s), .unset] [(.ref a0s)])) (fun t k => XS.aloadN X1.here hx rfl (hb hby d15_7) rfl rfl k) ?_
  obtain ⟨T2, X2, e2, st2⟩ := instNo X1 hx hZ hown (hw _ (List.mem_of_getElem? (i := 101) rfl)) e1 F_0 (own_NSno (hw _ (List.mem_of_getElem? (i := 97) rfl)) (hw _ (List.mem_of_getElem? (i := 208) rfl)) (NS.step (hw _ (List.mem_of_getElem? (i := 97) rfl)) (NS.step (hw _ (List.mem_of_getElem? (i := 98) rfl)) (NS.step (hw _ (List.mem_of_getElem? (i := 99) rfl)) (own_NSroot (hw _ (List.mem_of_getElem? (i := 100) rfl)) (hw _ (List.mem_of_getElem? (i := 208) rfl)) (by decide)) (by decide)) (by decide)) (by decide)) (by decide)) (g := (mkF m 8 #[.val (.ref a0s), .unset] [(.ref a0s)])) rfl rfl (hb hby d15_8)
  refine own_step (T' := T2) (g' := (mkF m 11 #[.val (.ref a0s), .unset] [(.int (0 : Int32))])) st2 ?_
  refine own_step (T' := T2) (g' := (mkF m 31 #[.val (.ref a0s), .unset] [])) (fun t k => XS.ifYes X2.here hx rfl (pc0 := 11) (pc' := 31) rfl (hb hby d15_11) rfl ((if0 _ _).trans (teq (by decide : ((0 : Int32) = (0 : Int32)))).1) (by decide) (by decide) k) ?_
  refine own_step (T' := T2) (g' := (mkF m 32 #[.val (.ref a0s), .unset] [(.ref a0s)])) (fun t k => XS.aloadN X2.here hx rfl (hb hby d15_31) rfl rfl k) ?_
  obtain ⟨cq6, kq6, q6a, q6b, q6c⟩ := isOf hZ e2 F_0
  obtain ⟨_, _, ⟨T5, L5, k5, n5⟩, -, X5, ⟨Lc5, hQ5, lq5, yq5, zq5⟩, st5⟩ := X2.interfaceBack hx (xi := (⟨"java/util/Collection", "isEmpty", "()Z"⟩ : MethodName)) (y := (⟨"java/util/ArrayList", "isEmpty", "()Z"⟩ : MethodName)) hown (mvT hZ (hw _ (List.mem_of_getElem? (i := 102) rfl))) (mvT hZ (hw _ (List.mem_of_getElem? (i := 103) rfl))) (mvT hZ (hw _ (List.mem_of_getElem? (i := 104) rfl))) (mvT hZ (hw _ (List.mem_of_getElem? (i := 105) rfl))) (mvT hZ (hw _ (List.mem_of_getElem? (i := 106) rfl))) (mvT hZ (hw _ (List.mem_of_getElem? (i := 107) rfl))) (mvT hZ (hw _ (List.mem_of_getElem? (i := 108) rfl))) (mvT hZ (hw _ (List.mem_of_getElem? (i := 109) rfl))) (by decide) (backOf (W := 0) (rm_emp_2 l Z a0 hw [] a0s h0 n0 Z0 F_1) hZ (hw _ (List.mem_of_getElem? (i := 110) rfl)) (hw _ (List.mem_of_getElem? (i := 3) rfl)) (by decide) (by decide)) q6a q6b q6c (g := (mkF m 32 #[.val (.ref a0s), .unset] [(.ref a0s)])) rfl (by rw [hml]; rfl) (Steps.refl _) (argsL := []) (rest := []) (lenOf pd_13 rfl) rfl (by show 2 * 0 + _ ≤ _; exact Nat.le_of_eq rfl) (hb hby d15_32) (fun _ _ => ⟨rfl, e2, (by decide : 0 + 0 ≤ _), (by decide : 0 + 0 ≤ _)⟩)
  dsimp only [Pt.U, Pt.locs, Pt.cells, Pt.slots] at X5 lq5 yq5 zq5 st5 hQ5
  subst lq5 yq5 zq5
  obtain ⟨rfl, Nq5, eq4⟩ := hQ5
  have N5 := Fr.app N0 Nq5
  refine own_tr (T' := T5) (g' := (mkF m 37 #[.val (.ref a0s), .unset] [(.int (0 : Int32))])) st5 ?_
  refine own_step (T' := T5) (g' := (mkF m 44 #[.val (.ref a0s), .unset] [])) (fun t k => XS.ifYes X5.here hx rfl (pc0 := 37) (pc' := 44) rfl (hb hby d15_37) rfl ((if0 _ _).trans (teq (by decide : ((0 : Int32) = (0 : Int32)))).1) (by decide) (by decide) k) ?_
  refine own_step (T' := T5) (g' := (mkF m 45 #[.val (.ref a0s), .unset] [(.ref a0s)])) (fun t k => XS.aloadN X5.here hx rfl (hb hby d15_44) rfl rfl k) ?_
  obtain ⟨cq13, kq13, q13a, q13b, q13c⟩ := isOf hZ eq4 F_0
  obtain ⟨_, _, ⟨T12, L12, k12, n12⟩, -, X12, ⟨Lc12, hQ12, lq12, yq12, zq12⟩, st12⟩ := X5.interfaceBack hx (xi := (⟨"java/util/Collection", "toArray", "()[Ljava/lang/Object;"⟩ : MethodName)) (y := (⟨"java/util/ArrayList", "toArray", "()[Ljava/lang/Object;"⟩ : MethodName)) hown (mvT hZ (hw _ (List.mem_of_getElem? (i := 111) rfl))) (mvT hZ (hw _ (List.mem_of_getElem? (i := 112) rfl))) (mvT hZ (hw _ (List.mem_of_getElem? (i := 113) rfl))) (mvT hZ (hw _ (List.mem_of_getElem? (i := 114) rfl))) (mvT hZ (hw _ (List.mem_of_getElem? (i := 115) rfl))) (mvT hZ (hw _ (List.mem_of_getElem? (i := 116) rfl))) (mvT hZ (hw _ (List.mem_of_getElem? (i := 117) rfl))) (mvT hZ (hw _ (List.mem_of_getElem? (i := 109) rfl))) (by decide) (backOf (W := 0) (rm_toa_2 l Z a0 hw [] a0s a1 ka y0 y1 mr h0 n0 Z0 F_2 F_1 F_3 F_4 F_5 F_6 M_o) hZ (hw _ (List.mem_of_getElem? (i := 118) rfl)) (hw _ (List.mem_of_getElem? (i := 3) rfl)) (by decide) (by decide)) q13a q13b q13c (g := (mkF m 45 #[.val (.ref a0s), .unset] [(.ref a0s)])) rfl (by rw [hml]; rfl) (Steps.refl _) (argsL := []) (rest := []) (lenOf pd_4 rfl) rfl (by show 2 * 0 + _ ≤ _; exact Nat.le_of_eq rfl) (hb hby d15_45) (fun _ _ => ⟨rfl, eq4, (by decide : 0 + 1 ≤ _), (by decide : 0 + 2 ≤ _)⟩)
  dsimp only [Pt.U, Pt.locs, Pt.cells, Pt.slots] at X12 lq12 yq12 zq12 st12 hQ12
  subst lq12 yq12 zq12
  obtain ⟨b_7, kb_7, rfl, Nq12, K8, fz_b_7, g9, g10, g11⟩ := hQ12
  have N12 := Fr.app N5 Nq12
  have oz_b_7 : n0 ≤ b_7 := Nat.le_trans Z0 fz_b_7
  have nz_a0s_b_7 : a0s ≠ b_7 := Nat.ne_of_lt (Nat.lt_of_lt_of_le F_0.lt fz_b_7)
  have nz_a1_b_7 : a1 ≠ b_7 := Nat.ne_of_lt (Nat.lt_of_lt_of_le F_3.lt fz_b_7)
  have nz_y0_b_7 : y0 ≠ b_7 := Nat.ne_of_lt (Nat.lt_of_lt_of_le F_5.lt fz_b_7)
  have nz_y1_b_7 : y1 ≠ b_7 := Nat.ne_of_lt (Nat.lt_of_lt_of_le F_6.lt fz_b_7)
  have fr_b_7 : h0.size ≤ b_7 := Nat.le_trans K0.1 fz_b_7
  have g14 : Exa Z T12.heap a0s "java/util/ArrayList" := F_0.keep K8
  have g15 : Fld Z T12.heap a0s "java/util/ArrayList" "size" "I" (.int (2 : Int32)) := F_1.keep K8 nin0
  have g16 : Fld Z T12.heap a0s "java/util/ArrayList" "elementData" "[Ljava/lang/Object;" (.ref a1) := F_2.keep K8 nin0
  have g17 : Arv Z T12.heap a1 ka (.object "java/lang/Object") (10 : Int32) [(.ref y0), (.ref y1), .null, .null, .null, .null, .null, .null, .null, .null] .null := F_3.keep K8 nin0
  have g18 : Exa Z T12.heap a1 "[Ljava/lang/Object;" := F_4.keep K8
  have g19 : Exa Z T12.heap y0 "com/example/kempt_cursor/kemptcursor/Keyed" := F_5.keep K8
  have g20 : Exa Z T12.heap y1 "com/example/kempt_cursor/kemptcursor/Keyed" := F_6.keep K8
  have Z8 : n0 ≤ T12.heap.size := (Nat.le_trans Z0 K8.1)
  have O8 : Old Z n0 T12.heap := O0.keep K8 (all0 (P := fun x => n0 ≤ x))
  have K21 : Keep h0 T12.heap [] := K0.trans K8 (all0 (P := fun x => x ∈ [] ∨ h0.size ≤ x))
  refine own_tr (T' := T12) (g' := (mkF m 50 #[.val (.ref a0s), .unset] [(.ref b_7)])) st12 ?_
  obtain ⟨_, _, ⟨T24, L24, k24, n24⟩, -, X24, ⟨Lc24, hQ24, lq24, yq24, zq24⟩, st24⟩ := Jvm.LawKit.callS X12 hx (y := (⟨"java/util/List", "of", "([Ljava/lang/Object;)Ljava/util/List;"⟩ : MethodName)) hown (mvT hZ (hw _ (List.mem_of_getElem? (i := 141) rfl))) (mvT hZ (hw _ (List.mem_of_getElem? (i := 142) rfl))) (mvT hZ (hw _ (List.mem_of_getElem? (i := 90) rfl))) (mvT hZ (hw _ (List.mem_of_getElem? (i := 143) rfl))) (by decide) (backOf (W := 0) (rm_loa_2 l Z a0 hw [] b_7 kb_7 y0 y1 em T12.heap n0 Z8 g9 g19 g20 O8 S_em) hZ (hw _ (List.mem_of_getElem? (i := 143) rfl)) (hw _ (List.mem_of_getElem? (i := 90) rfl)) (by decide) (by decide)) (g := (mkF m 50 #[.val (.ref a0s), .unset] [(.ref b_7)])) rfl (by rw [hml]; rfl) (argsL := [(.ref b_7)]) (rest := []) (lenOf pd_12 rfl) rfl (by show 2 * 0 + _ ≤ _; exact Nat.le_of_eq rfl) (hb hby d15_50) (fun _ _ => ⟨rfl, rfl, (by decide : 1 + 1 ≤ _), (by decide : 2 + 2 ≤ _)⟩)
  dsimp only [Pt.U, Pt.locs, Pt.cells, Pt.slots] at X24 lq24 yq24 zq24 st24 hQ24
  subst lq24 yq24 zq24
  obtain ⟨r_22, rfl, Nq24, K23⟩ := hQ24
  have N24 := Fr.app N12 Nq24
  have g25 : Exa Z T24.heap a0s "java/util/ArrayList" := g14.keep K23
  have g26 : Fld Z T24.heap a0s "java/util/ArrayList" "size" "I" (.int (2 : Int32)) := g15.keep K23 nin0
  have g27 : Fld Z T24.heap a0s "java/util/ArrayList" "elementData" "[Ljava/lang/Object;" (.ref a1) := g16.keep K23 nin0
  have g28 : Arv Z T24.heap a1 ka (.object "java/lang/Object") (10 : Int32) [(.ref y0), (.ref y1), .null, .null, .null, .null, .null, .null, .null, .null] .null := g17.keep K23 nin0
  have g29 : Exa Z T24.heap a1 "[Ljava/lang/Object;" := g18.keep K23
  have g30 : Exa Z T24.heap y0 "com/example/kempt_cursor/kemptcursor/Keyed" := g19.keep K23
  have g31 : Exa Z T24.heap y1 "com/example/kempt_cursor/kemptcursor/Keyed" := g20.keep K23
  have g32 : Arv Z T24.heap b_7 kb_7 (.object "java/lang/Object") (2 : Int32) [(.ref y0), (.ref y1)] .null := g9.keep K23 nin0
  have g33 : Exa Z T24.heap b_7 "[Ljava/lang/Object;" := g10.keep K23
  have Z23 : n0 ≤ T24.heap.size := (Nat.le_trans Z8 K23.1)
  have O23 : Old Z n0 T24.heap := O8.keep K23 (all0 (P := fun x => n0 ≤ x))
  have K34 : Keep h0 T24.heap [] := K21.trans K23 (all0 (P := fun x => x ∈ [] ∨ h0.size ≤ x))
  refine own_step (T' := T24) (g' := (mkF m 53 #[.val (.ref a0s), .unset] [(.ref r_22)])) st24 ?_
  refine own_rA X24 hx hlk Bd.returns rfl (w := (.ref r_22)) rfl (hb hby d15_53) ?_ (by decide) (by decide)
  exact ⟨r_22, rfl, N24, K34⟩
def Q_cpo_2 (Z : State) (a0s : Addr) (a1 : Addr) (ka : ClassId) (y0 : Addr) (y1 : Addr) (el : Addr) (em : Addr) (mr : Addr) (h0 : Heap) (n0 : Nat) (v : Option Value) (h : Heap) (L : List Loc) : Prop := ∃ (r : Addr), v = some (.ref r) ∧ Fr n0 L ∧ Keep h0 h []
theorem ef_rm_cpo_2 (m : MethodId) (x0 : Addr) : entryFrame m #[(.ref x0)] 1 = mkF m 0 #[.val (.ref x0)] [] := by first | (simp [entryFrame, mkF, argsToLocals, Value.category]; done) | rfl | (simp [entryFrame, mkF, argsToLocals, Value.category] <;> rfl)
set_option maxRecDepth 65536 in
set_option maxHeartbeats 40000000 in
theorem rm_cpo_2 (l : Launch) (Z : State) (a0 : Array Value) (hw : ∀ d ∈ tables_1, d.before a0 Z = true) (ws : List Jvm.Cond) (a0s : Addr) (a1 : Addr) (ka : ClassId) (y0 : Addr) (y1 : Addr) (el : Addr) (em : Addr) (mr : Addr) (h0 : Heap) (n0 : Nat) (Z0 : n0 ≤ h0.size) (F_0 : Exa Z h0 a0s "java/util/ArrayList") (F_1 : Fld Z h0 a0s "java/util/ArrayList" "size" "I" (.int (2 : Int32))) (F_2 : Fld Z h0 a0s "java/util/ArrayList" "elementData" "[Ljava/lang/Object;" (.ref a1)) (F_3 : Arv Z h0 a1 ka (.object "java/lang/Object") (10 : Int32) [(.ref y0), (.ref y1), .null, .null, .null, .null, .null, .null, .null, .null] .null) (F_4 : Exa Z h0 a1 "[Ljava/lang/Object;") (F_5 : Exa Z h0 y0 "com/example/kempt_cursor/kemptcursor/Keyed") (F_6 : Exa Z h0 y1 "com/example/kempt_cursor/kemptcursor/Keyed") (O0 : Old Z n0 h0) (S_el : Sta Z Z.heap "java/util/ImmutableCollections" "EMPTY_LIST" "Ljava/util/ImmutableCollections$ListN;" (.ref el)) (S_em : Sta Z Z.heap "java/util/ImmutableCollections" "EMPTY" "Ljava/lang/Object;" (.ref em)) (M_o : own_Mir Z "[Ljava/lang/Object;" mr) :
    MetFree l (⟨"java/util/List", "copyOf", "(Ljava/util/Collection;)Ljava/util/List;"⟩ : MethodName) (head1 (Jvm.Cond.code (⟨"java/util/List", "copyOf", "(Ljava/util/Collection;)Ljava/util/List;"⟩ : MethodName) jdk_40_method_48_code 1 (some (.object "java/util/List")) :: ws) ({ frames := 7, cells := 2, slots := 4, locals := 89 } : Room)) (fun a U => a = #[(.ref a0s)] ∧ Z.Warmed39 U.vm ∧ U.heap = h0) (fun _ _ _ _ _ => True) (fun _ U o U' => ∃ v L, o = .returned v ∧ (Q_cpo_2 Z a0s a1 ka y0 y1 el em mr h0 n0) v U'.heap L ∧ FrameEnd U o U' L ({ frames := 7, cells := 2, slots := 4, locals := 89 } : Room).cells ({ frames := 7, cells := 2, slots := 4, locals := 89 } : Room).slots) := by
  refine MetFree.of_bodySF (plainFor_of_name pn_10) hisR ?_
  intro p e s m args below meth c s₁ Bd hml0 hP hK
  obtain ⟨rfl, hZ, hh⟩ := hP
  have hx := Bd.exec
  have hby := Bd.bytes
  have hlk : meth.locks = false := BodyLoose.notSynchronized Bd
  have hml : c.maxLocals = 1 := hml0
  have hown : s.vm.findClass "java/util/List" = some m.cls := findClass_of_methodNamed Bd.named
  have hnm := (name_of_methodNamed Bd.named Bd.method).1
  have X0 : Stand p l e ({ frames := 7, cells := 2, slots := 4, locals := 89 } : Room) s m #[(.ref a0s)] below meth c s₁ [] 0 0 := Stand.of_body Bd
  have e0 : s₁.heap = h0 := by rw [← hh, Bd.state]; rfl
  have N0 := Fr.nil n0
  show own_Go p e below s (Q_cpo_2 Z a0s a1 ka y0 y1 el em mr h0 n0) ({ frames := 7, cells := 2, slots := 4, locals := 89 } : Room).cells ({ frames := 7, cells := 2, slots := 4, locals := 89 } : Room).slots s₁ (entryFrame m #[(.ref a0s)] 1)
  refine own_cast (g' := (mkF m 0 #[.val (.ref a0s)] [])) (ef_rm_cpo_2 m a0s) ?_
  have K0 : Keep h0 h0 [] := Keep.refl _ _
  refine own_step (T' := s₁) (g' := (mkF m 1 #[.val (.ref a0s)] [(.ref a0s)])) (fun t k => XS.aloadN X0.here hx rfl (hb hby d14_0) rfl rfl k) ?_
  obtain ⟨_, _, ⟨T3, L3, k3, n3⟩, -, X3, ⟨Lc3, hQ3, lq3, yq3, zq3⟩, st3⟩ := Jvm.LawKit.callS X0 hx (y := (⟨"java/util/ImmutableCollections", "listCopy", "(Ljava/util/Collection;)Ljava/util/List;"⟩ : MethodName)) hown (mvT hZ (hw _ (List.mem_of_getElem? (i := 92) rfl))) (mvT hZ (hw _ (List.mem_of_getElem? (i := 93) rfl))) (mvT hZ (hw _ (List.mem_of_getElem? (i := 94) rfl))) (mvT hZ (hw _ (List.mem_of_getElem? (i := 95) rfl))) (by decide) (backOf (W := 0) (rm_lcp_2 l Z a0 hw [] a0s a1 ka y0 y1 el em mr h0 n0 Z0 F_0 F_1 F_2 F_3 F_4 F_5 F_6 O0 S_el S_em M_o) hZ (hw _ (List.mem_of_getElem? (i := 95) rfl)) (hw _ (List.mem_of_getElem? (i := 94) rfl)) (by decide) (by decide)) (g := (mkF m 1 #[.val (.ref a0s)] [(.ref a0s)])) rfl (by rw [hml]; rfl) (argsL := [(.ref a0s)]) (rest := []) (lenOf pd_15 rfl) rfl (by show 2 * 0 + _ ≤ _; exact Nat.le_of_eq rfl) (hb hby d14_1) (fun _ _ => ⟨rfl, e0, (by decide : 0 + 2 ≤ _), (by decide : 0 + 4 ≤ _)⟩)
  dsimp only [Pt.U, Pt.locs, Pt.cells, Pt.slots] at X3 lq3 yq3 zq3 st3 hQ3
  subst lq3 yq3 zq3
  obtain ⟨r_1, rfl, Nq3, K2⟩ := hQ3
  have N3 := Fr.app N0 Nq3
  have g4 : Exa Z T3.heap a0s "java/util/ArrayList" := F_0.keep K2
  have g5 : Fld Z T3.heap a0s "java/util/ArrayList" "size" "I" (.int (2 : Int32)) := F_1.keep K2 nin0
  have g6 : Fld Z T3.heap a0s "java/util/ArrayList" "elementData" "[Ljava/lang/Object;" (.ref a1) := F_2.keep K2 nin0
  have g7 : Arv Z T3.heap a1 ka (.object "java/lang/Object") (10 : Int32) [(.ref y0), (.ref y1), .null, .null, .null, .null, .null, .null, .null, .null] .null := F_3.keep K2 nin0
  have g8 : Exa Z T3.heap a1 "[Ljava/lang/Object;" := F_4.keep K2
  have g9 : Exa Z T3.heap y0 "com/example/kempt_cursor/kemptcursor/Keyed" := F_5.keep K2
  have g10 : Exa Z T3.heap y1 "com/example/kempt_cursor/kemptcursor/Keyed" := F_6.keep K2
  have Z2 : n0 ≤ T3.heap.size := (Nat.le_trans Z0 K2.1)
  have O2 : Old Z n0 T3.heap := O0.keep K2 (all0 (P := fun x => n0 ≤ x))
  have K11 : Keep h0 T3.heap [] := K0.trans K2 (all0 (P := fun x => x ∈ [] ∨ h0.size ≤ x))
  refine own_step (T' := T3) (g' := (mkF m 4 #[.val (.ref a0s)] [(.ref r_1)])) st3 ?_
  refine own_rA X3 hx hlk Bd.returns rfl (w := (.ref r_1)) rfl (hb hby d14_4) ?_ (by decide) (by decide)
  exact ⟨r_1, rfl, N3, K11⟩
def Q_lcp_3 (Z : State) (a0s : Addr) (a1 : Addr) (ka : ClassId) (y0 : Addr) (y1 : Addr) (y2 : Addr) (el : Addr) (em : Addr) (mr : Addr) (h0 : Heap) (n0 : Nat) (v : Option Value) (h : Heap) (L : List Loc) : Prop := ∃ (r : Addr), v = some (.ref r) ∧ Fr n0 L ∧ Keep h0 h []
theorem ef_rm_lcp_3 (m : MethodId) (x0 : Addr) : entryFrame m #[(.ref x0)] 2 = mkF m 0 #[.val (.ref x0), .unset] [] := by first | (simp [entryFrame, mkF, argsToLocals, Value.category]; done) | rfl | (simp [entryFrame, mkF, argsToLocals, Value.category] <;> rfl)
set_option maxRecDepth 65536 in
set_option maxHeartbeats 40000000 in
theorem rm_lcp_3 (l : Launch) (Z : State) (a0 : Array Value) (hw : ∀ d ∈ tables_1, d.before a0 Z = true) (ws : List Jvm.Cond) (a0s : Addr) (a1 : Addr) (ka : ClassId) (y0 : Addr) (y1 : Addr) (y2 : Addr) (el : Addr) (em : Addr) (mr : Addr) (h0 : Heap) (n0 : Nat) (Z0 : n0 ≤ h0.size) (F_0 : Exa Z h0 a0s "java/util/ArrayList") (F_1 : Fld Z h0 a0s "java/util/ArrayList" "size" "I" (.int (3 : Int32))) (F_2 : Fld Z h0 a0s "java/util/ArrayList" "elementData" "[Ljava/lang/Object;" (.ref a1)) (F_3 : Arv Z h0 a1 ka (.object "java/lang/Object") (10 : Int32) [(.ref y0), (.ref y1), (.ref y2), .null, .null, .null, .null, .null, .null, .null] .null) (F_4 : Exa Z h0 a1 "[Ljava/lang/Object;") (F_5 : Exa Z h0 y0 "com/example/kempt_cursor/kemptcursor/Keyed") (F_6 : Exa Z h0 y1 "com/example/kempt_cursor/kemptcursor/Keyed") (F_7 : Exa Z h0 y2 "com/example/kempt_cursor/kemptcursor/Keyed") (O0 : Old Z n0 h0) (S_el : Sta Z Z.heap "java/util/ImmutableCollections" "EMPTY_LIST" "Ljava/util/ImmutableCollections$ListN;" (.ref el)) (S_em : Sta Z Z.heap "java/util/ImmutableCollections" "EMPTY" "Ljava/lang/Object;" (.ref em)) (M_o : own_Mir Z "[Ljava/lang/Object;" mr) :
    MetFree l (⟨"java/util/ImmutableCollections", "listCopy", "(Ljava/util/Collection;)Ljava/util/List;"⟩ : MethodName) (head1 (Jvm.Cond.code (⟨"java/util/ImmutableCollections", "listCopy", "(Ljava/util/Collection;)Ljava/util/List;"⟩ : MethodName) jdk_56_method_3_code 2 (some (.object "java/util/List")) :: ws) ({ frames := 7, cells := 3, slots := 8, locals := 90 } : Room)) (fun a U => a = #[(.ref a0s)] ∧ Z.Warmed39 U.vm ∧ U.heap = h0) (fun _ _ _ _ _ => True) (fun _ U o U' => ∃ v L, o = .returned v ∧ (Q_lcp_3 Z a0s a1 ka y0 y1 y2 el em mr h0 n0) v U'.heap L ∧ FrameEnd U o U' L ({ frames := 7, cells := 3, slots := 8, locals := 90 } : Room).cells ({ frames := 7, cells := 3, slots := 8, locals := 90 } : Room).slots) := by
  refine MetFree.of_bodySF (plainFor_of_name pn_13) hisR ?_
  intro p e s m args below meth c s₁ Bd hml0 hP hK
  obtain ⟨rfl, hZ, hh⟩ := hP
  have hx := Bd.exec
  have hby := Bd.bytes
  have hlk : meth.locks = false := BodyLoose.notSynchronized Bd
  have hml : c.maxLocals = 2 := hml0
  have hown : s.vm.findClass "java/util/ImmutableCollections" = some m.cls := findClass_of_methodNamed Bd.named
  have hnm := (name_of_methodNamed Bd.named Bd.method).1
  have X0 : Stand p l e ({ frames := 7, cells := 3, slots := 8, locals := 90 } : Room) s m #[(.ref a0s)] below meth c s₁ [] 0 0 := Stand.of_body Bd
  have e0 : s₁.heap = h0 := by rw [← hh, Bd.state]; rfl
  have N0 := Fr.nil n0
  show own_Go p e below s (Q_lcp_3 Z a0s a1 ka y0 y1 y2 el em mr h0 n0) ({ frames := 7, cells := 3, slots := 8, locals := 90 } : Room).cells ({ frames := 7, cells := 3, slots := 8, locals := 90 } : Room).slots s₁ (entryFrame m #[(.ref a0s)] 2)
  refine own_cast (g' := (mkF m 0 #[.val (.ref a0s), .unset] [])) (ef_rm_lcp_3 m a0s) ?_
  have K0 : Keep h0 h0 [] := Keep.refl _ _
  refine own_step (T' := s₁) (g' := (mkF m 1 #[.val (.ref a0s), .unset] [(.ref a0s)])) (fun t k => XS.aloadN X0.here hx rfl (hb hby d15_0) rfl rfl k) ?_
  obtain ⟨T1, X1, e1, st1⟩ := instNo X0 hx hZ hown (hw _ (List.mem_of_getElem? (i := 96) rfl)) e0 F_0 (own_NSno (hw _ (List.mem_of_getElem? (i := 97) rfl)) (hw _ (List.mem_of_getElem? (i := 145) rfl)) (NS.step (hw _ (List.mem_of_getElem? (i := 97) rfl)) (NS.step (hw _ (List.mem_of_getElem? (i := 98) rfl)) (NS.step (hw _ (List.mem_of_getElem? (i := 99) rfl)) (own_NSroot (hw _ (List.mem_of_getElem? (i := 100) rfl)) (hw _ (List.mem_of_getElem? (i := 145) rfl)) (by decide)) (by decide)) (by decide)) (by decide)) (by decide)) (g := (mkF m 1 #[.val (.ref a0s), .unset] [(.ref a0s)])) rfl rfl (hb hby d15_1)
  refine own_step (T' := T1) (g' := (mkF m 4 #[.val (.ref a0s), .unset] [(.int (0 : Int32))])) st1 ?_
  refine own_step (T' := T1) (g' := (mkF m 7 #[.val (.ref a0s), .unset] [])) (fun t k => XS.ifNo X1.here hx rfl (hb hby d15_4) rfl ((if0 _ _).trans (teq (by decide : ((0 : Int32) = (0 : Int32)))).2) k) ?_
  refine own_step (T' := T1) (g' := (mkF m 8 #[.val (.ref a0s), .unset] [(.ref a0s)])) (fun t k => XS.aloadN X1.here hx rfl (hb hby d15_7) rfl rfl k) ?_
  obtain ⟨T2, X2, e2, st2⟩ := instNo X1 hx hZ hown (hw _ (List.mem_of_getElem? (i := 101) rfl)) e1 F_0 (own_NSno (hw _ (List.mem_of_getElem? (i := 97) rfl)) (hw _ (List.mem_of_getElem? (i := 208) rfl)) (NS.step (hw _ (List.mem_of_getElem? (i := 97) rfl)) (NS.step (hw _ (List.mem_of_getElem? (i := 98) rfl)) (NS.step (hw _ (List.mem_of_getElem? (i := 99) rfl)) (own_NSroot (hw _ (List.mem_of_getElem? (i := 100) rfl)) (hw _ (List.mem_of_getElem? (i := 208) rfl)) (by decide)) (by decide)) (by decide)) (by decide)) (by decide)) (g := (mkF m 8 #[.val (.ref a0s), .unset] [(.ref a0s)])) rfl rfl (hb hby d15_8)
  refine own_step (T' := T2) (g' := (mkF m 11 #[.val (.ref a0s), .unset] [(.int (0 : Int32))])) st2 ?_
  refine own_step (T' := T2) (g' := (mkF m 31 #[.val (.ref a0s), .unset] [])) (fun t k => XS.ifYes X2.here hx rfl (pc0 := 11) (pc' := 31) rfl (hb hby d15_11) rfl ((if0 _ _).trans (teq (by decide : ((0 : Int32) = (0 : Int32)))).1) (by decide) (by decide) k) ?_
  refine own_step (T' := T2) (g' := (mkF m 32 #[.val (.ref a0s), .unset] [(.ref a0s)])) (fun t k => XS.aloadN X2.here hx rfl (hb hby d15_31) rfl rfl k) ?_
  obtain ⟨cq6, kq6, q6a, q6b, q6c⟩ := isOf hZ e2 F_0
  obtain ⟨_, _, ⟨T5, L5, k5, n5⟩, -, X5, ⟨Lc5, hQ5, lq5, yq5, zq5⟩, st5⟩ := X2.interfaceBack hx (xi := (⟨"java/util/Collection", "isEmpty", "()Z"⟩ : MethodName)) (y := (⟨"java/util/ArrayList", "isEmpty", "()Z"⟩ : MethodName)) hown (mvT hZ (hw _ (List.mem_of_getElem? (i := 102) rfl))) (mvT hZ (hw _ (List.mem_of_getElem? (i := 103) rfl))) (mvT hZ (hw _ (List.mem_of_getElem? (i := 104) rfl))) (mvT hZ (hw _ (List.mem_of_getElem? (i := 105) rfl))) (mvT hZ (hw _ (List.mem_of_getElem? (i := 106) rfl))) (mvT hZ (hw _ (List.mem_of_getElem? (i := 107) rfl))) (mvT hZ (hw _ (List.mem_of_getElem? (i := 108) rfl))) (mvT hZ (hw _ (List.mem_of_getElem? (i := 109) rfl))) (by decide) (backOf (W := 0) (rm_emp_3 l Z a0 hw [] a0s h0 n0 Z0 F_1) hZ (hw _ (List.mem_of_getElem? (i := 110) rfl)) (hw _ (List.mem_of_getElem? (i := 3) rfl)) (by decide) (by decide)) q6a q6b q6c (g := (mkF m 32 #[.val (.ref a0s), .unset] [(.ref a0s)])) rfl (by rw [hml]; rfl) (Steps.refl _) (argsL := []) (rest := []) (lenOf pd_13 rfl) rfl (by show 2 * 0 + _ ≤ _; exact Nat.le_of_eq rfl) (hb hby d15_32) (fun _ _ => ⟨rfl, e2, (by decide : 0 + 0 ≤ _), (by decide : 0 + 0 ≤ _)⟩)
  dsimp only [Pt.U, Pt.locs, Pt.cells, Pt.slots] at X5 lq5 yq5 zq5 st5 hQ5
  subst lq5 yq5 zq5
  obtain ⟨rfl, Nq5, eq4⟩ := hQ5
  have N5 := Fr.app N0 Nq5
  refine own_tr (T' := T5) (g' := (mkF m 37 #[.val (.ref a0s), .unset] [(.int (0 : Int32))])) st5 ?_
  refine own_step (T' := T5) (g' := (mkF m 44 #[.val (.ref a0s), .unset] [])) (fun t k => XS.ifYes X5.here hx rfl (pc0 := 37) (pc' := 44) rfl (hb hby d15_37) rfl ((if0 _ _).trans (teq (by decide : ((0 : Int32) = (0 : Int32)))).1) (by decide) (by decide) k) ?_
  refine own_step (T' := T5) (g' := (mkF m 45 #[.val (.ref a0s), .unset] [(.ref a0s)])) (fun t k => XS.aloadN X5.here hx rfl (hb hby d15_44) rfl rfl k) ?_
  obtain ⟨cq13, kq13, q13a, q13b, q13c⟩ := isOf hZ eq4 F_0
  obtain ⟨_, _, ⟨T12, L12, k12, n12⟩, -, X12, ⟨Lc12, hQ12, lq12, yq12, zq12⟩, st12⟩ := X5.interfaceBack hx (xi := (⟨"java/util/Collection", "toArray", "()[Ljava/lang/Object;"⟩ : MethodName)) (y := (⟨"java/util/ArrayList", "toArray", "()[Ljava/lang/Object;"⟩ : MethodName)) hown (mvT hZ (hw _ (List.mem_of_getElem? (i := 111) rfl))) (mvT hZ (hw _ (List.mem_of_getElem? (i := 112) rfl))) (mvT hZ (hw _ (List.mem_of_getElem? (i := 113) rfl))) (mvT hZ (hw _ (List.mem_of_getElem? (i := 114) rfl))) (mvT hZ (hw _ (List.mem_of_getElem? (i := 115) rfl))) (mvT hZ (hw _ (List.mem_of_getElem? (i := 116) rfl))) (mvT hZ (hw _ (List.mem_of_getElem? (i := 117) rfl))) (mvT hZ (hw _ (List.mem_of_getElem? (i := 109) rfl))) (by decide) (backOf (W := 0) (rm_toa_3 l Z a0 hw [] a0s a1 ka y0 y1 y2 mr h0 n0 Z0 F_2 F_1 F_3 F_4 F_5 F_6 F_7 M_o) hZ (hw _ (List.mem_of_getElem? (i := 118) rfl)) (hw _ (List.mem_of_getElem? (i := 3) rfl)) (by decide) (by decide)) q13a q13b q13c (g := (mkF m 45 #[.val (.ref a0s), .unset] [(.ref a0s)])) rfl (by rw [hml]; rfl) (Steps.refl _) (argsL := []) (rest := []) (lenOf pd_4 rfl) rfl (by show 2 * 0 + _ ≤ _; exact Nat.le_of_eq rfl) (hb hby d15_45) (fun _ _ => ⟨rfl, eq4, (by decide : 0 + 1 ≤ _), (by decide : 0 + 3 ≤ _)⟩)
  dsimp only [Pt.U, Pt.locs, Pt.cells, Pt.slots] at X12 lq12 yq12 zq12 st12 hQ12
  subst lq12 yq12 zq12
  obtain ⟨b_7, kb_7, rfl, Nq12, K8, fz_b_7, g9, g10, g11⟩ := hQ12
  have N12 := Fr.app N5 Nq12
  have oz_b_7 : n0 ≤ b_7 := Nat.le_trans Z0 fz_b_7
  have nz_a0s_b_7 : a0s ≠ b_7 := Nat.ne_of_lt (Nat.lt_of_lt_of_le F_0.lt fz_b_7)
  have nz_a1_b_7 : a1 ≠ b_7 := Nat.ne_of_lt (Nat.lt_of_lt_of_le F_3.lt fz_b_7)
  have nz_y0_b_7 : y0 ≠ b_7 := Nat.ne_of_lt (Nat.lt_of_lt_of_le F_5.lt fz_b_7)
  have nz_y1_b_7 : y1 ≠ b_7 := Nat.ne_of_lt (Nat.lt_of_lt_of_le F_6.lt fz_b_7)
  have nz_y2_b_7 : y2 ≠ b_7 := Nat.ne_of_lt (Nat.lt_of_lt_of_le F_7.lt fz_b_7)
  have fr_b_7 : h0.size ≤ b_7 := Nat.le_trans K0.1 fz_b_7
  have g14 : Exa Z T12.heap a0s "java/util/ArrayList" := F_0.keep K8
  have g15 : Fld Z T12.heap a0s "java/util/ArrayList" "size" "I" (.int (3 : Int32)) := F_1.keep K8 nin0
  have g16 : Fld Z T12.heap a0s "java/util/ArrayList" "elementData" "[Ljava/lang/Object;" (.ref a1) := F_2.keep K8 nin0
  have g17 : Arv Z T12.heap a1 ka (.object "java/lang/Object") (10 : Int32) [(.ref y0), (.ref y1), (.ref y2), .null, .null, .null, .null, .null, .null, .null] .null := F_3.keep K8 nin0
  have g18 : Exa Z T12.heap a1 "[Ljava/lang/Object;" := F_4.keep K8
  have g19 : Exa Z T12.heap y0 "com/example/kempt_cursor/kemptcursor/Keyed" := F_5.keep K8
  have g20 : Exa Z T12.heap y1 "com/example/kempt_cursor/kemptcursor/Keyed" := F_6.keep K8
  have g21 : Exa Z T12.heap y2 "com/example/kempt_cursor/kemptcursor/Keyed" := F_7.keep K8
  have Z8 : n0 ≤ T12.heap.size := (Nat.le_trans Z0 K8.1)
  have O8 : Old Z n0 T12.heap := O0.keep K8 (all0 (P := fun x => n0 ≤ x))
  have K22 : Keep h0 T12.heap [] := K0.trans K8 (all0 (P := fun x => x ∈ [] ∨ h0.size ≤ x))
  refine own_tr (T' := T12) (g' := (mkF m 50 #[.val (.ref a0s), .unset] [(.ref b_7)])) st12 ?_
  obtain ⟨_, _, ⟨T25, L25, k25, n25⟩, -, X25, ⟨Lc25, hQ25, lq25, yq25, zq25⟩, st25⟩ := Jvm.LawKit.callS X12 hx (y := (⟨"java/util/List", "of", "([Ljava/lang/Object;)Ljava/util/List;"⟩ : MethodName)) hown (mvT hZ (hw _ (List.mem_of_getElem? (i := 141) rfl))) (mvT hZ (hw _ (List.mem_of_getElem? (i := 142) rfl))) (mvT hZ (hw _ (List.mem_of_getElem? (i := 90) rfl))) (mvT hZ (hw _ (List.mem_of_getElem? (i := 143) rfl))) (by decide) (backOf (W := 0) (rm_loa_3 l Z a0 hw [] b_7 kb_7 y0 y1 y2 em T12.heap n0 Z8 g9 g19 g20 g21 O8 S_em) hZ (hw _ (List.mem_of_getElem? (i := 143) rfl)) (hw _ (List.mem_of_getElem? (i := 90) rfl)) (by decide) (by decide)) (g := (mkF m 50 #[.val (.ref a0s), .unset] [(.ref b_7)])) rfl (by rw [hml]; rfl) (argsL := [(.ref b_7)]) (rest := []) (lenOf pd_12 rfl) rfl (by show 2 * 0 + _ ≤ _; exact Nat.le_of_eq rfl) (hb hby d15_50) (fun _ _ => ⟨rfl, rfl, (by decide : 1 + 2 ≤ _), (by decide : 3 + 5 ≤ _)⟩)
  dsimp only [Pt.U, Pt.locs, Pt.cells, Pt.slots] at X25 lq25 yq25 zq25 st25 hQ25
  subst lq25 yq25 zq25
  obtain ⟨r_23, rfl, Nq25, K24⟩ := hQ25
  have N25 := Fr.app N12 Nq25
  have g26 : Exa Z T25.heap a0s "java/util/ArrayList" := g14.keep K24
  have g27 : Fld Z T25.heap a0s "java/util/ArrayList" "size" "I" (.int (3 : Int32)) := g15.keep K24 nin0
  have g28 : Fld Z T25.heap a0s "java/util/ArrayList" "elementData" "[Ljava/lang/Object;" (.ref a1) := g16.keep K24 nin0
  have g29 : Arv Z T25.heap a1 ka (.object "java/lang/Object") (10 : Int32) [(.ref y0), (.ref y1), (.ref y2), .null, .null, .null, .null, .null, .null, .null] .null := g17.keep K24 nin0
  have g30 : Exa Z T25.heap a1 "[Ljava/lang/Object;" := g18.keep K24
  have g31 : Exa Z T25.heap y0 "com/example/kempt_cursor/kemptcursor/Keyed" := g19.keep K24
  have g32 : Exa Z T25.heap y1 "com/example/kempt_cursor/kemptcursor/Keyed" := g20.keep K24
  have g33 : Exa Z T25.heap y2 "com/example/kempt_cursor/kemptcursor/Keyed" := g21.keep K24
  have g34 : Arv Z T25.heap b_7 kb_7 (.object "java/lang/Object") (3 : Int32) [(.ref y0), (.ref y1), (.ref y2)] .null := g9.keep K24 nin0
  have g35 : Exa Z T25.heap b_7 "[Ljava/lang/Object;" := g10.keep K24
  have Z24 : n0 ≤ T25.heap.size := (Nat.le_trans Z8 K24.1)
  have O24 : Old Z n0 T25.heap := O8.keep K24 (all0 (P := fun x => n0 ≤ x))
  have K36 : Keep h0 T25.heap [] := K22.trans K24 (all0 (P := fun x => x ∈ [] ∨ h0.size ≤ x))
  refine own_step (T' := T25) (g' := (mkF m 53 #[.val (.ref a0s), .unset] [(.ref r_23)])) st25 ?_
  refine own_rA X25 hx hlk Bd.returns rfl (w := (.ref r_23)) rfl (hb hby d15_53) ?_ (by decide) (by decide)
  exact ⟨r_23, rfl, N25, K36⟩
def Q_cpo_3 (Z : State) (a0s : Addr) (a1 : Addr) (ka : ClassId) (y0 : Addr) (y1 : Addr) (y2 : Addr) (el : Addr) (em : Addr) (mr : Addr) (h0 : Heap) (n0 : Nat) (v : Option Value) (h : Heap) (L : List Loc) : Prop := ∃ (r : Addr), v = some (.ref r) ∧ Fr n0 L ∧ Keep h0 h []
theorem ef_rm_cpo_3 (m : MethodId) (x0 : Addr) : entryFrame m #[(.ref x0)] 1 = mkF m 0 #[.val (.ref x0)] [] := by first | (simp [entryFrame, mkF, argsToLocals, Value.category]; done) | rfl | (simp [entryFrame, mkF, argsToLocals, Value.category] <;> rfl)
set_option maxRecDepth 65536 in
set_option maxHeartbeats 40000000 in
theorem rm_cpo_3 (l : Launch) (Z : State) (a0 : Array Value) (hw : ∀ d ∈ tables_1, d.before a0 Z = true) (ws : List Jvm.Cond) (a0s : Addr) (a1 : Addr) (ka : ClassId) (y0 : Addr) (y1 : Addr) (y2 : Addr) (el : Addr) (em : Addr) (mr : Addr) (h0 : Heap) (n0 : Nat) (Z0 : n0 ≤ h0.size) (F_0 : Exa Z h0 a0s "java/util/ArrayList") (F_1 : Fld Z h0 a0s "java/util/ArrayList" "size" "I" (.int (3 : Int32))) (F_2 : Fld Z h0 a0s "java/util/ArrayList" "elementData" "[Ljava/lang/Object;" (.ref a1)) (F_3 : Arv Z h0 a1 ka (.object "java/lang/Object") (10 : Int32) [(.ref y0), (.ref y1), (.ref y2), .null, .null, .null, .null, .null, .null, .null] .null) (F_4 : Exa Z h0 a1 "[Ljava/lang/Object;") (F_5 : Exa Z h0 y0 "com/example/kempt_cursor/kemptcursor/Keyed") (F_6 : Exa Z h0 y1 "com/example/kempt_cursor/kemptcursor/Keyed") (F_7 : Exa Z h0 y2 "com/example/kempt_cursor/kemptcursor/Keyed") (O0 : Old Z n0 h0) (S_el : Sta Z Z.heap "java/util/ImmutableCollections" "EMPTY_LIST" "Ljava/util/ImmutableCollections$ListN;" (.ref el)) (S_em : Sta Z Z.heap "java/util/ImmutableCollections" "EMPTY" "Ljava/lang/Object;" (.ref em)) (M_o : own_Mir Z "[Ljava/lang/Object;" mr) :
    MetFree l (⟨"java/util/List", "copyOf", "(Ljava/util/Collection;)Ljava/util/List;"⟩ : MethodName) (head1 (Jvm.Cond.code (⟨"java/util/List", "copyOf", "(Ljava/util/Collection;)Ljava/util/List;"⟩ : MethodName) jdk_40_method_48_code 1 (some (.object "java/util/List")) :: ws) ({ frames := 8, cells := 3, slots := 8, locals := 103 } : Room)) (fun a U => a = #[(.ref a0s)] ∧ Z.Warmed39 U.vm ∧ U.heap = h0) (fun _ _ _ _ _ => True) (fun _ U o U' => ∃ v L, o = .returned v ∧ (Q_cpo_3 Z a0s a1 ka y0 y1 y2 el em mr h0 n0) v U'.heap L ∧ FrameEnd U o U' L ({ frames := 8, cells := 3, slots := 8, locals := 103 } : Room).cells ({ frames := 8, cells := 3, slots := 8, locals := 103 } : Room).slots) := by
  refine MetFree.of_bodySF (plainFor_of_name pn_10) hisR ?_
  intro p e s m args below meth c s₁ Bd hml0 hP hK
  obtain ⟨rfl, hZ, hh⟩ := hP
  have hx := Bd.exec
  have hby := Bd.bytes
  have hlk : meth.locks = false := BodyLoose.notSynchronized Bd
  have hml : c.maxLocals = 1 := hml0
  have hown : s.vm.findClass "java/util/List" = some m.cls := findClass_of_methodNamed Bd.named
  have hnm := (name_of_methodNamed Bd.named Bd.method).1
  have X0 : Stand p l e ({ frames := 8, cells := 3, slots := 8, locals := 103 } : Room) s m #[(.ref a0s)] below meth c s₁ [] 0 0 := Stand.of_body Bd
  have e0 : s₁.heap = h0 := by rw [← hh, Bd.state]; rfl
  have N0 := Fr.nil n0
  show own_Go p e below s (Q_cpo_3 Z a0s a1 ka y0 y1 y2 el em mr h0 n0) ({ frames := 8, cells := 3, slots := 8, locals := 103 } : Room).cells ({ frames := 8, cells := 3, slots := 8, locals := 103 } : Room).slots s₁ (entryFrame m #[(.ref a0s)] 1)
  refine own_cast (g' := (mkF m 0 #[.val (.ref a0s)] [])) (ef_rm_cpo_3 m a0s) ?_
  have K0 : Keep h0 h0 [] := Keep.refl _ _
  refine own_step (T' := s₁) (g' := (mkF m 1 #[.val (.ref a0s)] [(.ref a0s)])) (fun t k => XS.aloadN X0.here hx rfl (hb hby d14_0) rfl rfl k) ?_
  obtain ⟨_, _, ⟨T3, L3, k3, n3⟩, -, X3, ⟨Lc3, hQ3, lq3, yq3, zq3⟩, st3⟩ := Jvm.LawKit.callS X0 hx (y := (⟨"java/util/ImmutableCollections", "listCopy", "(Ljava/util/Collection;)Ljava/util/List;"⟩ : MethodName)) hown (mvT hZ (hw _ (List.mem_of_getElem? (i := 92) rfl))) (mvT hZ (hw _ (List.mem_of_getElem? (i := 93) rfl))) (mvT hZ (hw _ (List.mem_of_getElem? (i := 94) rfl))) (mvT hZ (hw _ (List.mem_of_getElem? (i := 95) rfl))) (by decide) (backOf (W := 0) (rm_lcp_3 l Z a0 hw [] a0s a1 ka y0 y1 y2 el em mr h0 n0 Z0 F_0 F_1 F_2 F_3 F_4 F_5 F_6 F_7 O0 S_el S_em M_o) hZ (hw _ (List.mem_of_getElem? (i := 95) rfl)) (hw _ (List.mem_of_getElem? (i := 94) rfl)) (by decide) (by decide)) (g := (mkF m 1 #[.val (.ref a0s)] [(.ref a0s)])) rfl (by rw [hml]; rfl) (argsL := [(.ref a0s)]) (rest := []) (lenOf pd_15 rfl) rfl (by show 2 * 0 + _ ≤ _; exact Nat.le_of_eq rfl) (hb hby d14_1) (fun _ _ => ⟨rfl, e0, (by decide : 0 + 3 ≤ _), (by decide : 0 + 8 ≤ _)⟩)
  dsimp only [Pt.U, Pt.locs, Pt.cells, Pt.slots] at X3 lq3 yq3 zq3 st3 hQ3
  subst lq3 yq3 zq3
  obtain ⟨r_1, rfl, Nq3, K2⟩ := hQ3
  have N3 := Fr.app N0 Nq3
  have g4 : Exa Z T3.heap a0s "java/util/ArrayList" := F_0.keep K2
  have g5 : Fld Z T3.heap a0s "java/util/ArrayList" "size" "I" (.int (3 : Int32)) := F_1.keep K2 nin0
  have g6 : Fld Z T3.heap a0s "java/util/ArrayList" "elementData" "[Ljava/lang/Object;" (.ref a1) := F_2.keep K2 nin0
  have g7 : Arv Z T3.heap a1 ka (.object "java/lang/Object") (10 : Int32) [(.ref y0), (.ref y1), (.ref y2), .null, .null, .null, .null, .null, .null, .null] .null := F_3.keep K2 nin0
  have g8 : Exa Z T3.heap a1 "[Ljava/lang/Object;" := F_4.keep K2
  have g9 : Exa Z T3.heap y0 "com/example/kempt_cursor/kemptcursor/Keyed" := F_5.keep K2
  have g10 : Exa Z T3.heap y1 "com/example/kempt_cursor/kemptcursor/Keyed" := F_6.keep K2
  have g11 : Exa Z T3.heap y2 "com/example/kempt_cursor/kemptcursor/Keyed" := F_7.keep K2
  have Z2 : n0 ≤ T3.heap.size := (Nat.le_trans Z0 K2.1)
  have O2 : Old Z n0 T3.heap := O0.keep K2 (all0 (P := fun x => n0 ≤ x))
  have K12 : Keep h0 T3.heap [] := K0.trans K2 (all0 (P := fun x => x ∈ [] ∨ h0.size ≤ x))
  refine own_step (T' := T3) (g' := (mkF m 4 #[.val (.ref a0s)] [(.ref r_1)])) st3 ?_
  refine own_rA X3 hx hlk Bd.returns rfl (w := (.ref r_1)) rfl (hb hby d14_4) ?_ (by decide) (by decide)
  exact ⟨r_1, rfl, N3, K12⟩
def Q_pgi_0 (Z : State) (pg : Addr) (a0s : Addr) (el : Addr) (em : Addr) (mr : Addr) (ix : Int32) (ct : Int32) (u1 : Value) (u2 : Value) (u3 : Value) (h0 : Heap) (n0 : Nat) (v : Option Value) (h : Heap) (L : List Loc) : Prop := v = none ∧ Fr n0 L ∧ Keep h0 h [pg] ∧ Exa Z h pg "com/example/kempt_cursor/kemptcursor/Page" ∧ Fld Z h pg "com/example/kempt_cursor/kemptcursor/Page" "index" "I" (.int ix)
theorem ef_rm_pgi_0 (m : MethodId) (x0 : Addr) (x1 : Addr) (x2 : Int32) (x3 : Int32) : entryFrame m #[(.ref x0), (.ref x1), (.int x2), (.int x3)] 4 = mkF m 0 #[.val (.ref x0), .val (.ref x1), .val (.int x2), .val (.int x3)] [] := by first | (simp [entryFrame, mkF, argsToLocals, Value.category]; done) | rfl | (simp [entryFrame, mkF, argsToLocals, Value.category] <;> rfl)
theorem pn_14 : plainName "com/example/kempt_cursor/kemptcursor/Page" = true := by first | (simp [plainName, overriddenIn]; done) | decide +kernel
theorem d13_0 : decode prog_18_method_1_code 0 = .ok (.aload_n 0, 1) := by decide +kernel
theorem d13_1 : decode prog_18_method_1_code 1 = .ok (.invokespecial 1, 3) := by decide +kernel
theorem d13_4 : decode prog_18_method_1_code 4 = .ok (.aload_n 1, 1) := by decide +kernel
theorem d13_5 : decode prog_18_method_1_code 5 = .ok (.invokestatic 7, 3) := by decide +kernel
theorem d13_8 : decode prog_18_method_1_code 8 = .ok (.astore_n 1, 1) := by decide +kernel
theorem d13_9 : decode prog_18_method_1_code 9 = .ok (.aload_n 0, 1) := by decide +kernel
theorem d13_10 : decode prog_18_method_1_code 10 = .ok (.aload_n 1, 1) := by decide +kernel
theorem d13_11 : decode prog_18_method_1_code 11 = .ok (.putfield 13, 3) := by decide +kernel
theorem d13_14 : decode prog_18_method_1_code 14 = .ok (.aload_n 0, 1) := by decide +kernel
theorem d13_15 : decode prog_18_method_1_code 15 = .ok (.iload_n 2, 1) := by decide +kernel
theorem d13_16 : decode prog_18_method_1_code 16 = .ok (.putfield 19, 3) := by decide +kernel
theorem d13_19 : decode prog_18_method_1_code 19 = .ok (.aload_n 0, 1) := by decide +kernel
theorem d13_20 : decode prog_18_method_1_code 20 = .ok (.iload_n 3, 1) := by decide +kernel
theorem d13_21 : decode prog_18_method_1_code 21 = .ok (.putfield 23, 3) := by decide +kernel
theorem d13_24 : decode prog_18_method_1_code 24 = .ok (.return_, 1) := by decide +kernel
set_option maxRecDepth 65536 in
set_option maxHeartbeats 40000000 in
theorem rm_pgi_0 (l : Launch) (Z : State) (a0 : Array Value) (hw : ∀ d ∈ tables_1, d.before a0 Z = true) (ws : List Jvm.Cond) (pg : Addr) (a0s : Addr) (el : Addr) (em : Addr) (mr : Addr) (ix : Int32) (ct : Int32) (u1 : Value) (u2 : Value) (u3 : Value) (h0 : Heap) (n0 : Nat) (Z0 : n0 ≤ h0.size) (F_0 : Exa Z h0 pg "com/example/kempt_cursor/kemptcursor/Page") (F_1 : Fld Z h0 pg "com/example/kempt_cursor/kemptcursor/Page" "items" "Ljava/util/List;" u1) (F_2 : Fld Z h0 pg "com/example/kempt_cursor/kemptcursor/Page" "index" "I" u2) (F_3 : Fld Z h0 pg "com/example/kempt_cursor/kemptcursor/Page" "count" "I" u3) (F_4 : Exa Z h0 a0s "java/util/ArrayList") (F_5 : Fld Z h0 a0s "java/util/ArrayList" "size" "I" (.int (0 : Int32))) (o_pg : n0 ≤ pg) (n_a0s_pg : a0s ≠ pg) (O0 : Old Z n0 h0) (S_el : Sta Z Z.heap "java/util/ImmutableCollections" "EMPTY_LIST" "Ljava/util/ImmutableCollections$ListN;" (.ref el)) (S_em : Sta Z Z.heap "java/util/ImmutableCollections" "EMPTY" "Ljava/lang/Object;" (.ref em)) (M_o : own_Mir Z "[Ljava/lang/Object;" mr) :
    MetFree l (⟨"com/example/kempt_cursor/kemptcursor/Page", "<init>", "(Ljava/util/List;II)V"⟩ : MethodName) (head1 (Jvm.Cond.code (⟨"com/example/kempt_cursor/kemptcursor/Page", "<init>", "(Ljava/util/List;II)V"⟩ : MethodName) prog_18_method_1_code 4 none :: ws) ({ frames := 3, cells := 0, slots := 0, locals := 37 } : Room)) (fun a U => a = #[(.ref pg), (.ref a0s), (.int ix), (.int ct)] ∧ Z.Warmed39 U.vm ∧ U.heap = h0) (fun _ _ _ _ _ => True) (fun _ U o U' => ∃ v L, o = .returned v ∧ (Q_pgi_0 Z pg a0s el em mr ix ct u1 u2 u3 h0 n0) v U'.heap L ∧ FrameEnd U o U' L ({ frames := 3, cells := 0, slots := 0, locals := 37 } : Room).cells ({ frames := 3, cells := 0, slots := 0, locals := 37 } : Room).slots) := by
  refine MetFree.of_bodySF (plainFor_of_name pn_14) hisR ?_
  intro p e s m args below meth c s₁ Bd hml0 hP hK
  obtain ⟨rfl, hZ, hh⟩ := hP
  have hx := Bd.exec
  have hby := Bd.bytes
  have hlk : meth.locks = false := BodyLoose.notSynchronized Bd
  have hml : c.maxLocals = 4 := hml0
  have hown : s.vm.findClass "com/example/kempt_cursor/kemptcursor/Page" = some m.cls := findClass_of_methodNamed Bd.named
  have hnm := (name_of_methodNamed Bd.named Bd.method).1
  have X0 : Stand p l e ({ frames := 3, cells := 0, slots := 0, locals := 37 } : Room) s m #[(.ref pg), (.ref a0s), (.int ix), (.int ct)] below meth c s₁ [] 0 0 := Stand.of_body Bd
  have e0 : s₁.heap = h0 := by rw [← hh, Bd.state]; rfl
  have N0 := Fr.nil n0
  show own_Go p e below s (Q_pgi_0 Z pg a0s el em mr ix ct u1 u2 u3 h0 n0) ({ frames := 3, cells := 0, slots := 0, locals := 37 } : Room).cells ({ frames := 3, cells := 0, slots := 0, locals := 37 } : Room).slots s₁ (entryFrame m #[(.ref pg), (.ref a0s), (.int ix), (.int ct)] 4)
  refine own_cast (g' := (mkF m 0 #[.val (.ref pg), .val (.ref a0s), .val (.int ix), .val (.int ct)] [])) (ef_rm_pgi_0 m pg a0s ix ct) ?_
  have K0 : Keep h0 h0 [pg] := Keep.refl _ _
  refine own_step (T' := s₁) (g' := (mkF m 1 #[.val (.ref pg), .val (.ref a0s), .val (.int ix), .val (.int ct)] [(.ref pg)])) (fun t k => XS.aloadN X0.here hx rfl (hb hby d13_0) rfl rfl k) ?_
  obtain ⟨_, _, ⟨T2, L2, k2, n2⟩, -, X2, ⟨Lc2, hQ2, lq2, yq2, zq2⟩, st2⟩ := X0.specialBack hx (y := (⟨"java/lang/Record", "<init>", "()V"⟩ : MethodName)) rfl hown (mvT hZ (hw _ (List.mem_of_getElem? (i := 87) rfl))) (mvT hZ (hw _ (List.mem_of_getElem? (i := 41) rfl))) (mvT hZ (hw _ (List.mem_of_getElem? (i := 44) rfl))) (by decide) (backOf (W := 0) (rm_rec l Z a0 hw [] pg h0 n0 Z0 ) hZ (hw _ (List.mem_of_getElem? (i := 44) rfl)) (hw _ (List.mem_of_getElem? (i := 43) rfl)) (by decide) (by decide)) (g := (mkF m 1 #[.val (.ref pg), .val (.ref a0s), .val (.int ix), .val (.int ct)] [(.ref pg)])) rfl (by rw [hml]; rfl) (Steps.refl _) (a := pg) (argsL := []) (rest := []) (lenOf pd_0 rfl) rfl (by show 2 * 0 + _ ≤ _; exact Nat.le_of_eq rfl) (hb hby d13_1) (fun _ _ => ⟨rfl, e0, (by decide : 0 + 0 ≤ _), (by decide : 0 + 0 ≤ _)⟩)
  dsimp only [Pt.U, Pt.locs, Pt.cells, Pt.slots] at X2 lq2 yq2 zq2 st2 hQ2
  subst lq2 yq2 zq2
  obtain ⟨rfl, Nq2, eq1⟩ := hQ2
  have N2 := Fr.app N0 Nq2
  refine own_tr (T' := T2) (g' := (mkF m 4 #[.val (.ref pg), .val (.ref a0s), .val (.int ix), .val (.int ct)] [])) st2 ?_
  refine own_step (T' := T2) (g' := (mkF m 5 #[.val (.ref pg), .val (.ref a0s), .val (.int ix), .val (.int ct)] [(.ref a0s)])) (fun t k => XS.aloadN X2.here hx rfl (hb hby d13_4) rfl rfl k) ?_
  obtain ⟨_, _, ⟨T5, L5, k5, n5⟩, -, X5, ⟨Lc5, hQ5, lq5, yq5, zq5⟩, st5⟩ := Jvm.LawKit.callS X2 hx (y := (⟨"java/util/List", "copyOf", "(Ljava/util/Collection;)Ljava/util/List;"⟩ : MethodName)) hown (mvT hZ (hw _ (List.mem_of_getElem? (i := 88) rfl))) (mvT hZ (hw _ (List.mem_of_getElem? (i := 89) rfl))) (mvT hZ (hw _ (List.mem_of_getElem? (i := 90) rfl))) (mvT hZ (hw _ (List.mem_of_getElem? (i := 91) rfl))) (by decide) (backOf (W := 0) (rm_cpo_0 l Z a0 hw [] a0s el em mr h0 n0 Z0 F_4 F_5 O0 S_el S_em M_o) hZ (hw _ (List.mem_of_getElem? (i := 91) rfl)) (hw _ (List.mem_of_getElem? (i := 90) rfl)) (by decide) (by decide)) (g := (mkF m 5 #[.val (.ref pg), .val (.ref a0s), .val (.int ix), .val (.int ct)] [(.ref a0s)])) rfl (by rw [hml]; rfl) (argsL := [(.ref a0s)]) (rest := []) (lenOf pd_15 rfl) rfl (by show 2 * 0 + _ ≤ _; exact Nat.le_of_eq rfl) (hb hby d13_5) (fun _ _ => ⟨rfl, eq1, (by decide : 0 + 0 ≤ _), (by decide : 0 + 0 ≤ _)⟩)
  dsimp only [Pt.U, Pt.locs, Pt.cells, Pt.slots] at X5 lq5 yq5 zq5 st5 hQ5
  subst lq5 yq5 zq5
  obtain ⟨r_3, rfl, Nq5, K4⟩ := hQ5
  have N5 := Fr.app N2 Nq5
  have g6 : Exa Z T5.heap pg "com/example/kempt_cursor/kemptcursor/Page" := F_0.keep K4
  have g7 : Fld Z T5.heap pg "com/example/kempt_cursor/kemptcursor/Page" "items" "Ljava/util/List;" u1 := F_1.keep K4 nin0
  have g8 : Fld Z T5.heap pg "com/example/kempt_cursor/kemptcursor/Page" "index" "I" u2 := F_2.keep K4 nin0
  have g9 : Fld Z T5.heap pg "com/example/kempt_cursor/kemptcursor/Page" "count" "I" u3 := F_3.keep K4 nin0
  have g10 : Exa Z T5.heap a0s "java/util/ArrayList" := F_4.keep K4
  have g11 : Fld Z T5.heap a0s "java/util/ArrayList" "size" "I" (.int (0 : Int32)) := F_5.keep K4 nin0
  have Z4 : n0 ≤ T5.heap.size := (Nat.le_trans Z0 K4.1)
  have O4 : Old Z n0 T5.heap := O0.keep K4 (all0 (P := fun x => n0 ≤ x))
  have K12 : Keep h0 T5.heap [pg] := K0.trans K4 (all0 (P := fun x => x ∈ [pg] ∨ h0.size ≤ x))
  refine own_step (T' := T5) (g' := (mkF m 8 #[.val (.ref pg), .val (.ref a0s), .val (.int ix), .val (.int ct)] [(.ref r_3)])) st5 ?_
  refine own_step (T' := T5) (g' := (mkF m 9 #[.val (.ref pg), .val (.ref r_3), .val (.int ix), .val (.int ct)] [])) (fun t k => XS.astoreN X5.here hx rfl (hb hby d13_8) rfl rfl (l' := #[.val (.ref pg), .val (.ref r_3), .val (.int ix), .val (.int ct)]) rfl k) ?_
  refine own_step (T' := T5) (g' := (mkF m 10 #[.val (.ref pg), .val (.ref r_3), .val (.int ix), .val (.int ct)] [(.ref pg)])) (fun t k => XS.aloadN X5.here hx rfl (hb hby d13_9) rfl rfl k) ?_
  refine own_step (T' := T5) (g' := (mkF m 11 #[.val (.ref pg), .val (.ref r_3), .val (.int ix), .val (.int ct)] [(.ref r_3), (.ref pg)])) (fun t k => XS.aloadN X5.here hx rfl (hb hby d13_10) rfl rfl k) ?_
  obtain ⟨T13, h13, X13, e13, W13, st13⟩ := putF X5 hx hZ hown (host := "") (Or.inl (hw _ (List.mem_of_getElem? (i := 173) rfl))) Via.refl rfl g7 g6 (Or.inr ⟨(hw _ (List.mem_of_getElem? (i := 174) rfl)), rfl, hnm⟩) (hw _ (List.mem_of_getElem? (i := 82) rfl)) (ty := .object "java/util/List") (by decide) rfl rfl (g := (mkF m 11 #[.val (.ref pg), .val (.ref r_3), .val (.int ix), .val (.int ct)] [(.ref r_3), (.ref pg)])) rfl rfl (hb hby d13_11)
  have g14 : Exa Z h13 pg "com/example/kempt_cursor/kemptcursor/Page" := g6.wr W13
  have g15 : Fld Z h13 pg "com/example/kempt_cursor/kemptcursor/Page" "items" "Ljava/util/List;" (.ref r_3) := g7.same W13
  have g16 : Fld Z h13 pg "com/example/kempt_cursor/kemptcursor/Page" "index" "I" u2 := g8.other W13 (Or.inr (slot_ne (Or.inr (hw _ (List.mem_of_getElem? (i := 176) rfl))) (Or.inr (hw _ (List.mem_of_getElem? (i := 174) rfl))) (by decide) (t := .int) (t' := .object "java/util/List") (by decide) (by decide)))
  have g17 : Fld Z h13 pg "com/example/kempt_cursor/kemptcursor/Page" "count" "I" u3 := g9.other W13 (Or.inr (slot_ne (Or.inr (hw _ (List.mem_of_getElem? (i := 178) rfl))) (Or.inr (hw _ (List.mem_of_getElem? (i := 174) rfl))) (by decide) (t := .int) (t' := .object "java/util/List") (by decide) (by decide)))
  have g18 : Exa Z h13 a0s "java/util/ArrayList" := g10.wr W13
  have g19 : Fld Z h13 a0s "java/util/ArrayList" "size" "I" (.int (0 : Int32)) := g11.other W13 (Or.inl n_a0s_pg)
  have K20 : Keep h0 h13 [pg] := K12.wr W13 (Or.inl (List.mem_of_getElem? (i := 0) rfl))
  have N13 := Fr.snoc X13 N5 o_pg
  have Z13 : n0 ≤ h13.size := (Nat.le_trans Z4 (Nat.le_of_eq W13.size.symm))
  have O13 : Old Z n0 h13 := O4.wr W13 o_pg
  refine own_step (T' := T13) (g' := (mkF m 14 #[.val (.ref pg), .val (.ref r_3), .val (.int ix), .val (.int ct)] [])) st13 ?_
  refine own_step (T' := T13) (g' := (mkF m 15 #[.val (.ref pg), .val (.ref r_3), .val (.int ix), .val (.int ct)] [(.ref pg)])) (fun t k => XS.aloadN X13.here hx rfl (hb hby d13_14) rfl rfl k) ?_
  refine own_step (T' := T13) (g' := (mkF m 16 #[.val (.ref pg), .val (.ref r_3), .val (.int ix), .val (.int ct)] [(.int ix), (.ref pg)])) (fun t k => XS.iloadN X13.here hx rfl (hb hby d13_15) rfl k) ?_
  obtain ⟨T21, h21, X21, e21, W21, st21⟩ := putF X13 hx hZ hown (host := "") (Or.inl (hw _ (List.mem_of_getElem? (i := 175) rfl))) Via.refl e13 g16 g14 (Or.inr ⟨(hw _ (List.mem_of_getElem? (i := 176) rfl)), rfl, hnm⟩) (hw _ (List.mem_of_getElem? (i := 82) rfl)) (ty := .int) (by decide) rfl rfl (g := (mkF m 16 #[.val (.ref pg), .val (.ref r_3), .val (.int ix), .val (.int ct)] [(.int ix), (.ref pg)])) rfl rfl (hb hby d13_16)
  have g22 : Exa Z h21 pg "com/example/kempt_cursor/kemptcursor/Page" := g14.wr W21
  have g23 : Fld Z h21 pg "com/example/kempt_cursor/kemptcursor/Page" "items" "Ljava/util/List;" (.ref r_3) := g15.other W21 (Or.inr (slot_ne (Or.inr (hw _ (List.mem_of_getElem? (i := 174) rfl))) (Or.inr (hw _ (List.mem_of_getElem? (i := 176) rfl))) (by decide) (t := .object "java/util/List") (t' := .int) (by decide) (by decide)))
  have g24 : Fld Z h21 pg "com/example/kempt_cursor/kemptcursor/Page" "index" "I" (.int ix) := g16.same W21
  have g25 : Fld Z h21 pg "com/example/kempt_cursor/kemptcursor/Page" "count" "I" u3 := g17.other W21 (Or.inr (slot_ne (Or.inr (hw _ (List.mem_of_getElem? (i := 178) rfl))) (Or.inr (hw _ (List.mem_of_getElem? (i := 176) rfl))) (by decide) (t := .int) (t' := .int) (by decide) (by decide)))
  have g26 : Exa Z h21 a0s "java/util/ArrayList" := g18.wr W21
  have g27 : Fld Z h21 a0s "java/util/ArrayList" "size" "I" (.int (0 : Int32)) := g19.other W21 (Or.inl n_a0s_pg)
  have K28 : Keep h0 h21 [pg] := K20.wr W21 (Or.inl (List.mem_of_getElem? (i := 0) rfl))
  have N21 := Fr.snoc X21 N13 o_pg
  have Z21 : n0 ≤ h21.size := (Nat.le_trans Z13 (Nat.le_of_eq W21.size.symm))
  have O21 : Old Z n0 h21 := O13.wr W21 o_pg
  refine own_step (T' := T21) (g' := (mkF m 19 #[.val (.ref pg), .val (.ref r_3), .val (.int ix), .val (.int ct)] [])) st21 ?_
  refine own_step (T' := T21) (g' := (mkF m 20 #[.val (.ref pg), .val (.ref r_3), .val (.int ix), .val (.int ct)] [(.ref pg)])) (fun t k => XS.aloadN X21.here hx rfl (hb hby d13_19) rfl rfl k) ?_
  refine own_step (T' := T21) (g' := (mkF m 21 #[.val (.ref pg), .val (.ref r_3), .val (.int ix), .val (.int ct)] [(.int ct), (.ref pg)])) (fun t k => XS.iloadN X21.here hx rfl (hb hby d13_20) rfl k) ?_
  obtain ⟨T29, h29, X29, e29, W29, st29⟩ := putF X21 hx hZ hown (host := "") (Or.inl (hw _ (List.mem_of_getElem? (i := 177) rfl))) Via.refl e21 g25 g22 (Or.inr ⟨(hw _ (List.mem_of_getElem? (i := 178) rfl)), rfl, hnm⟩) (hw _ (List.mem_of_getElem? (i := 82) rfl)) (ty := .int) (by decide) rfl rfl (g := (mkF m 21 #[.val (.ref pg), .val (.ref r_3), .val (.int ix), .val (.int ct)] [(.int ct), (.ref pg)])) rfl rfl (hb hby d13_21)
  have g30 : Exa Z h29 pg "com/example/kempt_cursor/kemptcursor/Page" := g22.wr W29
  have g31 : Fld Z h29 pg "com/example/kempt_cursor/kemptcursor/Page" "items" "Ljava/util/List;" (.ref r_3) := g23.other W29 (Or.inr (slot_ne (Or.inr (hw _ (List.mem_of_getElem? (i := 174) rfl))) (Or.inr (hw _ (List.mem_of_getElem? (i := 178) rfl))) (by decide) (t := .object "java/util/List") (t' := .int) (by decide) (by decide)))
  have g32 : Fld Z h29 pg "com/example/kempt_cursor/kemptcursor/Page" "index" "I" (.int ix) := g24.other W29 (Or.inr (slot_ne (Or.inr (hw _ (List.mem_of_getElem? (i := 176) rfl))) (Or.inr (hw _ (List.mem_of_getElem? (i := 178) rfl))) (by decide) (t := .int) (t' := .int) (by decide) (by decide)))
  have g33 : Fld Z h29 pg "com/example/kempt_cursor/kemptcursor/Page" "count" "I" (.int ct) := g25.same W29
  have g34 : Exa Z h29 a0s "java/util/ArrayList" := g26.wr W29
  have g35 : Fld Z h29 a0s "java/util/ArrayList" "size" "I" (.int (0 : Int32)) := g27.other W29 (Or.inl n_a0s_pg)
  have K36 : Keep h0 h29 [pg] := K28.wr W29 (Or.inl (List.mem_of_getElem? (i := 0) rfl))
  have N29 := Fr.snoc X29 N21 o_pg
  have Z29 : n0 ≤ h29.size := (Nat.le_trans Z21 (Nat.le_of_eq W29.size.symm))
  have O29 : Old Z n0 h29 := O21.wr W29 o_pg
  refine own_step (T' := T29) (g' := (mkF m 24 #[.val (.ref pg), .val (.ref r_3), .val (.int ix), .val (.int ct)] [])) st29 ?_
  refine own_rV X29 hx hlk Bd.returns (hb hby d13_24) ?_ (by decide) (by decide)
  rw [e29]
  exact ⟨rfl, N29, K36, g30, g32⟩
def Q_pgi_1 (Z : State) (pg : Addr) (a0s : Addr) (a1 : Addr) (ka : ClassId) (y0 : Addr) (el : Addr) (em : Addr) (mr : Addr) (ix : Int32) (ct : Int32) (u1 : Value) (u2 : Value) (u3 : Value) (h0 : Heap) (n0 : Nat) (v : Option Value) (h : Heap) (L : List Loc) : Prop := v = none ∧ Fr n0 L ∧ Keep h0 h [pg] ∧ Exa Z h pg "com/example/kempt_cursor/kemptcursor/Page" ∧ Fld Z h pg "com/example/kempt_cursor/kemptcursor/Page" "index" "I" (.int ix)
theorem ef_rm_pgi_1 (m : MethodId) (x0 : Addr) (x1 : Addr) (x2 : Int32) (x3 : Int32) : entryFrame m #[(.ref x0), (.ref x1), (.int x2), (.int x3)] 4 = mkF m 0 #[.val (.ref x0), .val (.ref x1), .val (.int x2), .val (.int x3)] [] := by first | (simp [entryFrame, mkF, argsToLocals, Value.category]; done) | rfl | (simp [entryFrame, mkF, argsToLocals, Value.category] <;> rfl)
set_option maxRecDepth 65536 in
set_option maxHeartbeats 40000000 in
theorem rm_pgi_1 (l : Launch) (Z : State) (a0 : Array Value) (hw : ∀ d ∈ tables_1, d.before a0 Z = true) (ws : List Jvm.Cond) (pg : Addr) (a0s : Addr) (a1 : Addr) (ka : ClassId) (y0 : Addr) (el : Addr) (em : Addr) (mr : Addr) (ix : Int32) (ct : Int32) (u1 : Value) (u2 : Value) (u3 : Value) (h0 : Heap) (n0 : Nat) (Z0 : n0 ≤ h0.size) (F_0 : Exa Z h0 pg "com/example/kempt_cursor/kemptcursor/Page") (F_1 : Fld Z h0 pg "com/example/kempt_cursor/kemptcursor/Page" "items" "Ljava/util/List;" u1) (F_2 : Fld Z h0 pg "com/example/kempt_cursor/kemptcursor/Page" "index" "I" u2) (F_3 : Fld Z h0 pg "com/example/kempt_cursor/kemptcursor/Page" "count" "I" u3) (F_4 : Exa Z h0 a0s "java/util/ArrayList") (F_5 : Fld Z h0 a0s "java/util/ArrayList" "size" "I" (.int (1 : Int32))) (F_6 : Fld Z h0 a0s "java/util/ArrayList" "elementData" "[Ljava/lang/Object;" (.ref a1)) (F_7 : Arv Z h0 a1 ka (.object "java/lang/Object") (10 : Int32) [(.ref y0), .null, .null, .null, .null, .null, .null, .null, .null, .null] .null) (F_8 : Exa Z h0 a1 "[Ljava/lang/Object;") (F_9 : Exa Z h0 y0 "com/example/kempt_cursor/kemptcursor/Keyed") (o_pg : n0 ≤ pg) (n_a0s_pg : a0s ≠ pg) (n_a1_pg : a1 ≠ pg) (n_y0_pg : y0 ≠ pg) (O0 : Old Z n0 h0) (S_el : Sta Z Z.heap "java/util/ImmutableCollections" "EMPTY_LIST" "Ljava/util/ImmutableCollections$ListN;" (.ref el)) (S_em : Sta Z Z.heap "java/util/ImmutableCollections" "EMPTY" "Ljava/lang/Object;" (.ref em)) (M_o : own_Mir Z "[Ljava/lang/Object;" mr) :
    MetFree l (⟨"com/example/kempt_cursor/kemptcursor/Page", "<init>", "(Ljava/util/List;II)V"⟩ : MethodName) (head1 (Jvm.Cond.code (⟨"com/example/kempt_cursor/kemptcursor/Page", "<init>", "(Ljava/util/List;II)V"⟩ : MethodName) prog_18_method_1_code 4 none :: ws) ({ frames := 8, cells := 2, slots := 3, locals := 100 } : Room)) (fun a U => a = #[(.ref pg), (.ref a0s), (.int ix), (.int ct)] ∧ Z.Warmed39 U.vm ∧ U.heap = h0) (fun _ _ _ _ _ => True) (fun _ U o U' => ∃ v L, o = .returned v ∧ (Q_pgi_1 Z pg a0s a1 ka y0 el em mr ix ct u1 u2 u3 h0 n0) v U'.heap L ∧ FrameEnd U o U' L ({ frames := 8, cells := 2, slots := 3, locals := 100 } : Room).cells ({ frames := 8, cells := 2, slots := 3, locals := 100 } : Room).slots) := by
  refine MetFree.of_bodySF (plainFor_of_name pn_14) hisR ?_
  intro p e s m args below meth c s₁ Bd hml0 hP hK
  obtain ⟨rfl, hZ, hh⟩ := hP
  have hx := Bd.exec
  have hby := Bd.bytes
  have hlk : meth.locks = false := BodyLoose.notSynchronized Bd
  have hml : c.maxLocals = 4 := hml0
  have hown : s.vm.findClass "com/example/kempt_cursor/kemptcursor/Page" = some m.cls := findClass_of_methodNamed Bd.named
  have hnm := (name_of_methodNamed Bd.named Bd.method).1
  have X0 : Stand p l e ({ frames := 8, cells := 2, slots := 3, locals := 100 } : Room) s m #[(.ref pg), (.ref a0s), (.int ix), (.int ct)] below meth c s₁ [] 0 0 := Stand.of_body Bd
  have e0 : s₁.heap = h0 := by rw [← hh, Bd.state]; rfl
  have N0 := Fr.nil n0
  show own_Go p e below s (Q_pgi_1 Z pg a0s a1 ka y0 el em mr ix ct u1 u2 u3 h0 n0) ({ frames := 8, cells := 2, slots := 3, locals := 100 } : Room).cells ({ frames := 8, cells := 2, slots := 3, locals := 100 } : Room).slots s₁ (entryFrame m #[(.ref pg), (.ref a0s), (.int ix), (.int ct)] 4)
  refine own_cast (g' := (mkF m 0 #[.val (.ref pg), .val (.ref a0s), .val (.int ix), .val (.int ct)] [])) (ef_rm_pgi_1 m pg a0s ix ct) ?_
  have K0 : Keep h0 h0 [pg] := Keep.refl _ _
  refine own_step (T' := s₁) (g' := (mkF m 1 #[.val (.ref pg), .val (.ref a0s), .val (.int ix), .val (.int ct)] [(.ref pg)])) (fun t k => XS.aloadN X0.here hx rfl (hb hby d13_0) rfl rfl k) ?_
  obtain ⟨_, _, ⟨T2, L2, k2, n2⟩, -, X2, ⟨Lc2, hQ2, lq2, yq2, zq2⟩, st2⟩ := X0.specialBack hx (y := (⟨"java/lang/Record", "<init>", "()V"⟩ : MethodName)) rfl hown (mvT hZ (hw _ (List.mem_of_getElem? (i := 87) rfl))) (mvT hZ (hw _ (List.mem_of_getElem? (i := 41) rfl))) (mvT hZ (hw _ (List.mem_of_getElem? (i := 44) rfl))) (by decide) (backOf (W := 0) (rm_rec l Z a0 hw [] pg h0 n0 Z0 ) hZ (hw _ (List.mem_of_getElem? (i := 44) rfl)) (hw _ (List.mem_of_getElem? (i := 43) rfl)) (by decide) (by decide)) (g := (mkF m 1 #[.val (.ref pg), .val (.ref a0s), .val (.int ix), .val (.int ct)] [(.ref pg)])) rfl (by rw [hml]; rfl) (Steps.refl _) (a := pg) (argsL := []) (rest := []) (lenOf pd_0 rfl) rfl (by show 2 * 0 + _ ≤ _; exact Nat.le_of_eq rfl) (hb hby d13_1) (fun _ _ => ⟨rfl, e0, (by decide : 0 + 0 ≤ _), (by decide : 0 + 0 ≤ _)⟩)
  dsimp only [Pt.U, Pt.locs, Pt.cells, Pt.slots] at X2 lq2 yq2 zq2 st2 hQ2
  subst lq2 yq2 zq2
  obtain ⟨rfl, Nq2, eq1⟩ := hQ2
  have N2 := Fr.app N0 Nq2
  refine own_tr (T' := T2) (g' := (mkF m 4 #[.val (.ref pg), .val (.ref a0s), .val (.int ix), .val (.int ct)] [])) st2 ?_
  refine own_step (T' := T2) (g' := (mkF m 5 #[.val (.ref pg), .val (.ref a0s), .val (.int ix), .val (.int ct)] [(.ref a0s)])) (fun t k => XS.aloadN X2.here hx rfl (hb hby d13_4) rfl rfl k) ?_
  obtain ⟨_, _, ⟨T5, L5, k5, n5⟩, -, X5, ⟨Lc5, hQ5, lq5, yq5, zq5⟩, st5⟩ := Jvm.LawKit.callS X2 hx (y := (⟨"java/util/List", "copyOf", "(Ljava/util/Collection;)Ljava/util/List;"⟩ : MethodName)) hown (mvT hZ (hw _ (List.mem_of_getElem? (i := 88) rfl))) (mvT hZ (hw _ (List.mem_of_getElem? (i := 89) rfl))) (mvT hZ (hw _ (List.mem_of_getElem? (i := 90) rfl))) (mvT hZ (hw _ (List.mem_of_getElem? (i := 91) rfl))) (by decide) (backOf (W := 0) (rm_cpo_1 l Z a0 hw [] a0s a1 ka y0 el em mr h0 n0 Z0 F_4 F_5 F_6 F_7 F_8 F_9 O0 S_el S_em M_o) hZ (hw _ (List.mem_of_getElem? (i := 91) rfl)) (hw _ (List.mem_of_getElem? (i := 90) rfl)) (by decide) (by decide)) (g := (mkF m 5 #[.val (.ref pg), .val (.ref a0s), .val (.int ix), .val (.int ct)] [(.ref a0s)])) rfl (by rw [hml]; rfl) (argsL := [(.ref a0s)]) (rest := []) (lenOf pd_15 rfl) rfl (by show 2 * 0 + _ ≤ _; exact Nat.le_of_eq rfl) (hb hby d13_5) (fun _ _ => ⟨rfl, eq1, (by decide : 0 + 2 ≤ _), (by decide : 0 + 3 ≤ _)⟩)
  dsimp only [Pt.U, Pt.locs, Pt.cells, Pt.slots] at X5 lq5 yq5 zq5 st5 hQ5
  subst lq5 yq5 zq5
  obtain ⟨r_3, rfl, Nq5, K4⟩ := hQ5
  have N5 := Fr.app N2 Nq5
  have g6 : Exa Z T5.heap pg "com/example/kempt_cursor/kemptcursor/Page" := F_0.keep K4
  have g7 : Fld Z T5.heap pg "com/example/kempt_cursor/kemptcursor/Page" "items" "Ljava/util/List;" u1 := F_1.keep K4 nin0
  have g8 : Fld Z T5.heap pg "com/example/kempt_cursor/kemptcursor/Page" "index" "I" u2 := F_2.keep K4 nin0
  have g9 : Fld Z T5.heap pg "com/example/kempt_cursor/kemptcursor/Page" "count" "I" u3 := F_3.keep K4 nin0
  have g10 : Exa Z T5.heap a0s "java/util/ArrayList" := F_4.keep K4
  have g11 : Fld Z T5.heap a0s "java/util/ArrayList" "size" "I" (.int (1 : Int32)) := F_5.keep K4 nin0
  have g12 : Fld Z T5.heap a0s "java/util/ArrayList" "elementData" "[Ljava/lang/Object;" (.ref a1) := F_6.keep K4 nin0
  have g13 : Arv Z T5.heap a1 ka (.object "java/lang/Object") (10 : Int32) [(.ref y0), .null, .null, .null, .null, .null, .null, .null, .null, .null] .null := F_7.keep K4 nin0
  have g14 : Exa Z T5.heap a1 "[Ljava/lang/Object;" := F_8.keep K4
  have g15 : Exa Z T5.heap y0 "com/example/kempt_cursor/kemptcursor/Keyed" := F_9.keep K4
  have Z4 : n0 ≤ T5.heap.size := (Nat.le_trans Z0 K4.1)
  have O4 : Old Z n0 T5.heap := O0.keep K4 (all0 (P := fun x => n0 ≤ x))
  have K16 : Keep h0 T5.heap [pg] := K0.trans K4 (all0 (P := fun x => x ∈ [pg] ∨ h0.size ≤ x))
  refine own_step (T' := T5) (g' := (mkF m 8 #[.val (.ref pg), .val (.ref a0s), .val (.int ix), .val (.int ct)] [(.ref r_3)])) st5 ?_
  refine own_step (T' := T5) (g' := (mkF m 9 #[.val (.ref pg), .val (.ref r_3), .val (.int ix), .val (.int ct)] [])) (fun t k => XS.astoreN X5.here hx rfl (hb hby d13_8) rfl rfl (l' := #[.val (.ref pg), .val (.ref r_3), .val (.int ix), .val (.int ct)]) rfl k) ?_
  refine own_step (T' := T5) (g' := (mkF m 10 #[.val (.ref pg), .val (.ref r_3), .val (.int ix), .val (.int ct)] [(.ref pg)])) (fun t k => XS.aloadN X5.here hx rfl (hb hby d13_9) rfl rfl k) ?_
  refine own_step (T' := T5) (g' := (mkF m 11 #[.val (.ref pg), .val (.ref r_3), .val (.int ix), .val (.int ct)] [(.ref r_3), (.ref pg)])) (fun t k => XS.aloadN X5.here hx rfl (hb hby d13_10) rfl rfl k) ?_
  obtain ⟨T17, h17, X17, e17, W17, st17⟩ := putF X5 hx hZ hown (host := "") (Or.inl (hw _ (List.mem_of_getElem? (i := 173) rfl))) Via.refl rfl g7 g6 (Or.inr ⟨(hw _ (List.mem_of_getElem? (i := 174) rfl)), rfl, hnm⟩) (hw _ (List.mem_of_getElem? (i := 82) rfl)) (ty := .object "java/util/List") (by decide) rfl rfl (g := (mkF m 11 #[.val (.ref pg), .val (.ref r_3), .val (.int ix), .val (.int ct)] [(.ref r_3), (.ref pg)])) rfl rfl (hb hby d13_11)
  have g18 : Exa Z h17 pg "com/example/kempt_cursor/kemptcursor/Page" := g6.wr W17
  have g19 : Fld Z h17 pg "com/example/kempt_cursor/kemptcursor/Page" "items" "Ljava/util/List;" (.ref r_3) := g7.same W17
  have g20 : Fld Z h17 pg "com/example/kempt_cursor/kemptcursor/Page" "index" "I" u2 := g8.other W17 (Or.inr (slot_ne (Or.inr (hw _ (List.mem_of_getElem? (i := 176) rfl))) (Or.inr (hw _ (List.mem_of_getElem? (i := 174) rfl))) (by decide) (t := .int) (t' := .object "java/util/List") (by decide) (by decide)))
  have g21 : Fld Z h17 pg "com/example/kempt_cursor/kemptcursor/Page" "count" "I" u3 := g9.other W17 (Or.inr (slot_ne (Or.inr (hw _ (List.mem_of_getElem? (i := 178) rfl))) (Or.inr (hw _ (List.mem_of_getElem? (i := 174) rfl))) (by decide) (t := .int) (t' := .object "java/util/List") (by decide) (by decide)))
  have g22 : Exa Z h17 a0s "java/util/ArrayList" := g10.wr W17
  have g23 : Fld Z h17 a0s "java/util/ArrayList" "size" "I" (.int (1 : Int32)) := g11.other W17 (Or.inl n_a0s_pg)
  have g24 : Fld Z h17 a0s "java/util/ArrayList" "elementData" "[Ljava/lang/Object;" (.ref a1) := g12.other W17 (Or.inl n_a0s_pg)
  have g25 : Arv Z h17 a1 ka (.object "java/lang/Object") (10 : Int32) [(.ref y0), .null, .null, .null, .null, .null, .null, .null, .null, .null] .null := g13.other W17 n_a1_pg
  have g26 : Exa Z h17 a1 "[Ljava/lang/Object;" := g14.wr W17
  have g27 : Exa Z h17 y0 "com/example/kempt_cursor/kemptcursor/Keyed" := g15.wr W17
  have K28 : Keep h0 h17 [pg] := K16.wr W17 (Or.inl (List.mem_of_getElem? (i := 0) rfl))
  have N17 := Fr.snoc X17 N5 o_pg
  have Z17 : n0 ≤ h17.size := (Nat.le_trans Z4 (Nat.le_of_eq W17.size.symm))
  have O17 : Old Z n0 h17 := O4.wr W17 o_pg
  refine own_step (T' := T17) (g' := (mkF m 14 #[.val (.ref pg), .val (.ref r_3), .val (.int ix), .val (.int ct)] [])) st17 ?_
  refine own_step (T' := T17) (g' := (mkF m 15 #[.val (.ref pg), .val (.ref r_3), .val (.int ix), .val (.int ct)] [(.ref pg)])) (fun t k => XS.aloadN X17.here hx rfl (hb hby d13_14) rfl rfl k) ?_
  refine own_step (T' := T17) (g' := (mkF m 16 #[.val (.ref pg), .val (.ref r_3), .val (.int ix), .val (.int ct)] [(.int ix), (.ref pg)])) (fun t k => XS.iloadN X17.here hx rfl (hb hby d13_15) rfl k) ?_
  obtain ⟨T29, h29, X29, e29, W29, st29⟩ := putF X17 hx hZ hown (host := "") (Or.inl (hw _ (List.mem_of_getElem? (i := 175) rfl))) Via.refl e17 g20 g18 (Or.inr ⟨(hw _ (List.mem_of_getElem? (i := 176) rfl)), rfl, hnm⟩) (hw _ (List.mem_of_getElem? (i := 82) rfl)) (ty := .int) (by decide) rfl rfl (g := (mkF m 16 #[.val (.ref pg), .val (.ref r_3), .val (.int ix), .val (.int ct)] [(.int ix), (.ref pg)])) rfl rfl (hb hby d13_16)
  have g30 : Exa Z h29 pg "com/example/kempt_cursor/kemptcursor/Page" := g18.wr W29
  have g31 : Fld Z h29 pg "com/example/kempt_cursor/kemptcursor/Page" "items" "Ljava/util/List;" (.ref r_3) := g19.other W29 (Or.inr (slot_ne (Or.inr (hw _ (List.mem_of_getElem? (i := 174) rfl))) (Or.inr (hw _ (List.mem_of_getElem? (i := 176) rfl))) (by decide) (t := .object "java/util/List") (t' := .int) (by decide) (by decide)))
  have g32 : Fld Z h29 pg "com/example/kempt_cursor/kemptcursor/Page" "index" "I" (.int ix) := g20.same W29
  have g33 : Fld Z h29 pg "com/example/kempt_cursor/kemptcursor/Page" "count" "I" u3 := g21.other W29 (Or.inr (slot_ne (Or.inr (hw _ (List.mem_of_getElem? (i := 178) rfl))) (Or.inr (hw _ (List.mem_of_getElem? (i := 176) rfl))) (by decide) (t := .int) (t' := .int) (by decide) (by decide)))
  have g34 : Exa Z h29 a0s "java/util/ArrayList" := g22.wr W29
  have g35 : Fld Z h29 a0s "java/util/ArrayList" "size" "I" (.int (1 : Int32)) := g23.other W29 (Or.inl n_a0s_pg)
  have g36 : Fld Z h29 a0s "java/util/ArrayList" "elementData" "[Ljava/lang/Object;" (.ref a1) := g24.other W29 (Or.inl n_a0s_pg)
  have g37 : Arv Z h29 a1 ka (.object "java/lang/Object") (10 : Int32) [(.ref y0), .null, .null, .null, .null, .null, .null, .null, .null, .null] .null := g25.other W29 n_a1_pg
  have g38 : Exa Z h29 a1 "[Ljava/lang/Object;" := g26.wr W29
  have g39 : Exa Z h29 y0 "com/example/kempt_cursor/kemptcursor/Keyed" := g27.wr W29
  have K40 : Keep h0 h29 [pg] := K28.wr W29 (Or.inl (List.mem_of_getElem? (i := 0) rfl))
  have N29 := Fr.snoc X29 N17 o_pg
  have Z29 : n0 ≤ h29.size := (Nat.le_trans Z17 (Nat.le_of_eq W29.size.symm))
  have O29 : Old Z n0 h29 := O17.wr W29 o_pg
  refine own_step (T' := T29) (g' := (mkF m 19 #[.val (.ref pg), .val (.ref r_3), .val (.int ix), .val (.int ct)] [])) st29 ?_
  refine own_step (T' := T29) (g' := (mkF m 20 #[.val (.ref pg), .val (.ref r_3), .val (.int ix), .val (.int ct)] [(.ref pg)])) (fun t k => XS.aloadN X29.here hx rfl (hb hby d13_19) rfl rfl k) ?_
  refine own_step (T' := T29) (g' := (mkF m 21 #[.val (.ref pg), .val (.ref r_3), .val (.int ix), .val (.int ct)] [(.int ct), (.ref pg)])) (fun t k => XS.iloadN X29.here hx rfl (hb hby d13_20) rfl k) ?_
  obtain ⟨T41, h41, X41, e41, W41, st41⟩ := putF X29 hx hZ hown (host := "") (Or.inl (hw _ (List.mem_of_getElem? (i := 177) rfl))) Via.refl e29 g33 g30 (Or.inr ⟨(hw _ (List.mem_of_getElem? (i := 178) rfl)), rfl, hnm⟩) (hw _ (List.mem_of_getElem? (i := 82) rfl)) (ty := .int) (by decide) rfl rfl (g := (mkF m 21 #[.val (.ref pg), .val (.ref r_3), .val (.int ix), .val (.int ct)] [(.int ct), (.ref pg)])) rfl rfl (hb hby d13_21)
  have g42 : Exa Z h41 pg "com/example/kempt_cursor/kemptcursor/Page" := g30.wr W41
  have g43 : Fld Z h41 pg "com/example/kempt_cursor/kemptcursor/Page" "items" "Ljava/util/List;" (.ref r_3) := g31.other W41 (Or.inr (slot_ne (Or.inr (hw _ (List.mem_of_getElem? (i := 174) rfl))) (Or.inr (hw _ (List.mem_of_getElem? (i := 178) rfl))) (by decide) (t := .object "java/util/List") (t' := .int) (by decide) (by decide)))
  have g44 : Fld Z h41 pg "com/example/kempt_cursor/kemptcursor/Page" "index" "I" (.int ix) := g32.other W41 (Or.inr (slot_ne (Or.inr (hw _ (List.mem_of_getElem? (i := 176) rfl))) (Or.inr (hw _ (List.mem_of_getElem? (i := 178) rfl))) (by decide) (t := .int) (t' := .int) (by decide) (by decide)))
  have g45 : Fld Z h41 pg "com/example/kempt_cursor/kemptcursor/Page" "count" "I" (.int ct) := g33.same W41
  have g46 : Exa Z h41 a0s "java/util/ArrayList" := g34.wr W41
  have g47 : Fld Z h41 a0s "java/util/ArrayList" "size" "I" (.int (1 : Int32)) := g35.other W41 (Or.inl n_a0s_pg)
  have g48 : Fld Z h41 a0s "java/util/ArrayList" "elementData" "[Ljava/lang/Object;" (.ref a1) := g36.other W41 (Or.inl n_a0s_pg)
  have g49 : Arv Z h41 a1 ka (.object "java/lang/Object") (10 : Int32) [(.ref y0), .null, .null, .null, .null, .null, .null, .null, .null, .null] .null := g37.other W41 n_a1_pg
  have g50 : Exa Z h41 a1 "[Ljava/lang/Object;" := g38.wr W41
  have g51 : Exa Z h41 y0 "com/example/kempt_cursor/kemptcursor/Keyed" := g39.wr W41
  have K52 : Keep h0 h41 [pg] := K40.wr W41 (Or.inl (List.mem_of_getElem? (i := 0) rfl))
  have N41 := Fr.snoc X41 N29 o_pg
  have Z41 : n0 ≤ h41.size := (Nat.le_trans Z29 (Nat.le_of_eq W41.size.symm))
  have O41 : Old Z n0 h41 := O29.wr W41 o_pg
  refine own_step (T' := T41) (g' := (mkF m 24 #[.val (.ref pg), .val (.ref r_3), .val (.int ix), .val (.int ct)] [])) st41 ?_
  refine own_rV X41 hx hlk Bd.returns (hb hby d13_24) ?_ (by decide) (by decide)
  rw [e41]
  exact ⟨rfl, N41, K52, g42, g44⟩
def Q_pgi_2 (Z : State) (pg : Addr) (a0s : Addr) (a1 : Addr) (ka : ClassId) (y0 : Addr) (y1 : Addr) (el : Addr) (em : Addr) (mr : Addr) (ix : Int32) (ct : Int32) (u1 : Value) (u2 : Value) (u3 : Value) (h0 : Heap) (n0 : Nat) (v : Option Value) (h : Heap) (L : List Loc) : Prop := v = none ∧ Fr n0 L ∧ Keep h0 h [pg] ∧ Exa Z h pg "com/example/kempt_cursor/kemptcursor/Page" ∧ Fld Z h pg "com/example/kempt_cursor/kemptcursor/Page" "index" "I" (.int ix)
theorem ef_rm_pgi_2 (m : MethodId) (x0 : Addr) (x1 : Addr) (x2 : Int32) (x3 : Int32) : entryFrame m #[(.ref x0), (.ref x1), (.int x2), (.int x3)] 4 = mkF m 0 #[.val (.ref x0), .val (.ref x1), .val (.int x2), .val (.int x3)] [] := by first | (simp [entryFrame, mkF, argsToLocals, Value.category]; done) | rfl | (simp [entryFrame, mkF, argsToLocals, Value.category] <;> rfl)
set_option maxRecDepth 65536 in
set_option maxHeartbeats 40000000 in
theorem rm_pgi_2 (l : Launch) (Z : State) (a0 : Array Value) (hw : ∀ d ∈ tables_1, d.before a0 Z = true) (ws : List Jvm.Cond) (pg : Addr) (a0s : Addr) (a1 : Addr) (ka : ClassId) (y0 : Addr) (y1 : Addr) (el : Addr) (em : Addr) (mr : Addr) (ix : Int32) (ct : Int32) (u1 : Value) (u2 : Value) (u3 : Value) (h0 : Heap) (n0 : Nat) (Z0 : n0 ≤ h0.size) (F_0 : Exa Z h0 pg "com/example/kempt_cursor/kemptcursor/Page") (F_1 : Fld Z h0 pg "com/example/kempt_cursor/kemptcursor/Page" "items" "Ljava/util/List;" u1) (F_2 : Fld Z h0 pg "com/example/kempt_cursor/kemptcursor/Page" "index" "I" u2) (F_3 : Fld Z h0 pg "com/example/kempt_cursor/kemptcursor/Page" "count" "I" u3) (F_4 : Exa Z h0 a0s "java/util/ArrayList") (F_5 : Fld Z h0 a0s "java/util/ArrayList" "size" "I" (.int (2 : Int32))) (F_6 : Fld Z h0 a0s "java/util/ArrayList" "elementData" "[Ljava/lang/Object;" (.ref a1)) (F_7 : Arv Z h0 a1 ka (.object "java/lang/Object") (10 : Int32) [(.ref y0), (.ref y1), .null, .null, .null, .null, .null, .null, .null, .null] .null) (F_8 : Exa Z h0 a1 "[Ljava/lang/Object;") (F_9 : Exa Z h0 y0 "com/example/kempt_cursor/kemptcursor/Keyed") (F_10 : Exa Z h0 y1 "com/example/kempt_cursor/kemptcursor/Keyed") (o_pg : n0 ≤ pg) (n_a0s_pg : a0s ≠ pg) (n_a1_pg : a1 ≠ pg) (n_y0_pg : y0 ≠ pg) (n_y1_pg : y1 ≠ pg) (O0 : Old Z n0 h0) (S_el : Sta Z Z.heap "java/util/ImmutableCollections" "EMPTY_LIST" "Ljava/util/ImmutableCollections$ListN;" (.ref el)) (S_em : Sta Z Z.heap "java/util/ImmutableCollections" "EMPTY" "Ljava/lang/Object;" (.ref em)) (M_o : own_Mir Z "[Ljava/lang/Object;" mr) :
    MetFree l (⟨"com/example/kempt_cursor/kemptcursor/Page", "<init>", "(Ljava/util/List;II)V"⟩ : MethodName) (head1 (Jvm.Cond.code (⟨"com/example/kempt_cursor/kemptcursor/Page", "<init>", "(Ljava/util/List;II)V"⟩ : MethodName) prog_18_method_1_code 4 none :: ws) ({ frames := 8, cells := 2, slots := 4, locals := 101 } : Room)) (fun a U => a = #[(.ref pg), (.ref a0s), (.int ix), (.int ct)] ∧ Z.Warmed39 U.vm ∧ U.heap = h0) (fun _ _ _ _ _ => True) (fun _ U o U' => ∃ v L, o = .returned v ∧ (Q_pgi_2 Z pg a0s a1 ka y0 y1 el em mr ix ct u1 u2 u3 h0 n0) v U'.heap L ∧ FrameEnd U o U' L ({ frames := 8, cells := 2, slots := 4, locals := 101 } : Room).cells ({ frames := 8, cells := 2, slots := 4, locals := 101 } : Room).slots) := by
  refine MetFree.of_bodySF (plainFor_of_name pn_14) hisR ?_
  intro p e s m args below meth c s₁ Bd hml0 hP hK
  obtain ⟨rfl, hZ, hh⟩ := hP
  have hx := Bd.exec
  have hby := Bd.bytes
  have hlk : meth.locks = false := BodyLoose.notSynchronized Bd
  have hml : c.maxLocals = 4 := hml0
  have hown : s.vm.findClass "com/example/kempt_cursor/kemptcursor/Page" = some m.cls := findClass_of_methodNamed Bd.named
  have hnm := (name_of_methodNamed Bd.named Bd.method).1
  have X0 : Stand p l e ({ frames := 8, cells := 2, slots := 4, locals := 101 } : Room) s m #[(.ref pg), (.ref a0s), (.int ix), (.int ct)] below meth c s₁ [] 0 0 := Stand.of_body Bd
  have e0 : s₁.heap = h0 := by rw [← hh, Bd.state]; rfl
  have N0 := Fr.nil n0
  show own_Go p e below s (Q_pgi_2 Z pg a0s a1 ka y0 y1 el em mr ix ct u1 u2 u3 h0 n0) ({ frames := 8, cells := 2, slots := 4, locals := 101 } : Room).cells ({ frames := 8, cells := 2, slots := 4, locals := 101 } : Room).slots s₁ (entryFrame m #[(.ref pg), (.ref a0s), (.int ix), (.int ct)] 4)
  refine own_cast (g' := (mkF m 0 #[.val (.ref pg), .val (.ref a0s), .val (.int ix), .val (.int ct)] [])) (ef_rm_pgi_2 m pg a0s ix ct) ?_
  have K0 : Keep h0 h0 [pg] := Keep.refl _ _
  refine own_step (T' := s₁) (g' := (mkF m 1 #[.val (.ref pg), .val (.ref a0s), .val (.int ix), .val (.int ct)] [(.ref pg)])) (fun t k => XS.aloadN X0.here hx rfl (hb hby d13_0) rfl rfl k) ?_
  obtain ⟨_, _, ⟨T2, L2, k2, n2⟩, -, X2, ⟨Lc2, hQ2, lq2, yq2, zq2⟩, st2⟩ := X0.specialBack hx (y := (⟨"java/lang/Record", "<init>", "()V"⟩ : MethodName)) rfl hown (mvT hZ (hw _ (List.mem_of_getElem? (i := 87) rfl))) (mvT hZ (hw _ (List.mem_of_getElem? (i := 41) rfl))) (mvT hZ (hw _ (List.mem_of_getElem? (i := 44) rfl))) (by decide) (backOf (W := 0) (rm_rec l Z a0 hw [] pg h0 n0 Z0 ) hZ (hw _ (List.mem_of_getElem? (i := 44) rfl)) (hw _ (List.mem_of_getElem? (i := 43) rfl)) (by decide) (by decide)) (g := (mkF m 1 #[.val (.ref pg), .val (.ref a0s), .val (.int ix), .val (.int ct)] [(.ref pg)])) rfl (by rw [hml]; rfl) (Steps.refl _) (a := pg) (argsL := []) (rest := []) (lenOf pd_0 rfl) rfl (by show 2 * 0 + _ ≤ _; exact Nat.le_of_eq rfl) (hb hby d13_1) (fun _ _ => ⟨rfl, e0, (by decide : 0 + 0 ≤ _), (by decide : 0 + 0 ≤ _)⟩)
  dsimp only [Pt.U, Pt.locs, Pt.cells, Pt.slots] at X2 lq2 yq2 zq2 st2 hQ2
  subst lq2 yq2 zq2
  obtain ⟨rfl, Nq2, eq1⟩ := hQ2
  have N2 := Fr.app N0 Nq2
  refine own_tr (T' := T2) (g' := (mkF m 4 #[.val (.ref pg), .val (.ref a0s), .val (.int ix), .val (.int ct)] [])) st2 ?_
  refine own_step (T' := T2) (g' := (mkF m 5 #[.val (.ref pg), .val (.ref a0s), .val (.int ix), .val (.int ct)] [(.ref a0s)])) (fun t k => XS.aloadN X2.here hx rfl (hb hby d13_4) rfl rfl k) ?_
  obtain ⟨_, _, ⟨T5, L5, k5, n5⟩, -, X5, ⟨Lc5, hQ5, lq5, yq5, zq5⟩, st5⟩ := Jvm.LawKit.callS X2 hx (y := (⟨"java/util/List", "copyOf", "(Ljava/util/Collection;)Ljava/util/List;"⟩ : MethodName)) hown (mvT hZ (hw _ (List.mem_of_getElem? (i := 88) rfl))) (mvT hZ (hw _ (List.mem_of_getElem? (i := 89) rfl))) (mvT hZ (hw _ (List.mem_of_getElem? (i := 90) rfl))) (mvT hZ (hw _ (List.mem_of_getElem? (i := 91) rfl))) (by decide) (backOf (W := 0) (rm_cpo_2 l Z a0 hw [] a0s a1 ka y0 y1 el em mr h0 n0 Z0 F_4 F_5 F_6 F_7 F_8 F_9 F_10 O0 S_el S_em M_o) hZ (hw _ (List.mem_of_getElem? (i := 91) rfl)) (hw _ (List.mem_of_getElem? (i := 90) rfl)) (by decide) (by decide)) (g := (mkF m 5 #[.val (.ref pg), .val (.ref a0s), .val (.int ix), .val (.int ct)] [(.ref a0s)])) rfl (by rw [hml]; rfl) (argsL := [(.ref a0s)]) (rest := []) (lenOf pd_15 rfl) rfl (by show 2 * 0 + _ ≤ _; exact Nat.le_of_eq rfl) (hb hby d13_5) (fun _ _ => ⟨rfl, eq1, (by decide : 0 + 2 ≤ _), (by decide : 0 + 4 ≤ _)⟩)
  dsimp only [Pt.U, Pt.locs, Pt.cells, Pt.slots] at X5 lq5 yq5 zq5 st5 hQ5
  subst lq5 yq5 zq5
  obtain ⟨r_3, rfl, Nq5, K4⟩ := hQ5
  have N5 := Fr.app N2 Nq5
  have g6 : Exa Z T5.heap pg "com/example/kempt_cursor/kemptcursor/Page" := F_0.keep K4
  have g7 : Fld Z T5.heap pg "com/example/kempt_cursor/kemptcursor/Page" "items" "Ljava/util/List;" u1 := F_1.keep K4 nin0
  have g8 : Fld Z T5.heap pg "com/example/kempt_cursor/kemptcursor/Page" "index" "I" u2 := F_2.keep K4 nin0
  have g9 : Fld Z T5.heap pg "com/example/kempt_cursor/kemptcursor/Page" "count" "I" u3 := F_3.keep K4 nin0
  have g10 : Exa Z T5.heap a0s "java/util/ArrayList" := F_4.keep K4
  have g11 : Fld Z T5.heap a0s "java/util/ArrayList" "size" "I" (.int (2 : Int32)) := F_5.keep K4 nin0
  have g12 : Fld Z T5.heap a0s "java/util/ArrayList" "elementData" "[Ljava/lang/Object;" (.ref a1) := F_6.keep K4 nin0
  have g13 : Arv Z T5.heap a1 ka (.object "java/lang/Object") (10 : Int32) [(.ref y0), (.ref y1), .null, .null, .null, .null, .null, .null, .null, .null] .null := F_7.keep K4 nin0
  have g14 : Exa Z T5.heap a1 "[Ljava/lang/Object;" := F_8.keep K4
  have g15 : Exa Z T5.heap y0 "com/example/kempt_cursor/kemptcursor/Keyed" := F_9.keep K4
  have g16 : Exa Z T5.heap y1 "com/example/kempt_cursor/kemptcursor/Keyed" := F_10.keep K4
  have Z4 : n0 ≤ T5.heap.size := (Nat.le_trans Z0 K4.1)
  have O4 : Old Z n0 T5.heap := O0.keep K4 (all0 (P := fun x => n0 ≤ x))
  have K17 : Keep h0 T5.heap [pg] := K0.trans K4 (all0 (P := fun x => x ∈ [pg] ∨ h0.size ≤ x))
  refine own_step (T' := T5) (g' := (mkF m 8 #[.val (.ref pg), .val (.ref a0s), .val (.int ix), .val (.int ct)] [(.ref r_3)])) st5 ?_
  refine own_step (T' := T5) (g' := (mkF m 9 #[.val (.ref pg), .val (.ref r_3), .val (.int ix), .val (.int ct)] [])) (fun t k => XS.astoreN X5.here hx rfl (hb hby d13_8) rfl rfl (l' := #[.val (.ref pg), .val (.ref r_3), .val (.int ix), .val (.int ct)]) rfl k) ?_
  refine own_step (T' := T5) (g' := (mkF m 10 #[.val (.ref pg), .val (.ref r_3), .val (.int ix), .val (.int ct)] [(.ref pg)])) (fun t k => XS.aloadN X5.here hx rfl (hb hby d13_9) rfl rfl k) ?_
  refine own_step (T' := T5) (g' := (mkF m 11 #[.val (.ref pg), .val (.ref r_3), .val (.int ix), .val (.int ct)] [(.ref r_3), (.ref pg)])) (fun t k => XS.aloadN X5.here hx rfl (hb hby d13_10) rfl rfl k) ?_
  obtain ⟨T18, h18, X18, e18, W18, st18⟩ := putF X5 hx hZ hown (host := "") (Or.inl (hw _ (List.mem_of_getElem? (i := 173) rfl))) Via.refl rfl g7 g6 (Or.inr ⟨(hw _ (List.mem_of_getElem? (i := 174) rfl)), rfl, hnm⟩) (hw _ (List.mem_of_getElem? (i := 82) rfl)) (ty := .object "java/util/List") (by decide) rfl rfl (g := (mkF m 11 #[.val (.ref pg), .val (.ref r_3), .val (.int ix), .val (.int ct)] [(.ref r_3), (.ref pg)])) rfl rfl (hb hby d13_11)
  have g19 : Exa Z h18 pg "com/example/kempt_cursor/kemptcursor/Page" := g6.wr W18
  have g20 : Fld Z h18 pg "com/example/kempt_cursor/kemptcursor/Page" "items" "Ljava/util/List;" (.ref r_3) := g7.same W18
  have g21 : Fld Z h18 pg "com/example/kempt_cursor/kemptcursor/Page" "index" "I" u2 := g8.other W18 (Or.inr (slot_ne (Or.inr (hw _ (List.mem_of_getElem? (i := 176) rfl))) (Or.inr (hw _ (List.mem_of_getElem? (i := 174) rfl))) (by decide) (t := .int) (t' := .object "java/util/List") (by decide) (by decide)))
  have g22 : Fld Z h18 pg "com/example/kempt_cursor/kemptcursor/Page" "count" "I" u3 := g9.other W18 (Or.inr (slot_ne (Or.inr (hw _ (List.mem_of_getElem? (i := 178) rfl))) (Or.inr (hw _ (List.mem_of_getElem? (i := 174) rfl))) (by decide) (t := .int) (t' := .object "java/util/List") (by decide) (by decide)))
  have g23 : Exa Z h18 a0s "java/util/ArrayList" := g10.wr W18
  have g24 : Fld Z h18 a0s "java/util/ArrayList" "size" "I" (.int (2 : Int32)) := g11.other W18 (Or.inl n_a0s_pg)
  have g25 : Fld Z h18 a0s "java/util/ArrayList" "elementData" "[Ljava/lang/Object;" (.ref a1) := g12.other W18 (Or.inl n_a0s_pg)
  have g26 : Arv Z h18 a1 ka (.object "java/lang/Object") (10 : Int32) [(.ref y0), (.ref y1), .null, .null, .null, .null, .null, .null, .null, .null] .null := g13.other W18 n_a1_pg
  have g27 : Exa Z h18 a1 "[Ljava/lang/Object;" := g14.wr W18
  have g28 : Exa Z h18 y0 "com/example/kempt_cursor/kemptcursor/Keyed" := g15.wr W18
  have g29 : Exa Z h18 y1 "com/example/kempt_cursor/kemptcursor/Keyed" := g16.wr W18
  have K30 : Keep h0 h18 [pg] := K17.wr W18 (Or.inl (List.mem_of_getElem? (i := 0) rfl))
  have N18 := Fr.snoc X18 N5 o_pg
  have Z18 : n0 ≤ h18.size := (Nat.le_trans Z4 (Nat.le_of_eq W18.size.symm))
  have O18 : Old Z n0 h18 := O4.wr W18 o_pg
  refine own_step (T' := T18) (g' := (mkF m 14 #[.val (.ref pg), .val (.ref r_3), .val (.int ix), .val (.int ct)] [])) st18 ?_
  refine own_step (T' := T18) (g' := (mkF m 15 #[.val (.ref pg), .val (.ref r_3), .val (.int ix), .val (.int ct)] [(.ref pg)])) (fun t k => XS.aloadN X18.here hx rfl (hb hby d13_14) rfl rfl k) ?_
  refine own_step (T' := T18) (g' := (mkF m 16 #[.val (.ref pg), .val (.ref r_3), .val (.int ix), .val (.int ct)] [(.int ix), (.ref pg)])) (fun t k => XS.iloadN X18.here hx rfl (hb hby d13_15) rfl k) ?_
  obtain ⟨T31, h31, X31, e31, W31, st31⟩ := putF X18 hx hZ hown (host := "") (Or.inl (hw _ (List.mem_of_getElem? (i := 175) rfl))) Via.refl e18 g21 g19 (Or.inr ⟨(hw _ (List.mem_of_getElem? (i := 176) rfl)), rfl, hnm⟩) (hw _ (List.mem_of_getElem? (i := 82) rfl)) (ty := .int) (by decide) rfl rfl (g := (mkF m 16 #[.val (.ref pg), .val (.ref r_3), .val (.int ix), .val (.int ct)] [(.int ix), (.ref pg)])) rfl rfl (hb hby d13_16)
  have g32 : Exa Z h31 pg "com/example/kempt_cursor/kemptcursor/Page" := g19.wr W31
  have g33 : Fld Z h31 pg "com/example/kempt_cursor/kemptcursor/Page" "items" "Ljava/util/List;" (.ref r_3) := g20.other W31 (Or.inr (slot_ne (Or.inr (hw _ (List.mem_of_getElem? (i := 174) rfl))) (Or.inr (hw _ (List.mem_of_getElem? (i := 176) rfl))) (by decide) (t := .object "java/util/List") (t' := .int) (by decide) (by decide)))
  have g34 : Fld Z h31 pg "com/example/kempt_cursor/kemptcursor/Page" "index" "I" (.int ix) := g21.same W31
  have g35 : Fld Z h31 pg "com/example/kempt_cursor/kemptcursor/Page" "count" "I" u3 := g22.other W31 (Or.inr (slot_ne (Or.inr (hw _ (List.mem_of_getElem? (i := 178) rfl))) (Or.inr (hw _ (List.mem_of_getElem? (i := 176) rfl))) (by decide) (t := .int) (t' := .int) (by decide) (by decide)))
  have g36 : Exa Z h31 a0s "java/util/ArrayList" := g23.wr W31
  have g37 : Fld Z h31 a0s "java/util/ArrayList" "size" "I" (.int (2 : Int32)) := g24.other W31 (Or.inl n_a0s_pg)
  have g38 : Fld Z h31 a0s "java/util/ArrayList" "elementData" "[Ljava/lang/Object;" (.ref a1) := g25.other W31 (Or.inl n_a0s_pg)
  have g39 : Arv Z h31 a1 ka (.object "java/lang/Object") (10 : Int32) [(.ref y0), (.ref y1), .null, .null, .null, .null, .null, .null, .null, .null] .null := g26.other W31 n_a1_pg
  have g40 : Exa Z h31 a1 "[Ljava/lang/Object;" := g27.wr W31
  have g41 : Exa Z h31 y0 "com/example/kempt_cursor/kemptcursor/Keyed" := g28.wr W31
  have g42 : Exa Z h31 y1 "com/example/kempt_cursor/kemptcursor/Keyed" := g29.wr W31
  have K43 : Keep h0 h31 [pg] := K30.wr W31 (Or.inl (List.mem_of_getElem? (i := 0) rfl))
  have N31 := Fr.snoc X31 N18 o_pg
  have Z31 : n0 ≤ h31.size := (Nat.le_trans Z18 (Nat.le_of_eq W31.size.symm))
  have O31 : Old Z n0 h31 := O18.wr W31 o_pg
  refine own_step (T' := T31) (g' := (mkF m 19 #[.val (.ref pg), .val (.ref r_3), .val (.int ix), .val (.int ct)] [])) st31 ?_
  refine own_step (T' := T31) (g' := (mkF m 20 #[.val (.ref pg), .val (.ref r_3), .val (.int ix), .val (.int ct)] [(.ref pg)])) (fun t k => XS.aloadN X31.here hx rfl (hb hby d13_19) rfl rfl k) ?_
  refine own_step (T' := T31) (g' := (mkF m 21 #[.val (.ref pg), .val (.ref r_3), .val (.int ix), .val (.int ct)] [(.int ct), (.ref pg)])) (fun t k => XS.iloadN X31.here hx rfl (hb hby d13_20) rfl k) ?_
  obtain ⟨T44, h44, X44, e44, W44, st44⟩ := putF X31 hx hZ hown (host := "") (Or.inl (hw _ (List.mem_of_getElem? (i := 177) rfl))) Via.refl e31 g35 g32 (Or.inr ⟨(hw _ (List.mem_of_getElem? (i := 178) rfl)), rfl, hnm⟩) (hw _ (List.mem_of_getElem? (i := 82) rfl)) (ty := .int) (by decide) rfl rfl (g := (mkF m 21 #[.val (.ref pg), .val (.ref r_3), .val (.int ix), .val (.int ct)] [(.int ct), (.ref pg)])) rfl rfl (hb hby d13_21)
  have g45 : Exa Z h44 pg "com/example/kempt_cursor/kemptcursor/Page" := g32.wr W44
  have g46 : Fld Z h44 pg "com/example/kempt_cursor/kemptcursor/Page" "items" "Ljava/util/List;" (.ref r_3) := g33.other W44 (Or.inr (slot_ne (Or.inr (hw _ (List.mem_of_getElem? (i := 174) rfl))) (Or.inr (hw _ (List.mem_of_getElem? (i := 178) rfl))) (by decide) (t := .object "java/util/List") (t' := .int) (by decide) (by decide)))
  have g47 : Fld Z h44 pg "com/example/kempt_cursor/kemptcursor/Page" "index" "I" (.int ix) := g34.other W44 (Or.inr (slot_ne (Or.inr (hw _ (List.mem_of_getElem? (i := 176) rfl))) (Or.inr (hw _ (List.mem_of_getElem? (i := 178) rfl))) (by decide) (t := .int) (t' := .int) (by decide) (by decide)))
  have g48 : Fld Z h44 pg "com/example/kempt_cursor/kemptcursor/Page" "count" "I" (.int ct) := g35.same W44
  have g49 : Exa Z h44 a0s "java/util/ArrayList" := g36.wr W44
  have g50 : Fld Z h44 a0s "java/util/ArrayList" "size" "I" (.int (2 : Int32)) := g37.other W44 (Or.inl n_a0s_pg)
  have g51 : Fld Z h44 a0s "java/util/ArrayList" "elementData" "[Ljava/lang/Object;" (.ref a1) := g38.other W44 (Or.inl n_a0s_pg)
  have g52 : Arv Z h44 a1 ka (.object "java/lang/Object") (10 : Int32) [(.ref y0), (.ref y1), .null, .null, .null, .null, .null, .null, .null, .null] .null := g39.other W44 n_a1_pg
  have g53 : Exa Z h44 a1 "[Ljava/lang/Object;" := g40.wr W44
  have g54 : Exa Z h44 y0 "com/example/kempt_cursor/kemptcursor/Keyed" := g41.wr W44
  have g55 : Exa Z h44 y1 "com/example/kempt_cursor/kemptcursor/Keyed" := g42.wr W44
  have K56 : Keep h0 h44 [pg] := K43.wr W44 (Or.inl (List.mem_of_getElem? (i := 0) rfl))
  have N44 := Fr.snoc X44 N31 o_pg
  have Z44 : n0 ≤ h44.size := (Nat.le_trans Z31 (Nat.le_of_eq W44.size.symm))
  have O44 : Old Z n0 h44 := O31.wr W44 o_pg
  refine own_step (T' := T44) (g' := (mkF m 24 #[.val (.ref pg), .val (.ref r_3), .val (.int ix), .val (.int ct)] [])) st44 ?_
  refine own_rV X44 hx hlk Bd.returns (hb hby d13_24) ?_ (by decide) (by decide)
  rw [e44]
  exact ⟨rfl, N44, K56, g45, g47⟩
def Q_pgi_3 (Z : State) (pg : Addr) (a0s : Addr) (a1 : Addr) (ka : ClassId) (y0 : Addr) (y1 : Addr) (y2 : Addr) (el : Addr) (em : Addr) (mr : Addr) (ix : Int32) (ct : Int32) (u1 : Value) (u2 : Value) (u3 : Value) (h0 : Heap) (n0 : Nat) (v : Option Value) (h : Heap) (L : List Loc) : Prop := v = none ∧ Fr n0 L ∧ Keep h0 h [pg] ∧ Exa Z h pg "com/example/kempt_cursor/kemptcursor/Page" ∧ Fld Z h pg "com/example/kempt_cursor/kemptcursor/Page" "index" "I" (.int ix)
theorem ef_rm_pgi_3 (m : MethodId) (x0 : Addr) (x1 : Addr) (x2 : Int32) (x3 : Int32) : entryFrame m #[(.ref x0), (.ref x1), (.int x2), (.int x3)] 4 = mkF m 0 #[.val (.ref x0), .val (.ref x1), .val (.int x2), .val (.int x3)] [] := by first | (simp [entryFrame, mkF, argsToLocals, Value.category]; done) | rfl | (simp [entryFrame, mkF, argsToLocals, Value.category] <;> rfl)
set_option maxRecDepth 65536 in
set_option maxHeartbeats 40000000 in
theorem rm_pgi_3 (l : Launch) (Z : State) (a0 : Array Value) (hw : ∀ d ∈ tables_1, d.before a0 Z = true) (ws : List Jvm.Cond) (pg : Addr) (a0s : Addr) (a1 : Addr) (ka : ClassId) (y0 : Addr) (y1 : Addr) (y2 : Addr) (el : Addr) (em : Addr) (mr : Addr) (ix : Int32) (ct : Int32) (u1 : Value) (u2 : Value) (u3 : Value) (h0 : Heap) (n0 : Nat) (Z0 : n0 ≤ h0.size) (F_0 : Exa Z h0 pg "com/example/kempt_cursor/kemptcursor/Page") (F_1 : Fld Z h0 pg "com/example/kempt_cursor/kemptcursor/Page" "items" "Ljava/util/List;" u1) (F_2 : Fld Z h0 pg "com/example/kempt_cursor/kemptcursor/Page" "index" "I" u2) (F_3 : Fld Z h0 pg "com/example/kempt_cursor/kemptcursor/Page" "count" "I" u3) (F_4 : Exa Z h0 a0s "java/util/ArrayList") (F_5 : Fld Z h0 a0s "java/util/ArrayList" "size" "I" (.int (3 : Int32))) (F_6 : Fld Z h0 a0s "java/util/ArrayList" "elementData" "[Ljava/lang/Object;" (.ref a1)) (F_7 : Arv Z h0 a1 ka (.object "java/lang/Object") (10 : Int32) [(.ref y0), (.ref y1), (.ref y2), .null, .null, .null, .null, .null, .null, .null] .null) (F_8 : Exa Z h0 a1 "[Ljava/lang/Object;") (F_9 : Exa Z h0 y0 "com/example/kempt_cursor/kemptcursor/Keyed") (F_10 : Exa Z h0 y1 "com/example/kempt_cursor/kemptcursor/Keyed") (F_11 : Exa Z h0 y2 "com/example/kempt_cursor/kemptcursor/Keyed") (o_pg : n0 ≤ pg) (n_a0s_pg : a0s ≠ pg) (n_a1_pg : a1 ≠ pg) (n_y0_pg : y0 ≠ pg) (n_y1_pg : y1 ≠ pg) (n_y2_pg : y2 ≠ pg) (O0 : Old Z n0 h0) (S_el : Sta Z Z.heap "java/util/ImmutableCollections" "EMPTY_LIST" "Ljava/util/ImmutableCollections$ListN;" (.ref el)) (S_em : Sta Z Z.heap "java/util/ImmutableCollections" "EMPTY" "Ljava/lang/Object;" (.ref em)) (M_o : own_Mir Z "[Ljava/lang/Object;" mr) :
    MetFree l (⟨"com/example/kempt_cursor/kemptcursor/Page", "<init>", "(Ljava/util/List;II)V"⟩ : MethodName) (head1 (Jvm.Cond.code (⟨"com/example/kempt_cursor/kemptcursor/Page", "<init>", "(Ljava/util/List;II)V"⟩ : MethodName) prog_18_method_1_code 4 none :: ws) ({ frames := 9, cells := 3, slots := 8, locals := 115 } : Room)) (fun a U => a = #[(.ref pg), (.ref a0s), (.int ix), (.int ct)] ∧ Z.Warmed39 U.vm ∧ U.heap = h0) (fun _ _ _ _ _ => True) (fun _ U o U' => ∃ v L, o = .returned v ∧ (Q_pgi_3 Z pg a0s a1 ka y0 y1 y2 el em mr ix ct u1 u2 u3 h0 n0) v U'.heap L ∧ FrameEnd U o U' L ({ frames := 9, cells := 3, slots := 8, locals := 115 } : Room).cells ({ frames := 9, cells := 3, slots := 8, locals := 115 } : Room).slots) := by
  refine MetFree.of_bodySF (plainFor_of_name pn_14) hisR ?_
  intro p e s m args below meth c s₁ Bd hml0 hP hK
  obtain ⟨rfl, hZ, hh⟩ := hP
  have hx := Bd.exec
  have hby := Bd.bytes
  have hlk : meth.locks = false := BodyLoose.notSynchronized Bd
  have hml : c.maxLocals = 4 := hml0
  have hown : s.vm.findClass "com/example/kempt_cursor/kemptcursor/Page" = some m.cls := findClass_of_methodNamed Bd.named
  have hnm := (name_of_methodNamed Bd.named Bd.method).1
  have X0 : Stand p l e ({ frames := 9, cells := 3, slots := 8, locals := 115 } : Room) s m #[(.ref pg), (.ref a0s), (.int ix), (.int ct)] below meth c s₁ [] 0 0 := Stand.of_body Bd
  have e0 : s₁.heap = h0 := by rw [← hh, Bd.state]; rfl
  have N0 := Fr.nil n0
  show own_Go p e below s (Q_pgi_3 Z pg a0s a1 ka y0 y1 y2 el em mr ix ct u1 u2 u3 h0 n0) ({ frames := 9, cells := 3, slots := 8, locals := 115 } : Room).cells ({ frames := 9, cells := 3, slots := 8, locals := 115 } : Room).slots s₁ (entryFrame m #[(.ref pg), (.ref a0s), (.int ix), (.int ct)] 4)
  refine own_cast (g' := (mkF m 0 #[.val (.ref pg), .val (.ref a0s), .val (.int ix), .val (.int ct)] [])) (ef_rm_pgi_3 m pg a0s ix ct) ?_
  have K0 : Keep h0 h0 [pg] := Keep.refl _ _
  refine own_step (T' := s₁) (g' := (mkF m 1 #[.val (.ref pg), .val (.ref a0s), .val (.int ix), .val (.int ct)] [(.ref pg)])) (fun t k => XS.aloadN X0.here hx rfl (hb hby d13_0) rfl rfl k) ?_
  obtain ⟨_, _, ⟨T2, L2, k2, n2⟩, -, X2, ⟨Lc2, hQ2, lq2, yq2, zq2⟩, st2⟩ := X0.specialBack hx (y := (⟨"java/lang/Record", "<init>", "()V"⟩ : MethodName)) rfl hown (mvT hZ (hw _ (List.mem_of_getElem? (i := 87) rfl))) (mvT hZ (hw _ (List.mem_of_getElem? (i := 41) rfl))) (mvT hZ (hw _ (List.mem_of_getElem? (i := 44) rfl))) (by decide) (backOf (W := 0) (rm_rec l Z a0 hw [] pg h0 n0 Z0 ) hZ (hw _ (List.mem_of_getElem? (i := 44) rfl)) (hw _ (List.mem_of_getElem? (i := 43) rfl)) (by decide) (by decide)) (g := (mkF m 1 #[.val (.ref pg), .val (.ref a0s), .val (.int ix), .val (.int ct)] [(.ref pg)])) rfl (by rw [hml]; rfl) (Steps.refl _) (a := pg) (argsL := []) (rest := []) (lenOf pd_0 rfl) rfl (by show 2 * 0 + _ ≤ _; exact Nat.le_of_eq rfl) (hb hby d13_1) (fun _ _ => ⟨rfl, e0, (by decide : 0 + 0 ≤ _), (by decide : 0 + 0 ≤ _)⟩)
  dsimp only [Pt.U, Pt.locs, Pt.cells, Pt.slots] at X2 lq2 yq2 zq2 st2 hQ2
  subst lq2 yq2 zq2
  obtain ⟨rfl, Nq2, eq1⟩ := hQ2
  have N2 := Fr.app N0 Nq2
  refine own_tr (T' := T2) (g' := (mkF m 4 #[.val (.ref pg), .val (.ref a0s), .val (.int ix), .val (.int ct)] [])) st2 ?_
  refine own_step (T' := T2) (g' := (mkF m 5 #[.val (.ref pg), .val (.ref a0s), .val (.int ix), .val (.int ct)] [(.ref a0s)])) (fun t k => XS.aloadN X2.here hx rfl (hb hby d13_4) rfl rfl k) ?_
  obtain ⟨_, _, ⟨T5, L5, k5, n5⟩, -, X5, ⟨Lc5, hQ5, lq5, yq5, zq5⟩, st5⟩ := Jvm.LawKit.callS X2 hx (y := (⟨"java/util/List", "copyOf", "(Ljava/util/Collection;)Ljava/util/List;"⟩ : MethodName)) hown (mvT hZ (hw _ (List.mem_of_getElem? (i := 88) rfl))) (mvT hZ (hw _ (List.mem_of_getElem? (i := 89) rfl))) (mvT hZ (hw _ (List.mem_of_getElem? (i := 90) rfl))) (mvT hZ (hw _ (List.mem_of_getElem? (i := 91) rfl))) (by decide) (backOf (W := 0) (rm_cpo_3 l Z a0 hw [] a0s a1 ka y0 y1 y2 el em mr h0 n0 Z0 F_4 F_5 F_6 F_7 F_8 F_9 F_10 F_11 O0 S_el S_em M_o) hZ (hw _ (List.mem_of_getElem? (i := 91) rfl)) (hw _ (List.mem_of_getElem? (i := 90) rfl)) (by decide) (by decide)) (g := (mkF m 5 #[.val (.ref pg), .val (.ref a0s), .val (.int ix), .val (.int ct)] [(.ref a0s)])) rfl (by rw [hml]; rfl) (argsL := [(.ref a0s)]) (rest := []) (lenOf pd_15 rfl) rfl (by show 2 * 0 + _ ≤ _; exact Nat.le_of_eq rfl) (hb hby d13_5) (fun _ _ => ⟨rfl, eq1, (by decide : 0 + 3 ≤ _), (by decide : 0 + 8 ≤ _)⟩)
  dsimp only [Pt.U, Pt.locs, Pt.cells, Pt.slots] at X5 lq5 yq5 zq5 st5 hQ5
  subst lq5 yq5 zq5
  obtain ⟨r_3, rfl, Nq5, K4⟩ := hQ5
  have N5 := Fr.app N2 Nq5
  have g6 : Exa Z T5.heap pg "com/example/kempt_cursor/kemptcursor/Page" := F_0.keep K4
  have g7 : Fld Z T5.heap pg "com/example/kempt_cursor/kemptcursor/Page" "items" "Ljava/util/List;" u1 := F_1.keep K4 nin0
  have g8 : Fld Z T5.heap pg "com/example/kempt_cursor/kemptcursor/Page" "index" "I" u2 := F_2.keep K4 nin0
  have g9 : Fld Z T5.heap pg "com/example/kempt_cursor/kemptcursor/Page" "count" "I" u3 := F_3.keep K4 nin0
  have g10 : Exa Z T5.heap a0s "java/util/ArrayList" := F_4.keep K4
  have g11 : Fld Z T5.heap a0s "java/util/ArrayList" "size" "I" (.int (3 : Int32)) := F_5.keep K4 nin0
  have g12 : Fld Z T5.heap a0s "java/util/ArrayList" "elementData" "[Ljava/lang/Object;" (.ref a1) := F_6.keep K4 nin0
  have g13 : Arv Z T5.heap a1 ka (.object "java/lang/Object") (10 : Int32) [(.ref y0), (.ref y1), (.ref y2), .null, .null, .null, .null, .null, .null, .null] .null := F_7.keep K4 nin0
  have g14 : Exa Z T5.heap a1 "[Ljava/lang/Object;" := F_8.keep K4
  have g15 : Exa Z T5.heap y0 "com/example/kempt_cursor/kemptcursor/Keyed" := F_9.keep K4
  have g16 : Exa Z T5.heap y1 "com/example/kempt_cursor/kemptcursor/Keyed" := F_10.keep K4
  have g17 : Exa Z T5.heap y2 "com/example/kempt_cursor/kemptcursor/Keyed" := F_11.keep K4
  have Z4 : n0 ≤ T5.heap.size := (Nat.le_trans Z0 K4.1)
  have O4 : Old Z n0 T5.heap := O0.keep K4 (all0 (P := fun x => n0 ≤ x))
  have K18 : Keep h0 T5.heap [pg] := K0.trans K4 (all0 (P := fun x => x ∈ [pg] ∨ h0.size ≤ x))
  refine own_step (T' := T5) (g' := (mkF m 8 #[.val (.ref pg), .val (.ref a0s), .val (.int ix), .val (.int ct)] [(.ref r_3)])) st5 ?_
  refine own_step (T' := T5) (g' := (mkF m 9 #[.val (.ref pg), .val (.ref r_3), .val (.int ix), .val (.int ct)] [])) (fun t k => XS.astoreN X5.here hx rfl (hb hby d13_8) rfl rfl (l' := #[.val (.ref pg), .val (.ref r_3), .val (.int ix), .val (.int ct)]) rfl k) ?_
  refine own_step (T' := T5) (g' := (mkF m 10 #[.val (.ref pg), .val (.ref r_3), .val (.int ix), .val (.int ct)] [(.ref pg)])) (fun t k => XS.aloadN X5.here hx rfl (hb hby d13_9) rfl rfl k) ?_
  refine own_step (T' := T5) (g' := (mkF m 11 #[.val (.ref pg), .val (.ref r_3), .val (.int ix), .val (.int ct)] [(.ref r_3), (.ref pg)])) (fun t k => XS.aloadN X5.here hx rfl (hb hby d13_10) rfl rfl k) ?_
  obtain ⟨T19, h19, X19, e19, W19, st19⟩ := putF X5 hx hZ hown (host := "") (Or.inl (hw _ (List.mem_of_getElem? (i := 173) rfl))) Via.refl rfl g7 g6 (Or.inr ⟨(hw _ (List.mem_of_getElem? (i := 174) rfl)), rfl, hnm⟩) (hw _ (List.mem_of_getElem? (i := 82) rfl)) (ty := .object "java/util/List") (by decide) rfl rfl (g := (mkF m 11 #[.val (.ref pg), .val (.ref r_3), .val (.int ix), .val (.int ct)] [(.ref r_3), (.ref pg)])) rfl rfl (hb hby d13_11)
  have g20 : Exa Z h19 pg "com/example/kempt_cursor/kemptcursor/Page" := g6.wr W19
  have g21 : Fld Z h19 pg "com/example/kempt_cursor/kemptcursor/Page" "items" "Ljava/util/List;" (.ref r_3) := g7.same W19
  have g22 : Fld Z h19 pg "com/example/kempt_cursor/kemptcursor/Page" "index" "I" u2 := g8.other W19 (Or.inr (slot_ne (Or.inr (hw _ (List.mem_of_getElem? (i := 176) rfl))) (Or.inr (hw _ (List.mem_of_getElem? (i := 174) rfl))) (by decide) (t := .int) (t' := .object "java/util/List") (by decide) (by decide)))
  have g23 : Fld Z h19 pg "com/example/kempt_cursor/kemptcursor/Page" "count" "I" u3 := g9.other W19 (Or.inr (slot_ne (Or.inr (hw _ (List.mem_of_getElem? (i := 178) rfl))) (Or.inr (hw _ (List.mem_of_getElem? (i := 174) rfl))) (by decide) (t := .int) (t' := .object "java/util/List") (by decide) (by decide)))
  have g24 : Exa Z h19 a0s "java/util/ArrayList" := g10.wr W19
  have g25 : Fld Z h19 a0s "java/util/ArrayList" "size" "I" (.int (3 : Int32)) := g11.other W19 (Or.inl n_a0s_pg)
  have g26 : Fld Z h19 a0s "java/util/ArrayList" "elementData" "[Ljava/lang/Object;" (.ref a1) := g12.other W19 (Or.inl n_a0s_pg)
  have g27 : Arv Z h19 a1 ka (.object "java/lang/Object") (10 : Int32) [(.ref y0), (.ref y1), (.ref y2), .null, .null, .null, .null, .null, .null, .null] .null := g13.other W19 n_a1_pg
  have g28 : Exa Z h19 a1 "[Ljava/lang/Object;" := g14.wr W19
  have g29 : Exa Z h19 y0 "com/example/kempt_cursor/kemptcursor/Keyed" := g15.wr W19
  have g30 : Exa Z h19 y1 "com/example/kempt_cursor/kemptcursor/Keyed" := g16.wr W19
  have g31 : Exa Z h19 y2 "com/example/kempt_cursor/kemptcursor/Keyed" := g17.wr W19
  have K32 : Keep h0 h19 [pg] := K18.wr W19 (Or.inl (List.mem_of_getElem? (i := 0) rfl))
  have N19 := Fr.snoc X19 N5 o_pg
  have Z19 : n0 ≤ h19.size := (Nat.le_trans Z4 (Nat.le_of_eq W19.size.symm))
  have O19 : Old Z n0 h19 := O4.wr W19 o_pg
  refine own_step (T' := T19) (g' := (mkF m 14 #[.val (.ref pg), .val (.ref r_3), .val (.int ix), .val (.int ct)] [])) st19 ?_
  refine own_step (T' := T19) (g' := (mkF m 15 #[.val (.ref pg), .val (.ref r_3), .val (.int ix), .val (.int ct)] [(.ref pg)])) (fun t k => XS.aloadN X19.here hx rfl (hb hby d13_14) rfl rfl k) ?_
  refine own_step (T' := T19) (g' := (mkF m 16 #[.val (.ref pg), .val (.ref r_3), .val (.int ix), .val (.int ct)] [(.int ix), (.ref pg)])) (fun t k => XS.iloadN X19.here hx rfl (hb hby d13_15) rfl k) ?_
  obtain ⟨T33, h33, X33, e33, W33, st33⟩ := putF X19 hx hZ hown (host := "") (Or.inl (hw _ (List.mem_of_getElem? (i := 175) rfl))) Via.refl e19 g22 g20 (Or.inr ⟨(hw _ (List.mem_of_getElem? (i := 176) rfl)), rfl, hnm⟩) (hw _ (List.mem_of_getElem? (i := 82) rfl)) (ty := .int) (by decide) rfl rfl (g := (mkF m 16 #[.val (.ref pg), .val (.ref r_3), .val (.int ix), .val (.int ct)] [(.int ix), (.ref pg)])) rfl rfl (hb hby d13_16)
  have g34 : Exa Z h33 pg "com/example/kempt_cursor/kemptcursor/Page" := g20.wr W33
  have g35 : Fld Z h33 pg "com/example/kempt_cursor/kemptcursor/Page" "items" "Ljava/util/List;" (.ref r_3) := g21.other W33 (Or.inr (slot_ne (Or.inr (hw _ (List.mem_of_getElem? (i := 174) rfl))) (Or.inr (hw _ (List.mem_of_getElem? (i := 176) rfl))) (by decide) (t := .object "java/util/List") (t' := .int) (by decide) (by decide)))
  have g36 : Fld Z h33 pg "com/example/kempt_cursor/kemptcursor/Page" "index" "I" (.int ix) := g22.same W33
  have g37 : Fld Z h33 pg "com/example/kempt_cursor/kemptcursor/Page" "count" "I" u3 := g23.other W33 (Or.inr (slot_ne (Or.inr (hw _ (List.mem_of_getElem? (i := 178) rfl))) (Or.inr (hw _ (List.mem_of_getElem? (i := 176) rfl))) (by decide) (t := .int) (t' := .int) (by decide) (by decide)))
  have g38 : Exa Z h33 a0s "java/util/ArrayList" := g24.wr W33
  have g39 : Fld Z h33 a0s "java/util/ArrayList" "size" "I" (.int (3 : Int32)) := g25.other W33 (Or.inl n_a0s_pg)
  have g40 : Fld Z h33 a0s "java/util/ArrayList" "elementData" "[Ljava/lang/Object;" (.ref a1) := g26.other W33 (Or.inl n_a0s_pg)
  have g41 : Arv Z h33 a1 ka (.object "java/lang/Object") (10 : Int32) [(.ref y0), (.ref y1), (.ref y2), .null, .null, .null, .null, .null, .null, .null] .null := g27.other W33 n_a1_pg
  have g42 : Exa Z h33 a1 "[Ljava/lang/Object;" := g28.wr W33
  have g43 : Exa Z h33 y0 "com/example/kempt_cursor/kemptcursor/Keyed" := g29.wr W33
  have g44 : Exa Z h33 y1 "com/example/kempt_cursor/kemptcursor/Keyed" := g30.wr W33
  have g45 : Exa Z h33 y2 "com/example/kempt_cursor/kemptcursor/Keyed" := g31.wr W33
  have K46 : Keep h0 h33 [pg] := K32.wr W33 (Or.inl (List.mem_of_getElem? (i := 0) rfl))
  have N33 := Fr.snoc X33 N19 o_pg
  have Z33 : n0 ≤ h33.size := (Nat.le_trans Z19 (Nat.le_of_eq W33.size.symm))
  have O33 : Old Z n0 h33 := O19.wr W33 o_pg
  refine own_step (T' := T33) (g' := (mkF m 19 #[.val (.ref pg), .val (.ref r_3), .val (.int ix), .val (.int ct)] [])) st33 ?_
  refine own_step (T' := T33) (g' := (mkF m 20 #[.val (.ref pg), .val (.ref r_3), .val (.int ix), .val (.int ct)] [(.ref pg)])) (fun t k => XS.aloadN X33.here hx rfl (hb hby d13_19) rfl rfl k) ?_
  refine own_step (T' := T33) (g' := (mkF m 21 #[.val (.ref pg), .val (.ref r_3), .val (.int ix), .val (.int ct)] [(.int ct), (.ref pg)])) (fun t k => XS.iloadN X33.here hx rfl (hb hby d13_20) rfl k) ?_
  obtain ⟨T47, h47, X47, e47, W47, st47⟩ := putF X33 hx hZ hown (host := "") (Or.inl (hw _ (List.mem_of_getElem? (i := 177) rfl))) Via.refl e33 g37 g34 (Or.inr ⟨(hw _ (List.mem_of_getElem? (i := 178) rfl)), rfl, hnm⟩) (hw _ (List.mem_of_getElem? (i := 82) rfl)) (ty := .int) (by decide) rfl rfl (g := (mkF m 21 #[.val (.ref pg), .val (.ref r_3), .val (.int ix), .val (.int ct)] [(.int ct), (.ref pg)])) rfl rfl (hb hby d13_21)
  have g48 : Exa Z h47 pg "com/example/kempt_cursor/kemptcursor/Page" := g34.wr W47
  have g49 : Fld Z h47 pg "com/example/kempt_cursor/kemptcursor/Page" "items" "Ljava/util/List;" (.ref r_3) := g35.other W47 (Or.inr (slot_ne (Or.inr (hw _ (List.mem_of_getElem? (i := 174) rfl))) (Or.inr (hw _ (List.mem_of_getElem? (i := 178) rfl))) (by decide) (t := .object "java/util/List") (t' := .int) (by decide) (by decide)))
  have g50 : Fld Z h47 pg "com/example/kempt_cursor/kemptcursor/Page" "index" "I" (.int ix) := g36.other W47 (Or.inr (slot_ne (Or.inr (hw _ (List.mem_of_getElem? (i := 176) rfl))) (Or.inr (hw _ (List.mem_of_getElem? (i := 178) rfl))) (by decide) (t := .int) (t' := .int) (by decide) (by decide)))
  have g51 : Fld Z h47 pg "com/example/kempt_cursor/kemptcursor/Page" "count" "I" (.int ct) := g37.same W47
  have g52 : Exa Z h47 a0s "java/util/ArrayList" := g38.wr W47
  have g53 : Fld Z h47 a0s "java/util/ArrayList" "size" "I" (.int (3 : Int32)) := g39.other W47 (Or.inl n_a0s_pg)
  have g54 : Fld Z h47 a0s "java/util/ArrayList" "elementData" "[Ljava/lang/Object;" (.ref a1) := g40.other W47 (Or.inl n_a0s_pg)
  have g55 : Arv Z h47 a1 ka (.object "java/lang/Object") (10 : Int32) [(.ref y0), (.ref y1), (.ref y2), .null, .null, .null, .null, .null, .null, .null] .null := g41.other W47 n_a1_pg
  have g56 : Exa Z h47 a1 "[Ljava/lang/Object;" := g42.wr W47
  have g57 : Exa Z h47 y0 "com/example/kempt_cursor/kemptcursor/Keyed" := g43.wr W47
  have g58 : Exa Z h47 y1 "com/example/kempt_cursor/kemptcursor/Keyed" := g44.wr W47
  have g59 : Exa Z h47 y2 "com/example/kempt_cursor/kemptcursor/Keyed" := g45.wr W47
  have K60 : Keep h0 h47 [pg] := K46.wr W47 (Or.inl (List.mem_of_getElem? (i := 0) rfl))
  have N47 := Fr.snoc X47 N33 o_pg
  have Z47 : n0 ≤ h47.size := (Nat.le_trans Z33 (Nat.le_of_eq W47.size.symm))
  have O47 : Old Z n0 h47 := O33.wr W47 o_pg
  refine own_step (T' := T47) (g' := (mkF m 24 #[.val (.ref pg), .val (.ref r_3), .val (.int ix), .val (.int ct)] [])) st47 ?_
  refine own_rV X47 hx hlk Bd.returns (hb hby d13_24) ?_ (by decide) (by decide)
  rw [e47]
  exact ⟨rfl, N47, K60, g48, g50⟩
def own_rs (i : Int32) : Int32 := if i = 0 then 1 else 0
def Q_rea (Z : State) (pg : Addr) (ix : Int32) (h0 : Heap) (n0 : Nat) (v : Option Value) (h : Heap) (L : List Loc) : Prop := v = some (.int (own_rs ix)) ∧ Fr n0 L ∧ h = h0
theorem ef_rm_rea (m : MethodId) (x0 : Addr) : entryFrame m #[(.ref x0)] 1 = mkF m 0 #[.val (.ref x0)] [] := by first | (simp [entryFrame, mkF, argsToLocals, Value.category]; done) | rfl | (simp [entryFrame, mkF, argsToLocals, Value.category] <;> rfl)
theorem d26_0 : decode prog_18_method_3_code 0 = .ok (.aload_n 0, 1) := by decide +kernel
theorem d26_1 : decode prog_18_method_3_code 1 = .ok (.getfield 19, 3) := by decide +kernel
theorem d26_4 : decode prog_18_method_3_code 4 = .ok (.ifCond .ne 7, 3) := by decide +kernel
theorem d26_7 : decode prog_18_method_3_code 7 = .ok (.iconst 1, 1) := by decide +kernel
theorem d26_8 : decode prog_18_method_3_code 8 = .ok (.goto 4, 3) := by decide +kernel
theorem d26_12 : decode prog_18_method_3_code 12 = .ok (.ireturn, 1) := by decide +kernel
theorem d26_11 : decode prog_18_method_3_code 11 = .ok (.iconst 0, 1) := by decide +kernel
set_option maxRecDepth 65536 in
set_option maxHeartbeats 40000000 in
theorem rm_rea (l : Launch) (Z : State) (a0 : Array Value) (hw : ∀ d ∈ tables_1, d.before a0 Z = true) (ws : List Jvm.Cond) (pg : Addr) (ix : Int32) (h0 : Heap) (n0 : Nat) (Z0 : n0 ≤ h0.size) (F_0 : Fld Z h0 pg "com/example/kempt_cursor/kemptcursor/Page" "index" "I" (.int ix)) :
    MetFree l (⟨"com/example/kempt_cursor/kemptcursor/Page", "reachesStart", "()Z"⟩ : MethodName) (head1 (Jvm.Cond.code (⟨"com/example/kempt_cursor/kemptcursor/Page", "reachesStart", "()Z"⟩ : MethodName) prog_18_method_3_code 1 (some (.boolean)) :: ws) ({ frames := 0, cells := 0, slots := 0, locals := 0 } : Room)) (fun a U => a = #[(.ref pg)] ∧ Z.Warmed39 U.vm ∧ U.heap = h0) (fun _ _ _ _ _ => True) (fun _ U o U' => ∃ v L, o = .returned v ∧ (Q_rea Z pg ix h0 n0) v U'.heap L ∧ FrameEnd U o U' L ({ frames := 0, cells := 0, slots := 0, locals := 0 } : Room).cells ({ frames := 0, cells := 0, slots := 0, locals := 0 } : Room).slots) := by
  refine MetFree.of_bodySF (plainFor_of_name pn_14) hisR ?_
  intro p e s m args below meth c s₁ Bd hml0 hP hK
  obtain ⟨rfl, hZ, hh⟩ := hP
  have hx := Bd.exec
  have hby := Bd.bytes
  have hlk : meth.locks = false := BodyLoose.notSynchronized Bd
  have hml : c.maxLocals = 1 := hml0
  have hown : s.vm.findClass "com/example/kempt_cursor/kemptcursor/Page" = some m.cls := findClass_of_methodNamed Bd.named
  have hnm := (name_of_methodNamed Bd.named Bd.method).1
  have X0 : Stand p l e ({ frames := 0, cells := 0, slots := 0, locals := 0 } : Room) s m #[(.ref pg)] below meth c s₁ [] 0 0 := Stand.of_body Bd
  have e0 : s₁.heap = h0 := by rw [← hh, Bd.state]; rfl
  have N0 := Fr.nil n0
  show own_Go p e below s (Q_rea Z pg ix h0 n0) ({ frames := 0, cells := 0, slots := 0, locals := 0 } : Room).cells ({ frames := 0, cells := 0, slots := 0, locals := 0 } : Room).slots s₁ (entryFrame m #[(.ref pg)] 1)
  refine own_cast (g' := (mkF m 0 #[.val (.ref pg)] [])) (ef_rm_rea m pg) ?_
  refine own_step (T' := s₁) (g' := (mkF m 1 #[.val (.ref pg)] [(.ref pg)])) (fun t k => XS.aloadN X0.here hx rfl (hb hby d26_0) rfl rfl k) ?_
  obtain ⟨T1, X1, e1, st1⟩ := getF X0 hx hZ hown (host := "") (Or.inl (hw _ (List.mem_of_getElem? (i := 175) rfl))) Via.refl e0 F_0 (g := (mkF m 1 #[.val (.ref pg)] [(.ref pg)])) rfl rfl (hb hby d26_1)
  refine own_step (T' := T1) (g' := (mkF m 4 #[.val (.ref pg)] [(.int ix)])) st1 ?_
  by_cases c4 : ix = (0 : Int32)
  · refine own_step (T' := T1) (g' := (mkF m 7 #[.val (.ref pg)] [])) (fun t k => XS.ifNo X1.here hx rfl (hb hby d26_4) rfl ((if0 _ _).trans (teq c4).2) k) ?_
    refine own_step (T' := T1) (g' := (mkF m 8 #[.val (.ref pg)] [(.int (1 : Int32))])) (fun t k => XS.iconst X1.here hx rfl (hb hby d26_7) k) ?_
    refine own_step (T' := T1) (g' := (mkF m 12 #[.val (.ref pg)] [(.int (1 : Int32))])) (fun t k => XS.goto X1.here hx rfl (pc0 := 8) (pc' := 12) rfl (hb hby d26_8) (by decide) (by decide) k) ?_
    refine own_rN X1 hx hlk Bd.returns (by simp) (hb hby d26_12) ?_ (by decide) (by decide)
    rw [e1]
    exact ⟨by rw [own_rs, if_pos c4]; rfl, N0, rfl⟩
  · refine own_step (T' := T1) (g' := (mkF m 11 #[.val (.ref pg)] [])) (fun t k => XS.ifYes X1.here hx rfl (pc0 := 4) (pc' := 11) rfl (hb hby d26_4) rfl ((if0 _ _).trans (feq c4).2) (by decide) (by decide) k) ?_
    refine own_step (T' := T1) (g' := (mkF m 12 #[.val (.ref pg)] [(.int (0 : Int32))])) (fun t k => XS.iconst X1.here hx rfl (hb hby d26_11) k) ?_
    refine own_rN X1 hx hlk Bd.returns (by simp) (hb hby d26_12) ?_ (by decide) (by decide)
    rw [e1]
    exact ⟨by rw [own_rs, if_neg c4]; rfl, N0, rfl⟩
def Q_kyi (Z : State) (a1 : Addr) (x2 : Addr) (x3 : Addr) (h0 : Heap) (n0 : Nat) (v : Option Value) (h : Heap) (L : List Loc) : Prop := v = none ∧ Fr n0 L ∧ Keep h0 h [a1] ∧ Exa Z h a1 "com/example/kempt_cursor/kemptcursor/Keyed" ∧ Fld Z h a1 "com/example/kempt_cursor/kemptcursor/Keyed" "key" "Ljava/lang/Object;" (.ref x2) ∧ Fld Z h a1 "com/example/kempt_cursor/kemptcursor/Keyed" "value" "Ljava/lang/Object;" (.ref x3)
theorem ef_rm_kyi (m : MethodId) (x0 : Addr) (x1 : Addr) (x2 : Addr) : entryFrame m #[(.ref x0), (.ref x1), (.ref x2)] 3 = mkF m 0 #[.val (.ref x0), .val (.ref x1), .val (.ref x2)] [] := by first | (simp [entryFrame, mkF, argsToLocals, Value.category]; done) | rfl | (simp [entryFrame, mkF, argsToLocals, Value.category] <;> rfl)
theorem pn_15 : plainName "com/example/kempt_cursor/kemptcursor/Keyed" = true := by first | (simp [plainName, overriddenIn]; done) | decide +kernel
theorem d6_0 : decode prog_16_method_1_code 0 = .ok (.aload_n 0, 1) := by decide +kernel
theorem d6_1 : decode prog_16_method_1_code 1 = .ok (.invokespecial 1, 3) := by decide +kernel
theorem d6_4 : decode prog_16_method_1_code 4 = .ok (.aload_n 0, 1) := by decide +kernel
theorem d6_5 : decode prog_16_method_1_code 5 = .ok (.aload_n 1, 1) := by decide +kernel
theorem d6_6 : decode prog_16_method_1_code 6 = .ok (.putfield 7, 3) := by decide +kernel
theorem d6_9 : decode prog_16_method_1_code 9 = .ok (.aload_n 0, 1) := by decide +kernel
theorem d6_10 : decode prog_16_method_1_code 10 = .ok (.aload_n 2, 1) := by decide +kernel
theorem d6_11 : decode prog_16_method_1_code 11 = .ok (.putfield 13, 3) := by decide +kernel
theorem d6_14 : decode prog_16_method_1_code 14 = .ok (.return_, 1) := by decide +kernel
set_option maxRecDepth 65536 in
set_option maxHeartbeats 40000000 in
theorem rm_kyi (l : Launch) (Z : State) (a0 : Array Value) (hw : ∀ d ∈ tables_1, d.before a0 Z = true) (ws : List Jvm.Cond) (a1 : Addr) (x2 : Addr) (x3 : Addr) (u0 : Value) (u1 : Value) (h0 : Heap) (n0 : Nat) (Z0 : n0 ≤ h0.size) (E_a : Exa Z h0 a1 "com/example/kempt_cursor/kemptcursor/Keyed") (F0 : Fld Z h0 a1 "com/example/kempt_cursor/kemptcursor/Keyed" "key" "Ljava/lang/Object;" u0) (F1 : Fld Z h0 a1 "com/example/kempt_cursor/kemptcursor/Keyed" "value" "Ljava/lang/Object;" u1) (o_a : n0 ≤ a1) :
    MetFree l (⟨"com/example/kempt_cursor/kemptcursor/Keyed", "<init>", "(Ljava/lang/Object;Ljava/lang/Object;)V"⟩ : MethodName) (head1 (Jvm.Cond.code (⟨"com/example/kempt_cursor/kemptcursor/Keyed", "<init>", "(Ljava/lang/Object;Ljava/lang/Object;)V"⟩ : MethodName) prog_16_method_1_code 3 none :: ws) ({ frames := 2, cells := 0, slots := 0, locals := 24 } : Room)) (fun a U => a = #[(.ref a1), (.ref x2), (.ref x3)] ∧ Z.Warmed39 U.vm ∧ U.heap = h0) (fun _ _ _ _ _ => True) (fun _ U o U' => ∃ v L, o = .returned v ∧ (Q_kyi Z a1 x2 x3 h0 n0) v U'.heap L ∧ FrameEnd U o U' L ({ frames := 2, cells := 0, slots := 0, locals := 24 } : Room).cells ({ frames := 2, cells := 0, slots := 0, locals := 24 } : Room).slots) := by
  refine MetFree.of_bodySF (plainFor_of_name pn_15) hisR ?_
  intro p e s m args below meth c s₁ Bd hml0 hP hK
  obtain ⟨rfl, hZ, hh⟩ := hP
  have hx := Bd.exec
  have hby := Bd.bytes
  have hlk : meth.locks = false := BodyLoose.notSynchronized Bd
  have hml : c.maxLocals = 3 := hml0
  have hown : s.vm.findClass "com/example/kempt_cursor/kemptcursor/Keyed" = some m.cls := findClass_of_methodNamed Bd.named
  have hnm := (name_of_methodNamed Bd.named Bd.method).1
  have X0 : Stand p l e ({ frames := 2, cells := 0, slots := 0, locals := 24 } : Room) s m #[(.ref a1), (.ref x2), (.ref x3)] below meth c s₁ [] 0 0 := Stand.of_body Bd
  have e0 : s₁.heap = h0 := by rw [← hh, Bd.state]; rfl
  have N0 := Fr.nil n0
  show own_Go p e below s (Q_kyi Z a1 x2 x3 h0 n0) ({ frames := 2, cells := 0, slots := 0, locals := 24 } : Room).cells ({ frames := 2, cells := 0, slots := 0, locals := 24 } : Room).slots s₁ (entryFrame m #[(.ref a1), (.ref x2), (.ref x3)] 3)
  refine own_cast (g' := (mkF m 0 #[.val (.ref a1), .val (.ref x2), .val (.ref x3)] [])) (ef_rm_kyi m a1 x2 x3) ?_
  have K0 : Keep h0 h0 [a1] := Keep.refl _ _
  refine own_step (T' := s₁) (g' := (mkF m 1 #[.val (.ref a1), .val (.ref x2), .val (.ref x3)] [(.ref a1)])) (fun t k => XS.aloadN X0.here hx rfl (hb hby d6_0) rfl rfl k) ?_
  obtain ⟨_, _, ⟨T2, L2, k2, n2⟩, -, X2, ⟨Lc2, hQ2, lq2, yq2, zq2⟩, st2⟩ := X0.specialBack hx (y := (⟨"java/lang/Record", "<init>", "()V"⟩ : MethodName)) rfl hown (mvT hZ (hw _ (List.mem_of_getElem? (i := 40) rfl))) (mvT hZ (hw _ (List.mem_of_getElem? (i := 41) rfl))) (mvT hZ (hw _ (List.mem_of_getElem? (i := 44) rfl))) (by decide) (backOf (W := 0) (rm_rec l Z a0 hw [] a1 h0 n0 Z0 ) hZ (hw _ (List.mem_of_getElem? (i := 44) rfl)) (hw _ (List.mem_of_getElem? (i := 43) rfl)) (by decide) (by decide)) (g := (mkF m 1 #[.val (.ref a1), .val (.ref x2), .val (.ref x3)] [(.ref a1)])) rfl (by rw [hml]; rfl) (Steps.refl _) (a := a1) (argsL := []) (rest := []) (lenOf pd_0 rfl) rfl (by show 2 * 0 + _ ≤ _; exact Nat.le_of_eq rfl) (hb hby d6_1) (fun _ _ => ⟨rfl, e0, (by decide : 0 + 0 ≤ _), (by decide : 0 + 0 ≤ _)⟩)
  dsimp only [Pt.U, Pt.locs, Pt.cells, Pt.slots] at X2 lq2 yq2 zq2 st2 hQ2
  subst lq2 yq2 zq2
  obtain ⟨rfl, Nq2, eq1⟩ := hQ2
  have N2 := Fr.app N0 Nq2
  refine own_tr (T' := T2) (g' := (mkF m 4 #[.val (.ref a1), .val (.ref x2), .val (.ref x3)] [])) st2 ?_
  refine own_step (T' := T2) (g' := (mkF m 5 #[.val (.ref a1), .val (.ref x2), .val (.ref x3)] [(.ref a1)])) (fun t k => XS.aloadN X2.here hx rfl (hb hby d6_4) rfl rfl k) ?_
  refine own_step (T' := T2) (g' := (mkF m 6 #[.val (.ref a1), .val (.ref x2), .val (.ref x3)] [(.ref x2), (.ref a1)])) (fun t k => XS.aloadN X2.here hx rfl (hb hby d6_5) rfl rfl k) ?_
  obtain ⟨T3, h3, X3, e3, W3, st3⟩ := putF X2 hx hZ hown (host := "") (Or.inl (hw _ (List.mem_of_getElem? (i := 46) rfl))) Via.refl eq1 F0 E_a (Or.inr ⟨(hw _ (List.mem_of_getElem? (i := 47) rfl)), rfl, hnm⟩) (hw _ (List.mem_of_getElem? (i := 28) rfl)) (ty := .object "java/lang/Object") (by decide) rfl rfl (g := (mkF m 6 #[.val (.ref a1), .val (.ref x2), .val (.ref x3)] [(.ref x2), (.ref a1)])) rfl rfl (hb hby d6_6)
  have g4 : Exa Z h3 a1 "com/example/kempt_cursor/kemptcursor/Keyed" := E_a.wr W3
  have g5 : Fld Z h3 a1 "com/example/kempt_cursor/kemptcursor/Keyed" "key" "Ljava/lang/Object;" (.ref x2) := F0.same W3
  have g6 : Fld Z h3 a1 "com/example/kempt_cursor/kemptcursor/Keyed" "value" "Ljava/lang/Object;" u1 := F1.other W3 (Or.inr (slot_ne (Or.inr (hw _ (List.mem_of_getElem? (i := 49) rfl))) (Or.inr (hw _ (List.mem_of_getElem? (i := 47) rfl))) (by decide) (t := .object "java/lang/Object") (t' := .object "java/lang/Object") (by decide) (by decide)))
  have K7 : Keep h0 h3 [a1] := K0.wr W3 (Or.inl (List.mem_of_getElem? (i := 0) rfl))
  have N3 := Fr.snoc X3 N2 o_a
  have Z3 : n0 ≤ h3.size := (Nat.le_trans Z0 (Nat.le_of_eq W3.size.symm))
  refine own_step (T' := T3) (g' := (mkF m 9 #[.val (.ref a1), .val (.ref x2), .val (.ref x3)] [])) st3 ?_
  refine own_step (T' := T3) (g' := (mkF m 10 #[.val (.ref a1), .val (.ref x2), .val (.ref x3)] [(.ref a1)])) (fun t k => XS.aloadN X3.here hx rfl (hb hby d6_9) rfl rfl k) ?_
  refine own_step (T' := T3) (g' := (mkF m 11 #[.val (.ref a1), .val (.ref x2), .val (.ref x3)] [(.ref x3), (.ref a1)])) (fun t k => XS.aloadN X3.here hx rfl (hb hby d6_10) rfl rfl k) ?_
  obtain ⟨T8, h8, X8, e8, W8, st8⟩ := putF X3 hx hZ hown (host := "") (Or.inl (hw _ (List.mem_of_getElem? (i := 48) rfl))) Via.refl e3 g6 g4 (Or.inr ⟨(hw _ (List.mem_of_getElem? (i := 49) rfl)), rfl, hnm⟩) (hw _ (List.mem_of_getElem? (i := 28) rfl)) (ty := .object "java/lang/Object") (by decide) rfl rfl (g := (mkF m 11 #[.val (.ref a1), .val (.ref x2), .val (.ref x3)] [(.ref x3), (.ref a1)])) rfl rfl (hb hby d6_11)
  have g9 : Exa Z h8 a1 "com/example/kempt_cursor/kemptcursor/Keyed" := g4.wr W8
  have g10 : Fld Z h8 a1 "com/example/kempt_cursor/kemptcursor/Keyed" "key" "Ljava/lang/Object;" (.ref x2) := g5.other W8 (Or.inr (slot_ne (Or.inr (hw _ (List.mem_of_getElem? (i := 47) rfl))) (Or.inr (hw _ (List.mem_of_getElem? (i := 49) rfl))) (by decide) (t := .object "java/lang/Object") (t' := .object "java/lang/Object") (by decide) (by decide)))
  have g11 : Fld Z h8 a1 "com/example/kempt_cursor/kemptcursor/Keyed" "value" "Ljava/lang/Object;" (.ref x3) := g6.same W8
  have K12 : Keep h0 h8 [a1] := K7.wr W8 (Or.inl (List.mem_of_getElem? (i := 0) rfl))
  have N8 := Fr.snoc X8 N3 o_a
  have Z8 : n0 ≤ h8.size := (Nat.le_trans Z3 (Nat.le_of_eq W8.size.symm))
  refine own_step (T' := T8) (g' := (mkF m 14 #[.val (.ref a1), .val (.ref x2), .val (.ref x3)] [])) st8 ?_
  refine own_rV X8 hx hlk Bd.returns (hb hby d6_14) ?_ (by decide) (by decide)
  rw [e8]
  exact ⟨rfl, N8, K12, g9, g10, g11⟩
theorem own_and3 (x : Int32) : (x &&& (3 : Int32)) = 0 ∨ (x &&& (3 : Int32)) = 1 ∨ (x &&& (3 : Int32)) = 2 ∨ (x &&& (3 : Int32)) = 3 := by
  have h : (x &&& (3 : Int32)).toInt = x.toInt % 2 ^ 2 := Jvm.Kit.i32_mask x 3 (k := 2) (by decide) (by decide)
  simp only [← Int32.toInt_inj, h]
  have z0 : (0 : Int32).toInt = 0 := by decide
  have z1 : (1 : Int32).toInt = 1 := by decide
  have z2 : (2 : Int32).toInt = 2 := by decide
  have z3 : (3 : Int32).toInt = 3 := by decide
  rw [z0, z1, z2, z3]
  omega
theorem own_m31 (x : Int32) : ¬ (x &&& (2147483647 : Int32)) < 0 := by
  have h : (x &&& (2147483647 : Int32)).toInt = x.toInt % 2 ^ 31 := Jvm.Kit.i32_mask x 2147483647 (k := 31) (by decide) (by decide)
  have z0 : (0 : Int32).toInt = 0 := by decide
  rw [Int32.lt_iff_toInt_lt, h, z0]
  omega
theorem own_m1 (x : Int32) : ¬ (x &&& (1 : Int32)) < 0 := by
  have h : (x &&& (1 : Int32)).toInt = x.toInt % 2 ^ 1 := Jvm.Kit.i32_mask x 1 (k := 1) (by decide) (by decide)
  have z0 : (0 : Int32).toInt = 0 := by decide
  rw [Int32.lt_iff_toInt_lt, h, z0]
  omega
theorem own_rs0 {i : Int32} (h : ¬ i < 0) (k : ¬ 0 < i) : own_rs i = 1 := by
  have z0 : (0 : Int32).toInt = 0 := by decide
  rw [Int32.lt_iff_toInt_lt, z0] at h k
  rw [own_rs, if_pos (Int32.toInt_inj.mp (by rw [z0]; omega))]
theorem own_rs1 {i : Int32} (k : 0 < i) : own_rs i = 0 := by
  have z0 : (0 : Int32).toInt = 0 := by decide
  rw [Int32.lt_iff_toInt_lt, z0] at k
  rw [own_rs, if_neg (fun q => by rw [q, z0] at k; omega)]
def Q_law (n0 : Nat) (v : Option Value) (h : Heap) (L : List Loc) : Prop := v = some (.int 1) ∧ Fr n0 L
theorem ef_rm_law (m : MethodId) (x0 : Int32) (x1 : Int32) (x2 : Int32) (x3 : Int32) : entryFrame m #[(.int x0), (.int x1), (.int x2), (.int x3)] maxLocals = mkF m 0 #[.val (.int x0), .val (.int x1), .val (.int x2), .val (.int x3), .unset, .unset, .unset, .unset, .unset, .unset] [] := by first | (simp [entryFrame, mkF, argsToLocals, Value.category, maxLocals]; done) | rfl | (simp [entryFrame, mkF, argsToLocals, Value.category, maxLocals] <;> rfl)
theorem pn_16 : plainName "com/example/kempt_cursor/kemptcursor/PageReachesStartPinLaw" = true := by first | (simp [plainName, overriddenIn]; done) | decide +kernel
theorem pd_16 : parseMethodDescriptor "(Ljava/util/List;II)V" = some ⟨[.object "java/util/List", .int, .int], none⟩ := by decide +kernel
theorem pd_17 : parseMethodDescriptor "(I)Ljava/lang/Integer;" = some ⟨[.int], some (.object "java/lang/Integer")⟩ := by decide +kernel
theorem pd_18 : parseMethodDescriptor "(Ljava/lang/Object;)Z" = some ⟨[.object "java/lang/Object"], some (.boolean)⟩ := by decide +kernel
set_option maxRecDepth 65536 in
set_option maxHeartbeats 40000000 in
theorem rm_law (l : Launch) (Z : State) (a0 : Array Value) (hw : ∀ d ∈ tables_1, d.before a0 Z = true) (ws : List Jvm.Cond) (p0 : Int32) (p1 : Int32) (p2 : Int32) (p3 : Int32) (de : Addr) (kd : ClassId) (el : Addr) (em : Addr) (mr : Addr) (ca : Addr) (cc : Cell) (h0 : Heap) (n0 : Nat) (Z0 : n0 ≤ h0.size) (O0 : Old Z n0 h0) (S_d : Sta Z Z.heap "java/util/ArrayList" "DEFAULTCAPACITY_EMPTY_ELEMENTDATA" "[Ljava/lang/Object;" (.ref de)) (V_d : Arv Z Z.heap de kd (.object "java/lang/Object") (0 : Int32) [] .null) (S_el : Sta Z Z.heap "java/util/ImmutableCollections" "EMPTY_LIST" "Ljava/util/ImmutableCollections$ListN;" (.ref el)) (S_em : Sta Z Z.heap "java/util/ImmutableCollections" "EMPTY" "Ljava/lang/Object;" (.ref em)) (M_o : own_Mir Z "[Ljava/lang/Object;" mr) (S_h : Sta Z Z.heap "java/lang/Integer$IntegerCache" "high" "I" (.int (127 : Int32))) (S_c : Sta Z Z.heap "java/lang/Integer$IntegerCache" "cache" "[Ljava/lang/Integer;" (.ref ca)) (A_c : Arr Z Z.heap ca cc (.object "java/lang/Integer")) (H_c : cc.slots.size = 256 ∧ ∀ i, i < 256 → ∃ r, cc.slots[i]? = some (.ref r)) :
    MetFree l x (head1 (Jvm.Cond.code x code maxLocals ret :: ws) room_1) (fun a U => a = #[(.int p0), (.int p1), (.int p2), (.int p3)] ∧ Z.Warmed39 U.vm ∧ U.heap = h0) (fun _ _ _ _ _ => True) (fun _ U o U' => ∃ v L, o = .returned v ∧ (Q_law n0) v U'.heap L ∧ FrameEnd U o U' L 32 192) := by
  refine MetFree.of_bodySF (plainFor_of_name pn_16) hisR ?_
  intro p e s m args below meth c s₁ Bd hml0 hP hK
  obtain ⟨rfl, hZ, hh⟩ := hP
  have hx := Bd.exec
  have hby := Bd.bytes
  have hlk : meth.locks = false := BodyLoose.notSynchronized Bd
  have hml : c.maxLocals = 10 := hml0
  have hown : s.vm.findClass "com/example/kempt_cursor/kemptcursor/PageReachesStartPinLaw" = some m.cls := findClass_of_methodNamed Bd.named
  have hnm := (name_of_methodNamed Bd.named Bd.method).1
  have X0 : Stand p l e room_1 s m #[(.int p0), (.int p1), (.int p2), (.int p3)] below meth c s₁ [] 0 0 := Stand.of_body Bd
  have e0 : s₁.heap = h0 := by rw [← hh, Bd.state]; rfl
  have N0 := Fr.nil n0
  show own_Go p e below s (Q_law n0) 32 192 s₁ (entryFrame m #[(.int p0), (.int p1), (.int p2), (.int p3)] maxLocals)
  refine own_cast (g' := (mkF m 0 #[.val (.int p0), .val (.int p1), .val (.int p2), .val (.int p3), .unset, .unset, .unset, .unset, .unset, .unset] [])) (ef_rm_law m p0 p1 p2 p3) ?_
  refine own_step (T' := s₁) (g' := (mkF m 1 #[.val (.int p0), .val (.int p1), .val (.int p2), .val (.int p3), .unset, .unset, .unset, .unset, .unset, .unset] [(.int p2)])) (fun t k => XS.iloadN X0.here hx rfl (hb hby at_0) rfl k) ?_
  refine own_step (T' := s₁) (g' := (mkF m 2 #[.val (.int p0), .val (.int p1), .val (.int p2), .val (.int p3), .unset, .unset, .unset, .unset, .unset, .unset] [(.int (2 : Int32)), (.int p2)])) (fun t k => XS.iconst X0.here hx rfl (hb hby at_1) k) ?_
  refine own_step (T' := s₁) (g' := (mkF m 3 #[.val (.int p0), .val (.int p1), .val (.int p2), .val (.int p3), .unset, .unset, .unset, .unset, .unset, .unset] [(.int (p2 >>> (2 : Int32)))])) (fun t k => XS.ishr X0.here hx rfl (hb hby at_2) rfl k) ?_
  refine own_step (T' := s₁) (g' := (mkF m 4 #[.val (.int p0), .val (.int p1), .val (.int p2), .val (.int p3), .unset, .unset, .unset, .unset, .unset, .unset] [(.int (1 : Int32)), (.int (p2 >>> (2 : Int32)))])) (fun t k => XS.iconst X0.here hx rfl (hb hby at_3) k) ?_
  refine own_step (T' := s₁) (g' := (mkF m 5 #[.val (.int p0), .val (.int p1), .val (.int p2), .val (.int p3), .unset, .unset, .unset, .unset, .unset, .unset] [(.int ((p2 >>> (2 : Int32)) &&& (1 : Int32)))])) (fun t k => XS.iand X0.here hx rfl (hb hby at_4) rfl k) ?_
  have j22 : ∀ (ii : Int32), ¬ ii < 0 → own_Go p e below s (Q_law n0) 32 192 s₁ (mkF m 22 #[.val (.int p0), .val (.int p1), .val (.int p2), .val (.int p3), .val (.int ii), .unset, .unset, .unset, .unset, .unset] []) := by
    intro ii hii
    refine own_step (T' := s₁) (g' := (mkF m 23 #[.val (.int p0), .val (.int p1), .val (.int p2), .val (.int p3), .val (.int ii), .unset, .unset, .unset, .unset, .unset] [(.int p1)])) (fun t k => XS.iloadN X0.here hx rfl (hb hby at_22) rfl k) ?_
    refine own_step (T' := s₁) (g' := (mkF m 25 #[.val (.int p0), .val (.int p1), .val (.int p2), .val (.int p3), .val (.int ii), .unset, .unset, .unset, .unset, .unset] [(.int (2147483647 : Int32)), (.int p1)])) (X0.ldcInt hx hown (mvT hZ (hw _ (List.mem_of_getElem? (i := 0) rfl))) (g := (mkF m 23 #[.val (.int p0), .val (.int p1), .val (.int p2), .val (.int p3), .val (.int ii), .unset, .unset, .unset, .unset, .unset] [(.int p1)])) rfl (hb hby at_23)) ?_
    refine own_step (T' := s₁) (g' := (mkF m 26 #[.val (.int p0), .val (.int p1), .val (.int p2), .val (.int p3), .val (.int ii), .unset, .unset, .unset, .unset, .unset] [(.int (p1 &&& (2147483647 : Int32)))])) (fun t k => XS.iand X0.here hx rfl (hb hby at_25) rfl k) ?_
    generalize hd_ct : (p1 &&& (2147483647 : Int32)) = ct
    refine own_step (T' := s₁) (g' := (mkF m 28 #[.val (.int p0), .val (.int p1), .val (.int p2), .val (.int p3), .val (.int ii), .val (.int ct), .unset, .unset, .unset, .unset] [])) (fun t k => XS.istore X0.here hx rfl (hb hby at_26) rfl (l' := #[.val (.int p0), .val (.int p1), .val (.int p2), .val (.int p3), .val (.int ii), .val (.int ct), .unset, .unset, .unset, .unset]) rfl k) ?_
    refine own_step (T' := s₁) (g' := (mkF m 29 #[.val (.int p0), .val (.int p1), .val (.int p2), .val (.int p3), .val (.int ii), .val (.int ct), .unset, .unset, .unset, .unset] [(.int p2)])) (fun t k => XS.iloadN X0.here hx rfl (hb hby at_28) rfl k) ?_
    refine own_step (T' := s₁) (g' := (mkF m 30 #[.val (.int p0), .val (.int p1), .val (.int p2), .val (.int p3), .val (.int ii), .val (.int ct), .unset, .unset, .unset, .unset] [(.int (3 : Int32)), (.int p2)])) (fun t k => XS.iconst X0.here hx rfl (hb hby at_29) k) ?_
    refine own_step (T' := s₁) (g' := (mkF m 31 #[.val (.int p0), .val (.int p1), .val (.int p2), .val (.int p3), .val (.int ii), .val (.int ct), .unset, .unset, .unset, .unset] [(.int (p2 &&& (3 : Int32)))])) (fun t k => XS.iand X0.here hx rfl (hb hby at_30) rfl k) ?_
    generalize hd_nn : (p2 &&& (3 : Int32)) = nn
    refine own_step (T' := s₁) (g' := (mkF m 33 #[.val (.int p0), .val (.int p1), .val (.int p2), .val (.int p3), .val (.int ii), .val (.int ct), .val (.int nn), .unset, .unset, .unset] [])) (fun t k => XS.istore X0.here hx rfl (hb hby at_31) rfl (l' := #[.val (.int p0), .val (.int p1), .val (.int p2), .val (.int p3), .val (.int ii), .val (.int ct), .val (.int nn), .unset, .unset, .unset]) rfl k) ?_
    have hnn := own_and3 p2
    rw [hd_nn] at hnn
    clear hd_nn
    rcases hnn with rfl | rfl | rfl | rfl
    · obtain ⟨T1, h1, X1, e1, E1, A1, D1, -, st1⟩ := newO X0 hx hZ hown (hw _ (List.mem_of_getElem? (i := 1) rfl)) (hw _ (List.mem_of_getElem? (i := 2) rfl)) (hw _ (List.mem_of_getElem? (i := 3) rfl)) e0 (g := (mkF m 33 #[.val (.int p0), .val (.int p1), .val (.int p2), .val (.int p3), .val (.int ii), .val (.int ct), .val (.int (0 : Int32)), .unset, .unset, .unset] [])) rfl (hb hby at_33) (by decide : 0 + 1 ≤ _) (by decide : 0 + 3 ≤ _)
      obtain ⟨ad1, g_ad1⟩ : ∃ z, z = h0.size := ⟨_, rfl⟩
      rw [← g_ad1] at A1 D1 st1
      have o1 : n0 ≤ ad1 := (Nat.le_trans Z0 (Nat.le_of_eq g_ad1.symm))
      have Z1 : n0 ≤ h1.size := (Nat.le_trans Z0 E1.1)
      have O1 : Old Z n0 h1 := O0.ext E1
      have g2 : Fld Z h1 ad1 "java/util/AbstractList" "modCount" "I" (.int (0 : Int32)) := D1 (Or.inl (hw _ (List.mem_of_getElem? (i := 23) rfl))) (ty := .int) (by decide)
      have g3 : Fld Z h1 ad1 "java/util/ArrayList" "elementData" "[Ljava/lang/Object;" .null := D1 (Or.inl (hw _ (List.mem_of_getElem? (i := 26) rfl))) (ty := .array (.object "java/lang/Object")) (by decide)
      have g4 : Fld Z h1 ad1 "java/util/ArrayList" "size" "I" (.int (0 : Int32)) := D1 (Or.inl (hw _ (List.mem_of_getElem? (i := 58) rfl))) (ty := .int) (by decide)
      refine own_step (T' := T1) (g' := (mkF m 36 #[.val (.int p0), .val (.int p1), .val (.int p2), .val (.int p3), .val (.int ii), .val (.int ct), .val (.int (0 : Int32)), .unset, .unset, .unset] [(.ref ad1)])) st1 ?_
      refine own_step (T' := T1) (g' := (mkF m 37 #[.val (.int p0), .val (.int p1), .val (.int p2), .val (.int p3), .val (.int ii), .val (.int ct), .val (.int (0 : Int32)), .unset, .unset, .unset] [(.ref ad1), (.ref ad1)])) (fun t k => XS.dup X1.here hx rfl (hb hby at_36) rfl rfl k) ?_
      obtain ⟨_, _, ⟨T11, L11, k11, n11⟩, -, X11, ⟨Lc11, hQ11, lq11, yq11, zq11⟩, st11⟩ := X1.specialBack hx (y := (⟨"java/util/ArrayList", "<init>", "()V"⟩ : MethodName)) rfl hown (mvT hZ (hw _ (List.mem_of_getElem? (i := 4) rfl))) (mvT hZ (hw _ (List.mem_of_getElem? (i := 5) rfl))) (mvT hZ (hw _ (List.mem_of_getElem? (i := 6) rfl))) (by decide) (backOf (W := 1) (rm_ali l Z a0 hw [] ad1 (.int (0 : Int32)) .null de h1 n0 Z1 A1 g2 g3 g4 o1 O1 S_d) hZ (hw _ (List.mem_of_getElem? (i := 6) rfl)) (hw _ (List.mem_of_getElem? (i := 3) rfl)) (by decide) (by decide)) (g := (mkF m 37 #[.val (.int p0), .val (.int p1), .val (.int p2), .val (.int p3), .val (.int ii), .val (.int ct), .val (.int (0 : Int32)), .unset, .unset, .unset] [(.ref ad1), (.ref ad1)])) rfl (by rw [hml]; rfl) (Steps.refl _) (a := ad1) (argsL := []) (rest := [(.ref ad1)]) (lenOf pd_0 rfl) rfl (by show 2 * 0 + _ ≤ _; exact Nat.le_of_eq rfl) (hb hby at_37) (fun _ _ => ⟨rfl, e1, (by decide : 1 + 0 ≤ _), (by decide : 3 + 0 ≤ _)⟩)
      dsimp only [Pt.U, Pt.locs, Pt.cells, Pt.slots] at X11 lq11 yq11 zq11 st11 hQ11
      subst lq11 yq11 zq11
      obtain ⟨rfl, Nq11, K6, g7, g8, g9, g10⟩ := hQ11
      have N11 := Fr.app N0 Nq11
      have Z6 : n0 ≤ T11.heap.size := (Nat.le_trans Z1 K6.1)
      have O6 : Old Z n0 T11.heap := O1.keep K6 (allS (P := fun x => n0 ≤ x) o1 all0)
      refine own_tr (T' := T11) (g' := (mkF m 40 #[.val (.int p0), .val (.int p1), .val (.int p2), .val (.int p3), .val (.int ii), .val (.int ct), .val (.int (0 : Int32)), .unset, .unset, .unset] [(.ref ad1)])) st11 ?_
      refine own_step (T' := T11) (g' := (mkF m 42 #[.val (.int p0), .val (.int p1), .val (.int p2), .val (.int p3), .val (.int ii), .val (.int ct), .val (.int (0 : Int32)), .val (.ref ad1), .unset, .unset] [])) (fun t k => XS.astore X11.here hx rfl (hb hby at_40) rfl rfl (l' := #[.val (.int p0), .val (.int p1), .val (.int p2), .val (.int p3), .val (.int ii), .val (.int ct), .val (.int (0 : Int32)), .val (.ref ad1), .unset, .unset]) rfl k) ?_
      refine own_step (T' := T11) (g' := (mkF m 44 #[.val (.int p0), .val (.int p1), .val (.int p2), .val (.int p3), .val (.int ii), .val (.int ct), .val (.int (0 : Int32)), .val (.ref ad1), .unset, .unset] [(.int (0 : Int32))])) (fun t k => XS.iload X11.here hx rfl (hb hby at_42) rfl k) ?_
      refine own_step (T' := T11) (g' := (mkF m 68 #[.val (.int p0), .val (.int p1), .val (.int p2), .val (.int p3), .val (.int ii), .val (.int ct), .val (.int (0 : Int32)), .val (.ref ad1), .unset, .unset] [])) (fun t k => XS.ifYes X11.here hx rfl (pc0 := 44) (pc' := 68) rfl (hb hby at_44) rfl ((if0 _ _).trans (flt (by decide : ¬ ((0 : Int32) < (0 : Int32)))).2.2.2) (by decide) (by decide) k) ?_
      refine own_step (T' := T11) (g' := (mkF m 70 #[.val (.int p0), .val (.int p1), .val (.int p2), .val (.int p3), .val (.int ii), .val (.int ct), .val (.int (0 : Int32)), .val (.ref ad1), .unset, .unset] [(.int (0 : Int32))])) (fun t k => XS.iload X11.here hx rfl (hb hby at_68) rfl k) ?_
      refine own_step (T' := T11) (g' := (mkF m 71 #[.val (.int p0), .val (.int p1), .val (.int p2), .val (.int p3), .val (.int ii), .val (.int ct), .val (.int (0 : Int32)), .val (.ref ad1), .unset, .unset] [(.int (1 : Int32)), (.int (0 : Int32))])) (fun t k => XS.iconst X11.here hx rfl (hb hby at_70) k) ?_
      refine own_step (T' := T11) (g' := (mkF m 97 #[.val (.int p0), .val (.int p1), .val (.int p2), .val (.int p3), .val (.int ii), .val (.int ct), .val (.int (0 : Int32)), .val (.ref ad1), .unset, .unset] [])) (fun t k => XS.icmpYes X11.here hx rfl (pc0 := 71) (pc' := 97) rfl (hb hby at_71) rfl (flt (by decide : ¬ ((1 : Int32) < (0 : Int32)))).2.2.2 (by decide) (by decide) k) ?_
      refine own_step (T' := T11) (g' := (mkF m 99 #[.val (.int p0), .val (.int p1), .val (.int p2), .val (.int p3), .val (.int ii), .val (.int ct), .val (.int (0 : Int32)), .val (.ref ad1), .unset, .unset] [(.int (0 : Int32))])) (fun t k => XS.iload X11.here hx rfl (hb hby at_97) rfl k) ?_
      refine own_step (T' := T11) (g' := (mkF m 100 #[.val (.int p0), .val (.int p1), .val (.int p2), .val (.int p3), .val (.int ii), .val (.int ct), .val (.int (0 : Int32)), .val (.ref ad1), .unset, .unset] [(.int (2 : Int32)), (.int (0 : Int32))])) (fun t k => XS.iconst X11.here hx rfl (hb hby at_99) k) ?_
      refine own_step (T' := T11) (g' := (mkF m 126 #[.val (.int p0), .val (.int p1), .val (.int p2), .val (.int p3), .val (.int ii), .val (.int ct), .val (.int (0 : Int32)), .val (.ref ad1), .unset, .unset] [])) (fun t k => XS.icmpYes X11.here hx rfl (pc0 := 100) (pc' := 126) rfl (hb hby at_100) rfl (flt (by decide : ¬ ((2 : Int32) < (0 : Int32)))).2.2.2 (by decide) (by decide) k) ?_
      obtain ⟨T12, h12, X12, e12, E12, A12, D12, -, st12⟩ := newO X11 hx hZ hown (hw _ (List.mem_of_getElem? (i := 81) rfl)) (hw _ (List.mem_of_getElem? (i := 82) rfl)) (hw _ (List.mem_of_getElem? (i := 83) rfl)) rfl (g := (mkF m 126 #[.val (.int p0), .val (.int p1), .val (.int p2), .val (.int p3), .val (.int ii), .val (.int ct), .val (.int (0 : Int32)), .val (.ref ad1), .unset, .unset] [])) rfl (hb hby at_126) (by decide : 1 + 1 ≤ _) (by decide : 3 + 3 ≤ _)
      obtain ⟨ad12, g_ad12⟩ : ∃ z, z = T11.heap.size := ⟨_, rfl⟩
      rw [← g_ad12] at A12 D12 st12
      have g13 : Exa Z h12 ad1 "java/util/ArrayList" := g7.ext E12
      have g14 : Fld Z h12 ad1 "java/util/AbstractList" "modCount" "I" (.int (0 : Int32)) := g8.ext E12
      have g15 : Fld Z h12 ad1 "java/util/ArrayList" "elementData" "[Ljava/lang/Object;" (.ref de) := g9.ext E12
      have g16 : Fld Z h12 ad1 "java/util/ArrayList" "size" "I" (.int (0 : Int32)) := g10.ext E12
      have ne12_1 : ad1 ≠ ad12 := Nat.ne_of_lt (by rw [g_ad12]; exact g7.lt)
      have o12 : n0 ≤ ad12 := (Nat.le_trans Z6 (Nat.le_of_eq g_ad12.symm))
      have Z12 : n0 ≤ h12.size := (Nat.le_trans Z6 E12.1)
      have O12 : Old Z n0 h12 := O6.ext E12
      have g17 : Fld Z h12 ad12 "com/example/kempt_cursor/kemptcursor/Page" "items" "Ljava/util/List;" .null := D12 (Or.inr (hw _ (List.mem_of_getElem? (i := 174) rfl))) (ty := .object "java/util/List") (by decide)
      have g18 : Fld Z h12 ad12 "com/example/kempt_cursor/kemptcursor/Page" "index" "I" (.int (0 : Int32)) := D12 (Or.inr (hw _ (List.mem_of_getElem? (i := 176) rfl))) (ty := .int) (by decide)
      have g19 : Fld Z h12 ad12 "com/example/kempt_cursor/kemptcursor/Page" "count" "I" (.int (0 : Int32)) := D12 (Or.inr (hw _ (List.mem_of_getElem? (i := 178) rfl))) (ty := .int) (by decide)
      refine own_step (T' := T12) (g' := (mkF m 129 #[.val (.int p0), .val (.int p1), .val (.int p2), .val (.int p3), .val (.int ii), .val (.int ct), .val (.int (0 : Int32)), .val (.ref ad1), .unset, .unset] [(.ref ad12)])) st12 ?_
      refine own_step (T' := T12) (g' := (mkF m 130 #[.val (.int p0), .val (.int p1), .val (.int p2), .val (.int p3), .val (.int ii), .val (.int ct), .val (.int (0 : Int32)), .val (.ref ad1), .unset, .unset] [(.ref ad12), (.ref ad12)])) (fun t k => XS.dup X12.here hx rfl (hb hby at_129) rfl rfl k) ?_
      refine own_step (T' := T12) (g' := (mkF m 132 #[.val (.int p0), .val (.int p1), .val (.int p2), .val (.int p3), .val (.int ii), .val (.int ct), .val (.int (0 : Int32)), .val (.ref ad1), .unset, .unset] [(.ref ad1), (.ref ad12), (.ref ad12)])) (fun t k => XS.aload X12.here hx rfl (hb hby at_130) rfl rfl k) ?_
      refine own_step (T' := T12) (g' := (mkF m 134 #[.val (.int p0), .val (.int p1), .val (.int p2), .val (.int p3), .val (.int ii), .val (.int ct), .val (.int (0 : Int32)), .val (.ref ad1), .unset, .unset] [(.int ii), (.ref ad1), (.ref ad12), (.ref ad12)])) (fun t k => XS.iload X12.here hx rfl (hb hby at_132) rfl k) ?_
      refine own_step (T' := T12) (g' := (mkF m 136 #[.val (.int p0), .val (.int p1), .val (.int p2), .val (.int p3), .val (.int ii), .val (.int ct), .val (.int (0 : Int32)), .val (.ref ad1), .unset, .unset] [(.int ct), (.int ii), (.ref ad1), (.ref ad12), (.ref ad12)])) (fun t k => XS.iload X12.here hx rfl (hb hby at_134) rfl k) ?_
      obtain ⟨_, _, ⟨T24, L24, k24, n24⟩, -, X24, ⟨Lc24, hQ24, lq24, yq24, zq24⟩, st24⟩ := X12.specialBack hx (y := (⟨"com/example/kempt_cursor/kemptcursor/Page", "<init>", "(Ljava/util/List;II)V"⟩ : MethodName)) rfl hown (mvT hZ (hw _ (List.mem_of_getElem? (i := 84) rfl))) (mvT hZ (hw _ (List.mem_of_getElem? (i := 85) rfl))) (mvT hZ (hw _ (List.mem_of_getElem? (i := 86) rfl))) (by decide) (backOf (W := 1) (rm_pgi_0 l Z a0 hw [] ad12 ad1 el em mr ii ct .null (.int (0 : Int32)) (.int (0 : Int32)) h12 n0 Z12 A12 g17 g18 g19 g13 g16 o12 ne12_1 O12 S_el S_em M_o) hZ (hw _ (List.mem_of_getElem? (i := 86) rfl)) (hw _ (List.mem_of_getElem? (i := 83) rfl)) (by decide) (by decide)) (g := (mkF m 136 #[.val (.int p0), .val (.int p1), .val (.int p2), .val (.int p3), .val (.int ii), .val (.int ct), .val (.int (0 : Int32)), .val (.ref ad1), .unset, .unset] [(.int ct), (.int ii), (.ref ad1), (.ref ad12), (.ref ad12)])) rfl (by rw [hml]; rfl) (Steps.refl _) (a := ad12) (argsL := [(.ref ad1), (.int ii), (.int ct)]) (rest := [(.ref ad12)]) (lenOf pd_16 rfl) rfl (by show 2 * 0 + _ ≤ _; exact Nat.le_of_eq rfl) (hb hby at_136) (fun _ _ => ⟨rfl, e12, (by decide : 2 + 0 ≤ _), (by decide : 6 + 0 ≤ _)⟩)
      dsimp only [Pt.U, Pt.locs, Pt.cells, Pt.slots] at X24 lq24 yq24 zq24 st24 hQ24
      subst lq24 yq24 zq24
      obtain ⟨rfl, Nq24, K21, g22, g23⟩ := hQ24
      have N24 := Fr.app N11 Nq24
      have g25 : Exa Z T24.heap ad1 "java/util/ArrayList" := g13.keep K21
      have g26 : Fld Z T24.heap ad1 "java/util/AbstractList" "modCount" "I" (.int (0 : Int32)) := g14.keep K21 (ninS ne12_1 nin0)
      have g27 : Fld Z T24.heap ad1 "java/util/ArrayList" "elementData" "[Ljava/lang/Object;" (.ref de) := g15.keep K21 (ninS ne12_1 nin0)
      have g28 : Fld Z T24.heap ad1 "java/util/ArrayList" "size" "I" (.int (0 : Int32)) := g16.keep K21 (ninS ne12_1 nin0)
      have Z21 : n0 ≤ T24.heap.size := (Nat.le_trans Z12 K21.1)
      have O21 : Old Z n0 T24.heap := O12.keep K21 (allS (P := fun x => n0 ≤ x) o12 all0)
      refine own_tr (T' := T24) (g' := (mkF m 139 #[.val (.int p0), .val (.int p1), .val (.int p2), .val (.int p3), .val (.int ii), .val (.int ct), .val (.int (0 : Int32)), .val (.ref ad1), .unset, .unset] [(.ref ad12)])) st24 ?_
      refine own_step (T' := T24) (g' := (mkF m 141 #[.val (.int p0), .val (.int p1), .val (.int p2), .val (.int p3), .val (.int ii), .val (.int ct), .val (.int (0 : Int32)), .val (.ref ad1), .val (.ref ad12), .unset] [])) (fun t k => XS.astore X24.here hx rfl (hb hby at_139) rfl rfl (l' := #[.val (.int p0), .val (.int p1), .val (.int p2), .val (.int p3), .val (.int ii), .val (.int ct), .val (.int (0 : Int32)), .val (.ref ad1), .val (.ref ad12), .unset]) rfl k) ?_
      refine own_step (T' := T24) (g' := (mkF m 143 #[.val (.int p0), .val (.int p1), .val (.int p2), .val (.int p3), .val (.int ii), .val (.int ct), .val (.int (0 : Int32)), .val (.ref ad1), .val (.ref ad12), .unset] [(.int ii)])) (fun t k => XS.iload X24.here hx rfl (hb hby at_141) rfl k) ?_
      by_cases c143 : (0 : Int32) < ii
      · refine own_step (T' := T24) (g' := (mkF m 146 #[.val (.int p0), .val (.int p1), .val (.int p2), .val (.int p3), .val (.int ii), .val (.int ct), .val (.int (0 : Int32)), .val (.ref ad1), .val (.ref ad12), .unset] [])) (fun t k => XS.ifNo X24.here hx rfl (hb hby at_143) rfl ((if0 _ _).trans (tlt c143).2.2.2) k) ?_
        refine own_step (T' := T24) (g' := (mkF m 147 #[.val (.int p0), .val (.int p1), .val (.int p2), .val (.int p3), .val (.int ii), .val (.int ct), .val (.int (0 : Int32)), .val (.ref ad1), .val (.ref ad12), .unset] [(.int (1 : Int32))])) (fun t k => XS.iconst X24.here hx rfl (hb hby at_146) k) ?_
        refine own_step (T' := T24) (g' := (mkF m 151 #[.val (.int p0), .val (.int p1), .val (.int p2), .val (.int p3), .val (.int ii), .val (.int ct), .val (.int (0 : Int32)), .val (.ref ad1), .val (.ref ad12), .unset] [(.int (1 : Int32))])) (fun t k => XS.goto X24.here hx rfl (pc0 := 147) (pc' := 151) rfl (hb hby at_147) (by decide) (by decide) k) ?_
        refine own_step (T' := T24) (g' := (mkF m 153 #[.val (.int p0), .val (.int p1), .val (.int p2), .val (.int p3), .val (.int ii), .val (.int ct), .val (.int (0 : Int32)), .val (.ref ad1), .val (.ref ad12), .val (.int (1 : Int32))] [])) (fun t k => XS.istore X24.here hx rfl (hb hby at_151) rfl (l' := #[.val (.int p0), .val (.int p1), .val (.int p2), .val (.int p3), .val (.int ii), .val (.int ct), .val (.int (0 : Int32)), .val (.ref ad1), .val (.ref ad12), .val (.int (1 : Int32))]) rfl k) ?_
        refine own_step (T' := T24) (g' := (mkF m 155 #[.val (.int p0), .val (.int p1), .val (.int p2), .val (.int p3), .val (.int ii), .val (.int ct), .val (.int (0 : Int32)), .val (.ref ad1), .val (.ref ad12), .val (.int (1 : Int32))] [(.ref ad12)])) (fun t k => XS.aload X24.here hx rfl (hb hby at_153) rfl rfl k) ?_
        obtain ⟨cq32, kq32, q32a, q32b, q32c⟩ := isOf hZ rfl g22
        obtain ⟨_, _, ⟨T31, L31, k31, n31⟩, -, X31, ⟨Lc31, hQ31, lq31, yq31, zq31⟩, st31⟩ := X24.virtualBack hx (y := (⟨"com/example/kempt_cursor/kemptcursor/Page", "reachesStart", "()Z"⟩ : MethodName)) (z := (⟨"com/example/kempt_cursor/kemptcursor/Page", "reachesStart", "()Z"⟩ : MethodName)) hown (mvT hZ (hw _ (List.mem_of_getElem? (i := 179) rfl))) (mvT hZ (hw _ (List.mem_of_getElem? (i := 180) rfl))) (notFace_of_selects (args := #[]) (mvT hZ (hw _ (List.mem_of_getElem? (i := 182) rfl)))) (mvT hZ (hw _ (List.mem_of_getElem? (i := 182) rfl))) (mvT hZ (hw _ (List.mem_of_getElem? (i := 181) rfl))) (by decide) (backOf (W := 0) (rm_rea l Z a0 hw [] ad12 ii T24.heap n0 Z21 g23) hZ (hw _ (List.mem_of_getElem? (i := 183) rfl)) (hw _ (List.mem_of_getElem? (i := 83) rfl)) (by decide) (by decide)) q32a q32c (g := (mkF m 155 #[.val (.int p0), .val (.int p1), .val (.int p2), .val (.int p3), .val (.int ii), .val (.int ct), .val (.int (0 : Int32)), .val (.ref ad1), .val (.ref ad12), .val (.int (1 : Int32))] [(.ref ad12)])) rfl (by rw [hml]; rfl) (Steps.refl _) (argsL := []) (rest := []) (lenOf pd_13 rfl) rfl (by show 2 * 0 + _ ≤ _; exact Nat.le_of_eq rfl) (hb hby at_155) (fun _ _ => ⟨rfl, rfl, (by decide : 2 + 0 ≤ _), (by decide : 6 + 0 ≤ _)⟩)
        dsimp only [Pt.U, Pt.locs, Pt.cells, Pt.slots] at X31 lq31 yq31 zq31 st31 hQ31
        subst lq31 yq31 zq31
        obtain ⟨rfl, Nq31, eq30⟩ := hQ31
        have N31 := Fr.app N24 Nq31
        refine own_tr (T' := T31) (g' := (mkF m 158 #[.val (.int p0), .val (.int p1), .val (.int p2), .val (.int p3), .val (.int ii), .val (.int ct), .val (.int (0 : Int32)), .val (.ref ad1), .val (.ref ad12), .val (.int (1 : Int32))] [(.int (own_rs ii))])) st31 ?_
        refine own_step (T' := T31) (g' := (mkF m 160 #[.val (.int p0), .val (.int p1), .val (.int p2), .val (.int p3), .val (.int ii), .val (.int ct), .val (.int (0 : Int32)), .val (.ref ad1), .val (.ref ad12), .val (.int (1 : Int32))] [(.int (1 : Int32)), (.int (own_rs ii))])) (fun t k => XS.iload X31.here hx rfl (hb hby at_158) rfl k) ?_
        refine own_step (T' := T31) (g' := (mkF m 167 #[.val (.int p0), .val (.int p1), .val (.int p2), .val (.int p3), .val (.int ii), .val (.int ct), .val (.int (0 : Int32)), .val (.ref ad1), .val (.ref ad12), .val (.int (1 : Int32))] [(.int (own_rs ii))])) (fun t k => XS.ifYes X31.here hx rfl (pc0 := 160) (pc' := 167) rfl (hb hby at_160) rfl ((if0 _ _).trans (feq (by decide : ¬ ((1 : Int32) = (0 : Int32)))).2) (by decide) (by decide) k) ?_
        refine own_step (T' := T31) (g' := (mkF m 168 #[.val (.int p0), .val (.int p1), .val (.int p2), .val (.int p3), .val (.int ii), .val (.int ct), .val (.int (0 : Int32)), .val (.ref ad1), .val (.ref ad12), .val (.int (1 : Int32))] [(.int (0 : Int32)), (.int (own_rs ii))])) (fun t k => XS.iconst X31.here hx rfl (hb hby at_167) k) ?_
        refine own_step (T' := T31) (g' := (mkF m 171 #[.val (.int p0), .val (.int p1), .val (.int p2), .val (.int p3), .val (.int ii), .val (.int ct), .val (.int (0 : Int32)), .val (.ref ad1), .val (.ref ad12), .val (.int (1 : Int32))] [])) (fun t k => XS.icmpNo X31.here hx rfl (hb hby at_168) rfl (teq (own_rs1 c143)).2 k) ?_
        refine own_step (T' := T31) (g' := (mkF m 172 #[.val (.int p0), .val (.int p1), .val (.int p2), .val (.int p3), .val (.int ii), .val (.int ct), .val (.int (0 : Int32)), .val (.ref ad1), .val (.ref ad12), .val (.int (1 : Int32))] [(.int (1 : Int32))])) (fun t k => XS.iconst X31.here hx rfl (hb hby at_171) k) ?_
        refine own_step (T' := T31) (g' := (mkF m 176 #[.val (.int p0), .val (.int p1), .val (.int p2), .val (.int p3), .val (.int ii), .val (.int ct), .val (.int (0 : Int32)), .val (.ref ad1), .val (.ref ad12), .val (.int (1 : Int32))] [(.int (1 : Int32))])) (fun t k => XS.goto X31.here hx rfl (pc0 := 172) (pc' := 176) rfl (hb hby at_172) (by decide) (by decide) k) ?_
        refine own_rN X31 hx hlk Bd.returns (by simp) (hb hby at_176) ?_ (by decide) (by decide)
        rw [eq30]
        exact ⟨rfl, N31⟩
      · refine own_step (T' := T24) (g' := (mkF m 150 #[.val (.int p0), .val (.int p1), .val (.int p2), .val (.int p3), .val (.int ii), .val (.int ct), .val (.int (0 : Int32)), .val (.ref ad1), .val (.ref ad12), .unset] [])) (fun t k => XS.ifYes X24.here hx rfl (pc0 := 143) (pc' := 150) rfl (hb hby at_143) rfl ((if0 _ _).trans (flt c143).2.2.2) (by decide) (by decide) k) ?_
        refine own_step (T' := T24) (g' := (mkF m 151 #[.val (.int p0), .val (.int p1), .val (.int p2), .val (.int p3), .val (.int ii), .val (.int ct), .val (.int (0 : Int32)), .val (.ref ad1), .val (.ref ad12), .unset] [(.int (0 : Int32))])) (fun t k => XS.iconst X24.here hx rfl (hb hby at_150) k) ?_
        refine own_step (T' := T24) (g' := (mkF m 153 #[.val (.int p0), .val (.int p1), .val (.int p2), .val (.int p3), .val (.int ii), .val (.int ct), .val (.int (0 : Int32)), .val (.ref ad1), .val (.ref ad12), .val (.int (0 : Int32))] [])) (fun t k => XS.istore X24.here hx rfl (hb hby at_151) rfl (l' := #[.val (.int p0), .val (.int p1), .val (.int p2), .val (.int p3), .val (.int ii), .val (.int ct), .val (.int (0 : Int32)), .val (.ref ad1), .val (.ref ad12), .val (.int (0 : Int32))]) rfl k) ?_
        refine own_step (T' := T24) (g' := (mkF m 155 #[.val (.int p0), .val (.int p1), .val (.int p2), .val (.int p3), .val (.int ii), .val (.int ct), .val (.int (0 : Int32)), .val (.ref ad1), .val (.ref ad12), .val (.int (0 : Int32))] [(.ref ad12)])) (fun t k => XS.aload X24.here hx rfl (hb hby at_153) rfl rfl k) ?_
        obtain ⟨cq36, kq36, q36a, q36b, q36c⟩ := isOf hZ rfl g22
        obtain ⟨_, _, ⟨T35, L35, k35, n35⟩, -, X35, ⟨Lc35, hQ35, lq35, yq35, zq35⟩, st35⟩ := X24.virtualBack hx (y := (⟨"com/example/kempt_cursor/kemptcursor/Page", "reachesStart", "()Z"⟩ : MethodName)) (z := (⟨"com/example/kempt_cursor/kemptcursor/Page", "reachesStart", "()Z"⟩ : MethodName)) hown (mvT hZ (hw _ (List.mem_of_getElem? (i := 179) rfl))) (mvT hZ (hw _ (List.mem_of_getElem? (i := 180) rfl))) (notFace_of_selects (args := #[]) (mvT hZ (hw _ (List.mem_of_getElem? (i := 182) rfl)))) (mvT hZ (hw _ (List.mem_of_getElem? (i := 182) rfl))) (mvT hZ (hw _ (List.mem_of_getElem? (i := 181) rfl))) (by decide) (backOf (W := 0) (rm_rea l Z a0 hw [] ad12 ii T24.heap n0 Z21 g23) hZ (hw _ (List.mem_of_getElem? (i := 183) rfl)) (hw _ (List.mem_of_getElem? (i := 83) rfl)) (by decide) (by decide)) q36a q36c (g := (mkF m 155 #[.val (.int p0), .val (.int p1), .val (.int p2), .val (.int p3), .val (.int ii), .val (.int ct), .val (.int (0 : Int32)), .val (.ref ad1), .val (.ref ad12), .val (.int (0 : Int32))] [(.ref ad12)])) rfl (by rw [hml]; rfl) (Steps.refl _) (argsL := []) (rest := []) (lenOf pd_13 rfl) rfl (by show 2 * 0 + _ ≤ _; exact Nat.le_of_eq rfl) (hb hby at_155) (fun _ _ => ⟨rfl, rfl, (by decide : 2 + 0 ≤ _), (by decide : 6 + 0 ≤ _)⟩)
        dsimp only [Pt.U, Pt.locs, Pt.cells, Pt.slots] at X35 lq35 yq35 zq35 st35 hQ35
        subst lq35 yq35 zq35
        obtain ⟨rfl, Nq35, eq34⟩ := hQ35
        have N35 := Fr.app N24 Nq35
        refine own_tr (T' := T35) (g' := (mkF m 158 #[.val (.int p0), .val (.int p1), .val (.int p2), .val (.int p3), .val (.int ii), .val (.int ct), .val (.int (0 : Int32)), .val (.ref ad1), .val (.ref ad12), .val (.int (0 : Int32))] [(.int (own_rs ii))])) st35 ?_
        refine own_step (T' := T35) (g' := (mkF m 160 #[.val (.int p0), .val (.int p1), .val (.int p2), .val (.int p3), .val (.int ii), .val (.int ct), .val (.int (0 : Int32)), .val (.ref ad1), .val (.ref ad12), .val (.int (0 : Int32))] [(.int (0 : Int32)), (.int (own_rs ii))])) (fun t k => XS.iload X35.here hx rfl (hb hby at_158) rfl k) ?_
        refine own_step (T' := T35) (g' := (mkF m 163 #[.val (.int p0), .val (.int p1), .val (.int p2), .val (.int p3), .val (.int ii), .val (.int ct), .val (.int (0 : Int32)), .val (.ref ad1), .val (.ref ad12), .val (.int (0 : Int32))] [(.int (own_rs ii))])) (fun t k => XS.ifNo X35.here hx rfl (hb hby at_160) rfl ((if0 _ _).trans (teq (by decide : ((0 : Int32) = (0 : Int32)))).2) k) ?_
        refine own_step (T' := T35) (g' := (mkF m 164 #[.val (.int p0), .val (.int p1), .val (.int p2), .val (.int p3), .val (.int ii), .val (.int ct), .val (.int (0 : Int32)), .val (.ref ad1), .val (.ref ad12), .val (.int (0 : Int32))] [(.int (1 : Int32)), (.int (own_rs ii))])) (fun t k => XS.iconst X35.here hx rfl (hb hby at_163) k) ?_
        refine own_step (T' := T35) (g' := (mkF m 168 #[.val (.int p0), .val (.int p1), .val (.int p2), .val (.int p3), .val (.int ii), .val (.int ct), .val (.int (0 : Int32)), .val (.ref ad1), .val (.ref ad12), .val (.int (0 : Int32))] [(.int (1 : Int32)), (.int (own_rs ii))])) (fun t k => XS.goto X35.here hx rfl (pc0 := 164) (pc' := 168) rfl (hb hby at_164) (by decide) (by decide) k) ?_
        refine own_step (T' := T35) (g' := (mkF m 171 #[.val (.int p0), .val (.int p1), .val (.int p2), .val (.int p3), .val (.int ii), .val (.int ct), .val (.int (0 : Int32)), .val (.ref ad1), .val (.ref ad12), .val (.int (0 : Int32))] [])) (fun t k => XS.icmpNo X35.here hx rfl (hb hby at_168) rfl (teq (own_rs0 hii c143)).2 k) ?_
        refine own_step (T' := T35) (g' := (mkF m 172 #[.val (.int p0), .val (.int p1), .val (.int p2), .val (.int p3), .val (.int ii), .val (.int ct), .val (.int (0 : Int32)), .val (.ref ad1), .val (.ref ad12), .val (.int (0 : Int32))] [(.int (1 : Int32))])) (fun t k => XS.iconst X35.here hx rfl (hb hby at_171) k) ?_
        refine own_step (T' := T35) (g' := (mkF m 176 #[.val (.int p0), .val (.int p1), .val (.int p2), .val (.int p3), .val (.int ii), .val (.int ct), .val (.int (0 : Int32)), .val (.ref ad1), .val (.ref ad12), .val (.int (0 : Int32))] [(.int (1 : Int32))])) (fun t k => XS.goto X35.here hx rfl (pc0 := 172) (pc' := 176) rfl (hb hby at_172) (by decide) (by decide) k) ?_
        refine own_rN X35 hx hlk Bd.returns (by simp) (hb hby at_176) ?_ (by decide) (by decide)
        rw [eq34]
        exact ⟨rfl, N35⟩
    · obtain ⟨T37, h37, X37, e37, E37, A37, D37, -, st37⟩ := newO X0 hx hZ hown (hw _ (List.mem_of_getElem? (i := 1) rfl)) (hw _ (List.mem_of_getElem? (i := 2) rfl)) (hw _ (List.mem_of_getElem? (i := 3) rfl)) e0 (g := (mkF m 33 #[.val (.int p0), .val (.int p1), .val (.int p2), .val (.int p3), .val (.int ii), .val (.int ct), .val (.int (1 : Int32)), .unset, .unset, .unset] [])) rfl (hb hby at_33) (by decide : 0 + 1 ≤ _) (by decide : 0 + 3 ≤ _)
      obtain ⟨ad37, g_ad37⟩ : ∃ z, z = h0.size := ⟨_, rfl⟩
      rw [← g_ad37] at A37 D37 st37
      have o37 : n0 ≤ ad37 := (Nat.le_trans Z0 (Nat.le_of_eq g_ad37.symm))
      have Z37 : n0 ≤ h37.size := (Nat.le_trans Z0 E37.1)
      have O37 : Old Z n0 h37 := O0.ext E37
      have g38 : Fld Z h37 ad37 "java/util/AbstractList" "modCount" "I" (.int (0 : Int32)) := D37 (Or.inl (hw _ (List.mem_of_getElem? (i := 23) rfl))) (ty := .int) (by decide)
      have g39 : Fld Z h37 ad37 "java/util/ArrayList" "elementData" "[Ljava/lang/Object;" .null := D37 (Or.inl (hw _ (List.mem_of_getElem? (i := 26) rfl))) (ty := .array (.object "java/lang/Object")) (by decide)
      have g40 : Fld Z h37 ad37 "java/util/ArrayList" "size" "I" (.int (0 : Int32)) := D37 (Or.inl (hw _ (List.mem_of_getElem? (i := 58) rfl))) (ty := .int) (by decide)
      refine own_step (T' := T37) (g' := (mkF m 36 #[.val (.int p0), .val (.int p1), .val (.int p2), .val (.int p3), .val (.int ii), .val (.int ct), .val (.int (1 : Int32)), .unset, .unset, .unset] [(.ref ad37)])) st37 ?_
      refine own_step (T' := T37) (g' := (mkF m 37 #[.val (.int p0), .val (.int p1), .val (.int p2), .val (.int p3), .val (.int ii), .val (.int ct), .val (.int (1 : Int32)), .unset, .unset, .unset] [(.ref ad37), (.ref ad37)])) (fun t k => XS.dup X37.here hx rfl (hb hby at_36) rfl rfl k) ?_
      obtain ⟨_, _, ⟨T47, L47, k47, n47⟩, -, X47, ⟨Lc47, hQ47, lq47, yq47, zq47⟩, st47⟩ := X37.specialBack hx (y := (⟨"java/util/ArrayList", "<init>", "()V"⟩ : MethodName)) rfl hown (mvT hZ (hw _ (List.mem_of_getElem? (i := 4) rfl))) (mvT hZ (hw _ (List.mem_of_getElem? (i := 5) rfl))) (mvT hZ (hw _ (List.mem_of_getElem? (i := 6) rfl))) (by decide) (backOf (W := 1) (rm_ali l Z a0 hw [] ad37 (.int (0 : Int32)) .null de h37 n0 Z37 A37 g38 g39 g40 o37 O37 S_d) hZ (hw _ (List.mem_of_getElem? (i := 6) rfl)) (hw _ (List.mem_of_getElem? (i := 3) rfl)) (by decide) (by decide)) (g := (mkF m 37 #[.val (.int p0), .val (.int p1), .val (.int p2), .val (.int p3), .val (.int ii), .val (.int ct), .val (.int (1 : Int32)), .unset, .unset, .unset] [(.ref ad37), (.ref ad37)])) rfl (by rw [hml]; rfl) (Steps.refl _) (a := ad37) (argsL := []) (rest := [(.ref ad37)]) (lenOf pd_0 rfl) rfl (by show 2 * 0 + _ ≤ _; exact Nat.le_of_eq rfl) (hb hby at_37) (fun _ _ => ⟨rfl, e37, (by decide : 1 + 0 ≤ _), (by decide : 3 + 0 ≤ _)⟩)
      dsimp only [Pt.U, Pt.locs, Pt.cells, Pt.slots] at X47 lq47 yq47 zq47 st47 hQ47
      subst lq47 yq47 zq47
      obtain ⟨rfl, Nq47, K42, g43, g44, g45, g46⟩ := hQ47
      have N47 := Fr.app N0 Nq47
      have Z42 : n0 ≤ T47.heap.size := (Nat.le_trans Z37 K42.1)
      have O42 : Old Z n0 T47.heap := O37.keep K42 (allS (P := fun x => n0 ≤ x) o37 all0)
      refine own_tr (T' := T47) (g' := (mkF m 40 #[.val (.int p0), .val (.int p1), .val (.int p2), .val (.int p3), .val (.int ii), .val (.int ct), .val (.int (1 : Int32)), .unset, .unset, .unset] [(.ref ad37)])) st47 ?_
      refine own_step (T' := T47) (g' := (mkF m 42 #[.val (.int p0), .val (.int p1), .val (.int p2), .val (.int p3), .val (.int ii), .val (.int ct), .val (.int (1 : Int32)), .val (.ref ad37), .unset, .unset] [])) (fun t k => XS.astore X47.here hx rfl (hb hby at_40) rfl rfl (l' := #[.val (.int p0), .val (.int p1), .val (.int p2), .val (.int p3), .val (.int ii), .val (.int ct), .val (.int (1 : Int32)), .val (.ref ad37), .unset, .unset]) rfl k) ?_
      refine own_step (T' := T47) (g' := (mkF m 44 #[.val (.int p0), .val (.int p1), .val (.int p2), .val (.int p3), .val (.int ii), .val (.int ct), .val (.int (1 : Int32)), .val (.ref ad37), .unset, .unset] [(.int (1 : Int32))])) (fun t k => XS.iload X47.here hx rfl (hb hby at_42) rfl k) ?_
      refine own_step (T' := T47) (g' := (mkF m 47 #[.val (.int p0), .val (.int p1), .val (.int p2), .val (.int p3), .val (.int ii), .val (.int ct), .val (.int (1 : Int32)), .val (.ref ad37), .unset, .unset] [])) (fun t k => XS.ifNo X47.here hx rfl (hb hby at_44) rfl ((if0 _ _).trans (tlt (by decide : ((0 : Int32) < (1 : Int32)))).2.2.2) k) ?_
      refine own_step (T' := T47) (g' := (mkF m 49 #[.val (.int p0), .val (.int p1), .val (.int p2), .val (.int p3), .val (.int ii), .val (.int ct), .val (.int (1 : Int32)), .val (.ref ad37), .unset, .unset] [(.ref ad37)])) (fun t k => XS.aload X47.here hx rfl (hb hby at_47) rfl rfl k) ?_
      obtain ⟨T48, h48, X48, e48, E48, A48, D48, -, st48⟩ := newO X47 hx hZ hown (hw _ (List.mem_of_getElem? (i := 27) rfl)) (hw _ (List.mem_of_getElem? (i := 28) rfl)) (hw _ (List.mem_of_getElem? (i := 29) rfl)) rfl (g := (mkF m 49 #[.val (.int p0), .val (.int p1), .val (.int p2), .val (.int p3), .val (.int ii), .val (.int ct), .val (.int (1 : Int32)), .val (.ref ad37), .unset, .unset] [(.ref ad37)])) rfl (hb hby at_49) (by decide : 1 + 1 ≤ _) (by decide : 3 + 2 ≤ _)
      obtain ⟨ad48, g_ad48⟩ : ∃ z, z = T47.heap.size := ⟨_, rfl⟩
      rw [← g_ad48] at A48 D48 st48
      have g49 : Exa Z h48 ad37 "java/util/ArrayList" := g43.ext E48
      have g50 : Fld Z h48 ad37 "java/util/AbstractList" "modCount" "I" (.int (0 : Int32)) := g44.ext E48
      have g51 : Fld Z h48 ad37 "java/util/ArrayList" "elementData" "[Ljava/lang/Object;" (.ref de) := g45.ext E48
      have g52 : Fld Z h48 ad37 "java/util/ArrayList" "size" "I" (.int (0 : Int32)) := g46.ext E48
      have ne48_1 : ad37 ≠ ad48 := Nat.ne_of_lt (by rw [g_ad48]; exact g43.lt)
      have o48 : n0 ≤ ad48 := (Nat.le_trans Z42 (Nat.le_of_eq g_ad48.symm))
      have Z48 : n0 ≤ h48.size := (Nat.le_trans Z42 E48.1)
      have O48 : Old Z n0 h48 := O42.ext E48
      have g53 : Fld Z h48 ad48 "com/example/kempt_cursor/kemptcursor/Keyed" "key" "Ljava/lang/Object;" .null := D48 (Or.inr (hw _ (List.mem_of_getElem? (i := 47) rfl))) (ty := .object "java/lang/Object") (by decide)
      have g54 : Fld Z h48 ad48 "com/example/kempt_cursor/kemptcursor/Keyed" "value" "Ljava/lang/Object;" .null := D48 (Or.inr (hw _ (List.mem_of_getElem? (i := 49) rfl))) (ty := .object "java/lang/Object") (by decide)
      refine own_step (T' := T48) (g' := (mkF m 52 #[.val (.int p0), .val (.int p1), .val (.int p2), .val (.int p3), .val (.int ii), .val (.int ct), .val (.int (1 : Int32)), .val (.ref ad37), .unset, .unset] [(.ref ad48), (.ref ad37)])) st48 ?_
      refine own_step (T' := T48) (g' := (mkF m 53 #[.val (.int p0), .val (.int p1), .val (.int p2), .val (.int p3), .val (.int ii), .val (.int ct), .val (.int (1 : Int32)), .val (.ref ad37), .unset, .unset] [(.ref ad48), (.ref ad48), (.ref ad37)])) (fun t k => XS.dup X48.here hx rfl (hb hby at_52) rfl rfl k) ?_
      refine own_step (T' := T48) (g' := (mkF m 54 #[.val (.int p0), .val (.int p1), .val (.int p2), .val (.int p3), .val (.int ii), .val (.int ct), .val (.int (1 : Int32)), .val (.ref ad37), .unset, .unset] [(.int p3), (.ref ad48), (.ref ad48), (.ref ad37)])) (fun t k => XS.iloadN X48.here hx rfl (hb hby at_53) rfl k) ?_
      obtain ⟨_, _, ⟨T57, L57, k57, n57⟩, -, X57, ⟨Lc57, hQ57, lq57, yq57, zq57⟩, st57⟩ := Jvm.LawKit.callS X48 hx (y := (⟨"java/lang/Integer", "valueOf", "(I)Ljava/lang/Integer;"⟩ : MethodName)) hown (mvT hZ (hw _ (List.mem_of_getElem? (i := 30) rfl))) (mvT hZ (hw _ (List.mem_of_getElem? (i := 31) rfl))) (mvT hZ (hw _ (List.mem_of_getElem? (i := 32) rfl))) (mvT hZ (hw _ (List.mem_of_getElem? (i := 33) rfl))) (by decide) (backOf (W := 3) (rm_vo l Z a0 hw [] p3 ca cc h48 n0 Z48 O48 S_h S_c A_c H_c) hZ (hw _ (List.mem_of_getElem? (i := 33) rfl)) (hw _ (List.mem_of_getElem? (i := 32) rfl)) (by decide) (by decide)) (g := (mkF m 54 #[.val (.int p0), .val (.int p1), .val (.int p2), .val (.int p3), .val (.int ii), .val (.int ct), .val (.int (1 : Int32)), .val (.ref ad37), .unset, .unset] [(.int p3), (.ref ad48), (.ref ad48), (.ref ad37)])) rfl (by rw [hml]; rfl) (argsL := [(.int p3)]) (rest := [(.ref ad48), (.ref ad48), (.ref ad37)]) (lenOf pd_17 rfl) rfl (by show 2 * 0 + _ ≤ _; exact Nat.le_of_eq rfl) (hb hby at_54) (fun _ _ => ⟨rfl, e48, (by decide : 2 + 1 ≤ _), (by decide : 5 + 1 ≤ _)⟩)
      dsimp only [Pt.U, Pt.locs, Pt.cells, Pt.slots] at X57 lq57 yq57 zq57 st57 hQ57
      subst lq57 yq57 zq57
      obtain ⟨r55, rfl, Nq57, K56⟩ := hQ57
      have N57 := Fr.app N47 Nq57
      have g58 : Exa Z T57.heap ad37 "java/util/ArrayList" := g49.keep K56
      have g59 : Fld Z T57.heap ad37 "java/util/AbstractList" "modCount" "I" (.int (0 : Int32)) := g50.keep K56 nin0
      have g60 : Fld Z T57.heap ad37 "java/util/ArrayList" "elementData" "[Ljava/lang/Object;" (.ref de) := g51.keep K56 nin0
      have g61 : Fld Z T57.heap ad37 "java/util/ArrayList" "size" "I" (.int (0 : Int32)) := g52.keep K56 nin0
      have g62 : Exa Z T57.heap ad48 "com/example/kempt_cursor/kemptcursor/Keyed" := A48.keep K56
      have g63 : Fld Z T57.heap ad48 "com/example/kempt_cursor/kemptcursor/Keyed" "key" "Ljava/lang/Object;" .null := g53.keep K56 nin0
      have g64 : Fld Z T57.heap ad48 "com/example/kempt_cursor/kemptcursor/Keyed" "value" "Ljava/lang/Object;" .null := g54.keep K56 nin0
      have Z56 : n0 ≤ T57.heap.size := (Nat.le_trans Z48 K56.1)
      have O56 : Old Z n0 T57.heap := O48.keep K56 (all0 (P := fun x => n0 ≤ x))
      refine own_step (T' := T57) (g' := (mkF m 57 #[.val (.int p0), .val (.int p1), .val (.int p2), .val (.int p3), .val (.int ii), .val (.int ct), .val (.int (1 : Int32)), .val (.ref ad37), .unset, .unset] [(.ref r55), (.ref ad48), (.ref ad48), (.ref ad37)])) st57 ?_
      refine own_step (T' := T57) (g' := (mkF m 58 #[.val (.int p0), .val (.int p1), .val (.int p2), .val (.int p3), .val (.int ii), .val (.int ct), .val (.int (1 : Int32)), .val (.ref ad37), .unset, .unset] [(.int (0 : Int32)), (.ref r55), (.ref ad48), (.ref ad48), (.ref ad37)])) (fun t k => XS.iconst X57.here hx rfl (hb hby at_57) k) ?_
      obtain ⟨_, _, ⟨T67, L67, k67, n67⟩, -, X67, ⟨Lc67, hQ67, lq67, yq67, zq67⟩, st67⟩ := Jvm.LawKit.callS X57 hx (y := (⟨"java/lang/Integer", "valueOf", "(I)Ljava/lang/Integer;"⟩ : MethodName)) hown (mvT hZ (hw _ (List.mem_of_getElem? (i := 30) rfl))) (mvT hZ (hw _ (List.mem_of_getElem? (i := 31) rfl))) (mvT hZ (hw _ (List.mem_of_getElem? (i := 32) rfl))) (mvT hZ (hw _ (List.mem_of_getElem? (i := 33) rfl))) (by decide) (backOf (W := 4) (rm_vo l Z a0 hw [] (0 : Int32) ca cc T57.heap n0 Z56 O56 S_h S_c A_c H_c) hZ (hw _ (List.mem_of_getElem? (i := 33) rfl)) (hw _ (List.mem_of_getElem? (i := 32) rfl)) (by decide) (by decide)) (g := (mkF m 58 #[.val (.int p0), .val (.int p1), .val (.int p2), .val (.int p3), .val (.int ii), .val (.int ct), .val (.int (1 : Int32)), .val (.ref ad37), .unset, .unset] [(.int (0 : Int32)), (.ref r55), (.ref ad48), (.ref ad48), (.ref ad37)])) rfl (by rw [hml]; rfl) (argsL := [(.int (0 : Int32))]) (rest := [(.ref r55), (.ref ad48), (.ref ad48), (.ref ad37)]) (lenOf pd_17 rfl) rfl (by show 2 * 0 + _ ≤ _; exact Nat.le_of_eq rfl) (hb hby at_58) (fun _ _ => ⟨rfl, rfl, (by decide : 3 + 1 ≤ _), (by decide : 6 + 1 ≤ _)⟩)
      dsimp only [Pt.U, Pt.locs, Pt.cells, Pt.slots] at X67 lq67 yq67 zq67 st67 hQ67
      subst lq67 yq67 zq67
      obtain ⟨r65, rfl, Nq67, K66⟩ := hQ67
      have N67 := Fr.app N57 Nq67
      have g68 : Exa Z T67.heap ad37 "java/util/ArrayList" := g58.keep K66
      have g69 : Fld Z T67.heap ad37 "java/util/AbstractList" "modCount" "I" (.int (0 : Int32)) := g59.keep K66 nin0
      have g70 : Fld Z T67.heap ad37 "java/util/ArrayList" "elementData" "[Ljava/lang/Object;" (.ref de) := g60.keep K66 nin0
      have g71 : Fld Z T67.heap ad37 "java/util/ArrayList" "size" "I" (.int (0 : Int32)) := g61.keep K66 nin0
      have g72 : Exa Z T67.heap ad48 "com/example/kempt_cursor/kemptcursor/Keyed" := g62.keep K66
      have g73 : Fld Z T67.heap ad48 "com/example/kempt_cursor/kemptcursor/Keyed" "key" "Ljava/lang/Object;" .null := g63.keep K66 nin0
      have g74 : Fld Z T67.heap ad48 "com/example/kempt_cursor/kemptcursor/Keyed" "value" "Ljava/lang/Object;" .null := g64.keep K66 nin0
      have Z66 : n0 ≤ T67.heap.size := (Nat.le_trans Z56 K66.1)
      have O66 : Old Z n0 T67.heap := O56.keep K66 (all0 (P := fun x => n0 ≤ x))
      refine own_step (T' := T67) (g' := (mkF m 61 #[.val (.int p0), .val (.int p1), .val (.int p2), .val (.int p3), .val (.int ii), .val (.int ct), .val (.int (1 : Int32)), .val (.ref ad37), .unset, .unset] [(.ref r65), (.ref r55), (.ref ad48), (.ref ad48), (.ref ad37)])) st67 ?_
      obtain ⟨_, _, ⟨T79, L79, k79, n79⟩, -, X79, ⟨Lc79, hQ79, lq79, yq79, zq79⟩, st79⟩ := X67.specialBack hx (y := (⟨"com/example/kempt_cursor/kemptcursor/Keyed", "<init>", "(Ljava/lang/Object;Ljava/lang/Object;)V"⟩ : MethodName)) rfl hown (mvT hZ (hw _ (List.mem_of_getElem? (i := 37) rfl))) (mvT hZ (hw _ (List.mem_of_getElem? (i := 38) rfl))) (mvT hZ (hw _ (List.mem_of_getElem? (i := 39) rfl))) (by decide) (backOf (W := 2) (rm_kyi l Z a0 hw [] ad48 r55 r65 _ _ T67.heap n0 Z66 g72 g73 g74 o48) hZ (hw _ (List.mem_of_getElem? (i := 39) rfl)) (hw _ (List.mem_of_getElem? (i := 29) rfl)) (by decide) (by decide)) (g := (mkF m 61 #[.val (.int p0), .val (.int p1), .val (.int p2), .val (.int p3), .val (.int ii), .val (.int ct), .val (.int (1 : Int32)), .val (.ref ad37), .unset, .unset] [(.ref r65), (.ref r55), (.ref ad48), (.ref ad48), (.ref ad37)])) rfl (by rw [hml]; rfl) (Steps.refl _) (a := ad48) (argsL := [(.ref r55), (.ref r65)]) (rest := [(.ref ad48), (.ref ad37)]) (lenOf pd_11 rfl) rfl (by show 2 * 0 + _ ≤ _; exact Nat.le_of_eq rfl) (hb hby at_61) (fun _ _ => ⟨rfl, rfl, (by decide : 4 + 0 ≤ _), (by decide : 7 + 0 ≤ _)⟩)
      dsimp only [Pt.U, Pt.locs, Pt.cells, Pt.slots] at X79 lq79 yq79 zq79 st79 hQ79
      subst lq79 yq79 zq79
      obtain ⟨rfl, Nq79, K75, g76, g77, g78⟩ := hQ79
      have N79 := Fr.app N67 Nq79
      have g80 : Exa Z T79.heap ad37 "java/util/ArrayList" := g68.keep K75
      have g81 : Fld Z T79.heap ad37 "java/util/AbstractList" "modCount" "I" (.int (0 : Int32)) := g69.keep K75 (ninS ne48_1 nin0)
      have g82 : Fld Z T79.heap ad37 "java/util/ArrayList" "elementData" "[Ljava/lang/Object;" (.ref de) := g70.keep K75 (ninS ne48_1 nin0)
      have g83 : Fld Z T79.heap ad37 "java/util/ArrayList" "size" "I" (.int (0 : Int32)) := g71.keep K75 (ninS ne48_1 nin0)
      have Z75 : n0 ≤ T79.heap.size := (Nat.le_trans Z66 K75.1)
      have O75 : Old Z n0 T79.heap := O66.keep K75 (allS (P := fun x => n0 ≤ x) o48 all0)
      refine own_tr (T' := T79) (g' := (mkF m 64 #[.val (.int p0), .val (.int p1), .val (.int p2), .val (.int p3), .val (.int ii), .val (.int ct), .val (.int (1 : Int32)), .val (.ref ad37), .unset, .unset] [(.ref ad48), (.ref ad37)])) st79 ?_
      obtain ⟨cq94, kq94, q94a, q94b, q94c⟩ := isOf hZ rfl g80
      obtain ⟨_, _, ⟨T93, L93, k93, n93⟩, -, X93, ⟨Lc93, hQ93, lq93, yq93, zq93⟩, st93⟩ := X79.virtualBack hx (y := (⟨"java/util/ArrayList", "add", "(Ljava/lang/Object;)Z"⟩ : MethodName)) (z := (⟨"java/util/ArrayList", "add", "(Ljava/lang/Object;)Z"⟩ : MethodName)) hown (mvT hZ (hw _ (List.mem_of_getElem? (i := 50) rfl))) (mvT hZ (hw _ (List.mem_of_getElem? (i := 51) rfl))) (notFace_of_selects (args := #[]) (mvT hZ (hw _ (List.mem_of_getElem? (i := 53) rfl)))) (mvT hZ (hw _ (List.mem_of_getElem? (i := 53) rfl))) (mvT hZ (hw _ (List.mem_of_getElem? (i := 52) rfl))) (by decide) (backOf (W := 0) (rm_ad1_0 l Z a0 hw [] ad37 ad48 de kd T79.heap n0 Z75 g80 g82 g83 g76 g81 o37 ne48_1 O75 S_d V_d) hZ (hw _ (List.mem_of_getElem? (i := 54) rfl)) (hw _ (List.mem_of_getElem? (i := 3) rfl)) (by decide) (by decide)) q94a q94c (g := (mkF m 64 #[.val (.int p0), .val (.int p1), .val (.int p2), .val (.int p3), .val (.int ii), .val (.int ct), .val (.int (1 : Int32)), .val (.ref ad37), .unset, .unset] [(.ref ad48), (.ref ad37)])) rfl (by rw [hml]; rfl) (Steps.refl _) (argsL := [(.ref ad48)]) (rest := []) (lenOf pd_18 rfl) rfl (by show 2 * 0 + _ ≤ _; exact Nat.le_of_eq rfl) (hb hby at_64) (fun _ _ => ⟨rfl, rfl, (by decide : 4 + 1 ≤ _), (by decide : 7 + 10 ≤ _)⟩)
      dsimp only [Pt.U, Pt.locs, Pt.cells, Pt.slots] at X93 lq93 yq93 zq93 st93 hQ93
      subst lq93 yq93 zq93
      obtain ⟨b_84, kb_84, rfl, Nq93, K85, fz_b_84, nz_ad37_b_84, g86, g87, g88, g89, g90, g91, g92⟩ := hQ93
      have N93 := Fr.app N79 Nq93
      have oz_b_84 : n0 ≤ b_84 := Nat.le_trans Z75 fz_b_84
      have nz_ad37_b_84 : ad37 ≠ b_84 := Nat.ne_of_lt (Nat.lt_of_lt_of_le g80.lt fz_b_84)
      have nz_ad48_b_84 : ad48 ≠ b_84 := Nat.ne_of_lt (Nat.lt_of_lt_of_le g76.lt fz_b_84)
      have g95 : Exa Z T93.heap ad48 "com/example/kempt_cursor/kemptcursor/Keyed" := g76.keep K85
      have g96 : Fld Z T93.heap ad48 "com/example/kempt_cursor/kemptcursor/Keyed" "key" "Ljava/lang/Object;" (.ref r55) := g77.keep K85 (ninS (Ne.symm ne48_1) nin0)
      have g97 : Fld Z T93.heap ad48 "com/example/kempt_cursor/kemptcursor/Keyed" "value" "Ljava/lang/Object;" (.ref r65) := g78.keep K85 (ninS (Ne.symm ne48_1) nin0)
      have Z85 : n0 ≤ T93.heap.size := (Nat.le_trans Z75 K85.1)
      have O85 : Old Z n0 T93.heap := O75.keep K85 (allS (P := fun x => n0 ≤ x) o37 all0)
      refine own_tr (T' := T93) (g' := (mkF m 67 #[.val (.int p0), .val (.int p1), .val (.int p2), .val (.int p3), .val (.int ii), .val (.int ct), .val (.int (1 : Int32)), .val (.ref ad37), .unset, .unset] [(.int (1 : Int32))])) st93 ?_
      refine own_step (T' := T93) (g' := (mkF m 68 #[.val (.int p0), .val (.int p1), .val (.int p2), .val (.int p3), .val (.int ii), .val (.int ct), .val (.int (1 : Int32)), .val (.ref ad37), .unset, .unset] [])) (fun t k => XS.pop X93.here hx rfl (hb hby at_67) rfl rfl k) ?_
      refine own_step (T' := T93) (g' := (mkF m 70 #[.val (.int p0), .val (.int p1), .val (.int p2), .val (.int p3), .val (.int ii), .val (.int ct), .val (.int (1 : Int32)), .val (.ref ad37), .unset, .unset] [(.int (1 : Int32))])) (fun t k => XS.iload X93.here hx rfl (hb hby at_68) rfl k) ?_
      refine own_step (T' := T93) (g' := (mkF m 71 #[.val (.int p0), .val (.int p1), .val (.int p2), .val (.int p3), .val (.int ii), .val (.int ct), .val (.int (1 : Int32)), .val (.ref ad37), .unset, .unset] [(.int (1 : Int32)), (.int (1 : Int32))])) (fun t k => XS.iconst X93.here hx rfl (hb hby at_70) k) ?_
      refine own_step (T' := T93) (g' := (mkF m 97 #[.val (.int p0), .val (.int p1), .val (.int p2), .val (.int p3), .val (.int ii), .val (.int ct), .val (.int (1 : Int32)), .val (.ref ad37), .unset, .unset] [])) (fun t k => XS.icmpYes X93.here hx rfl (pc0 := 71) (pc' := 97) rfl (hb hby at_71) rfl (flt (by decide : ¬ ((1 : Int32) < (1 : Int32)))).2.2.2 (by decide) (by decide) k) ?_
      refine own_step (T' := T93) (g' := (mkF m 99 #[.val (.int p0), .val (.int p1), .val (.int p2), .val (.int p3), .val (.int ii), .val (.int ct), .val (.int (1 : Int32)), .val (.ref ad37), .unset, .unset] [(.int (1 : Int32))])) (fun t k => XS.iload X93.here hx rfl (hb hby at_97) rfl k) ?_
      refine own_step (T' := T93) (g' := (mkF m 100 #[.val (.int p0), .val (.int p1), .val (.int p2), .val (.int p3), .val (.int ii), .val (.int ct), .val (.int (1 : Int32)), .val (.ref ad37), .unset, .unset] [(.int (2 : Int32)), (.int (1 : Int32))])) (fun t k => XS.iconst X93.here hx rfl (hb hby at_99) k) ?_
      refine own_step (T' := T93) (g' := (mkF m 126 #[.val (.int p0), .val (.int p1), .val (.int p2), .val (.int p3), .val (.int ii), .val (.int ct), .val (.int (1 : Int32)), .val (.ref ad37), .unset, .unset] [])) (fun t k => XS.icmpYes X93.here hx rfl (pc0 := 100) (pc' := 126) rfl (hb hby at_100) rfl (flt (by decide : ¬ ((2 : Int32) < (1 : Int32)))).2.2.2 (by decide) (by decide) k) ?_
      obtain ⟨T98, h98, X98, e98, E98, A98, D98, -, st98⟩ := newO X93 hx hZ hown (hw _ (List.mem_of_getElem? (i := 81) rfl)) (hw _ (List.mem_of_getElem? (i := 82) rfl)) (hw _ (List.mem_of_getElem? (i := 83) rfl)) rfl (g := (mkF m 126 #[.val (.int p0), .val (.int p1), .val (.int p2), .val (.int p3), .val (.int ii), .val (.int ct), .val (.int (1 : Int32)), .val (.ref ad37), .unset, .unset] [])) rfl (hb hby at_126) (by decide : 5 + 1 ≤ _) (by decide : 17 + 3 ≤ _)
      obtain ⟨ad98, g_ad98⟩ : ∃ z, z = T93.heap.size := ⟨_, rfl⟩
      rw [← g_ad98] at A98 D98 st98
      have g99 : Exa Z h98 ad48 "com/example/kempt_cursor/kemptcursor/Keyed" := g95.ext E98
      have g100 : Fld Z h98 ad48 "com/example/kempt_cursor/kemptcursor/Keyed" "key" "Ljava/lang/Object;" (.ref r55) := g96.ext E98
      have g101 : Fld Z h98 ad48 "com/example/kempt_cursor/kemptcursor/Keyed" "value" "Ljava/lang/Object;" (.ref r65) := g97.ext E98
      have g102 : Exa Z h98 ad37 "java/util/ArrayList" := g86.ext E98
      have g103 : Fld Z h98 ad37 "java/util/ArrayList" "elementData" "[Ljava/lang/Object;" (.ref b_84) := g87.ext E98
      have g104 : Fld Z h98 ad37 "java/util/ArrayList" "size" "I" (.int (1 : Int32)) := g88.ext E98
      have g105 : Arv Z h98 b_84 kb_84 (.object "java/lang/Object") (10 : Int32) [(.ref ad48), .null, .null, .null, .null, .null, .null, .null, .null, .null] .null := g89.ext E98
      have g106 : Exa Z h98 b_84 "[Ljava/lang/Object;" := g90.ext E98
      have g107 : Fld Z h98 ad37 "java/util/AbstractList" "modCount" "I" (.int (1 : Int32)) := g92.ext E98
      have ne98_1 : ad48 ≠ ad98 := Nat.ne_of_lt (by rw [g_ad98]; exact g95.lt)
      have ne98_2 : ad37 ≠ ad98 := Nat.ne_of_lt (by rw [g_ad98]; exact g86.lt)
      have ne98_3 : b_84 ≠ ad98 := Nat.ne_of_lt (by rw [g_ad98]; exact g89.lt)
      have o98 : n0 ≤ ad98 := (Nat.le_trans Z85 (Nat.le_of_eq g_ad98.symm))
      have Z98 : n0 ≤ h98.size := (Nat.le_trans Z85 E98.1)
      have O98 : Old Z n0 h98 := O85.ext E98
      have g108 : Fld Z h98 ad98 "com/example/kempt_cursor/kemptcursor/Page" "items" "Ljava/util/List;" .null := D98 (Or.inr (hw _ (List.mem_of_getElem? (i := 174) rfl))) (ty := .object "java/util/List") (by decide)
      have g109 : Fld Z h98 ad98 "com/example/kempt_cursor/kemptcursor/Page" "index" "I" (.int (0 : Int32)) := D98 (Or.inr (hw _ (List.mem_of_getElem? (i := 176) rfl))) (ty := .int) (by decide)
      have g110 : Fld Z h98 ad98 "com/example/kempt_cursor/kemptcursor/Page" "count" "I" (.int (0 : Int32)) := D98 (Or.inr (hw _ (List.mem_of_getElem? (i := 178) rfl))) (ty := .int) (by decide)
      refine own_step (T' := T98) (g' := (mkF m 129 #[.val (.int p0), .val (.int p1), .val (.int p2), .val (.int p3), .val (.int ii), .val (.int ct), .val (.int (1 : Int32)), .val (.ref ad37), .unset, .unset] [(.ref ad98)])) st98 ?_
      refine own_step (T' := T98) (g' := (mkF m 130 #[.val (.int p0), .val (.int p1), .val (.int p2), .val (.int p3), .val (.int ii), .val (.int ct), .val (.int (1 : Int32)), .val (.ref ad37), .unset, .unset] [(.ref ad98), (.ref ad98)])) (fun t k => XS.dup X98.here hx rfl (hb hby at_129) rfl rfl k) ?_
      refine own_step (T' := T98) (g' := (mkF m 132 #[.val (.int p0), .val (.int p1), .val (.int p2), .val (.int p3), .val (.int ii), .val (.int ct), .val (.int (1 : Int32)), .val (.ref ad37), .unset, .unset] [(.ref ad37), (.ref ad98), (.ref ad98)])) (fun t k => XS.aload X98.here hx rfl (hb hby at_130) rfl rfl k) ?_
      refine own_step (T' := T98) (g' := (mkF m 134 #[.val (.int p0), .val (.int p1), .val (.int p2), .val (.int p3), .val (.int ii), .val (.int ct), .val (.int (1 : Int32)), .val (.ref ad37), .unset, .unset] [(.int ii), (.ref ad37), (.ref ad98), (.ref ad98)])) (fun t k => XS.iload X98.here hx rfl (hb hby at_132) rfl k) ?_
      refine own_step (T' := T98) (g' := (mkF m 136 #[.val (.int p0), .val (.int p1), .val (.int p2), .val (.int p3), .val (.int ii), .val (.int ct), .val (.int (1 : Int32)), .val (.ref ad37), .unset, .unset] [(.int ct), (.int ii), (.ref ad37), (.ref ad98), (.ref ad98)])) (fun t k => XS.iload X98.here hx rfl (hb hby at_134) rfl k) ?_
      obtain ⟨_, _, ⟨T115, L115, k115, n115⟩, -, X115, ⟨Lc115, hQ115, lq115, yq115, zq115⟩, st115⟩ := X98.specialBack hx (y := (⟨"com/example/kempt_cursor/kemptcursor/Page", "<init>", "(Ljava/util/List;II)V"⟩ : MethodName)) rfl hown (mvT hZ (hw _ (List.mem_of_getElem? (i := 84) rfl))) (mvT hZ (hw _ (List.mem_of_getElem? (i := 85) rfl))) (mvT hZ (hw _ (List.mem_of_getElem? (i := 86) rfl))) (by decide) (backOf (W := 1) (rm_pgi_1 l Z a0 hw [] ad98 ad37 b_84 kb_84 ad48 el em mr ii ct .null (.int (0 : Int32)) (.int (0 : Int32)) h98 n0 Z98 A98 g108 g109 g110 g102 g104 g103 g105 g106 g99 o98 ne98_2 ne98_3 ne98_1 O98 S_el S_em M_o) hZ (hw _ (List.mem_of_getElem? (i := 86) rfl)) (hw _ (List.mem_of_getElem? (i := 83) rfl)) (by decide) (by decide)) (g := (mkF m 136 #[.val (.int p0), .val (.int p1), .val (.int p2), .val (.int p3), .val (.int ii), .val (.int ct), .val (.int (1 : Int32)), .val (.ref ad37), .unset, .unset] [(.int ct), (.int ii), (.ref ad37), (.ref ad98), (.ref ad98)])) rfl (by rw [hml]; rfl) (Steps.refl _) (a := ad98) (argsL := [(.ref ad37), (.int ii), (.int ct)]) (rest := [(.ref ad98)]) (lenOf pd_16 rfl) rfl (by show 2 * 0 + _ ≤ _; exact Nat.le_of_eq rfl) (hb hby at_136) (fun _ _ => ⟨rfl, e98, (by decide : 6 + 2 ≤ _), (by decide : 20 + 3 ≤ _)⟩)
      dsimp only [Pt.U, Pt.locs, Pt.cells, Pt.slots] at X115 lq115 yq115 zq115 st115 hQ115
      subst lq115 yq115 zq115
      obtain ⟨rfl, Nq115, K112, g113, g114⟩ := hQ115
      have N115 := Fr.app N93 Nq115
      have g116 : Exa Z T115.heap ad48 "com/example/kempt_cursor/kemptcursor/Keyed" := g99.keep K112
      have g117 : Fld Z T115.heap ad48 "com/example/kempt_cursor/kemptcursor/Keyed" "key" "Ljava/lang/Object;" (.ref r55) := g100.keep K112 (ninS ne98_1 nin0)
      have g118 : Fld Z T115.heap ad48 "com/example/kempt_cursor/kemptcursor/Keyed" "value" "Ljava/lang/Object;" (.ref r65) := g101.keep K112 (ninS ne98_1 nin0)
      have g119 : Exa Z T115.heap ad37 "java/util/ArrayList" := g102.keep K112
      have g120 : Fld Z T115.heap ad37 "java/util/ArrayList" "elementData" "[Ljava/lang/Object;" (.ref b_84) := g103.keep K112 (ninS ne98_2 nin0)
      have g121 : Fld Z T115.heap ad37 "java/util/ArrayList" "size" "I" (.int (1 : Int32)) := g104.keep K112 (ninS ne98_2 nin0)
      have g122 : Arv Z T115.heap b_84 kb_84 (.object "java/lang/Object") (10 : Int32) [(.ref ad48), .null, .null, .null, .null, .null, .null, .null, .null, .null] .null := g105.keep K112 (ninS ne98_3 nin0)
      have g123 : Exa Z T115.heap b_84 "[Ljava/lang/Object;" := g106.keep K112
      have g124 : Fld Z T115.heap ad37 "java/util/AbstractList" "modCount" "I" (.int (1 : Int32)) := g107.keep K112 (ninS ne98_2 nin0)
      have Z112 : n0 ≤ T115.heap.size := (Nat.le_trans Z98 K112.1)
      have O112 : Old Z n0 T115.heap := O98.keep K112 (allS (P := fun x => n0 ≤ x) o98 all0)
      refine own_tr (T' := T115) (g' := (mkF m 139 #[.val (.int p0), .val (.int p1), .val (.int p2), .val (.int p3), .val (.int ii), .val (.int ct), .val (.int (1 : Int32)), .val (.ref ad37), .unset, .unset] [(.ref ad98)])) st115 ?_
      refine own_step (T' := T115) (g' := (mkF m 141 #[.val (.int p0), .val (.int p1), .val (.int p2), .val (.int p3), .val (.int ii), .val (.int ct), .val (.int (1 : Int32)), .val (.ref ad37), .val (.ref ad98), .unset] [])) (fun t k => XS.astore X115.here hx rfl (hb hby at_139) rfl rfl (l' := #[.val (.int p0), .val (.int p1), .val (.int p2), .val (.int p3), .val (.int ii), .val (.int ct), .val (.int (1 : Int32)), .val (.ref ad37), .val (.ref ad98), .unset]) rfl k) ?_
      refine own_step (T' := T115) (g' := (mkF m 143 #[.val (.int p0), .val (.int p1), .val (.int p2), .val (.int p3), .val (.int ii), .val (.int ct), .val (.int (1 : Int32)), .val (.ref ad37), .val (.ref ad98), .unset] [(.int ii)])) (fun t k => XS.iload X115.here hx rfl (hb hby at_141) rfl k) ?_
      by_cases c143 : (0 : Int32) < ii
      · refine own_step (T' := T115) (g' := (mkF m 146 #[.val (.int p0), .val (.int p1), .val (.int p2), .val (.int p3), .val (.int ii), .val (.int ct), .val (.int (1 : Int32)), .val (.ref ad37), .val (.ref ad98), .unset] [])) (fun t k => XS.ifNo X115.here hx rfl (hb hby at_143) rfl ((if0 _ _).trans (tlt c143).2.2.2) k) ?_
        refine own_step (T' := T115) (g' := (mkF m 147 #[.val (.int p0), .val (.int p1), .val (.int p2), .val (.int p3), .val (.int ii), .val (.int ct), .val (.int (1 : Int32)), .val (.ref ad37), .val (.ref ad98), .unset] [(.int (1 : Int32))])) (fun t k => XS.iconst X115.here hx rfl (hb hby at_146) k) ?_
        refine own_step (T' := T115) (g' := (mkF m 151 #[.val (.int p0), .val (.int p1), .val (.int p2), .val (.int p3), .val (.int ii), .val (.int ct), .val (.int (1 : Int32)), .val (.ref ad37), .val (.ref ad98), .unset] [(.int (1 : Int32))])) (fun t k => XS.goto X115.here hx rfl (pc0 := 147) (pc' := 151) rfl (hb hby at_147) (by decide) (by decide) k) ?_
        refine own_step (T' := T115) (g' := (mkF m 153 #[.val (.int p0), .val (.int p1), .val (.int p2), .val (.int p3), .val (.int ii), .val (.int ct), .val (.int (1 : Int32)), .val (.ref ad37), .val (.ref ad98), .val (.int (1 : Int32))] [])) (fun t k => XS.istore X115.here hx rfl (hb hby at_151) rfl (l' := #[.val (.int p0), .val (.int p1), .val (.int p2), .val (.int p3), .val (.int ii), .val (.int ct), .val (.int (1 : Int32)), .val (.ref ad37), .val (.ref ad98), .val (.int (1 : Int32))]) rfl k) ?_
        refine own_step (T' := T115) (g' := (mkF m 155 #[.val (.int p0), .val (.int p1), .val (.int p2), .val (.int p3), .val (.int ii), .val (.int ct), .val (.int (1 : Int32)), .val (.ref ad37), .val (.ref ad98), .val (.int (1 : Int32))] [(.ref ad98)])) (fun t k => XS.aload X115.here hx rfl (hb hby at_153) rfl rfl k) ?_
        obtain ⟨cq128, kq128, q128a, q128b, q128c⟩ := isOf hZ rfl g113
        obtain ⟨_, _, ⟨T127, L127, k127, n127⟩, -, X127, ⟨Lc127, hQ127, lq127, yq127, zq127⟩, st127⟩ := X115.virtualBack hx (y := (⟨"com/example/kempt_cursor/kemptcursor/Page", "reachesStart", "()Z"⟩ : MethodName)) (z := (⟨"com/example/kempt_cursor/kemptcursor/Page", "reachesStart", "()Z"⟩ : MethodName)) hown (mvT hZ (hw _ (List.mem_of_getElem? (i := 179) rfl))) (mvT hZ (hw _ (List.mem_of_getElem? (i := 180) rfl))) (notFace_of_selects (args := #[]) (mvT hZ (hw _ (List.mem_of_getElem? (i := 182) rfl)))) (mvT hZ (hw _ (List.mem_of_getElem? (i := 182) rfl))) (mvT hZ (hw _ (List.mem_of_getElem? (i := 181) rfl))) (by decide) (backOf (W := 0) (rm_rea l Z a0 hw [] ad98 ii T115.heap n0 Z112 g114) hZ (hw _ (List.mem_of_getElem? (i := 183) rfl)) (hw _ (List.mem_of_getElem? (i := 83) rfl)) (by decide) (by decide)) q128a q128c (g := (mkF m 155 #[.val (.int p0), .val (.int p1), .val (.int p2), .val (.int p3), .val (.int ii), .val (.int ct), .val (.int (1 : Int32)), .val (.ref ad37), .val (.ref ad98), .val (.int (1 : Int32))] [(.ref ad98)])) rfl (by rw [hml]; rfl) (Steps.refl _) (argsL := []) (rest := []) (lenOf pd_13 rfl) rfl (by show 2 * 0 + _ ≤ _; exact Nat.le_of_eq rfl) (hb hby at_155) (fun _ _ => ⟨rfl, rfl, (by decide : 8 + 0 ≤ _), (by decide : 23 + 0 ≤ _)⟩)
        dsimp only [Pt.U, Pt.locs, Pt.cells, Pt.slots] at X127 lq127 yq127 zq127 st127 hQ127
        subst lq127 yq127 zq127
        obtain ⟨rfl, Nq127, eq126⟩ := hQ127
        have N127 := Fr.app N115 Nq127
        refine own_tr (T' := T127) (g' := (mkF m 158 #[.val (.int p0), .val (.int p1), .val (.int p2), .val (.int p3), .val (.int ii), .val (.int ct), .val (.int (1 : Int32)), .val (.ref ad37), .val (.ref ad98), .val (.int (1 : Int32))] [(.int (own_rs ii))])) st127 ?_
        refine own_step (T' := T127) (g' := (mkF m 160 #[.val (.int p0), .val (.int p1), .val (.int p2), .val (.int p3), .val (.int ii), .val (.int ct), .val (.int (1 : Int32)), .val (.ref ad37), .val (.ref ad98), .val (.int (1 : Int32))] [(.int (1 : Int32)), (.int (own_rs ii))])) (fun t k => XS.iload X127.here hx rfl (hb hby at_158) rfl k) ?_
        refine own_step (T' := T127) (g' := (mkF m 167 #[.val (.int p0), .val (.int p1), .val (.int p2), .val (.int p3), .val (.int ii), .val (.int ct), .val (.int (1 : Int32)), .val (.ref ad37), .val (.ref ad98), .val (.int (1 : Int32))] [(.int (own_rs ii))])) (fun t k => XS.ifYes X127.here hx rfl (pc0 := 160) (pc' := 167) rfl (hb hby at_160) rfl ((if0 _ _).trans (feq (by decide : ¬ ((1 : Int32) = (0 : Int32)))).2) (by decide) (by decide) k) ?_
        refine own_step (T' := T127) (g' := (mkF m 168 #[.val (.int p0), .val (.int p1), .val (.int p2), .val (.int p3), .val (.int ii), .val (.int ct), .val (.int (1 : Int32)), .val (.ref ad37), .val (.ref ad98), .val (.int (1 : Int32))] [(.int (0 : Int32)), (.int (own_rs ii))])) (fun t k => XS.iconst X127.here hx rfl (hb hby at_167) k) ?_
        refine own_step (T' := T127) (g' := (mkF m 171 #[.val (.int p0), .val (.int p1), .val (.int p2), .val (.int p3), .val (.int ii), .val (.int ct), .val (.int (1 : Int32)), .val (.ref ad37), .val (.ref ad98), .val (.int (1 : Int32))] [])) (fun t k => XS.icmpNo X127.here hx rfl (hb hby at_168) rfl (teq (own_rs1 c143)).2 k) ?_
        refine own_step (T' := T127) (g' := (mkF m 172 #[.val (.int p0), .val (.int p1), .val (.int p2), .val (.int p3), .val (.int ii), .val (.int ct), .val (.int (1 : Int32)), .val (.ref ad37), .val (.ref ad98), .val (.int (1 : Int32))] [(.int (1 : Int32))])) (fun t k => XS.iconst X127.here hx rfl (hb hby at_171) k) ?_
        refine own_step (T' := T127) (g' := (mkF m 176 #[.val (.int p0), .val (.int p1), .val (.int p2), .val (.int p3), .val (.int ii), .val (.int ct), .val (.int (1 : Int32)), .val (.ref ad37), .val (.ref ad98), .val (.int (1 : Int32))] [(.int (1 : Int32))])) (fun t k => XS.goto X127.here hx rfl (pc0 := 172) (pc' := 176) rfl (hb hby at_172) (by decide) (by decide) k) ?_
        refine own_rN X127 hx hlk Bd.returns (by simp) (hb hby at_176) ?_ (by decide) (by decide)
        rw [eq126]
        exact ⟨rfl, N127⟩
      · refine own_step (T' := T115) (g' := (mkF m 150 #[.val (.int p0), .val (.int p1), .val (.int p2), .val (.int p3), .val (.int ii), .val (.int ct), .val (.int (1 : Int32)), .val (.ref ad37), .val (.ref ad98), .unset] [])) (fun t k => XS.ifYes X115.here hx rfl (pc0 := 143) (pc' := 150) rfl (hb hby at_143) rfl ((if0 _ _).trans (flt c143).2.2.2) (by decide) (by decide) k) ?_
        refine own_step (T' := T115) (g' := (mkF m 151 #[.val (.int p0), .val (.int p1), .val (.int p2), .val (.int p3), .val (.int ii), .val (.int ct), .val (.int (1 : Int32)), .val (.ref ad37), .val (.ref ad98), .unset] [(.int (0 : Int32))])) (fun t k => XS.iconst X115.here hx rfl (hb hby at_150) k) ?_
        refine own_step (T' := T115) (g' := (mkF m 153 #[.val (.int p0), .val (.int p1), .val (.int p2), .val (.int p3), .val (.int ii), .val (.int ct), .val (.int (1 : Int32)), .val (.ref ad37), .val (.ref ad98), .val (.int (0 : Int32))] [])) (fun t k => XS.istore X115.here hx rfl (hb hby at_151) rfl (l' := #[.val (.int p0), .val (.int p1), .val (.int p2), .val (.int p3), .val (.int ii), .val (.int ct), .val (.int (1 : Int32)), .val (.ref ad37), .val (.ref ad98), .val (.int (0 : Int32))]) rfl k) ?_
        refine own_step (T' := T115) (g' := (mkF m 155 #[.val (.int p0), .val (.int p1), .val (.int p2), .val (.int p3), .val (.int ii), .val (.int ct), .val (.int (1 : Int32)), .val (.ref ad37), .val (.ref ad98), .val (.int (0 : Int32))] [(.ref ad98)])) (fun t k => XS.aload X115.here hx rfl (hb hby at_153) rfl rfl k) ?_
        obtain ⟨cq132, kq132, q132a, q132b, q132c⟩ := isOf hZ rfl g113
        obtain ⟨_, _, ⟨T131, L131, k131, n131⟩, -, X131, ⟨Lc131, hQ131, lq131, yq131, zq131⟩, st131⟩ := X115.virtualBack hx (y := (⟨"com/example/kempt_cursor/kemptcursor/Page", "reachesStart", "()Z"⟩ : MethodName)) (z := (⟨"com/example/kempt_cursor/kemptcursor/Page", "reachesStart", "()Z"⟩ : MethodName)) hown (mvT hZ (hw _ (List.mem_of_getElem? (i := 179) rfl))) (mvT hZ (hw _ (List.mem_of_getElem? (i := 180) rfl))) (notFace_of_selects (args := #[]) (mvT hZ (hw _ (List.mem_of_getElem? (i := 182) rfl)))) (mvT hZ (hw _ (List.mem_of_getElem? (i := 182) rfl))) (mvT hZ (hw _ (List.mem_of_getElem? (i := 181) rfl))) (by decide) (backOf (W := 0) (rm_rea l Z a0 hw [] ad98 ii T115.heap n0 Z112 g114) hZ (hw _ (List.mem_of_getElem? (i := 183) rfl)) (hw _ (List.mem_of_getElem? (i := 83) rfl)) (by decide) (by decide)) q132a q132c (g := (mkF m 155 #[.val (.int p0), .val (.int p1), .val (.int p2), .val (.int p3), .val (.int ii), .val (.int ct), .val (.int (1 : Int32)), .val (.ref ad37), .val (.ref ad98), .val (.int (0 : Int32))] [(.ref ad98)])) rfl (by rw [hml]; rfl) (Steps.refl _) (argsL := []) (rest := []) (lenOf pd_13 rfl) rfl (by show 2 * 0 + _ ≤ _; exact Nat.le_of_eq rfl) (hb hby at_155) (fun _ _ => ⟨rfl, rfl, (by decide : 8 + 0 ≤ _), (by decide : 23 + 0 ≤ _)⟩)
        dsimp only [Pt.U, Pt.locs, Pt.cells, Pt.slots] at X131 lq131 yq131 zq131 st131 hQ131
        subst lq131 yq131 zq131
        obtain ⟨rfl, Nq131, eq130⟩ := hQ131
        have N131 := Fr.app N115 Nq131
        refine own_tr (T' := T131) (g' := (mkF m 158 #[.val (.int p0), .val (.int p1), .val (.int p2), .val (.int p3), .val (.int ii), .val (.int ct), .val (.int (1 : Int32)), .val (.ref ad37), .val (.ref ad98), .val (.int (0 : Int32))] [(.int (own_rs ii))])) st131 ?_
        refine own_step (T' := T131) (g' := (mkF m 160 #[.val (.int p0), .val (.int p1), .val (.int p2), .val (.int p3), .val (.int ii), .val (.int ct), .val (.int (1 : Int32)), .val (.ref ad37), .val (.ref ad98), .val (.int (0 : Int32))] [(.int (0 : Int32)), (.int (own_rs ii))])) (fun t k => XS.iload X131.here hx rfl (hb hby at_158) rfl k) ?_
        refine own_step (T' := T131) (g' := (mkF m 163 #[.val (.int p0), .val (.int p1), .val (.int p2), .val (.int p3), .val (.int ii), .val (.int ct), .val (.int (1 : Int32)), .val (.ref ad37), .val (.ref ad98), .val (.int (0 : Int32))] [(.int (own_rs ii))])) (fun t k => XS.ifNo X131.here hx rfl (hb hby at_160) rfl ((if0 _ _).trans (teq (by decide : ((0 : Int32) = (0 : Int32)))).2) k) ?_
        refine own_step (T' := T131) (g' := (mkF m 164 #[.val (.int p0), .val (.int p1), .val (.int p2), .val (.int p3), .val (.int ii), .val (.int ct), .val (.int (1 : Int32)), .val (.ref ad37), .val (.ref ad98), .val (.int (0 : Int32))] [(.int (1 : Int32)), (.int (own_rs ii))])) (fun t k => XS.iconst X131.here hx rfl (hb hby at_163) k) ?_
        refine own_step (T' := T131) (g' := (mkF m 168 #[.val (.int p0), .val (.int p1), .val (.int p2), .val (.int p3), .val (.int ii), .val (.int ct), .val (.int (1 : Int32)), .val (.ref ad37), .val (.ref ad98), .val (.int (0 : Int32))] [(.int (1 : Int32)), (.int (own_rs ii))])) (fun t k => XS.goto X131.here hx rfl (pc0 := 164) (pc' := 168) rfl (hb hby at_164) (by decide) (by decide) k) ?_
        refine own_step (T' := T131) (g' := (mkF m 171 #[.val (.int p0), .val (.int p1), .val (.int p2), .val (.int p3), .val (.int ii), .val (.int ct), .val (.int (1 : Int32)), .val (.ref ad37), .val (.ref ad98), .val (.int (0 : Int32))] [])) (fun t k => XS.icmpNo X131.here hx rfl (hb hby at_168) rfl (teq (own_rs0 hii c143)).2 k) ?_
        refine own_step (T' := T131) (g' := (mkF m 172 #[.val (.int p0), .val (.int p1), .val (.int p2), .val (.int p3), .val (.int ii), .val (.int ct), .val (.int (1 : Int32)), .val (.ref ad37), .val (.ref ad98), .val (.int (0 : Int32))] [(.int (1 : Int32))])) (fun t k => XS.iconst X131.here hx rfl (hb hby at_171) k) ?_
        refine own_step (T' := T131) (g' := (mkF m 176 #[.val (.int p0), .val (.int p1), .val (.int p2), .val (.int p3), .val (.int ii), .val (.int ct), .val (.int (1 : Int32)), .val (.ref ad37), .val (.ref ad98), .val (.int (0 : Int32))] [(.int (1 : Int32))])) (fun t k => XS.goto X131.here hx rfl (pc0 := 172) (pc' := 176) rfl (hb hby at_172) (by decide) (by decide) k) ?_
        refine own_rN X131 hx hlk Bd.returns (by simp) (hb hby at_176) ?_ (by decide) (by decide)
        rw [eq130]
        exact ⟨rfl, N131⟩
    · obtain ⟨T133, h133, X133, e133, E133, A133, D133, -, st133⟩ := newO X0 hx hZ hown (hw _ (List.mem_of_getElem? (i := 1) rfl)) (hw _ (List.mem_of_getElem? (i := 2) rfl)) (hw _ (List.mem_of_getElem? (i := 3) rfl)) e0 (g := (mkF m 33 #[.val (.int p0), .val (.int p1), .val (.int p2), .val (.int p3), .val (.int ii), .val (.int ct), .val (.int (2 : Int32)), .unset, .unset, .unset] [])) rfl (hb hby at_33) (by decide : 0 + 1 ≤ _) (by decide : 0 + 3 ≤ _)
      obtain ⟨ad133, g_ad133⟩ : ∃ z, z = h0.size := ⟨_, rfl⟩
      rw [← g_ad133] at A133 D133 st133
      have o133 : n0 ≤ ad133 := (Nat.le_trans Z0 (Nat.le_of_eq g_ad133.symm))
      have Z133 : n0 ≤ h133.size := (Nat.le_trans Z0 E133.1)
      have O133 : Old Z n0 h133 := O0.ext E133
      have g134 : Fld Z h133 ad133 "java/util/AbstractList" "modCount" "I" (.int (0 : Int32)) := D133 (Or.inl (hw _ (List.mem_of_getElem? (i := 23) rfl))) (ty := .int) (by decide)
      have g135 : Fld Z h133 ad133 "java/util/ArrayList" "elementData" "[Ljava/lang/Object;" .null := D133 (Or.inl (hw _ (List.mem_of_getElem? (i := 26) rfl))) (ty := .array (.object "java/lang/Object")) (by decide)
      have g136 : Fld Z h133 ad133 "java/util/ArrayList" "size" "I" (.int (0 : Int32)) := D133 (Or.inl (hw _ (List.mem_of_getElem? (i := 58) rfl))) (ty := .int) (by decide)
      refine own_step (T' := T133) (g' := (mkF m 36 #[.val (.int p0), .val (.int p1), .val (.int p2), .val (.int p3), .val (.int ii), .val (.int ct), .val (.int (2 : Int32)), .unset, .unset, .unset] [(.ref ad133)])) st133 ?_
      refine own_step (T' := T133) (g' := (mkF m 37 #[.val (.int p0), .val (.int p1), .val (.int p2), .val (.int p3), .val (.int ii), .val (.int ct), .val (.int (2 : Int32)), .unset, .unset, .unset] [(.ref ad133), (.ref ad133)])) (fun t k => XS.dup X133.here hx rfl (hb hby at_36) rfl rfl k) ?_
      obtain ⟨_, _, ⟨T143, L143, k143, n143⟩, -, X143, ⟨Lc143, hQ143, lq143, yq143, zq143⟩, st143⟩ := X133.specialBack hx (y := (⟨"java/util/ArrayList", "<init>", "()V"⟩ : MethodName)) rfl hown (mvT hZ (hw _ (List.mem_of_getElem? (i := 4) rfl))) (mvT hZ (hw _ (List.mem_of_getElem? (i := 5) rfl))) (mvT hZ (hw _ (List.mem_of_getElem? (i := 6) rfl))) (by decide) (backOf (W := 1) (rm_ali l Z a0 hw [] ad133 (.int (0 : Int32)) .null de h133 n0 Z133 A133 g134 g135 g136 o133 O133 S_d) hZ (hw _ (List.mem_of_getElem? (i := 6) rfl)) (hw _ (List.mem_of_getElem? (i := 3) rfl)) (by decide) (by decide)) (g := (mkF m 37 #[.val (.int p0), .val (.int p1), .val (.int p2), .val (.int p3), .val (.int ii), .val (.int ct), .val (.int (2 : Int32)), .unset, .unset, .unset] [(.ref ad133), (.ref ad133)])) rfl (by rw [hml]; rfl) (Steps.refl _) (a := ad133) (argsL := []) (rest := [(.ref ad133)]) (lenOf pd_0 rfl) rfl (by show 2 * 0 + _ ≤ _; exact Nat.le_of_eq rfl) (hb hby at_37) (fun _ _ => ⟨rfl, e133, (by decide : 1 + 0 ≤ _), (by decide : 3 + 0 ≤ _)⟩)
      dsimp only [Pt.U, Pt.locs, Pt.cells, Pt.slots] at X143 lq143 yq143 zq143 st143 hQ143
      subst lq143 yq143 zq143
      obtain ⟨rfl, Nq143, K138, g139, g140, g141, g142⟩ := hQ143
      have N143 := Fr.app N0 Nq143
      have Z138 : n0 ≤ T143.heap.size := (Nat.le_trans Z133 K138.1)
      have O138 : Old Z n0 T143.heap := O133.keep K138 (allS (P := fun x => n0 ≤ x) o133 all0)
      refine own_tr (T' := T143) (g' := (mkF m 40 #[.val (.int p0), .val (.int p1), .val (.int p2), .val (.int p3), .val (.int ii), .val (.int ct), .val (.int (2 : Int32)), .unset, .unset, .unset] [(.ref ad133)])) st143 ?_
      refine own_step (T' := T143) (g' := (mkF m 42 #[.val (.int p0), .val (.int p1), .val (.int p2), .val (.int p3), .val (.int ii), .val (.int ct), .val (.int (2 : Int32)), .val (.ref ad133), .unset, .unset] [])) (fun t k => XS.astore X143.here hx rfl (hb hby at_40) rfl rfl (l' := #[.val (.int p0), .val (.int p1), .val (.int p2), .val (.int p3), .val (.int ii), .val (.int ct), .val (.int (2 : Int32)), .val (.ref ad133), .unset, .unset]) rfl k) ?_
      refine own_step (T' := T143) (g' := (mkF m 44 #[.val (.int p0), .val (.int p1), .val (.int p2), .val (.int p3), .val (.int ii), .val (.int ct), .val (.int (2 : Int32)), .val (.ref ad133), .unset, .unset] [(.int (2 : Int32))])) (fun t k => XS.iload X143.here hx rfl (hb hby at_42) rfl k) ?_
      refine own_step (T' := T143) (g' := (mkF m 47 #[.val (.int p0), .val (.int p1), .val (.int p2), .val (.int p3), .val (.int ii), .val (.int ct), .val (.int (2 : Int32)), .val (.ref ad133), .unset, .unset] [])) (fun t k => XS.ifNo X143.here hx rfl (hb hby at_44) rfl ((if0 _ _).trans (tlt (by decide : ((0 : Int32) < (2 : Int32)))).2.2.2) k) ?_
      refine own_step (T' := T143) (g' := (mkF m 49 #[.val (.int p0), .val (.int p1), .val (.int p2), .val (.int p3), .val (.int ii), .val (.int ct), .val (.int (2 : Int32)), .val (.ref ad133), .unset, .unset] [(.ref ad133)])) (fun t k => XS.aload X143.here hx rfl (hb hby at_47) rfl rfl k) ?_
      obtain ⟨T144, h144, X144, e144, E144, A144, D144, -, st144⟩ := newO X143 hx hZ hown (hw _ (List.mem_of_getElem? (i := 27) rfl)) (hw _ (List.mem_of_getElem? (i := 28) rfl)) (hw _ (List.mem_of_getElem? (i := 29) rfl)) rfl (g := (mkF m 49 #[.val (.int p0), .val (.int p1), .val (.int p2), .val (.int p3), .val (.int ii), .val (.int ct), .val (.int (2 : Int32)), .val (.ref ad133), .unset, .unset] [(.ref ad133)])) rfl (hb hby at_49) (by decide : 1 + 1 ≤ _) (by decide : 3 + 2 ≤ _)
      obtain ⟨ad144, g_ad144⟩ : ∃ z, z = T143.heap.size := ⟨_, rfl⟩
      rw [← g_ad144] at A144 D144 st144
      have g145 : Exa Z h144 ad133 "java/util/ArrayList" := g139.ext E144
      have g146 : Fld Z h144 ad133 "java/util/AbstractList" "modCount" "I" (.int (0 : Int32)) := g140.ext E144
      have g147 : Fld Z h144 ad133 "java/util/ArrayList" "elementData" "[Ljava/lang/Object;" (.ref de) := g141.ext E144
      have g148 : Fld Z h144 ad133 "java/util/ArrayList" "size" "I" (.int (0 : Int32)) := g142.ext E144
      have ne144_1 : ad133 ≠ ad144 := Nat.ne_of_lt (by rw [g_ad144]; exact g139.lt)
      have o144 : n0 ≤ ad144 := (Nat.le_trans Z138 (Nat.le_of_eq g_ad144.symm))
      have Z144 : n0 ≤ h144.size := (Nat.le_trans Z138 E144.1)
      have O144 : Old Z n0 h144 := O138.ext E144
      have g149 : Fld Z h144 ad144 "com/example/kempt_cursor/kemptcursor/Keyed" "key" "Ljava/lang/Object;" .null := D144 (Or.inr (hw _ (List.mem_of_getElem? (i := 47) rfl))) (ty := .object "java/lang/Object") (by decide)
      have g150 : Fld Z h144 ad144 "com/example/kempt_cursor/kemptcursor/Keyed" "value" "Ljava/lang/Object;" .null := D144 (Or.inr (hw _ (List.mem_of_getElem? (i := 49) rfl))) (ty := .object "java/lang/Object") (by decide)
      refine own_step (T' := T144) (g' := (mkF m 52 #[.val (.int p0), .val (.int p1), .val (.int p2), .val (.int p3), .val (.int ii), .val (.int ct), .val (.int (2 : Int32)), .val (.ref ad133), .unset, .unset] [(.ref ad144), (.ref ad133)])) st144 ?_
      refine own_step (T' := T144) (g' := (mkF m 53 #[.val (.int p0), .val (.int p1), .val (.int p2), .val (.int p3), .val (.int ii), .val (.int ct), .val (.int (2 : Int32)), .val (.ref ad133), .unset, .unset] [(.ref ad144), (.ref ad144), (.ref ad133)])) (fun t k => XS.dup X144.here hx rfl (hb hby at_52) rfl rfl k) ?_
      refine own_step (T' := T144) (g' := (mkF m 54 #[.val (.int p0), .val (.int p1), .val (.int p2), .val (.int p3), .val (.int ii), .val (.int ct), .val (.int (2 : Int32)), .val (.ref ad133), .unset, .unset] [(.int p3), (.ref ad144), (.ref ad144), (.ref ad133)])) (fun t k => XS.iloadN X144.here hx rfl (hb hby at_53) rfl k) ?_
      obtain ⟨_, _, ⟨T153, L153, k153, n153⟩, -, X153, ⟨Lc153, hQ153, lq153, yq153, zq153⟩, st153⟩ := Jvm.LawKit.callS X144 hx (y := (⟨"java/lang/Integer", "valueOf", "(I)Ljava/lang/Integer;"⟩ : MethodName)) hown (mvT hZ (hw _ (List.mem_of_getElem? (i := 30) rfl))) (mvT hZ (hw _ (List.mem_of_getElem? (i := 31) rfl))) (mvT hZ (hw _ (List.mem_of_getElem? (i := 32) rfl))) (mvT hZ (hw _ (List.mem_of_getElem? (i := 33) rfl))) (by decide) (backOf (W := 3) (rm_vo l Z a0 hw [] p3 ca cc h144 n0 Z144 O144 S_h S_c A_c H_c) hZ (hw _ (List.mem_of_getElem? (i := 33) rfl)) (hw _ (List.mem_of_getElem? (i := 32) rfl)) (by decide) (by decide)) (g := (mkF m 54 #[.val (.int p0), .val (.int p1), .val (.int p2), .val (.int p3), .val (.int ii), .val (.int ct), .val (.int (2 : Int32)), .val (.ref ad133), .unset, .unset] [(.int p3), (.ref ad144), (.ref ad144), (.ref ad133)])) rfl (by rw [hml]; rfl) (argsL := [(.int p3)]) (rest := [(.ref ad144), (.ref ad144), (.ref ad133)]) (lenOf pd_17 rfl) rfl (by show 2 * 0 + _ ≤ _; exact Nat.le_of_eq rfl) (hb hby at_54) (fun _ _ => ⟨rfl, e144, (by decide : 2 + 1 ≤ _), (by decide : 5 + 1 ≤ _)⟩)
      dsimp only [Pt.U, Pt.locs, Pt.cells, Pt.slots] at X153 lq153 yq153 zq153 st153 hQ153
      subst lq153 yq153 zq153
      obtain ⟨r151, rfl, Nq153, K152⟩ := hQ153
      have N153 := Fr.app N143 Nq153
      have g154 : Exa Z T153.heap ad133 "java/util/ArrayList" := g145.keep K152
      have g155 : Fld Z T153.heap ad133 "java/util/AbstractList" "modCount" "I" (.int (0 : Int32)) := g146.keep K152 nin0
      have g156 : Fld Z T153.heap ad133 "java/util/ArrayList" "elementData" "[Ljava/lang/Object;" (.ref de) := g147.keep K152 nin0
      have g157 : Fld Z T153.heap ad133 "java/util/ArrayList" "size" "I" (.int (0 : Int32)) := g148.keep K152 nin0
      have g158 : Exa Z T153.heap ad144 "com/example/kempt_cursor/kemptcursor/Keyed" := A144.keep K152
      have g159 : Fld Z T153.heap ad144 "com/example/kempt_cursor/kemptcursor/Keyed" "key" "Ljava/lang/Object;" .null := g149.keep K152 nin0
      have g160 : Fld Z T153.heap ad144 "com/example/kempt_cursor/kemptcursor/Keyed" "value" "Ljava/lang/Object;" .null := g150.keep K152 nin0
      have Z152 : n0 ≤ T153.heap.size := (Nat.le_trans Z144 K152.1)
      have O152 : Old Z n0 T153.heap := O144.keep K152 (all0 (P := fun x => n0 ≤ x))
      refine own_step (T' := T153) (g' := (mkF m 57 #[.val (.int p0), .val (.int p1), .val (.int p2), .val (.int p3), .val (.int ii), .val (.int ct), .val (.int (2 : Int32)), .val (.ref ad133), .unset, .unset] [(.ref r151), (.ref ad144), (.ref ad144), (.ref ad133)])) st153 ?_
      refine own_step (T' := T153) (g' := (mkF m 58 #[.val (.int p0), .val (.int p1), .val (.int p2), .val (.int p3), .val (.int ii), .val (.int ct), .val (.int (2 : Int32)), .val (.ref ad133), .unset, .unset] [(.int (0 : Int32)), (.ref r151), (.ref ad144), (.ref ad144), (.ref ad133)])) (fun t k => XS.iconst X153.here hx rfl (hb hby at_57) k) ?_
      obtain ⟨_, _, ⟨T163, L163, k163, n163⟩, -, X163, ⟨Lc163, hQ163, lq163, yq163, zq163⟩, st163⟩ := Jvm.LawKit.callS X153 hx (y := (⟨"java/lang/Integer", "valueOf", "(I)Ljava/lang/Integer;"⟩ : MethodName)) hown (mvT hZ (hw _ (List.mem_of_getElem? (i := 30) rfl))) (mvT hZ (hw _ (List.mem_of_getElem? (i := 31) rfl))) (mvT hZ (hw _ (List.mem_of_getElem? (i := 32) rfl))) (mvT hZ (hw _ (List.mem_of_getElem? (i := 33) rfl))) (by decide) (backOf (W := 4) (rm_vo l Z a0 hw [] (0 : Int32) ca cc T153.heap n0 Z152 O152 S_h S_c A_c H_c) hZ (hw _ (List.mem_of_getElem? (i := 33) rfl)) (hw _ (List.mem_of_getElem? (i := 32) rfl)) (by decide) (by decide)) (g := (mkF m 58 #[.val (.int p0), .val (.int p1), .val (.int p2), .val (.int p3), .val (.int ii), .val (.int ct), .val (.int (2 : Int32)), .val (.ref ad133), .unset, .unset] [(.int (0 : Int32)), (.ref r151), (.ref ad144), (.ref ad144), (.ref ad133)])) rfl (by rw [hml]; rfl) (argsL := [(.int (0 : Int32))]) (rest := [(.ref r151), (.ref ad144), (.ref ad144), (.ref ad133)]) (lenOf pd_17 rfl) rfl (by show 2 * 0 + _ ≤ _; exact Nat.le_of_eq rfl) (hb hby at_58) (fun _ _ => ⟨rfl, rfl, (by decide : 3 + 1 ≤ _), (by decide : 6 + 1 ≤ _)⟩)
      dsimp only [Pt.U, Pt.locs, Pt.cells, Pt.slots] at X163 lq163 yq163 zq163 st163 hQ163
      subst lq163 yq163 zq163
      obtain ⟨r161, rfl, Nq163, K162⟩ := hQ163
      have N163 := Fr.app N153 Nq163
      have g164 : Exa Z T163.heap ad133 "java/util/ArrayList" := g154.keep K162
      have g165 : Fld Z T163.heap ad133 "java/util/AbstractList" "modCount" "I" (.int (0 : Int32)) := g155.keep K162 nin0
      have g166 : Fld Z T163.heap ad133 "java/util/ArrayList" "elementData" "[Ljava/lang/Object;" (.ref de) := g156.keep K162 nin0
      have g167 : Fld Z T163.heap ad133 "java/util/ArrayList" "size" "I" (.int (0 : Int32)) := g157.keep K162 nin0
      have g168 : Exa Z T163.heap ad144 "com/example/kempt_cursor/kemptcursor/Keyed" := g158.keep K162
      have g169 : Fld Z T163.heap ad144 "com/example/kempt_cursor/kemptcursor/Keyed" "key" "Ljava/lang/Object;" .null := g159.keep K162 nin0
      have g170 : Fld Z T163.heap ad144 "com/example/kempt_cursor/kemptcursor/Keyed" "value" "Ljava/lang/Object;" .null := g160.keep K162 nin0
      have Z162 : n0 ≤ T163.heap.size := (Nat.le_trans Z152 K162.1)
      have O162 : Old Z n0 T163.heap := O152.keep K162 (all0 (P := fun x => n0 ≤ x))
      refine own_step (T' := T163) (g' := (mkF m 61 #[.val (.int p0), .val (.int p1), .val (.int p2), .val (.int p3), .val (.int ii), .val (.int ct), .val (.int (2 : Int32)), .val (.ref ad133), .unset, .unset] [(.ref r161), (.ref r151), (.ref ad144), (.ref ad144), (.ref ad133)])) st163 ?_
      obtain ⟨_, _, ⟨T175, L175, k175, n175⟩, -, X175, ⟨Lc175, hQ175, lq175, yq175, zq175⟩, st175⟩ := X163.specialBack hx (y := (⟨"com/example/kempt_cursor/kemptcursor/Keyed", "<init>", "(Ljava/lang/Object;Ljava/lang/Object;)V"⟩ : MethodName)) rfl hown (mvT hZ (hw _ (List.mem_of_getElem? (i := 37) rfl))) (mvT hZ (hw _ (List.mem_of_getElem? (i := 38) rfl))) (mvT hZ (hw _ (List.mem_of_getElem? (i := 39) rfl))) (by decide) (backOf (W := 2) (rm_kyi l Z a0 hw [] ad144 r151 r161 _ _ T163.heap n0 Z162 g168 g169 g170 o144) hZ (hw _ (List.mem_of_getElem? (i := 39) rfl)) (hw _ (List.mem_of_getElem? (i := 29) rfl)) (by decide) (by decide)) (g := (mkF m 61 #[.val (.int p0), .val (.int p1), .val (.int p2), .val (.int p3), .val (.int ii), .val (.int ct), .val (.int (2 : Int32)), .val (.ref ad133), .unset, .unset] [(.ref r161), (.ref r151), (.ref ad144), (.ref ad144), (.ref ad133)])) rfl (by rw [hml]; rfl) (Steps.refl _) (a := ad144) (argsL := [(.ref r151), (.ref r161)]) (rest := [(.ref ad144), (.ref ad133)]) (lenOf pd_11 rfl) rfl (by show 2 * 0 + _ ≤ _; exact Nat.le_of_eq rfl) (hb hby at_61) (fun _ _ => ⟨rfl, rfl, (by decide : 4 + 0 ≤ _), (by decide : 7 + 0 ≤ _)⟩)
      dsimp only [Pt.U, Pt.locs, Pt.cells, Pt.slots] at X175 lq175 yq175 zq175 st175 hQ175
      subst lq175 yq175 zq175
      obtain ⟨rfl, Nq175, K171, g172, g173, g174⟩ := hQ175
      have N175 := Fr.app N163 Nq175
      have g176 : Exa Z T175.heap ad133 "java/util/ArrayList" := g164.keep K171
      have g177 : Fld Z T175.heap ad133 "java/util/AbstractList" "modCount" "I" (.int (0 : Int32)) := g165.keep K171 (ninS ne144_1 nin0)
      have g178 : Fld Z T175.heap ad133 "java/util/ArrayList" "elementData" "[Ljava/lang/Object;" (.ref de) := g166.keep K171 (ninS ne144_1 nin0)
      have g179 : Fld Z T175.heap ad133 "java/util/ArrayList" "size" "I" (.int (0 : Int32)) := g167.keep K171 (ninS ne144_1 nin0)
      have Z171 : n0 ≤ T175.heap.size := (Nat.le_trans Z162 K171.1)
      have O171 : Old Z n0 T175.heap := O162.keep K171 (allS (P := fun x => n0 ≤ x) o144 all0)
      refine own_tr (T' := T175) (g' := (mkF m 64 #[.val (.int p0), .val (.int p1), .val (.int p2), .val (.int p3), .val (.int ii), .val (.int ct), .val (.int (2 : Int32)), .val (.ref ad133), .unset, .unset] [(.ref ad144), (.ref ad133)])) st175 ?_
      obtain ⟨cq190, kq190, q190a, q190b, q190c⟩ := isOf hZ rfl g176
      obtain ⟨_, _, ⟨T189, L189, k189, n189⟩, -, X189, ⟨Lc189, hQ189, lq189, yq189, zq189⟩, st189⟩ := X175.virtualBack hx (y := (⟨"java/util/ArrayList", "add", "(Ljava/lang/Object;)Z"⟩ : MethodName)) (z := (⟨"java/util/ArrayList", "add", "(Ljava/lang/Object;)Z"⟩ : MethodName)) hown (mvT hZ (hw _ (List.mem_of_getElem? (i := 50) rfl))) (mvT hZ (hw _ (List.mem_of_getElem? (i := 51) rfl))) (notFace_of_selects (args := #[]) (mvT hZ (hw _ (List.mem_of_getElem? (i := 53) rfl)))) (mvT hZ (hw _ (List.mem_of_getElem? (i := 53) rfl))) (mvT hZ (hw _ (List.mem_of_getElem? (i := 52) rfl))) (by decide) (backOf (W := 0) (rm_ad1_0 l Z a0 hw [] ad133 ad144 de kd T175.heap n0 Z171 g176 g178 g179 g172 g177 o133 ne144_1 O171 S_d V_d) hZ (hw _ (List.mem_of_getElem? (i := 54) rfl)) (hw _ (List.mem_of_getElem? (i := 3) rfl)) (by decide) (by decide)) q190a q190c (g := (mkF m 64 #[.val (.int p0), .val (.int p1), .val (.int p2), .val (.int p3), .val (.int ii), .val (.int ct), .val (.int (2 : Int32)), .val (.ref ad133), .unset, .unset] [(.ref ad144), (.ref ad133)])) rfl (by rw [hml]; rfl) (Steps.refl _) (argsL := [(.ref ad144)]) (rest := []) (lenOf pd_18 rfl) rfl (by show 2 * 0 + _ ≤ _; exact Nat.le_of_eq rfl) (hb hby at_64) (fun _ _ => ⟨rfl, rfl, (by decide : 4 + 1 ≤ _), (by decide : 7 + 10 ≤ _)⟩)
      dsimp only [Pt.U, Pt.locs, Pt.cells, Pt.slots] at X189 lq189 yq189 zq189 st189 hQ189
      subst lq189 yq189 zq189
      obtain ⟨b_180, kb_180, rfl, Nq189, K181, fz_b_180, nz_ad133_b_180, g182, g183, g184, g185, g186, g187, g188⟩ := hQ189
      have N189 := Fr.app N175 Nq189
      have oz_b_180 : n0 ≤ b_180 := Nat.le_trans Z171 fz_b_180
      have nz_ad133_b_180 : ad133 ≠ b_180 := Nat.ne_of_lt (Nat.lt_of_lt_of_le g176.lt fz_b_180)
      have nz_ad144_b_180 : ad144 ≠ b_180 := Nat.ne_of_lt (Nat.lt_of_lt_of_le g172.lt fz_b_180)
      have g191 : Exa Z T189.heap ad144 "com/example/kempt_cursor/kemptcursor/Keyed" := g172.keep K181
      have g192 : Fld Z T189.heap ad144 "com/example/kempt_cursor/kemptcursor/Keyed" "key" "Ljava/lang/Object;" (.ref r151) := g173.keep K181 (ninS (Ne.symm ne144_1) nin0)
      have g193 : Fld Z T189.heap ad144 "com/example/kempt_cursor/kemptcursor/Keyed" "value" "Ljava/lang/Object;" (.ref r161) := g174.keep K181 (ninS (Ne.symm ne144_1) nin0)
      have Z181 : n0 ≤ T189.heap.size := (Nat.le_trans Z171 K181.1)
      have O181 : Old Z n0 T189.heap := O171.keep K181 (allS (P := fun x => n0 ≤ x) o133 all0)
      refine own_tr (T' := T189) (g' := (mkF m 67 #[.val (.int p0), .val (.int p1), .val (.int p2), .val (.int p3), .val (.int ii), .val (.int ct), .val (.int (2 : Int32)), .val (.ref ad133), .unset, .unset] [(.int (1 : Int32))])) st189 ?_
      refine own_step (T' := T189) (g' := (mkF m 68 #[.val (.int p0), .val (.int p1), .val (.int p2), .val (.int p3), .val (.int ii), .val (.int ct), .val (.int (2 : Int32)), .val (.ref ad133), .unset, .unset] [])) (fun t k => XS.pop X189.here hx rfl (hb hby at_67) rfl rfl k) ?_
      refine own_step (T' := T189) (g' := (mkF m 70 #[.val (.int p0), .val (.int p1), .val (.int p2), .val (.int p3), .val (.int ii), .val (.int ct), .val (.int (2 : Int32)), .val (.ref ad133), .unset, .unset] [(.int (2 : Int32))])) (fun t k => XS.iload X189.here hx rfl (hb hby at_68) rfl k) ?_
      refine own_step (T' := T189) (g' := (mkF m 71 #[.val (.int p0), .val (.int p1), .val (.int p2), .val (.int p3), .val (.int ii), .val (.int ct), .val (.int (2 : Int32)), .val (.ref ad133), .unset, .unset] [(.int (1 : Int32)), (.int (2 : Int32))])) (fun t k => XS.iconst X189.here hx rfl (hb hby at_70) k) ?_
      refine own_step (T' := T189) (g' := (mkF m 74 #[.val (.int p0), .val (.int p1), .val (.int p2), .val (.int p3), .val (.int ii), .val (.int ct), .val (.int (2 : Int32)), .val (.ref ad133), .unset, .unset] [])) (fun t k => XS.icmpNo X189.here hx rfl (hb hby at_71) rfl (tlt (by decide : ((1 : Int32) < (2 : Int32)))).2.2.2 k) ?_
      refine own_step (T' := T189) (g' := (mkF m 76 #[.val (.int p0), .val (.int p1), .val (.int p2), .val (.int p3), .val (.int ii), .val (.int ct), .val (.int (2 : Int32)), .val (.ref ad133), .unset, .unset] [(.ref ad133)])) (fun t k => XS.aload X189.here hx rfl (hb hby at_74) rfl rfl k) ?_
      obtain ⟨T194, h194, X194, e194, E194, A194, D194, -, st194⟩ := newO X189 hx hZ hown (hw _ (List.mem_of_getElem? (i := 27) rfl)) (hw _ (List.mem_of_getElem? (i := 28) rfl)) (hw _ (List.mem_of_getElem? (i := 29) rfl)) rfl (g := (mkF m 76 #[.val (.int p0), .val (.int p1), .val (.int p2), .val (.int p3), .val (.int ii), .val (.int ct), .val (.int (2 : Int32)), .val (.ref ad133), .unset, .unset] [(.ref ad133)])) rfl (hb hby at_76) (by decide : 5 + 1 ≤ _) (by decide : 17 + 2 ≤ _)
      obtain ⟨ad194, g_ad194⟩ : ∃ z, z = T189.heap.size := ⟨_, rfl⟩
      rw [← g_ad194] at A194 D194 st194
      have g195 : Exa Z h194 ad144 "com/example/kempt_cursor/kemptcursor/Keyed" := g191.ext E194
      have g196 : Fld Z h194 ad144 "com/example/kempt_cursor/kemptcursor/Keyed" "key" "Ljava/lang/Object;" (.ref r151) := g192.ext E194
      have g197 : Fld Z h194 ad144 "com/example/kempt_cursor/kemptcursor/Keyed" "value" "Ljava/lang/Object;" (.ref r161) := g193.ext E194
      have g198 : Exa Z h194 ad133 "java/util/ArrayList" := g182.ext E194
      have g199 : Fld Z h194 ad133 "java/util/ArrayList" "elementData" "[Ljava/lang/Object;" (.ref b_180) := g183.ext E194
      have g200 : Fld Z h194 ad133 "java/util/ArrayList" "size" "I" (.int (1 : Int32)) := g184.ext E194
      have g201 : Arv Z h194 b_180 kb_180 (.object "java/lang/Object") (10 : Int32) [(.ref ad144), .null, .null, .null, .null, .null, .null, .null, .null, .null] .null := g185.ext E194
      have g202 : Exa Z h194 b_180 "[Ljava/lang/Object;" := g186.ext E194
      have g203 : Fld Z h194 ad133 "java/util/AbstractList" "modCount" "I" (.int (1 : Int32)) := g188.ext E194
      have ne194_1 : ad144 ≠ ad194 := Nat.ne_of_lt (by rw [g_ad194]; exact g191.lt)
      have ne194_2 : ad133 ≠ ad194 := Nat.ne_of_lt (by rw [g_ad194]; exact g182.lt)
      have ne194_3 : b_180 ≠ ad194 := Nat.ne_of_lt (by rw [g_ad194]; exact g185.lt)
      have o194 : n0 ≤ ad194 := (Nat.le_trans Z181 (Nat.le_of_eq g_ad194.symm))
      have Z194 : n0 ≤ h194.size := (Nat.le_trans Z181 E194.1)
      have O194 : Old Z n0 h194 := O181.ext E194
      have g204 : Fld Z h194 ad194 "com/example/kempt_cursor/kemptcursor/Keyed" "key" "Ljava/lang/Object;" .null := D194 (Or.inr (hw _ (List.mem_of_getElem? (i := 47) rfl))) (ty := .object "java/lang/Object") (by decide)
      have g205 : Fld Z h194 ad194 "com/example/kempt_cursor/kemptcursor/Keyed" "value" "Ljava/lang/Object;" .null := D194 (Or.inr (hw _ (List.mem_of_getElem? (i := 49) rfl))) (ty := .object "java/lang/Object") (by decide)
      refine own_step (T' := T194) (g' := (mkF m 79 #[.val (.int p0), .val (.int p1), .val (.int p2), .val (.int p3), .val (.int ii), .val (.int ct), .val (.int (2 : Int32)), .val (.ref ad133), .unset, .unset] [(.ref ad194), (.ref ad133)])) st194 ?_
      refine own_step (T' := T194) (g' := (mkF m 80 #[.val (.int p0), .val (.int p1), .val (.int p2), .val (.int p3), .val (.int ii), .val (.int ct), .val (.int (2 : Int32)), .val (.ref ad133), .unset, .unset] [(.ref ad194), (.ref ad194), (.ref ad133)])) (fun t k => XS.dup X194.here hx rfl (hb hby at_79) rfl rfl k) ?_
      refine own_step (T' := T194) (g' := (mkF m 81 #[.val (.int p0), .val (.int p1), .val (.int p2), .val (.int p3), .val (.int ii), .val (.int ct), .val (.int (2 : Int32)), .val (.ref ad133), .unset, .unset] [(.int p3), (.ref ad194), (.ref ad194), (.ref ad133)])) (fun t k => XS.iloadN X194.here hx rfl (hb hby at_80) rfl k) ?_
      refine own_step (T' := T194) (g' := (mkF m 82 #[.val (.int p0), .val (.int p1), .val (.int p2), .val (.int p3), .val (.int ii), .val (.int ct), .val (.int (2 : Int32)), .val (.ref ad133), .unset, .unset] [(.int (1 : Int32)), (.int p3), (.ref ad194), (.ref ad194), (.ref ad133)])) (fun t k => XS.iconst X194.here hx rfl (hb hby at_81) k) ?_
      refine own_step (T' := T194) (g' := (mkF m 83 #[.val (.int p0), .val (.int p1), .val (.int p2), .val (.int p3), .val (.int ii), .val (.int ct), .val (.int (2 : Int32)), .val (.ref ad133), .unset, .unset] [(.int (p3 + (1 : Int32))), (.ref ad194), (.ref ad194), (.ref ad133)])) (fun t k => XS.iadd X194.here hx rfl (hb hby at_82) rfl k) ?_
      obtain ⟨_, _, ⟨T208, L208, k208, n208⟩, -, X208, ⟨Lc208, hQ208, lq208, yq208, zq208⟩, st208⟩ := Jvm.LawKit.callS X194 hx (y := (⟨"java/lang/Integer", "valueOf", "(I)Ljava/lang/Integer;"⟩ : MethodName)) hown (mvT hZ (hw _ (List.mem_of_getElem? (i := 30) rfl))) (mvT hZ (hw _ (List.mem_of_getElem? (i := 31) rfl))) (mvT hZ (hw _ (List.mem_of_getElem? (i := 32) rfl))) (mvT hZ (hw _ (List.mem_of_getElem? (i := 33) rfl))) (by decide) (backOf (W := 3) (rm_vo l Z a0 hw [] (p3 + (1 : Int32)) ca cc h194 n0 Z194 O194 S_h S_c A_c H_c) hZ (hw _ (List.mem_of_getElem? (i := 33) rfl)) (hw _ (List.mem_of_getElem? (i := 32) rfl)) (by decide) (by decide)) (g := (mkF m 83 #[.val (.int p0), .val (.int p1), .val (.int p2), .val (.int p3), .val (.int ii), .val (.int ct), .val (.int (2 : Int32)), .val (.ref ad133), .unset, .unset] [(.int (p3 + (1 : Int32))), (.ref ad194), (.ref ad194), (.ref ad133)])) rfl (by rw [hml]; rfl) (argsL := [(.int (p3 + (1 : Int32)))]) (rest := [(.ref ad194), (.ref ad194), (.ref ad133)]) (lenOf pd_17 rfl) rfl (by show 2 * 0 + _ ≤ _; exact Nat.le_of_eq rfl) (hb hby at_83) (fun _ _ => ⟨rfl, e194, (by decide : 6 + 1 ≤ _), (by decide : 19 + 1 ≤ _)⟩)
      dsimp only [Pt.U, Pt.locs, Pt.cells, Pt.slots] at X208 lq208 yq208 zq208 st208 hQ208
      subst lq208 yq208 zq208
      obtain ⟨r206, rfl, Nq208, K207⟩ := hQ208
      have N208 := Fr.app N189 Nq208
      have g209 : Exa Z T208.heap ad144 "com/example/kempt_cursor/kemptcursor/Keyed" := g195.keep K207
      have g210 : Fld Z T208.heap ad144 "com/example/kempt_cursor/kemptcursor/Keyed" "key" "Ljava/lang/Object;" (.ref r151) := g196.keep K207 nin0
      have g211 : Fld Z T208.heap ad144 "com/example/kempt_cursor/kemptcursor/Keyed" "value" "Ljava/lang/Object;" (.ref r161) := g197.keep K207 nin0
      have g212 : Exa Z T208.heap ad133 "java/util/ArrayList" := g198.keep K207
      have g213 : Fld Z T208.heap ad133 "java/util/ArrayList" "elementData" "[Ljava/lang/Object;" (.ref b_180) := g199.keep K207 nin0
      have g214 : Fld Z T208.heap ad133 "java/util/ArrayList" "size" "I" (.int (1 : Int32)) := g200.keep K207 nin0
      have g215 : Arv Z T208.heap b_180 kb_180 (.object "java/lang/Object") (10 : Int32) [(.ref ad144), .null, .null, .null, .null, .null, .null, .null, .null, .null] .null := g201.keep K207 nin0
      have g216 : Exa Z T208.heap b_180 "[Ljava/lang/Object;" := g202.keep K207
      have g217 : Fld Z T208.heap ad133 "java/util/AbstractList" "modCount" "I" (.int (1 : Int32)) := g203.keep K207 nin0
      have g218 : Exa Z T208.heap ad194 "com/example/kempt_cursor/kemptcursor/Keyed" := A194.keep K207
      have g219 : Fld Z T208.heap ad194 "com/example/kempt_cursor/kemptcursor/Keyed" "key" "Ljava/lang/Object;" .null := g204.keep K207 nin0
      have g220 : Fld Z T208.heap ad194 "com/example/kempt_cursor/kemptcursor/Keyed" "value" "Ljava/lang/Object;" .null := g205.keep K207 nin0
      have Z207 : n0 ≤ T208.heap.size := (Nat.le_trans Z194 K207.1)
      have O207 : Old Z n0 T208.heap := O194.keep K207 (all0 (P := fun x => n0 ≤ x))
      refine own_step (T' := T208) (g' := (mkF m 86 #[.val (.int p0), .val (.int p1), .val (.int p2), .val (.int p3), .val (.int ii), .val (.int ct), .val (.int (2 : Int32)), .val (.ref ad133), .unset, .unset] [(.ref r206), (.ref ad194), (.ref ad194), (.ref ad133)])) st208 ?_
      refine own_step (T' := T208) (g' := (mkF m 87 #[.val (.int p0), .val (.int p1), .val (.int p2), .val (.int p3), .val (.int ii), .val (.int ct), .val (.int (2 : Int32)), .val (.ref ad133), .unset, .unset] [(.int (1 : Int32)), (.ref r206), (.ref ad194), (.ref ad194), (.ref ad133)])) (fun t k => XS.iconst X208.here hx rfl (hb hby at_86) k) ?_
      obtain ⟨_, _, ⟨T223, L223, k223, n223⟩, -, X223, ⟨Lc223, hQ223, lq223, yq223, zq223⟩, st223⟩ := Jvm.LawKit.callS X208 hx (y := (⟨"java/lang/Integer", "valueOf", "(I)Ljava/lang/Integer;"⟩ : MethodName)) hown (mvT hZ (hw _ (List.mem_of_getElem? (i := 30) rfl))) (mvT hZ (hw _ (List.mem_of_getElem? (i := 31) rfl))) (mvT hZ (hw _ (List.mem_of_getElem? (i := 32) rfl))) (mvT hZ (hw _ (List.mem_of_getElem? (i := 33) rfl))) (by decide) (backOf (W := 4) (rm_vo l Z a0 hw [] (1 : Int32) ca cc T208.heap n0 Z207 O207 S_h S_c A_c H_c) hZ (hw _ (List.mem_of_getElem? (i := 33) rfl)) (hw _ (List.mem_of_getElem? (i := 32) rfl)) (by decide) (by decide)) (g := (mkF m 87 #[.val (.int p0), .val (.int p1), .val (.int p2), .val (.int p3), .val (.int ii), .val (.int ct), .val (.int (2 : Int32)), .val (.ref ad133), .unset, .unset] [(.int (1 : Int32)), (.ref r206), (.ref ad194), (.ref ad194), (.ref ad133)])) rfl (by rw [hml]; rfl) (argsL := [(.int (1 : Int32))]) (rest := [(.ref r206), (.ref ad194), (.ref ad194), (.ref ad133)]) (lenOf pd_17 rfl) rfl (by show 2 * 0 + _ ≤ _; exact Nat.le_of_eq rfl) (hb hby at_87) (fun _ _ => ⟨rfl, rfl, (by decide : 7 + 1 ≤ _), (by decide : 20 + 1 ≤ _)⟩)
      dsimp only [Pt.U, Pt.locs, Pt.cells, Pt.slots] at X223 lq223 yq223 zq223 st223 hQ223
      subst lq223 yq223 zq223
      obtain ⟨r221, rfl, Nq223, K222⟩ := hQ223
      have N223 := Fr.app N208 Nq223
      have g224 : Exa Z T223.heap ad144 "com/example/kempt_cursor/kemptcursor/Keyed" := g209.keep K222
      have g225 : Fld Z T223.heap ad144 "com/example/kempt_cursor/kemptcursor/Keyed" "key" "Ljava/lang/Object;" (.ref r151) := g210.keep K222 nin0
      have g226 : Fld Z T223.heap ad144 "com/example/kempt_cursor/kemptcursor/Keyed" "value" "Ljava/lang/Object;" (.ref r161) := g211.keep K222 nin0
      have g227 : Exa Z T223.heap ad133 "java/util/ArrayList" := g212.keep K222
      have g228 : Fld Z T223.heap ad133 "java/util/ArrayList" "elementData" "[Ljava/lang/Object;" (.ref b_180) := g213.keep K222 nin0
      have g229 : Fld Z T223.heap ad133 "java/util/ArrayList" "size" "I" (.int (1 : Int32)) := g214.keep K222 nin0
      have g230 : Arv Z T223.heap b_180 kb_180 (.object "java/lang/Object") (10 : Int32) [(.ref ad144), .null, .null, .null, .null, .null, .null, .null, .null, .null] .null := g215.keep K222 nin0
      have g231 : Exa Z T223.heap b_180 "[Ljava/lang/Object;" := g216.keep K222
      have g232 : Fld Z T223.heap ad133 "java/util/AbstractList" "modCount" "I" (.int (1 : Int32)) := g217.keep K222 nin0
      have g233 : Exa Z T223.heap ad194 "com/example/kempt_cursor/kemptcursor/Keyed" := g218.keep K222
      have g234 : Fld Z T223.heap ad194 "com/example/kempt_cursor/kemptcursor/Keyed" "key" "Ljava/lang/Object;" .null := g219.keep K222 nin0
      have g235 : Fld Z T223.heap ad194 "com/example/kempt_cursor/kemptcursor/Keyed" "value" "Ljava/lang/Object;" .null := g220.keep K222 nin0
      have Z222 : n0 ≤ T223.heap.size := (Nat.le_trans Z207 K222.1)
      have O222 : Old Z n0 T223.heap := O207.keep K222 (all0 (P := fun x => n0 ≤ x))
      refine own_step (T' := T223) (g' := (mkF m 90 #[.val (.int p0), .val (.int p1), .val (.int p2), .val (.int p3), .val (.int ii), .val (.int ct), .val (.int (2 : Int32)), .val (.ref ad133), .unset, .unset] [(.ref r221), (.ref r206), (.ref ad194), (.ref ad194), (.ref ad133)])) st223 ?_
      obtain ⟨_, _, ⟨T240, L240, k240, n240⟩, -, X240, ⟨Lc240, hQ240, lq240, yq240, zq240⟩, st240⟩ := X223.specialBack hx (y := (⟨"com/example/kempt_cursor/kemptcursor/Keyed", "<init>", "(Ljava/lang/Object;Ljava/lang/Object;)V"⟩ : MethodName)) rfl hown (mvT hZ (hw _ (List.mem_of_getElem? (i := 37) rfl))) (mvT hZ (hw _ (List.mem_of_getElem? (i := 38) rfl))) (mvT hZ (hw _ (List.mem_of_getElem? (i := 39) rfl))) (by decide) (backOf (W := 2) (rm_kyi l Z a0 hw [] ad194 r206 r221 _ _ T223.heap n0 Z222 g233 g234 g235 o194) hZ (hw _ (List.mem_of_getElem? (i := 39) rfl)) (hw _ (List.mem_of_getElem? (i := 29) rfl)) (by decide) (by decide)) (g := (mkF m 90 #[.val (.int p0), .val (.int p1), .val (.int p2), .val (.int p3), .val (.int ii), .val (.int ct), .val (.int (2 : Int32)), .val (.ref ad133), .unset, .unset] [(.ref r221), (.ref r206), (.ref ad194), (.ref ad194), (.ref ad133)])) rfl (by rw [hml]; rfl) (Steps.refl _) (a := ad194) (argsL := [(.ref r206), (.ref r221)]) (rest := [(.ref ad194), (.ref ad133)]) (lenOf pd_11 rfl) rfl (by show 2 * 0 + _ ≤ _; exact Nat.le_of_eq rfl) (hb hby at_90) (fun _ _ => ⟨rfl, rfl, (by decide : 8 + 0 ≤ _), (by decide : 21 + 0 ≤ _)⟩)
      dsimp only [Pt.U, Pt.locs, Pt.cells, Pt.slots] at X240 lq240 yq240 zq240 st240 hQ240
      subst lq240 yq240 zq240
      obtain ⟨rfl, Nq240, K236, g237, g238, g239⟩ := hQ240
      have N240 := Fr.app N223 Nq240
      have g241 : Exa Z T240.heap ad144 "com/example/kempt_cursor/kemptcursor/Keyed" := g224.keep K236
      have g242 : Fld Z T240.heap ad144 "com/example/kempt_cursor/kemptcursor/Keyed" "key" "Ljava/lang/Object;" (.ref r151) := g225.keep K236 (ninS ne194_1 nin0)
      have g243 : Fld Z T240.heap ad144 "com/example/kempt_cursor/kemptcursor/Keyed" "value" "Ljava/lang/Object;" (.ref r161) := g226.keep K236 (ninS ne194_1 nin0)
      have g244 : Exa Z T240.heap ad133 "java/util/ArrayList" := g227.keep K236
      have g245 : Fld Z T240.heap ad133 "java/util/ArrayList" "elementData" "[Ljava/lang/Object;" (.ref b_180) := g228.keep K236 (ninS ne194_2 nin0)
      have g246 : Fld Z T240.heap ad133 "java/util/ArrayList" "size" "I" (.int (1 : Int32)) := g229.keep K236 (ninS ne194_2 nin0)
      have g247 : Arv Z T240.heap b_180 kb_180 (.object "java/lang/Object") (10 : Int32) [(.ref ad144), .null, .null, .null, .null, .null, .null, .null, .null, .null] .null := g230.keep K236 (ninS ne194_3 nin0)
      have g248 : Exa Z T240.heap b_180 "[Ljava/lang/Object;" := g231.keep K236
      have g249 : Fld Z T240.heap ad133 "java/util/AbstractList" "modCount" "I" (.int (1 : Int32)) := g232.keep K236 (ninS ne194_2 nin0)
      have Z236 : n0 ≤ T240.heap.size := (Nat.le_trans Z222 K236.1)
      have O236 : Old Z n0 T240.heap := O222.keep K236 (allS (P := fun x => n0 ≤ x) o194 all0)
      refine own_tr (T' := T240) (g' := (mkF m 93 #[.val (.int p0), .val (.int p1), .val (.int p2), .val (.int p3), .val (.int ii), .val (.int ct), .val (.int (2 : Int32)), .val (.ref ad133), .unset, .unset] [(.ref ad194), (.ref ad133)])) st240 ?_
      obtain ⟨cq260, kq260, q260a, q260b, q260c⟩ := isOf hZ rfl g244
      obtain ⟨_, _, ⟨T259, L259, k259, n259⟩, -, X259, ⟨Lc259, hQ259, lq259, yq259, zq259⟩, st259⟩ := X240.virtualBack hx (y := (⟨"java/util/ArrayList", "add", "(Ljava/lang/Object;)Z"⟩ : MethodName)) (z := (⟨"java/util/ArrayList", "add", "(Ljava/lang/Object;)Z"⟩ : MethodName)) hown (mvT hZ (hw _ (List.mem_of_getElem? (i := 50) rfl))) (mvT hZ (hw _ (List.mem_of_getElem? (i := 51) rfl))) (notFace_of_selects (args := #[]) (mvT hZ (hw _ (List.mem_of_getElem? (i := 53) rfl)))) (mvT hZ (hw _ (List.mem_of_getElem? (i := 53) rfl))) (mvT hZ (hw _ (List.mem_of_getElem? (i := 52) rfl))) (by decide) (backOf (W := 0) (rm_ad1_1 l Z a0 hw [] ad133 ad194 b_180 kb_180 ad144 T240.heap n0 Z236 g244 g245 g246 g237 g247 g248 g187 g249 o133 oz_b_180 ne194_2 nz_ad133_b_180 (Ne.symm ne194_3)) hZ (hw _ (List.mem_of_getElem? (i := 54) rfl)) (hw _ (List.mem_of_getElem? (i := 3) rfl)) (by decide) (by decide)) q260a q260c (g := (mkF m 93 #[.val (.int p0), .val (.int p1), .val (.int p2), .val (.int p3), .val (.int ii), .val (.int ct), .val (.int (2 : Int32)), .val (.ref ad133), .unset, .unset] [(.ref ad194), (.ref ad133)])) rfl (by rw [hml]; rfl) (Steps.refl _) (argsL := [(.ref ad194)]) (rest := []) (lenOf pd_18 rfl) rfl (by show 2 * 0 + _ ≤ _; exact Nat.le_of_eq rfl) (hb hby at_93) (fun _ _ => ⟨rfl, rfl, (by decide : 8 + 0 ≤ _), (by decide : 21 + 0 ≤ _)⟩)
      dsimp only [Pt.U, Pt.locs, Pt.cells, Pt.slots] at X259 lq259 yq259 zq259 st259 hQ259
      subst lq259 yq259 zq259
      obtain ⟨rfl, Nq259, K251, g252, g253, g254, g255, g256, g257, g258⟩ := hQ259
      have N259 := Fr.app N240 Nq259
      have g261 : Exa Z T259.heap ad144 "com/example/kempt_cursor/kemptcursor/Keyed" := g241.keep K251
      have g262 : Fld Z T259.heap ad144 "com/example/kempt_cursor/kemptcursor/Keyed" "key" "Ljava/lang/Object;" (.ref r151) := g242.keep K251 (ninS (Ne.symm ne144_1) (ninS nz_ad144_b_180 nin0))
      have g263 : Fld Z T259.heap ad144 "com/example/kempt_cursor/kemptcursor/Keyed" "value" "Ljava/lang/Object;" (.ref r161) := g243.keep K251 (ninS (Ne.symm ne144_1) (ninS nz_ad144_b_180 nin0))
      have g264 : Exa Z T259.heap ad194 "com/example/kempt_cursor/kemptcursor/Keyed" := g237.keep K251
      have g265 : Fld Z T259.heap ad194 "com/example/kempt_cursor/kemptcursor/Keyed" "key" "Ljava/lang/Object;" (.ref r206) := g238.keep K251 (ninS (Ne.symm ne194_2) (ninS (Ne.symm ne194_3) nin0))
      have g266 : Fld Z T259.heap ad194 "com/example/kempt_cursor/kemptcursor/Keyed" "value" "Ljava/lang/Object;" (.ref r221) := g239.keep K251 (ninS (Ne.symm ne194_2) (ninS (Ne.symm ne194_3) nin0))
      have Z251 : n0 ≤ T259.heap.size := (Nat.le_trans Z236 K251.1)
      have O251 : Old Z n0 T259.heap := O236.keep K251 (allS (P := fun x => n0 ≤ x) o133 (allS (P := fun x => n0 ≤ x) oz_b_180 all0))
      refine own_tr (T' := T259) (g' := (mkF m 96 #[.val (.int p0), .val (.int p1), .val (.int p2), .val (.int p3), .val (.int ii), .val (.int ct), .val (.int (2 : Int32)), .val (.ref ad133), .unset, .unset] [(.int (1 : Int32))])) st259 ?_
      refine own_step (T' := T259) (g' := (mkF m 97 #[.val (.int p0), .val (.int p1), .val (.int p2), .val (.int p3), .val (.int ii), .val (.int ct), .val (.int (2 : Int32)), .val (.ref ad133), .unset, .unset] [])) (fun t k => XS.pop X259.here hx rfl (hb hby at_96) rfl rfl k) ?_
      refine own_step (T' := T259) (g' := (mkF m 99 #[.val (.int p0), .val (.int p1), .val (.int p2), .val (.int p3), .val (.int ii), .val (.int ct), .val (.int (2 : Int32)), .val (.ref ad133), .unset, .unset] [(.int (2 : Int32))])) (fun t k => XS.iload X259.here hx rfl (hb hby at_97) rfl k) ?_
      refine own_step (T' := T259) (g' := (mkF m 100 #[.val (.int p0), .val (.int p1), .val (.int p2), .val (.int p3), .val (.int ii), .val (.int ct), .val (.int (2 : Int32)), .val (.ref ad133), .unset, .unset] [(.int (2 : Int32)), (.int (2 : Int32))])) (fun t k => XS.iconst X259.here hx rfl (hb hby at_99) k) ?_
      refine own_step (T' := T259) (g' := (mkF m 126 #[.val (.int p0), .val (.int p1), .val (.int p2), .val (.int p3), .val (.int ii), .val (.int ct), .val (.int (2 : Int32)), .val (.ref ad133), .unset, .unset] [])) (fun t k => XS.icmpYes X259.here hx rfl (pc0 := 100) (pc' := 126) rfl (hb hby at_100) rfl (flt (by decide : ¬ ((2 : Int32) < (2 : Int32)))).2.2.2 (by decide) (by decide) k) ?_
      obtain ⟨T267, h267, X267, e267, E267, A267, D267, -, st267⟩ := newO X259 hx hZ hown (hw _ (List.mem_of_getElem? (i := 81) rfl)) (hw _ (List.mem_of_getElem? (i := 82) rfl)) (hw _ (List.mem_of_getElem? (i := 83) rfl)) rfl (g := (mkF m 126 #[.val (.int p0), .val (.int p1), .val (.int p2), .val (.int p3), .val (.int ii), .val (.int ct), .val (.int (2 : Int32)), .val (.ref ad133), .unset, .unset] [])) rfl (hb hby at_126) (by decide : 8 + 1 ≤ _) (by decide : 21 + 3 ≤ _)
      obtain ⟨ad267, g_ad267⟩ : ∃ z, z = T259.heap.size := ⟨_, rfl⟩
      rw [← g_ad267] at A267 D267 st267
      have g268 : Exa Z h267 ad144 "com/example/kempt_cursor/kemptcursor/Keyed" := g261.ext E267
      have g269 : Fld Z h267 ad144 "com/example/kempt_cursor/kemptcursor/Keyed" "key" "Ljava/lang/Object;" (.ref r151) := g262.ext E267
      have g270 : Fld Z h267 ad144 "com/example/kempt_cursor/kemptcursor/Keyed" "value" "Ljava/lang/Object;" (.ref r161) := g263.ext E267
      have g271 : Exa Z h267 ad194 "com/example/kempt_cursor/kemptcursor/Keyed" := g264.ext E267
      have g272 : Fld Z h267 ad194 "com/example/kempt_cursor/kemptcursor/Keyed" "key" "Ljava/lang/Object;" (.ref r206) := g265.ext E267
      have g273 : Fld Z h267 ad194 "com/example/kempt_cursor/kemptcursor/Keyed" "value" "Ljava/lang/Object;" (.ref r221) := g266.ext E267
      have g274 : Exa Z h267 ad133 "java/util/ArrayList" := g252.ext E267
      have g275 : Fld Z h267 ad133 "java/util/ArrayList" "elementData" "[Ljava/lang/Object;" (.ref b_180) := g253.ext E267
      have g276 : Fld Z h267 ad133 "java/util/ArrayList" "size" "I" (.int (2 : Int32)) := g254.ext E267
      have g277 : Arv Z h267 b_180 kb_180 (.object "java/lang/Object") (10 : Int32) [(.ref ad144), (.ref ad194), .null, .null, .null, .null, .null, .null, .null, .null] .null := g255.ext E267
      have g278 : Exa Z h267 b_180 "[Ljava/lang/Object;" := g256.ext E267
      have g279 : Fld Z h267 ad133 "java/util/AbstractList" "modCount" "I" (.int (2 : Int32)) := g258.ext E267
      have ne267_1 : ad144 ≠ ad267 := Nat.ne_of_lt (by rw [g_ad267]; exact g261.lt)
      have ne267_2 : ad194 ≠ ad267 := Nat.ne_of_lt (by rw [g_ad267]; exact g264.lt)
      have ne267_3 : ad133 ≠ ad267 := Nat.ne_of_lt (by rw [g_ad267]; exact g252.lt)
      have ne267_4 : b_180 ≠ ad267 := Nat.ne_of_lt (by rw [g_ad267]; exact g255.lt)
      have o267 : n0 ≤ ad267 := (Nat.le_trans Z251 (Nat.le_of_eq g_ad267.symm))
      have Z267 : n0 ≤ h267.size := (Nat.le_trans Z251 E267.1)
      have O267 : Old Z n0 h267 := O251.ext E267
      have g280 : Fld Z h267 ad267 "com/example/kempt_cursor/kemptcursor/Page" "items" "Ljava/util/List;" .null := D267 (Or.inr (hw _ (List.mem_of_getElem? (i := 174) rfl))) (ty := .object "java/util/List") (by decide)
      have g281 : Fld Z h267 ad267 "com/example/kempt_cursor/kemptcursor/Page" "index" "I" (.int (0 : Int32)) := D267 (Or.inr (hw _ (List.mem_of_getElem? (i := 176) rfl))) (ty := .int) (by decide)
      have g282 : Fld Z h267 ad267 "com/example/kempt_cursor/kemptcursor/Page" "count" "I" (.int (0 : Int32)) := D267 (Or.inr (hw _ (List.mem_of_getElem? (i := 178) rfl))) (ty := .int) (by decide)
      refine own_step (T' := T267) (g' := (mkF m 129 #[.val (.int p0), .val (.int p1), .val (.int p2), .val (.int p3), .val (.int ii), .val (.int ct), .val (.int (2 : Int32)), .val (.ref ad133), .unset, .unset] [(.ref ad267)])) st267 ?_
      refine own_step (T' := T267) (g' := (mkF m 130 #[.val (.int p0), .val (.int p1), .val (.int p2), .val (.int p3), .val (.int ii), .val (.int ct), .val (.int (2 : Int32)), .val (.ref ad133), .unset, .unset] [(.ref ad267), (.ref ad267)])) (fun t k => XS.dup X267.here hx rfl (hb hby at_129) rfl rfl k) ?_
      refine own_step (T' := T267) (g' := (mkF m 132 #[.val (.int p0), .val (.int p1), .val (.int p2), .val (.int p3), .val (.int ii), .val (.int ct), .val (.int (2 : Int32)), .val (.ref ad133), .unset, .unset] [(.ref ad133), (.ref ad267), (.ref ad267)])) (fun t k => XS.aload X267.here hx rfl (hb hby at_130) rfl rfl k) ?_
      refine own_step (T' := T267) (g' := (mkF m 134 #[.val (.int p0), .val (.int p1), .val (.int p2), .val (.int p3), .val (.int ii), .val (.int ct), .val (.int (2 : Int32)), .val (.ref ad133), .unset, .unset] [(.int ii), (.ref ad133), (.ref ad267), (.ref ad267)])) (fun t k => XS.iload X267.here hx rfl (hb hby at_132) rfl k) ?_
      refine own_step (T' := T267) (g' := (mkF m 136 #[.val (.int p0), .val (.int p1), .val (.int p2), .val (.int p3), .val (.int ii), .val (.int ct), .val (.int (2 : Int32)), .val (.ref ad133), .unset, .unset] [(.int ct), (.int ii), (.ref ad133), (.ref ad267), (.ref ad267)])) (fun t k => XS.iload X267.here hx rfl (hb hby at_134) rfl k) ?_
      obtain ⟨_, _, ⟨T287, L287, k287, n287⟩, -, X287, ⟨Lc287, hQ287, lq287, yq287, zq287⟩, st287⟩ := X267.specialBack hx (y := (⟨"com/example/kempt_cursor/kemptcursor/Page", "<init>", "(Ljava/util/List;II)V"⟩ : MethodName)) rfl hown (mvT hZ (hw _ (List.mem_of_getElem? (i := 84) rfl))) (mvT hZ (hw _ (List.mem_of_getElem? (i := 85) rfl))) (mvT hZ (hw _ (List.mem_of_getElem? (i := 86) rfl))) (by decide) (backOf (W := 1) (rm_pgi_2 l Z a0 hw [] ad267 ad133 b_180 kb_180 ad144 ad194 el em mr ii ct .null (.int (0 : Int32)) (.int (0 : Int32)) h267 n0 Z267 A267 g280 g281 g282 g274 g276 g275 g277 g278 g268 g271 o267 ne267_3 ne267_4 ne267_1 ne267_2 O267 S_el S_em M_o) hZ (hw _ (List.mem_of_getElem? (i := 86) rfl)) (hw _ (List.mem_of_getElem? (i := 83) rfl)) (by decide) (by decide)) (g := (mkF m 136 #[.val (.int p0), .val (.int p1), .val (.int p2), .val (.int p3), .val (.int ii), .val (.int ct), .val (.int (2 : Int32)), .val (.ref ad133), .unset, .unset] [(.int ct), (.int ii), (.ref ad133), (.ref ad267), (.ref ad267)])) rfl (by rw [hml]; rfl) (Steps.refl _) (a := ad267) (argsL := [(.ref ad133), (.int ii), (.int ct)]) (rest := [(.ref ad267)]) (lenOf pd_16 rfl) rfl (by show 2 * 0 + _ ≤ _; exact Nat.le_of_eq rfl) (hb hby at_136) (fun _ _ => ⟨rfl, e267, (by decide : 9 + 2 ≤ _), (by decide : 24 + 4 ≤ _)⟩)
      dsimp only [Pt.U, Pt.locs, Pt.cells, Pt.slots] at X287 lq287 yq287 zq287 st287 hQ287
      subst lq287 yq287 zq287
      obtain ⟨rfl, Nq287, K284, g285, g286⟩ := hQ287
      have N287 := Fr.app N259 Nq287
      have g288 : Exa Z T287.heap ad144 "com/example/kempt_cursor/kemptcursor/Keyed" := g268.keep K284
      have g289 : Fld Z T287.heap ad144 "com/example/kempt_cursor/kemptcursor/Keyed" "key" "Ljava/lang/Object;" (.ref r151) := g269.keep K284 (ninS ne267_1 nin0)
      have g290 : Fld Z T287.heap ad144 "com/example/kempt_cursor/kemptcursor/Keyed" "value" "Ljava/lang/Object;" (.ref r161) := g270.keep K284 (ninS ne267_1 nin0)
      have g291 : Exa Z T287.heap ad194 "com/example/kempt_cursor/kemptcursor/Keyed" := g271.keep K284
      have g292 : Fld Z T287.heap ad194 "com/example/kempt_cursor/kemptcursor/Keyed" "key" "Ljava/lang/Object;" (.ref r206) := g272.keep K284 (ninS ne267_2 nin0)
      have g293 : Fld Z T287.heap ad194 "com/example/kempt_cursor/kemptcursor/Keyed" "value" "Ljava/lang/Object;" (.ref r221) := g273.keep K284 (ninS ne267_2 nin0)
      have g294 : Exa Z T287.heap ad133 "java/util/ArrayList" := g274.keep K284
      have g295 : Fld Z T287.heap ad133 "java/util/ArrayList" "elementData" "[Ljava/lang/Object;" (.ref b_180) := g275.keep K284 (ninS ne267_3 nin0)
      have g296 : Fld Z T287.heap ad133 "java/util/ArrayList" "size" "I" (.int (2 : Int32)) := g276.keep K284 (ninS ne267_3 nin0)
      have g297 : Arv Z T287.heap b_180 kb_180 (.object "java/lang/Object") (10 : Int32) [(.ref ad144), (.ref ad194), .null, .null, .null, .null, .null, .null, .null, .null] .null := g277.keep K284 (ninS ne267_4 nin0)
      have g298 : Exa Z T287.heap b_180 "[Ljava/lang/Object;" := g278.keep K284
      have g299 : Fld Z T287.heap ad133 "java/util/AbstractList" "modCount" "I" (.int (2 : Int32)) := g279.keep K284 (ninS ne267_3 nin0)
      have Z284 : n0 ≤ T287.heap.size := (Nat.le_trans Z267 K284.1)
      have O284 : Old Z n0 T287.heap := O267.keep K284 (allS (P := fun x => n0 ≤ x) o267 all0)
      refine own_tr (T' := T287) (g' := (mkF m 139 #[.val (.int p0), .val (.int p1), .val (.int p2), .val (.int p3), .val (.int ii), .val (.int ct), .val (.int (2 : Int32)), .val (.ref ad133), .unset, .unset] [(.ref ad267)])) st287 ?_
      refine own_step (T' := T287) (g' := (mkF m 141 #[.val (.int p0), .val (.int p1), .val (.int p2), .val (.int p3), .val (.int ii), .val (.int ct), .val (.int (2 : Int32)), .val (.ref ad133), .val (.ref ad267), .unset] [])) (fun t k => XS.astore X287.here hx rfl (hb hby at_139) rfl rfl (l' := #[.val (.int p0), .val (.int p1), .val (.int p2), .val (.int p3), .val (.int ii), .val (.int ct), .val (.int (2 : Int32)), .val (.ref ad133), .val (.ref ad267), .unset]) rfl k) ?_
      refine own_step (T' := T287) (g' := (mkF m 143 #[.val (.int p0), .val (.int p1), .val (.int p2), .val (.int p3), .val (.int ii), .val (.int ct), .val (.int (2 : Int32)), .val (.ref ad133), .val (.ref ad267), .unset] [(.int ii)])) (fun t k => XS.iload X287.here hx rfl (hb hby at_141) rfl k) ?_
      by_cases c143 : (0 : Int32) < ii
      · refine own_step (T' := T287) (g' := (mkF m 146 #[.val (.int p0), .val (.int p1), .val (.int p2), .val (.int p3), .val (.int ii), .val (.int ct), .val (.int (2 : Int32)), .val (.ref ad133), .val (.ref ad267), .unset] [])) (fun t k => XS.ifNo X287.here hx rfl (hb hby at_143) rfl ((if0 _ _).trans (tlt c143).2.2.2) k) ?_
        refine own_step (T' := T287) (g' := (mkF m 147 #[.val (.int p0), .val (.int p1), .val (.int p2), .val (.int p3), .val (.int ii), .val (.int ct), .val (.int (2 : Int32)), .val (.ref ad133), .val (.ref ad267), .unset] [(.int (1 : Int32))])) (fun t k => XS.iconst X287.here hx rfl (hb hby at_146) k) ?_
        refine own_step (T' := T287) (g' := (mkF m 151 #[.val (.int p0), .val (.int p1), .val (.int p2), .val (.int p3), .val (.int ii), .val (.int ct), .val (.int (2 : Int32)), .val (.ref ad133), .val (.ref ad267), .unset] [(.int (1 : Int32))])) (fun t k => XS.goto X287.here hx rfl (pc0 := 147) (pc' := 151) rfl (hb hby at_147) (by decide) (by decide) k) ?_
        refine own_step (T' := T287) (g' := (mkF m 153 #[.val (.int p0), .val (.int p1), .val (.int p2), .val (.int p3), .val (.int ii), .val (.int ct), .val (.int (2 : Int32)), .val (.ref ad133), .val (.ref ad267), .val (.int (1 : Int32))] [])) (fun t k => XS.istore X287.here hx rfl (hb hby at_151) rfl (l' := #[.val (.int p0), .val (.int p1), .val (.int p2), .val (.int p3), .val (.int ii), .val (.int ct), .val (.int (2 : Int32)), .val (.ref ad133), .val (.ref ad267), .val (.int (1 : Int32))]) rfl k) ?_
        refine own_step (T' := T287) (g' := (mkF m 155 #[.val (.int p0), .val (.int p1), .val (.int p2), .val (.int p3), .val (.int ii), .val (.int ct), .val (.int (2 : Int32)), .val (.ref ad133), .val (.ref ad267), .val (.int (1 : Int32))] [(.ref ad267)])) (fun t k => XS.aload X287.here hx rfl (hb hby at_153) rfl rfl k) ?_
        obtain ⟨cq303, kq303, q303a, q303b, q303c⟩ := isOf hZ rfl g285
        obtain ⟨_, _, ⟨T302, L302, k302, n302⟩, -, X302, ⟨Lc302, hQ302, lq302, yq302, zq302⟩, st302⟩ := X287.virtualBack hx (y := (⟨"com/example/kempt_cursor/kemptcursor/Page", "reachesStart", "()Z"⟩ : MethodName)) (z := (⟨"com/example/kempt_cursor/kemptcursor/Page", "reachesStart", "()Z"⟩ : MethodName)) hown (mvT hZ (hw _ (List.mem_of_getElem? (i := 179) rfl))) (mvT hZ (hw _ (List.mem_of_getElem? (i := 180) rfl))) (notFace_of_selects (args := #[]) (mvT hZ (hw _ (List.mem_of_getElem? (i := 182) rfl)))) (mvT hZ (hw _ (List.mem_of_getElem? (i := 182) rfl))) (mvT hZ (hw _ (List.mem_of_getElem? (i := 181) rfl))) (by decide) (backOf (W := 0) (rm_rea l Z a0 hw [] ad267 ii T287.heap n0 Z284 g286) hZ (hw _ (List.mem_of_getElem? (i := 183) rfl)) (hw _ (List.mem_of_getElem? (i := 83) rfl)) (by decide) (by decide)) q303a q303c (g := (mkF m 155 #[.val (.int p0), .val (.int p1), .val (.int p2), .val (.int p3), .val (.int ii), .val (.int ct), .val (.int (2 : Int32)), .val (.ref ad133), .val (.ref ad267), .val (.int (1 : Int32))] [(.ref ad267)])) rfl (by rw [hml]; rfl) (Steps.refl _) (argsL := []) (rest := []) (lenOf pd_13 rfl) rfl (by show 2 * 0 + _ ≤ _; exact Nat.le_of_eq rfl) (hb hby at_155) (fun _ _ => ⟨rfl, rfl, (by decide : 11 + 0 ≤ _), (by decide : 28 + 0 ≤ _)⟩)
        dsimp only [Pt.U, Pt.locs, Pt.cells, Pt.slots] at X302 lq302 yq302 zq302 st302 hQ302
        subst lq302 yq302 zq302
        obtain ⟨rfl, Nq302, eq301⟩ := hQ302
        have N302 := Fr.app N287 Nq302
        refine own_tr (T' := T302) (g' := (mkF m 158 #[.val (.int p0), .val (.int p1), .val (.int p2), .val (.int p3), .val (.int ii), .val (.int ct), .val (.int (2 : Int32)), .val (.ref ad133), .val (.ref ad267), .val (.int (1 : Int32))] [(.int (own_rs ii))])) st302 ?_
        refine own_step (T' := T302) (g' := (mkF m 160 #[.val (.int p0), .val (.int p1), .val (.int p2), .val (.int p3), .val (.int ii), .val (.int ct), .val (.int (2 : Int32)), .val (.ref ad133), .val (.ref ad267), .val (.int (1 : Int32))] [(.int (1 : Int32)), (.int (own_rs ii))])) (fun t k => XS.iload X302.here hx rfl (hb hby at_158) rfl k) ?_
        refine own_step (T' := T302) (g' := (mkF m 167 #[.val (.int p0), .val (.int p1), .val (.int p2), .val (.int p3), .val (.int ii), .val (.int ct), .val (.int (2 : Int32)), .val (.ref ad133), .val (.ref ad267), .val (.int (1 : Int32))] [(.int (own_rs ii))])) (fun t k => XS.ifYes X302.here hx rfl (pc0 := 160) (pc' := 167) rfl (hb hby at_160) rfl ((if0 _ _).trans (feq (by decide : ¬ ((1 : Int32) = (0 : Int32)))).2) (by decide) (by decide) k) ?_
        refine own_step (T' := T302) (g' := (mkF m 168 #[.val (.int p0), .val (.int p1), .val (.int p2), .val (.int p3), .val (.int ii), .val (.int ct), .val (.int (2 : Int32)), .val (.ref ad133), .val (.ref ad267), .val (.int (1 : Int32))] [(.int (0 : Int32)), (.int (own_rs ii))])) (fun t k => XS.iconst X302.here hx rfl (hb hby at_167) k) ?_
        refine own_step (T' := T302) (g' := (mkF m 171 #[.val (.int p0), .val (.int p1), .val (.int p2), .val (.int p3), .val (.int ii), .val (.int ct), .val (.int (2 : Int32)), .val (.ref ad133), .val (.ref ad267), .val (.int (1 : Int32))] [])) (fun t k => XS.icmpNo X302.here hx rfl (hb hby at_168) rfl (teq (own_rs1 c143)).2 k) ?_
        refine own_step (T' := T302) (g' := (mkF m 172 #[.val (.int p0), .val (.int p1), .val (.int p2), .val (.int p3), .val (.int ii), .val (.int ct), .val (.int (2 : Int32)), .val (.ref ad133), .val (.ref ad267), .val (.int (1 : Int32))] [(.int (1 : Int32))])) (fun t k => XS.iconst X302.here hx rfl (hb hby at_171) k) ?_
        refine own_step (T' := T302) (g' := (mkF m 176 #[.val (.int p0), .val (.int p1), .val (.int p2), .val (.int p3), .val (.int ii), .val (.int ct), .val (.int (2 : Int32)), .val (.ref ad133), .val (.ref ad267), .val (.int (1 : Int32))] [(.int (1 : Int32))])) (fun t k => XS.goto X302.here hx rfl (pc0 := 172) (pc' := 176) rfl (hb hby at_172) (by decide) (by decide) k) ?_
        refine own_rN X302 hx hlk Bd.returns (by simp) (hb hby at_176) ?_ (by decide) (by decide)
        rw [eq301]
        exact ⟨rfl, N302⟩
      · refine own_step (T' := T287) (g' := (mkF m 150 #[.val (.int p0), .val (.int p1), .val (.int p2), .val (.int p3), .val (.int ii), .val (.int ct), .val (.int (2 : Int32)), .val (.ref ad133), .val (.ref ad267), .unset] [])) (fun t k => XS.ifYes X287.here hx rfl (pc0 := 143) (pc' := 150) rfl (hb hby at_143) rfl ((if0 _ _).trans (flt c143).2.2.2) (by decide) (by decide) k) ?_
        refine own_step (T' := T287) (g' := (mkF m 151 #[.val (.int p0), .val (.int p1), .val (.int p2), .val (.int p3), .val (.int ii), .val (.int ct), .val (.int (2 : Int32)), .val (.ref ad133), .val (.ref ad267), .unset] [(.int (0 : Int32))])) (fun t k => XS.iconst X287.here hx rfl (hb hby at_150) k) ?_
        refine own_step (T' := T287) (g' := (mkF m 153 #[.val (.int p0), .val (.int p1), .val (.int p2), .val (.int p3), .val (.int ii), .val (.int ct), .val (.int (2 : Int32)), .val (.ref ad133), .val (.ref ad267), .val (.int (0 : Int32))] [])) (fun t k => XS.istore X287.here hx rfl (hb hby at_151) rfl (l' := #[.val (.int p0), .val (.int p1), .val (.int p2), .val (.int p3), .val (.int ii), .val (.int ct), .val (.int (2 : Int32)), .val (.ref ad133), .val (.ref ad267), .val (.int (0 : Int32))]) rfl k) ?_
        refine own_step (T' := T287) (g' := (mkF m 155 #[.val (.int p0), .val (.int p1), .val (.int p2), .val (.int p3), .val (.int ii), .val (.int ct), .val (.int (2 : Int32)), .val (.ref ad133), .val (.ref ad267), .val (.int (0 : Int32))] [(.ref ad267)])) (fun t k => XS.aload X287.here hx rfl (hb hby at_153) rfl rfl k) ?_
        obtain ⟨cq307, kq307, q307a, q307b, q307c⟩ := isOf hZ rfl g285
        obtain ⟨_, _, ⟨T306, L306, k306, n306⟩, -, X306, ⟨Lc306, hQ306, lq306, yq306, zq306⟩, st306⟩ := X287.virtualBack hx (y := (⟨"com/example/kempt_cursor/kemptcursor/Page", "reachesStart", "()Z"⟩ : MethodName)) (z := (⟨"com/example/kempt_cursor/kemptcursor/Page", "reachesStart", "()Z"⟩ : MethodName)) hown (mvT hZ (hw _ (List.mem_of_getElem? (i := 179) rfl))) (mvT hZ (hw _ (List.mem_of_getElem? (i := 180) rfl))) (notFace_of_selects (args := #[]) (mvT hZ (hw _ (List.mem_of_getElem? (i := 182) rfl)))) (mvT hZ (hw _ (List.mem_of_getElem? (i := 182) rfl))) (mvT hZ (hw _ (List.mem_of_getElem? (i := 181) rfl))) (by decide) (backOf (W := 0) (rm_rea l Z a0 hw [] ad267 ii T287.heap n0 Z284 g286) hZ (hw _ (List.mem_of_getElem? (i := 183) rfl)) (hw _ (List.mem_of_getElem? (i := 83) rfl)) (by decide) (by decide)) q307a q307c (g := (mkF m 155 #[.val (.int p0), .val (.int p1), .val (.int p2), .val (.int p3), .val (.int ii), .val (.int ct), .val (.int (2 : Int32)), .val (.ref ad133), .val (.ref ad267), .val (.int (0 : Int32))] [(.ref ad267)])) rfl (by rw [hml]; rfl) (Steps.refl _) (argsL := []) (rest := []) (lenOf pd_13 rfl) rfl (by show 2 * 0 + _ ≤ _; exact Nat.le_of_eq rfl) (hb hby at_155) (fun _ _ => ⟨rfl, rfl, (by decide : 11 + 0 ≤ _), (by decide : 28 + 0 ≤ _)⟩)
        dsimp only [Pt.U, Pt.locs, Pt.cells, Pt.slots] at X306 lq306 yq306 zq306 st306 hQ306
        subst lq306 yq306 zq306
        obtain ⟨rfl, Nq306, eq305⟩ := hQ306
        have N306 := Fr.app N287 Nq306
        refine own_tr (T' := T306) (g' := (mkF m 158 #[.val (.int p0), .val (.int p1), .val (.int p2), .val (.int p3), .val (.int ii), .val (.int ct), .val (.int (2 : Int32)), .val (.ref ad133), .val (.ref ad267), .val (.int (0 : Int32))] [(.int (own_rs ii))])) st306 ?_
        refine own_step (T' := T306) (g' := (mkF m 160 #[.val (.int p0), .val (.int p1), .val (.int p2), .val (.int p3), .val (.int ii), .val (.int ct), .val (.int (2 : Int32)), .val (.ref ad133), .val (.ref ad267), .val (.int (0 : Int32))] [(.int (0 : Int32)), (.int (own_rs ii))])) (fun t k => XS.iload X306.here hx rfl (hb hby at_158) rfl k) ?_
        refine own_step (T' := T306) (g' := (mkF m 163 #[.val (.int p0), .val (.int p1), .val (.int p2), .val (.int p3), .val (.int ii), .val (.int ct), .val (.int (2 : Int32)), .val (.ref ad133), .val (.ref ad267), .val (.int (0 : Int32))] [(.int (own_rs ii))])) (fun t k => XS.ifNo X306.here hx rfl (hb hby at_160) rfl ((if0 _ _).trans (teq (by decide : ((0 : Int32) = (0 : Int32)))).2) k) ?_
        refine own_step (T' := T306) (g' := (mkF m 164 #[.val (.int p0), .val (.int p1), .val (.int p2), .val (.int p3), .val (.int ii), .val (.int ct), .val (.int (2 : Int32)), .val (.ref ad133), .val (.ref ad267), .val (.int (0 : Int32))] [(.int (1 : Int32)), (.int (own_rs ii))])) (fun t k => XS.iconst X306.here hx rfl (hb hby at_163) k) ?_
        refine own_step (T' := T306) (g' := (mkF m 168 #[.val (.int p0), .val (.int p1), .val (.int p2), .val (.int p3), .val (.int ii), .val (.int ct), .val (.int (2 : Int32)), .val (.ref ad133), .val (.ref ad267), .val (.int (0 : Int32))] [(.int (1 : Int32)), (.int (own_rs ii))])) (fun t k => XS.goto X306.here hx rfl (pc0 := 164) (pc' := 168) rfl (hb hby at_164) (by decide) (by decide) k) ?_
        refine own_step (T' := T306) (g' := (mkF m 171 #[.val (.int p0), .val (.int p1), .val (.int p2), .val (.int p3), .val (.int ii), .val (.int ct), .val (.int (2 : Int32)), .val (.ref ad133), .val (.ref ad267), .val (.int (0 : Int32))] [])) (fun t k => XS.icmpNo X306.here hx rfl (hb hby at_168) rfl (teq (own_rs0 hii c143)).2 k) ?_
        refine own_step (T' := T306) (g' := (mkF m 172 #[.val (.int p0), .val (.int p1), .val (.int p2), .val (.int p3), .val (.int ii), .val (.int ct), .val (.int (2 : Int32)), .val (.ref ad133), .val (.ref ad267), .val (.int (0 : Int32))] [(.int (1 : Int32))])) (fun t k => XS.iconst X306.here hx rfl (hb hby at_171) k) ?_
        refine own_step (T' := T306) (g' := (mkF m 176 #[.val (.int p0), .val (.int p1), .val (.int p2), .val (.int p3), .val (.int ii), .val (.int ct), .val (.int (2 : Int32)), .val (.ref ad133), .val (.ref ad267), .val (.int (0 : Int32))] [(.int (1 : Int32))])) (fun t k => XS.goto X306.here hx rfl (pc0 := 172) (pc' := 176) rfl (hb hby at_172) (by decide) (by decide) k) ?_
        refine own_rN X306 hx hlk Bd.returns (by simp) (hb hby at_176) ?_ (by decide) (by decide)
        rw [eq305]
        exact ⟨rfl, N306⟩
    · obtain ⟨T308, h308, X308, e308, E308, A308, D308, -, st308⟩ := newO X0 hx hZ hown (hw _ (List.mem_of_getElem? (i := 1) rfl)) (hw _ (List.mem_of_getElem? (i := 2) rfl)) (hw _ (List.mem_of_getElem? (i := 3) rfl)) e0 (g := (mkF m 33 #[.val (.int p0), .val (.int p1), .val (.int p2), .val (.int p3), .val (.int ii), .val (.int ct), .val (.int (3 : Int32)), .unset, .unset, .unset] [])) rfl (hb hby at_33) (by decide : 0 + 1 ≤ _) (by decide : 0 + 3 ≤ _)
      obtain ⟨ad308, g_ad308⟩ : ∃ z, z = h0.size := ⟨_, rfl⟩
      rw [← g_ad308] at A308 D308 st308
      have o308 : n0 ≤ ad308 := (Nat.le_trans Z0 (Nat.le_of_eq g_ad308.symm))
      have Z308 : n0 ≤ h308.size := (Nat.le_trans Z0 E308.1)
      have O308 : Old Z n0 h308 := O0.ext E308
      have g309 : Fld Z h308 ad308 "java/util/AbstractList" "modCount" "I" (.int (0 : Int32)) := D308 (Or.inl (hw _ (List.mem_of_getElem? (i := 23) rfl))) (ty := .int) (by decide)
      have g310 : Fld Z h308 ad308 "java/util/ArrayList" "elementData" "[Ljava/lang/Object;" .null := D308 (Or.inl (hw _ (List.mem_of_getElem? (i := 26) rfl))) (ty := .array (.object "java/lang/Object")) (by decide)
      have g311 : Fld Z h308 ad308 "java/util/ArrayList" "size" "I" (.int (0 : Int32)) := D308 (Or.inl (hw _ (List.mem_of_getElem? (i := 58) rfl))) (ty := .int) (by decide)
      refine own_step (T' := T308) (g' := (mkF m 36 #[.val (.int p0), .val (.int p1), .val (.int p2), .val (.int p3), .val (.int ii), .val (.int ct), .val (.int (3 : Int32)), .unset, .unset, .unset] [(.ref ad308)])) st308 ?_
      refine own_step (T' := T308) (g' := (mkF m 37 #[.val (.int p0), .val (.int p1), .val (.int p2), .val (.int p3), .val (.int ii), .val (.int ct), .val (.int (3 : Int32)), .unset, .unset, .unset] [(.ref ad308), (.ref ad308)])) (fun t k => XS.dup X308.here hx rfl (hb hby at_36) rfl rfl k) ?_
      obtain ⟨_, _, ⟨T318, L318, k318, n318⟩, -, X318, ⟨Lc318, hQ318, lq318, yq318, zq318⟩, st318⟩ := X308.specialBack hx (y := (⟨"java/util/ArrayList", "<init>", "()V"⟩ : MethodName)) rfl hown (mvT hZ (hw _ (List.mem_of_getElem? (i := 4) rfl))) (mvT hZ (hw _ (List.mem_of_getElem? (i := 5) rfl))) (mvT hZ (hw _ (List.mem_of_getElem? (i := 6) rfl))) (by decide) (backOf (W := 1) (rm_ali l Z a0 hw [] ad308 (.int (0 : Int32)) .null de h308 n0 Z308 A308 g309 g310 g311 o308 O308 S_d) hZ (hw _ (List.mem_of_getElem? (i := 6) rfl)) (hw _ (List.mem_of_getElem? (i := 3) rfl)) (by decide) (by decide)) (g := (mkF m 37 #[.val (.int p0), .val (.int p1), .val (.int p2), .val (.int p3), .val (.int ii), .val (.int ct), .val (.int (3 : Int32)), .unset, .unset, .unset] [(.ref ad308), (.ref ad308)])) rfl (by rw [hml]; rfl) (Steps.refl _) (a := ad308) (argsL := []) (rest := [(.ref ad308)]) (lenOf pd_0 rfl) rfl (by show 2 * 0 + _ ≤ _; exact Nat.le_of_eq rfl) (hb hby at_37) (fun _ _ => ⟨rfl, e308, (by decide : 1 + 0 ≤ _), (by decide : 3 + 0 ≤ _)⟩)
      dsimp only [Pt.U, Pt.locs, Pt.cells, Pt.slots] at X318 lq318 yq318 zq318 st318 hQ318
      subst lq318 yq318 zq318
      obtain ⟨rfl, Nq318, K313, g314, g315, g316, g317⟩ := hQ318
      have N318 := Fr.app N0 Nq318
      have Z313 : n0 ≤ T318.heap.size := (Nat.le_trans Z308 K313.1)
      have O313 : Old Z n0 T318.heap := O308.keep K313 (allS (P := fun x => n0 ≤ x) o308 all0)
      refine own_tr (T' := T318) (g' := (mkF m 40 #[.val (.int p0), .val (.int p1), .val (.int p2), .val (.int p3), .val (.int ii), .val (.int ct), .val (.int (3 : Int32)), .unset, .unset, .unset] [(.ref ad308)])) st318 ?_
      refine own_step (T' := T318) (g' := (mkF m 42 #[.val (.int p0), .val (.int p1), .val (.int p2), .val (.int p3), .val (.int ii), .val (.int ct), .val (.int (3 : Int32)), .val (.ref ad308), .unset, .unset] [])) (fun t k => XS.astore X318.here hx rfl (hb hby at_40) rfl rfl (l' := #[.val (.int p0), .val (.int p1), .val (.int p2), .val (.int p3), .val (.int ii), .val (.int ct), .val (.int (3 : Int32)), .val (.ref ad308), .unset, .unset]) rfl k) ?_
      refine own_step (T' := T318) (g' := (mkF m 44 #[.val (.int p0), .val (.int p1), .val (.int p2), .val (.int p3), .val (.int ii), .val (.int ct), .val (.int (3 : Int32)), .val (.ref ad308), .unset, .unset] [(.int (3 : Int32))])) (fun t k => XS.iload X318.here hx rfl (hb hby at_42) rfl k) ?_
      refine own_step (T' := T318) (g' := (mkF m 47 #[.val (.int p0), .val (.int p1), .val (.int p2), .val (.int p3), .val (.int ii), .val (.int ct), .val (.int (3 : Int32)), .val (.ref ad308), .unset, .unset] [])) (fun t k => XS.ifNo X318.here hx rfl (hb hby at_44) rfl ((if0 _ _).trans (tlt (by decide : ((0 : Int32) < (3 : Int32)))).2.2.2) k) ?_
      refine own_step (T' := T318) (g' := (mkF m 49 #[.val (.int p0), .val (.int p1), .val (.int p2), .val (.int p3), .val (.int ii), .val (.int ct), .val (.int (3 : Int32)), .val (.ref ad308), .unset, .unset] [(.ref ad308)])) (fun t k => XS.aload X318.here hx rfl (hb hby at_47) rfl rfl k) ?_
      obtain ⟨T319, h319, X319, e319, E319, A319, D319, -, st319⟩ := newO X318 hx hZ hown (hw _ (List.mem_of_getElem? (i := 27) rfl)) (hw _ (List.mem_of_getElem? (i := 28) rfl)) (hw _ (List.mem_of_getElem? (i := 29) rfl)) rfl (g := (mkF m 49 #[.val (.int p0), .val (.int p1), .val (.int p2), .val (.int p3), .val (.int ii), .val (.int ct), .val (.int (3 : Int32)), .val (.ref ad308), .unset, .unset] [(.ref ad308)])) rfl (hb hby at_49) (by decide : 1 + 1 ≤ _) (by decide : 3 + 2 ≤ _)
      obtain ⟨ad319, g_ad319⟩ : ∃ z, z = T318.heap.size := ⟨_, rfl⟩
      rw [← g_ad319] at A319 D319 st319
      have g320 : Exa Z h319 ad308 "java/util/ArrayList" := g314.ext E319
      have g321 : Fld Z h319 ad308 "java/util/AbstractList" "modCount" "I" (.int (0 : Int32)) := g315.ext E319
      have g322 : Fld Z h319 ad308 "java/util/ArrayList" "elementData" "[Ljava/lang/Object;" (.ref de) := g316.ext E319
      have g323 : Fld Z h319 ad308 "java/util/ArrayList" "size" "I" (.int (0 : Int32)) := g317.ext E319
      have ne319_1 : ad308 ≠ ad319 := Nat.ne_of_lt (by rw [g_ad319]; exact g314.lt)
      have o319 : n0 ≤ ad319 := (Nat.le_trans Z313 (Nat.le_of_eq g_ad319.symm))
      have Z319 : n0 ≤ h319.size := (Nat.le_trans Z313 E319.1)
      have O319 : Old Z n0 h319 := O313.ext E319
      have g324 : Fld Z h319 ad319 "com/example/kempt_cursor/kemptcursor/Keyed" "key" "Ljava/lang/Object;" .null := D319 (Or.inr (hw _ (List.mem_of_getElem? (i := 47) rfl))) (ty := .object "java/lang/Object") (by decide)
      have g325 : Fld Z h319 ad319 "com/example/kempt_cursor/kemptcursor/Keyed" "value" "Ljava/lang/Object;" .null := D319 (Or.inr (hw _ (List.mem_of_getElem? (i := 49) rfl))) (ty := .object "java/lang/Object") (by decide)
      refine own_step (T' := T319) (g' := (mkF m 52 #[.val (.int p0), .val (.int p1), .val (.int p2), .val (.int p3), .val (.int ii), .val (.int ct), .val (.int (3 : Int32)), .val (.ref ad308), .unset, .unset] [(.ref ad319), (.ref ad308)])) st319 ?_
      refine own_step (T' := T319) (g' := (mkF m 53 #[.val (.int p0), .val (.int p1), .val (.int p2), .val (.int p3), .val (.int ii), .val (.int ct), .val (.int (3 : Int32)), .val (.ref ad308), .unset, .unset] [(.ref ad319), (.ref ad319), (.ref ad308)])) (fun t k => XS.dup X319.here hx rfl (hb hby at_52) rfl rfl k) ?_
      refine own_step (T' := T319) (g' := (mkF m 54 #[.val (.int p0), .val (.int p1), .val (.int p2), .val (.int p3), .val (.int ii), .val (.int ct), .val (.int (3 : Int32)), .val (.ref ad308), .unset, .unset] [(.int p3), (.ref ad319), (.ref ad319), (.ref ad308)])) (fun t k => XS.iloadN X319.here hx rfl (hb hby at_53) rfl k) ?_
      obtain ⟨_, _, ⟨T328, L328, k328, n328⟩, -, X328, ⟨Lc328, hQ328, lq328, yq328, zq328⟩, st328⟩ := Jvm.LawKit.callS X319 hx (y := (⟨"java/lang/Integer", "valueOf", "(I)Ljava/lang/Integer;"⟩ : MethodName)) hown (mvT hZ (hw _ (List.mem_of_getElem? (i := 30) rfl))) (mvT hZ (hw _ (List.mem_of_getElem? (i := 31) rfl))) (mvT hZ (hw _ (List.mem_of_getElem? (i := 32) rfl))) (mvT hZ (hw _ (List.mem_of_getElem? (i := 33) rfl))) (by decide) (backOf (W := 3) (rm_vo l Z a0 hw [] p3 ca cc h319 n0 Z319 O319 S_h S_c A_c H_c) hZ (hw _ (List.mem_of_getElem? (i := 33) rfl)) (hw _ (List.mem_of_getElem? (i := 32) rfl)) (by decide) (by decide)) (g := (mkF m 54 #[.val (.int p0), .val (.int p1), .val (.int p2), .val (.int p3), .val (.int ii), .val (.int ct), .val (.int (3 : Int32)), .val (.ref ad308), .unset, .unset] [(.int p3), (.ref ad319), (.ref ad319), (.ref ad308)])) rfl (by rw [hml]; rfl) (argsL := [(.int p3)]) (rest := [(.ref ad319), (.ref ad319), (.ref ad308)]) (lenOf pd_17 rfl) rfl (by show 2 * 0 + _ ≤ _; exact Nat.le_of_eq rfl) (hb hby at_54) (fun _ _ => ⟨rfl, e319, (by decide : 2 + 1 ≤ _), (by decide : 5 + 1 ≤ _)⟩)
      dsimp only [Pt.U, Pt.locs, Pt.cells, Pt.slots] at X328 lq328 yq328 zq328 st328 hQ328
      subst lq328 yq328 zq328
      obtain ⟨r326, rfl, Nq328, K327⟩ := hQ328
      have N328 := Fr.app N318 Nq328
      have g329 : Exa Z T328.heap ad308 "java/util/ArrayList" := g320.keep K327
      have g330 : Fld Z T328.heap ad308 "java/util/AbstractList" "modCount" "I" (.int (0 : Int32)) := g321.keep K327 nin0
      have g331 : Fld Z T328.heap ad308 "java/util/ArrayList" "elementData" "[Ljava/lang/Object;" (.ref de) := g322.keep K327 nin0
      have g332 : Fld Z T328.heap ad308 "java/util/ArrayList" "size" "I" (.int (0 : Int32)) := g323.keep K327 nin0
      have g333 : Exa Z T328.heap ad319 "com/example/kempt_cursor/kemptcursor/Keyed" := A319.keep K327
      have g334 : Fld Z T328.heap ad319 "com/example/kempt_cursor/kemptcursor/Keyed" "key" "Ljava/lang/Object;" .null := g324.keep K327 nin0
      have g335 : Fld Z T328.heap ad319 "com/example/kempt_cursor/kemptcursor/Keyed" "value" "Ljava/lang/Object;" .null := g325.keep K327 nin0
      have Z327 : n0 ≤ T328.heap.size := (Nat.le_trans Z319 K327.1)
      have O327 : Old Z n0 T328.heap := O319.keep K327 (all0 (P := fun x => n0 ≤ x))
      refine own_step (T' := T328) (g' := (mkF m 57 #[.val (.int p0), .val (.int p1), .val (.int p2), .val (.int p3), .val (.int ii), .val (.int ct), .val (.int (3 : Int32)), .val (.ref ad308), .unset, .unset] [(.ref r326), (.ref ad319), (.ref ad319), (.ref ad308)])) st328 ?_
      refine own_step (T' := T328) (g' := (mkF m 58 #[.val (.int p0), .val (.int p1), .val (.int p2), .val (.int p3), .val (.int ii), .val (.int ct), .val (.int (3 : Int32)), .val (.ref ad308), .unset, .unset] [(.int (0 : Int32)), (.ref r326), (.ref ad319), (.ref ad319), (.ref ad308)])) (fun t k => XS.iconst X328.here hx rfl (hb hby at_57) k) ?_
      obtain ⟨_, _, ⟨T338, L338, k338, n338⟩, -, X338, ⟨Lc338, hQ338, lq338, yq338, zq338⟩, st338⟩ := Jvm.LawKit.callS X328 hx (y := (⟨"java/lang/Integer", "valueOf", "(I)Ljava/lang/Integer;"⟩ : MethodName)) hown (mvT hZ (hw _ (List.mem_of_getElem? (i := 30) rfl))) (mvT hZ (hw _ (List.mem_of_getElem? (i := 31) rfl))) (mvT hZ (hw _ (List.mem_of_getElem? (i := 32) rfl))) (mvT hZ (hw _ (List.mem_of_getElem? (i := 33) rfl))) (by decide) (backOf (W := 4) (rm_vo l Z a0 hw [] (0 : Int32) ca cc T328.heap n0 Z327 O327 S_h S_c A_c H_c) hZ (hw _ (List.mem_of_getElem? (i := 33) rfl)) (hw _ (List.mem_of_getElem? (i := 32) rfl)) (by decide) (by decide)) (g := (mkF m 58 #[.val (.int p0), .val (.int p1), .val (.int p2), .val (.int p3), .val (.int ii), .val (.int ct), .val (.int (3 : Int32)), .val (.ref ad308), .unset, .unset] [(.int (0 : Int32)), (.ref r326), (.ref ad319), (.ref ad319), (.ref ad308)])) rfl (by rw [hml]; rfl) (argsL := [(.int (0 : Int32))]) (rest := [(.ref r326), (.ref ad319), (.ref ad319), (.ref ad308)]) (lenOf pd_17 rfl) rfl (by show 2 * 0 + _ ≤ _; exact Nat.le_of_eq rfl) (hb hby at_58) (fun _ _ => ⟨rfl, rfl, (by decide : 3 + 1 ≤ _), (by decide : 6 + 1 ≤ _)⟩)
      dsimp only [Pt.U, Pt.locs, Pt.cells, Pt.slots] at X338 lq338 yq338 zq338 st338 hQ338
      subst lq338 yq338 zq338
      obtain ⟨r336, rfl, Nq338, K337⟩ := hQ338
      have N338 := Fr.app N328 Nq338
      have g339 : Exa Z T338.heap ad308 "java/util/ArrayList" := g329.keep K337
      have g340 : Fld Z T338.heap ad308 "java/util/AbstractList" "modCount" "I" (.int (0 : Int32)) := g330.keep K337 nin0
      have g341 : Fld Z T338.heap ad308 "java/util/ArrayList" "elementData" "[Ljava/lang/Object;" (.ref de) := g331.keep K337 nin0
      have g342 : Fld Z T338.heap ad308 "java/util/ArrayList" "size" "I" (.int (0 : Int32)) := g332.keep K337 nin0
      have g343 : Exa Z T338.heap ad319 "com/example/kempt_cursor/kemptcursor/Keyed" := g333.keep K337
      have g344 : Fld Z T338.heap ad319 "com/example/kempt_cursor/kemptcursor/Keyed" "key" "Ljava/lang/Object;" .null := g334.keep K337 nin0
      have g345 : Fld Z T338.heap ad319 "com/example/kempt_cursor/kemptcursor/Keyed" "value" "Ljava/lang/Object;" .null := g335.keep K337 nin0
      have Z337 : n0 ≤ T338.heap.size := (Nat.le_trans Z327 K337.1)
      have O337 : Old Z n0 T338.heap := O327.keep K337 (all0 (P := fun x => n0 ≤ x))
      refine own_step (T' := T338) (g' := (mkF m 61 #[.val (.int p0), .val (.int p1), .val (.int p2), .val (.int p3), .val (.int ii), .val (.int ct), .val (.int (3 : Int32)), .val (.ref ad308), .unset, .unset] [(.ref r336), (.ref r326), (.ref ad319), (.ref ad319), (.ref ad308)])) st338 ?_
      obtain ⟨_, _, ⟨T350, L350, k350, n350⟩, -, X350, ⟨Lc350, hQ350, lq350, yq350, zq350⟩, st350⟩ := X338.specialBack hx (y := (⟨"com/example/kempt_cursor/kemptcursor/Keyed", "<init>", "(Ljava/lang/Object;Ljava/lang/Object;)V"⟩ : MethodName)) rfl hown (mvT hZ (hw _ (List.mem_of_getElem? (i := 37) rfl))) (mvT hZ (hw _ (List.mem_of_getElem? (i := 38) rfl))) (mvT hZ (hw _ (List.mem_of_getElem? (i := 39) rfl))) (by decide) (backOf (W := 2) (rm_kyi l Z a0 hw [] ad319 r326 r336 _ _ T338.heap n0 Z337 g343 g344 g345 o319) hZ (hw _ (List.mem_of_getElem? (i := 39) rfl)) (hw _ (List.mem_of_getElem? (i := 29) rfl)) (by decide) (by decide)) (g := (mkF m 61 #[.val (.int p0), .val (.int p1), .val (.int p2), .val (.int p3), .val (.int ii), .val (.int ct), .val (.int (3 : Int32)), .val (.ref ad308), .unset, .unset] [(.ref r336), (.ref r326), (.ref ad319), (.ref ad319), (.ref ad308)])) rfl (by rw [hml]; rfl) (Steps.refl _) (a := ad319) (argsL := [(.ref r326), (.ref r336)]) (rest := [(.ref ad319), (.ref ad308)]) (lenOf pd_11 rfl) rfl (by show 2 * 0 + _ ≤ _; exact Nat.le_of_eq rfl) (hb hby at_61) (fun _ _ => ⟨rfl, rfl, (by decide : 4 + 0 ≤ _), (by decide : 7 + 0 ≤ _)⟩)
      dsimp only [Pt.U, Pt.locs, Pt.cells, Pt.slots] at X350 lq350 yq350 zq350 st350 hQ350
      subst lq350 yq350 zq350
      obtain ⟨rfl, Nq350, K346, g347, g348, g349⟩ := hQ350
      have N350 := Fr.app N338 Nq350
      have g351 : Exa Z T350.heap ad308 "java/util/ArrayList" := g339.keep K346
      have g352 : Fld Z T350.heap ad308 "java/util/AbstractList" "modCount" "I" (.int (0 : Int32)) := g340.keep K346 (ninS ne319_1 nin0)
      have g353 : Fld Z T350.heap ad308 "java/util/ArrayList" "elementData" "[Ljava/lang/Object;" (.ref de) := g341.keep K346 (ninS ne319_1 nin0)
      have g354 : Fld Z T350.heap ad308 "java/util/ArrayList" "size" "I" (.int (0 : Int32)) := g342.keep K346 (ninS ne319_1 nin0)
      have Z346 : n0 ≤ T350.heap.size := (Nat.le_trans Z337 K346.1)
      have O346 : Old Z n0 T350.heap := O337.keep K346 (allS (P := fun x => n0 ≤ x) o319 all0)
      refine own_tr (T' := T350) (g' := (mkF m 64 #[.val (.int p0), .val (.int p1), .val (.int p2), .val (.int p3), .val (.int ii), .val (.int ct), .val (.int (3 : Int32)), .val (.ref ad308), .unset, .unset] [(.ref ad319), (.ref ad308)])) st350 ?_
      obtain ⟨cq365, kq365, q365a, q365b, q365c⟩ := isOf hZ rfl g351
      obtain ⟨_, _, ⟨T364, L364, k364, n364⟩, -, X364, ⟨Lc364, hQ364, lq364, yq364, zq364⟩, st364⟩ := X350.virtualBack hx (y := (⟨"java/util/ArrayList", "add", "(Ljava/lang/Object;)Z"⟩ : MethodName)) (z := (⟨"java/util/ArrayList", "add", "(Ljava/lang/Object;)Z"⟩ : MethodName)) hown (mvT hZ (hw _ (List.mem_of_getElem? (i := 50) rfl))) (mvT hZ (hw _ (List.mem_of_getElem? (i := 51) rfl))) (notFace_of_selects (args := #[]) (mvT hZ (hw _ (List.mem_of_getElem? (i := 53) rfl)))) (mvT hZ (hw _ (List.mem_of_getElem? (i := 53) rfl))) (mvT hZ (hw _ (List.mem_of_getElem? (i := 52) rfl))) (by decide) (backOf (W := 0) (rm_ad1_0 l Z a0 hw [] ad308 ad319 de kd T350.heap n0 Z346 g351 g353 g354 g347 g352 o308 ne319_1 O346 S_d V_d) hZ (hw _ (List.mem_of_getElem? (i := 54) rfl)) (hw _ (List.mem_of_getElem? (i := 3) rfl)) (by decide) (by decide)) q365a q365c (g := (mkF m 64 #[.val (.int p0), .val (.int p1), .val (.int p2), .val (.int p3), .val (.int ii), .val (.int ct), .val (.int (3 : Int32)), .val (.ref ad308), .unset, .unset] [(.ref ad319), (.ref ad308)])) rfl (by rw [hml]; rfl) (Steps.refl _) (argsL := [(.ref ad319)]) (rest := []) (lenOf pd_18 rfl) rfl (by show 2 * 0 + _ ≤ _; exact Nat.le_of_eq rfl) (hb hby at_64) (fun _ _ => ⟨rfl, rfl, (by decide : 4 + 1 ≤ _), (by decide : 7 + 10 ≤ _)⟩)
      dsimp only [Pt.U, Pt.locs, Pt.cells, Pt.slots] at X364 lq364 yq364 zq364 st364 hQ364
      subst lq364 yq364 zq364
      obtain ⟨b_355, kb_355, rfl, Nq364, K356, fz_b_355, nz_ad308_b_355, g357, g358, g359, g360, g361, g362, g363⟩ := hQ364
      have N364 := Fr.app N350 Nq364
      have oz_b_355 : n0 ≤ b_355 := Nat.le_trans Z346 fz_b_355
      have nz_ad308_b_355 : ad308 ≠ b_355 := Nat.ne_of_lt (Nat.lt_of_lt_of_le g351.lt fz_b_355)
      have nz_ad319_b_355 : ad319 ≠ b_355 := Nat.ne_of_lt (Nat.lt_of_lt_of_le g347.lt fz_b_355)
      have g366 : Exa Z T364.heap ad319 "com/example/kempt_cursor/kemptcursor/Keyed" := g347.keep K356
      have g367 : Fld Z T364.heap ad319 "com/example/kempt_cursor/kemptcursor/Keyed" "key" "Ljava/lang/Object;" (.ref r326) := g348.keep K356 (ninS (Ne.symm ne319_1) nin0)
      have g368 : Fld Z T364.heap ad319 "com/example/kempt_cursor/kemptcursor/Keyed" "value" "Ljava/lang/Object;" (.ref r336) := g349.keep K356 (ninS (Ne.symm ne319_1) nin0)
      have Z356 : n0 ≤ T364.heap.size := (Nat.le_trans Z346 K356.1)
      have O356 : Old Z n0 T364.heap := O346.keep K356 (allS (P := fun x => n0 ≤ x) o308 all0)
      refine own_tr (T' := T364) (g' := (mkF m 67 #[.val (.int p0), .val (.int p1), .val (.int p2), .val (.int p3), .val (.int ii), .val (.int ct), .val (.int (3 : Int32)), .val (.ref ad308), .unset, .unset] [(.int (1 : Int32))])) st364 ?_
      refine own_step (T' := T364) (g' := (mkF m 68 #[.val (.int p0), .val (.int p1), .val (.int p2), .val (.int p3), .val (.int ii), .val (.int ct), .val (.int (3 : Int32)), .val (.ref ad308), .unset, .unset] [])) (fun t k => XS.pop X364.here hx rfl (hb hby at_67) rfl rfl k) ?_
      refine own_step (T' := T364) (g' := (mkF m 70 #[.val (.int p0), .val (.int p1), .val (.int p2), .val (.int p3), .val (.int ii), .val (.int ct), .val (.int (3 : Int32)), .val (.ref ad308), .unset, .unset] [(.int (3 : Int32))])) (fun t k => XS.iload X364.here hx rfl (hb hby at_68) rfl k) ?_
      refine own_step (T' := T364) (g' := (mkF m 71 #[.val (.int p0), .val (.int p1), .val (.int p2), .val (.int p3), .val (.int ii), .val (.int ct), .val (.int (3 : Int32)), .val (.ref ad308), .unset, .unset] [(.int (1 : Int32)), (.int (3 : Int32))])) (fun t k => XS.iconst X364.here hx rfl (hb hby at_70) k) ?_
      refine own_step (T' := T364) (g' := (mkF m 74 #[.val (.int p0), .val (.int p1), .val (.int p2), .val (.int p3), .val (.int ii), .val (.int ct), .val (.int (3 : Int32)), .val (.ref ad308), .unset, .unset] [])) (fun t k => XS.icmpNo X364.here hx rfl (hb hby at_71) rfl (tlt (by decide : ((1 : Int32) < (3 : Int32)))).2.2.2 k) ?_
      refine own_step (T' := T364) (g' := (mkF m 76 #[.val (.int p0), .val (.int p1), .val (.int p2), .val (.int p3), .val (.int ii), .val (.int ct), .val (.int (3 : Int32)), .val (.ref ad308), .unset, .unset] [(.ref ad308)])) (fun t k => XS.aload X364.here hx rfl (hb hby at_74) rfl rfl k) ?_
      obtain ⟨T369, h369, X369, e369, E369, A369, D369, -, st369⟩ := newO X364 hx hZ hown (hw _ (List.mem_of_getElem? (i := 27) rfl)) (hw _ (List.mem_of_getElem? (i := 28) rfl)) (hw _ (List.mem_of_getElem? (i := 29) rfl)) rfl (g := (mkF m 76 #[.val (.int p0), .val (.int p1), .val (.int p2), .val (.int p3), .val (.int ii), .val (.int ct), .val (.int (3 : Int32)), .val (.ref ad308), .unset, .unset] [(.ref ad308)])) rfl (hb hby at_76) (by decide : 5 + 1 ≤ _) (by decide : 17 + 2 ≤ _)
      obtain ⟨ad369, g_ad369⟩ : ∃ z, z = T364.heap.size := ⟨_, rfl⟩
      rw [← g_ad369] at A369 D369 st369
      have g370 : Exa Z h369 ad319 "com/example/kempt_cursor/kemptcursor/Keyed" := g366.ext E369
      have g371 : Fld Z h369 ad319 "com/example/kempt_cursor/kemptcursor/Keyed" "key" "Ljava/lang/Object;" (.ref r326) := g367.ext E369
      have g372 : Fld Z h369 ad319 "com/example/kempt_cursor/kemptcursor/Keyed" "value" "Ljava/lang/Object;" (.ref r336) := g368.ext E369
      have g373 : Exa Z h369 ad308 "java/util/ArrayList" := g357.ext E369
      have g374 : Fld Z h369 ad308 "java/util/ArrayList" "elementData" "[Ljava/lang/Object;" (.ref b_355) := g358.ext E369
      have g375 : Fld Z h369 ad308 "java/util/ArrayList" "size" "I" (.int (1 : Int32)) := g359.ext E369
      have g376 : Arv Z h369 b_355 kb_355 (.object "java/lang/Object") (10 : Int32) [(.ref ad319), .null, .null, .null, .null, .null, .null, .null, .null, .null] .null := g360.ext E369
      have g377 : Exa Z h369 b_355 "[Ljava/lang/Object;" := g361.ext E369
      have g378 : Fld Z h369 ad308 "java/util/AbstractList" "modCount" "I" (.int (1 : Int32)) := g363.ext E369
      have ne369_1 : ad319 ≠ ad369 := Nat.ne_of_lt (by rw [g_ad369]; exact g366.lt)
      have ne369_2 : ad308 ≠ ad369 := Nat.ne_of_lt (by rw [g_ad369]; exact g357.lt)
      have ne369_3 : b_355 ≠ ad369 := Nat.ne_of_lt (by rw [g_ad369]; exact g360.lt)
      have o369 : n0 ≤ ad369 := (Nat.le_trans Z356 (Nat.le_of_eq g_ad369.symm))
      have Z369 : n0 ≤ h369.size := (Nat.le_trans Z356 E369.1)
      have O369 : Old Z n0 h369 := O356.ext E369
      have g379 : Fld Z h369 ad369 "com/example/kempt_cursor/kemptcursor/Keyed" "key" "Ljava/lang/Object;" .null := D369 (Or.inr (hw _ (List.mem_of_getElem? (i := 47) rfl))) (ty := .object "java/lang/Object") (by decide)
      have g380 : Fld Z h369 ad369 "com/example/kempt_cursor/kemptcursor/Keyed" "value" "Ljava/lang/Object;" .null := D369 (Or.inr (hw _ (List.mem_of_getElem? (i := 49) rfl))) (ty := .object "java/lang/Object") (by decide)
      refine own_step (T' := T369) (g' := (mkF m 79 #[.val (.int p0), .val (.int p1), .val (.int p2), .val (.int p3), .val (.int ii), .val (.int ct), .val (.int (3 : Int32)), .val (.ref ad308), .unset, .unset] [(.ref ad369), (.ref ad308)])) st369 ?_
      refine own_step (T' := T369) (g' := (mkF m 80 #[.val (.int p0), .val (.int p1), .val (.int p2), .val (.int p3), .val (.int ii), .val (.int ct), .val (.int (3 : Int32)), .val (.ref ad308), .unset, .unset] [(.ref ad369), (.ref ad369), (.ref ad308)])) (fun t k => XS.dup X369.here hx rfl (hb hby at_79) rfl rfl k) ?_
      refine own_step (T' := T369) (g' := (mkF m 81 #[.val (.int p0), .val (.int p1), .val (.int p2), .val (.int p3), .val (.int ii), .val (.int ct), .val (.int (3 : Int32)), .val (.ref ad308), .unset, .unset] [(.int p3), (.ref ad369), (.ref ad369), (.ref ad308)])) (fun t k => XS.iloadN X369.here hx rfl (hb hby at_80) rfl k) ?_
      refine own_step (T' := T369) (g' := (mkF m 82 #[.val (.int p0), .val (.int p1), .val (.int p2), .val (.int p3), .val (.int ii), .val (.int ct), .val (.int (3 : Int32)), .val (.ref ad308), .unset, .unset] [(.int (1 : Int32)), (.int p3), (.ref ad369), (.ref ad369), (.ref ad308)])) (fun t k => XS.iconst X369.here hx rfl (hb hby at_81) k) ?_
      refine own_step (T' := T369) (g' := (mkF m 83 #[.val (.int p0), .val (.int p1), .val (.int p2), .val (.int p3), .val (.int ii), .val (.int ct), .val (.int (3 : Int32)), .val (.ref ad308), .unset, .unset] [(.int (p3 + (1 : Int32))), (.ref ad369), (.ref ad369), (.ref ad308)])) (fun t k => XS.iadd X369.here hx rfl (hb hby at_82) rfl k) ?_
      obtain ⟨_, _, ⟨T383, L383, k383, n383⟩, -, X383, ⟨Lc383, hQ383, lq383, yq383, zq383⟩, st383⟩ := Jvm.LawKit.callS X369 hx (y := (⟨"java/lang/Integer", "valueOf", "(I)Ljava/lang/Integer;"⟩ : MethodName)) hown (mvT hZ (hw _ (List.mem_of_getElem? (i := 30) rfl))) (mvT hZ (hw _ (List.mem_of_getElem? (i := 31) rfl))) (mvT hZ (hw _ (List.mem_of_getElem? (i := 32) rfl))) (mvT hZ (hw _ (List.mem_of_getElem? (i := 33) rfl))) (by decide) (backOf (W := 3) (rm_vo l Z a0 hw [] (p3 + (1 : Int32)) ca cc h369 n0 Z369 O369 S_h S_c A_c H_c) hZ (hw _ (List.mem_of_getElem? (i := 33) rfl)) (hw _ (List.mem_of_getElem? (i := 32) rfl)) (by decide) (by decide)) (g := (mkF m 83 #[.val (.int p0), .val (.int p1), .val (.int p2), .val (.int p3), .val (.int ii), .val (.int ct), .val (.int (3 : Int32)), .val (.ref ad308), .unset, .unset] [(.int (p3 + (1 : Int32))), (.ref ad369), (.ref ad369), (.ref ad308)])) rfl (by rw [hml]; rfl) (argsL := [(.int (p3 + (1 : Int32)))]) (rest := [(.ref ad369), (.ref ad369), (.ref ad308)]) (lenOf pd_17 rfl) rfl (by show 2 * 0 + _ ≤ _; exact Nat.le_of_eq rfl) (hb hby at_83) (fun _ _ => ⟨rfl, e369, (by decide : 6 + 1 ≤ _), (by decide : 19 + 1 ≤ _)⟩)
      dsimp only [Pt.U, Pt.locs, Pt.cells, Pt.slots] at X383 lq383 yq383 zq383 st383 hQ383
      subst lq383 yq383 zq383
      obtain ⟨r381, rfl, Nq383, K382⟩ := hQ383
      have N383 := Fr.app N364 Nq383
      have g384 : Exa Z T383.heap ad319 "com/example/kempt_cursor/kemptcursor/Keyed" := g370.keep K382
      have g385 : Fld Z T383.heap ad319 "com/example/kempt_cursor/kemptcursor/Keyed" "key" "Ljava/lang/Object;" (.ref r326) := g371.keep K382 nin0
      have g386 : Fld Z T383.heap ad319 "com/example/kempt_cursor/kemptcursor/Keyed" "value" "Ljava/lang/Object;" (.ref r336) := g372.keep K382 nin0
      have g387 : Exa Z T383.heap ad308 "java/util/ArrayList" := g373.keep K382
      have g388 : Fld Z T383.heap ad308 "java/util/ArrayList" "elementData" "[Ljava/lang/Object;" (.ref b_355) := g374.keep K382 nin0
      have g389 : Fld Z T383.heap ad308 "java/util/ArrayList" "size" "I" (.int (1 : Int32)) := g375.keep K382 nin0
      have g390 : Arv Z T383.heap b_355 kb_355 (.object "java/lang/Object") (10 : Int32) [(.ref ad319), .null, .null, .null, .null, .null, .null, .null, .null, .null] .null := g376.keep K382 nin0
      have g391 : Exa Z T383.heap b_355 "[Ljava/lang/Object;" := g377.keep K382
      have g392 : Fld Z T383.heap ad308 "java/util/AbstractList" "modCount" "I" (.int (1 : Int32)) := g378.keep K382 nin0
      have g393 : Exa Z T383.heap ad369 "com/example/kempt_cursor/kemptcursor/Keyed" := A369.keep K382
      have g394 : Fld Z T383.heap ad369 "com/example/kempt_cursor/kemptcursor/Keyed" "key" "Ljava/lang/Object;" .null := g379.keep K382 nin0
      have g395 : Fld Z T383.heap ad369 "com/example/kempt_cursor/kemptcursor/Keyed" "value" "Ljava/lang/Object;" .null := g380.keep K382 nin0
      have Z382 : n0 ≤ T383.heap.size := (Nat.le_trans Z369 K382.1)
      have O382 : Old Z n0 T383.heap := O369.keep K382 (all0 (P := fun x => n0 ≤ x))
      refine own_step (T' := T383) (g' := (mkF m 86 #[.val (.int p0), .val (.int p1), .val (.int p2), .val (.int p3), .val (.int ii), .val (.int ct), .val (.int (3 : Int32)), .val (.ref ad308), .unset, .unset] [(.ref r381), (.ref ad369), (.ref ad369), (.ref ad308)])) st383 ?_
      refine own_step (T' := T383) (g' := (mkF m 87 #[.val (.int p0), .val (.int p1), .val (.int p2), .val (.int p3), .val (.int ii), .val (.int ct), .val (.int (3 : Int32)), .val (.ref ad308), .unset, .unset] [(.int (1 : Int32)), (.ref r381), (.ref ad369), (.ref ad369), (.ref ad308)])) (fun t k => XS.iconst X383.here hx rfl (hb hby at_86) k) ?_
      obtain ⟨_, _, ⟨T398, L398, k398, n398⟩, -, X398, ⟨Lc398, hQ398, lq398, yq398, zq398⟩, st398⟩ := Jvm.LawKit.callS X383 hx (y := (⟨"java/lang/Integer", "valueOf", "(I)Ljava/lang/Integer;"⟩ : MethodName)) hown (mvT hZ (hw _ (List.mem_of_getElem? (i := 30) rfl))) (mvT hZ (hw _ (List.mem_of_getElem? (i := 31) rfl))) (mvT hZ (hw _ (List.mem_of_getElem? (i := 32) rfl))) (mvT hZ (hw _ (List.mem_of_getElem? (i := 33) rfl))) (by decide) (backOf (W := 4) (rm_vo l Z a0 hw [] (1 : Int32) ca cc T383.heap n0 Z382 O382 S_h S_c A_c H_c) hZ (hw _ (List.mem_of_getElem? (i := 33) rfl)) (hw _ (List.mem_of_getElem? (i := 32) rfl)) (by decide) (by decide)) (g := (mkF m 87 #[.val (.int p0), .val (.int p1), .val (.int p2), .val (.int p3), .val (.int ii), .val (.int ct), .val (.int (3 : Int32)), .val (.ref ad308), .unset, .unset] [(.int (1 : Int32)), (.ref r381), (.ref ad369), (.ref ad369), (.ref ad308)])) rfl (by rw [hml]; rfl) (argsL := [(.int (1 : Int32))]) (rest := [(.ref r381), (.ref ad369), (.ref ad369), (.ref ad308)]) (lenOf pd_17 rfl) rfl (by show 2 * 0 + _ ≤ _; exact Nat.le_of_eq rfl) (hb hby at_87) (fun _ _ => ⟨rfl, rfl, (by decide : 7 + 1 ≤ _), (by decide : 20 + 1 ≤ _)⟩)
      dsimp only [Pt.U, Pt.locs, Pt.cells, Pt.slots] at X398 lq398 yq398 zq398 st398 hQ398
      subst lq398 yq398 zq398
      obtain ⟨r396, rfl, Nq398, K397⟩ := hQ398
      have N398 := Fr.app N383 Nq398
      have g399 : Exa Z T398.heap ad319 "com/example/kempt_cursor/kemptcursor/Keyed" := g384.keep K397
      have g400 : Fld Z T398.heap ad319 "com/example/kempt_cursor/kemptcursor/Keyed" "key" "Ljava/lang/Object;" (.ref r326) := g385.keep K397 nin0
      have g401 : Fld Z T398.heap ad319 "com/example/kempt_cursor/kemptcursor/Keyed" "value" "Ljava/lang/Object;" (.ref r336) := g386.keep K397 nin0
      have g402 : Exa Z T398.heap ad308 "java/util/ArrayList" := g387.keep K397
      have g403 : Fld Z T398.heap ad308 "java/util/ArrayList" "elementData" "[Ljava/lang/Object;" (.ref b_355) := g388.keep K397 nin0
      have g404 : Fld Z T398.heap ad308 "java/util/ArrayList" "size" "I" (.int (1 : Int32)) := g389.keep K397 nin0
      have g405 : Arv Z T398.heap b_355 kb_355 (.object "java/lang/Object") (10 : Int32) [(.ref ad319), .null, .null, .null, .null, .null, .null, .null, .null, .null] .null := g390.keep K397 nin0
      have g406 : Exa Z T398.heap b_355 "[Ljava/lang/Object;" := g391.keep K397
      have g407 : Fld Z T398.heap ad308 "java/util/AbstractList" "modCount" "I" (.int (1 : Int32)) := g392.keep K397 nin0
      have g408 : Exa Z T398.heap ad369 "com/example/kempt_cursor/kemptcursor/Keyed" := g393.keep K397
      have g409 : Fld Z T398.heap ad369 "com/example/kempt_cursor/kemptcursor/Keyed" "key" "Ljava/lang/Object;" .null := g394.keep K397 nin0
      have g410 : Fld Z T398.heap ad369 "com/example/kempt_cursor/kemptcursor/Keyed" "value" "Ljava/lang/Object;" .null := g395.keep K397 nin0
      have Z397 : n0 ≤ T398.heap.size := (Nat.le_trans Z382 K397.1)
      have O397 : Old Z n0 T398.heap := O382.keep K397 (all0 (P := fun x => n0 ≤ x))
      refine own_step (T' := T398) (g' := (mkF m 90 #[.val (.int p0), .val (.int p1), .val (.int p2), .val (.int p3), .val (.int ii), .val (.int ct), .val (.int (3 : Int32)), .val (.ref ad308), .unset, .unset] [(.ref r396), (.ref r381), (.ref ad369), (.ref ad369), (.ref ad308)])) st398 ?_
      obtain ⟨_, _, ⟨T415, L415, k415, n415⟩, -, X415, ⟨Lc415, hQ415, lq415, yq415, zq415⟩, st415⟩ := X398.specialBack hx (y := (⟨"com/example/kempt_cursor/kemptcursor/Keyed", "<init>", "(Ljava/lang/Object;Ljava/lang/Object;)V"⟩ : MethodName)) rfl hown (mvT hZ (hw _ (List.mem_of_getElem? (i := 37) rfl))) (mvT hZ (hw _ (List.mem_of_getElem? (i := 38) rfl))) (mvT hZ (hw _ (List.mem_of_getElem? (i := 39) rfl))) (by decide) (backOf (W := 2) (rm_kyi l Z a0 hw [] ad369 r381 r396 _ _ T398.heap n0 Z397 g408 g409 g410 o369) hZ (hw _ (List.mem_of_getElem? (i := 39) rfl)) (hw _ (List.mem_of_getElem? (i := 29) rfl)) (by decide) (by decide)) (g := (mkF m 90 #[.val (.int p0), .val (.int p1), .val (.int p2), .val (.int p3), .val (.int ii), .val (.int ct), .val (.int (3 : Int32)), .val (.ref ad308), .unset, .unset] [(.ref r396), (.ref r381), (.ref ad369), (.ref ad369), (.ref ad308)])) rfl (by rw [hml]; rfl) (Steps.refl _) (a := ad369) (argsL := [(.ref r381), (.ref r396)]) (rest := [(.ref ad369), (.ref ad308)]) (lenOf pd_11 rfl) rfl (by show 2 * 0 + _ ≤ _; exact Nat.le_of_eq rfl) (hb hby at_90) (fun _ _ => ⟨rfl, rfl, (by decide : 8 + 0 ≤ _), (by decide : 21 + 0 ≤ _)⟩)
      dsimp only [Pt.U, Pt.locs, Pt.cells, Pt.slots] at X415 lq415 yq415 zq415 st415 hQ415
      subst lq415 yq415 zq415
      obtain ⟨rfl, Nq415, K411, g412, g413, g414⟩ := hQ415
      have N415 := Fr.app N398 Nq415
      have g416 : Exa Z T415.heap ad319 "com/example/kempt_cursor/kemptcursor/Keyed" := g399.keep K411
      have g417 : Fld Z T415.heap ad319 "com/example/kempt_cursor/kemptcursor/Keyed" "key" "Ljava/lang/Object;" (.ref r326) := g400.keep K411 (ninS ne369_1 nin0)
      have g418 : Fld Z T415.heap ad319 "com/example/kempt_cursor/kemptcursor/Keyed" "value" "Ljava/lang/Object;" (.ref r336) := g401.keep K411 (ninS ne369_1 nin0)
      have g419 : Exa Z T415.heap ad308 "java/util/ArrayList" := g402.keep K411
      have g420 : Fld Z T415.heap ad308 "java/util/ArrayList" "elementData" "[Ljava/lang/Object;" (.ref b_355) := g403.keep K411 (ninS ne369_2 nin0)
      have g421 : Fld Z T415.heap ad308 "java/util/ArrayList" "size" "I" (.int (1 : Int32)) := g404.keep K411 (ninS ne369_2 nin0)
      have g422 : Arv Z T415.heap b_355 kb_355 (.object "java/lang/Object") (10 : Int32) [(.ref ad319), .null, .null, .null, .null, .null, .null, .null, .null, .null] .null := g405.keep K411 (ninS ne369_3 nin0)
      have g423 : Exa Z T415.heap b_355 "[Ljava/lang/Object;" := g406.keep K411
      have g424 : Fld Z T415.heap ad308 "java/util/AbstractList" "modCount" "I" (.int (1 : Int32)) := g407.keep K411 (ninS ne369_2 nin0)
      have Z411 : n0 ≤ T415.heap.size := (Nat.le_trans Z397 K411.1)
      have O411 : Old Z n0 T415.heap := O397.keep K411 (allS (P := fun x => n0 ≤ x) o369 all0)
      refine own_tr (T' := T415) (g' := (mkF m 93 #[.val (.int p0), .val (.int p1), .val (.int p2), .val (.int p3), .val (.int ii), .val (.int ct), .val (.int (3 : Int32)), .val (.ref ad308), .unset, .unset] [(.ref ad369), (.ref ad308)])) st415 ?_
      obtain ⟨cq435, kq435, q435a, q435b, q435c⟩ := isOf hZ rfl g419
      obtain ⟨_, _, ⟨T434, L434, k434, n434⟩, -, X434, ⟨Lc434, hQ434, lq434, yq434, zq434⟩, st434⟩ := X415.virtualBack hx (y := (⟨"java/util/ArrayList", "add", "(Ljava/lang/Object;)Z"⟩ : MethodName)) (z := (⟨"java/util/ArrayList", "add", "(Ljava/lang/Object;)Z"⟩ : MethodName)) hown (mvT hZ (hw _ (List.mem_of_getElem? (i := 50) rfl))) (mvT hZ (hw _ (List.mem_of_getElem? (i := 51) rfl))) (notFace_of_selects (args := #[]) (mvT hZ (hw _ (List.mem_of_getElem? (i := 53) rfl)))) (mvT hZ (hw _ (List.mem_of_getElem? (i := 53) rfl))) (mvT hZ (hw _ (List.mem_of_getElem? (i := 52) rfl))) (by decide) (backOf (W := 0) (rm_ad1_1 l Z a0 hw [] ad308 ad369 b_355 kb_355 ad319 T415.heap n0 Z411 g419 g420 g421 g412 g422 g423 g362 g424 o308 oz_b_355 ne369_2 nz_ad308_b_355 (Ne.symm ne369_3)) hZ (hw _ (List.mem_of_getElem? (i := 54) rfl)) (hw _ (List.mem_of_getElem? (i := 3) rfl)) (by decide) (by decide)) q435a q435c (g := (mkF m 93 #[.val (.int p0), .val (.int p1), .val (.int p2), .val (.int p3), .val (.int ii), .val (.int ct), .val (.int (3 : Int32)), .val (.ref ad308), .unset, .unset] [(.ref ad369), (.ref ad308)])) rfl (by rw [hml]; rfl) (Steps.refl _) (argsL := [(.ref ad369)]) (rest := []) (lenOf pd_18 rfl) rfl (by show 2 * 0 + _ ≤ _; exact Nat.le_of_eq rfl) (hb hby at_93) (fun _ _ => ⟨rfl, rfl, (by decide : 8 + 0 ≤ _), (by decide : 21 + 0 ≤ _)⟩)
      dsimp only [Pt.U, Pt.locs, Pt.cells, Pt.slots] at X434 lq434 yq434 zq434 st434 hQ434
      subst lq434 yq434 zq434
      obtain ⟨rfl, Nq434, K426, g427, g428, g429, g430, g431, g432, g433⟩ := hQ434
      have N434 := Fr.app N415 Nq434
      have g436 : Exa Z T434.heap ad319 "com/example/kempt_cursor/kemptcursor/Keyed" := g416.keep K426
      have g437 : Fld Z T434.heap ad319 "com/example/kempt_cursor/kemptcursor/Keyed" "key" "Ljava/lang/Object;" (.ref r326) := g417.keep K426 (ninS (Ne.symm ne319_1) (ninS nz_ad319_b_355 nin0))
      have g438 : Fld Z T434.heap ad319 "com/example/kempt_cursor/kemptcursor/Keyed" "value" "Ljava/lang/Object;" (.ref r336) := g418.keep K426 (ninS (Ne.symm ne319_1) (ninS nz_ad319_b_355 nin0))
      have g439 : Exa Z T434.heap ad369 "com/example/kempt_cursor/kemptcursor/Keyed" := g412.keep K426
      have g440 : Fld Z T434.heap ad369 "com/example/kempt_cursor/kemptcursor/Keyed" "key" "Ljava/lang/Object;" (.ref r381) := g413.keep K426 (ninS (Ne.symm ne369_2) (ninS (Ne.symm ne369_3) nin0))
      have g441 : Fld Z T434.heap ad369 "com/example/kempt_cursor/kemptcursor/Keyed" "value" "Ljava/lang/Object;" (.ref r396) := g414.keep K426 (ninS (Ne.symm ne369_2) (ninS (Ne.symm ne369_3) nin0))
      have Z426 : n0 ≤ T434.heap.size := (Nat.le_trans Z411 K426.1)
      have O426 : Old Z n0 T434.heap := O411.keep K426 (allS (P := fun x => n0 ≤ x) o308 (allS (P := fun x => n0 ≤ x) oz_b_355 all0))
      refine own_tr (T' := T434) (g' := (mkF m 96 #[.val (.int p0), .val (.int p1), .val (.int p2), .val (.int p3), .val (.int ii), .val (.int ct), .val (.int (3 : Int32)), .val (.ref ad308), .unset, .unset] [(.int (1 : Int32))])) st434 ?_
      refine own_step (T' := T434) (g' := (mkF m 97 #[.val (.int p0), .val (.int p1), .val (.int p2), .val (.int p3), .val (.int ii), .val (.int ct), .val (.int (3 : Int32)), .val (.ref ad308), .unset, .unset] [])) (fun t k => XS.pop X434.here hx rfl (hb hby at_96) rfl rfl k) ?_
      refine own_step (T' := T434) (g' := (mkF m 99 #[.val (.int p0), .val (.int p1), .val (.int p2), .val (.int p3), .val (.int ii), .val (.int ct), .val (.int (3 : Int32)), .val (.ref ad308), .unset, .unset] [(.int (3 : Int32))])) (fun t k => XS.iload X434.here hx rfl (hb hby at_97) rfl k) ?_
      refine own_step (T' := T434) (g' := (mkF m 100 #[.val (.int p0), .val (.int p1), .val (.int p2), .val (.int p3), .val (.int ii), .val (.int ct), .val (.int (3 : Int32)), .val (.ref ad308), .unset, .unset] [(.int (2 : Int32)), (.int (3 : Int32))])) (fun t k => XS.iconst X434.here hx rfl (hb hby at_99) k) ?_
      refine own_step (T' := T434) (g' := (mkF m 103 #[.val (.int p0), .val (.int p1), .val (.int p2), .val (.int p3), .val (.int ii), .val (.int ct), .val (.int (3 : Int32)), .val (.ref ad308), .unset, .unset] [])) (fun t k => XS.icmpNo X434.here hx rfl (hb hby at_100) rfl (tlt (by decide : ((2 : Int32) < (3 : Int32)))).2.2.2 k) ?_
      refine own_step (T' := T434) (g' := (mkF m 105 #[.val (.int p0), .val (.int p1), .val (.int p2), .val (.int p3), .val (.int ii), .val (.int ct), .val (.int (3 : Int32)), .val (.ref ad308), .unset, .unset] [(.ref ad308)])) (fun t k => XS.aload X434.here hx rfl (hb hby at_103) rfl rfl k) ?_
      obtain ⟨T442, h442, X442, e442, E442, A442, D442, -, st442⟩ := newO X434 hx hZ hown (hw _ (List.mem_of_getElem? (i := 27) rfl)) (hw _ (List.mem_of_getElem? (i := 28) rfl)) (hw _ (List.mem_of_getElem? (i := 29) rfl)) rfl (g := (mkF m 105 #[.val (.int p0), .val (.int p1), .val (.int p2), .val (.int p3), .val (.int ii), .val (.int ct), .val (.int (3 : Int32)), .val (.ref ad308), .unset, .unset] [(.ref ad308)])) rfl (hb hby at_105) (by decide : 8 + 1 ≤ _) (by decide : 21 + 2 ≤ _)
      obtain ⟨ad442, g_ad442⟩ : ∃ z, z = T434.heap.size := ⟨_, rfl⟩
      rw [← g_ad442] at A442 D442 st442
      have g443 : Exa Z h442 ad319 "com/example/kempt_cursor/kemptcursor/Keyed" := g436.ext E442
      have g444 : Fld Z h442 ad319 "com/example/kempt_cursor/kemptcursor/Keyed" "key" "Ljava/lang/Object;" (.ref r326) := g437.ext E442
      have g445 : Fld Z h442 ad319 "com/example/kempt_cursor/kemptcursor/Keyed" "value" "Ljava/lang/Object;" (.ref r336) := g438.ext E442
      have g446 : Exa Z h442 ad369 "com/example/kempt_cursor/kemptcursor/Keyed" := g439.ext E442
      have g447 : Fld Z h442 ad369 "com/example/kempt_cursor/kemptcursor/Keyed" "key" "Ljava/lang/Object;" (.ref r381) := g440.ext E442
      have g448 : Fld Z h442 ad369 "com/example/kempt_cursor/kemptcursor/Keyed" "value" "Ljava/lang/Object;" (.ref r396) := g441.ext E442
      have g449 : Exa Z h442 ad308 "java/util/ArrayList" := g427.ext E442
      have g450 : Fld Z h442 ad308 "java/util/ArrayList" "elementData" "[Ljava/lang/Object;" (.ref b_355) := g428.ext E442
      have g451 : Fld Z h442 ad308 "java/util/ArrayList" "size" "I" (.int (2 : Int32)) := g429.ext E442
      have g452 : Arv Z h442 b_355 kb_355 (.object "java/lang/Object") (10 : Int32) [(.ref ad319), (.ref ad369), .null, .null, .null, .null, .null, .null, .null, .null] .null := g430.ext E442
      have g453 : Exa Z h442 b_355 "[Ljava/lang/Object;" := g431.ext E442
      have g454 : Fld Z h442 ad308 "java/util/AbstractList" "modCount" "I" (.int (2 : Int32)) := g433.ext E442
      have ne442_1 : ad319 ≠ ad442 := Nat.ne_of_lt (by rw [g_ad442]; exact g436.lt)
      have ne442_2 : ad369 ≠ ad442 := Nat.ne_of_lt (by rw [g_ad442]; exact g439.lt)
      have ne442_3 : ad308 ≠ ad442 := Nat.ne_of_lt (by rw [g_ad442]; exact g427.lt)
      have ne442_4 : b_355 ≠ ad442 := Nat.ne_of_lt (by rw [g_ad442]; exact g430.lt)
      have o442 : n0 ≤ ad442 := (Nat.le_trans Z426 (Nat.le_of_eq g_ad442.symm))
      have Z442 : n0 ≤ h442.size := (Nat.le_trans Z426 E442.1)
      have O442 : Old Z n0 h442 := O426.ext E442
      have g455 : Fld Z h442 ad442 "com/example/kempt_cursor/kemptcursor/Keyed" "key" "Ljava/lang/Object;" .null := D442 (Or.inr (hw _ (List.mem_of_getElem? (i := 47) rfl))) (ty := .object "java/lang/Object") (by decide)
      have g456 : Fld Z h442 ad442 "com/example/kempt_cursor/kemptcursor/Keyed" "value" "Ljava/lang/Object;" .null := D442 (Or.inr (hw _ (List.mem_of_getElem? (i := 49) rfl))) (ty := .object "java/lang/Object") (by decide)
      refine own_step (T' := T442) (g' := (mkF m 108 #[.val (.int p0), .val (.int p1), .val (.int p2), .val (.int p3), .val (.int ii), .val (.int ct), .val (.int (3 : Int32)), .val (.ref ad308), .unset, .unset] [(.ref ad442), (.ref ad308)])) st442 ?_
      refine own_step (T' := T442) (g' := (mkF m 109 #[.val (.int p0), .val (.int p1), .val (.int p2), .val (.int p3), .val (.int ii), .val (.int ct), .val (.int (3 : Int32)), .val (.ref ad308), .unset, .unset] [(.ref ad442), (.ref ad442), (.ref ad308)])) (fun t k => XS.dup X442.here hx rfl (hb hby at_108) rfl rfl k) ?_
      refine own_step (T' := T442) (g' := (mkF m 110 #[.val (.int p0), .val (.int p1), .val (.int p2), .val (.int p3), .val (.int ii), .val (.int ct), .val (.int (3 : Int32)), .val (.ref ad308), .unset, .unset] [(.int p3), (.ref ad442), (.ref ad442), (.ref ad308)])) (fun t k => XS.iloadN X442.here hx rfl (hb hby at_109) rfl k) ?_
      refine own_step (T' := T442) (g' := (mkF m 111 #[.val (.int p0), .val (.int p1), .val (.int p2), .val (.int p3), .val (.int ii), .val (.int ct), .val (.int (3 : Int32)), .val (.ref ad308), .unset, .unset] [(.int (2 : Int32)), (.int p3), (.ref ad442), (.ref ad442), (.ref ad308)])) (fun t k => XS.iconst X442.here hx rfl (hb hby at_110) k) ?_
      refine own_step (T' := T442) (g' := (mkF m 112 #[.val (.int p0), .val (.int p1), .val (.int p2), .val (.int p3), .val (.int ii), .val (.int ct), .val (.int (3 : Int32)), .val (.ref ad308), .unset, .unset] [(.int (p3 + (2 : Int32))), (.ref ad442), (.ref ad442), (.ref ad308)])) (fun t k => XS.iadd X442.here hx rfl (hb hby at_111) rfl k) ?_
      obtain ⟨_, _, ⟨T459, L459, k459, n459⟩, -, X459, ⟨Lc459, hQ459, lq459, yq459, zq459⟩, st459⟩ := Jvm.LawKit.callS X442 hx (y := (⟨"java/lang/Integer", "valueOf", "(I)Ljava/lang/Integer;"⟩ : MethodName)) hown (mvT hZ (hw _ (List.mem_of_getElem? (i := 30) rfl))) (mvT hZ (hw _ (List.mem_of_getElem? (i := 31) rfl))) (mvT hZ (hw _ (List.mem_of_getElem? (i := 32) rfl))) (mvT hZ (hw _ (List.mem_of_getElem? (i := 33) rfl))) (by decide) (backOf (W := 3) (rm_vo l Z a0 hw [] (p3 + (2 : Int32)) ca cc h442 n0 Z442 O442 S_h S_c A_c H_c) hZ (hw _ (List.mem_of_getElem? (i := 33) rfl)) (hw _ (List.mem_of_getElem? (i := 32) rfl)) (by decide) (by decide)) (g := (mkF m 112 #[.val (.int p0), .val (.int p1), .val (.int p2), .val (.int p3), .val (.int ii), .val (.int ct), .val (.int (3 : Int32)), .val (.ref ad308), .unset, .unset] [(.int (p3 + (2 : Int32))), (.ref ad442), (.ref ad442), (.ref ad308)])) rfl (by rw [hml]; rfl) (argsL := [(.int (p3 + (2 : Int32)))]) (rest := [(.ref ad442), (.ref ad442), (.ref ad308)]) (lenOf pd_17 rfl) rfl (by show 2 * 0 + _ ≤ _; exact Nat.le_of_eq rfl) (hb hby at_112) (fun _ _ => ⟨rfl, e442, (by decide : 9 + 1 ≤ _), (by decide : 23 + 1 ≤ _)⟩)
      dsimp only [Pt.U, Pt.locs, Pt.cells, Pt.slots] at X459 lq459 yq459 zq459 st459 hQ459
      subst lq459 yq459 zq459
      obtain ⟨r457, rfl, Nq459, K458⟩ := hQ459
      have N459 := Fr.app N434 Nq459
      have g460 : Exa Z T459.heap ad319 "com/example/kempt_cursor/kemptcursor/Keyed" := g443.keep K458
      have g461 : Fld Z T459.heap ad319 "com/example/kempt_cursor/kemptcursor/Keyed" "key" "Ljava/lang/Object;" (.ref r326) := g444.keep K458 nin0
      have g462 : Fld Z T459.heap ad319 "com/example/kempt_cursor/kemptcursor/Keyed" "value" "Ljava/lang/Object;" (.ref r336) := g445.keep K458 nin0
      have g463 : Exa Z T459.heap ad369 "com/example/kempt_cursor/kemptcursor/Keyed" := g446.keep K458
      have g464 : Fld Z T459.heap ad369 "com/example/kempt_cursor/kemptcursor/Keyed" "key" "Ljava/lang/Object;" (.ref r381) := g447.keep K458 nin0
      have g465 : Fld Z T459.heap ad369 "com/example/kempt_cursor/kemptcursor/Keyed" "value" "Ljava/lang/Object;" (.ref r396) := g448.keep K458 nin0
      have g466 : Exa Z T459.heap ad308 "java/util/ArrayList" := g449.keep K458
      have g467 : Fld Z T459.heap ad308 "java/util/ArrayList" "elementData" "[Ljava/lang/Object;" (.ref b_355) := g450.keep K458 nin0
      have g468 : Fld Z T459.heap ad308 "java/util/ArrayList" "size" "I" (.int (2 : Int32)) := g451.keep K458 nin0
      have g469 : Arv Z T459.heap b_355 kb_355 (.object "java/lang/Object") (10 : Int32) [(.ref ad319), (.ref ad369), .null, .null, .null, .null, .null, .null, .null, .null] .null := g452.keep K458 nin0
      have g470 : Exa Z T459.heap b_355 "[Ljava/lang/Object;" := g453.keep K458
      have g471 : Fld Z T459.heap ad308 "java/util/AbstractList" "modCount" "I" (.int (2 : Int32)) := g454.keep K458 nin0
      have g472 : Exa Z T459.heap ad442 "com/example/kempt_cursor/kemptcursor/Keyed" := A442.keep K458
      have g473 : Fld Z T459.heap ad442 "com/example/kempt_cursor/kemptcursor/Keyed" "key" "Ljava/lang/Object;" .null := g455.keep K458 nin0
      have g474 : Fld Z T459.heap ad442 "com/example/kempt_cursor/kemptcursor/Keyed" "value" "Ljava/lang/Object;" .null := g456.keep K458 nin0
      have Z458 : n0 ≤ T459.heap.size := (Nat.le_trans Z442 K458.1)
      have O458 : Old Z n0 T459.heap := O442.keep K458 (all0 (P := fun x => n0 ≤ x))
      refine own_step (T' := T459) (g' := (mkF m 115 #[.val (.int p0), .val (.int p1), .val (.int p2), .val (.int p3), .val (.int ii), .val (.int ct), .val (.int (3 : Int32)), .val (.ref ad308), .unset, .unset] [(.ref r457), (.ref ad442), (.ref ad442), (.ref ad308)])) st459 ?_
      refine own_step (T' := T459) (g' := (mkF m 116 #[.val (.int p0), .val (.int p1), .val (.int p2), .val (.int p3), .val (.int ii), .val (.int ct), .val (.int (3 : Int32)), .val (.ref ad308), .unset, .unset] [(.int (2 : Int32)), (.ref r457), (.ref ad442), (.ref ad442), (.ref ad308)])) (fun t k => XS.iconst X459.here hx rfl (hb hby at_115) k) ?_
      obtain ⟨_, _, ⟨T477, L477, k477, n477⟩, -, X477, ⟨Lc477, hQ477, lq477, yq477, zq477⟩, st477⟩ := Jvm.LawKit.callS X459 hx (y := (⟨"java/lang/Integer", "valueOf", "(I)Ljava/lang/Integer;"⟩ : MethodName)) hown (mvT hZ (hw _ (List.mem_of_getElem? (i := 30) rfl))) (mvT hZ (hw _ (List.mem_of_getElem? (i := 31) rfl))) (mvT hZ (hw _ (List.mem_of_getElem? (i := 32) rfl))) (mvT hZ (hw _ (List.mem_of_getElem? (i := 33) rfl))) (by decide) (backOf (W := 4) (rm_vo l Z a0 hw [] (2 : Int32) ca cc T459.heap n0 Z458 O458 S_h S_c A_c H_c) hZ (hw _ (List.mem_of_getElem? (i := 33) rfl)) (hw _ (List.mem_of_getElem? (i := 32) rfl)) (by decide) (by decide)) (g := (mkF m 116 #[.val (.int p0), .val (.int p1), .val (.int p2), .val (.int p3), .val (.int ii), .val (.int ct), .val (.int (3 : Int32)), .val (.ref ad308), .unset, .unset] [(.int (2 : Int32)), (.ref r457), (.ref ad442), (.ref ad442), (.ref ad308)])) rfl (by rw [hml]; rfl) (argsL := [(.int (2 : Int32))]) (rest := [(.ref r457), (.ref ad442), (.ref ad442), (.ref ad308)]) (lenOf pd_17 rfl) rfl (by show 2 * 0 + _ ≤ _; exact Nat.le_of_eq rfl) (hb hby at_116) (fun _ _ => ⟨rfl, rfl, (by decide : 10 + 1 ≤ _), (by decide : 24 + 1 ≤ _)⟩)
      dsimp only [Pt.U, Pt.locs, Pt.cells, Pt.slots] at X477 lq477 yq477 zq477 st477 hQ477
      subst lq477 yq477 zq477
      obtain ⟨r475, rfl, Nq477, K476⟩ := hQ477
      have N477 := Fr.app N459 Nq477
      have g478 : Exa Z T477.heap ad319 "com/example/kempt_cursor/kemptcursor/Keyed" := g460.keep K476
      have g479 : Fld Z T477.heap ad319 "com/example/kempt_cursor/kemptcursor/Keyed" "key" "Ljava/lang/Object;" (.ref r326) := g461.keep K476 nin0
      have g480 : Fld Z T477.heap ad319 "com/example/kempt_cursor/kemptcursor/Keyed" "value" "Ljava/lang/Object;" (.ref r336) := g462.keep K476 nin0
      have g481 : Exa Z T477.heap ad369 "com/example/kempt_cursor/kemptcursor/Keyed" := g463.keep K476
      have g482 : Fld Z T477.heap ad369 "com/example/kempt_cursor/kemptcursor/Keyed" "key" "Ljava/lang/Object;" (.ref r381) := g464.keep K476 nin0
      have g483 : Fld Z T477.heap ad369 "com/example/kempt_cursor/kemptcursor/Keyed" "value" "Ljava/lang/Object;" (.ref r396) := g465.keep K476 nin0
      have g484 : Exa Z T477.heap ad308 "java/util/ArrayList" := g466.keep K476
      have g485 : Fld Z T477.heap ad308 "java/util/ArrayList" "elementData" "[Ljava/lang/Object;" (.ref b_355) := g467.keep K476 nin0
      have g486 : Fld Z T477.heap ad308 "java/util/ArrayList" "size" "I" (.int (2 : Int32)) := g468.keep K476 nin0
      have g487 : Arv Z T477.heap b_355 kb_355 (.object "java/lang/Object") (10 : Int32) [(.ref ad319), (.ref ad369), .null, .null, .null, .null, .null, .null, .null, .null] .null := g469.keep K476 nin0
      have g488 : Exa Z T477.heap b_355 "[Ljava/lang/Object;" := g470.keep K476
      have g489 : Fld Z T477.heap ad308 "java/util/AbstractList" "modCount" "I" (.int (2 : Int32)) := g471.keep K476 nin0
      have g490 : Exa Z T477.heap ad442 "com/example/kempt_cursor/kemptcursor/Keyed" := g472.keep K476
      have g491 : Fld Z T477.heap ad442 "com/example/kempt_cursor/kemptcursor/Keyed" "key" "Ljava/lang/Object;" .null := g473.keep K476 nin0
      have g492 : Fld Z T477.heap ad442 "com/example/kempt_cursor/kemptcursor/Keyed" "value" "Ljava/lang/Object;" .null := g474.keep K476 nin0
      have Z476 : n0 ≤ T477.heap.size := (Nat.le_trans Z458 K476.1)
      have O476 : Old Z n0 T477.heap := O458.keep K476 (all0 (P := fun x => n0 ≤ x))
      refine own_step (T' := T477) (g' := (mkF m 119 #[.val (.int p0), .val (.int p1), .val (.int p2), .val (.int p3), .val (.int ii), .val (.int ct), .val (.int (3 : Int32)), .val (.ref ad308), .unset, .unset] [(.ref r475), (.ref r457), (.ref ad442), (.ref ad442), (.ref ad308)])) st477 ?_
      obtain ⟨_, _, ⟨T497, L497, k497, n497⟩, -, X497, ⟨Lc497, hQ497, lq497, yq497, zq497⟩, st497⟩ := X477.specialBack hx (y := (⟨"com/example/kempt_cursor/kemptcursor/Keyed", "<init>", "(Ljava/lang/Object;Ljava/lang/Object;)V"⟩ : MethodName)) rfl hown (mvT hZ (hw _ (List.mem_of_getElem? (i := 37) rfl))) (mvT hZ (hw _ (List.mem_of_getElem? (i := 38) rfl))) (mvT hZ (hw _ (List.mem_of_getElem? (i := 39) rfl))) (by decide) (backOf (W := 2) (rm_kyi l Z a0 hw [] ad442 r457 r475 _ _ T477.heap n0 Z476 g490 g491 g492 o442) hZ (hw _ (List.mem_of_getElem? (i := 39) rfl)) (hw _ (List.mem_of_getElem? (i := 29) rfl)) (by decide) (by decide)) (g := (mkF m 119 #[.val (.int p0), .val (.int p1), .val (.int p2), .val (.int p3), .val (.int ii), .val (.int ct), .val (.int (3 : Int32)), .val (.ref ad308), .unset, .unset] [(.ref r475), (.ref r457), (.ref ad442), (.ref ad442), (.ref ad308)])) rfl (by rw [hml]; rfl) (Steps.refl _) (a := ad442) (argsL := [(.ref r457), (.ref r475)]) (rest := [(.ref ad442), (.ref ad308)]) (lenOf pd_11 rfl) rfl (by show 2 * 0 + _ ≤ _; exact Nat.le_of_eq rfl) (hb hby at_119) (fun _ _ => ⟨rfl, rfl, (by decide : 11 + 0 ≤ _), (by decide : 25 + 0 ≤ _)⟩)
      dsimp only [Pt.U, Pt.locs, Pt.cells, Pt.slots] at X497 lq497 yq497 zq497 st497 hQ497
      subst lq497 yq497 zq497
      obtain ⟨rfl, Nq497, K493, g494, g495, g496⟩ := hQ497
      have N497 := Fr.app N477 Nq497
      have g498 : Exa Z T497.heap ad319 "com/example/kempt_cursor/kemptcursor/Keyed" := g478.keep K493
      have g499 : Fld Z T497.heap ad319 "com/example/kempt_cursor/kemptcursor/Keyed" "key" "Ljava/lang/Object;" (.ref r326) := g479.keep K493 (ninS ne442_1 nin0)
      have g500 : Fld Z T497.heap ad319 "com/example/kempt_cursor/kemptcursor/Keyed" "value" "Ljava/lang/Object;" (.ref r336) := g480.keep K493 (ninS ne442_1 nin0)
      have g501 : Exa Z T497.heap ad369 "com/example/kempt_cursor/kemptcursor/Keyed" := g481.keep K493
      have g502 : Fld Z T497.heap ad369 "com/example/kempt_cursor/kemptcursor/Keyed" "key" "Ljava/lang/Object;" (.ref r381) := g482.keep K493 (ninS ne442_2 nin0)
      have g503 : Fld Z T497.heap ad369 "com/example/kempt_cursor/kemptcursor/Keyed" "value" "Ljava/lang/Object;" (.ref r396) := g483.keep K493 (ninS ne442_2 nin0)
      have g504 : Exa Z T497.heap ad308 "java/util/ArrayList" := g484.keep K493
      have g505 : Fld Z T497.heap ad308 "java/util/ArrayList" "elementData" "[Ljava/lang/Object;" (.ref b_355) := g485.keep K493 (ninS ne442_3 nin0)
      have g506 : Fld Z T497.heap ad308 "java/util/ArrayList" "size" "I" (.int (2 : Int32)) := g486.keep K493 (ninS ne442_3 nin0)
      have g507 : Arv Z T497.heap b_355 kb_355 (.object "java/lang/Object") (10 : Int32) [(.ref ad319), (.ref ad369), .null, .null, .null, .null, .null, .null, .null, .null] .null := g487.keep K493 (ninS ne442_4 nin0)
      have g508 : Exa Z T497.heap b_355 "[Ljava/lang/Object;" := g488.keep K493
      have g509 : Fld Z T497.heap ad308 "java/util/AbstractList" "modCount" "I" (.int (2 : Int32)) := g489.keep K493 (ninS ne442_3 nin0)
      have Z493 : n0 ≤ T497.heap.size := (Nat.le_trans Z476 K493.1)
      have O493 : Old Z n0 T497.heap := O476.keep K493 (allS (P := fun x => n0 ≤ x) o442 all0)
      refine own_tr (T' := T497) (g' := (mkF m 122 #[.val (.int p0), .val (.int p1), .val (.int p2), .val (.int p3), .val (.int ii), .val (.int ct), .val (.int (3 : Int32)), .val (.ref ad308), .unset, .unset] [(.ref ad442), (.ref ad308)])) st497 ?_
      obtain ⟨cq520, kq520, q520a, q520b, q520c⟩ := isOf hZ rfl g504
      obtain ⟨_, _, ⟨T519, L519, k519, n519⟩, -, X519, ⟨Lc519, hQ519, lq519, yq519, zq519⟩, st519⟩ := X497.virtualBack hx (y := (⟨"java/util/ArrayList", "add", "(Ljava/lang/Object;)Z"⟩ : MethodName)) (z := (⟨"java/util/ArrayList", "add", "(Ljava/lang/Object;)Z"⟩ : MethodName)) hown (mvT hZ (hw _ (List.mem_of_getElem? (i := 50) rfl))) (mvT hZ (hw _ (List.mem_of_getElem? (i := 51) rfl))) (notFace_of_selects (args := #[]) (mvT hZ (hw _ (List.mem_of_getElem? (i := 53) rfl)))) (mvT hZ (hw _ (List.mem_of_getElem? (i := 53) rfl))) (mvT hZ (hw _ (List.mem_of_getElem? (i := 52) rfl))) (by decide) (backOf (W := 0) (rm_ad1_2 l Z a0 hw [] ad308 ad442 b_355 kb_355 ad319 ad369 T497.heap n0 Z493 g504 g505 g506 g494 g507 g508 g362 g509 o308 oz_b_355 ne442_3 nz_ad308_b_355 (Ne.symm ne442_4)) hZ (hw _ (List.mem_of_getElem? (i := 54) rfl)) (hw _ (List.mem_of_getElem? (i := 3) rfl)) (by decide) (by decide)) q520a q520c (g := (mkF m 122 #[.val (.int p0), .val (.int p1), .val (.int p2), .val (.int p3), .val (.int ii), .val (.int ct), .val (.int (3 : Int32)), .val (.ref ad308), .unset, .unset] [(.ref ad442), (.ref ad308)])) rfl (by rw [hml]; rfl) (Steps.refl _) (argsL := [(.ref ad442)]) (rest := []) (lenOf pd_18 rfl) rfl (by show 2 * 0 + _ ≤ _; exact Nat.le_of_eq rfl) (hb hby at_122) (fun _ _ => ⟨rfl, rfl, (by decide : 11 + 0 ≤ _), (by decide : 25 + 0 ≤ _)⟩)
      dsimp only [Pt.U, Pt.locs, Pt.cells, Pt.slots] at X519 lq519 yq519 zq519 st519 hQ519
      subst lq519 yq519 zq519
      obtain ⟨rfl, Nq519, K511, g512, g513, g514, g515, g516, g517, g518⟩ := hQ519
      have N519 := Fr.app N497 Nq519
      have g521 : Exa Z T519.heap ad319 "com/example/kempt_cursor/kemptcursor/Keyed" := g498.keep K511
      have g522 : Fld Z T519.heap ad319 "com/example/kempt_cursor/kemptcursor/Keyed" "key" "Ljava/lang/Object;" (.ref r326) := g499.keep K511 (ninS (Ne.symm ne319_1) (ninS nz_ad319_b_355 nin0))
      have g523 : Fld Z T519.heap ad319 "com/example/kempt_cursor/kemptcursor/Keyed" "value" "Ljava/lang/Object;" (.ref r336) := g500.keep K511 (ninS (Ne.symm ne319_1) (ninS nz_ad319_b_355 nin0))
      have g524 : Exa Z T519.heap ad369 "com/example/kempt_cursor/kemptcursor/Keyed" := g501.keep K511
      have g525 : Fld Z T519.heap ad369 "com/example/kempt_cursor/kemptcursor/Keyed" "key" "Ljava/lang/Object;" (.ref r381) := g502.keep K511 (ninS (Ne.symm ne369_2) (ninS (Ne.symm ne369_3) nin0))
      have g526 : Fld Z T519.heap ad369 "com/example/kempt_cursor/kemptcursor/Keyed" "value" "Ljava/lang/Object;" (.ref r396) := g503.keep K511 (ninS (Ne.symm ne369_2) (ninS (Ne.symm ne369_3) nin0))
      have g527 : Exa Z T519.heap ad442 "com/example/kempt_cursor/kemptcursor/Keyed" := g494.keep K511
      have g528 : Fld Z T519.heap ad442 "com/example/kempt_cursor/kemptcursor/Keyed" "key" "Ljava/lang/Object;" (.ref r457) := g495.keep K511 (ninS (Ne.symm ne442_3) (ninS (Ne.symm ne442_4) nin0))
      have g529 : Fld Z T519.heap ad442 "com/example/kempt_cursor/kemptcursor/Keyed" "value" "Ljava/lang/Object;" (.ref r475) := g496.keep K511 (ninS (Ne.symm ne442_3) (ninS (Ne.symm ne442_4) nin0))
      have Z511 : n0 ≤ T519.heap.size := (Nat.le_trans Z493 K511.1)
      have O511 : Old Z n0 T519.heap := O493.keep K511 (allS (P := fun x => n0 ≤ x) o308 (allS (P := fun x => n0 ≤ x) oz_b_355 all0))
      refine own_tr (T' := T519) (g' := (mkF m 125 #[.val (.int p0), .val (.int p1), .val (.int p2), .val (.int p3), .val (.int ii), .val (.int ct), .val (.int (3 : Int32)), .val (.ref ad308), .unset, .unset] [(.int (1 : Int32))])) st519 ?_
      refine own_step (T' := T519) (g' := (mkF m 126 #[.val (.int p0), .val (.int p1), .val (.int p2), .val (.int p3), .val (.int ii), .val (.int ct), .val (.int (3 : Int32)), .val (.ref ad308), .unset, .unset] [])) (fun t k => XS.pop X519.here hx rfl (hb hby at_125) rfl rfl k) ?_
      obtain ⟨T530, h530, X530, e530, E530, A530, D530, -, st530⟩ := newO X519 hx hZ hown (hw _ (List.mem_of_getElem? (i := 81) rfl)) (hw _ (List.mem_of_getElem? (i := 82) rfl)) (hw _ (List.mem_of_getElem? (i := 83) rfl)) rfl (g := (mkF m 126 #[.val (.int p0), .val (.int p1), .val (.int p2), .val (.int p3), .val (.int ii), .val (.int ct), .val (.int (3 : Int32)), .val (.ref ad308), .unset, .unset] [])) rfl (hb hby at_126) (by decide : 11 + 1 ≤ _) (by decide : 25 + 3 ≤ _)
      obtain ⟨ad530, g_ad530⟩ : ∃ z, z = T519.heap.size := ⟨_, rfl⟩
      rw [← g_ad530] at A530 D530 st530
      have g531 : Exa Z h530 ad319 "com/example/kempt_cursor/kemptcursor/Keyed" := g521.ext E530
      have g532 : Fld Z h530 ad319 "com/example/kempt_cursor/kemptcursor/Keyed" "key" "Ljava/lang/Object;" (.ref r326) := g522.ext E530
      have g533 : Fld Z h530 ad319 "com/example/kempt_cursor/kemptcursor/Keyed" "value" "Ljava/lang/Object;" (.ref r336) := g523.ext E530
      have g534 : Exa Z h530 ad369 "com/example/kempt_cursor/kemptcursor/Keyed" := g524.ext E530
      have g535 : Fld Z h530 ad369 "com/example/kempt_cursor/kemptcursor/Keyed" "key" "Ljava/lang/Object;" (.ref r381) := g525.ext E530
      have g536 : Fld Z h530 ad369 "com/example/kempt_cursor/kemptcursor/Keyed" "value" "Ljava/lang/Object;" (.ref r396) := g526.ext E530
      have g537 : Exa Z h530 ad442 "com/example/kempt_cursor/kemptcursor/Keyed" := g527.ext E530
      have g538 : Fld Z h530 ad442 "com/example/kempt_cursor/kemptcursor/Keyed" "key" "Ljava/lang/Object;" (.ref r457) := g528.ext E530
      have g539 : Fld Z h530 ad442 "com/example/kempt_cursor/kemptcursor/Keyed" "value" "Ljava/lang/Object;" (.ref r475) := g529.ext E530
      have g540 : Exa Z h530 ad308 "java/util/ArrayList" := g512.ext E530
      have g541 : Fld Z h530 ad308 "java/util/ArrayList" "elementData" "[Ljava/lang/Object;" (.ref b_355) := g513.ext E530
      have g542 : Fld Z h530 ad308 "java/util/ArrayList" "size" "I" (.int (3 : Int32)) := g514.ext E530
      have g543 : Arv Z h530 b_355 kb_355 (.object "java/lang/Object") (10 : Int32) [(.ref ad319), (.ref ad369), (.ref ad442), .null, .null, .null, .null, .null, .null, .null] .null := g515.ext E530
      have g544 : Exa Z h530 b_355 "[Ljava/lang/Object;" := g516.ext E530
      have g545 : Fld Z h530 ad308 "java/util/AbstractList" "modCount" "I" (.int (3 : Int32)) := g518.ext E530
      have ne530_1 : ad319 ≠ ad530 := Nat.ne_of_lt (by rw [g_ad530]; exact g521.lt)
      have ne530_2 : ad369 ≠ ad530 := Nat.ne_of_lt (by rw [g_ad530]; exact g524.lt)
      have ne530_3 : ad442 ≠ ad530 := Nat.ne_of_lt (by rw [g_ad530]; exact g527.lt)
      have ne530_4 : ad308 ≠ ad530 := Nat.ne_of_lt (by rw [g_ad530]; exact g512.lt)
      have ne530_5 : b_355 ≠ ad530 := Nat.ne_of_lt (by rw [g_ad530]; exact g515.lt)
      have o530 : n0 ≤ ad530 := (Nat.le_trans Z511 (Nat.le_of_eq g_ad530.symm))
      have Z530 : n0 ≤ h530.size := (Nat.le_trans Z511 E530.1)
      have O530 : Old Z n0 h530 := O511.ext E530
      have g546 : Fld Z h530 ad530 "com/example/kempt_cursor/kemptcursor/Page" "items" "Ljava/util/List;" .null := D530 (Or.inr (hw _ (List.mem_of_getElem? (i := 174) rfl))) (ty := .object "java/util/List") (by decide)
      have g547 : Fld Z h530 ad530 "com/example/kempt_cursor/kemptcursor/Page" "index" "I" (.int (0 : Int32)) := D530 (Or.inr (hw _ (List.mem_of_getElem? (i := 176) rfl))) (ty := .int) (by decide)
      have g548 : Fld Z h530 ad530 "com/example/kempt_cursor/kemptcursor/Page" "count" "I" (.int (0 : Int32)) := D530 (Or.inr (hw _ (List.mem_of_getElem? (i := 178) rfl))) (ty := .int) (by decide)
      refine own_step (T' := T530) (g' := (mkF m 129 #[.val (.int p0), .val (.int p1), .val (.int p2), .val (.int p3), .val (.int ii), .val (.int ct), .val (.int (3 : Int32)), .val (.ref ad308), .unset, .unset] [(.ref ad530)])) st530 ?_
      refine own_step (T' := T530) (g' := (mkF m 130 #[.val (.int p0), .val (.int p1), .val (.int p2), .val (.int p3), .val (.int ii), .val (.int ct), .val (.int (3 : Int32)), .val (.ref ad308), .unset, .unset] [(.ref ad530), (.ref ad530)])) (fun t k => XS.dup X530.here hx rfl (hb hby at_129) rfl rfl k) ?_
      refine own_step (T' := T530) (g' := (mkF m 132 #[.val (.int p0), .val (.int p1), .val (.int p2), .val (.int p3), .val (.int ii), .val (.int ct), .val (.int (3 : Int32)), .val (.ref ad308), .unset, .unset] [(.ref ad308), (.ref ad530), (.ref ad530)])) (fun t k => XS.aload X530.here hx rfl (hb hby at_130) rfl rfl k) ?_
      refine own_step (T' := T530) (g' := (mkF m 134 #[.val (.int p0), .val (.int p1), .val (.int p2), .val (.int p3), .val (.int ii), .val (.int ct), .val (.int (3 : Int32)), .val (.ref ad308), .unset, .unset] [(.int ii), (.ref ad308), (.ref ad530), (.ref ad530)])) (fun t k => XS.iload X530.here hx rfl (hb hby at_132) rfl k) ?_
      refine own_step (T' := T530) (g' := (mkF m 136 #[.val (.int p0), .val (.int p1), .val (.int p2), .val (.int p3), .val (.int ii), .val (.int ct), .val (.int (3 : Int32)), .val (.ref ad308), .unset, .unset] [(.int ct), (.int ii), (.ref ad308), (.ref ad530), (.ref ad530)])) (fun t k => XS.iload X530.here hx rfl (hb hby at_134) rfl k) ?_
      obtain ⟨_, _, ⟨T553, L553, k553, n553⟩, -, X553, ⟨Lc553, hQ553, lq553, yq553, zq553⟩, st553⟩ := X530.specialBack hx (y := (⟨"com/example/kempt_cursor/kemptcursor/Page", "<init>", "(Ljava/util/List;II)V"⟩ : MethodName)) rfl hown (mvT hZ (hw _ (List.mem_of_getElem? (i := 84) rfl))) (mvT hZ (hw _ (List.mem_of_getElem? (i := 85) rfl))) (mvT hZ (hw _ (List.mem_of_getElem? (i := 86) rfl))) (by decide) (backOf (W := 1) (rm_pgi_3 l Z a0 hw [] ad530 ad308 b_355 kb_355 ad319 ad369 ad442 el em mr ii ct .null (.int (0 : Int32)) (.int (0 : Int32)) h530 n0 Z530 A530 g546 g547 g548 g540 g542 g541 g543 g544 g531 g534 g537 o530 ne530_4 ne530_5 ne530_1 ne530_2 ne530_3 O530 S_el S_em M_o) hZ (hw _ (List.mem_of_getElem? (i := 86) rfl)) (hw _ (List.mem_of_getElem? (i := 83) rfl)) (by decide) (by decide)) (g := (mkF m 136 #[.val (.int p0), .val (.int p1), .val (.int p2), .val (.int p3), .val (.int ii), .val (.int ct), .val (.int (3 : Int32)), .val (.ref ad308), .unset, .unset] [(.int ct), (.int ii), (.ref ad308), (.ref ad530), (.ref ad530)])) rfl (by rw [hml]; rfl) (Steps.refl _) (a := ad530) (argsL := [(.ref ad308), (.int ii), (.int ct)]) (rest := [(.ref ad530)]) (lenOf pd_16 rfl) rfl (by show 2 * 0 + _ ≤ _; exact Nat.le_of_eq rfl) (hb hby at_136) (fun _ _ => ⟨rfl, e530, (by decide : 12 + 3 ≤ _), (by decide : 28 + 8 ≤ _)⟩)
      dsimp only [Pt.U, Pt.locs, Pt.cells, Pt.slots] at X553 lq553 yq553 zq553 st553 hQ553
      subst lq553 yq553 zq553
      obtain ⟨rfl, Nq553, K550, g551, g552⟩ := hQ553
      have N553 := Fr.app N519 Nq553
      have g554 : Exa Z T553.heap ad319 "com/example/kempt_cursor/kemptcursor/Keyed" := g531.keep K550
      have g555 : Fld Z T553.heap ad319 "com/example/kempt_cursor/kemptcursor/Keyed" "key" "Ljava/lang/Object;" (.ref r326) := g532.keep K550 (ninS ne530_1 nin0)
      have g556 : Fld Z T553.heap ad319 "com/example/kempt_cursor/kemptcursor/Keyed" "value" "Ljava/lang/Object;" (.ref r336) := g533.keep K550 (ninS ne530_1 nin0)
      have g557 : Exa Z T553.heap ad369 "com/example/kempt_cursor/kemptcursor/Keyed" := g534.keep K550
      have g558 : Fld Z T553.heap ad369 "com/example/kempt_cursor/kemptcursor/Keyed" "key" "Ljava/lang/Object;" (.ref r381) := g535.keep K550 (ninS ne530_2 nin0)
      have g559 : Fld Z T553.heap ad369 "com/example/kempt_cursor/kemptcursor/Keyed" "value" "Ljava/lang/Object;" (.ref r396) := g536.keep K550 (ninS ne530_2 nin0)
      have g560 : Exa Z T553.heap ad442 "com/example/kempt_cursor/kemptcursor/Keyed" := g537.keep K550
      have g561 : Fld Z T553.heap ad442 "com/example/kempt_cursor/kemptcursor/Keyed" "key" "Ljava/lang/Object;" (.ref r457) := g538.keep K550 (ninS ne530_3 nin0)
      have g562 : Fld Z T553.heap ad442 "com/example/kempt_cursor/kemptcursor/Keyed" "value" "Ljava/lang/Object;" (.ref r475) := g539.keep K550 (ninS ne530_3 nin0)
      have g563 : Exa Z T553.heap ad308 "java/util/ArrayList" := g540.keep K550
      have g564 : Fld Z T553.heap ad308 "java/util/ArrayList" "elementData" "[Ljava/lang/Object;" (.ref b_355) := g541.keep K550 (ninS ne530_4 nin0)
      have g565 : Fld Z T553.heap ad308 "java/util/ArrayList" "size" "I" (.int (3 : Int32)) := g542.keep K550 (ninS ne530_4 nin0)
      have g566 : Arv Z T553.heap b_355 kb_355 (.object "java/lang/Object") (10 : Int32) [(.ref ad319), (.ref ad369), (.ref ad442), .null, .null, .null, .null, .null, .null, .null] .null := g543.keep K550 (ninS ne530_5 nin0)
      have g567 : Exa Z T553.heap b_355 "[Ljava/lang/Object;" := g544.keep K550
      have g568 : Fld Z T553.heap ad308 "java/util/AbstractList" "modCount" "I" (.int (3 : Int32)) := g545.keep K550 (ninS ne530_4 nin0)
      have Z550 : n0 ≤ T553.heap.size := (Nat.le_trans Z530 K550.1)
      have O550 : Old Z n0 T553.heap := O530.keep K550 (allS (P := fun x => n0 ≤ x) o530 all0)
      refine own_tr (T' := T553) (g' := (mkF m 139 #[.val (.int p0), .val (.int p1), .val (.int p2), .val (.int p3), .val (.int ii), .val (.int ct), .val (.int (3 : Int32)), .val (.ref ad308), .unset, .unset] [(.ref ad530)])) st553 ?_
      refine own_step (T' := T553) (g' := (mkF m 141 #[.val (.int p0), .val (.int p1), .val (.int p2), .val (.int p3), .val (.int ii), .val (.int ct), .val (.int (3 : Int32)), .val (.ref ad308), .val (.ref ad530), .unset] [])) (fun t k => XS.astore X553.here hx rfl (hb hby at_139) rfl rfl (l' := #[.val (.int p0), .val (.int p1), .val (.int p2), .val (.int p3), .val (.int ii), .val (.int ct), .val (.int (3 : Int32)), .val (.ref ad308), .val (.ref ad530), .unset]) rfl k) ?_
      refine own_step (T' := T553) (g' := (mkF m 143 #[.val (.int p0), .val (.int p1), .val (.int p2), .val (.int p3), .val (.int ii), .val (.int ct), .val (.int (3 : Int32)), .val (.ref ad308), .val (.ref ad530), .unset] [(.int ii)])) (fun t k => XS.iload X553.here hx rfl (hb hby at_141) rfl k) ?_
      by_cases c143 : (0 : Int32) < ii
      · refine own_step (T' := T553) (g' := (mkF m 146 #[.val (.int p0), .val (.int p1), .val (.int p2), .val (.int p3), .val (.int ii), .val (.int ct), .val (.int (3 : Int32)), .val (.ref ad308), .val (.ref ad530), .unset] [])) (fun t k => XS.ifNo X553.here hx rfl (hb hby at_143) rfl ((if0 _ _).trans (tlt c143).2.2.2) k) ?_
        refine own_step (T' := T553) (g' := (mkF m 147 #[.val (.int p0), .val (.int p1), .val (.int p2), .val (.int p3), .val (.int ii), .val (.int ct), .val (.int (3 : Int32)), .val (.ref ad308), .val (.ref ad530), .unset] [(.int (1 : Int32))])) (fun t k => XS.iconst X553.here hx rfl (hb hby at_146) k) ?_
        refine own_step (T' := T553) (g' := (mkF m 151 #[.val (.int p0), .val (.int p1), .val (.int p2), .val (.int p3), .val (.int ii), .val (.int ct), .val (.int (3 : Int32)), .val (.ref ad308), .val (.ref ad530), .unset] [(.int (1 : Int32))])) (fun t k => XS.goto X553.here hx rfl (pc0 := 147) (pc' := 151) rfl (hb hby at_147) (by decide) (by decide) k) ?_
        refine own_step (T' := T553) (g' := (mkF m 153 #[.val (.int p0), .val (.int p1), .val (.int p2), .val (.int p3), .val (.int ii), .val (.int ct), .val (.int (3 : Int32)), .val (.ref ad308), .val (.ref ad530), .val (.int (1 : Int32))] [])) (fun t k => XS.istore X553.here hx rfl (hb hby at_151) rfl (l' := #[.val (.int p0), .val (.int p1), .val (.int p2), .val (.int p3), .val (.int ii), .val (.int ct), .val (.int (3 : Int32)), .val (.ref ad308), .val (.ref ad530), .val (.int (1 : Int32))]) rfl k) ?_
        refine own_step (T' := T553) (g' := (mkF m 155 #[.val (.int p0), .val (.int p1), .val (.int p2), .val (.int p3), .val (.int ii), .val (.int ct), .val (.int (3 : Int32)), .val (.ref ad308), .val (.ref ad530), .val (.int (1 : Int32))] [(.ref ad530)])) (fun t k => XS.aload X553.here hx rfl (hb hby at_153) rfl rfl k) ?_
        obtain ⟨cq572, kq572, q572a, q572b, q572c⟩ := isOf hZ rfl g551
        obtain ⟨_, _, ⟨T571, L571, k571, n571⟩, -, X571, ⟨Lc571, hQ571, lq571, yq571, zq571⟩, st571⟩ := X553.virtualBack hx (y := (⟨"com/example/kempt_cursor/kemptcursor/Page", "reachesStart", "()Z"⟩ : MethodName)) (z := (⟨"com/example/kempt_cursor/kemptcursor/Page", "reachesStart", "()Z"⟩ : MethodName)) hown (mvT hZ (hw _ (List.mem_of_getElem? (i := 179) rfl))) (mvT hZ (hw _ (List.mem_of_getElem? (i := 180) rfl))) (notFace_of_selects (args := #[]) (mvT hZ (hw _ (List.mem_of_getElem? (i := 182) rfl)))) (mvT hZ (hw _ (List.mem_of_getElem? (i := 182) rfl))) (mvT hZ (hw _ (List.mem_of_getElem? (i := 181) rfl))) (by decide) (backOf (W := 0) (rm_rea l Z a0 hw [] ad530 ii T553.heap n0 Z550 g552) hZ (hw _ (List.mem_of_getElem? (i := 183) rfl)) (hw _ (List.mem_of_getElem? (i := 83) rfl)) (by decide) (by decide)) q572a q572c (g := (mkF m 155 #[.val (.int p0), .val (.int p1), .val (.int p2), .val (.int p3), .val (.int ii), .val (.int ct), .val (.int (3 : Int32)), .val (.ref ad308), .val (.ref ad530), .val (.int (1 : Int32))] [(.ref ad530)])) rfl (by rw [hml]; rfl) (Steps.refl _) (argsL := []) (rest := []) (lenOf pd_13 rfl) rfl (by show 2 * 0 + _ ≤ _; exact Nat.le_of_eq rfl) (hb hby at_155) (fun _ _ => ⟨rfl, rfl, (by decide : 15 + 0 ≤ _), (by decide : 36 + 0 ≤ _)⟩)
        dsimp only [Pt.U, Pt.locs, Pt.cells, Pt.slots] at X571 lq571 yq571 zq571 st571 hQ571
        subst lq571 yq571 zq571
        obtain ⟨rfl, Nq571, eq570⟩ := hQ571
        have N571 := Fr.app N553 Nq571
        refine own_tr (T' := T571) (g' := (mkF m 158 #[.val (.int p0), .val (.int p1), .val (.int p2), .val (.int p3), .val (.int ii), .val (.int ct), .val (.int (3 : Int32)), .val (.ref ad308), .val (.ref ad530), .val (.int (1 : Int32))] [(.int (own_rs ii))])) st571 ?_
        refine own_step (T' := T571) (g' := (mkF m 160 #[.val (.int p0), .val (.int p1), .val (.int p2), .val (.int p3), .val (.int ii), .val (.int ct), .val (.int (3 : Int32)), .val (.ref ad308), .val (.ref ad530), .val (.int (1 : Int32))] [(.int (1 : Int32)), (.int (own_rs ii))])) (fun t k => XS.iload X571.here hx rfl (hb hby at_158) rfl k) ?_
        refine own_step (T' := T571) (g' := (mkF m 167 #[.val (.int p0), .val (.int p1), .val (.int p2), .val (.int p3), .val (.int ii), .val (.int ct), .val (.int (3 : Int32)), .val (.ref ad308), .val (.ref ad530), .val (.int (1 : Int32))] [(.int (own_rs ii))])) (fun t k => XS.ifYes X571.here hx rfl (pc0 := 160) (pc' := 167) rfl (hb hby at_160) rfl ((if0 _ _).trans (feq (by decide : ¬ ((1 : Int32) = (0 : Int32)))).2) (by decide) (by decide) k) ?_
        refine own_step (T' := T571) (g' := (mkF m 168 #[.val (.int p0), .val (.int p1), .val (.int p2), .val (.int p3), .val (.int ii), .val (.int ct), .val (.int (3 : Int32)), .val (.ref ad308), .val (.ref ad530), .val (.int (1 : Int32))] [(.int (0 : Int32)), (.int (own_rs ii))])) (fun t k => XS.iconst X571.here hx rfl (hb hby at_167) k) ?_
        refine own_step (T' := T571) (g' := (mkF m 171 #[.val (.int p0), .val (.int p1), .val (.int p2), .val (.int p3), .val (.int ii), .val (.int ct), .val (.int (3 : Int32)), .val (.ref ad308), .val (.ref ad530), .val (.int (1 : Int32))] [])) (fun t k => XS.icmpNo X571.here hx rfl (hb hby at_168) rfl (teq (own_rs1 c143)).2 k) ?_
        refine own_step (T' := T571) (g' := (mkF m 172 #[.val (.int p0), .val (.int p1), .val (.int p2), .val (.int p3), .val (.int ii), .val (.int ct), .val (.int (3 : Int32)), .val (.ref ad308), .val (.ref ad530), .val (.int (1 : Int32))] [(.int (1 : Int32))])) (fun t k => XS.iconst X571.here hx rfl (hb hby at_171) k) ?_
        refine own_step (T' := T571) (g' := (mkF m 176 #[.val (.int p0), .val (.int p1), .val (.int p2), .val (.int p3), .val (.int ii), .val (.int ct), .val (.int (3 : Int32)), .val (.ref ad308), .val (.ref ad530), .val (.int (1 : Int32))] [(.int (1 : Int32))])) (fun t k => XS.goto X571.here hx rfl (pc0 := 172) (pc' := 176) rfl (hb hby at_172) (by decide) (by decide) k) ?_
        refine own_rN X571 hx hlk Bd.returns (by simp) (hb hby at_176) ?_ (by decide) (by decide)
        rw [eq570]
        exact ⟨rfl, N571⟩
      · refine own_step (T' := T553) (g' := (mkF m 150 #[.val (.int p0), .val (.int p1), .val (.int p2), .val (.int p3), .val (.int ii), .val (.int ct), .val (.int (3 : Int32)), .val (.ref ad308), .val (.ref ad530), .unset] [])) (fun t k => XS.ifYes X553.here hx rfl (pc0 := 143) (pc' := 150) rfl (hb hby at_143) rfl ((if0 _ _).trans (flt c143).2.2.2) (by decide) (by decide) k) ?_
        refine own_step (T' := T553) (g' := (mkF m 151 #[.val (.int p0), .val (.int p1), .val (.int p2), .val (.int p3), .val (.int ii), .val (.int ct), .val (.int (3 : Int32)), .val (.ref ad308), .val (.ref ad530), .unset] [(.int (0 : Int32))])) (fun t k => XS.iconst X553.here hx rfl (hb hby at_150) k) ?_
        refine own_step (T' := T553) (g' := (mkF m 153 #[.val (.int p0), .val (.int p1), .val (.int p2), .val (.int p3), .val (.int ii), .val (.int ct), .val (.int (3 : Int32)), .val (.ref ad308), .val (.ref ad530), .val (.int (0 : Int32))] [])) (fun t k => XS.istore X553.here hx rfl (hb hby at_151) rfl (l' := #[.val (.int p0), .val (.int p1), .val (.int p2), .val (.int p3), .val (.int ii), .val (.int ct), .val (.int (3 : Int32)), .val (.ref ad308), .val (.ref ad530), .val (.int (0 : Int32))]) rfl k) ?_
        refine own_step (T' := T553) (g' := (mkF m 155 #[.val (.int p0), .val (.int p1), .val (.int p2), .val (.int p3), .val (.int ii), .val (.int ct), .val (.int (3 : Int32)), .val (.ref ad308), .val (.ref ad530), .val (.int (0 : Int32))] [(.ref ad530)])) (fun t k => XS.aload X553.here hx rfl (hb hby at_153) rfl rfl k) ?_
        obtain ⟨cq576, kq576, q576a, q576b, q576c⟩ := isOf hZ rfl g551
        obtain ⟨_, _, ⟨T575, L575, k575, n575⟩, -, X575, ⟨Lc575, hQ575, lq575, yq575, zq575⟩, st575⟩ := X553.virtualBack hx (y := (⟨"com/example/kempt_cursor/kemptcursor/Page", "reachesStart", "()Z"⟩ : MethodName)) (z := (⟨"com/example/kempt_cursor/kemptcursor/Page", "reachesStart", "()Z"⟩ : MethodName)) hown (mvT hZ (hw _ (List.mem_of_getElem? (i := 179) rfl))) (mvT hZ (hw _ (List.mem_of_getElem? (i := 180) rfl))) (notFace_of_selects (args := #[]) (mvT hZ (hw _ (List.mem_of_getElem? (i := 182) rfl)))) (mvT hZ (hw _ (List.mem_of_getElem? (i := 182) rfl))) (mvT hZ (hw _ (List.mem_of_getElem? (i := 181) rfl))) (by decide) (backOf (W := 0) (rm_rea l Z a0 hw [] ad530 ii T553.heap n0 Z550 g552) hZ (hw _ (List.mem_of_getElem? (i := 183) rfl)) (hw _ (List.mem_of_getElem? (i := 83) rfl)) (by decide) (by decide)) q576a q576c (g := (mkF m 155 #[.val (.int p0), .val (.int p1), .val (.int p2), .val (.int p3), .val (.int ii), .val (.int ct), .val (.int (3 : Int32)), .val (.ref ad308), .val (.ref ad530), .val (.int (0 : Int32))] [(.ref ad530)])) rfl (by rw [hml]; rfl) (Steps.refl _) (argsL := []) (rest := []) (lenOf pd_13 rfl) rfl (by show 2 * 0 + _ ≤ _; exact Nat.le_of_eq rfl) (hb hby at_155) (fun _ _ => ⟨rfl, rfl, (by decide : 15 + 0 ≤ _), (by decide : 36 + 0 ≤ _)⟩)
        dsimp only [Pt.U, Pt.locs, Pt.cells, Pt.slots] at X575 lq575 yq575 zq575 st575 hQ575
        subst lq575 yq575 zq575
        obtain ⟨rfl, Nq575, eq574⟩ := hQ575
        have N575 := Fr.app N553 Nq575
        refine own_tr (T' := T575) (g' := (mkF m 158 #[.val (.int p0), .val (.int p1), .val (.int p2), .val (.int p3), .val (.int ii), .val (.int ct), .val (.int (3 : Int32)), .val (.ref ad308), .val (.ref ad530), .val (.int (0 : Int32))] [(.int (own_rs ii))])) st575 ?_
        refine own_step (T' := T575) (g' := (mkF m 160 #[.val (.int p0), .val (.int p1), .val (.int p2), .val (.int p3), .val (.int ii), .val (.int ct), .val (.int (3 : Int32)), .val (.ref ad308), .val (.ref ad530), .val (.int (0 : Int32))] [(.int (0 : Int32)), (.int (own_rs ii))])) (fun t k => XS.iload X575.here hx rfl (hb hby at_158) rfl k) ?_
        refine own_step (T' := T575) (g' := (mkF m 163 #[.val (.int p0), .val (.int p1), .val (.int p2), .val (.int p3), .val (.int ii), .val (.int ct), .val (.int (3 : Int32)), .val (.ref ad308), .val (.ref ad530), .val (.int (0 : Int32))] [(.int (own_rs ii))])) (fun t k => XS.ifNo X575.here hx rfl (hb hby at_160) rfl ((if0 _ _).trans (teq (by decide : ((0 : Int32) = (0 : Int32)))).2) k) ?_
        refine own_step (T' := T575) (g' := (mkF m 164 #[.val (.int p0), .val (.int p1), .val (.int p2), .val (.int p3), .val (.int ii), .val (.int ct), .val (.int (3 : Int32)), .val (.ref ad308), .val (.ref ad530), .val (.int (0 : Int32))] [(.int (1 : Int32)), (.int (own_rs ii))])) (fun t k => XS.iconst X575.here hx rfl (hb hby at_163) k) ?_
        refine own_step (T' := T575) (g' := (mkF m 168 #[.val (.int p0), .val (.int p1), .val (.int p2), .val (.int p3), .val (.int ii), .val (.int ct), .val (.int (3 : Int32)), .val (.ref ad308), .val (.ref ad530), .val (.int (0 : Int32))] [(.int (1 : Int32)), (.int (own_rs ii))])) (fun t k => XS.goto X575.here hx rfl (pc0 := 164) (pc' := 168) rfl (hb hby at_164) (by decide) (by decide) k) ?_
        refine own_step (T' := T575) (g' := (mkF m 171 #[.val (.int p0), .val (.int p1), .val (.int p2), .val (.int p3), .val (.int ii), .val (.int ct), .val (.int (3 : Int32)), .val (.ref ad308), .val (.ref ad530), .val (.int (0 : Int32))] [])) (fun t k => XS.icmpNo X575.here hx rfl (hb hby at_168) rfl (teq (own_rs0 hii c143)).2 k) ?_
        refine own_step (T' := T575) (g' := (mkF m 172 #[.val (.int p0), .val (.int p1), .val (.int p2), .val (.int p3), .val (.int ii), .val (.int ct), .val (.int (3 : Int32)), .val (.ref ad308), .val (.ref ad530), .val (.int (0 : Int32))] [(.int (1 : Int32))])) (fun t k => XS.iconst X575.here hx rfl (hb hby at_171) k) ?_
        refine own_step (T' := T575) (g' := (mkF m 176 #[.val (.int p0), .val (.int p1), .val (.int p2), .val (.int p3), .val (.int ii), .val (.int ct), .val (.int (3 : Int32)), .val (.ref ad308), .val (.ref ad530), .val (.int (0 : Int32))] [(.int (1 : Int32))])) (fun t k => XS.goto X575.here hx rfl (pc0 := 172) (pc' := 176) rfl (hb hby at_172) (by decide) (by decide) k) ?_
        refine own_rN X575 hx hlk Bd.returns (by simp) (hb hby at_176) ?_ (by decide) (by decide)
        rw [eq574]
        exact ⟨rfl, N575⟩
  by_cases c5_577 : ((p2 >>> (2 : Int32)) &&& (1 : Int32)) = (0 : Int32)
  · refine own_step (T' := s₁) (g' := (mkF m 8 #[.val (.int p0), .val (.int p1), .val (.int p2), .val (.int p3), .unset, .unset, .unset, .unset, .unset, .unset] [])) (fun t k => XS.ifNo X0.here hx rfl (hb hby at_5) rfl ((if0 _ _).trans (teq c5_577).2) k) ?_
    refine own_step (T' := s₁) (g' := (mkF m 9 #[.val (.int p0), .val (.int p1), .val (.int p2), .val (.int p3), .unset, .unset, .unset, .unset, .unset, .unset] [(.int p0)])) (fun t k => XS.iloadN X0.here hx rfl (hb hby at_8) rfl k) ?_
    refine own_step (T' := s₁) (g' := (mkF m 11 #[.val (.int p0), .val (.int p1), .val (.int p2), .val (.int p3), .unset, .unset, .unset, .unset, .unset, .unset] [(.int (2147483647 : Int32)), (.int p0)])) (X0.ldcInt hx hown (mvT hZ (hw _ (List.mem_of_getElem? (i := 0) rfl))) (g := (mkF m 9 #[.val (.int p0), .val (.int p1), .val (.int p2), .val (.int p3), .unset, .unset, .unset, .unset, .unset, .unset] [(.int p0)])) rfl (hb hby at_9)) ?_
    refine own_step (T' := s₁) (g' := (mkF m 12 #[.val (.int p0), .val (.int p1), .val (.int p2), .val (.int p3), .unset, .unset, .unset, .unset, .unset, .unset] [(.int (p0 &&& (2147483647 : Int32)))])) (fun t k => XS.iand X0.here hx rfl (hb hby at_11) rfl k) ?_
    refine own_step (T' := s₁) (g' := (mkF m 14 #[.val (.int p0), .val (.int p1), .val (.int p2), .val (.int p3), .val (.int (p0 &&& (2147483647 : Int32))), .unset, .unset, .unset, .unset, .unset] [])) (fun t k => XS.istore X0.here hx rfl (hb hby at_12) rfl (l' := #[.val (.int p0), .val (.int p1), .val (.int p2), .val (.int p3), .val (.int (p0 &&& (2147483647 : Int32))), .unset, .unset, .unset, .unset, .unset]) rfl k) ?_
    refine own_step (T' := s₁) (g' := (mkF m 22 #[.val (.int p0), .val (.int p1), .val (.int p2), .val (.int p3), .val (.int (p0 &&& (2147483647 : Int32))), .unset, .unset, .unset, .unset, .unset] [])) (fun t k => XS.goto X0.here hx rfl (pc0 := 14) (pc' := 22) rfl (hb hby at_14) (by decide) (by decide) k) ?_
    exact j22 _ (own_m31 p0)
  · refine own_step (T' := s₁) (g' := (mkF m 17 #[.val (.int p0), .val (.int p1), .val (.int p2), .val (.int p3), .unset, .unset, .unset, .unset, .unset, .unset] [])) (fun t k => XS.ifYes X0.here hx rfl (pc0 := 5) (pc' := 17) rfl (hb hby at_5) rfl ((if0 _ _).trans (feq c5_577).2) (by decide) (by decide) k) ?_
    refine own_step (T' := s₁) (g' := (mkF m 18 #[.val (.int p0), .val (.int p1), .val (.int p2), .val (.int p3), .unset, .unset, .unset, .unset, .unset, .unset] [(.int p0)])) (fun t k => XS.iloadN X0.here hx rfl (hb hby at_17) rfl k) ?_
    refine own_step (T' := s₁) (g' := (mkF m 19 #[.val (.int p0), .val (.int p1), .val (.int p2), .val (.int p3), .unset, .unset, .unset, .unset, .unset, .unset] [(.int (1 : Int32)), (.int p0)])) (fun t k => XS.iconst X0.here hx rfl (hb hby at_18) k) ?_
    refine own_step (T' := s₁) (g' := (mkF m 20 #[.val (.int p0), .val (.int p1), .val (.int p2), .val (.int p3), .unset, .unset, .unset, .unset, .unset, .unset] [(.int (p0 &&& (1 : Int32)))])) (fun t k => XS.iand X0.here hx rfl (hb hby at_19) rfl k) ?_
    refine own_step (T' := s₁) (g' := (mkF m 22 #[.val (.int p0), .val (.int p1), .val (.int p2), .val (.int p3), .val (.int (p0 &&& (1 : Int32))), .unset, .unset, .unset, .unset, .unset] [])) (fun t k => XS.istore X0.here hx rfl (hb hby at_20) rfl (l' := #[.val (.int p0), .val (.int p1), .val (.int p2), .val (.int p3), .val (.int (p0 &&& (1 : Int32))), .unset, .unset, .unset, .unset, .unset]) rfl k) ?_
    exact j22 _ (own_m1 p0)
theorem own_mir {s : State} {C : String} (h : MirrorMade s C) : ∃ mr, own_Mir s C mr := by
  obtain ⟨c, k, m, h1, h2, h3⟩ := h
  exact ⟨m, c, k, h1, h2, h3.1⟩
set_option maxRecDepth 65536 in
set_option maxHeartbeats 40000000 in
theorem comes_1 {Post : Tables → Env → Array Value → State → Outcome → State → Prop} (hpost : ∀ tb e args s v u, (limb_1_1.after args s (.returned v) u = true ∧ limb_1_2.after args s (.returned v) u = true ∧ True) → FrameEnd s (.returned v) u (Jvm.fieldLocs frame_1_writes args s ++ Jvm.arrayLocs frame_1_arrays args s ++ Jvm.staticLocs frame_1_statics s) 32 192 → Post tb e args s (.returned v) u) :
    ArmFor flags0 classFile x code maxLocals ret World_1 tables_1 room_1 Calls_1 rest_1 Pre_1 Post := by
  intro l hfl _ _ p e ha hc hk s m args below hf hA hF happ hP
  obtain ⟨hcalls, hrest, hpre⟩ := hP
  obtain ⟨-, -, -, hnamed, -, -, -, hat⟩ := (Spec.applies_iff hf).mp happ
  obtain ⟨hg, hn⟩ := and_e (Cond.before_iff.mp (show (Jvm.Cond.and given_1 narrow_1).before args s = true from hpre))
  obtain ⟨hc0, hg0⟩ := and_e hg
  obtain ⟨hc1, hg1⟩ := and_e hg0
  obtain ⟨hc2, hg2⟩ := and_e hg1
  obtain ⟨hc3, hg3⟩ := and_e hg2
  obtain ⟨w0, w1, w2, w3, rfl⟩ : ∃ w0 w1 w2 w3 : Value, args = #[w0, w1, w2, w3] := by
    have hs : args.size = 4 := by simpa [Cond.value, given_1] using hc0
    obtain ⟨L⟩ := args
    match L, hs with
    | [w0, w1, w2, w3], _ => exact ⟨w0, w1, w2, w3, rfl⟩
  have hw := fun d (hd : d ∈ tables_1) => atoms_spec (ws := Jvm.Cond.code x code maxLocals ret :: tables_1) hat d (List.mem_cons_of_mem _ hd)
  have hfit : Fit s := fun {y c} hc i hi => by
    obtain ⟨ha, rfl⟩ := Array.getElem?_eq_some_iff.mp hc
    have q := List.all_eq_true.mp ((Array.all_eq_true_iff_forall_mem.mp hF) _ (Array.getElem_mem ha)) i (List.mem_range.mpr hi)
    simpa [Array.getElem?_eq_getElem hi] using q
  obtain ⟨i0, ev0⟩ := is_v hc1
  obtain rfl : w0 = (.int i0) := Option.some.inj ev0
  obtain ⟨i1, ev1⟩ := is_v hc2
  obtain rfl : w1 = (.int i1) := Option.some.inj ev1
  obtain ⟨i2, ev2⟩ := is_v hc3
  obtain rfl : w2 = (.int i2) := Option.some.inj ev2
  obtain ⟨i3, ev3⟩ := is_v hg3
  obtain rfl : w3 = (.int i3) := Option.some.inj ev3
  obtain ⟨hsets, hown0⟩ := atoms_of _ (rest_1_c_eq ▸ (show rest_1_c.before _ s = true from hrest))
  have g3 := Cond.before_iff.mp (hsets _ (List.mem_of_getElem? (i := 12) rfl))
  have g4 := Cond.before_iff.mp (hsets _ (List.mem_of_getElem? (i := 13) rfl))
  have g6 := Cond.before_iff.mp (hsets _ (List.mem_of_getElem? (i := 15) rfl))
  have g7 := Cond.before_iff.mp (hsets _ (List.mem_of_getElem? (i := 16) rfl))
  have S_h : Sta s s.heap "java/lang/Integer$IntegerCache" "high" "I" (.int (127 : Int32)) := Sta.start (own_eqI g3) (Or.inl (hsets _ (List.mem_of_getElem? (i := 10) rfl)))
  obtain ⟨ca, evA⟩ := arr_v g4
  have S_c : Sta s s.heap "java/lang/Integer$IntegerCache" "cache" "[Ljava/lang/Integer;" (.ref ca) := Sta.start evA (Or.inr ⟨(hw _ (List.mem_of_getElem? (i := 35) rfl)), (hsets _ (List.mem_of_getElem? (i := 11) rfl))⟩)
  obtain ⟨cc, A_c⟩ := Arr.start evA g4
  obtain ⟨lx, ly, l1, l2, l3, l4⟩ := Jvm.Free.SB.Term.length_small (own_eqI g6)
  obtain rfl : lx = ca := Value.ref.inj (Option.some.inj (l1.symm.trans evA))
  obtain rfl : ly = cc := Option.some.inj (l2.symm.trans (Arr.fin (Vm.Alike.refl _) A_c))
  have hsz : ly.slots.size = 256 := own_size l4 (Value.int.inj l3).symm (by decide)
  have H_c : ly.slots.size = 256 ∧ ∀ i, i < 256 → ∃ r, ly.slots[i]? = some (.ref r) := ⟨hsz, own_allrefs g7 (fun idx => evA) l2 hsz⟩
  have d6 := Cond.before_iff.mp (hsets _ (List.mem_of_getElem? (i := 6) rfl))
  have d8 := Cond.before_iff.mp (hsets _ (List.mem_of_getElem? (i := 8) rfl))
  obtain ⟨de, evD⟩ := arr_v d6
  have S_d : Sta s s.heap "java/util/ArrayList" "DEFAULTCAPACITY_EMPTY_ELEMENTDATA" "[Ljava/lang/Object;" (.ref de) := Sta.start evD (Or.inr ⟨(hw _ (List.mem_of_getElem? (i := 3) rfl)), (hsets _ (List.mem_of_getElem? (i := 2) rfl))⟩)
  obtain ⟨cd, A_d⟩ := Arr.start evD d6
  obtain ⟨dx, dy, m1, m2, m3, m4⟩ := Jvm.Free.SB.Term.length_small (own_eqI d8)
  obtain rfl : dx = de := Value.ref.inj (Option.some.inj (m1.symm.trans evD))
  obtain rfl : dy = cd := Option.some.inj (m2.symm.trans (Arr.fin (Vm.Alike.refl _) A_d))
  have V_d : Arv s s.heap dx dy.cls (.object "java/lang/Object") (0 : Int32) [] .null := Arv.start hfit A_d m4 (Value.int.inj m3).symm (by decide) rfl trivial
  obtain ⟨el, evL⟩ := exa_v (Cond.before_iff.mp (hsets _ (List.mem_of_getElem? (i := 19) rfl)))
  have S_el : Sta s s.heap "java/util/ImmutableCollections" "EMPTY_LIST" "Ljava/util/ImmutableCollections$ListN;" (.ref el) := Sta.start evL (Or.inl (hsets _ (List.mem_of_getElem? (i := 18) rfl)))
  obtain ⟨em, evM⟩ := exa_v (Cond.before_iff.mp (hsets _ (List.mem_of_getElem? (i := 26) rfl)))
  have S_em : Sta s s.heap "java/util/ImmutableCollections" "EMPTY" "Ljava/lang/Object;" (.ref em) := Sta.start evM (Or.inl (hsets _ (List.mem_of_getElem? (i := 25) rfl)))
  obtain ⟨mr, M_o⟩ := own_mir hcalls.1
  obtain ⟨n, o, h1, h2, h3, _, L, rfl, ⟨rfl, N⟩, hq⟩ := rm_law l s _ hw tables_1 i0 i1 i2 i3 dx dy.cls el em mr lx ly s.heap s.heap.size (Nat.le_refl _) (Old.start s) S_d V_d S_el S_em M_o S_h S_c A_c H_c p e ha hc hk s m _ below hf ((Spec.applies_iff_loose hf).mp happ).1 ⟨rfl, State.Warmed39.refl s, rfl⟩ trivial
  refine ⟨n, _, h1, h2, h3, hpost _ _ _ _ _ _ ⟨Cond.after_iff.mpr rfl, Cond.after_iff.mpr (eq_i res_at (Term.int_eval (1)) rfl), trivial⟩ ⟨hq.1, hq.2.1, (hq.2.2.sift fun y hy => Or.inr (N y hy)).mono (by decide) (by decide)⟩⟩
theorem main_1_1 : Claimed_1_1 := comes_1 fun _ _ _ _ _ _ h hF => ⟨h.1, hF⟩
theorem main_1_2 : Claimed_1_2 := comes_1 fun _ _ _ _ _ _ h hF => ⟨h.2.1, hF⟩

end Jvm.Pilot.@@N@@
namespace Jvm.Pilot.@@N@@
open Jvm Jvm.ClassFile Sem Op Lib Jvm.Free Jvm.Stand Jvm.Pilot.@@N@@.Jvm.D
/-! MADE BY PROGRAM (witnessworld.py) out of the Statement's table words and the real class files: 37 classes; the members and pool entries that the words name. The judged class is class 1, her method 1. -/
namespace start1
open Jvm.ClassFile
def u (s : String) : CpInfo := .utf8 (stringToUtf16 s)
/-- a pool by its gaps: so many unusable entries, then the entry; so many at the end -/
def gap : Nat → List CpInfo → List CpInfo
  | 0, r => r
  | n + 1, r => .unusable :: gap n r
def poolList (es : List (Nat × CpInfo)) (last : Nat) : List CpInfo := es.foldr (fun e r => gap e.1 (e.2 :: r)) (gap last [])
def pool (es : List (Nat × CpInfo)) (last : Nat) : Array CpInfo := ⟨poolList es last⟩
def fileOf (pool : Array CpInfo) (this : Nat) (attrs : Array Attribute := #[]) (ms : Array MethodInfo := #[]) (fl : Nat := 33) (sup : Nat := 0) (ifs : Array Nat := #[]) (fds : Array FieldInfo := #[]) : ClassFile where
  minorVersion := 0
  majorVersion := 65
  constantPool := pool
  accessFlags := fl
  thisClass := this
  superClass := sup
  interfaces := ifs
  fields := fds
  methods := ms
  attributes := attrs
def plain (name : String) (sup : Option ClassId) : Class where
  name := name
  kind := .ordinary
  loader := none
  accessFlags := 33
  super := sup
  interfaces := #[]
  cf := none
  fields := #[]
  methods := #[]
  instanceTypes := #[]
  staticTypes := #[]
  resolved := #[]
  callSites := []
  init := .initialized
  statics := none
  mirror := none

def pool0 : Array CpInfo := pool [(5, u "<init>"), (0, u "()V"), (1, .class_ 10), (1, u "java/lang/Object"), (0, u "getClass"), (0, u "()Ljava/lang/Class;")] 111

def k0c0 : Code := { maxStack := 0, maxLocals := 1, code := object_method_1_code, exceptionTable := #[], attributes := #[] }
def k0m0 : Method := { name := "<init>", desc := "()V", sig := { parameters := [], returnType := none }, accessFlags := 1, code := some k0c0 }
def k0m1 : Method := { name := "getClass", desc := "()Ljava/lang/Class;", sig := { parameters := [], returnType := some (.object "java/lang/Class") }, accessFlags := 273, code := none }
/-- java/lang/Object -/
def k0 : Class := { plain "java/lang/Object" none with
  accessFlags := 33
  interfaces := #[]
  cf := some (fileOf pool0 8 #[] #[{ accessFlags := 1, nameIndex := 5, descriptorIndex := 6, attributes := #[] }, { accessFlags := 273, nameIndex := 11, descriptorIndex := 12, attributes := #[] }] 33 0 #[] #[])
  fields := #[]
  methods := #[k0m0, k0m1]
  instanceTypes := #[]
  staticTypes := #[]
  resolved := Array.replicate 124 none
  statics := none }

def pool1 : Array CpInfo := pool [(2, .class_ 4), (0, .nameAndType 5 6), (0, u "java/lang/Object"), (0, u "<init>"), (0, u "()V"), (0, .integer 2147483647), (0, .class_ 9), (0, u "java/util/ArrayList"), (0, .methodref 8 3), (0, .class_ 12), (0, u "com/example/kempt_cursor/kemptcursor/Keyed"), (0, .methodref 14 15), (0, .class_ 16), (0, .nameAndType 17 18), (0, u "java/lang/Integer"), (0, u "valueOf"), (0, u "(I)Ljava/lang/Integer;"), (0, .methodref 11 20), (0, .nameAndType 5 21), (0, u "(Ljava/lang/Object;Ljava/lang/Object;)V"), (0, .methodref 8 23), (0, .nameAndType 24 25), (0, u "add"), (0, u "(Ljava/lang/Object;)Z"), (0, .class_ 27), (0, u "com/example/kempt_cursor/kemptcursor/Page"), (0, .methodref 26 29), (0, .nameAndType 5 30), (0, u "(Ljava/util/List;II)V"), (0, .methodref 26 32), (0, .nameAndType 33 34), (0, u "reachesStart"), (0, u "()Z"), (0, .class_ 36), (0, u "com/example/kempt_cursor/kemptcursor/PageReachesStartPinLaw"), (2, u "law"), (0, u "(IIII)Z")] 3

def k1m0 : Method := { name := "<init>", desc := "()V", sig := { parameters := [], returnType := none }, accessFlags := 1, code := none }
def k1c1 : Code := { maxStack := 5, maxLocals := 10, code := code, exceptionTable := #[], attributes := #[] }
def k1m1 : Method := { name := "law", desc := "(IIII)Z", sig := { parameters := [.int, .int, .int, .int], returnType := some .boolean }, accessFlags := 9, code := some k1c1 }
/-- com/example/kempt_cursor/kemptcursor/PageReachesStartPinLaw -/
def k1 : Class := { plain "com/example/kempt_cursor/kemptcursor/PageReachesStartPinLaw" (some 0) with
  accessFlags := 49
  interfaces := #[]
  cf := some (fileOf pool1 35 #[] #[{ accessFlags := 1, nameIndex := 5, descriptorIndex := 6, attributes := #[] }, { accessFlags := 9, nameIndex := 39, descriptorIndex := 40, attributes := #[] }] 49 2 #[] #[])
  fields := #[]
  methods := #[k1m0, k1m1]
  instanceTypes := #[]
  staticTypes := #[]
  resolved := Array.replicate 44 none
  statics := none }

def pool2 : Array CpInfo := pool [(8, .class_ 10), (1, u "java/lang/Iterable"), (24, .class_ 36), (0, u "java/lang/Object")] 25

/-- java/lang/Iterable -/
def k2 : Class := { plain "java/lang/Iterable" (some 0) with
  accessFlags := 1537
  interfaces := #[]
  cf := some (fileOf pool2 8 #[] #[] 1537 35 #[] #[])
  fields := #[]
  methods := #[]
  instanceTypes := #[]
  staticTypes := #[]
  resolved := Array.replicate 62 none
  statics := none }

def pool3 : Array CpInfo := pool [(10, .class_ 12), (1, u "java/util/Collection"), (0, u "toArray"), (16, u "()Z"), (29, .class_ 61), (0, u "java/lang/Object"), (0, .class_ 63), (0, u "java/lang/Iterable"), (2, u "isEmpty"), (3, u "()[Ljava/lang/Object;")] 44

def k3m0 : Method := { name := "isEmpty", desc := "()Z", sig := { parameters := [], returnType := some .boolean }, accessFlags := 1025, code := none }
def k3m1 : Method := { name := "toArray", desc := "()[Ljava/lang/Object;", sig := { parameters := [], returnType := some (.array (.object "java/lang/Object")) }, accessFlags := 1025, code := none }
/-- java/util/Collection -/
def k3 : Class := { plain "java/util/Collection" (some 0) with
  accessFlags := 1537
  interfaces := #[2]
  cf := some (fileOf pool3 10 #[] #[{ accessFlags := 1025, nameIndex := 66, descriptorIndex := 30, attributes := #[] }, { accessFlags := 1025, nameIndex := 13, descriptorIndex := 70, attributes := #[] }] 1537 60 #[62] #[])
  fields := #[]
  methods := #[k3m0, k3m1]
  instanceTypes := #[]
  staticTypes := #[]
  resolved := Array.replicate 115 none
  statics := none }

def pool4 : Array CpInfo := pool [(1, .methodref 2 3), (0, .class_ 4), (0, .nameAndType 5 6), (0, u "java/lang/Object"), (0, u "<init>"), (0, u "()V"), (1, .class_ 10), (1, u "java/util/AbstractCollection"), (66, .class_ 78), (0, u "java/util/Collection")] 81

def k4c0 : Code := { maxStack := 1, maxLocals := 1, code := jdk_22_method_1_code, exceptionTable := #[], attributes := #[] }
def k4m0 : Method := { name := "<init>", desc := "()V", sig := { parameters := [], returnType := none }, accessFlags := 4, code := some k4c0 }
/-- java/util/AbstractCollection -/
def k4 : Class := { plain "java/util/AbstractCollection" (some 0) with
  accessFlags := 1057
  interfaces := #[3]
  cf := some (fileOf pool4 8 #[] #[{ accessFlags := 4, nameIndex := 5, descriptorIndex := 6, attributes := #[] }] 1057 2 #[77] #[])
  fields := #[]
  methods := #[k4m0]
  instanceTypes := #[]
  staticTypes := #[]
  resolved := Array.replicate 160 none
  statics := none }

def pool5 : Array CpInfo := pool [(8, .class_ 10), (1, u "java/util/SequencedCollection"), (15, .class_ 27), (0, u "java/lang/Object"), (0, .class_ 29), (0, u "java/util/Collection")] 27

/-- java/util/SequencedCollection -/
def k5 : Class := { plain "java/util/SequencedCollection" (some 0) with
  accessFlags := 1537
  interfaces := #[3]
  cf := some (fileOf pool5 8 #[] #[] 1537 26 #[28] #[])
  fields := #[]
  methods := #[]
  instanceTypes := #[]
  staticTypes := #[]
  resolved := Array.replicate 57 none
  statics := none }

def pool6 : Array CpInfo := pool [(8, .class_ 10), (1, u "java/util/List"), (20, u "(Ljava/lang/Object;)V"), (16, u "<init>"), (39, u "of"), (1, .fieldref 91 92), (0, .class_ 93), (0, .nameAndType 94 95), (0, u "java/util/ImmutableCollections"), (0, u "EMPTY_LIST"), (0, u "Ljava/util/ImmutableCollections$ListN;"), (0, .class_ 97), (0, u "java/util/ImmutableCollections$List12"), (0, .methodref 96 99), (0, .nameAndType 48 31), (0, .methodref 96 101), (0, .nameAndType 48 102), (0, u "(Ljava/lang/Object;Ljava/lang/Object;)V"), (0, .class_ 104), (0, u "java/lang/Object"), (3, u "([Ljava/lang/Object;)Ljava/util/List;"), (0, .methodref 91 110), (0, .nameAndType 111 108), (0, u "listFromArray"), (0, .methodref 91 113), (0, .nameAndType 114 115), (0, u "listCopy"), (0, u "(Ljava/util/Collection;)Ljava/util/List;"), (3, u "()Ljava/util/List;"), (0, .class_ 121), (0, u "java/util/SequencedCollection"), (112, u "copyOf")] 16

def k6c0 : Code := { maxStack := 1, maxLocals := 0, code := jdk_40_method_36_code, exceptionTable := #[], attributes := #[] }
def k6m0 : Method := { name := "of", desc := "()Ljava/util/List;", sig := { parameters := [], returnType := some (.object "java/util/List") }, accessFlags := 9, code := some k6c0 }
def k6c1 : Code := { maxStack := 5, maxLocals := 2, code := jdk_40_method_47_code, exceptionTable := #[], attributes := #[] }
def k6m1 : Method := { name := "of", desc := "([Ljava/lang/Object;)Ljava/util/List;", sig := { parameters := [(.array (.object "java/lang/Object"))], returnType := some (.object "java/util/List") }, accessFlags := 137, code := some k6c1 }
def k6c2 : Code := { maxStack := 1, maxLocals := 1, code := jdk_40_method_48_code, exceptionTable := #[], attributes := #[] }
def k6m2 : Method := { name := "copyOf", desc := "(Ljava/util/Collection;)Ljava/util/List;", sig := { parameters := [(.object "java/util/Collection")], returnType := some (.object "java/util/List") }, accessFlags := 9, code := some k6c2 }
/-- java/util/List -/
def k6 : Class := { plain "java/util/List" (some 0) with
  accessFlags := 1537
  interfaces := #[5]
  cf := some (fileOf pool6 8 #[] #[{ accessFlags := 9, nameIndex := 88, descriptorIndex := 119, attributes := #[] }, { accessFlags := 137, nameIndex := 88, descriptorIndex := 108, attributes := #[] }, { accessFlags := 9, nameIndex := 234, descriptorIndex := 115, attributes := #[] }] 1537 103 #[120] #[])
  fields := #[]
  methods := #[k6m0, k6m1, k6m2]
  instanceTypes := #[]
  staticTypes := #[]
  resolved := Array.replicate 251 none
  statics := none }

def pool7 : Array CpInfo := pool [(1, .methodref 2 3), (0, .class_ 4), (0, .nameAndType 5 6), (0, u "java/util/AbstractCollection"), (0, u "<init>"), (0, u "()V"), (0, .fieldref 8 9), (0, .class_ 10), (0, .nameAndType 11 12), (0, u "java/util/AbstractList"), (0, u "modCount"), (0, u "I"), (64, .class_ 78), (0, u "java/util/AbstractList$Itr"), (3, .class_ 83), (0, u "java/util/AbstractList$ListItr"), (9, .class_ 94), (0, u "java/util/AbstractList$RandomAccessSubList"), (3, .class_ 99), (0, u "java/util/AbstractList$SubList"), (33, .class_ 134), (0, u "java/util/List"), (73, .class_ 209), (0, u "java/util/AbstractList$SubList$1"), (0, .class_ 211), (0, u "java/util/AbstractList$RandomAccessSpliterator")] 6

def k7c0 : Code := { maxStack := 2, maxLocals := 1, code := jdk_39_method_1_code, exceptionTable := #[], attributes := #[] }
def k7m0 : Method := { name := "<init>", desc := "()V", sig := { parameters := [], returnType := none }, accessFlags := 4, code := some k7c0 }
/-- java/util/AbstractList -/
def k7 : Class := { plain "java/util/AbstractList" (some 4) with
  accessFlags := 1057
  interfaces := #[6]
  cf := some (fileOf pool7 8 #[.nestMembers #[93, 98, 208, 210, 82, 77]] #[{ accessFlags := 4, nameIndex := 5, descriptorIndex := 6, attributes := #[] }] 1057 2 #[133] #[{ accessFlags := 132, nameIndex := 11, descriptorIndex := 12, attributes := #[] }])
  fields := #[{ name := "modCount", type := .int, accessFlags := 132, slot := 0, constantValue := 0 }]
  methods := #[k7m0]
  instanceTypes := #[.int]
  staticTypes := #[]
  resolved := Array.replicate 218 none
  statics := none }

def pool8 : Array CpInfo := pool [(1, .class_ 2), (0, u "java/util/RandomAccess"), (0, .class_ 4), (0, u "java/lang/Object")] 2

/-- java/util/RandomAccess -/
def k8 : Class := { plain "java/util/RandomAccess" (some 0) with
  accessFlags := 1537
  interfaces := #[]
  cf := some (fileOf pool8 1 #[] #[] 1537 3 #[] #[])
  fields := #[]
  methods := #[]
  instanceTypes := #[]
  staticTypes := #[]
  resolved := Array.replicate 7 none
  statics := none }

def pool9 : Array CpInfo := pool [(1, .class_ 2), (0, u "java/lang/Cloneable"), (0, .class_ 4), (0, u "java/lang/Object")] 2

/-- java/lang/Cloneable -/
def k9 : Class := { plain "java/lang/Cloneable" (some 0) with
  accessFlags := 1537
  interfaces := #[]
  cf := some (fileOf pool9 1 #[] #[] 1537 3 #[] #[])
  fields := #[]
  methods := #[]
  instanceTypes := #[]
  staticTypes := #[]
  resolved := Array.replicate 7 none
  statics := none }

def pool10 : Array CpInfo := pool [(1, .class_ 2), (0, u "java/io/Serializable"), (0, .class_ 4), (0, u "java/lang/Object")] 2

/-- java/io/Serializable -/
def k10 : Class := { plain "java/io/Serializable" (some 0) with
  accessFlags := 1537
  interfaces := #[]
  cf := some (fileOf pool10 1 #[] #[] 1537 3 #[] #[])
  fields := #[]
  methods := #[]
  instanceTypes := #[]
  staticTypes := #[]
  resolved := Array.replicate 7 none
  statics := none }

def pool11 : Array CpInfo := pool [(1, .methodref 2 3), (0, .class_ 4), (0, .nameAndType 5 6), (0, u "java/util/AbstractList"), (0, u "<init>"), (0, u "()V"), (0, .class_ 8), (0, u "java/lang/Object"), (0, .fieldref 10 11), (0, .class_ 12), (0, .nameAndType 13 14), (0, u "java/util/ArrayList"), (0, u "elementData"), (0, u "[Ljava/lang/Object;"), (2, u "EMPTY_ELEMENTDATA"), (21, .fieldref 10 40), (0, .nameAndType 41 14), (0, u "DEFAULTCAPACITY_EMPTY_ELEMENTDATA"), (4, u "toArray"), (0, u "()[Ljava/lang/Object;"), (0, .fieldref 10 49), (0, .nameAndType 50 51), (0, u "size"), (0, u "I"), (6, .class_ 60), (1, u "java/util/Arrays"), (0, u "copyOf"), (1, .fieldref 10 64), (0, .nameAndType 65 51), (0, u "modCount"), (0, .methodref 58 67), (0, .nameAndType 61 68), (0, u "([Ljava/lang/Object;I)[Ljava/lang/Object;"), (0, .methodref 10 70), (0, .nameAndType 71 72), (0, u "grow"), (0, u "(I)[Ljava/lang/Object;"), (6, .methodref 80 81), (0, .class_ 82), (0, .nameAndType 83 84), (0, u "java/lang/Math"), (0, u "max"), (0, u "(II)I"), (11, u "(Ljava/lang/Object;)Z"), (32, .methodref 10 130), (0, .nameAndType 71 47), (0, .methodref 10 132), (0, .nameAndType 133 134), (0, u "add"), (0, u "(Ljava/lang/Object;[Ljava/lang/Object;I)V"), (13, .class_ 149), (0, u "java/util/List"), (23, u "()Z"), (88, .class_ 263), (0, u "java/util/ArrayList$ListItr"), (3, .class_ 268), (0, u "java/util/ArrayList$Itr"), (7, .class_ 277), (0, u "java/util/ArrayList$SubList"), (12, .class_ 291), (0, u "java/util/ArrayList$ArrayListSpliterator"), (37, .class_ 330), (0, u "java/util/RandomAccess"), (0, .class_ 332), (0, u "java/lang/Cloneable"), (0, .class_ 334), (0, u "java/io/Serializable"), (0, u "serialVersionUID"), (0, u "J"), (3, u "DEFAULT_CAPACITY"), (22, u "isEmpty"), (136, .class_ 501), (0, u "java/util/ArrayList$SubList$2"), (0, .class_ 503), (0, u "java/util/ArrayList$SubList$1")] 5

def k11c0 : Code := { maxStack := 2, maxLocals := 1, code := jdk_38_method_2_code, exceptionTable := #[], attributes := #[] }
def k11m0 : Method := { name := "<init>", desc := "()V", sig := { parameters := [], returnType := none }, accessFlags := 1, code := some k11c0 }
def k11c1 : Code := { maxStack := 4, maxLocals := 4, code := jdk_38_method_6_code, exceptionTable := #[], attributes := #[] }
def k11m1 : Method := { name := "grow", desc := "(I)[Ljava/lang/Object;", sig := { parameters := [.int], returnType := some (.array (.object "java/lang/Object")) }, accessFlags := 2, code := some k11c1 }
def k11c2 : Code := { maxStack := 3, maxLocals := 1, code := jdk_38_method_7_code, exceptionTable := #[], attributes := #[] }
def k11m2 : Method := { name := "grow", desc := "()[Ljava/lang/Object;", sig := { parameters := [], returnType := some (.array (.object "java/lang/Object")) }, accessFlags := 2, code := some k11c2 }
def k11c3 : Code := { maxStack := 1, maxLocals := 1, code := jdk_38_method_9_code, exceptionTable := #[], attributes := #[] }
def k11m3 : Method := { name := "isEmpty", desc := "()Z", sig := { parameters := [], returnType := some .boolean }, accessFlags := 1, code := some k11c3 }
def k11c4 : Code := { maxStack := 2, maxLocals := 1, code := jdk_38_method_16_code, exceptionTable := #[], attributes := #[] }
def k11m4 : Method := { name := "toArray", desc := "()[Ljava/lang/Object;", sig := { parameters := [], returnType := some (.array (.object "java/lang/Object")) }, accessFlags := 1, code := some k11c4 }
def k11c5 : Code := { maxStack := 3, maxLocals := 4, code := jdk_38_method_24_code, exceptionTable := #[], attributes := #[] }
def k11m5 : Method := { name := "add", desc := "(Ljava/lang/Object;[Ljava/lang/Object;I)V", sig := { parameters := [(.object "java/lang/Object"), (.array (.object "java/lang/Object")), .int], returnType := none }, accessFlags := 2, code := some k11c5 }
def k11c6 : Code := { maxStack := 4, maxLocals := 2, code := jdk_38_method_25_code, exceptionTable := #[], attributes := #[] }
def k11m6 : Method := { name := "add", desc := "(Ljava/lang/Object;)Z", sig := { parameters := [(.object "java/lang/Object")], returnType := some .boolean }, accessFlags := 1, code := some k11c6 }
/-- java/util/ArrayList -/
def k11 : Class := { plain "java/util/ArrayList" (some 7) with
  accessFlags := 33
  interfaces := #[6, 8, 9, 10]
  cf := some (fileOf pool11 10 #[.nestMembers #[290, 276, 500, 502, 262, 267]] #[{ accessFlags := 1, nameIndex := 5, descriptorIndex := 6, attributes := #[] }, { accessFlags := 2, nameIndex := 71, descriptorIndex := 72, attributes := #[] }, { accessFlags := 2, nameIndex := 71, descriptorIndex := 47, attributes := #[] }, { accessFlags := 1, nameIndex := 363, descriptorIndex := 173, attributes := #[] }, { accessFlags := 1, nameIndex := 46, descriptorIndex := 47, attributes := #[] }, { accessFlags := 2, nameIndex := 133, descriptorIndex := 134, attributes := #[] }, { accessFlags := 1, nameIndex := 133, descriptorIndex := 96, attributes := #[] }] 33 2 #[148, 329, 331, 333] #[{ accessFlags := 26, nameIndex := 335, descriptorIndex := 336, attributes := #[] }, { accessFlags := 26, nameIndex := 340, descriptorIndex := 51, attributes := #[] }, { accessFlags := 26, nameIndex := 17, descriptorIndex := 14, attributes := #[] }, { accessFlags := 26, nameIndex := 41, descriptorIndex := 14, attributes := #[] }, { accessFlags := 128, nameIndex := 13, descriptorIndex := 14, attributes := #[] }, { accessFlags := 2, nameIndex := 50, descriptorIndex := 51, attributes := #[] }])
  fields := #[{ name := "serialVersionUID", type := .long, accessFlags := 26, slot := 0, constantValue := 0 }, { name := "DEFAULT_CAPACITY", type := .int, accessFlags := 26, slot := 1, constantValue := 0 }, { name := "EMPTY_ELEMENTDATA", type := (.array (.object "java/lang/Object")), accessFlags := 26, slot := 2, constantValue := 0 }, { name := "DEFAULTCAPACITY_EMPTY_ELEMENTDATA", type := (.array (.object "java/lang/Object")), accessFlags := 26, slot := 3, constantValue := 0 }, { name := "elementData", type := (.array (.object "java/lang/Object")), accessFlags := 128, slot := 1, constantValue := 0 }, { name := "size", type := .int, accessFlags := 2, slot := 2, constantValue := 0 }]
  methods := #[k11m0, k11m1, k11m2, k11m3, k11m4, k11m5, k11m6]
  instanceTypes := #[.int, (.array (.object "java/lang/Object")), .int]
  staticTypes := #[.long, .int, (.array (.object "java/lang/Object")), (.array (.object "java/lang/Object"))]
  resolved := Array.replicate 509 none
  statics := some 0 }

def pool12 : Array CpInfo := pool [(1, .methodref 2 3), (0, .class_ 4), (0, .nameAndType 5 6), (0, u "java/lang/Object"), (0, u "<init>"), (0, u "()V"), (0, .class_ 8), (0, u "java/lang/Record")] 13

def k12c0 : Code := { maxStack := 1, maxLocals := 1, code := jdk_30_method_1_code, exceptionTable := #[], attributes := #[] }
def k12m0 : Method := { name := "<init>", desc := "()V", sig := { parameters := [], returnType := none }, accessFlags := 4, code := some k12c0 }
/-- java/lang/Record -/
def k12 : Class := { plain "java/lang/Record" (some 0) with
  accessFlags := 1057
  interfaces := #[]
  cf := some (fileOf pool12 7 #[] #[{ accessFlags := 4, nameIndex := 5, descriptorIndex := 6, attributes := #[] }] 1057 2 #[] #[])
  fields := #[]
  methods := #[k12m0]
  instanceTypes := #[]
  staticTypes := #[]
  resolved := Array.replicate 22 none
  statics := none }

def pool13 : Array CpInfo := pool [(1, .methodref 2 3), (0, .class_ 4), (0, .nameAndType 5 6), (0, u "java/lang/Record"), (0, u "<init>"), (0, u "()V"), (0, .fieldref 8 9), (0, .class_ 10), (0, .nameAndType 11 12), (0, u "com/example/kempt_cursor/kemptcursor/Keyed"), (0, u "key"), (0, u "Ljava/lang/Object;"), (0, .fieldref 8 14), (0, .nameAndType 15 12), (0, u "value"), (15, u "(Ljava/lang/Object;Ljava/lang/Object;)V")] 32

def k13c0 : Code := { maxStack := 2, maxLocals := 3, code := prog_16_method_1_code, exceptionTable := #[], attributes := #[] }
def k13m0 : Method := { name := "<init>", desc := "(Ljava/lang/Object;Ljava/lang/Object;)V", sig := { parameters := [(.object "java/lang/Object"), (.object "java/lang/Object")], returnType := none }, accessFlags := 1, code := some k13c0 }
/-- com/example/kempt_cursor/kemptcursor/Keyed -/
def k13 : Class := { plain "com/example/kempt_cursor/kemptcursor/Keyed" (some 12) with
  accessFlags := 49
  interfaces := #[]
  cf := some (fileOf pool13 8 #[] #[{ accessFlags := 1, nameIndex := 5, descriptorIndex := 31, attributes := #[] }] 49 2 #[] #[{ accessFlags := 18, nameIndex := 11, descriptorIndex := 12, attributes := #[] }, { accessFlags := 18, nameIndex := 15, descriptorIndex := 12, attributes := #[] }])
  fields := #[{ name := "key", type := (.object "java/lang/Object"), accessFlags := 18, slot := 0, constantValue := 0 }, { name := "value", type := (.object "java/lang/Object"), accessFlags := 18, slot := 1, constantValue := 0 }]
  methods := #[k13m0]
  instanceTypes := #[(.object "java/lang/Object"), (.object "java/lang/Object")]
  staticTypes := #[]
  resolved := Array.replicate 64 none
  statics := none }

def pool14 : Array CpInfo := pool [(1, .methodref 2 3), (0, .class_ 4), (0, .nameAndType 5 6), (0, u "java/lang/Object"), (0, u "<init>"), (0, u "()V"), (1, .class_ 10), (1, u "java/lang/Number"), (2, .class_ 14), (0, u "java/io/Serializable"), (0, u "serialVersionUID"), (0, u "J")] 20

def k14c0 : Code := { maxStack := 1, maxLocals := 1, code := jdk_18_method_1_code, exceptionTable := #[], attributes := #[] }
def k14m0 : Method := { name := "<init>", desc := "()V", sig := { parameters := [], returnType := none }, accessFlags := 1, code := some k14c0 }
/-- java/lang/Number -/
def k14 : Class := { plain "java/lang/Number" (some 0) with
  accessFlags := 1057
  interfaces := #[10]
  cf := some (fileOf pool14 8 #[] #[{ accessFlags := 1, nameIndex := 5, descriptorIndex := 6, attributes := #[] }] 1057 2 #[13] #[{ accessFlags := 26, nameIndex := 15, descriptorIndex := 16, attributes := #[] }])
  fields := #[{ name := "serialVersionUID", type := .long, accessFlags := 26, slot := 0, constantValue := 0 }]
  methods := #[k14m0]
  instanceTypes := #[]
  staticTypes := #[.long]
  resolved := Array.replicate 37 none
  statics := none }

def pool15 : Array CpInfo := pool [(1, .class_ 2), (0, u "java/lang/Comparable"), (0, .class_ 4), (0, u "java/lang/Object")] 7

/-- java/lang/Comparable -/
def k15 : Class := { plain "java/lang/Comparable" (some 0) with
  accessFlags := 1537
  interfaces := #[]
  cf := some (fileOf pool15 1 #[] #[] 1537 3 #[] #[])
  fields := #[]
  methods := #[]
  instanceTypes := #[]
  staticTypes := #[]
  resolved := Array.replicate 12 none
  statics := none }

def pool16 : Array CpInfo := pool [(1, .class_ 2), (0, u "java/lang/constant/Constable"), (0, .class_ 4), (0, u "java/lang/Object")] 6

/-- java/lang/constant/Constable -/
def k16 : Class := { plain "java/lang/constant/Constable" (some 0) with
  accessFlags := 1537
  interfaces := #[]
  cf := some (fileOf pool16 1 #[] #[] 1537 3 #[] #[])
  fields := #[]
  methods := #[]
  instanceTypes := #[]
  staticTypes := #[]
  resolved := Array.replicate 11 none
  statics := none }

def pool17 : Array CpInfo := pool [(1, .class_ 2), (0, u "java/lang/constant/ConstantDesc"), (0, .class_ 4), (0, u "java/lang/Object")] 32

/-- java/lang/constant/ConstantDesc -/
def k17 : Class := { plain "java/lang/constant/ConstantDesc" (some 0) with
  accessFlags := 1537
  interfaces := #[]
  cf := some (fileOf pool17 1 #[] #[] 1537 3 #[] #[])
  fields := #[]
  methods := #[]
  instanceTypes := #[]
  staticTypes := #[]
  resolved := Array.replicate 37 none
  statics := none }

def pool18 : Array CpInfo := pool [(1, .class_ 2), (0, u "java/lang/Integer"), (16, u "digits"), (0, u "[C"), (46, u "<init>"), (17, u "DigitOnes"), (0, u "[B"), (2, u "DigitTens"), (10, .nameAndType 67 101), (0, u "()V"), (85, u "valueOf"), (0, u "(I)Ljava/lang/Integer;"), (0, .class_ 190), (0, u "java/lang/Integer$IntegerCache"), (0, .fieldref 189 192), (0, .nameAndType 193 194), (0, u "high"), (0, u "I"), (0, .fieldref 189 196), (0, .nameAndType 197 198), (0, u "cache"), (0, u "[Ljava/lang/Integer;"), (0, .methodref 1 200), (0, .nameAndType 67 201), (0, u "(I)V"), (0, .methodref 203 100), (0, .class_ 204), (0, u "java/lang/Number"), (0, .fieldref 1 206), (0, .nameAndType 207 194), (0, u "value"), (94, u "TYPE"), (0, u "Ljava/lang/Class;"), (0, .class_ 305), (0, u "java/lang/Comparable"), (0, .class_ 307), (0, u "java/lang/constant/Constable"), (0, .class_ 309), (0, u "java/lang/constant/ConstantDesc"), (0, u "MIN_VALUE"), (1, u "MAX_VALUE"), (3, u "SIZE"), (1, u "BYTES"), (1, u "serialVersionUID"), (0, u "J")] 131

def k18c0 : Code := { maxStack := 3, maxLocals := 1, code := jdk_33_method_22_code, exceptionTable := #[], attributes := #[] }
def k18m0 : Method := { name := "valueOf", desc := "(I)Ljava/lang/Integer;", sig := { parameters := [.int], returnType := some (.object "java/lang/Integer") }, accessFlags := 9, code := some k18c0 }
def k18c1 : Code := { maxStack := 2, maxLocals := 2, code := jdk_33_method_23_code, exceptionTable := #[], attributes := #[] }
def k18m1 : Method := { name := "<init>", desc := "(I)V", sig := { parameters := [.int], returnType := none }, accessFlags := 1, code := some k18c1 }
/-- java/lang/Integer -/
def k18 : Class := { plain "java/lang/Integer" (some 14) with
  accessFlags := 49
  interfaces := #[15, 16, 17]
  cf := some (fileOf pool18 1 #[.nestMembers #[189]] #[{ accessFlags := 9, nameIndex := 187, descriptorIndex := 188, attributes := #[] }, { accessFlags := 1, nameIndex := 67, descriptorIndex := 201, attributes := #[] }] 49 203 #[304, 306, 308] #[{ accessFlags := 25, nameIndex := 310, descriptorIndex := 194, attributes := #[] }, { accessFlags := 25, nameIndex := 312, descriptorIndex := 194, attributes := #[] }, { accessFlags := 25, nameIndex := 302, descriptorIndex := 303, attributes := #[] }, { accessFlags := 24, nameIndex := 19, descriptorIndex := 20, attributes := #[] }, { accessFlags := 24, nameIndex := 89, descriptorIndex := 86, attributes := #[] }, { accessFlags := 24, nameIndex := 85, descriptorIndex := 86, attributes := #[] }, { accessFlags := 18, nameIndex := 207, descriptorIndex := 194, attributes := #[] }, { accessFlags := 25, nameIndex := 316, descriptorIndex := 194, attributes := #[] }, { accessFlags := 25, nameIndex := 318, descriptorIndex := 194, attributes := #[] }, { accessFlags := 26, nameIndex := 320, descriptorIndex := 321, attributes := #[] }])
  fields := #[{ name := "MIN_VALUE", type := .int, accessFlags := 25, slot := 0, constantValue := 0 }, { name := "MAX_VALUE", type := .int, accessFlags := 25, slot := 1, constantValue := 0 }, { name := "TYPE", type := (.object "java/lang/Class"), accessFlags := 25, slot := 2, constantValue := 0 }, { name := "digits", type := (.array .char), accessFlags := 24, slot := 3, constantValue := 0 }, { name := "DigitTens", type := (.array .byte), accessFlags := 24, slot := 4, constantValue := 0 }, { name := "DigitOnes", type := (.array .byte), accessFlags := 24, slot := 5, constantValue := 0 }, { name := "value", type := .int, accessFlags := 18, slot := 0, constantValue := 0 }, { name := "SIZE", type := .int, accessFlags := 25, slot := 6, constantValue := 0 }, { name := "BYTES", type := .int, accessFlags := 25, slot := 7, constantValue := 0 }, { name := "serialVersionUID", type := .long, accessFlags := 26, slot := 8, constantValue := 0 }]
  methods := #[k18m0, k18m1]
  instanceTypes := #[.int]
  staticTypes := #[.int, .int, (.object "java/lang/Class"), (.array .char), (.array .byte), (.array .byte), .int, .int, .long]
  resolved := Array.replicate 453 none
  statics := none }

def pool19 : Array CpInfo := pool [(2, .class_ 4), (1, u "java/lang/Object"), (0, u "<init>"), (0, u "()V"), (0, .class_ 8), (0, u "java/lang/Integer"), (7, .class_ 18), (1, u "java/lang/Integer$IntegerCache"), (0, u "$assertionsDisabled"), (0, u "Z"), (26, u "high"), (0, u "I"), (8, u "archivedCache"), (0, u "[Ljava/lang/Integer;"), (12, u "cache"), (0, u "low")] 27

def k19m0 : Method := { name := "<init>", desc := "()V", sig := { parameters := [], returnType := none }, accessFlags := 2, code := none }
/-- java/lang/Integer$IntegerCache -/
def k19 : Class := { plain "java/lang/Integer$IntegerCache" (some 0) with
  accessFlags := 48
  interfaces := #[]
  cf := some (fileOf pool19 16 #[.nestHost 7] #[{ accessFlags := 2, nameIndex := 5, descriptorIndex := 6, attributes := #[] }] 48 2 #[] #[{ accessFlags := 24, nameIndex := 72, descriptorIndex := 48, attributes := #[] }, { accessFlags := 24, nameIndex := 47, descriptorIndex := 48, attributes := #[] }, { accessFlags := 24, nameIndex := 71, descriptorIndex := 58, attributes := #[] }, { accessFlags := 8, nameIndex := 57, descriptorIndex := 58, attributes := #[] }, { accessFlags := 4120, nameIndex := 19, descriptorIndex := 20, attributes := #[] }])
  fields := #[{ name := "low", type := .int, accessFlags := 24, slot := 0, constantValue := 0 }, { name := "high", type := .int, accessFlags := 24, slot := 1, constantValue := 0 }, { name := "cache", type := (.array (.object "java/lang/Integer")), accessFlags := 24, slot := 2, constantValue := 0 }, { name := "archivedCache", type := (.array (.object "java/lang/Integer")), accessFlags := 8, slot := 3, constantValue := 0 }, { name := "$assertionsDisabled", type := .boolean, accessFlags := 4120, slot := 4, constantValue := 0 }]
  methods := #[k19m0]
  instanceTypes := #[]
  staticTypes := #[.int, .int, (.array (.object "java/lang/Integer")), (.array (.object "java/lang/Integer")), .boolean]
  resolved := Array.replicate 100 none
  statics := some 1 }

def pool20 : Array CpInfo := pool [(1, .class_ 2), (0, u "java/lang/Math"), (1, .class_ 6), (1, u "java/lang/Object"), (0, u "<init>"), (0, u "()V"), (89, .class_ 100), (1, u "java/lang/Math$RandomNumberGeneratorHolder"), (71, u "negativeZeroFloatBits"), (0, u "J"), (2, u "negativeZeroDoubleBits"), (21, u "max"), (2, u "min"), (43, u "$assertionsDisabled"), (0, u "Z"), (88, u "(II)I"), (2, u "twoToTheDoubleScaleDown"), (0, u "D"), (4, u "twoToTheDoubleScaleUp"), (9, u "E"), (3, u "PI"), (2, u "TAU"), (2, u "DEGREES_TO_RADIANS"), (0, u "RADIANS_TO_DEGREES")] 94

def k20m0 : Method := { name := "<init>", desc := "()V", sig := { parameters := [], returnType := none }, accessFlags := 2, code := none }
def k20c1 : Code := { maxStack := 2, maxLocals := 2, code := jdk_29_method_65_code, exceptionTable := #[], attributes := #[] }
def k20m1 : Method := { name := "max", desc := "(II)I", sig := { parameters := [.int, .int], returnType := some .int }, accessFlags := 9, code := some k20c1 }
def k20c2 : Code := { maxStack := 2, maxLocals := 2, code := jdk_29_method_69_code, exceptionTable := #[], attributes := #[] }
def k20m2 : Method := { name := "min", desc := "(II)I", sig := { parameters := [.int, .int], returnType := some .int }, accessFlags := 9, code := some k20c2 }
/-- java/lang/Math -/
def k20 : Class := { plain "java/lang/Math" (some 0) with
  accessFlags := 49
  interfaces := #[]
  cf := some (fileOf pool20 1 #[.nestMembers #[98]] #[{ accessFlags := 2, nameIndex := 7, descriptorIndex := 8, attributes := #[] }, { accessFlags := 9, nameIndex := 198, descriptorIndex := 335, attributes := #[] }, { accessFlags := 9, nameIndex := 201, descriptorIndex := 335, attributes := #[] }] 49 4 #[] #[{ accessFlags := 25, nameIndex := 354, descriptorIndex := 339, attributes := #[] }, { accessFlags := 25, nameIndex := 358, descriptorIndex := 339, attributes := #[] }, { accessFlags := 25, nameIndex := 361, descriptorIndex := 339, attributes := #[] }, { accessFlags := 26, nameIndex := 364, descriptorIndex := 339, attributes := #[] }, { accessFlags := 26, nameIndex := 365, descriptorIndex := 339, attributes := #[] }, { accessFlags := 26, nameIndex := 172, descriptorIndex := 173, attributes := #[] }, { accessFlags := 26, nameIndex := 176, descriptorIndex := 173, attributes := #[] }, { accessFlags := 8, nameIndex := 344, descriptorIndex := 339, attributes := #[] }, { accessFlags := 8, nameIndex := 338, descriptorIndex := 339, attributes := #[] }, { accessFlags := 4120, nameIndex := 245, descriptorIndex := 246, attributes := #[] }])
  fields := #[{ name := "E", type := .double, accessFlags := 25, slot := 0, constantValue := 0 }, { name := "PI", type := .double, accessFlags := 25, slot := 1, constantValue := 0 }, { name := "TAU", type := .double, accessFlags := 25, slot := 2, constantValue := 0 }, { name := "DEGREES_TO_RADIANS", type := .double, accessFlags := 26, slot := 3, constantValue := 0 }, { name := "RADIANS_TO_DEGREES", type := .double, accessFlags := 26, slot := 4, constantValue := 0 }, { name := "negativeZeroFloatBits", type := .long, accessFlags := 26, slot := 5, constantValue := 0 }, { name := "negativeZeroDoubleBits", type := .long, accessFlags := 26, slot := 6, constantValue := 0 }, { name := "twoToTheDoubleScaleUp", type := .double, accessFlags := 8, slot := 7, constantValue := 0 }, { name := "twoToTheDoubleScaleDown", type := .double, accessFlags := 8, slot := 8, constantValue := 0 }, { name := "$assertionsDisabled", type := .boolean, accessFlags := 4120, slot := 9, constantValue := 0 }]
  methods := #[k20m0, k20m1, k20m2]
  instanceTypes := #[]
  staticTypes := #[.double, .double, .double, .double, .double, .long, .long, .double, .double, .boolean]
  resolved := Array.replicate 460 none
  statics := none }

def pool21 : Array CpInfo := pool [(1, .methodref 2 3), (0, .class_ 4), (0, .nameAndType 5 6), (0, u "java/lang/Record"), (0, u "<init>"), (0, u "()V"), (0, .interfaceMethodref 8 9), (0, .class_ 10), (0, .nameAndType 11 12), (0, u "java/util/List"), (0, u "copyOf"), (0, u "(Ljava/util/Collection;)Ljava/util/List;"), (0, .fieldref 14 15), (0, .class_ 16), (0, .nameAndType 17 18), (0, u "com/example/kempt_cursor/kemptcursor/Page"), (0, u "items"), (0, u "Ljava/util/List;"), (0, .fieldref 14 20), (0, .nameAndType 21 22), (0, u "index"), (0, u "I"), (0, .fieldref 14 24), (0, .nameAndType 25 22), (0, u "count"), (22, u "(Ljava/util/List;II)V"), (43, u "()Z"), (1, u "reachesStart")] 44

def k21c0 : Code := { maxStack := 2, maxLocals := 4, code := prog_18_method_1_code, exceptionTable := #[], attributes := #[] }
def k21m0 : Method := { name := "<init>", desc := "(Ljava/util/List;II)V", sig := { parameters := [(.object "java/util/List"), .int, .int], returnType := none }, accessFlags := 1, code := some k21c0 }
def k21c1 : Code := { maxStack := 1, maxLocals := 1, code := prog_18_method_3_code, exceptionTable := #[], attributes := #[] }
def k21m1 : Method := { name := "reachesStart", desc := "()Z", sig := { parameters := [], returnType := some .boolean }, accessFlags := 1, code := some k21c1 }
/-- com/example/kempt_cursor/kemptcursor/Page -/
def k21 : Class := { plain "com/example/kempt_cursor/kemptcursor/Page" (some 12) with
  accessFlags := 49
  interfaces := #[]
  cf := some (fileOf pool21 14 #[] #[{ accessFlags := 1, nameIndex := 5, descriptorIndex := 48, attributes := #[] }, { accessFlags := 1, nameIndex := 94, descriptorIndex := 92, attributes := #[] }] 49 2 #[] #[{ accessFlags := 18, nameIndex := 17, descriptorIndex := 18, attributes := #[] }, { accessFlags := 18, nameIndex := 21, descriptorIndex := 22, attributes := #[] }, { accessFlags := 18, nameIndex := 25, descriptorIndex := 22, attributes := #[] }])
  fields := #[{ name := "items", type := (.object "java/util/List"), accessFlags := 18, slot := 0, constantValue := 0 }, { name := "index", type := .int, accessFlags := 18, slot := 1, constantValue := 0 }, { name := "count", type := .int, accessFlags := 18, slot := 2, constantValue := 0 }]
  methods := #[k21m0, k21m1]
  instanceTypes := #[(.object "java/util/List"), .int, .int]
  staticTypes := #[]
  resolved := Array.replicate 139 none
  statics := none }

def pool22 : Array CpInfo := pool [(2, .class_ 4), (1, u "java/lang/Object"), (0, u "<init>"), (0, u "()V"), (3, .class_ 11), (0, u "java/util/ImmutableCollections$List12"), (0, .class_ 13), (0, u "java/util/ImmutableCollections$ListN"), (3, u "Z"), (0, .class_ 19), (0, u "java/util/List"), (0, .interfaceMethodref 21 22), (0, .class_ 23), (0, .nameAndType 24 25), (0, u "java/util/Collection"), (0, u "isEmpty"), (0, u "()Z"), (0, .interfaceMethodref 18 27), (0, .nameAndType 28 29), (0, u "of"), (0, u "()Ljava/util/List;"), (0, .interfaceMethodref 21 31), (0, .nameAndType 32 33), (0, u "toArray"), (0, u "()[Ljava/lang/Object;"), (0, .interfaceMethodref 18 35), (0, .nameAndType 28 36), (0, u "([Ljava/lang/Object;)Ljava/util/List;"), (0, .methodref 38 39), (0, .class_ 40), (0, .nameAndType 41 42), (0, u "java/util/Objects"), (0, u "requireNonNull"), (0, u "(Ljava/lang/Object;)Ljava/lang/Object;"), (0, .methodref 12 44), (0, .nameAndType 5 45), (0, u "([Ljava/lang/Object;Z)V"), (1, .class_ 49), (1, u "java/util/ImmutableCollections"), (0, u "$assertionsDisabled"), (5, u "[Ljava/lang/Object;"), (5, u "EMPTY_LIST"), (0, u "Ljava/util/ImmutableCollections$ListN;"), (8, u "EMPTY_LIST_NULLS"), (22, u "SALT32L"), (0, u "J"), (2, u "REVERSE"), (6, u "archivedObjects"), (2, u "EMPTY"), (0, u "Ljava/lang/Object;"), (0, .class_ 112), (0, u "java/util/ImmutableCollections$SetN"), (5, u "EMPTY_SET"), (0, u "Ljava/util/ImmutableCollections$SetN;"), (0, .class_ 121), (0, u "java/util/ImmutableCollections$MapN"), (3, u "EMPTY_MAP"), (0, u "Ljava/util/ImmutableCollections$MapN;"), (4, u "EXPAND_FACTOR"), (0, u "I"), (9, u "listCopy"), (0, u "(Ljava/util/Collection;)Ljava/util/List;"), (7, u "listFromArray"), (17, .class_ 170), (0, u "java/util/ImmutableCollections$MapN$MapNIterator"), (0, .class_ 172), (0, u "java/util/ImmutableCollections$MapN$1"), (0, .class_ 174), (0, u "java/util/ImmutableCollections$Map1"), (0, .class_ 176), (0, u "java/util/ImmutableCollections$AbstractImmutableMap"), (0, .class_ 178), (0, u "java/util/ImmutableCollections$SetN$SetNIterator"), (0, .class_ 180), (0, u "java/util/ImmutableCollections$Set12"), (0, .class_ 182), (0, u "java/util/ImmutableCollections$Set12$1"), (0, .class_ 184), (0, u "java/util/ImmutableCollections$AbstractImmutableSet"), (0, .class_ 186), (0, u "java/util/ImmutableCollections$SubList"), (0, .class_ 188), (0, u "java/util/ImmutableCollections$ListItr"), (0, .class_ 190), (0, u "java/util/ImmutableCollections$AbstractImmutableList"), (0, .class_ 192), (0, u "java/util/ImmutableCollections$AbstractImmutableCollection"), (0, .class_ 194), (0, u "java/util/ImmutableCollections$Access"), (0, .class_ 196), (0, u "java/util/ImmutableCollections$Access$1")] 16

def k22m0 : Method := { name := "<init>", desc := "()V", sig := { parameters := [], returnType := none }, accessFlags := 2, code := none }
def k22c1 : Code := { maxStack := 1, maxLocals := 2, code := jdk_56_method_3_code, exceptionTable := #[], attributes := #[] }
def k22m1 : Method := { name := "listCopy", desc := "(Ljava/util/Collection;)Ljava/util/List;", sig := { parameters := [(.object "java/util/Collection")], returnType := some (.object "java/util/List") }, accessFlags := 8, code := some k22c1 }
def k22c2 : Code := { maxStack := 4, maxLocals := 3, code := jdk_56_method_4_code, exceptionTable := #[], attributes := #[] }
def k22m2 : Method := { name := "listFromArray", desc := "([Ljava/lang/Object;)Ljava/util/List;", sig := { parameters := [(.array (.object "java/lang/Object"))], returnType := some (.object "java/util/List") }, accessFlags := 136, code := some k22c2 }
/-- java/util/ImmutableCollections -/
def k22 : Class := { plain "java/util/ImmutableCollections" (some 0) with
  accessFlags := 32
  interfaces := #[]
  cf := some (fileOf pool22 47 #[.nestMembers #[120, 169, 171, 173, 175, 111, 177, 179, 181, 183, 12, 10, 185, 187, 189, 191, 193, 195]] #[{ accessFlags := 2, nameIndex := 5, descriptorIndex := 6, attributes := #[] }, { accessFlags := 8, nameIndex := 142, descriptorIndex := 143, attributes := #[] }, { accessFlags := 136, nameIndex := 151, descriptorIndex := 36, attributes := #[] }] 32 2 #[] #[{ accessFlags := 26, nameIndex := 95, descriptorIndex := 96, attributes := #[] }, { accessFlags := 26, nameIndex := 99, descriptorIndex := 17, attributes := #[] }, { accessFlags := 10, nameIndex := 106, descriptorIndex := 56, attributes := #[] }, { accessFlags := 26, nameIndex := 109, descriptorIndex := 110, attributes := #[] }, { accessFlags := 24, nameIndex := 62, descriptorIndex := 63, attributes := #[] }, { accessFlags := 24, nameIndex := 72, descriptorIndex := 63, attributes := #[] }, { accessFlags := 24, nameIndex := 118, descriptorIndex := 119, attributes := #[] }, { accessFlags := 24, nameIndex := 125, descriptorIndex := 126, attributes := #[] }, { accessFlags := 24, nameIndex := 131, descriptorIndex := 132, attributes := #[] }, { accessFlags := 4120, nameIndex := 50, descriptorIndex := 17, attributes := #[] }])
  fields := #[{ name := "SALT32L", type := .long, accessFlags := 26, slot := 0, constantValue := 0 }, { name := "REVERSE", type := .boolean, accessFlags := 26, slot := 1, constantValue := 0 }, { name := "archivedObjects", type := (.array (.object "java/lang/Object")), accessFlags := 10, slot := 2, constantValue := 0 }, { name := "EMPTY", type := (.object "java/lang/Object"), accessFlags := 26, slot := 3, constantValue := 0 }, { name := "EMPTY_LIST", type := (.object "java/util/ImmutableCollections$ListN"), accessFlags := 24, slot := 4, constantValue := 0 }, { name := "EMPTY_LIST_NULLS", type := (.object "java/util/ImmutableCollections$ListN"), accessFlags := 24, slot := 5, constantValue := 0 }, { name := "EMPTY_SET", type := (.object "java/util/ImmutableCollections$SetN"), accessFlags := 24, slot := 6, constantValue := 0 }, { name := "EMPTY_MAP", type := (.object "java/util/ImmutableCollections$MapN"), accessFlags := 24, slot := 7, constantValue := 0 }, { name := "EXPAND_FACTOR", type := .int, accessFlags := 24, slot := 8, constantValue := 0 }, { name := "$assertionsDisabled", type := .boolean, accessFlags := 4120, slot := 9, constantValue := 0 }]
  methods := #[k22m0, k22m1, k22m2]
  instanceTypes := #[]
  staticTypes := #[.long, .boolean, (.array (.object "java/lang/Object")), (.object "java/lang/Object"), (.object "java/util/ImmutableCollections$ListN"), (.object "java/util/ImmutableCollections$ListN"), (.object "java/util/ImmutableCollections$SetN"), (.object "java/util/ImmutableCollections$MapN"), .int, .boolean]
  resolved := Array.replicate 213 none
  statics := some 2 }

def pool23 : Array CpInfo := pool [(1, .methodref 2 3), (0, .class_ 4), (0, .nameAndType 5 6), (0, u "java/util/AbstractCollection"), (0, u "<init>"), (0, u "()V"), (1, .class_ 10), (1, u "java/util/ImmutableCollections"), (2, .class_ 14), (0, u "java/util/ImmutableCollections$AbstractImmutableCollection")] 41

def k23c0 : Code := { maxStack := 1, maxLocals := 1, code := jdk_47_method_1_code, exceptionTable := #[], attributes := #[] }
def k23m0 : Method := { name := "<init>", desc := "()V", sig := { parameters := [], returnType := none }, accessFlags := 0, code := some k23c0 }
/-- java/util/ImmutableCollections$AbstractImmutableCollection -/
def k23 : Class := { plain "java/util/ImmutableCollections$AbstractImmutableCollection" (some 4) with
  accessFlags := 1056
  interfaces := #[]
  cf := some (fileOf pool23 13 #[.nestHost 8] #[{ accessFlags := 0, nameIndex := 5, descriptorIndex := 6, attributes := #[] }] 1056 2 #[] #[])
  fields := #[]
  methods := #[k23m0]
  instanceTypes := #[]
  staticTypes := #[]
  resolved := Array.replicate 56 none
  statics := none }

def pool24 : Array CpInfo := pool [(1, .methodref 2 3), (0, .class_ 4), (0, .nameAndType 5 6), (0, u "java/util/ImmutableCollections$AbstractImmutableCollection"), (0, u "<init>"), (0, u "()V"), (1, .class_ 10), (1, u "java/util/ImmutableCollections"), (3, .class_ 16), (1, u "java/util/ImmutableCollections$AbstractImmutableList"), (60, .class_ 78), (0, u "java/util/List"), (45, .class_ 125), (0, u "java/util/RandomAccess")] 70

def k24c0 : Code := { maxStack := 1, maxLocals := 1, code := jdk_46_method_1_code, exceptionTable := #[], attributes := #[] }
def k24m0 : Method := { name := "<init>", desc := "()V", sig := { parameters := [], returnType := none }, accessFlags := 0, code := some k24c0 }
/-- java/util/ImmutableCollections$AbstractImmutableList -/
def k24 : Class := { plain "java/util/ImmutableCollections$AbstractImmutableList" (some 23) with
  accessFlags := 1056
  interfaces := #[6, 8]
  cf := some (fileOf pool24 14 #[.nestHost 8] #[{ accessFlags := 0, nameIndex := 5, descriptorIndex := 6, attributes := #[] }] 1056 2 #[77, 124] #[])
  fields := #[]
  methods := #[k24m0]
  instanceTypes := #[]
  staticTypes := #[]
  resolved := Array.replicate 196 none
  statics := none }

def pool25 : Array CpInfo := pool [(1, .methodref 2 3), (0, .class_ 4), (0, .nameAndType 5 6), (0, u "java/util/ImmutableCollections$AbstractImmutableList"), (0, u "<init>"), (0, u "()V"), (0, .methodref 8 9), (0, .class_ 10), (0, .nameAndType 11 12), (0, u "java/util/Objects"), (0, u "requireNonNull"), (0, u "(Ljava/lang/Object;)Ljava/lang/Object;"), (0, .fieldref 14 15), (0, .class_ 16), (0, .nameAndType 17 18), (0, u "java/util/ImmutableCollections$List12"), (0, u "e0"), (0, u "Ljava/lang/Object;"), (0, .fieldref 20 21), (0, .class_ 22), (0, .nameAndType 23 18), (0, u "java/util/ImmutableCollections"), (0, u "EMPTY"), (0, .fieldref 14 25), (0, .nameAndType 26 18), (0, u "e1"), (43, .class_ 71), (0, u "java/io/Serializable"), (4, u "(Ljava/lang/Object;)V"), (8, u "(Ljava/lang/Object;Ljava/lang/Object;)V")] 39

def k25c0 : Code := { maxStack := 2, maxLocals := 2, code := jdk_44_method_1_code, exceptionTable := #[], attributes := #[] }
def k25m0 : Method := { name := "<init>", desc := "(Ljava/lang/Object;)V", sig := { parameters := [(.object "java/lang/Object")], returnType := none }, accessFlags := 0, code := some k25c0 }
def k25c1 : Code := { maxStack := 2, maxLocals := 3, code := jdk_44_method_2_code, exceptionTable := #[], attributes := #[] }
def k25m1 : Method := { name := "<init>", desc := "(Ljava/lang/Object;Ljava/lang/Object;)V", sig := { parameters := [(.object "java/lang/Object"), (.object "java/lang/Object")], returnType := none }, accessFlags := 0, code := some k25c1 }
/-- java/util/ImmutableCollections$List12 -/
def k25 : Class := { plain "java/util/ImmutableCollections$List12" (some 24) with
  accessFlags := 48
  interfaces := #[10]
  cf := some (fileOf pool25 14 #[.nestHost 20] #[{ accessFlags := 0, nameIndex := 5, descriptorIndex := 76, attributes := #[] }, { accessFlags := 0, nameIndex := 5, descriptorIndex := 85, attributes := #[] }] 48 2 #[70] #[{ accessFlags := 18, nameIndex := 17, descriptorIndex := 18, attributes := #[] }, { accessFlags := 18, nameIndex := 26, descriptorIndex := 18, attributes := #[] }])
  fields := #[{ name := "e0", type := (.object "java/lang/Object"), accessFlags := 18, slot := 0, constantValue := 0 }, { name := "e1", type := (.object "java/lang/Object"), accessFlags := 18, slot := 1, constantValue := 0 }]
  methods := #[k25m0, k25m1]
  instanceTypes := #[(.object "java/lang/Object"), (.object "java/lang/Object")]
  staticTypes := #[]
  resolved := Array.replicate 125 none
  statics := none }

def pool26 : Array CpInfo := pool [(1, .methodref 2 3), (0, .class_ 4), (0, .nameAndType 5 6), (0, u "java/util/ImmutableCollections$AbstractImmutableList"), (0, u "<init>"), (0, u "()V"), (0, .fieldref 8 9), (0, .class_ 10), (0, .nameAndType 11 12), (0, u "java/util/ImmutableCollections$ListN"), (0, u "elements"), (0, u "[Ljava/lang/Object;"), (0, .fieldref 8 14), (0, .nameAndType 15 16), (0, u "allowNulls"), (0, u "Z"), (42, .class_ 60), (0, u "java/io/Serializable"), (4, u "([Ljava/lang/Object;Z)V"), (48, .class_ 115), (0, u "java/util/ImmutableCollections")] 3

def k26c0 : Code := { maxStack := 2, maxLocals := 3, code := jdk_45_method_1_code, exceptionTable := #[], attributes := #[] }
def k26m0 : Method := { name := "<init>", desc := "([Ljava/lang/Object;Z)V", sig := { parameters := [(.array (.object "java/lang/Object")), .boolean], returnType := none }, accessFlags := 2, code := some k26c0 }
/-- java/util/ImmutableCollections$ListN -/
def k26 : Class := { plain "java/util/ImmutableCollections$ListN" (some 24) with
  accessFlags := 48
  interfaces := #[10]
  cf := some (fileOf pool26 8 #[.nestHost 114] #[{ accessFlags := 2, nameIndex := 5, descriptorIndex := 65, attributes := #[] }] 48 2 #[59] #[{ accessFlags := 18, nameIndex := 11, descriptorIndex := 12, attributes := #[] }, { accessFlags := 18, nameIndex := 15, descriptorIndex := 16, attributes := #[] }])
  fields := #[{ name := "elements", type := (.array (.object "java/lang/Object")), accessFlags := 18, slot := 0, constantValue := 0 }, { name := "allowNulls", type := .boolean, accessFlags := 18, slot := 1, constantValue := 0 }]
  methods := #[k26m0]
  instanceTypes := #[(.array (.object "java/lang/Object")), .boolean]
  staticTypes := #[]
  resolved := Array.replicate 119 none
  statics := none }

def pool27 : Array CpInfo := pool [(2, .class_ 4), (1, u "java/lang/Object"), (0, u "<init>"), (0, u "()V"), (7, .class_ 16), (1, u "java/util/Arrays"), (57, .class_ 76), (1, u "java/util/Arrays$NaturalOrder"), (9, .methodref 2 87), (0, .nameAndType 88 89), (0, u "getClass"), (0, u "()Ljava/lang/Class;"), (20, .class_ 111), (0, u "[Ljava/lang/Object;"), (1, .class_ 115), (1, u "java/util/Arrays$LegacyMergeSort"), (1, u "Z"), (32, .methodref 151 152), (0, .class_ 153), (0, .nameAndType 154 155), (0, u "java/lang/System"), (0, u "arraycopy"), (0, u "(Ljava/lang/Object;ILjava/lang/Object;II)V"), (144, .methodref 14 301), (0, .nameAndType 302 303), (0, u "copyOf"), (0, u "([Ljava/lang/Object;ILjava/lang/Class;)[Ljava/lang/Object;"), (0, .methodref 305 306), (0, .class_ 307), (0, .nameAndType 308 309), (0, u "java/lang/Math"), (0, u "min"), (0, u "(II)I"), (65, .class_ 376), (0, u "java/util/Arrays$ArrayList"), (68, u "$assertionsDisabled"), (269, u "MIN_ARRAY_SORT_GRAN"), (0, u "I"), (2, u "INSERTIONSORT_THRESHOLD"), (140, u "([Ljava/lang/Object;I)[Ljava/lang/Object;"), (114, .class_ 976), (0, u "java/util/Arrays$ArrayItr")] 52

def k27m0 : Method := { name := "<init>", desc := "()V", sig := { parameters := [], returnType := none }, accessFlags := 2, code := none }
def k27c1 : Code := { maxStack := 3, maxLocals := 2, code := jdk_65_method_119_code, exceptionTable := #[], attributes := #[] }
def k27m1 : Method := { name := "copyOf", desc := "([Ljava/lang/Object;I)[Ljava/lang/Object;", sig := { parameters := [(.array (.object "java/lang/Object")), .int], returnType := some (.array (.object "java/lang/Object")) }, accessFlags := 9, code := some k27c1 }
def k27c2 : Code := { maxStack := 6, maxLocals := 4, code := jdk_65_method_120_code, exceptionTable := #[], attributes := #[] }
def k27m2 : Method := { name := "copyOf", desc := "([Ljava/lang/Object;ILjava/lang/Class;)[Ljava/lang/Object;", sig := { parameters := [(.array (.object "java/lang/Object")), .int, (.object "java/lang/Class")], returnType := some (.array (.object "java/lang/Object")) }, accessFlags := 9, code := some k27c2 }
/-- java/util/Arrays -/
def k27 : Class := { plain "java/util/Arrays" (some 0) with
  accessFlags := 49
  interfaces := #[]
  cf := some (fileOf pool27 14 #[.nestMembers #[975, 375, 113, 74]] #[{ accessFlags := 2, nameIndex := 5, descriptorIndex := 6, attributes := #[] }, { accessFlags := 9, nameIndex := 302, descriptorIndex := 860, attributes := #[] }, { accessFlags := 9, nameIndex := 302, descriptorIndex := 303, attributes := #[] }] 49 2 #[] #[{ accessFlags := 26, nameIndex := 715, descriptorIndex := 716, attributes := #[] }, { accessFlags := 26, nameIndex := 719, descriptorIndex := 716, attributes := #[] }, { accessFlags := 4120, nameIndex := 445, descriptorIndex := 117, attributes := #[] }])
  fields := #[{ name := "MIN_ARRAY_SORT_GRAN", type := .int, accessFlags := 26, slot := 0, constantValue := 0 }, { name := "INSERTIONSORT_THRESHOLD", type := .int, accessFlags := 26, slot := 1, constantValue := 0 }, { name := "$assertionsDisabled", type := .boolean, accessFlags := 4120, slot := 2, constantValue := 0 }]
  methods := #[k27m0, k27m1, k27m2]
  instanceTypes := #[]
  staticTypes := #[.int, .int, .boolean]
  resolved := Array.replicate 1029 none
  statics := none }

def pool28 : Array CpInfo := pool [(2, .class_ 4), (1, u "java/lang/Object"), (0, u "<init>"), (0, u "()V"), (1, .class_ 10), (1, u "java/lang/System"), (0, u "allowSecurityManager"), (0, u "I"), (16, u "cons"), (0, u "Ljava/io/Console;"), (77, .class_ 110), (1, u "java/lang/System$CallersHolder"), (43, u "initialErrStream"), (0, u "Ljava/io/PrintStream;"), (19, u "security"), (0, u "Ljava/lang/SecurityManager;"), (31, .class_ 209), (0, u "java/lang/System$1"), (7, u "props"), (0, u "Ljava/util/Properties;"), (2, u "lineSeparator"), (0, u "Ljava/lang/String;"), (96, .class_ 321), (1, u "java/lang/System$LoggerFinder"), (5, .class_ 328), (0, u "java/lang/System$Logger"), (67, u "err"), (2, u "out"), (91, u "notSupportedJnuEncoding"), (15, u "in"), (17, u "initialIn"), (0, u "Ljava/io/InputStream;"), (35, u "bootLayer"), (0, u "Ljava/lang/ModuleLayer;"), (99, .class_ 664), (0, u "java/lang/System$2"), (9, u "NEVER"), (2, u "MAYBE"), (49, u "arraycopy"), (0, u "(Ljava/lang/Object;ILjava/lang/Object;II)V"), (72, .class_ 802), (0, u "java/lang/System$Logger$Level")] 31

def k28m0 : Method := { name := "<init>", desc := "()V", sig := { parameters := [], returnType := none }, accessFlags := 2, code := none }
def k28m1 : Method := { name := "arraycopy", desc := "(Ljava/lang/Object;ILjava/lang/Object;II)V", sig := { parameters := [(.object "java/lang/Object"), .int, (.object "java/lang/Object"), .int, .int], returnType := none }, accessFlags := 265, code := none }
/-- java/lang/System -/
def k28 : Class := { plain "java/lang/System" (some 0) with
  accessFlags := 49
  interfaces := #[]
  cf := some (fileOf pool28 8 #[.nestMembers #[319, 327, 801, 108, 663, 208]] #[{ accessFlags := 2, nameIndex := 5, descriptorIndex := 6, attributes := #[] }, { accessFlags := 265, nameIndex := 727, descriptorIndex := 728, attributes := #[] }] 49 2 #[] #[{ accessFlags := 25, nameIndex := 507, descriptorIndex := 526, attributes := #[] }, { accessFlags := 25, nameIndex := 399, descriptorIndex := 155, attributes := #[] }, { accessFlags := 25, nameIndex := 396, descriptorIndex := 155, attributes := #[] }, { accessFlags := 10, nameIndex := 525, descriptorIndex := 526, attributes := #[] }, { accessFlags := 26, nameIndex := 674, descriptorIndex := 12, attributes := #[] }, { accessFlags := 26, nameIndex := 677, descriptorIndex := 12, attributes := #[] }, { accessFlags := 10, nameIndex := 11, descriptorIndex := 12, attributes := #[] }, { accessFlags := 74, nameIndex := 175, descriptorIndex := 176, attributes := #[] }, { accessFlags := 10, nameIndex := 491, descriptorIndex := 222, attributes := #[] }, { accessFlags := 74, nameIndex := 29, descriptorIndex := 30, attributes := #[] }, { accessFlags := 74, nameIndex := 154, descriptorIndex := 155, attributes := #[] }, { accessFlags := 10, nameIndex := 217, descriptorIndex := 218, attributes := #[] }, { accessFlags := 10, nameIndex := 221, descriptorIndex := 222, attributes := #[] }, { accessFlags := 8, nameIndex := 562, descriptorIndex := 563, attributes := #[] }])
  fields := #[{ name := "in", type := (.object "java/io/InputStream"), accessFlags := 25, slot := 0, constantValue := 0 }, { name := "out", type := (.object "java/io/PrintStream"), accessFlags := 25, slot := 1, constantValue := 0 }, { name := "err", type := (.object "java/io/PrintStream"), accessFlags := 25, slot := 2, constantValue := 0 }, { name := "initialIn", type := (.object "java/io/InputStream"), accessFlags := 10, slot := 3, constantValue := 0 }, { name := "NEVER", type := .int, accessFlags := 26, slot := 4, constantValue := 0 }, { name := "MAYBE", type := .int, accessFlags := 26, slot := 5, constantValue := 0 }, { name := "allowSecurityManager", type := .int, accessFlags := 10, slot := 6, constantValue := 0 }, { name := "security", type := (.object "java/lang/SecurityManager"), accessFlags := 74, slot := 7, constantValue := 0 }, { name := "notSupportedJnuEncoding", type := (.object "java/lang/String"), accessFlags := 10, slot := 8, constantValue := 0 }, { name := "cons", type := (.object "java/io/Console"), accessFlags := 74, slot := 9, constantValue := 0 }, { name := "initialErrStream", type := (.object "java/io/PrintStream"), accessFlags := 74, slot := 10, constantValue := 0 }, { name := "props", type := (.object "java/util/Properties"), accessFlags := 10, slot := 11, constantValue := 0 }, { name := "lineSeparator", type := (.object "java/lang/String"), accessFlags := 10, slot := 12, constantValue := 0 }, { name := "bootLayer", type := (.object "java/lang/ModuleLayer"), accessFlags := 8, slot := 13, constantValue := 0 }]
  methods := #[k28m0, k28m1]
  instanceTypes := #[]
  staticTypes := #[(.object "java/io/InputStream"), (.object "java/io/PrintStream"), (.object "java/io/PrintStream"), (.object "java/io/InputStream"), .int, .int, .int, (.object "java/lang/SecurityManager"), (.object "java/lang/String"), (.object "java/io/Console"), (.object "java/io/PrintStream"), (.object "java/util/Properties"), (.object "java/lang/String"), (.object "java/lang/ModuleLayer")]
  resolved := Array.replicate 834 none
  statics := none }

def pool29 : Array CpInfo := pool [(2, .class_ 4), (1, u "java/lang/Object"), (0, u "<init>"), (0, u "()V"), (35, .class_ 44), (1, u "java/util/Objects"), (0, u "requireNonNull"), (0, u "(Ljava/lang/Object;)Ljava/lang/Object;")] 137

def k29m0 : Method := { name := "<init>", desc := "()V", sig := { parameters := [], returnType := none }, accessFlags := 2, code := none }
def k29c1 : Code := { maxStack := 2, maxLocals := 1, code := jdk_31_method_10_code, exceptionTable := #[], attributes := #[] }
def k29m1 : Method := { name := "requireNonNull", desc := "(Ljava/lang/Object;)Ljava/lang/Object;", sig := { parameters := [(.object "java/lang/Object")], returnType := some (.object "java/lang/Object") }, accessFlags := 9, code := some k29c1 }
/-- java/util/Objects -/
def k29 : Class := { plain "java/util/Objects" (some 0) with
  accessFlags := 49
  interfaces := #[]
  cf := some (fileOf pool29 42 #[] #[{ accessFlags := 2, nameIndex := 5, descriptorIndex := 6, attributes := #[] }, { accessFlags := 9, nameIndex := 45, descriptorIndex := 46, attributes := #[] }] 49 2 #[] #[])
  fields := #[]
  methods := #[k29m0, k29m1]
  instanceTypes := #[]
  staticTypes := #[]
  resolved := Array.replicate 184 none
  statics := none }

def pool30 : Array CpInfo := pool [(1, u "java/lang/Class"), (0, .class_ 1), (0, u "java/lang/Object"), (0, .class_ 3)] 3

/-- java/lang/Class -/
def k30 : Class := { plain "java/lang/Class" (some 0) with
  accessFlags := 49
  interfaces := #[]
  cf := some (fileOf pool30 2 #[] #[] 49 4 #[] #[])
  fields := #[]
  methods := #[]
  instanceTypes := #[]
  staticTypes := #[]
  resolved := Array.replicate 8 none
  statics := none }

/-- the primitive byte -/
def k31 : Class := { plain "byte" none with kind := .primitive 'B', accessFlags := 0x411 }
/-- [B -/
def k32 : Class := { plain "[B" (some 0) with kind := .array 31 .byte, interfaces := #[9, 10], accessFlags := 1041 }

/-- the primitive int -/
def k33 : Class := { plain "int" none with kind := .primitive 'I', accessFlags := 0x411 }
/-- [I -/
def k34 : Class := { plain "[I" (some 0) with kind := .array 33 .int, interfaces := #[9, 10], accessFlags := 1041 }

/-- [Ljava/lang/Integer; -/
def k35 : Class := { plain "[Ljava/lang/Integer;" (some 0) with kind := .array 18 (.object "java/lang/Integer"), interfaces := #[9, 10], accessFlags := 1041 }

/-- [Ljava/lang/Object; -/
def k36 : Class := { plain "[Ljava/lang/Object;" (some 0) with kind := .array 0 (.object "java/lang/Object"), interfaces := #[9, 10], accessFlags := 1041, mirror := some 3 }

def heap : Heap := #[{ cls := 11, slots := #[.long 0, .int 0, .ref 263, .ref 264], vm := .statics 11 },
  { cls := 19, slots := #[.int 0, .int 127, .ref 4, .null, .int 0], vm := .statics 19 },
  { cls := 22, slots := #[.long 0, .int 0, .null, .ref 265, .ref 262, .null, .null, .null, .int 0, .int 1], vm := .statics 22 },
  { cls := 30, slots := #[], vm := .mirror 36 },
  { cls := 35, slots := #[.ref 6, .ref 7, .ref 8, .ref 9, .ref 10, .ref 11, .ref 12, .ref 13, .ref 14, .ref 15, .ref 16, .ref 17, .ref 18, .ref 19, .ref 20, .ref 21, .ref 22, .ref 23, .ref 24, .ref 25, .ref 26, .ref 27, .ref 28, .ref 29, .ref 30, .ref 31, .ref 32, .ref 33, .ref 34, .ref 35, .ref 36, .ref 37, .ref 38, .ref 39, .ref 40, .ref 41, .ref 42, .ref 43, .ref 44, .ref 45, .ref 46, .ref 47, .ref 48, .ref 49, .ref 50, .ref 51, .ref 52, .ref 53, .ref 54, .ref 55, .ref 56, .ref 57, .ref 58, .ref 59, .ref 60, .ref 61, .ref 62, .ref 63, .ref 64, .ref 65, .ref 66, .ref 67, .ref 68, .ref 69, .ref 70, .ref 71, .ref 72, .ref 73, .ref 74, .ref 75, .ref 76, .ref 77, .ref 78, .ref 79, .ref 80, .ref 81, .ref 82, .ref 83, .ref 84, .ref 85, .ref 86, .ref 87, .ref 88, .ref 89, .ref 90, .ref 91, .ref 92, .ref 93, .ref 94, .ref 95, .ref 96, .ref 97, .ref 98, .ref 99, .ref 100, .ref 101, .ref 102, .ref 103, .ref 104, .ref 105, .ref 106, .ref 107, .ref 108, .ref 109, .ref 110, .ref 111, .ref 112, .ref 113, .ref 114, .ref 115, .ref 116, .ref 117, .ref 118, .ref 119, .ref 120, .ref 121, .ref 122, .ref 123, .ref 124, .ref 125, .ref 126, .ref 127, .ref 128, .ref 129, .ref 130, .ref 131, .ref 132, .ref 133, .ref 134, .ref 135, .ref 136, .ref 137, .ref 138, .ref 139, .ref 140, .ref 141, .ref 142, .ref 143, .ref 144, .ref 145, .ref 146, .ref 147, .ref 148, .ref 149, .ref 150, .ref 151, .ref 152, .ref 153, .ref 154, .ref 155, .ref 156, .ref 157, .ref 158, .ref 159, .ref 160, .ref 161, .ref 162, .ref 163, .ref 164, .ref 165, .ref 166, .ref 167, .ref 168, .ref 169, .ref 170, .ref 171, .ref 172, .ref 173, .ref 174, .ref 175, .ref 176, .ref 177, .ref 178, .ref 179, .ref 180, .ref 181, .ref 182, .ref 183, .ref 184, .ref 185, .ref 186, .ref 187, .ref 188, .ref 189, .ref 190, .ref 191, .ref 192, .ref 193, .ref 194, .ref 195, .ref 196, .ref 197, .ref 198, .ref 199, .ref 200, .ref 201, .ref 202, .ref 203, .ref 204, .ref 205, .ref 206, .ref 207, .ref 208, .ref 209, .ref 210, .ref 211, .ref 212, .ref 213, .ref 214, .ref 215, .ref 216, .ref 217, .ref 218, .ref 219, .ref 220, .ref 221, .ref 222, .ref 223, .ref 224, .ref 225, .ref 226, .ref 227, .ref 228, .ref 229, .ref 230, .ref 231, .ref 232, .ref 233, .ref 234, .ref 235, .ref 236, .ref 237, .ref 238, .ref 239, .ref 240, .ref 241, .ref 242, .ref 243, .ref 244, .ref 245, .ref 246, .ref 247, .ref 248, .ref 249, .ref 250, .ref 251, .ref 252, .ref 253, .ref 254, .ref 255, .ref 256, .ref 257, .ref 258, .ref 259, .ref 260, .ref 261], vm := .none },
  { cls := 36, slots := #[], vm := .none },
  { cls := 18, slots := #[.int (-128)], vm := .none },
  { cls := 18, slots := #[.int (-127)], vm := .none },
  { cls := 18, slots := #[.int (-126)], vm := .none },
  { cls := 18, slots := #[.int (-125)], vm := .none },
  { cls := 18, slots := #[.int (-124)], vm := .none },
  { cls := 18, slots := #[.int (-123)], vm := .none },
  { cls := 18, slots := #[.int (-122)], vm := .none },
  { cls := 18, slots := #[.int (-121)], vm := .none },
  { cls := 18, slots := #[.int (-120)], vm := .none },
  { cls := 18, slots := #[.int (-119)], vm := .none },
  { cls := 18, slots := #[.int (-118)], vm := .none },
  { cls := 18, slots := #[.int (-117)], vm := .none },
  { cls := 18, slots := #[.int (-116)], vm := .none },
  { cls := 18, slots := #[.int (-115)], vm := .none },
  { cls := 18, slots := #[.int (-114)], vm := .none },
  { cls := 18, slots := #[.int (-113)], vm := .none },
  { cls := 18, slots := #[.int (-112)], vm := .none },
  { cls := 18, slots := #[.int (-111)], vm := .none },
  { cls := 18, slots := #[.int (-110)], vm := .none },
  { cls := 18, slots := #[.int (-109)], vm := .none },
  { cls := 18, slots := #[.int (-108)], vm := .none },
  { cls := 18, slots := #[.int (-107)], vm := .none },
  { cls := 18, slots := #[.int (-106)], vm := .none },
  { cls := 18, slots := #[.int (-105)], vm := .none },
  { cls := 18, slots := #[.int (-104)], vm := .none },
  { cls := 18, slots := #[.int (-103)], vm := .none },
  { cls := 18, slots := #[.int (-102)], vm := .none },
  { cls := 18, slots := #[.int (-101)], vm := .none },
  { cls := 18, slots := #[.int (-100)], vm := .none },
  { cls := 18, slots := #[.int (-99)], vm := .none },
  { cls := 18, slots := #[.int (-98)], vm := .none },
  { cls := 18, slots := #[.int (-97)], vm := .none },
  { cls := 18, slots := #[.int (-96)], vm := .none },
  { cls := 18, slots := #[.int (-95)], vm := .none },
  { cls := 18, slots := #[.int (-94)], vm := .none },
  { cls := 18, slots := #[.int (-93)], vm := .none },
  { cls := 18, slots := #[.int (-92)], vm := .none },
  { cls := 18, slots := #[.int (-91)], vm := .none },
  { cls := 18, slots := #[.int (-90)], vm := .none },
  { cls := 18, slots := #[.int (-89)], vm := .none },
  { cls := 18, slots := #[.int (-88)], vm := .none },
  { cls := 18, slots := #[.int (-87)], vm := .none },
  { cls := 18, slots := #[.int (-86)], vm := .none },
  { cls := 18, slots := #[.int (-85)], vm := .none },
  { cls := 18, slots := #[.int (-84)], vm := .none },
  { cls := 18, slots := #[.int (-83)], vm := .none },
  { cls := 18, slots := #[.int (-82)], vm := .none },
  { cls := 18, slots := #[.int (-81)], vm := .none },
  { cls := 18, slots := #[.int (-80)], vm := .none },
  { cls := 18, slots := #[.int (-79)], vm := .none },
  { cls := 18, slots := #[.int (-78)], vm := .none },
  { cls := 18, slots := #[.int (-77)], vm := .none },
  { cls := 18, slots := #[.int (-76)], vm := .none },
  { cls := 18, slots := #[.int (-75)], vm := .none },
  { cls := 18, slots := #[.int (-74)], vm := .none },
  { cls := 18, slots := #[.int (-73)], vm := .none },
  { cls := 18, slots := #[.int (-72)], vm := .none },
  { cls := 18, slots := #[.int (-71)], vm := .none },
  { cls := 18, slots := #[.int (-70)], vm := .none },
  { cls := 18, slots := #[.int (-69)], vm := .none },
  { cls := 18, slots := #[.int (-68)], vm := .none },
  { cls := 18, slots := #[.int (-67)], vm := .none },
  { cls := 18, slots := #[.int (-66)], vm := .none },
  { cls := 18, slots := #[.int (-65)], vm := .none },
  { cls := 18, slots := #[.int (-64)], vm := .none },
  { cls := 18, slots := #[.int (-63)], vm := .none },
  { cls := 18, slots := #[.int (-62)], vm := .none },
  { cls := 18, slots := #[.int (-61)], vm := .none },
  { cls := 18, slots := #[.int (-60)], vm := .none },
  { cls := 18, slots := #[.int (-59)], vm := .none },
  { cls := 18, slots := #[.int (-58)], vm := .none },
  { cls := 18, slots := #[.int (-57)], vm := .none },
  { cls := 18, slots := #[.int (-56)], vm := .none },
  { cls := 18, slots := #[.int (-55)], vm := .none },
  { cls := 18, slots := #[.int (-54)], vm := .none },
  { cls := 18, slots := #[.int (-53)], vm := .none },
  { cls := 18, slots := #[.int (-52)], vm := .none },
  { cls := 18, slots := #[.int (-51)], vm := .none },
  { cls := 18, slots := #[.int (-50)], vm := .none },
  { cls := 18, slots := #[.int (-49)], vm := .none },
  { cls := 18, slots := #[.int (-48)], vm := .none },
  { cls := 18, slots := #[.int (-47)], vm := .none },
  { cls := 18, slots := #[.int (-46)], vm := .none },
  { cls := 18, slots := #[.int (-45)], vm := .none },
  { cls := 18, slots := #[.int (-44)], vm := .none },
  { cls := 18, slots := #[.int (-43)], vm := .none },
  { cls := 18, slots := #[.int (-42)], vm := .none },
  { cls := 18, slots := #[.int (-41)], vm := .none },
  { cls := 18, slots := #[.int (-40)], vm := .none },
  { cls := 18, slots := #[.int (-39)], vm := .none },
  { cls := 18, slots := #[.int (-38)], vm := .none },
  { cls := 18, slots := #[.int (-37)], vm := .none },
  { cls := 18, slots := #[.int (-36)], vm := .none },
  { cls := 18, slots := #[.int (-35)], vm := .none },
  { cls := 18, slots := #[.int (-34)], vm := .none },
  { cls := 18, slots := #[.int (-33)], vm := .none },
  { cls := 18, slots := #[.int (-32)], vm := .none },
  { cls := 18, slots := #[.int (-31)], vm := .none },
  { cls := 18, slots := #[.int (-30)], vm := .none },
  { cls := 18, slots := #[.int (-29)], vm := .none },
  { cls := 18, slots := #[.int (-28)], vm := .none },
  { cls := 18, slots := #[.int (-27)], vm := .none },
  { cls := 18, slots := #[.int (-26)], vm := .none },
  { cls := 18, slots := #[.int (-25)], vm := .none },
  { cls := 18, slots := #[.int (-24)], vm := .none },
  { cls := 18, slots := #[.int (-23)], vm := .none },
  { cls := 18, slots := #[.int (-22)], vm := .none },
  { cls := 18, slots := #[.int (-21)], vm := .none },
  { cls := 18, slots := #[.int (-20)], vm := .none },
  { cls := 18, slots := #[.int (-19)], vm := .none },
  { cls := 18, slots := #[.int (-18)], vm := .none },
  { cls := 18, slots := #[.int (-17)], vm := .none },
  { cls := 18, slots := #[.int (-16)], vm := .none },
  { cls := 18, slots := #[.int (-15)], vm := .none },
  { cls := 18, slots := #[.int (-14)], vm := .none },
  { cls := 18, slots := #[.int (-13)], vm := .none },
  { cls := 18, slots := #[.int (-12)], vm := .none },
  { cls := 18, slots := #[.int (-11)], vm := .none },
  { cls := 18, slots := #[.int (-10)], vm := .none },
  { cls := 18, slots := #[.int (-9)], vm := .none },
  { cls := 18, slots := #[.int (-8)], vm := .none },
  { cls := 18, slots := #[.int (-7)], vm := .none },
  { cls := 18, slots := #[.int (-6)], vm := .none },
  { cls := 18, slots := #[.int (-5)], vm := .none },
  { cls := 18, slots := #[.int (-4)], vm := .none },
  { cls := 18, slots := #[.int (-3)], vm := .none },
  { cls := 18, slots := #[.int (-2)], vm := .none },
  { cls := 18, slots := #[.int (-1)], vm := .none },
  { cls := 18, slots := #[.int (0)], vm := .none },
  { cls := 18, slots := #[.int (1)], vm := .none },
  { cls := 18, slots := #[.int (2)], vm := .none },
  { cls := 18, slots := #[.int (3)], vm := .none },
  { cls := 18, slots := #[.int (4)], vm := .none },
  { cls := 18, slots := #[.int (5)], vm := .none },
  { cls := 18, slots := #[.int (6)], vm := .none },
  { cls := 18, slots := #[.int (7)], vm := .none },
  { cls := 18, slots := #[.int (8)], vm := .none },
  { cls := 18, slots := #[.int (9)], vm := .none },
  { cls := 18, slots := #[.int (10)], vm := .none },
  { cls := 18, slots := #[.int (11)], vm := .none },
  { cls := 18, slots := #[.int (12)], vm := .none },
  { cls := 18, slots := #[.int (13)], vm := .none },
  { cls := 18, slots := #[.int (14)], vm := .none },
  { cls := 18, slots := #[.int (15)], vm := .none },
  { cls := 18, slots := #[.int (16)], vm := .none },
  { cls := 18, slots := #[.int (17)], vm := .none },
  { cls := 18, slots := #[.int (18)], vm := .none },
  { cls := 18, slots := #[.int (19)], vm := .none },
  { cls := 18, slots := #[.int (20)], vm := .none },
  { cls := 18, slots := #[.int (21)], vm := .none },
  { cls := 18, slots := #[.int (22)], vm := .none },
  { cls := 18, slots := #[.int (23)], vm := .none },
  { cls := 18, slots := #[.int (24)], vm := .none },
  { cls := 18, slots := #[.int (25)], vm := .none },
  { cls := 18, slots := #[.int (26)], vm := .none },
  { cls := 18, slots := #[.int (27)], vm := .none },
  { cls := 18, slots := #[.int (28)], vm := .none },
  { cls := 18, slots := #[.int (29)], vm := .none },
  { cls := 18, slots := #[.int (30)], vm := .none },
  { cls := 18, slots := #[.int (31)], vm := .none },
  { cls := 18, slots := #[.int (32)], vm := .none },
  { cls := 18, slots := #[.int (33)], vm := .none },
  { cls := 18, slots := #[.int (34)], vm := .none },
  { cls := 18, slots := #[.int (35)], vm := .none },
  { cls := 18, slots := #[.int (36)], vm := .none },
  { cls := 18, slots := #[.int (37)], vm := .none },
  { cls := 18, slots := #[.int (38)], vm := .none },
  { cls := 18, slots := #[.int (39)], vm := .none },
  { cls := 18, slots := #[.int (40)], vm := .none },
  { cls := 18, slots := #[.int (41)], vm := .none },
  { cls := 18, slots := #[.int (42)], vm := .none },
  { cls := 18, slots := #[.int (43)], vm := .none },
  { cls := 18, slots := #[.int (44)], vm := .none },
  { cls := 18, slots := #[.int (45)], vm := .none },
  { cls := 18, slots := #[.int (46)], vm := .none },
  { cls := 18, slots := #[.int (47)], vm := .none },
  { cls := 18, slots := #[.int (48)], vm := .none },
  { cls := 18, slots := #[.int (49)], vm := .none },
  { cls := 18, slots := #[.int (50)], vm := .none },
  { cls := 18, slots := #[.int (51)], vm := .none },
  { cls := 18, slots := #[.int (52)], vm := .none },
  { cls := 18, slots := #[.int (53)], vm := .none },
  { cls := 18, slots := #[.int (54)], vm := .none },
  { cls := 18, slots := #[.int (55)], vm := .none },
  { cls := 18, slots := #[.int (56)], vm := .none },
  { cls := 18, slots := #[.int (57)], vm := .none },
  { cls := 18, slots := #[.int (58)], vm := .none },
  { cls := 18, slots := #[.int (59)], vm := .none },
  { cls := 18, slots := #[.int (60)], vm := .none },
  { cls := 18, slots := #[.int (61)], vm := .none },
  { cls := 18, slots := #[.int (62)], vm := .none },
  { cls := 18, slots := #[.int (63)], vm := .none },
  { cls := 18, slots := #[.int (64)], vm := .none },
  { cls := 18, slots := #[.int (65)], vm := .none },
  { cls := 18, slots := #[.int (66)], vm := .none },
  { cls := 18, slots := #[.int (67)], vm := .none },
  { cls := 18, slots := #[.int (68)], vm := .none },
  { cls := 18, slots := #[.int (69)], vm := .none },
  { cls := 18, slots := #[.int (70)], vm := .none },
  { cls := 18, slots := #[.int (71)], vm := .none },
  { cls := 18, slots := #[.int (72)], vm := .none },
  { cls := 18, slots := #[.int (73)], vm := .none },
  { cls := 18, slots := #[.int (74)], vm := .none },
  { cls := 18, slots := #[.int (75)], vm := .none },
  { cls := 18, slots := #[.int (76)], vm := .none },
  { cls := 18, slots := #[.int (77)], vm := .none },
  { cls := 18, slots := #[.int (78)], vm := .none },
  { cls := 18, slots := #[.int (79)], vm := .none },
  { cls := 18, slots := #[.int (80)], vm := .none },
  { cls := 18, slots := #[.int (81)], vm := .none },
  { cls := 18, slots := #[.int (82)], vm := .none },
  { cls := 18, slots := #[.int (83)], vm := .none },
  { cls := 18, slots := #[.int (84)], vm := .none },
  { cls := 18, slots := #[.int (85)], vm := .none },
  { cls := 18, slots := #[.int (86)], vm := .none },
  { cls := 18, slots := #[.int (87)], vm := .none },
  { cls := 18, slots := #[.int (88)], vm := .none },
  { cls := 18, slots := #[.int (89)], vm := .none },
  { cls := 18, slots := #[.int (90)], vm := .none },
  { cls := 18, slots := #[.int (91)], vm := .none },
  { cls := 18, slots := #[.int (92)], vm := .none },
  { cls := 18, slots := #[.int (93)], vm := .none },
  { cls := 18, slots := #[.int (94)], vm := .none },
  { cls := 18, slots := #[.int (95)], vm := .none },
  { cls := 18, slots := #[.int (96)], vm := .none },
  { cls := 18, slots := #[.int (97)], vm := .none },
  { cls := 18, slots := #[.int (98)], vm := .none },
  { cls := 18, slots := #[.int (99)], vm := .none },
  { cls := 18, slots := #[.int (100)], vm := .none },
  { cls := 18, slots := #[.int (101)], vm := .none },
  { cls := 18, slots := #[.int (102)], vm := .none },
  { cls := 18, slots := #[.int (103)], vm := .none },
  { cls := 18, slots := #[.int (104)], vm := .none },
  { cls := 18, slots := #[.int (105)], vm := .none },
  { cls := 18, slots := #[.int (106)], vm := .none },
  { cls := 18, slots := #[.int (107)], vm := .none },
  { cls := 18, slots := #[.int (108)], vm := .none },
  { cls := 18, slots := #[.int (109)], vm := .none },
  { cls := 18, slots := #[.int (110)], vm := .none },
  { cls := 18, slots := #[.int (111)], vm := .none },
  { cls := 18, slots := #[.int (112)], vm := .none },
  { cls := 18, slots := #[.int (113)], vm := .none },
  { cls := 18, slots := #[.int (114)], vm := .none },
  { cls := 18, slots := #[.int (115)], vm := .none },
  { cls := 18, slots := #[.int (116)], vm := .none },
  { cls := 18, slots := #[.int (117)], vm := .none },
  { cls := 18, slots := #[.int (118)], vm := .none },
  { cls := 18, slots := #[.int (119)], vm := .none },
  { cls := 18, slots := #[.int (120)], vm := .none },
  { cls := 18, slots := #[.int (121)], vm := .none },
  { cls := 18, slots := #[.int (122)], vm := .none },
  { cls := 18, slots := #[.int (123)], vm := .none },
  { cls := 18, slots := #[.int (124)], vm := .none },
  { cls := 18, slots := #[.int (125)], vm := .none },
  { cls := 18, slots := #[.int (126)], vm := .none },
  { cls := 18, slots := #[.int (127)], vm := .none },
  { cls := 26, slots := #[.ref 5, .int 0], vm := .none },
  { cls := 36, slots := #[], vm := .none },
  { cls := 36, slots := #[], vm := .none },
  { cls := 0, slots := #[], vm := .none }]
def classes : Array Class := #[k0, k1, k2, k3, k4, k5, k6, k7, k8, k9, k10, k11, k12, k13, k14, k15, k16, k17, k18, k19, k20, k21, k22, k23, k24, k25, k26, k27, k28, k29, k30, k31, k32, k33, k34, k35, k36]
def interned : List (Array UInt16 × Addr) := []
def slotsUsed : Nat := 533
def theMethod : MethodId := ⟨1, 1⟩
def args0 : Array Value := #[.int 2, .int 3, .int 4, .int 5]
def aboutOver (below : List Frame) : State where
  vm := { classes := classes, interned := interned.toArray }
  heap := heap
  slotsUsed := slotsUsed
  threads := #[{ frames := .invoking theMethod args0 :: below }]
def below0 : List Frame := [.native { method := ⟨0, 0⟩, args := #[] }]
def about1 : State := aboutOver below0
def p0 : Program := .bare "" "" ""
def e0 : Env := launch0.env 0 0 0
theorem w_frames : about1.frames = Frame.invoking theMethod args0 :: below0 := rfl
set_option maxRecDepth 65536 in
theorem w_args : argsFit about1.vm theMethod args0 = true := by decide +kernel
set_option maxRecDepth 65536 in
theorem w_heap : heapFits about1 = true := by decide +kernel
set_option maxRecDepth 65536 in
theorem w_runnable : about1.curStatus? = some .runnable := by decide +kernel
set_option maxRecDepth 65536 in
theorem w_alone : about1.alone = true := by decide +kernel
set_option maxRecDepth 65536 in
theorem w_named : about1.methodNamed? x = some theMethod := by decide +kernel
set_option maxRecDepth 65536 in
theorem w_hears : about1.hears theMethod below0 = true := by decide +kernel
set_option maxRecDepth 65536 in
theorem w_ripe : about1.ripe theMethod args0 below0 = true := by decide +kernel
theorem w_running : about1.status = .running := rfl
set_option maxRecDepth 65536 in
theorem w_room : about1.hasRoom e0.platform room_1 = true :=
  launch0.hasRoom_least _ room_1 (by decide +kernel) (by decide +kernel) (by decide +kernel) (by decide +kernel) (by decide +kernel) (by decide +kernel)
theorem allAtoms_all (ts : List Jvm.Cond) (a : Array Jvm.Value) (st : Jvm.State) : (allAtoms ts).before a st = ts.all (fun c => c.before a st) := by
  induction ts with
  | nil => rfl
  | cons c t ih =>
    show (Jvm.Cond.and c (allAtoms t)).before a st = _
    rw [Jvm.Cond.before_and, ih, List.all_cons]
def words1 : List Jvm.Cond := Jvm.Cond.code x code maxLocals ret :: tables_1
/-- a 'code' word, met by the world's own term for the bytes: nothing is compared byte by byte -/
theorem code_word {y : MethodName} {bytes : ByteArray} {mx : Nat} {rt : Option FieldType} {a : Array Value} {s : State} {m : MethodId} {meth : Method} {c : Code} (h1 : s.methodNamed? y = some m) (h2 : s.vm.method? m = some meth) (h3 : meth.code = some c) (h4 : c.code = bytes)
    (h5 : (c.maxLocals == mx && c.exceptionTable.isEmpty && decide (c.maxStack ≤ mostOperands) && decide (meth.sig.returnType = rt) && !meth.locks && decide (parseMethodDescriptor y.desc = some meth.sig)) = true) : (Jvm.Cond.code y bytes mx rt).before a s = true := by
  simp only [Bool.and_eq_true, beq_iff_eq, Bool.not_eq_true', decide_eq_true_eq] at h5
  obtain ⟨⟨⟨⟨⟨g1, g2⟩, g3⟩, g4⟩, g5⟩, g6⟩ := h5
  simp [Cond.before, Cond.holds, Cond.value, h1, h2, h3, h4, g1, g2, g3, g4, g5, g6]
def isCode : Jvm.Cond → Bool
  | .code _ _ _ _ => true
  | _ => false
theorem all_split {L : List Jvm.Cond} {P : Jvm.Cond → Bool} (h1 : L.all (fun c => isCode c || P c) = true) (h2 : ∀ c ∈ L.filter isCode, P c = true) : L.all P = true := by
  refine List.all_eq_true.mpr fun c hc => ?_
  have h := List.all_eq_true.mp h1 c hc
  rcases Bool.eq_false_or_eq_true (isCode c) with hi | hi
  · exact h2 c (List.mem_filter.mpr ⟨hc, hi⟩)
  · simpa [hi] using h
set_option maxRecDepth 65536 in
theorem w_c0 : (Jvm.Cond.code x code maxLocals ret).before args0 about1 = true := code_word (m := ⟨1, 1⟩) (meth := k1m1) (c := k1c1) (by decide +kernel) rfl rfl rfl (by decide +kernel)
set_option maxRecDepth 65536 in
theorem w_c1 : (Jvm.Cond.code ({ cls := "java/util/ArrayList", name := "<init>", desc := "()V" } : Jvm.MethodName) jdk_38_method_2_code (1 : Nat) (Option.none : Option Jvm.ClassFile.FieldType)).before args0 about1 = true := code_word (m := ⟨11, 0⟩) (meth := k11m0) (c := k11c0) (by decide +kernel) rfl rfl rfl (by decide +kernel)
set_option maxRecDepth 65536 in
theorem w_c2 : (Jvm.Cond.code ({ cls := "java/util/AbstractList", name := "<init>", desc := "()V" } : Jvm.MethodName) jdk_39_method_1_code (1 : Nat) (Option.none : Option Jvm.ClassFile.FieldType)).before args0 about1 = true := code_word (m := ⟨7, 0⟩) (meth := k7m0) (c := k7c0) (by decide +kernel) rfl rfl rfl (by decide +kernel)
set_option maxRecDepth 65536 in
theorem w_c3 : (Jvm.Cond.code ({ cls := "java/util/AbstractCollection", name := "<init>", desc := "()V" } : Jvm.MethodName) jdk_22_method_1_code (1 : Nat) (Option.none : Option Jvm.ClassFile.FieldType)).before args0 about1 = true := code_word (m := ⟨4, 0⟩) (meth := k4m0) (c := k4c0) (by decide +kernel) rfl rfl rfl (by decide +kernel)
set_option maxRecDepth 65536 in
theorem w_c4 : (Jvm.Cond.code ({ cls := "java/lang/Object", name := "<init>", desc := "()V" } : Jvm.MethodName) object_method_1_code (1 : Nat) (Option.none : Option Jvm.ClassFile.FieldType)).before args0 about1 = true := code_word (m := ⟨0, 0⟩) (meth := k0m0) (c := k0c0) (by decide +kernel) rfl rfl rfl (by decide +kernel)
set_option maxRecDepth 65536 in
theorem w_c5 : (Jvm.Cond.code ({ cls := "java/lang/Integer", name := "valueOf", desc := "(I)Ljava/lang/Integer;" } : Jvm.MethodName) jdk_33_method_22_code (1 : Nat) (Option.some (Jvm.ClassFile.FieldType.object "java/lang/Integer"))).before args0 about1 = true := code_word (m := ⟨18, 0⟩) (meth := k18m0) (c := k18c0) (by decide +kernel) rfl rfl rfl (by decide +kernel)
set_option maxRecDepth 65536 in
theorem w_c6 : (Jvm.Cond.code ({ cls := "com/example/kempt_cursor/kemptcursor/Keyed", name := "<init>", desc := "(Ljava/lang/Object;Ljava/lang/Object;)V" } : Jvm.MethodName) prog_16_method_1_code (3 : Nat) (Option.none : Option Jvm.ClassFile.FieldType)).before args0 about1 = true := code_word (m := ⟨13, 0⟩) (meth := k13m0) (c := k13c0) (by decide +kernel) rfl rfl rfl (by decide +kernel)
set_option maxRecDepth 65536 in
theorem w_c7 : (Jvm.Cond.code ({ cls := "java/lang/Record", name := "<init>", desc := "()V" } : Jvm.MethodName) jdk_30_method_1_code (1 : Nat) (Option.none : Option Jvm.ClassFile.FieldType)).before args0 about1 = true := code_word (m := ⟨12, 0⟩) (meth := k12m0) (c := k12c0) (by decide +kernel) rfl rfl rfl (by decide +kernel)
set_option maxRecDepth 65536 in
theorem w_c8 : (Jvm.Cond.code ({ cls := "java/util/ArrayList", name := "add", desc := "(Ljava/lang/Object;)Z" } : Jvm.MethodName) jdk_38_method_25_code (2 : Nat) (Option.some Jvm.ClassFile.FieldType.boolean)).before args0 about1 = true := code_word (m := ⟨11, 6⟩) (meth := k11m6) (c := k11c6) (by decide +kernel) rfl rfl rfl (by decide +kernel)
set_option maxRecDepth 65536 in
theorem w_c9 : (Jvm.Cond.code ({ cls := "java/util/ArrayList", name := "add", desc := "(Ljava/lang/Object;[Ljava/lang/Object;I)V" } : Jvm.MethodName) jdk_38_method_24_code (4 : Nat) (Option.none : Option Jvm.ClassFile.FieldType)).before args0 about1 = true := code_word (m := ⟨11, 5⟩) (meth := k11m5) (c := k11c5) (by decide +kernel) rfl rfl rfl (by decide +kernel)
set_option maxRecDepth 65536 in
theorem w_c10 : (Jvm.Cond.code ({ cls := "java/util/ArrayList", name := "grow", desc := "()[Ljava/lang/Object;" } : Jvm.MethodName) jdk_38_method_7_code (1 : Nat) (Option.some (Jvm.ClassFile.FieldType.array (Jvm.ClassFile.FieldType.object "java/lang/Object")))).before args0 about1 = true := code_word (m := ⟨11, 2⟩) (meth := k11m2) (c := k11c2) (by decide +kernel) rfl rfl rfl (by decide +kernel)
set_option maxRecDepth 65536 in
theorem w_c11 : (Jvm.Cond.code ({ cls := "java/util/ArrayList", name := "grow", desc := "(I)[Ljava/lang/Object;" } : Jvm.MethodName) jdk_38_method_6_code (4 : Nat) (Option.some (Jvm.ClassFile.FieldType.array (Jvm.ClassFile.FieldType.object "java/lang/Object")))).before args0 about1 = true := code_word (m := ⟨11, 1⟩) (meth := k11m1) (c := k11c1) (by decide +kernel) rfl rfl rfl (by decide +kernel)
set_option maxRecDepth 65536 in
theorem w_c12 : (Jvm.Cond.code ({ cls := "java/lang/Math", name := "max", desc := "(II)I" } : Jvm.MethodName) jdk_29_method_65_code (2 : Nat) (Option.some Jvm.ClassFile.FieldType.int)).before args0 about1 = true := code_word (m := ⟨20, 1⟩) (meth := k20m1) (c := k20c1) (by decide +kernel) rfl rfl rfl (by decide +kernel)
set_option maxRecDepth 65536 in
theorem w_c13 : (Jvm.Cond.code ({ cls := "com/example/kempt_cursor/kemptcursor/Page", name := "<init>", desc := "(Ljava/util/List;II)V" } : Jvm.MethodName) prog_18_method_1_code (4 : Nat) (Option.none : Option Jvm.ClassFile.FieldType)).before args0 about1 = true := code_word (m := ⟨21, 0⟩) (meth := k21m0) (c := k21c0) (by decide +kernel) rfl rfl rfl (by decide +kernel)
set_option maxRecDepth 65536 in
theorem w_c14 : (Jvm.Cond.code ({ cls := "java/util/List", name := "copyOf", desc := "(Ljava/util/Collection;)Ljava/util/List;" } : Jvm.MethodName) jdk_40_method_48_code (1 : Nat) (Option.some (Jvm.ClassFile.FieldType.object "java/util/List"))).before args0 about1 = true := code_word (m := ⟨6, 2⟩) (meth := k6m2) (c := k6c2) (by decide +kernel) rfl rfl rfl (by decide +kernel)
set_option maxRecDepth 65536 in
theorem w_c15 : (Jvm.Cond.code ({ cls := "java/util/ImmutableCollections", name := "listCopy", desc := "(Ljava/util/Collection;)Ljava/util/List;" } : Jvm.MethodName) jdk_56_method_3_code (2 : Nat) (Option.some (Jvm.ClassFile.FieldType.object "java/util/List"))).before args0 about1 = true := code_word (m := ⟨22, 1⟩) (meth := k22m1) (c := k22c1) (by decide +kernel) rfl rfl rfl (by decide +kernel)
set_option maxRecDepth 65536 in
theorem w_c16 : (Jvm.Cond.code ({ cls := "java/util/ArrayList", name := "isEmpty", desc := "()Z" } : Jvm.MethodName) jdk_38_method_9_code (1 : Nat) (Option.some Jvm.ClassFile.FieldType.boolean)).before args0 about1 = true := code_word (m := ⟨11, 3⟩) (meth := k11m3) (c := k11c3) (by decide +kernel) rfl rfl rfl (by decide +kernel)
set_option maxRecDepth 65536 in
theorem w_c17 : (Jvm.Cond.code ({ cls := "java/util/ArrayList", name := "toArray", desc := "()[Ljava/lang/Object;" } : Jvm.MethodName) jdk_38_method_16_code (1 : Nat) (Option.some (Jvm.ClassFile.FieldType.array (Jvm.ClassFile.FieldType.object "java/lang/Object")))).before args0 about1 = true := code_word (m := ⟨11, 4⟩) (meth := k11m4) (c := k11c4) (by decide +kernel) rfl rfl rfl (by decide +kernel)
set_option maxRecDepth 65536 in
theorem w_c18 : (Jvm.Cond.code ({ cls := "java/util/Arrays", name := "copyOf", desc := "([Ljava/lang/Object;I)[Ljava/lang/Object;" } : Jvm.MethodName) jdk_65_method_119_code (2 : Nat) (Option.some (Jvm.ClassFile.FieldType.array (Jvm.ClassFile.FieldType.object "java/lang/Object")))).before args0 about1 = true := code_word (m := ⟨27, 1⟩) (meth := k27m1) (c := k27c1) (by decide +kernel) rfl rfl rfl (by decide +kernel)
set_option maxRecDepth 65536 in
theorem w_c19 : (Jvm.Cond.code ({ cls := "java/util/Arrays", name := "copyOf", desc := "([Ljava/lang/Object;ILjava/lang/Class;)[Ljava/lang/Object;" } : Jvm.MethodName) jdk_65_method_120_code (4 : Nat) (Option.some (Jvm.ClassFile.FieldType.array (Jvm.ClassFile.FieldType.object "java/lang/Object")))).before args0 about1 = true := code_word (m := ⟨27, 2⟩) (meth := k27m2) (c := k27c2) (by decide +kernel) rfl rfl rfl (by decide +kernel)
set_option maxRecDepth 65536 in
theorem w_c20 : (Jvm.Cond.code ({ cls := "java/lang/Math", name := "min", desc := "(II)I" } : Jvm.MethodName) jdk_29_method_69_code (2 : Nat) (Option.some Jvm.ClassFile.FieldType.int)).before args0 about1 = true := code_word (m := ⟨20, 2⟩) (meth := k20m2) (c := k20c2) (by decide +kernel) rfl rfl rfl (by decide +kernel)
set_option maxRecDepth 65536 in
theorem w_c21 : (Jvm.Cond.code ({ cls := "java/util/List", name := "of", desc := "([Ljava/lang/Object;)Ljava/util/List;" } : Jvm.MethodName) jdk_40_method_47_code (2 : Nat) (Option.some (Jvm.ClassFile.FieldType.object "java/util/List"))).before args0 about1 = true := code_word (m := ⟨6, 1⟩) (meth := k6m1) (c := k6c1) (by decide +kernel) rfl rfl rfl (by decide +kernel)
set_option maxRecDepth 65536 in
theorem w_c22 : (Jvm.Cond.code ({ cls := "java/util/ImmutableCollections$List12", name := "<init>", desc := "(Ljava/lang/Object;Ljava/lang/Object;)V" } : Jvm.MethodName) jdk_44_method_2_code (3 : Nat) (Option.none : Option Jvm.ClassFile.FieldType)).before args0 about1 = true := code_word (m := ⟨25, 1⟩) (meth := k25m1) (c := k25c1) (by decide +kernel) rfl rfl rfl (by decide +kernel)
set_option maxRecDepth 65536 in
theorem w_c23 : (Jvm.Cond.code ({ cls := "java/util/ImmutableCollections$AbstractImmutableList", name := "<init>", desc := "()V" } : Jvm.MethodName) jdk_46_method_1_code (1 : Nat) (Option.none : Option Jvm.ClassFile.FieldType)).before args0 about1 = true := code_word (m := ⟨24, 0⟩) (meth := k24m0) (c := k24c0) (by decide +kernel) rfl rfl rfl (by decide +kernel)
set_option maxRecDepth 65536 in
theorem w_c24 : (Jvm.Cond.code ({ cls := "java/util/ImmutableCollections$AbstractImmutableCollection", name := "<init>", desc := "()V" } : Jvm.MethodName) jdk_47_method_1_code (1 : Nat) (Option.none : Option Jvm.ClassFile.FieldType)).before args0 about1 = true := code_word (m := ⟨23, 0⟩) (meth := k23m0) (c := k23c0) (by decide +kernel) rfl rfl rfl (by decide +kernel)
set_option maxRecDepth 65536 in
theorem w_c25 : (Jvm.Cond.code ({ cls := "java/util/Objects", name := "requireNonNull", desc := "(Ljava/lang/Object;)Ljava/lang/Object;" } : Jvm.MethodName) jdk_31_method_10_code (1 : Nat) (Option.some (Jvm.ClassFile.FieldType.object "java/lang/Object"))).before args0 about1 = true := code_word (m := ⟨29, 1⟩) (meth := k29m1) (c := k29c1) (by decide +kernel) rfl rfl rfl (by decide +kernel)
set_option maxRecDepth 65536 in
theorem w_c26 : (Jvm.Cond.code ({ cls := "com/example/kempt_cursor/kemptcursor/Page", name := "reachesStart", desc := "()Z" } : Jvm.MethodName) prog_18_method_3_code (1 : Nat) (Option.some Jvm.ClassFile.FieldType.boolean)).before args0 about1 = true := code_word (m := ⟨21, 1⟩) (meth := k21m1) (c := k21c1) (by decide +kernel) rfl rfl rfl (by decide +kernel)
set_option maxRecDepth 65536 in
theorem w_c27 : (Jvm.Cond.code ({ cls := "java/util/List", name := "of", desc := "()Ljava/util/List;" } : Jvm.MethodName) jdk_40_method_36_code (0 : Nat) (Option.some (Jvm.ClassFile.FieldType.object "java/util/List"))).before args0 about1 = true := code_word (m := ⟨6, 0⟩) (meth := k6m0) (c := k6c0) (by decide +kernel) rfl rfl rfl (by decide +kernel)
set_option maxRecDepth 65536 in
theorem w_c28 : (Jvm.Cond.code ({ cls := "java/lang/Integer", name := "<init>", desc := "(I)V" } : Jvm.MethodName) jdk_33_method_23_code (2 : Nat) (Option.none : Option Jvm.ClassFile.FieldType)).before args0 about1 = true := code_word (m := ⟨18, 1⟩) (meth := k18m1) (c := k18c1) (by decide +kernel) rfl rfl rfl (by decide +kernel)
set_option maxRecDepth 65536 in
theorem w_c29 : (Jvm.Cond.code ({ cls := "java/lang/Number", name := "<init>", desc := "()V" } : Jvm.MethodName) jdk_18_method_1_code (1 : Nat) (Option.none : Option Jvm.ClassFile.FieldType)).before args0 about1 = true := code_word (m := ⟨14, 0⟩) (meth := k14m0) (c := k14c0) (by decide +kernel) rfl rfl rfl (by decide +kernel)
set_option maxRecDepth 65536 in
theorem w_c30 : (Jvm.Cond.code ({ cls := "java/util/ImmutableCollections", name := "listFromArray", desc := "([Ljava/lang/Object;)Ljava/util/List;" } : Jvm.MethodName) jdk_56_method_4_code (3 : Nat) (Option.some (Jvm.ClassFile.FieldType.object "java/util/List"))).before args0 about1 = true := code_word (m := ⟨22, 2⟩) (meth := k22m2) (c := k22c2) (by decide +kernel) rfl rfl rfl (by decide +kernel)
set_option maxRecDepth 65536 in
theorem w_c31 : (Jvm.Cond.code ({ cls := "java/util/ImmutableCollections$ListN", name := "<init>", desc := "([Ljava/lang/Object;Z)V" } : Jvm.MethodName) jdk_45_method_1_code (3 : Nat) (Option.none : Option Jvm.ClassFile.FieldType)).before args0 about1 = true := code_word (m := ⟨26, 0⟩) (meth := k26m0) (c := k26c0) (by decide +kernel) rfl rfl rfl (by decide +kernel)
set_option maxRecDepth 65536 in
theorem w_c32 : (Jvm.Cond.code ({ cls := "java/util/ImmutableCollections$List12", name := "<init>", desc := "(Ljava/lang/Object;)V" } : Jvm.MethodName) jdk_44_method_1_code (2 : Nat) (Option.none : Option Jvm.ClassFile.FieldType)).before args0 about1 = true := code_word (m := ⟨25, 0⟩) (meth := k25m0) (c := k25c0) (by decide +kernel) rfl rfl rfl (by decide +kernel)
def codes1 : List Jvm.Cond := [Jvm.Cond.code x code maxLocals ret, Jvm.Cond.code ({ cls := "java/util/ArrayList", name := "<init>", desc := "()V" } : Jvm.MethodName) jdk_38_method_2_code (1 : Nat) (Option.none : Option Jvm.ClassFile.FieldType), Jvm.Cond.code ({ cls := "java/util/AbstractList", name := "<init>", desc := "()V" } : Jvm.MethodName) jdk_39_method_1_code (1 : Nat) (Option.none : Option Jvm.ClassFile.FieldType), Jvm.Cond.code ({ cls := "java/util/AbstractCollection", name := "<init>", desc := "()V" } : Jvm.MethodName) jdk_22_method_1_code (1 : Nat) (Option.none : Option Jvm.ClassFile.FieldType), Jvm.Cond.code ({ cls := "java/lang/Object", name := "<init>", desc := "()V" } : Jvm.MethodName) object_method_1_code (1 : Nat) (Option.none : Option Jvm.ClassFile.FieldType), Jvm.Cond.code ({ cls := "java/lang/Integer", name := "valueOf", desc := "(I)Ljava/lang/Integer;" } : Jvm.MethodName) jdk_33_method_22_code (1 : Nat) (Option.some (Jvm.ClassFile.FieldType.object "java/lang/Integer")), Jvm.Cond.code ({ cls := "com/example/kempt_cursor/kemptcursor/Keyed", name := "<init>", desc := "(Ljava/lang/Object;Ljava/lang/Object;)V" } : Jvm.MethodName) prog_16_method_1_code (3 : Nat) (Option.none : Option Jvm.ClassFile.FieldType), Jvm.Cond.code ({ cls := "java/lang/Record", name := "<init>", desc := "()V" } : Jvm.MethodName) jdk_30_method_1_code (1 : Nat) (Option.none : Option Jvm.ClassFile.FieldType), Jvm.Cond.code ({ cls := "java/util/ArrayList", name := "add", desc := "(Ljava/lang/Object;)Z" } : Jvm.MethodName) jdk_38_method_25_code (2 : Nat) (Option.some Jvm.ClassFile.FieldType.boolean), Jvm.Cond.code ({ cls := "java/util/ArrayList", name := "add", desc := "(Ljava/lang/Object;[Ljava/lang/Object;I)V" } : Jvm.MethodName) jdk_38_method_24_code (4 : Nat) (Option.none : Option Jvm.ClassFile.FieldType), Jvm.Cond.code ({ cls := "java/util/ArrayList", name := "grow", desc := "()[Ljava/lang/Object;" } : Jvm.MethodName) jdk_38_method_7_code (1 : Nat) (Option.some (Jvm.ClassFile.FieldType.array (Jvm.ClassFile.FieldType.object "java/lang/Object"))), Jvm.Cond.code ({ cls := "java/util/ArrayList", name := "grow", desc := "(I)[Ljava/lang/Object;" } : Jvm.MethodName) jdk_38_method_6_code (4 : Nat) (Option.some (Jvm.ClassFile.FieldType.array (Jvm.ClassFile.FieldType.object "java/lang/Object"))), Jvm.Cond.code ({ cls := "java/lang/Math", name := "max", desc := "(II)I" } : Jvm.MethodName) jdk_29_method_65_code (2 : Nat) (Option.some Jvm.ClassFile.FieldType.int), Jvm.Cond.code ({ cls := "com/example/kempt_cursor/kemptcursor/Page", name := "<init>", desc := "(Ljava/util/List;II)V" } : Jvm.MethodName) prog_18_method_1_code (4 : Nat) (Option.none : Option Jvm.ClassFile.FieldType), Jvm.Cond.code ({ cls := "java/util/List", name := "copyOf", desc := "(Ljava/util/Collection;)Ljava/util/List;" } : Jvm.MethodName) jdk_40_method_48_code (1 : Nat) (Option.some (Jvm.ClassFile.FieldType.object "java/util/List")), Jvm.Cond.code ({ cls := "java/util/ImmutableCollections", name := "listCopy", desc := "(Ljava/util/Collection;)Ljava/util/List;" } : Jvm.MethodName) jdk_56_method_3_code (2 : Nat) (Option.some (Jvm.ClassFile.FieldType.object "java/util/List")), Jvm.Cond.code ({ cls := "java/util/ArrayList", name := "isEmpty", desc := "()Z" } : Jvm.MethodName) jdk_38_method_9_code (1 : Nat) (Option.some Jvm.ClassFile.FieldType.boolean), Jvm.Cond.code ({ cls := "java/util/ArrayList", name := "toArray", desc := "()[Ljava/lang/Object;" } : Jvm.MethodName) jdk_38_method_16_code (1 : Nat) (Option.some (Jvm.ClassFile.FieldType.array (Jvm.ClassFile.FieldType.object "java/lang/Object"))), Jvm.Cond.code ({ cls := "java/util/Arrays", name := "copyOf", desc := "([Ljava/lang/Object;I)[Ljava/lang/Object;" } : Jvm.MethodName) jdk_65_method_119_code (2 : Nat) (Option.some (Jvm.ClassFile.FieldType.array (Jvm.ClassFile.FieldType.object "java/lang/Object"))), Jvm.Cond.code ({ cls := "java/util/Arrays", name := "copyOf", desc := "([Ljava/lang/Object;ILjava/lang/Class;)[Ljava/lang/Object;" } : Jvm.MethodName) jdk_65_method_120_code (4 : Nat) (Option.some (Jvm.ClassFile.FieldType.array (Jvm.ClassFile.FieldType.object "java/lang/Object"))), Jvm.Cond.code ({ cls := "java/lang/Math", name := "min", desc := "(II)I" } : Jvm.MethodName) jdk_29_method_69_code (2 : Nat) (Option.some Jvm.ClassFile.FieldType.int), Jvm.Cond.code ({ cls := "java/util/List", name := "of", desc := "([Ljava/lang/Object;)Ljava/util/List;" } : Jvm.MethodName) jdk_40_method_47_code (2 : Nat) (Option.some (Jvm.ClassFile.FieldType.object "java/util/List")), Jvm.Cond.code ({ cls := "java/util/ImmutableCollections$List12", name := "<init>", desc := "(Ljava/lang/Object;Ljava/lang/Object;)V" } : Jvm.MethodName) jdk_44_method_2_code (3 : Nat) (Option.none : Option Jvm.ClassFile.FieldType), Jvm.Cond.code ({ cls := "java/util/ImmutableCollections$AbstractImmutableList", name := "<init>", desc := "()V" } : Jvm.MethodName) jdk_46_method_1_code (1 : Nat) (Option.none : Option Jvm.ClassFile.FieldType), Jvm.Cond.code ({ cls := "java/util/ImmutableCollections$AbstractImmutableCollection", name := "<init>", desc := "()V" } : Jvm.MethodName) jdk_47_method_1_code (1 : Nat) (Option.none : Option Jvm.ClassFile.FieldType), Jvm.Cond.code ({ cls := "java/util/Objects", name := "requireNonNull", desc := "(Ljava/lang/Object;)Ljava/lang/Object;" } : Jvm.MethodName) jdk_31_method_10_code (1 : Nat) (Option.some (Jvm.ClassFile.FieldType.object "java/lang/Object")), Jvm.Cond.code ({ cls := "com/example/kempt_cursor/kemptcursor/Page", name := "reachesStart", desc := "()Z" } : Jvm.MethodName) prog_18_method_3_code (1 : Nat) (Option.some Jvm.ClassFile.FieldType.boolean), Jvm.Cond.code ({ cls := "java/util/List", name := "of", desc := "()Ljava/util/List;" } : Jvm.MethodName) jdk_40_method_36_code (0 : Nat) (Option.some (Jvm.ClassFile.FieldType.object "java/util/List")), Jvm.Cond.code ({ cls := "java/lang/Integer", name := "<init>", desc := "(I)V" } : Jvm.MethodName) jdk_33_method_23_code (2 : Nat) (Option.none : Option Jvm.ClassFile.FieldType), Jvm.Cond.code ({ cls := "java/lang/Number", name := "<init>", desc := "()V" } : Jvm.MethodName) jdk_18_method_1_code (1 : Nat) (Option.none : Option Jvm.ClassFile.FieldType), Jvm.Cond.code ({ cls := "java/util/ImmutableCollections", name := "listFromArray", desc := "([Ljava/lang/Object;)Ljava/util/List;" } : Jvm.MethodName) jdk_56_method_4_code (3 : Nat) (Option.some (Jvm.ClassFile.FieldType.object "java/util/List")), Jvm.Cond.code ({ cls := "java/util/ImmutableCollections$ListN", name := "<init>", desc := "([Ljava/lang/Object;Z)V" } : Jvm.MethodName) jdk_45_method_1_code (3 : Nat) (Option.none : Option Jvm.ClassFile.FieldType), Jvm.Cond.code ({ cls := "java/util/ImmutableCollections$List12", name := "<init>", desc := "(Ljava/lang/Object;)V" } : Jvm.MethodName) jdk_44_method_1_code (2 : Nat) (Option.none : Option Jvm.ClassFile.FieldType)]
set_option maxRecDepth 65536 in
theorem codes_eq : words1.filter isCode = codes1 := rfl
theorem w_codes : ∀ c ∈ words1.filter isCode, c.before args0 about1 = true := by
  rw [codes_eq]
  intro c hc
  simp only [codes1, List.mem_cons, List.not_mem_nil, or_false] at hc
  rcases hc with rfl | rfl | rfl | rfl | rfl | rfl | rfl | rfl | rfl | rfl | rfl | rfl | rfl | rfl | rfl | rfl | rfl | rfl | rfl | rfl | rfl | rfl | rfl | rfl | rfl | rfl | rfl | rfl | rfl | rfl | rfl | rfl | rfl
  · exact w_c0
  · exact w_c1
  · exact w_c2
  · exact w_c3
  · exact w_c4
  · exact w_c5
  · exact w_c6
  · exact w_c7
  · exact w_c8
  · exact w_c9
  · exact w_c10
  · exact w_c11
  · exact w_c12
  · exact w_c13
  · exact w_c14
  · exact w_c15
  · exact w_c16
  · exact w_c17
  · exact w_c18
  · exact w_c19
  · exact w_c20
  · exact w_c21
  · exact w_c22
  · exact w_c23
  · exact w_c24
  · exact w_c25
  · exact w_c26
  · exact w_c27
  · exact w_c28
  · exact w_c29
  · exact w_c30
  · exact w_c31
  · exact w_c32
set_option maxRecDepth 65536 in
theorem w_t1 : (words1.take 24).all (fun c => isCode c || c.before args0 about1) = true := by decide +kernel
set_option maxRecDepth 65536 in
theorem w_t2 : ((words1.drop 24).take 24).all (fun c => isCode c || c.before args0 about1) = true := by decide +kernel
set_option maxRecDepth 65536 in
theorem w_t3 : (((words1.drop 24).drop 24).take 24).all (fun c => isCode c || c.before args0 about1) = true := by decide +kernel
set_option maxRecDepth 65536 in
theorem w_t4 : ((((words1.drop 24).drop 24).drop 24).take 24).all (fun c => isCode c || c.before args0 about1) = true := by decide +kernel
set_option maxRecDepth 65536 in
theorem w_t5 : (((((words1.drop 24).drop 24).drop 24).drop 24).take 24).all (fun c => isCode c || c.before args0 about1) = true := by decide +kernel
set_option maxRecDepth 65536 in
theorem w_t6 : ((((((words1.drop 24).drop 24).drop 24).drop 24).drop 24).take 24).all (fun c => isCode c || c.before args0 about1) = true := by decide +kernel
set_option maxRecDepth 65536 in
theorem w_t7 : (((((((words1.drop 24).drop 24).drop 24).drop 24).drop 24).drop 24).take 24).all (fun c => isCode c || c.before args0 about1) = true := by decide +kernel
set_option maxRecDepth 65536 in
theorem w_t8 : ((((((((words1.drop 24).drop 24).drop 24).drop 24).drop 24).drop 24).drop 24).take 24).all (fun c => isCode c || c.before args0 about1) = true := by decide +kernel
set_option maxRecDepth 65536 in
theorem w_t9 : (((((((((words1.drop 24).drop 24).drop 24).drop 24).drop 24).drop 24).drop 24).drop 24).take 24).all (fun c => isCode c || c.before args0 about1) = true := by decide +kernel
set_option maxRecDepth 65536 in
theorem w_t10 : (((((((((words1.drop 24).drop 24).drop 24).drop 24).drop 24).drop 24).drop 24).drop 24).drop 24).all (fun c => isCode c || c.before args0 about1) = true := by decide +kernel
theorem w_tables : (allAtoms (Jvm.Cond.code x code maxLocals ret :: tables_1)).before args0 about1 = true := by
  rw [allAtoms_all]
  show words1.all (fun c => c.before args0 about1) = true
  refine all_split ?_ w_codes
  rw [← List.take_append_drop 24 words1, List.all_append, w_t1, ← List.take_append_drop 24 (words1.drop 24), List.all_append, w_t2, ← List.take_append_drop 24 ((words1.drop 24).drop 24), List.all_append, w_t3, ← List.take_append_drop 24 (((words1.drop 24).drop 24).drop 24), List.all_append, w_t4, ← List.take_append_drop 24 ((((words1.drop 24).drop 24).drop 24).drop 24), List.all_append, w_t5, ← List.take_append_drop 24 (((((words1.drop 24).drop 24).drop 24).drop 24).drop 24), List.all_append, w_t6, ← List.take_append_drop 24 ((((((words1.drop 24).drop 24).drop 24).drop 24).drop 24).drop 24), List.all_append, w_t7, ← List.take_append_drop 24 (((((((words1.drop 24).drop 24).drop 24).drop 24).drop 24).drop 24).drop 24), List.all_append, w_t8, ← List.take_append_drop 24 ((((((((words1.drop 24).drop 24).drop 24).drop 24).drop 24).drop 24).drop 24).drop 24), List.all_append, w_t9, w_t10]
  rfl
set_option maxRecDepth 65536 in
theorem w_rest : rest_1_c.before args0 about1 = true := by decide +kernel
set_option maxRecDepth 65536 in
theorem w_case : (Jvm.Cond.and given_1 narrow_1).before args0 about1 = true := by decide +kernel
theorem w_applies : (headSpec (Jvm.Cond.code x code maxLocals ret :: tables_1) room_1).applies x e0.platform about1 = true :=
  (Spec.applies_iff w_frames).mpr ⟨w_running, w_runnable, w_alone, w_named, w_hears, w_ripe, w_room, w_tables⟩
set_option maxRecDepth 65536 in
theorem atStart : AtStart classFile x code maxLocals ret World_1 tables_1 room_1 Calls_1 rest_1 Pre_1 launch0 p0 e0 about1 theMethod args0 below0 :=
  ⟨lists_1, trivial, launch0.admits_env _ _ _, launch0.least_env, fairChoices_fair.cas, fairChoices_fair.clock, w_frames, w_args, w_heap, w_applies, ⟨⟨36, k36, 3, by decide +kernel, rfl, rfl, _, rfl, rfl⟩, trivial⟩, w_rest, w_case⟩
end start1
theorem witness_1 : WitnessClaimed_1 := ⟨start1.p0, start1.e0, start1.about1, start1.theMethod, start1.args0, start1.below0, start1.atStart⟩
end Jvm.Pilot.@@N@@
