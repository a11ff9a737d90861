import JvmDerived
import JvmDerived.Pilot.@@N@@Statement
import JvmDerived.Pilot.@@N@@Code
set_option linter.unusedVariables false
set_option linter.unusedSimpArgs false
@@BLOCK:NumsL.lean.txt@@
namespace Jvm.Pilot.@@N@@
open Jvm Jvm.ClassFile Sem Op Lib Jvm.Free Jvm.Stand Jvm.LawKit Jvm.RoadKit Bundle Jvm.Pilot.@@N@@.Jvm.D

section OwnKit
variable {p : Program} {l : Launch} {e : Env} {R : Room} {s : State} {m : MethodId} {args : Array Value} {below : List Frame} {meth : Method} {c : Code} {T : State} {locs : List Loc} {cells slots : Nat}
def own_Go (p : Program) (e : Env) (below : List Frame) (s : State) (Q : Option Value → Heap → List Loc → Prop) (rc rs : Nat) (T : State) (g : JFrame) : Prop :=
  ∃ s₂ o, Steps p.tables e below (T.setTop g) s₂ ∧ s₂.status = .running ∧ Ended s₂ below o ∧ ∃ v L, o = .returned v ∧ Q v s₂.heap L ∧ FrameEnd s o s₂ L rc rs
variable {Q : Option Value → Heap → List Loc → Prop} {rc rs : Nat} {T' : State} {g g' : JFrame}
theorem own_step (st : ∀ target, Steps p.tables e below (T'.setTop g') target → Steps p.tables e below (T.setTop g) target) (k : own_Go p e below s Q rc rs T' g') : own_Go p e below s Q rc rs T g := by
  obtain ⟨s₂, o, h1, h2⟩ := k
  exact ⟨s₂, o, st _ h1, h2⟩
theorem own_tr (st : Steps p.tables e below (T.setTop g) (T'.setTop g')) (k : own_Go p e below s Q rc rs T' g') : own_Go p e below s Q rc rs T g := by
  obtain ⟨s₂, o, h1, h2⟩ := k
  exact ⟨s₂, o, st.trans h1, h2⟩
theorem own_cast (q : g = g') (k : own_Go p e below s Q rc rs T g') : own_Go p e below s Q rc rs T g := q ▸ k
theorem own_done (X : Stand p l e R s m args below meth c T locs cells slots) {v : Option Value} (hv : meth.sig.returnType = none → v = none) (hlk : meth.locks = false)
    (st : ∀ fs, (∀ (f : JFrame) (acts : List Action), f.method = m → f.locked = none → f.entered = [] → (doReturn e (T.setTop f) acts v).1 = T.setFrames fs) → Steps p.tables e below (T.setTop g) (T.setFrames fs))
    (hQ : Q v T.heap locs) (hc : cells ≤ rc) (hs : slots ≤ rs) : own_Go p e below s Q rc rs T g := by
  obtain ⟨fs, hr, hrun, hended, hW, hsame⟩ := X.leave (v := v) hv hlk
  exact ⟨_, _, st fs hr, hrun, hended, v, locs, rfl, hQ, ⟨_, rfl⟩, hW, hsame.mono hc hs⟩
theorem own_rN (X : Stand p l e R s m args below meth c T locs cells slots) (hx : p.tables.exec = Jvm.exec) (hlk : meth.locks = false) {t : FieldType} (hret : meth.sig.returnType = some t) (ht : t = .boolean ∨ t = .byte ∨ t = .char ∨ t = .short) {pc : Nat} {Ls : Array Slot} {z : Int32} {rest : List Value}
    (hd : decode c.code pc = .ok (.ireturn, 1)) (hQ : Q (some (.int (nar t z))) T.heap locs) (hc : cells ≤ rc) (hs : slots ≤ rs) : own_Go p e below s Q rc rs T (mkF m pc Ls (.int z :: rest)) :=
  own_done X (fun h => by rw [hret] at h; cases h) hlk (fun fs hr => retN X hx hret ht hd hr) hQ hc hs
theorem own_rI (X : Stand p l e R s m args below meth c T locs cells slots) (hx : p.tables.exec = Jvm.exec) (hlk : meth.locks = false) (hret : meth.sig.returnType = some .int) {pc : Nat} {Ls : Array Slot} {z : Int32} {rest : List Value}
    (hd : decode c.code pc = .ok (.ireturn, 1)) (hQ : Q (some (.int z)) T.heap locs) (hc : cells ≤ rc) (hs : slots ≤ rs) : own_Go p e below s Q rc rs T (mkF m pc Ls (.int z :: rest)) :=
  own_done X (fun h => by rw [hret] at h; cases h) hlk (fun fs hr => retOut X hx hret rfl (Or.inl ⟨rfl, Or.inl rfl, _, rfl⟩) hd hr) hQ hc hs
theorem own_rJ (X : Stand p l e R s m args below meth c T locs cells slots) (hx : p.tables.exec = Jvm.exec) (hlk : meth.locks = false) (hret : meth.sig.returnType = some .long) {pc : Nat} {Ls : Array Slot} {z : Int64} {rest : List Value}
    (hd : decode c.code pc = .ok (.lreturn, 1)) (hQ : Q (some (.long z)) T.heap locs) (hc : cells ≤ rc) (hs : slots ≤ rs) : own_Go p e below s Q rc rs T (mkF m pc Ls (.long z :: rest)) :=
  own_done X (fun h => by rw [hret] at h; cases h) hlk (fun fs hr => retOut X hx hret rfl (Or.inr (Or.inl ⟨rfl, rfl, _, rfl⟩)) hd hr) hQ hc hs
theorem own_narA {t : FieldType} {w : Value} (ht : t.isReference = true) (hw : w.isRef = true) : narrow t w = w := by cases t <;> cases w <;> first | rfl | cases ht | cases hw
theorem own_rA (X : Stand p l e R s m args below meth c T locs cells slots) (hx : p.tables.exec = Jvm.exec) (hlk : meth.locks = false) {t : FieldType} (hret : meth.sig.returnType = some t) (ht : t.isReference = true) {pc : Nat} {Ls : Array Slot} {w : Value} {rest : List Value} (hw : w.isRef = true)
    (hd : decode c.code pc = .ok (.areturn, 1)) (hQ : Q (some w) T.heap locs) (hc : cells ≤ rc) (hs : slots ≤ rs) : own_Go p e below s Q rc rs T (mkF m pc Ls (w :: rest)) :=
  own_done X (fun h => by rw [hret] at h; cases h) hlk (fun fs hr => retOut X hx hret (own_narA ht hw) (Or.inr (Or.inr (Or.inr (Or.inr ⟨rfl, ht, hw⟩)))) hd hr) hQ hc hs
theorem own_rV (X : Stand p l e R s m args below meth c T locs cells slots) (hx : p.tables.exec = Jvm.exec) (hlk : meth.locks = false) (hret : meth.sig.returnType = none) {pc : Nat} {Ls : Array Slot}
    (hd : decode c.code pc = .ok (.return_, 1)) (hQ : Q none T.heap locs) (hc : cells ≤ rc) (hs : slots ≤ rs) : own_Go p e below s Q rc rs T (mkF m pc Ls []) :=
  own_done X (fun _ => rfl) hlk (fun fs hr => X.returnOut hx hret hd hr) hQ hc hs
end OwnKit

section OwnKit2
variable {p : Program} {l : Launch} {e : Env} {R : Room} {s : State} {m : MethodId} {args : Array Value} {below : List Frame} {meth : Method} {c : Code} {T : State} {locs : List Loc} {cells slots : Nat}
theorem own_privH (X : Stand p l e R s m args below meth c T locs cells slots) (hexec : p.tables.exec = Jvm.exec) {own : String} {index : Nat} {y : MethodName} {bytes : ByteArray} {maxL : Nat} {ret : Option FieldType} {hs : List (Nat × Nat × Nat × Nat)} {nn : Nat}
    (hown : s.vm.findClass own = some m.cls) (hlink : (Cond.methodLink own index y).before args s = true) (hinst : (Cond.instanceMethod y).before args s = true) (hinit : (Cond.instantiable y.cls nn).before args s = true)
    (hpriv : s.PrivateAt y) (hcode : (Cond.codeWith y bytes maxL ret hs).before args s = true) (hy : y.cls ≠ "java/lang/invoke/MethodHandle" ∧ y.cls ≠ "java/lang/invoke/VarHandle")
    {W : Nat} {Pre : Pt → Array Value → Prop} {Post : Pt → Array Value → Option Value → Pt → Prop} (hK : Back l R p e below s args y 3 W Pre Post)
    {g : JFrame} (hg : g.method = m) (hsize : g.locals.size = c.maxLocals) {s₀ : State} (hcome : Steps p.tables e below s₀ (T.setTop g)) {a : Addr} {cell : Cell} (hcell : T.heap[a]? = some cell) (hobj : ∀ q, cell.vm ≠ .statics q)
    {argsL rest : List Value} (hlen : ∀ sig, parseMethodDescriptor y.desc = some sig → argsL.length = sig.parameters.length)
    (hstack : g.stack = argsL.reverse ++ .ref a :: rest) (hW : 2 * g.monitorRoom + (rest.map fun v => v.category).sum ≤ W) (hdg : decode c.code g.pc = .ok (.invokevirtual index, 3))
    (hpre : ∀ vm₁, s.WarmedH vm₁ → Pre ⟨T.setVm vm₁, locs, cells, slots⟩ (.ref a :: argsL).toArray) :
    ∃ (v : Option Value) (vm₁ : Vm) (B : Pt), s.WarmedH vm₁ ∧ Stand p l e R s m args below meth c B.U B.locs B.cells B.slots ∧ Post ⟨T.setVm vm₁, locs, cells, slots⟩ (.ref a :: argsL).toArray v B ∧
      Steps p.tables e below s₀ (B.U.setTop { g with pc := g.pc + 3, stack := v.toList ++ rest }) := by
  obtain ⟨mk, methM, hnamed, hmethM, hstM, habM⟩ := Cond.instanceMethod_spec hinst
  obtain ⟨mk', methM', cM, hn', hm', -, -, -, -, -, -, hsigM⟩ := Cond.codeWith_spec hcode
  cases hnamed.symm.trans hn'
  cases hmethM.symm.trans hm'
  obtain ⟨kP, hkP, -⟩ := className_of_methodNamed hnamed
  obtain ⟨cI, kI, i1, i2, -, i4, -⟩ := Cond.instantiable_spec hinit
  have hkPi : kP.isInterface = false := by
    cases (findClass_of_methodNamed hnamed).symm.trans i1
    cases hkP.symm.trans i2
    cases hq : kP.isInterface with
    | false => rfl
    | true => simp [hq] at i4
  have hsel : selectMethod e.platform s.vm cell.cls mk = .method mk := selectMethod_private hmethM (hpriv mk methM hnamed hmethM)
  obtain ⟨vm₁, X₁, hstep₁⟩ := X.invokevirtual hexec hown hlink hnamed hmethM hstM hkP hkPi hy (a := a) (cell := cell) hcell hobj hsel hmethM habM hkP hkPi (g := g) hg (argsL := argsL) (rest := rest) (hlen _ hsigM) hstack hdg
  obtain ⟨v, B, X', hpost, hsteps⟩ := hK m meth c ⟨T.setVm vm₁, locs, cells, slots⟩ { g with stack := rest } (.invokevirtual index) mk (.ref a :: argsL).toArray X₁ hg hsize hdg hW (X₁.named hnamed) (hpre vm₁ X₁.warmed)
  exact ⟨v, vm₁, B, X₁.warmed, X', hpost, (hcome.trans (hstep₁ _ fun acts => by rw [doInvoke_state]; exact Steps.refl _)).trans hsteps⟩
theorem own_s (T' : State) (g' : JFrame) {Q : Option Value → Heap → List Loc → Prop} {rc rs : Nat} {g : JFrame} (st : ∀ target, Steps p.tables e below (T'.setTop g') target → Steps p.tables e below (T.setTop g) target) (k : own_Go p e below s Q rc rs T' g') : own_Go p e below s Q rc rs T g := own_step st k
end OwnKit2
abbrev u_ : Slot := .unset
abbrev s_ : Slot := .second
abbrev own_j (x : Int64) : Slot := .val (.long x)
def own_L (cap : Int32) (v0 v1 v2 v3 : Int64) : List Value := if cap = 1 then [.long v0] else if cap = 2 then [.long v0, .long v1] else if cap = 3 then [.long v0, .long v1, .long v2] else [.long v0, .long v1, .long v2, .long v3]
def own_cap (cap : Int32) : Prop := cap = 1 ∨ cap = 2 ∨ cap = 3 ∨ cap = 4
def own_sel (g : Int32) (v0 v1 v2 v3 : Int64) : Int64 := if g = 0 then v0 else if g = 1 then v1 else if g = 2 then v2 else v3
def own_upd (g i : Int32) (v d : Int64) : Int64 := if g = i then v + d else v
def own_p10 (k : Int32) : Int64 := if k = 0 then 1 else if k = 1 then 10 else if k = 2 then 100 else 1000
def own_mx (a b : Int32) : Int32 := if a < b then b else a
def own_f (S t : Int32) : Int64 := if S < t then own_p10 (t - S) else 1
def own_abs (x : Int64) : Int64 := if x < 0 then -x else x
def own_in (g cap : Int32) : Prop := ¬ g < 0 ∧ g < cap
theorem own_in4 {g cap : Int32} (hc : own_cap cap) (h : own_in g cap) : (g = 0) ∨ (g = 1 ∧ (1 : Int32) < cap) ∨ (g = 2 ∧ (2 : Int32) < cap) ∨ (g = 3 ∧ (3 : Int32) < cap) := by
  obtain ⟨h1, h2⟩ := h
  have z0 : (0 : Int32).toInt = 0 := by decide
  have z1 : (1 : Int32).toInt = 1 := by decide
  have z2 : (2 : Int32).toInt = 2 := by decide
  have z3 : (3 : Int32).toInt = 3 := by decide
  have z4 : (4 : Int32).toInt = 4 := by decide
  have key : g.toInt = 0 ∨ g.toInt = 1 ∧ 1 < cap.toInt ∨ g.toInt = 2 ∧ 2 < cap.toInt ∨ g.toInt = 3 ∧ 3 < cap.toInt := by
    rw [Int32.lt_iff_toInt_lt, z0] at h1
    rw [Int32.lt_iff_toInt_lt] at h2
    have : cap.toInt = 1 ∨ cap.toInt = 2 ∨ cap.toInt = 3 ∨ cap.toInt = 4 := by rcases hc with rfl | rfl | rfl | rfl <;> decide
    omega
  simp only [Int32.lt_iff_toInt_lt, ← Int32.toInt_inj, z0, z1, z2, z3]
  exact key
theorem own_getL {g cap : Int32} {v0 v1 v2 v3 : Int64} (hc : own_cap cap) (h : own_in g cap) : (own_L cap v0 v1 v2 v3).getD g.toNatClampNeg (.long (0 : Int64)) = .long (own_sel g v0 v1 v2 v3) := by
  rcases own_in4 hc h with rfl | ⟨rfl, k⟩ | ⟨rfl, k⟩ | ⟨rfl, k⟩ <;> rcases hc with rfl | rfl | rfl | rfl <;> first | rfl | exact absurd k (by decide)
theorem own_setL {g cap : Int32} {v0 v1 v2 v3 d : Int64} (hc : own_cap cap) (h : own_in g cap) : (own_L cap v0 v1 v2 v3).set g.toNatClampNeg (.long (own_sel g v0 v1 v2 v3 + d)) = own_L cap (own_upd g 0 v0 d) (own_upd g 1 v1 d) (own_upd g 2 v2 d) (own_upd g 3 v3 d) := by
  rcases own_in4 hc h with rfl | ⟨rfl, k⟩ | ⟨rfl, k⟩ | ⟨rfl, k⟩ <;> rcases hc with rfl | rfl | rfl | rfl <;> first | rfl | exact absurd k (by decide)
theorem own_lenL {g cap : Int32} {v0 v1 v2 v3 : Int64} (hc : own_cap cap) (h : own_in g cap) : g.toNatClampNeg < (own_L cap v0 v1 v2 v3).length := by
  rcases own_in4 hc h with rfl | ⟨rfl, k⟩ | ⟨rfl, k⟩ | ⟨rfl, k⟩ <;> rcases hc with rfl | rfl | rfl | rfl <;> first | decide | exact absurd k (by decide) | (simp [own_L]; done)
/-- the sums: the object o, its array a, the scale, the four places (those beyond the capacity are idle) -/
def own_St (Z : State) (n0 : Nat) (h : Heap) (o a : Addr) (k : ClassId) (cap S : Int32) (v0 v1 v2 v3 : Int64) : Prop :=
  Exa Z h o "com/example/viewlattice/viewlattice/engine/DecimalSums" ∧ Fld Z h o "com/example/viewlattice/viewlattice/engine/DecimalSums" "scale" "I" (.int S) ∧ Fld Z h o "com/example/viewlattice/viewlattice/engine/DecimalSums" "small" "[J" (.ref a) ∧ Arv Z h a k .long cap (own_L cap v0 v1 v2 v3) (.long (0 : Int64)) ∧ o ≠ a ∧ n0 ≤ o ∧ n0 ≤ a
theorem own_St.ext {Z : State} {n0 : Nat} {h h' : Heap} {o a : Addr} {k : ClassId} {cap S : Int32} {v0 v1 v2 v3 : Int64} (F : own_St Z n0 h o a k cap S v0 v1 v2 v3) (E : Ext h h') : own_St Z n0 h' o a k cap S v0 v1 v2 v3 :=
  ⟨F.1.ext E, F.2.1.ext E, F.2.2.1.ext E, F.2.2.2.1.ext E, F.2.2.2.2⟩
theorem own_St.other {Z : State} {n0 : Nat} {h h' : Heap} {o a b : Addr} {k : ClassId} {cap S : Int32} {v0 v1 v2 v3 : Int64} {sl : Nat} {v : Value} (F : own_St Z n0 h o a k cap S v0 v1 v2 v3) (W : Wr h h' b sl v) (q1 : o ≠ b) (q2 : a ≠ b) : own_St Z n0 h' o a k cap S v0 v1 v2 v3 :=
  ⟨F.1.wr W, F.2.1.other W (Or.inl q1), F.2.2.1.other W (Or.inl q1), F.2.2.2.1.other W q2, F.2.2.2.2⟩
theorem own_St.keep {Z : State} {n0 : Nat} {h h' : Heap} {o a : Addr} {k : ClassId} {cap S : Int32} {v0 v1 v2 v3 : Int64} {ws : List Addr} (F : own_St Z n0 h o a k cap S v0 v1 v2 v3) (K : Keep h h' ws) (q1 : o ∉ ws) (q2 : a ∉ ws) : own_St Z n0 h' o a k cap S v0 v1 v2 v3 :=
  ⟨F.1.keep K, F.2.1.keep K q1, F.2.2.1.keep K q1, F.2.2.2.1.keep K q2, F.2.2.2.2⟩
def Q_max (Z : State) (p1 : Int32) (p2 : Int32) (h0 : Heap) (n0 : Nat) (v : Option Value) (h : Heap) (L : List Loc) : Prop := v = some (.int (own_mx p1 p2)) ∧ Fr n0 L ∧ h = h0
theorem ef_rm_max (m : MethodId) (x0 : Int32) (x1 : Int32) : entryFrame m #[(.int x0), (.int x1)] 2 = mkF m 0 #[.val (.int x0), .val (.int x1)] [] := by first | (simp [entryFrame, mkF, argsToLocals, Value.category]; done) | rfl | (simp [entryFrame, mkF, argsToLocals, Value.category] <;> rfl)
theorem d6_0 : decode jdk_29_method_65_code 0 = .ok (.iload_n 0, 1) := by decide +kernel
theorem d6_1 : decode jdk_29_method_65_code 1 = .ok (.iload_n 1, 1) := by decide +kernel
theorem d6_2 : decode jdk_29_method_65_code 2 = .ok (.if_icmp .lt 7, 3) := by decide +kernel
theorem d6_9 : decode jdk_29_method_65_code 9 = .ok (.iload_n 1, 1) := by decide +kernel
theorem d6_10 : decode jdk_29_method_65_code 10 = .ok (.ireturn, 1) := by decide +kernel
theorem d6_5 : decode jdk_29_method_65_code 5 = .ok (.iload_n 0, 1) := by decide +kernel
theorem d6_6 : decode jdk_29_method_65_code 6 = .ok (.goto 4, 3) := by decide +kernel
set_option maxRecDepth 65536 in
set_option maxHeartbeats 40000000 in
theorem rm_max (l : Launch) (Z : State) (a0 : Array Value) (hw : ∀ d ∈ tables_1, d.before a0 Z = true) (ws : List Jvm.Cond) (p1 : Int32) (p2 : Int32) (h0 : Heap) (n0 : Nat) (Z0 : n0 ≤ h0.size)  :
    MetFree l (⟨"java/lang/Math", "max", "(II)I"⟩ : MethodName) (head1 (Jvm.Cond.code (⟨"java/lang/Math", "max", "(II)I"⟩ : MethodName) jdk_29_method_65_code 2 (some (.int)) :: ws) ({ frames := 0, cells := 0, slots := 0, locals := 0 } : Room)) (fun a U => a = #[(.int p1), (.int p2)] ∧ Z.Warmed39 U.vm ∧ U.heap = h0) (fun _ _ _ _ _ => True) (fun _ U o U' => ∃ v L, o = .returned v ∧ (Q_max Z p1 p2 h0 n0) v U'.heap L ∧ FrameEnd U o U' L ({ frames := 0, cells := 0, slots := 0, locals := 0 } : Room).cells ({ frames := 0, cells := 0, slots := 0, locals := 0 } : Room).slots) := by
  refine MetFree.of_bodySF (Jvm.Free.JP.mathPlain rfl (by decide +kernel)) hisR ?_
  intro p e s m args below meth c s₁ Bd hml0 hP hK
  obtain ⟨rfl, hZ, hh⟩ := hP
  have hx := Bd.exec
  have hby := Bd.bytes
  have hW := fun i d (h : tables_1[i]? = some d) => hw d (List.mem_of_getElem? h)
  have hlk : meth.locks = false := BodyLoose.notSynchronized Bd
  have hml : c.maxLocals = 2 := hml0
  have hown : s.vm.findClass "java/lang/Math" = some m.cls := findClass_of_methodNamed Bd.named
  have hnm := (name_of_methodNamed Bd.named Bd.method).1
  have X0 : Stand p l e ({ frames := 0, cells := 0, slots := 0, locals := 0 } : Room) s m #[(.int p1), (.int p2)] below meth c s₁ [] 0 0 := Stand.of_body Bd
  have e0 : s₁.heap = h0 := by rw [← hh, Bd.state]; rfl
  have N0 := Fr.nil n0
  show own_Go p e below s (Q_max Z p1 p2 h0 n0) ({ frames := 0, cells := 0, slots := 0, locals := 0 } : Room).cells ({ frames := 0, cells := 0, slots := 0, locals := 0 } : Room).slots s₁ (entryFrame m #[(.int p1), (.int p2)] 2)
  refine own_cast (g' := (mkF m 0 #[iv p1, iv p2] [])) (ef_rm_max m p1 p2) ?_
  refine own_s s₁ (mkF m 1 #[iv p1, iv p2] [.int p1]) (fun t k => XS.iloadN X0.here hx rfl (hb hby d6_0) rfl k) ?_
  refine own_s s₁ (mkF m 2 #[iv p1, iv p2] [.int p2, .int p1]) (fun t k => XS.iloadN X0.here hx rfl (hb hby d6_1) rfl k) ?_
  by_cases c2 : p1 < p2
  · refine own_s s₁ (mkF m 9 #[iv p1, iv p2] []) (fun t k => XS.icmpYes X0.here hx rfl (pc0 := 2) (pc' := 9) rfl (hb hby d6_2) rfl (tlt c2).1 (by decide) (by decide) k) ?_
    refine own_s s₁ (mkF m 10 #[iv p1, iv p2] [.int p2]) (fun t k => XS.iloadN X0.here hx rfl (hb hby d6_9) rfl k) ?_
    refine own_rI X0 hx hlk Bd.returns (hb hby d6_10) ?_ (by decide) (by decide)
    rw [e0]
    exact ⟨by first | (rw [own_mx, if_pos c2]; done) | (rw [own_mx, if_pos c2]; rfl), N0, rfl⟩
  · refine own_s s₁ (mkF m 5 #[iv p1, iv p2] []) (fun t k => XS.icmpNo X0.here hx rfl (hb hby d6_2) rfl (flt c2).1 k) ?_
    refine own_s s₁ (mkF m 6 #[iv p1, iv p2] [.int p1]) (fun t k => XS.iloadN X0.here hx rfl (hb hby d6_5) rfl k) ?_
    refine own_s s₁ (mkF m 10 #[iv p1, iv p2] [.int p1]) (fun t k => XS.goto X0.here hx rfl (pc0 := 6) (pc' := 10) rfl (hb hby d6_6) (by decide) (by decide) k) ?_
    refine own_rI X0 hx hlk Bd.returns (hb hby d6_10) ?_ (by decide) (by decide)
    rw [e0]
    exact ⟨by first | (rw [own_mx, if_neg c2]; done) | (rw [own_mx, if_neg c2]; rfl), N0, rfl⟩
def Q_abs (Z : State) (q1 : Int64) (h0 : Heap) (n0 : Nat) (v : Option Value) (h : Heap) (L : List Loc) : Prop := v = some (.long (own_abs q1)) ∧ Fr n0 L ∧ h = h0
theorem ef_rm_abs (m : MethodId) (x0 : Int64) : entryFrame m #[(.long x0)] 2 = mkF m 0 #[.val (.long x0), .second] [] := by first | (simp [entryFrame, mkF, argsToLocals, Value.category]; done) | rfl | (simp [entryFrame, mkF, argsToLocals, Value.category] <;> rfl)
theorem d8_0 : decode jdk_29_method_61_code 0 = .ok (.lload_n 0, 1) := by decide +kernel
theorem d8_1 : decode jdk_29_method_61_code 1 = .ok (.lconst 0, 1) := by decide +kernel
theorem d8_2 : decode jdk_29_method_61_code 2 = .ok (.lcmp, 1) := by decide +kernel
theorem d8_3 : decode jdk_29_method_61_code 3 = .ok (.ifCond .ge 8, 3) := by decide +kernel
theorem d8_6 : decode jdk_29_method_61_code 6 = .ok (.lload_n 0, 1) := by decide +kernel
theorem d8_7 : decode jdk_29_method_61_code 7 = .ok (.lneg, 1) := by decide +kernel
theorem d8_8 : decode jdk_29_method_61_code 8 = .ok (.goto 4, 3) := by decide +kernel
theorem d8_12 : decode jdk_29_method_61_code 12 = .ok (.lreturn, 1) := by decide +kernel
theorem d8_11 : decode jdk_29_method_61_code 11 = .ok (.lload_n 0, 1) := by decide +kernel
set_option maxRecDepth 65536 in
set_option maxHeartbeats 40000000 in
theorem rm_abs (l : Launch) (Z : State) (a0 : Array Value) (hw : ∀ d ∈ tables_1, d.before a0 Z = true) (ws : List Jvm.Cond) (q1 : Int64) (h0 : Heap) (n0 : Nat) (Z0 : n0 ≤ h0.size)  :
    MetFree l (⟨"java/lang/Math", "abs", "(J)J"⟩ : MethodName) (head1 (Jvm.Cond.code (⟨"java/lang/Math", "abs", "(J)J"⟩ : MethodName) jdk_29_method_61_code 2 (some (.long)) :: ws) ({ frames := 0, cells := 0, slots := 0, locals := 0 } : Room)) (fun a U => a = #[(.long q1)] ∧ Z.Warmed39 U.vm ∧ U.heap = h0) (fun _ _ _ _ _ => True) (fun _ U o U' => ∃ v L, o = .returned v ∧ (Q_abs Z q1 h0 n0) v U'.heap L ∧ FrameEnd U o U' L ({ frames := 0, cells := 0, slots := 0, locals := 0 } : Room).cells ({ frames := 0, cells := 0, slots := 0, locals := 0 } : Room).slots) := by
  refine MetFree.of_bodySF (Jvm.Free.JP.mathPlain rfl (by decide +kernel)) hisR ?_
  intro p e s m args below meth c s₁ Bd hml0 hP hK
  obtain ⟨rfl, hZ, hh⟩ := hP
  have hx := Bd.exec
  have hby := Bd.bytes
  have hW := fun i d (h : tables_1[i]? = some d) => hw d (List.mem_of_getElem? h)
  have hlk : meth.locks = false := BodyLoose.notSynchronized Bd
  have hml : c.maxLocals = 2 := hml0
  have hown : s.vm.findClass "java/lang/Math" = some m.cls := findClass_of_methodNamed Bd.named
  have hnm := (name_of_methodNamed Bd.named Bd.method).1
  have X0 : Stand p l e ({ frames := 0, cells := 0, slots := 0, locals := 0 } : Room) s m #[(.long q1)] below meth c s₁ [] 0 0 := Stand.of_body Bd
  have e0 : s₁.heap = h0 := by rw [← hh, Bd.state]; rfl
  have N0 := Fr.nil n0
  show own_Go p e below s (Q_abs Z q1 h0 n0) ({ frames := 0, cells := 0, slots := 0, locals := 0 } : Room).cells ({ frames := 0, cells := 0, slots := 0, locals := 0 } : Room).slots s₁ (entryFrame m #[(.long q1)] 2)
  refine own_cast (g' := (mkF m 0 #[own_j q1, s_] [])) (ef_rm_abs m q1) ?_
  refine own_s s₁ (mkF m 1 #[own_j q1, s_] [.long q1]) (fun t k => XS.lloadN X0.here hx rfl (hb hby d8_0) rfl k) ?_
  refine own_s s₁ (mkF m 2 #[own_j q1, s_] [.long 0, .long q1]) (fun t k => XS.lconst X0.here hx rfl (hb hby d8_1) k) ?_
  refine own_s s₁ (mkF m 3 #[own_j q1, s_] [.int (lcmpW q1 (0 : Int64))]) (fun t k => XS.lcmp X0.here hx rfl (hb hby d8_2) rfl k) ?_
  by_cases c3 : q1 < (0 : Int64)
  · refine own_s s₁ (mkF m 6 #[own_j q1, s_] []) (fun t k => XS.ifNo X0.here hx rfl (hb hby d8_3) rfl ((if0 _ _).trans (tlt ((lw_lt _ _).mpr c3)).2.1) k) ?_
    refine own_s s₁ (mkF m 7 #[own_j q1, s_] [.long q1]) (fun t k => XS.lloadN X0.here hx rfl (hb hby d8_6) rfl k) ?_
    refine own_s s₁ (mkF m 8 #[own_j q1, s_] [.long (-q1)]) (fun t k => XS.lneg X0.here hx rfl (hb hby d8_7) rfl k) ?_
    refine own_s s₁ (mkF m 12 #[own_j q1, s_] [.long (-q1)]) (fun t k => XS.goto X0.here hx rfl (pc0 := 8) (pc' := 12) rfl (hb hby d8_8) (by decide) (by decide) k) ?_
    refine own_rJ X0 hx hlk Bd.returns (hb hby d8_12) ?_ (by decide) (by decide)
    rw [e0]
    exact ⟨by first | (rw [own_abs, if_pos c3]; done) | (rw [own_abs, if_pos c3]; rfl), N0, rfl⟩
  · refine own_s s₁ (mkF m 11 #[own_j q1, s_] []) (fun t k => XS.ifYes X0.here hx rfl (pc0 := 3) (pc' := 11) rfl (hb hby d8_3) rfl ((if0 _ _).trans (flt (fun q => c3 ((lw_lt _ _).mp q))).2.1) (by decide) (by decide) k) ?_
    refine own_s s₁ (mkF m 12 #[own_j q1, s_] [.long q1]) (fun t k => XS.lloadN X0.here hx rfl (hb hby d8_11) rfl k) ?_
    refine own_rJ X0 hx hlk Bd.returns (hb hby d8_12) ?_ (by decide) (by decide)
    rw [e0]
    exact ⟨by first | (rw [own_abs, if_neg c3]; done) | (rw [own_abs, if_neg c3]; rfl), N0, rfl⟩
def own_sm (x : Int64) : Prop := -2147483648 < x.toInt ∧ x.toInt < 2147483648
theorem own_abs_nat {x : Int64} (h : own_sm x) : (own_abs x).toUInt64.toNat < 2 ^ 31 := by
  have z0 : (0 : Int64).toInt = 0 := by decide
  have e : (own_abs x).toInt = (x.toInt.natAbs : Int) := by
    unfold own_abs
    obtain ⟨h1, h2⟩ := h
    split <;> rename_i c <;> rw [Int64.lt_iff_toInt_lt, z0] at c
    · rw [Jvm.Kit.i64_neg (by omega)]; omega
    · omega
  have e2 : (own_abs x).toUInt64.toNat = x.toInt.natAbs := by
    have a1 : (own_abs x).toInt = (own_abs x).toBitVec.toInt := rfl
    have a2 : (own_abs x).toUInt64.toNat = (own_abs x).toBitVec.toNat := rfl
    rw [a1, BitVec.toInt_eq_toNat_cond] at e
    rw [a2]
    obtain ⟨h1, h2⟩ := h
    have := (own_abs x).toBitVec.isLt
    split at e <;> omega
  obtain ⟨h1, h2⟩ := h
  omega
theorem own_ors {x y : Int64} (hx : own_sm x) (hy : own_sm y) : ((own_abs x ||| own_abs y).toUInt64 >>> (31 : UInt64)).toInt64 = (0 : Int64) := by
  have h1 := own_abs_nat hx
  have h2 := own_abs_nat hy
  have e : ((own_abs x ||| own_abs y).toUInt64 >>> (31 : UInt64)).toNat = 0 := by
    have a1 : (own_abs x ||| own_abs y).toUInt64 = (own_abs x).toUInt64 ||| (own_abs y).toUInt64 := rfl
    rw [UInt64.toNat_shiftRight, a1, UInt64.toNat_or]
    have b := Nat.or_lt_two_pow h1 h2
    show (_ ||| _) >>> (31 % 64) = 0
    rw [Nat.shiftRight_eq_div_pow]
    exact Nat.div_eq_of_lt b
  have e2 : (own_abs x ||| own_abs y).toUInt64 >>> (31 : UInt64) = 0 := UInt64.toNat_inj.mp (by rw [e]; rfl)
  rw [e2]; rfl
theorem own_addok {x y : Int64} (hx : -4611686018427387904 ≤ x.toInt ∧ x.toInt < 4611686018427387904) (hy : -4611686018427387904 ≤ y.toInt ∧ y.toInt < 4611686018427387904) : ¬ ((x ^^^ (x + y)) &&& (y ^^^ (x + y))) < (0 : Int64) := by
  have z0 : (0 : Int64).toInt = 0 := by decide
  have e : (x + y).toInt = x.toInt + y.toInt := Jvm.Kit.i64_add (by omega) (by omega)
  have sg : ∀ w : Int64, w.toBitVec.msb = decide (w.toInt < 0) := fun w => by
    rw [BitVec.msb_eq_toInt]; rfl
  have sl : ∀ w : Int64, (w < (0 : Int64)) ↔ w.toBitVec.msb = true := fun w => by
    rw [sg, decide_eq_true_iff, Int64.lt_iff_toInt_lt, z0]
  rw [sl, Int64.toBitVec_and, BitVec.msb_and, Int64.toBitVec_xor, Int64.toBitVec_xor, BitVec.msb_xor, BitVec.msb_xor, sg, sg, sg, e]
  intro q
  by_cases a : x.toInt < 0 <;> by_cases b : y.toInt < 0 <;> by_cases d : x.toInt + y.toInt < 0 <;> simp [a, b, d] at q <;> omega

def Q_mul (Z : State) (q1 : Int64) (q2 : Int64) (h0 : Heap) (n0 : Nat) (v : Option Value) (h : Heap) (L : List Loc) : Prop := v = some (.long (q1 * q2)) ∧ Fr n0 L ∧ h = h0
theorem ef_rm_mul (m : MethodId) (x0 : Int64) (x1 : Int64) : entryFrame m #[(.long x0), (.long x1)] 10 = mkF m 0 #[.val (.long x0), .second, .val (.long x1), .second, .unset, .unset, .unset, .unset, .unset, .unset] [] := by first | (simp [entryFrame, mkF, argsToLocals, Value.category]; done) | rfl | (simp [entryFrame, mkF, argsToLocals, Value.category] <;> rfl)
theorem d7_0 : decode jdk_29_method_30_code 0 = .ok (.lload_n 0, 1) := by decide +kernel
theorem d7_1 : decode jdk_29_method_30_code 1 = .ok (.lload_n 2, 1) := by decide +kernel
theorem d7_2 : decode jdk_29_method_30_code 2 = .ok (.lmul, 1) := by decide +kernel
theorem d7_3 : decode jdk_29_method_30_code 3 = .ok (.lstore 4, 2) := by decide +kernel
theorem d7_5 : decode jdk_29_method_30_code 5 = .ok (.lload_n 0, 1) := by decide +kernel
theorem pd_0 : parseMethodDescriptor "(J)J" = some ⟨[.long], some (.long)⟩ := by decide +kernel
theorem d7_6 : decode jdk_29_method_30_code 6 = .ok (.invokestatic 122, 3) := by decide +kernel
theorem d7_9 : decode jdk_29_method_30_code 9 = .ok (.lstore 6, 2) := by decide +kernel
theorem d7_11 : decode jdk_29_method_30_code 11 = .ok (.lload_n 2, 1) := by decide +kernel
theorem d7_12 : decode jdk_29_method_30_code 12 = .ok (.invokestatic 122, 3) := by decide +kernel
theorem d7_15 : decode jdk_29_method_30_code 15 = .ok (.lstore 8, 2) := by decide +kernel
theorem d7_17 : decode jdk_29_method_30_code 17 = .ok (.lload 6, 2) := by decide +kernel
theorem d7_19 : decode jdk_29_method_30_code 19 = .ok (.lload 8, 2) := by decide +kernel
theorem d7_21 : decode jdk_29_method_30_code 21 = .ok (.lor, 1) := by decide +kernel
theorem d7_22 : decode jdk_29_method_30_code 22 = .ok (.bipush 31, 2) := by decide +kernel
theorem d7_24 : decode jdk_29_method_30_code 24 = .ok (.lushr, 1) := by decide +kernel
theorem d7_25 : decode jdk_29_method_30_code 25 = .ok (.lconst 0, 1) := by decide +kernel
theorem d7_26 : decode jdk_29_method_30_code 26 = .ok (.lcmp, 1) := by decide +kernel
theorem d7_27 : decode jdk_29_method_30_code 27 = .ok (.ifCond .eq 44, 3) := by decide +kernel
theorem d7_71 : decode jdk_29_method_30_code 71 = .ok (.lload 4, 2) := by decide +kernel
theorem d7_73 : decode jdk_29_method_30_code 73 = .ok (.lreturn, 1) := by decide +kernel
set_option maxRecDepth 65536 in
set_option maxHeartbeats 40000000 in
theorem rm_mul (l : Launch) (Z : State) (a0 : Array Value) (hw : ∀ d ∈ tables_1, d.before a0 Z = true) (ws : List Jvm.Cond) (q1 : Int64) (q2 : Int64) (h0 : Heap) (n0 : Nat) (Z0 : n0 ≤ h0.size) (hs1 : own_sm q1) (hs2 : own_sm q2) :
    MetFree l (⟨"java/lang/Math", "multiplyExact", "(JJ)J"⟩ : MethodName) (head1 (Jvm.Cond.code (⟨"java/lang/Math", "multiplyExact", "(JJ)J"⟩ : MethodName) jdk_29_method_30_code 10 (some (.long)) :: ws) ({ frames := 1, cells := 0, slots := 0, locals := 13 } : Room)) (fun a U => a = #[(.long q1), (.long q2)] ∧ Z.Warmed39 U.vm ∧ U.heap = h0) (fun _ _ _ _ _ => True) (fun _ U o U' => ∃ v L, o = .returned v ∧ (Q_mul Z q1 q2 h0 n0) v U'.heap L ∧ FrameEnd U o U' L ({ frames := 1, cells := 0, slots := 0, locals := 13 } : Room).cells ({ frames := 1, cells := 0, slots := 0, locals := 13 } : Room).slots) := by
  refine MetFree.of_bodySF (Jvm.Free.JP.mathPlain rfl (by decide +kernel)) hisR ?_
  intro p e s m args below meth c s₁ Bd hml0 hP hK
  obtain ⟨rfl, hZ, hh⟩ := hP
  have hx := Bd.exec
  have hby := Bd.bytes
  have hW := fun i d (h : tables_1[i]? = some d) => hw d (List.mem_of_getElem? h)
  have hlk : meth.locks = false := BodyLoose.notSynchronized Bd
  have hml : c.maxLocals = 10 := hml0
  have hown : s.vm.findClass "java/lang/Math" = some m.cls := findClass_of_methodNamed Bd.named
  have hnm := (name_of_methodNamed Bd.named Bd.method).1
  have X0 : Stand p l e ({ frames := 1, cells := 0, slots := 0, locals := 13 } : Room) s m #[(.long q1), (.long q2)] below meth c s₁ [] 0 0 := Stand.of_body Bd
  have e0 : s₁.heap = h0 := by rw [← hh, Bd.state]; rfl
  have N0 := Fr.nil n0
  show own_Go p e below s (Q_mul Z q1 q2 h0 n0) ({ frames := 1, cells := 0, slots := 0, locals := 13 } : Room).cells ({ frames := 1, cells := 0, slots := 0, locals := 13 } : Room).slots s₁ (entryFrame m #[(.long q1), (.long q2)] 10)
  refine own_cast (g' := (mkF m 0 #[own_j q1, s_, own_j q2, s_, u_, u_, u_, u_, u_, u_] [])) (ef_rm_mul m q1 q2) ?_
  refine own_s s₁ (mkF m 1 #[own_j q1, s_, own_j q2, s_, u_, u_, u_, u_, u_, u_] [.long q1]) (fun t k => XS.lloadN X0.here hx rfl (hb hby d7_0) rfl k) ?_
  refine own_s s₁ (mkF m 2 #[own_j q1, s_, own_j q2, s_, u_, u_, u_, u_, u_, u_] [.long q2, .long q1]) (fun t k => XS.lloadN X0.here hx rfl (hb hby d7_1) rfl k) ?_
  refine own_s s₁ (mkF m 3 #[own_j q1, s_, own_j q2, s_, u_, u_, u_, u_, u_, u_] [.long (q1 * q2)]) (fun t k => XS.lmul X0.here hx rfl (hb hby d7_2) rfl k) ?_
  refine own_s s₁ (mkF m 5 #[own_j q1, s_, own_j q2, s_, own_j (q1 * q2), s_, u_, u_, u_, u_] []) (fun t k => XS.lstore X0.here hx rfl (hb hby d7_3) rfl (l' := #[own_j q1, s_, own_j q2, s_, own_j (q1 * q2), s_, u_, u_, u_, u_]) rfl k) ?_
  refine own_s s₁ (mkF m 6 #[own_j q1, s_, own_j q2, s_, own_j (q1 * q2), s_, u_, u_, u_, u_] [.long q1]) (fun t k => XS.lloadN X0.here hx rfl (hb hby d7_5) rfl k) ?_
  obtain ⟨_, _, ⟨T3, L3, k3, n3⟩, -, X3, ⟨Lc3, hQ3, lq3, yq3, zq3⟩, st3⟩ := Jvm.LawKit.callS X0 hx (y := (⟨"java/lang/Math", "abs", "(J)J"⟩ : MethodName)) hown (mvT hZ (hW 48 _ rfl)) (mvT hZ (hW 49 _ rfl)) (mvT hZ (hW 33 _ rfl)) (mvT hZ (hW 50 _ rfl)) (by decide) (backOf (W := 0) (rm_abs l Z a0 hw [] q1 h0 n0 Z0 ) hZ (hW 50 _ rfl) (hW 33 _ rfl) (by decide) (by decide)) (g := (mkF m 6 #[own_j q1, s_, own_j q2, s_, own_j (q1 * q2), s_, u_, u_, u_, u_] [.long q1])) rfl (by rw [hml]; rfl) (argsL := [(.long q1)]) (rest := []) (lenOf pd_0 rfl) rfl (by show 2 * 0 + _ ≤ _; exact Nat.le_of_eq rfl) (hb hby d7_6) (fun _ _ => ⟨rfl, e0, (by decide : 0 + 0 ≤ _), (by decide : 0 + 0 ≤ _)⟩)
  dsimp only [Pt.U, Pt.locs, Pt.cells, Pt.slots] at X3 lq3 yq3 zq3 st3 hQ3
  subst lq3 yq3 zq3
  obtain ⟨rfl, Nq3, eq2⟩ := hQ3
  have N3 := Fr.app N0 Nq3
  refine own_s T3 (mkF m 9 #[own_j q1, s_, own_j q2, s_, own_j (q1 * q2), s_, u_, u_, u_, u_] [.long (own_abs q1)]) st3 ?_
  refine own_s T3 (mkF m 11 #[own_j q1, s_, own_j q2, s_, own_j (q1 * q2), s_, own_j (own_abs q1), s_, u_, u_] []) (fun t k => XS.lstore X3.here hx rfl (hb hby d7_9) rfl (l' := #[own_j q1, s_, own_j q2, s_, own_j (q1 * q2), s_, own_j (own_abs q1), s_, u_, u_]) rfl k) ?_
  refine own_s T3 (mkF m 12 #[own_j q1, s_, own_j q2, s_, own_j (q1 * q2), s_, own_j (own_abs q1), s_, u_, u_] [.long q2]) (fun t k => XS.lloadN X3.here hx rfl (hb hby d7_11) rfl k) ?_
  obtain ⟨_, _, ⟨T6, L6, k6, n6⟩, -, X6, ⟨Lc6, hQ6, lq6, yq6, zq6⟩, st6⟩ := Jvm.LawKit.callS X3 hx (y := (⟨"java/lang/Math", "abs", "(J)J"⟩ : MethodName)) hown (mvT hZ (hW 48 _ rfl)) (mvT hZ (hW 49 _ rfl)) (mvT hZ (hW 33 _ rfl)) (mvT hZ (hW 50 _ rfl)) (by decide) (backOf (W := 0) (rm_abs l Z a0 hw [] q2 h0 n0 Z0 ) hZ (hW 50 _ rfl) (hW 33 _ rfl) (by decide) (by decide)) (g := (mkF m 12 #[own_j q1, s_, own_j q2, s_, own_j (q1 * q2), s_, own_j (own_abs q1), s_, u_, u_] [.long q2])) rfl (by rw [hml]; rfl) (argsL := [(.long q2)]) (rest := []) (lenOf pd_0 rfl) rfl (by show 2 * 0 + _ ≤ _; exact Nat.le_of_eq rfl) (hb hby d7_12) (fun _ _ => ⟨rfl, eq2, (by decide : 0 + 0 ≤ _), (by decide : 0 + 0 ≤ _)⟩)
  dsimp only [Pt.U, Pt.locs, Pt.cells, Pt.slots] at X6 lq6 yq6 zq6 st6 hQ6
  subst lq6 yq6 zq6
  obtain ⟨rfl, Nq6, eq5⟩ := hQ6
  have N6 := Fr.app N3 Nq6
  refine own_s T6 (mkF m 15 #[own_j q1, s_, own_j q2, s_, own_j (q1 * q2), s_, own_j (own_abs q1), s_, u_, u_] [.long (own_abs q2)]) st6 ?_
  refine own_s T6 (mkF m 17 #[own_j q1, s_, own_j q2, s_, own_j (q1 * q2), s_, own_j (own_abs q1), s_, own_j (own_abs q2), s_] []) (fun t k => XS.lstore X6.here hx rfl (hb hby d7_15) rfl (l' := #[own_j q1, s_, own_j q2, s_, own_j (q1 * q2), s_, own_j (own_abs q1), s_, own_j (own_abs q2), s_]) rfl k) ?_
  refine own_s T6 (mkF m 19 #[own_j q1, s_, own_j q2, s_, own_j (q1 * q2), s_, own_j (own_abs q1), s_, own_j (own_abs q2), s_] [.long (own_abs q1)]) (fun t k => XS.lload X6.here hx rfl (hb hby d7_17) rfl k) ?_
  refine own_s T6 (mkF m 21 #[own_j q1, s_, own_j q2, s_, own_j (q1 * q2), s_, own_j (own_abs q1), s_, own_j (own_abs q2), s_] [.long (own_abs q2), .long (own_abs q1)]) (fun t k => XS.lload X6.here hx rfl (hb hby d7_19) rfl k) ?_
  refine own_s T6 (mkF m 22 #[own_j q1, s_, own_j q2, s_, own_j (q1 * q2), s_, own_j (own_abs q1), s_, own_j (own_abs q2), s_] [.long ((own_abs q1) ||| (own_abs q2))]) (fun t k => XS.lor X6.here hx rfl (hb hby d7_21) rfl k) ?_
  refine own_s T6 (mkF m 24 #[own_j q1, s_, own_j q2, s_, own_j (q1 * q2), s_, own_j (own_abs q1), s_, own_j (own_abs q2), s_] [.int 31, .long ((own_abs q1) ||| (own_abs q2))]) (fun t k => XS.bipush X6.here hx rfl (hb hby d7_22) k) ?_
  refine own_s T6 (mkF m 25 #[own_j q1, s_, own_j q2, s_, own_j (q1 * q2), s_, own_j (own_abs q1), s_, own_j (own_abs q2), s_] [.long ((((own_abs q1) ||| (own_abs q2)).toUInt64 >>> (31 : UInt64)).toInt64)]) (fun t k => XS.lushr X6.here hx rfl (hb hby d7_24) rfl k) ?_
  refine own_s T6 (mkF m 26 #[own_j q1, s_, own_j q2, s_, own_j (q1 * q2), s_, own_j (own_abs q1), s_, own_j (own_abs q2), s_] [.long 0, .long ((((own_abs q1) ||| (own_abs q2)).toUInt64 >>> (31 : UInt64)).toInt64)]) (fun t k => XS.lconst X6.here hx rfl (hb hby d7_25) k) ?_
  refine own_s T6 (mkF m 27 #[own_j q1, s_, own_j q2, s_, own_j (q1 * q2), s_, own_j (own_abs q1), s_, own_j (own_abs q2), s_] [.int (lcmpW ((((own_abs q1) ||| (own_abs q2)).toUInt64 >>> (31 : UInt64)).toInt64) (0 : Int64))]) (fun t k => XS.lcmp X6.here hx rfl (hb hby d7_26) rfl k) ?_
  refine own_s T6 (mkF m 71 #[own_j q1, s_, own_j q2, s_, own_j (q1 * q2), s_, own_j (own_abs q1), s_, own_j (own_abs q2), s_] []) (fun t k => XS.ifYes X6.here hx rfl (pc0 := 27) (pc' := 71) rfl (hb hby d7_27) rfl ((if0 _ _).trans (teq ((lw_eq _ _).mpr (own_ors hs1 hs2))).1) (by decide) (by decide) k) ?_
  refine own_s T6 (mkF m 73 #[own_j q1, s_, own_j q2, s_, own_j (q1 * q2), s_, own_j (own_abs q1), s_, own_j (own_abs q2), s_] [.long (q1 * q2)]) (fun t k => XS.lload X6.here hx rfl (hb hby d7_71) rfl k) ?_
  refine own_rJ X6 hx hlk Bd.returns (hb hby d7_73) ?_ (by decide) (by decide)
  rw [eq5]
  exact ⟨rfl, N6, rfl⟩
def Q_adx (Z : State) (q1 : Int64) (q2 : Int64) (h0 : Heap) (n0 : Nat) (v : Option Value) (h : Heap) (L : List Loc) : Prop := v = some (.long (q1 + q2)) ∧ Fr n0 L ∧ h = h0
theorem ef_rm_adx (m : MethodId) (x0 : Int64) (x1 : Int64) : entryFrame m #[(.long x0), (.long x1)] 6 = mkF m 0 #[.val (.long x0), .second, .val (.long x1), .second, .unset, .unset] [] := by first | (simp [entryFrame, mkF, argsToLocals, Value.category]; done) | rfl | (simp [entryFrame, mkF, argsToLocals, Value.category] <;> rfl)
theorem d9_0 : decode jdk_29_method_25_code 0 = .ok (.lload_n 0, 1) := by decide +kernel
theorem d9_1 : decode jdk_29_method_25_code 1 = .ok (.lload_n 2, 1) := by decide +kernel
theorem d9_2 : decode jdk_29_method_25_code 2 = .ok (.ladd, 1) := by decide +kernel
theorem d9_3 : decode jdk_29_method_25_code 3 = .ok (.lstore 4, 2) := by decide +kernel
theorem d9_5 : decode jdk_29_method_25_code 5 = .ok (.lload_n 0, 1) := by decide +kernel
theorem d9_6 : decode jdk_29_method_25_code 6 = .ok (.lload 4, 2) := by decide +kernel
theorem d9_8 : decode jdk_29_method_25_code 8 = .ok (.lxor, 1) := by decide +kernel
theorem d9_9 : decode jdk_29_method_25_code 9 = .ok (.lload_n 2, 1) := by decide +kernel
theorem d9_10 : decode jdk_29_method_25_code 10 = .ok (.lload 4, 2) := by decide +kernel
theorem d9_12 : decode jdk_29_method_25_code 12 = .ok (.lxor, 1) := by decide +kernel
theorem d9_13 : decode jdk_29_method_25_code 13 = .ok (.land, 1) := by decide +kernel
theorem d9_14 : decode jdk_29_method_25_code 14 = .ok (.lconst 0, 1) := by decide +kernel
theorem d9_15 : decode jdk_29_method_25_code 15 = .ok (.lcmp, 1) := by decide +kernel
theorem d9_16 : decode jdk_29_method_25_code 16 = .ok (.ifCond .ge 13, 3) := by decide +kernel
theorem d9_29 : decode jdk_29_method_25_code 29 = .ok (.lload 4, 2) := by decide +kernel
theorem d9_31 : decode jdk_29_method_25_code 31 = .ok (.lreturn, 1) := by decide +kernel
set_option maxRecDepth 65536 in
set_option maxHeartbeats 40000000 in
theorem rm_adx (l : Launch) (Z : State) (a0 : Array Value) (hw : ∀ d ∈ tables_1, d.before a0 Z = true) (ws : List Jvm.Cond) (q1 : Int64) (q2 : Int64) (h0 : Heap) (n0 : Nat) (Z0 : n0 ≤ h0.size) (hb1 : -4611686018427387904 ≤ q1.toInt ∧ q1.toInt < 4611686018427387904) (hb2 : -4611686018427387904 ≤ q2.toInt ∧ q2.toInt < 4611686018427387904) :
    MetFree l (⟨"java/lang/Math", "addExact", "(JJ)J"⟩ : MethodName) (head1 (Jvm.Cond.code (⟨"java/lang/Math", "addExact", "(JJ)J"⟩ : MethodName) jdk_29_method_25_code 6 (some (.long)) :: ws) ({ frames := 0, cells := 0, slots := 0, locals := 0 } : Room)) (fun a U => a = #[(.long q1), (.long q2)] ∧ Z.Warmed39 U.vm ∧ U.heap = h0) (fun _ _ _ _ _ => True) (fun _ U o U' => ∃ v L, o = .returned v ∧ (Q_adx Z q1 q2 h0 n0) v U'.heap L ∧ FrameEnd U o U' L ({ frames := 0, cells := 0, slots := 0, locals := 0 } : Room).cells ({ frames := 0, cells := 0, slots := 0, locals := 0 } : Room).slots) := by
  refine MetFree.of_bodySF (Jvm.Free.JP.mathPlain rfl (by decide +kernel)) hisR ?_
  intro p e s m args below meth c s₁ Bd hml0 hP hK
  obtain ⟨rfl, hZ, hh⟩ := hP
  have hx := Bd.exec
  have hby := Bd.bytes
  have hW := fun i d (h : tables_1[i]? = some d) => hw d (List.mem_of_getElem? h)
  have hlk : meth.locks = false := BodyLoose.notSynchronized Bd
  have hml : c.maxLocals = 6 := hml0
  have hown : s.vm.findClass "java/lang/Math" = some m.cls := findClass_of_methodNamed Bd.named
  have hnm := (name_of_methodNamed Bd.named Bd.method).1
  have X0 : Stand p l e ({ frames := 0, cells := 0, slots := 0, locals := 0 } : Room) s m #[(.long q1), (.long q2)] below meth c s₁ [] 0 0 := Stand.of_body Bd
  have e0 : s₁.heap = h0 := by rw [← hh, Bd.state]; rfl
  have N0 := Fr.nil n0
  show own_Go p e below s (Q_adx Z q1 q2 h0 n0) ({ frames := 0, cells := 0, slots := 0, locals := 0 } : Room).cells ({ frames := 0, cells := 0, slots := 0, locals := 0 } : Room).slots s₁ (entryFrame m #[(.long q1), (.long q2)] 6)
  refine own_cast (g' := (mkF m 0 #[own_j q1, s_, own_j q2, s_, u_, u_] [])) (ef_rm_adx m q1 q2) ?_
  refine own_s s₁ (mkF m 1 #[own_j q1, s_, own_j q2, s_, u_, u_] [.long q1]) (fun t k => XS.lloadN X0.here hx rfl (hb hby d9_0) rfl k) ?_
  refine own_s s₁ (mkF m 2 #[own_j q1, s_, own_j q2, s_, u_, u_] [.long q2, .long q1]) (fun t k => XS.lloadN X0.here hx rfl (hb hby d9_1) rfl k) ?_
  refine own_s s₁ (mkF m 3 #[own_j q1, s_, own_j q2, s_, u_, u_] [.long (q1 + q2)]) (fun t k => XS.ladd X0.here hx rfl (hb hby d9_2) rfl k) ?_
  refine own_s s₁ (mkF m 5 #[own_j q1, s_, own_j q2, s_, own_j (q1 + q2), s_] []) (fun t k => XS.lstore X0.here hx rfl (hb hby d9_3) rfl (l' := #[own_j q1, s_, own_j q2, s_, own_j (q1 + q2), s_]) rfl k) ?_
  refine own_s s₁ (mkF m 6 #[own_j q1, s_, own_j q2, s_, own_j (q1 + q2), s_] [.long q1]) (fun t k => XS.lloadN X0.here hx rfl (hb hby d9_5) rfl k) ?_
  refine own_s s₁ (mkF m 8 #[own_j q1, s_, own_j q2, s_, own_j (q1 + q2), s_] [.long (q1 + q2), .long q1]) (fun t k => XS.lload X0.here hx rfl (hb hby d9_6) rfl k) ?_
  refine own_s s₁ (mkF m 9 #[own_j q1, s_, own_j q2, s_, own_j (q1 + q2), s_] [.long (q1 ^^^ (q1 + q2))]) (fun t k => XS.lxor X0.here hx rfl (hb hby d9_8) rfl k) ?_
  refine own_s s₁ (mkF m 10 #[own_j q1, s_, own_j q2, s_, own_j (q1 + q2), s_] [.long q2, .long (q1 ^^^ (q1 + q2))]) (fun t k => XS.lloadN X0.here hx rfl (hb hby d9_9) rfl k) ?_
  refine own_s s₁ (mkF m 12 #[own_j q1, s_, own_j q2, s_, own_j (q1 + q2), s_] [.long (q1 + q2), .long q2, .long (q1 ^^^ (q1 + q2))]) (fun t k => XS.lload X0.here hx rfl (hb hby d9_10) rfl k) ?_
  refine own_s s₁ (mkF m 13 #[own_j q1, s_, own_j q2, s_, own_j (q1 + q2), s_] [.long (q2 ^^^ (q1 + q2)), .long (q1 ^^^ (q1 + q2))]) (fun t k => XS.lxor X0.here hx rfl (hb hby d9_12) rfl k) ?_
  refine own_s s₁ (mkF m 14 #[own_j q1, s_, own_j q2, s_, own_j (q1 + q2), s_] [.long ((q1 ^^^ (q1 + q2)) &&& (q2 ^^^ (q1 + q2)))]) (fun t k => XS.land X0.here hx rfl (hb hby d9_13) rfl k) ?_
  refine own_s s₁ (mkF m 15 #[own_j q1, s_, own_j q2, s_, own_j (q1 + q2), s_] [.long 0, .long ((q1 ^^^ (q1 + q2)) &&& (q2 ^^^ (q1 + q2)))]) (fun t k => XS.lconst X0.here hx rfl (hb hby d9_14) k) ?_
  refine own_s s₁ (mkF m 16 #[own_j q1, s_, own_j q2, s_, own_j (q1 + q2), s_] [.int (lcmpW ((q1 ^^^ (q1 + q2)) &&& (q2 ^^^ (q1 + q2))) (0 : Int64))]) (fun t k => XS.lcmp X0.here hx rfl (hb hby d9_15) rfl k) ?_
  refine own_s s₁ (mkF m 29 #[own_j q1, s_, own_j q2, s_, own_j (q1 + q2), s_] []) (fun t k => XS.ifYes X0.here hx rfl (pc0 := 16) (pc' := 29) rfl (hb hby d9_16) rfl ((if0 _ _).trans (flt (fun q => (own_addok hb1 hb2) ((lw_lt _ _).mp q))).2.1) (by decide) (by decide) k) ?_
  refine own_s s₁ (mkF m 31 #[own_j q1, s_, own_j q2, s_, own_j (q1 + q2), s_] [.long (q1 + q2)]) (fun t k => XS.lload X0.here hx rfl (hb hby d9_29) rfl k) ?_
  refine own_rJ X0 hx hlk Bd.returns (hb hby d9_31) ?_ (by decide) (by decide)
  rw [e0]
  exact ⟨rfl, N0, rfl⟩
def Q_p10 (Z : State) (p1 : Int32) (h0 : Heap) (n0 : Nat) (v : Option Value) (h : Heap) (L : List Loc) : Prop := v = some (.long (own_p10 p1)) ∧ Fr n0 L ∧ h = h0
theorem ef_rm_p10 (m : MethodId) (x0 : Int32) : entryFrame m #[(.int x0)] 1 = mkF m 0 #[.val (.int x0)] [] := by first | (simp [entryFrame, mkF, argsToLocals, Value.category]; done) | rfl | (simp [entryFrame, mkF, argsToLocals, Value.category] <;> rfl)
theorem pn_0 : plainName "com/example/viewlattice/viewlattice/engine/DecimalSumsGetUnscaledLongsPinLaw" = true := by first | (simp [plainName, overriddenIn]; done) | decide +kernel
theorem d10_0 : decode method_4_code 0 = .ok (.iload_n 0, 1) := by decide +kernel
theorem d10_1 : decode method_4_code 1 = .ok (.ifCond .ne 5, 3) := by decide +kernel
theorem d10_4 : decode method_4_code 4 = .ok (.lconst 1, 1) := by decide +kernel
theorem d10_5 : decode method_4_code 5 = .ok (.lreturn, 1) := by decide +kernel
theorem d10_6 : decode method_4_code 6 = .ok (.iload_n 0, 1) := by decide +kernel
theorem d10_7 : decode method_4_code 7 = .ok (.iconst 1, 1) := by decide +kernel
theorem d10_8 : decode method_4_code 8 = .ok (.if_icmp .ne 7, 3) := by decide +kernel
theorem d10_11 : decode method_4_code 11 = .ok (.ldc2_w 27, 3) := by decide +kernel
theorem d10_14 : decode method_4_code 14 = .ok (.lreturn, 1) := by decide +kernel
theorem d10_15 : decode method_4_code 15 = .ok (.iload_n 0, 1) := by decide +kernel
theorem d10_16 : decode method_4_code 16 = .ok (.iconst 2, 1) := by decide +kernel
theorem d10_17 : decode method_4_code 17 = .ok (.if_icmp .ne 7, 3) := by decide +kernel
theorem d10_20 : decode method_4_code 20 = .ok (.ldc2_w 43, 3) := by decide +kernel
theorem d10_23 : decode method_4_code 23 = .ok (.lreturn, 1) := by decide +kernel
theorem d10_24 : decode method_4_code 24 = .ok (.ldc2_w 45, 3) := by decide +kernel
theorem d10_27 : decode method_4_code 27 = .ok (.lreturn, 1) := by decide +kernel
set_option maxRecDepth 65536 in
set_option maxHeartbeats 40000000 in
theorem rm_p10 (l : Launch) (Z : State) (a0 : Array Value) (hw : ∀ d ∈ tables_1, d.before a0 Z = true) (ws : List Jvm.Cond) (p1 : Int32) (h0 : Heap) (n0 : Nat) (Z0 : n0 ≤ h0.size)  :
    MetFree l (⟨"com/example/viewlattice/viewlattice/engine/DecimalSumsGetUnscaledLongsPinLaw", "pow10", "(I)J"⟩ : MethodName) (head1 (Jvm.Cond.code (⟨"com/example/viewlattice/viewlattice/engine/DecimalSumsGetUnscaledLongsPinLaw", "pow10", "(I)J"⟩ : MethodName) method_4_code 1 (some (.long)) :: ws) ({ frames := 0, cells := 0, slots := 0, locals := 0 } : Room)) (fun a U => a = #[(.int p1)] ∧ Z.Warmed39 U.vm ∧ U.heap = h0) (fun _ _ _ _ _ => True) (fun _ U o U' => ∃ v L, o = .returned v ∧ (Q_p10 Z p1 h0 n0) v U'.heap L ∧ FrameEnd U o U' L ({ frames := 0, cells := 0, slots := 0, locals := 0 } : Room).cells ({ frames := 0, cells := 0, slots := 0, locals := 0 } : Room).slots) := by
  refine MetFree.of_bodySF (plainFor_of_name pn_0) hisR ?_
  intro p e s m args below meth c s₁ Bd hml0 hP hK
  obtain ⟨rfl, hZ, hh⟩ := hP
  have hx := Bd.exec
  have hby := Bd.bytes
  have hW := fun i d (h : tables_1[i]? = some d) => hw d (List.mem_of_getElem? h)
  have hlk : meth.locks = false := BodyLoose.notSynchronized Bd
  have hml : c.maxLocals = 1 := hml0
  have hown : s.vm.findClass "com/example/viewlattice/viewlattice/engine/DecimalSumsGetUnscaledLongsPinLaw" = some m.cls := findClass_of_methodNamed Bd.named
  have hnm := (name_of_methodNamed Bd.named Bd.method).1
  have X0 : Stand p l e ({ frames := 0, cells := 0, slots := 0, locals := 0 } : Room) s m #[(.int p1)] below meth c s₁ [] 0 0 := Stand.of_body Bd
  have e0 : s₁.heap = h0 := by rw [← hh, Bd.state]; rfl
  have N0 := Fr.nil n0
  show own_Go p e below s (Q_p10 Z p1 h0 n0) ({ frames := 0, cells := 0, slots := 0, locals := 0 } : Room).cells ({ frames := 0, cells := 0, slots := 0, locals := 0 } : Room).slots s₁ (entryFrame m #[(.int p1)] 1)
  refine own_cast (g' := (mkF m 0 #[iv p1] [])) (ef_rm_p10 m p1) ?_
  refine own_s s₁ (mkF m 1 #[iv p1] [.int p1]) (fun t k => XS.iloadN X0.here hx rfl (hb hby d10_0) rfl k) ?_
  by_cases c1 : p1 = (0 : Int32)
  · refine own_s s₁ (mkF m 4 #[iv p1] []) (fun t k => XS.ifNo X0.here hx rfl (hb hby d10_1) rfl ((if0 _ _).trans (teq c1).2) k) ?_
    refine own_s s₁ (mkF m 5 #[iv p1] [.long 1]) (fun t k => XS.lconst X0.here hx rfl (hb hby d10_4) k) ?_
    refine own_rJ X0 hx hlk Bd.returns (hb hby d10_5) ?_ (by decide) (by decide)
    rw [e0]
    exact ⟨by first | (rw [own_p10, if_pos c1]; done) | (rw [own_p10, if_pos c1]; rfl), N0, rfl⟩
  · refine own_s s₁ (mkF m 6 #[iv p1] []) (fun t k => XS.ifYes X0.here hx rfl (pc0 := 1) (pc' := 6) rfl (hb hby d10_1) rfl ((if0 _ _).trans (feq c1).2) (by decide) (by decide) k) ?_
    refine own_s s₁ (mkF m 7 #[iv p1] [.int p1]) (fun t k => XS.iloadN X0.here hx rfl (hb hby d10_6) rfl k) ?_
    refine own_s s₁ (mkF m 8 #[iv p1] [.int 1, .int p1]) (fun t k => XS.iconst X0.here hx rfl (hb hby d10_7) k) ?_
    by_cases c8 : p1 = (1 : Int32)
    · refine own_s s₁ (mkF m 11 #[iv p1] []) (fun t k => XS.icmpNo X0.here hx rfl (hb hby d10_8) rfl (teq c8).2 k) ?_
      refine own_s s₁ (mkF m 14 #[iv p1] [.long 10]) (X0.ldc2Long hx hown (mvT hZ (hW 54 _ rfl)) (g := (mkF m 11 #[iv p1] [])) rfl (hb hby d10_11)) ?_
      refine own_rJ X0 hx hlk Bd.returns (hb hby d10_14) ?_ (by decide) (by decide)
      rw [e0]
      exact ⟨by first | (rw [own_p10, if_neg c1, if_pos c8]; done) | (rw [own_p10, if_neg c1, if_pos c8]; rfl), N0, rfl⟩
    · refine own_s s₁ (mkF m 15 #[iv p1] []) (fun t k => XS.icmpYes X0.here hx rfl (pc0 := 8) (pc' := 15) rfl (hb hby d10_8) rfl (feq c8).2 (by decide) (by decide) k) ?_
      refine own_s s₁ (mkF m 16 #[iv p1] [.int p1]) (fun t k => XS.iloadN X0.here hx rfl (hb hby d10_15) rfl k) ?_
      refine own_s s₁ (mkF m 17 #[iv p1] [.int 2, .int p1]) (fun t k => XS.iconst X0.here hx rfl (hb hby d10_16) k) ?_
      by_cases c17 : p1 = (2 : Int32)
      · refine own_s s₁ (mkF m 20 #[iv p1] []) (fun t k => XS.icmpNo X0.here hx rfl (hb hby d10_17) rfl (teq c17).2 k) ?_
        refine own_s s₁ (mkF m 23 #[iv p1] [.long 100]) (X0.ldc2Long hx hown (mvT hZ (hW 65 _ rfl)) (g := (mkF m 20 #[iv p1] [])) rfl (hb hby d10_20)) ?_
        refine own_rJ X0 hx hlk Bd.returns (hb hby d10_23) ?_ (by decide) (by decide)
        rw [e0]
        exact ⟨by first | (rw [own_p10, if_neg c1, if_neg c8, if_pos c17]; done) | (rw [own_p10, if_neg c1, if_neg c8, if_pos c17]; rfl), N0, rfl⟩
      · refine own_s s₁ (mkF m 24 #[iv p1] []) (fun t k => XS.icmpYes X0.here hx rfl (pc0 := 17) (pc' := 24) rfl (hb hby d10_17) rfl (feq c17).2 (by decide) (by decide) k) ?_
        refine own_s s₁ (mkF m 27 #[iv p1] [.long 1000]) (X0.ldc2Long hx hown (mvT hZ (hW 59 _ rfl)) (g := (mkF m 24 #[iv p1] [])) rfl (hb hby d10_24)) ?_
        refine own_rJ X0 hx hlk Bd.returns (hb hby d10_27) ?_ (by decide) (by decide)
        rw [e0]
        exact ⟨by first | (rw [own_p10, if_neg c1, if_neg c8, if_neg c17]; done) | (rw [own_p10, if_neg c1, if_neg c8, if_neg c17]; rfl), N0, rfl⟩
def Q_gsc (Z : State) (ob : Addr) (ar : Addr) (kr : ClassId) (cap : Int32) (S : Int32) (v0 : Int64) (v1 : Int64) (v2 : Int64) (v3 : Int64) (h0 : Heap) (n0 : Nat) (v : Option Value) (h : Heap) (L : List Loc) : Prop := v = some (.int S) ∧ Fr n0 L ∧ h = h0
theorem ef_rm_gsc (m : MethodId) (x0 : Addr) : entryFrame m #[(.ref x0)] 1 = mkF m 0 #[.val (.ref x0)] [] := by first | (simp [entryFrame, mkF, argsToLocals, Value.category]; done) | rfl | (simp [entryFrame, mkF, argsToLocals, Value.category] <;> rfl)
theorem pn_1 : plainName "com/example/viewlattice/viewlattice/engine/DecimalSums" = true := by first | (simp [plainName, overriddenIn]; done) | decide +kernel
theorem d11_0 : decode prog_40_method_3_code 0 = .ok (.aload_n 0, 1) := by decide +kernel
theorem d11_1 : decode prog_40_method_3_code 1 = .ok (.getfield 13, 3) := by decide +kernel
theorem d11_4 : decode prog_40_method_3_code 4 = .ok (.ireturn, 1) := by decide +kernel
set_option maxRecDepth 65536 in
set_option maxHeartbeats 40000000 in
theorem rm_gsc (l : Launch) (Z : State) (a0 : Array Value) (hw : ∀ d ∈ tables_1, d.before a0 Z = true) (ws : List Jvm.Cond) (ob : Addr) (ar : Addr) (kr : ClassId) (cap : Int32) (S : Int32) (v0 : Int64) (v1 : Int64) (v2 : Int64) (v3 : Int64) (h0 : Heap) (n0 : Nat) (Z0 : n0 ≤ h0.size) (F_0 : own_St Z n0 h0 ob ar kr cap S v0 v1 v2 v3) :
    MetFree l (⟨"com/example/viewlattice/viewlattice/engine/DecimalSums", "getScale", "()I"⟩ : MethodName) (head1 (Jvm.Cond.code (⟨"com/example/viewlattice/viewlattice/engine/DecimalSums", "getScale", "()I"⟩ : MethodName) prog_40_method_3_code 1 (some (.int)) :: ws) ({ frames := 0, cells := 0, slots := 0, locals := 0 } : Room)) (fun a U => a = #[(.ref ob)] ∧ Z.Warmed39 U.vm ∧ U.heap = h0) (fun _ _ _ _ _ => True) (fun _ U o U' => ∃ v L, o = .returned v ∧ (Q_gsc Z ob ar kr cap S v0 v1 v2 v3 h0 n0) v U'.heap L ∧ FrameEnd U o U' L ({ frames := 0, cells := 0, slots := 0, locals := 0 } : Room).cells ({ frames := 0, cells := 0, slots := 0, locals := 0 } : Room).slots) := by
  refine MetFree.of_bodySF (plainFor_of_name pn_1) hisR ?_
  intro p e s m args below meth c s₁ Bd hml0 hP hK
  obtain ⟨rfl, hZ, hh⟩ := hP
  have hx := Bd.exec
  have hby := Bd.bytes
  have hW := fun i d (h : tables_1[i]? = some d) => hw d (List.mem_of_getElem? h)
  have hlk : meth.locks = false := BodyLoose.notSynchronized Bd
  have hml : c.maxLocals = 1 := hml0
  have hown : s.vm.findClass "com/example/viewlattice/viewlattice/engine/DecimalSums" = some m.cls := findClass_of_methodNamed Bd.named
  have hnm := (name_of_methodNamed Bd.named Bd.method).1
  have X0 : Stand p l e ({ frames := 0, cells := 0, slots := 0, locals := 0 } : Room) s m #[(.ref ob)] below meth c s₁ [] 0 0 := Stand.of_body Bd
  have e0 : s₁.heap = h0 := by rw [← hh, Bd.state]; rfl
  have N0 := Fr.nil n0
  show own_Go p e below s (Q_gsc Z ob ar kr cap S v0 v1 v2 v3 h0 n0) ({ frames := 0, cells := 0, slots := 0, locals := 0 } : Room).cells ({ frames := 0, cells := 0, slots := 0, locals := 0 } : Room).slots s₁ (entryFrame m #[(.ref ob)] 1)
  refine own_cast (g' := (mkF m 0 #[rv ob] [])) (ef_rm_gsc m ob) ?_
  refine own_s s₁ (mkF m 1 #[rv ob] [.ref ob]) (fun t k => XS.aloadN X0.here hx rfl (hb hby d11_0) rfl rfl k) ?_
  obtain ⟨T1, X1, e1, st1⟩ := getF X0 hx hZ hown (host := "") (Or.inl (hW 14 _ rfl)) Via.refl e0 F_0.2.1 (g := (mkF m 1 #[rv ob] [.ref ob])) rfl rfl (hb hby d11_1)
  refine own_s T1 (mkF m 4 #[rv ob] [.int S]) st1 ?_
  refine own_rI X1 hx hlk Bd.returns (hb hby d11_4) ?_ (by decide) (by decide)
  rw [e1]
  exact ⟨rfl, N0, rfl⟩
def Q_gul (Z : State) (ob : Addr) (ar : Addr) (kr : ClassId) (cap : Int32) (S : Int32) (v0 : Int64) (v1 : Int64) (v2 : Int64) (v3 : Int64) (h0 : Heap) (n0 : Nat) (v : Option Value) (h : Heap) (L : List Loc) : Prop := v = some (.ref ar) ∧ Fr n0 L ∧ h = h0
theorem ef_rm_gul (m : MethodId) (x0 : Addr) : entryFrame m #[(.ref x0)] 1 = mkF m 0 #[.val (.ref x0)] [] := by first | (simp [entryFrame, mkF, argsToLocals, Value.category]; done) | rfl | (simp [entryFrame, mkF, argsToLocals, Value.category] <;> rfl)
theorem d3_0 : decode prog_40_method_5_code 0 = .ok (.aload_n 0, 1) := by decide +kernel
theorem d3_1 : decode prog_40_method_5_code 1 = .ok (.getfield 7, 3) := by decide +kernel
theorem d3_4 : decode prog_40_method_5_code 4 = .ok (.ifnonnull 13, 3) := by decide +kernel
theorem d3_17 : decode prog_40_method_5_code 17 = .ok (.aload_n 0, 1) := by decide +kernel
theorem d3_18 : decode prog_40_method_5_code 18 = .ok (.getfield 7, 3) := by decide +kernel
theorem d3_21 : decode prog_40_method_5_code 21 = .ok (.areturn, 1) := by decide +kernel
set_option maxRecDepth 65536 in
set_option maxHeartbeats 40000000 in
theorem rm_gul (l : Launch) (Z : State) (a0 : Array Value) (hw : ∀ d ∈ tables_1, d.before a0 Z = true) (ws : List Jvm.Cond) (ob : Addr) (ar : Addr) (kr : ClassId) (cap : Int32) (S : Int32) (v0 : Int64) (v1 : Int64) (v2 : Int64) (v3 : Int64) (h0 : Heap) (n0 : Nat) (Z0 : n0 ≤ h0.size) (F_0 : own_St Z n0 h0 ob ar kr cap S v0 v1 v2 v3) :
    MetFree l (⟨"com/example/viewlattice/viewlattice/engine/DecimalSums", "getUnscaledLongs", "()[J"⟩ : MethodName) (head1 (Jvm.Cond.code (⟨"com/example/viewlattice/viewlattice/engine/DecimalSums", "getUnscaledLongs", "()[J"⟩ : MethodName) prog_40_method_5_code 1 (some (.array .long)) :: ws) ({ frames := 0, cells := 0, slots := 0, locals := 0 } : Room)) (fun a U => a = #[(.ref ob)] ∧ Z.Warmed39 U.vm ∧ U.heap = h0) (fun _ _ _ _ _ => True) (fun _ U o U' => ∃ v L, o = .returned v ∧ (Q_gul Z ob ar kr cap S v0 v1 v2 v3 h0 n0) v U'.heap L ∧ FrameEnd U o U' L ({ frames := 0, cells := 0, slots := 0, locals := 0 } : Room).cells ({ frames := 0, cells := 0, slots := 0, locals := 0 } : Room).slots) := by
  refine MetFree.of_bodySF (plainFor_of_name pn_1) hisR ?_
  intro p e s m args below meth c s₁ Bd hml0 hP hK
  obtain ⟨rfl, hZ, hh⟩ := hP
  have hx := Bd.exec
  have hby := Bd.bytes
  have hW := fun i d (h : tables_1[i]? = some d) => hw d (List.mem_of_getElem? h)
  have hlk : meth.locks = false := BodyLoose.notSynchronized Bd
  have hml : c.maxLocals = 1 := hml0
  have hown : s.vm.findClass "com/example/viewlattice/viewlattice/engine/DecimalSums" = some m.cls := findClass_of_methodNamed Bd.named
  have hnm := (name_of_methodNamed Bd.named Bd.method).1
  have X0 : Stand p l e ({ frames := 0, cells := 0, slots := 0, locals := 0 } : Room) s m #[(.ref ob)] below meth c s₁ [] 0 0 := Stand.of_body Bd
  have e0 : s₁.heap = h0 := by rw [← hh, Bd.state]; rfl
  have N0 := Fr.nil n0
  show own_Go p e below s (Q_gul Z ob ar kr cap S v0 v1 v2 v3 h0 n0) ({ frames := 0, cells := 0, slots := 0, locals := 0 } : Room).cells ({ frames := 0, cells := 0, slots := 0, locals := 0 } : Room).slots s₁ (entryFrame m #[(.ref ob)] 1)
  refine own_cast (g' := (mkF m 0 #[rv ob] [])) (ef_rm_gul m ob) ?_
  refine own_s s₁ (mkF m 1 #[rv ob] [.ref ob]) (fun t k => XS.aloadN X0.here hx rfl (hb hby d3_0) rfl rfl k) ?_
  obtain ⟨T1, X1, e1, st1⟩ := getF X0 hx hZ hown (host := "") (Or.inl (hW 12 _ rfl)) Via.refl e0 F_0.2.2.1 (g := (mkF m 1 #[rv ob] [.ref ob])) rfl rfl (hb hby d3_1)
  refine own_s T1 (mkF m 4 #[rv ob] [.ref ar]) st1 ?_
  refine own_s T1 (mkF m 17 #[rv ob] []) (fun t k => XS.ifnonnullYes X1.here hx rfl (pc0 := 4) (pc' := 17) rfl (hb hby d3_4) rfl (by decide) (by decide) k) ?_
  refine own_s T1 (mkF m 18 #[rv ob] [.ref ob]) (fun t k => XS.aloadN X1.here hx rfl (hb hby d3_17) rfl rfl k) ?_
  obtain ⟨T2, X2, e2, st2⟩ := getF X1 hx hZ hown (host := "") (Or.inl (hW 12 _ rfl)) Via.refl e1 F_0.2.2.1 (g := (mkF m 18 #[rv ob] [.ref ob])) rfl rfl (hb hby d3_18)
  refine own_s T2 (mkF m 21 #[rv ob] [.ref ar]) st2 ?_
  refine own_rA X2 hx hlk Bd.returns rfl (w := (.ref ar)) rfl (hb hby d3_21) ?_ (by decide) (by decide)
  rw [e2]
  exact ⟨rfl, N0, rfl⟩
def Q_dsi (Z : State) (ob : Addr) (cap : Int32) (S : Int32) (u1 : Value) (u2 : Value) (h0 : Heap) (n0 : Nat) (v : Option Value) (h : Heap) (L : List Loc) : Prop := ∃ (b : Addr) (kb : ClassId), v = none ∧ Fr n0 L ∧ Keep h0 h [ob] ∧ h0.size ≤ b ∧ ob ≠ b ∧ own_St Z n0 h ob b kb cap S (0 : Int64) (0 : Int64) (0 : Int64) (0 : Int64)
theorem ef_rm_dsi (m : MethodId) (x0 : Addr) (x1 : Int32) (x2 : Int32) : entryFrame m #[(.ref x0), (.int x1), (.int x2)] 3 = mkF m 0 #[.val (.ref x0), .val (.int x1), .val (.int x2)] [] := by first | (simp [entryFrame, mkF, argsToLocals, Value.category]; done) | rfl | (simp [entryFrame, mkF, argsToLocals, Value.category] <;> rfl)
theorem d1_0 : decode prog_40_method_1_code 0 = .ok (.aload_n 0, 1) := by decide +kernel
theorem d1_1 : decode prog_40_method_1_code 1 = .ok (.invokespecial 1, 3) := by decide +kernel
theorem d1_4 : decode prog_40_method_1_code 4 = .ok (.aload_n 0, 1) := by decide +kernel
theorem d1_5 : decode prog_40_method_1_code 5 = .ok (.iload_n 1, 1) := by decide +kernel
theorem d1_6 : decode prog_40_method_1_code 6 = .ok (.newarray .long, 2) := by decide +kernel
theorem d1_8 : decode prog_40_method_1_code 8 = .ok (.putfield 7, 3) := by decide +kernel
theorem d1_11 : decode prog_40_method_1_code 11 = .ok (.aload_n 0, 1) := by decide +kernel
theorem d1_12 : decode prog_40_method_1_code 12 = .ok (.iload_n 2, 1) := by decide +kernel
theorem d1_13 : decode prog_40_method_1_code 13 = .ok (.putfield 13, 3) := by decide +kernel
theorem d1_16 : decode prog_40_method_1_code 16 = .ok (.return_, 1) := by decide +kernel
set_option maxRecDepth 65536 in
set_option maxHeartbeats 40000000 in
theorem rm_dsi (l : Launch) (Z : State) (a0 : Array Value) (hw : ∀ d ∈ tables_1, d.before a0 Z = true) (ws : List Jvm.Cond) (ob : Addr) (cap : Int32) (S : Int32) (u1 : Value) (u2 : Value) (h0 : Heap) (n0 : Nat) (Z0 : n0 ≤ h0.size) (F_0 : Exa Z h0 ob "com/example/viewlattice/viewlattice/engine/DecimalSums") (F_1 : Fld Z h0 ob "com/example/viewlattice/viewlattice/engine/DecimalSums" "small" "[J" u1) (F_2 : Fld Z h0 ob "com/example/viewlattice/viewlattice/engine/DecimalSums" "scale" "I" u2) (o_ob : n0 ≤ ob) (hcap : own_cap cap) :
    MetFree l (⟨"com/example/viewlattice/viewlattice/engine/DecimalSums", "<init>", "(II)V"⟩ : MethodName) (head1 (Jvm.Cond.code (⟨"com/example/viewlattice/viewlattice/engine/DecimalSums", "<init>", "(II)V"⟩ : MethodName) prog_40_method_1_code 3 none :: ws) ({ frames := 1, cells := 1, slots := 4, locals := 12 } : Room)) (fun a U => a = #[(.ref ob), (.int cap), (.int S)] ∧ Z.Warmed39 U.vm ∧ U.heap = h0) (fun _ _ _ _ _ => True) (fun _ U o U' => ∃ v L, o = .returned v ∧ (Q_dsi Z ob cap S u1 u2 h0 n0) v U'.heap L ∧ FrameEnd U o U' L ({ frames := 1, cells := 1, slots := 4, locals := 12 } : Room).cells ({ frames := 1, cells := 1, slots := 4, locals := 12 } : Room).slots) := by
  refine MetFree.of_bodySF (plainFor_of_name pn_1) hisR ?_
  intro p e s m args below meth c s₁ Bd hml0 hP hK
  obtain ⟨rfl, hZ, hh⟩ := hP
  have hx := Bd.exec
  have hby := Bd.bytes
  have hW := fun i d (h : tables_1[i]? = some d) => hw d (List.mem_of_getElem? h)
  have hlk : meth.locks = false := BodyLoose.notSynchronized Bd
  have hml : c.maxLocals = 3 := hml0
  have hown : s.vm.findClass "com/example/viewlattice/viewlattice/engine/DecimalSums" = some m.cls := findClass_of_methodNamed Bd.named
  have hnm := (name_of_methodNamed Bd.named Bd.method).1
  have X0 : Stand p l e ({ frames := 1, cells := 1, slots := 4, locals := 12 } : Room) s m #[(.ref ob), (.int cap), (.int S)] below meth c s₁ [] 0 0 := Stand.of_body Bd
  have e0 : s₁.heap = h0 := by rw [← hh, Bd.state]; rfl
  have N0 := Fr.nil n0
  show own_Go p e below s (Q_dsi Z ob cap S u1 u2 h0 n0) ({ frames := 1, cells := 1, slots := 4, locals := 12 } : Room).cells ({ frames := 1, cells := 1, slots := 4, locals := 12 } : Room).slots s₁ (entryFrame m #[(.ref ob), (.int cap), (.int S)] 3)
  refine own_cast (g' := (mkF m 0 #[rv ob, iv cap, iv S] [])) (ef_rm_dsi m ob cap S) ?_
  have K0 : Keep h0 h0 [ob] := Keep.refl _ _
  rcases hcap with rfl | rfl | rfl | rfl
  · refine own_s s₁ (mkF m 1 #[rv ob, iv 1, iv S] [.ref ob]) (fun t k => XS.aloadN X0.here hx rfl (hb hby d1_0) rfl rfl k) ?_
    obtain ⟨T1, X1, e1, st1⟩ := initO X0 hx hZ hown (hW 8 _ rfl) (hW 9 _ rfl) (hW 10 _ rfl) e0 (g := (mkF m 1 #[rv ob, iv 1, iv S] [.ref ob])) rfl (by rw [hml]; rfl) rfl (hb hby d1_1) (by decide) (W := 0) (by show 2 * 0 + _ ≤ _; exact Nat.le_of_eq rfl) (by decide)
    refine own_s T1 (mkF m 4 #[rv ob, iv 1, iv S] []) st1 ?_
    refine own_s T1 (mkF m 5 #[rv ob, iv 1, iv S] [.ref ob]) (fun t k => XS.aloadN X1.here hx rfl (hb hby d1_4) rfl rfl k) ?_
    refine own_s T1 (mkF m 6 #[rv ob, iv 1, iv S] [.int 1, .ref ob]) (fun t k => XS.iloadN X1.here hx rfl (hb hby d1_5) rfl k) ?_
    obtain ⟨T2, h2, k2, X2, e2, E2, A2, st2⟩ := newP X1 hx hZ (hW 11 _ rfl) e1 (g := (mkF m 6 #[rv ob, iv 1, iv S] [.int 1, .ref ob])) rfl (hb hby d1_6) rfl (by decide) (cap := 1) (by decide) (by decide) (by decide : 0 + 1 ≤ _) (by decide : 0 + 1 ≤ _)
    obtain ⟨ad2, g_ad2⟩ : ∃ z, z = h0.size := ⟨_, rfl⟩
    rw [← g_ad2] at A2 st2
    have g3 : Exa Z h2 ob "com/example/viewlattice/viewlattice/engine/DecimalSums" := F_0.ext E2
    have g4 : Fld Z h2 ob "com/example/viewlattice/viewlattice/engine/DecimalSums" "small" "[J" u1 := F_1.ext E2
    have g5 : Fld Z h2 ob "com/example/viewlattice/viewlattice/engine/DecimalSums" "scale" "I" u2 := F_2.ext E2
    have ne2_1 : ob ≠ ad2 := Nat.ne_of_lt (by rw [g_ad2]; exact F_0.lt)
    have o2 : n0 ≤ ad2 := (Nat.le_trans Z0 (Nat.le_of_eq g_ad2.symm))
    have Z2 : n0 ≤ h2.size := (Nat.le_trans Z0 E2.1)
    have f2 : h0.size ≤ ad2 := by rw [g_ad2]; exact K0.1
    have K6 : Keep h0 h2 [ob] := K0.ext E2
    have V2 : Arv Z h2 ad2 k2 .long (1 : Int32) [(.long (0 : Int64))] (.long (0 : Int64)) := (Arv.new A2 (by decide)).pad (pad_rep [] (.long (0 : Int64)) 1)
    refine own_s T2 (mkF m 8 #[rv ob, iv 1, iv S] [.ref ad2, .ref ob]) st2 ?_
    obtain ⟨T7, h7, X7, e7, W7, st7⟩ := putF X2 hx hZ hown (host := "") (Or.inl (hW 12 _ rfl)) Via.refl e2 g4 g3 (Or.inl (hW 13 _ rfl)) (hW 3 _ rfl) (ty := .array .long) (by decide) rfl rfl (g := (mkF m 8 #[rv ob, iv 1, iv S] [.ref ad2, .ref ob])) rfl rfl (hb hby d1_8)
    have g8 : Exa Z h7 ob "com/example/viewlattice/viewlattice/engine/DecimalSums" := g3.wr W7
    have g9 : Fld Z h7 ob "com/example/viewlattice/viewlattice/engine/DecimalSums" "small" "[J" (.ref ad2) := g4.same W7
    have g10 : Fld Z h7 ob "com/example/viewlattice/viewlattice/engine/DecimalSums" "scale" "I" u2 := g5.other W7 (Or.inr (slot_ne (Or.inl (hW 15 _ rfl)) (Or.inl (hW 13 _ rfl)) (by decide) (t := .int) (t' := .array .long) (by decide) (by decide)))
    have g11 : Arv Z h7 ad2 k2 .long (1 : Int32) [(.long (0 : Int64))] (.long (0 : Int64)) := V2.other W7 (Ne.symm ne2_1)
    have K12 : Keep h0 h7 [ob] := K6.wr W7 (Or.inl (List.mem_of_getElem? (i := 0) rfl))
    have N7 := Fr.snoc X7 N0 o_ob
    have Z7 : n0 ≤ h7.size := (Nat.le_trans Z2 (Nat.le_of_eq W7.size.symm))
    refine own_s T7 (mkF m 11 #[rv ob, iv 1, iv S] []) st7 ?_
    refine own_s T7 (mkF m 12 #[rv ob, iv 1, iv S] [.ref ob]) (fun t k => XS.aloadN X7.here hx rfl (hb hby d1_11) rfl rfl k) ?_
    refine own_s T7 (mkF m 13 #[rv ob, iv 1, iv S] [.int S, .ref ob]) (fun t k => XS.iloadN X7.here hx rfl (hb hby d1_12) rfl k) ?_
    obtain ⟨T13, h13, X13, e13, W13, st13⟩ := putF X7 hx hZ hown (host := "") (Or.inl (hW 14 _ rfl)) Via.refl e7 g10 g8 (Or.inl (hW 15 _ rfl)) (hW 3 _ rfl) (ty := .int) (by decide) rfl rfl (g := (mkF m 13 #[rv ob, iv 1, iv S] [.int S, .ref ob])) rfl rfl (hb hby d1_13)
    have g14 : Exa Z h13 ob "com/example/viewlattice/viewlattice/engine/DecimalSums" := g8.wr W13
    have g15 : Fld Z h13 ob "com/example/viewlattice/viewlattice/engine/DecimalSums" "small" "[J" (.ref ad2) := g9.other W13 (Or.inr (slot_ne (Or.inl (hW 13 _ rfl)) (Or.inl (hW 15 _ rfl)) (by decide) (t := .array .long) (t' := .int) (by decide) (by decide)))
    have g16 : Fld Z h13 ob "com/example/viewlattice/viewlattice/engine/DecimalSums" "scale" "I" (.int S) := g10.same W13
    have g17 : Arv Z h13 ad2 k2 .long (1 : Int32) [(.long (0 : Int64))] (.long (0 : Int64)) := g11.other W13 (Ne.symm ne2_1)
    have K18 : Keep h0 h13 [ob] := K12.wr W13 (Or.inl (List.mem_of_getElem? (i := 0) rfl))
    have N13 := Fr.snoc X13 N7 o_ob
    have Z13 : n0 ≤ h13.size := (Nat.le_trans Z7 (Nat.le_of_eq W13.size.symm))
    refine own_s T13 (mkF m 16 #[rv ob, iv 1, iv S] []) st13 ?_
    refine own_rV X13 hx hlk Bd.returns (hb hby d1_16) ?_ (by decide) (by decide)
    rw [e13]
    exact ⟨ad2, k2, rfl, N13, K18, f2, ne2_1, ⟨g14, g16, g15, g17, ne2_1, o_ob, o2⟩⟩
  · refine own_s s₁ (mkF m 1 #[rv ob, iv 2, iv S] [.ref ob]) (fun t k => XS.aloadN X0.here hx rfl (hb hby d1_0) rfl rfl k) ?_
    obtain ⟨T19, X19, e19, st19⟩ := initO X0 hx hZ hown (hW 8 _ rfl) (hW 9 _ rfl) (hW 10 _ rfl) e0 (g := (mkF m 1 #[rv ob, iv 2, iv S] [.ref ob])) rfl (by rw [hml]; rfl) rfl (hb hby d1_1) (by decide) (W := 0) (by show 2 * 0 + _ ≤ _; exact Nat.le_of_eq rfl) (by decide)
    refine own_s T19 (mkF m 4 #[rv ob, iv 2, iv S] []) st19 ?_
    refine own_s T19 (mkF m 5 #[rv ob, iv 2, iv S] [.ref ob]) (fun t k => XS.aloadN X19.here hx rfl (hb hby d1_4) rfl rfl k) ?_
    refine own_s T19 (mkF m 6 #[rv ob, iv 2, iv S] [.int 2, .ref ob]) (fun t k => XS.iloadN X19.here hx rfl (hb hby d1_5) rfl k) ?_
    obtain ⟨T20, h20, k20, X20, e20, E20, A20, st20⟩ := newP X19 hx hZ (hW 11 _ rfl) e19 (g := (mkF m 6 #[rv ob, iv 2, iv S] [.int 2, .ref ob])) rfl (hb hby d1_6) rfl (by decide) (cap := 2) (by decide) (by decide) (by decide : 0 + 1 ≤ _) (by decide : 0 + 2 ≤ _)
    obtain ⟨ad20, g_ad20⟩ : ∃ z, z = h0.size := ⟨_, rfl⟩
    rw [← g_ad20] at A20 st20
    have g21 : Exa Z h20 ob "com/example/viewlattice/viewlattice/engine/DecimalSums" := F_0.ext E20
    have g22 : Fld Z h20 ob "com/example/viewlattice/viewlattice/engine/DecimalSums" "small" "[J" u1 := F_1.ext E20
    have g23 : Fld Z h20 ob "com/example/viewlattice/viewlattice/engine/DecimalSums" "scale" "I" u2 := F_2.ext E20
    have ne20_1 : ob ≠ ad20 := Nat.ne_of_lt (by rw [g_ad20]; exact F_0.lt)
    have o20 : n0 ≤ ad20 := (Nat.le_trans Z0 (Nat.le_of_eq g_ad20.symm))
    have Z20 : n0 ≤ h20.size := (Nat.le_trans Z0 E20.1)
    have f20 : h0.size ≤ ad20 := by rw [g_ad20]; exact K0.1
    have K24 : Keep h0 h20 [ob] := K0.ext E20
    have V20 : Arv Z h20 ad20 k20 .long (2 : Int32) [(.long (0 : Int64)), (.long (0 : Int64))] (.long (0 : Int64)) := (Arv.new A20 (by decide)).pad (pad_rep [] (.long (0 : Int64)) 2)
    refine own_s T20 (mkF m 8 #[rv ob, iv 2, iv S] [.ref ad20, .ref ob]) st20 ?_
    obtain ⟨T25, h25, X25, e25, W25, st25⟩ := putF X20 hx hZ hown (host := "") (Or.inl (hW 12 _ rfl)) Via.refl e20 g22 g21 (Or.inl (hW 13 _ rfl)) (hW 3 _ rfl) (ty := .array .long) (by decide) rfl rfl (g := (mkF m 8 #[rv ob, iv 2, iv S] [.ref ad20, .ref ob])) rfl rfl (hb hby d1_8)
    have g26 : Exa Z h25 ob "com/example/viewlattice/viewlattice/engine/DecimalSums" := g21.wr W25
    have g27 : Fld Z h25 ob "com/example/viewlattice/viewlattice/engine/DecimalSums" "small" "[J" (.ref ad20) := g22.same W25
    have g28 : Fld Z h25 ob "com/example/viewlattice/viewlattice/engine/DecimalSums" "scale" "I" u2 := g23.other W25 (Or.inr (slot_ne (Or.inl (hW 15 _ rfl)) (Or.inl (hW 13 _ rfl)) (by decide) (t := .int) (t' := .array .long) (by decide) (by decide)))
    have g29 : Arv Z h25 ad20 k20 .long (2 : Int32) [(.long (0 : Int64)), (.long (0 : Int64))] (.long (0 : Int64)) := V20.other W25 (Ne.symm ne20_1)
    have K30 : Keep h0 h25 [ob] := K24.wr W25 (Or.inl (List.mem_of_getElem? (i := 0) rfl))
    have N25 := Fr.snoc X25 N0 o_ob
    have Z25 : n0 ≤ h25.size := (Nat.le_trans Z20 (Nat.le_of_eq W25.size.symm))
    refine own_s T25 (mkF m 11 #[rv ob, iv 2, iv S] []) st25 ?_
    refine own_s T25 (mkF m 12 #[rv ob, iv 2, iv S] [.ref ob]) (fun t k => XS.aloadN X25.here hx rfl (hb hby d1_11) rfl rfl k) ?_
    refine own_s T25 (mkF m 13 #[rv ob, iv 2, iv S] [.int S, .ref ob]) (fun t k => XS.iloadN X25.here hx rfl (hb hby d1_12) rfl k) ?_
    obtain ⟨T31, h31, X31, e31, W31, st31⟩ := putF X25 hx hZ hown (host := "") (Or.inl (hW 14 _ rfl)) Via.refl e25 g28 g26 (Or.inl (hW 15 _ rfl)) (hW 3 _ rfl) (ty := .int) (by decide) rfl rfl (g := (mkF m 13 #[rv ob, iv 2, iv S] [.int S, .ref ob])) rfl rfl (hb hby d1_13)
    have g32 : Exa Z h31 ob "com/example/viewlattice/viewlattice/engine/DecimalSums" := g26.wr W31
    have g33 : Fld Z h31 ob "com/example/viewlattice/viewlattice/engine/DecimalSums" "small" "[J" (.ref ad20) := g27.other W31 (Or.inr (slot_ne (Or.inl (hW 13 _ rfl)) (Or.inl (hW 15 _ rfl)) (by decide) (t := .array .long) (t' := .int) (by decide) (by decide)))
    have g34 : Fld Z h31 ob "com/example/viewlattice/viewlattice/engine/DecimalSums" "scale" "I" (.int S) := g28.same W31
    have g35 : Arv Z h31 ad20 k20 .long (2 : Int32) [(.long (0 : Int64)), (.long (0 : Int64))] (.long (0 : Int64)) := g29.other W31 (Ne.symm ne20_1)
    have K36 : Keep h0 h31 [ob] := K30.wr W31 (Or.inl (List.mem_of_getElem? (i := 0) rfl))
    have N31 := Fr.snoc X31 N25 o_ob
    have Z31 : n0 ≤ h31.size := (Nat.le_trans Z25 (Nat.le_of_eq W31.size.symm))
    refine own_s T31 (mkF m 16 #[rv ob, iv 2, iv S] []) st31 ?_
    refine own_rV X31 hx hlk Bd.returns (hb hby d1_16) ?_ (by decide) (by decide)
    rw [e31]
    exact ⟨ad20, k20, rfl, N31, K36, f20, ne20_1, ⟨g32, g34, g33, g35, ne20_1, o_ob, o20⟩⟩
  · refine own_s s₁ (mkF m 1 #[rv ob, iv 3, iv S] [.ref ob]) (fun t k => XS.aloadN X0.here hx rfl (hb hby d1_0) rfl rfl k) ?_
    obtain ⟨T37, X37, e37, st37⟩ := initO X0 hx hZ hown (hW 8 _ rfl) (hW 9 _ rfl) (hW 10 _ rfl) e0 (g := (mkF m 1 #[rv ob, iv 3, iv S] [.ref ob])) rfl (by rw [hml]; rfl) rfl (hb hby d1_1) (by decide) (W := 0) (by show 2 * 0 + _ ≤ _; exact Nat.le_of_eq rfl) (by decide)
    refine own_s T37 (mkF m 4 #[rv ob, iv 3, iv S] []) st37 ?_
    refine own_s T37 (mkF m 5 #[rv ob, iv 3, iv S] [.ref ob]) (fun t k => XS.aloadN X37.here hx rfl (hb hby d1_4) rfl rfl k) ?_
    refine own_s T37 (mkF m 6 #[rv ob, iv 3, iv S] [.int 3, .ref ob]) (fun t k => XS.iloadN X37.here hx rfl (hb hby d1_5) rfl k) ?_
    obtain ⟨T38, h38, k38, X38, e38, E38, A38, st38⟩ := newP X37 hx hZ (hW 11 _ rfl) e37 (g := (mkF m 6 #[rv ob, iv 3, iv S] [.int 3, .ref ob])) rfl (hb hby d1_6) rfl (by decide) (cap := 3) (by decide) (by decide) (by decide : 0 + 1 ≤ _) (by decide : 0 + 3 ≤ _)
    obtain ⟨ad38, g_ad38⟩ : ∃ z, z = h0.size := ⟨_, rfl⟩
    rw [← g_ad38] at A38 st38
    have g39 : Exa Z h38 ob "com/example/viewlattice/viewlattice/engine/DecimalSums" := F_0.ext E38
    have g40 : Fld Z h38 ob "com/example/viewlattice/viewlattice/engine/DecimalSums" "small" "[J" u1 := F_1.ext E38
    have g41 : Fld Z h38 ob "com/example/viewlattice/viewlattice/engine/DecimalSums" "scale" "I" u2 := F_2.ext E38
    have ne38_1 : ob ≠ ad38 := Nat.ne_of_lt (by rw [g_ad38]; exact F_0.lt)
    have o38 : n0 ≤ ad38 := (Nat.le_trans Z0 (Nat.le_of_eq g_ad38.symm))
    have Z38 : n0 ≤ h38.size := (Nat.le_trans Z0 E38.1)
    have f38 : h0.size ≤ ad38 := by rw [g_ad38]; exact K0.1
    have K42 : Keep h0 h38 [ob] := K0.ext E38
    have V38 : Arv Z h38 ad38 k38 .long (3 : Int32) [(.long (0 : Int64)), (.long (0 : Int64)), (.long (0 : Int64))] (.long (0 : Int64)) := (Arv.new A38 (by decide)).pad (pad_rep [] (.long (0 : Int64)) 3)
    refine own_s T38 (mkF m 8 #[rv ob, iv 3, iv S] [.ref ad38, .ref ob]) st38 ?_
    obtain ⟨T43, h43, X43, e43, W43, st43⟩ := putF X38 hx hZ hown (host := "") (Or.inl (hW 12 _ rfl)) Via.refl e38 g40 g39 (Or.inl (hW 13 _ rfl)) (hW 3 _ rfl) (ty := .array .long) (by decide) rfl rfl (g := (mkF m 8 #[rv ob, iv 3, iv S] [.ref ad38, .ref ob])) rfl rfl (hb hby d1_8)
    have g44 : Exa Z h43 ob "com/example/viewlattice/viewlattice/engine/DecimalSums" := g39.wr W43
    have g45 : Fld Z h43 ob "com/example/viewlattice/viewlattice/engine/DecimalSums" "small" "[J" (.ref ad38) := g40.same W43
    have g46 : Fld Z h43 ob "com/example/viewlattice/viewlattice/engine/DecimalSums" "scale" "I" u2 := g41.other W43 (Or.inr (slot_ne (Or.inl (hW 15 _ rfl)) (Or.inl (hW 13 _ rfl)) (by decide) (t := .int) (t' := .array .long) (by decide) (by decide)))
    have g47 : Arv Z h43 ad38 k38 .long (3 : Int32) [(.long (0 : Int64)), (.long (0 : Int64)), (.long (0 : Int64))] (.long (0 : Int64)) := V38.other W43 (Ne.symm ne38_1)
    have K48 : Keep h0 h43 [ob] := K42.wr W43 (Or.inl (List.mem_of_getElem? (i := 0) rfl))
    have N43 := Fr.snoc X43 N0 o_ob
    have Z43 : n0 ≤ h43.size := (Nat.le_trans Z38 (Nat.le_of_eq W43.size.symm))
    refine own_s T43 (mkF m 11 #[rv ob, iv 3, iv S] []) st43 ?_
    refine own_s T43 (mkF m 12 #[rv ob, iv 3, iv S] [.ref ob]) (fun t k => XS.aloadN X43.here hx rfl (hb hby d1_11) rfl rfl k) ?_
    refine own_s T43 (mkF m 13 #[rv ob, iv 3, iv S] [.int S, .ref ob]) (fun t k => XS.iloadN X43.here hx rfl (hb hby d1_12) rfl k) ?_
    obtain ⟨T49, h49, X49, e49, W49, st49⟩ := putF X43 hx hZ hown (host := "") (Or.inl (hW 14 _ rfl)) Via.refl e43 g46 g44 (Or.inl (hW 15 _ rfl)) (hW 3 _ rfl) (ty := .int) (by decide) rfl rfl (g := (mkF m 13 #[rv ob, iv 3, iv S] [.int S, .ref ob])) rfl rfl (hb hby d1_13)
    have g50 : Exa Z h49 ob "com/example/viewlattice/viewlattice/engine/DecimalSums" := g44.wr W49
    have g51 : Fld Z h49 ob "com/example/viewlattice/viewlattice/engine/DecimalSums" "small" "[J" (.ref ad38) := g45.other W49 (Or.inr (slot_ne (Or.inl (hW 13 _ rfl)) (Or.inl (hW 15 _ rfl)) (by decide) (t := .array .long) (t' := .int) (by decide) (by decide)))
    have g52 : Fld Z h49 ob "com/example/viewlattice/viewlattice/engine/DecimalSums" "scale" "I" (.int S) := g46.same W49
    have g53 : Arv Z h49 ad38 k38 .long (3 : Int32) [(.long (0 : Int64)), (.long (0 : Int64)), (.long (0 : Int64))] (.long (0 : Int64)) := g47.other W49 (Ne.symm ne38_1)
    have K54 : Keep h0 h49 [ob] := K48.wr W49 (Or.inl (List.mem_of_getElem? (i := 0) rfl))
    have N49 := Fr.snoc X49 N43 o_ob
    have Z49 : n0 ≤ h49.size := (Nat.le_trans Z43 (Nat.le_of_eq W49.size.symm))
    refine own_s T49 (mkF m 16 #[rv ob, iv 3, iv S] []) st49 ?_
    refine own_rV X49 hx hlk Bd.returns (hb hby d1_16) ?_ (by decide) (by decide)
    rw [e49]
    exact ⟨ad38, k38, rfl, N49, K54, f38, ne38_1, ⟨g50, g52, g51, g53, ne38_1, o_ob, o38⟩⟩
  · refine own_s s₁ (mkF m 1 #[rv ob, iv 4, iv S] [.ref ob]) (fun t k => XS.aloadN X0.here hx rfl (hb hby d1_0) rfl rfl k) ?_
    obtain ⟨T55, X55, e55, st55⟩ := initO X0 hx hZ hown (hW 8 _ rfl) (hW 9 _ rfl) (hW 10 _ rfl) e0 (g := (mkF m 1 #[rv ob, iv 4, iv S] [.ref ob])) rfl (by rw [hml]; rfl) rfl (hb hby d1_1) (by decide) (W := 0) (by show 2 * 0 + _ ≤ _; exact Nat.le_of_eq rfl) (by decide)
    refine own_s T55 (mkF m 4 #[rv ob, iv 4, iv S] []) st55 ?_
    refine own_s T55 (mkF m 5 #[rv ob, iv 4, iv S] [.ref ob]) (fun t k => XS.aloadN X55.here hx rfl (hb hby d1_4) rfl rfl k) ?_
    refine own_s T55 (mkF m 6 #[rv ob, iv 4, iv S] [.int 4, .ref ob]) (fun t k => XS.iloadN X55.here hx rfl (hb hby d1_5) rfl k) ?_
    obtain ⟨T56, h56, k56, X56, e56, E56, A56, st56⟩ := newP X55 hx hZ (hW 11 _ rfl) e55 (g := (mkF m 6 #[rv ob, iv 4, iv S] [.int 4, .ref ob])) rfl (hb hby d1_6) rfl (by decide) (cap := 4) (by decide) (by decide) (by decide : 0 + 1 ≤ _) (by decide : 0 + 4 ≤ _)
    obtain ⟨ad56, g_ad56⟩ : ∃ z, z = h0.size := ⟨_, rfl⟩
    rw [← g_ad56] at A56 st56
    have g57 : Exa Z h56 ob "com/example/viewlattice/viewlattice/engine/DecimalSums" := F_0.ext E56
    have g58 : Fld Z h56 ob "com/example/viewlattice/viewlattice/engine/DecimalSums" "small" "[J" u1 := F_1.ext E56
    have g59 : Fld Z h56 ob "com/example/viewlattice/viewlattice/engine/DecimalSums" "scale" "I" u2 := F_2.ext E56
    have ne56_1 : ob ≠ ad56 := Nat.ne_of_lt (by rw [g_ad56]; exact F_0.lt)
    have o56 : n0 ≤ ad56 := (Nat.le_trans Z0 (Nat.le_of_eq g_ad56.symm))
    have Z56 : n0 ≤ h56.size := (Nat.le_trans Z0 E56.1)
    have f56 : h0.size ≤ ad56 := by rw [g_ad56]; exact K0.1
    have K60 : Keep h0 h56 [ob] := K0.ext E56
    have V56 : Arv Z h56 ad56 k56 .long (4 : Int32) [(.long (0 : Int64)), (.long (0 : Int64)), (.long (0 : Int64)), (.long (0 : Int64))] (.long (0 : Int64)) := (Arv.new A56 (by decide)).pad (pad_rep [] (.long (0 : Int64)) 4)
    refine own_s T56 (mkF m 8 #[rv ob, iv 4, iv S] [.ref ad56, .ref ob]) st56 ?_
    obtain ⟨T61, h61, X61, e61, W61, st61⟩ := putF X56 hx hZ hown (host := "") (Or.inl (hW 12 _ rfl)) Via.refl e56 g58 g57 (Or.inl (hW 13 _ rfl)) (hW 3 _ rfl) (ty := .array .long) (by decide) rfl rfl (g := (mkF m 8 #[rv ob, iv 4, iv S] [.ref ad56, .ref ob])) rfl rfl (hb hby d1_8)
    have g62 : Exa Z h61 ob "com/example/viewlattice/viewlattice/engine/DecimalSums" := g57.wr W61
    have g63 : Fld Z h61 ob "com/example/viewlattice/viewlattice/engine/DecimalSums" "small" "[J" (.ref ad56) := g58.same W61
    have g64 : Fld Z h61 ob "com/example/viewlattice/viewlattice/engine/DecimalSums" "scale" "I" u2 := g59.other W61 (Or.inr (slot_ne (Or.inl (hW 15 _ rfl)) (Or.inl (hW 13 _ rfl)) (by decide) (t := .int) (t' := .array .long) (by decide) (by decide)))
    have g65 : Arv Z h61 ad56 k56 .long (4 : Int32) [(.long (0 : Int64)), (.long (0 : Int64)), (.long (0 : Int64)), (.long (0 : Int64))] (.long (0 : Int64)) := V56.other W61 (Ne.symm ne56_1)
    have K66 : Keep h0 h61 [ob] := K60.wr W61 (Or.inl (List.mem_of_getElem? (i := 0) rfl))
    have N61 := Fr.snoc X61 N0 o_ob
    have Z61 : n0 ≤ h61.size := (Nat.le_trans Z56 (Nat.le_of_eq W61.size.symm))
    refine own_s T61 (mkF m 11 #[rv ob, iv 4, iv S] []) st61 ?_
    refine own_s T61 (mkF m 12 #[rv ob, iv 4, iv S] [.ref ob]) (fun t k => XS.aloadN X61.here hx rfl (hb hby d1_11) rfl rfl k) ?_
    refine own_s T61 (mkF m 13 #[rv ob, iv 4, iv S] [.int S, .ref ob]) (fun t k => XS.iloadN X61.here hx rfl (hb hby d1_12) rfl k) ?_
    obtain ⟨T67, h67, X67, e67, W67, st67⟩ := putF X61 hx hZ hown (host := "") (Or.inl (hW 14 _ rfl)) Via.refl e61 g64 g62 (Or.inl (hW 15 _ rfl)) (hW 3 _ rfl) (ty := .int) (by decide) rfl rfl (g := (mkF m 13 #[rv ob, iv 4, iv S] [.int S, .ref ob])) rfl rfl (hb hby d1_13)
    have g68 : Exa Z h67 ob "com/example/viewlattice/viewlattice/engine/DecimalSums" := g62.wr W67
    have g69 : Fld Z h67 ob "com/example/viewlattice/viewlattice/engine/DecimalSums" "small" "[J" (.ref ad56) := g63.other W67 (Or.inr (slot_ne (Or.inl (hW 13 _ rfl)) (Or.inl (hW 15 _ rfl)) (by decide) (t := .array .long) (t' := .int) (by decide) (by decide)))
    have g70 : Fld Z h67 ob "com/example/viewlattice/viewlattice/engine/DecimalSums" "scale" "I" (.int S) := g64.same W67
    have g71 : Arv Z h67 ad56 k56 .long (4 : Int32) [(.long (0 : Int64)), (.long (0 : Int64)), (.long (0 : Int64)), (.long (0 : Int64))] (.long (0 : Int64)) := g65.other W67 (Ne.symm ne56_1)
    have K72 : Keep h0 h67 [ob] := K66.wr W67 (Or.inl (List.mem_of_getElem? (i := 0) rfl))
    have N67 := Fr.snoc X67 N61 o_ob
    have Z67 : n0 ≤ h67.size := (Nat.le_trans Z61 (Nat.le_of_eq W67.size.symm))
    refine own_s T67 (mkF m 16 #[rv ob, iv 4, iv S] []) st67 ?_
    refine own_rV X67 hx hlk Bd.returns (hb hby d1_16) ?_ (by decide) (by decide)
    rw [e67]
    exact ⟨ad56, k56, rfl, N67, K72, f56, ne56_1, ⟨g68, g70, g69, g71, ne56_1, o_ob, o56⟩⟩
def Q_cel0 (Z : State) (ar : Addr) (kr : ClassId) (cap : Int32) (g : Int32) (g2 : Int32) (t1 : Int64) (t2 : Int64) (v0 : Int64) (v1 : Int64) (v2 : Int64) (v3 : Int64) (h0 : Heap) (n0 : Nat) (v : Option Value) (h : Heap) (L : List Loc) : Prop := v = some (.int (1 : Int32)) ∧ Fr n0 L ∧ h = h0
theorem ef_rm_cel0 (m : MethodId) (x0 : Addr) (x1 : Int32) (x2 : Int32) (x3 : Int32) (x4 : Int32) (x5 : Int64) (x6 : Int64) : entryFrame m #[(.ref x0), (.int x1), (.int x2), (.int x3), (.int x4), (.long x5), (.long x6)] 11 = mkF m 0 #[.val (.ref x0), .val (.int x1), .val (.int x2), .val (.int x3), .val (.int x4), .val (.long x5), .second, .val (.long x6), .second, .unset, .unset] [] := by first | (simp [entryFrame, mkF, argsToLocals, Value.category]; done) | rfl | (simp [entryFrame, mkF, argsToLocals, Value.category] <;> rfl)
theorem d4_0 : decode method_3_code 0 = .ok (.iload_n 1, 1) := by decide +kernel
theorem d4_1 : decode method_3_code 1 = .ok (.iload_n 2, 1) := by decide +kernel
theorem d4_2 : decode method_3_code 2 = .ok (.if_icmp .lt 5, 3) := by decide +kernel
theorem d4_7 : decode method_3_code 7 = .ok (.iload_n 1, 1) := by decide +kernel
theorem d4_8 : decode method_3_code 8 = .ok (.iload_n 3, 1) := by decide +kernel
theorem d4_9 : decode method_3_code 9 = .ok (.if_icmp .ne 8, 3) := by decide +kernel
theorem d4_12 : decode method_3_code 12 = .ok (.lload 5, 2) := by decide +kernel
theorem d4_14 : decode method_3_code 14 = .ok (.goto 4, 3) := by decide +kernel
theorem d4_18 : decode method_3_code 18 = .ok (.iload_n 1, 1) := by decide +kernel
theorem d4_19 : decode method_3_code 19 = .ok (.iload 4, 2) := by decide +kernel
theorem d4_21 : decode method_3_code 21 = .ok (.if_icmp .ne 8, 3) := by decide +kernel
theorem d4_24 : decode method_3_code 24 = .ok (.lload 7, 2) := by decide +kernel
theorem d4_26 : decode method_3_code 26 = .ok (.goto 4, 3) := by decide +kernel
theorem d4_30 : decode method_3_code 30 = .ok (.ladd, 1) := by decide +kernel
theorem d4_31 : decode method_3_code 31 = .ok (.lstore 9, 2) := by decide +kernel
theorem d4_33 : decode method_3_code 33 = .ok (.aload_n 0, 1) := by decide +kernel
theorem d4_34 : decode method_3_code 34 = .ok (.iload_n 1, 1) := by decide +kernel
theorem d4_35 : decode method_3_code 35 = .ok (.laload, 1) := by decide +kernel
theorem d4_36 : decode method_3_code 36 = .ok (.lload 9, 2) := by decide +kernel
theorem d4_38 : decode method_3_code 38 = .ok (.lcmp, 1) := by decide +kernel
theorem d4_39 : decode method_3_code 39 = .ok (.ifCond .ne 7, 3) := by decide +kernel
theorem d4_42 : decode method_3_code 42 = .ok (.iconst 1, 1) := by decide +kernel
theorem d4_43 : decode method_3_code 43 = .ok (.goto 4, 3) := by decide +kernel
theorem d4_47 : decode method_3_code 47 = .ok (.ireturn, 1) := by decide +kernel
theorem d4_29 : decode method_3_code 29 = .ok (.lconst 0, 1) := by decide +kernel
theorem d4_17 : decode method_3_code 17 = .ok (.lconst 0, 1) := by decide +kernel
theorem d4_5 : decode method_3_code 5 = .ok (.iconst 1, 1) := by decide +kernel
theorem d4_6 : decode method_3_code 6 = .ok (.ireturn, 1) := by decide +kernel
set_option maxRecDepth 65536 in
set_option maxHeartbeats 40000000 in
theorem rm_cel0 (l : Launch) (Z : State) (a0 : Array Value) (hw : ∀ d ∈ tables_1, d.before a0 Z = true) (ws : List Jvm.Cond) (ar : Addr) (kr : ClassId) (cap : Int32) (g : Int32) (g2 : Int32) (t1 : Int64) (t2 : Int64) (v0 : Int64) (v1 : Int64) (v2 : Int64) (v3 : Int64) (h0 : Heap) (n0 : Nat) (Z0 : n0 ≤ h0.size) (F_0 : Arv Z h0 ar kr .long cap (own_L cap v0 v1 v2 v3) (.long (0 : Int64))) (hcap : own_cap cap) (hval : (0 : Int32) < cap → v0 = (if (0 : Int32) = g then t1 else 0) + (if (0 : Int32) = g2 then t2 else 0)) :
    MetFree l (⟨"com/example/viewlattice/viewlattice/engine/DecimalSumsGetUnscaledLongsPinLaw", "cell", "([JIIIIJJ)Z"⟩ : MethodName) (head1 (Jvm.Cond.code (⟨"com/example/viewlattice/viewlattice/engine/DecimalSumsGetUnscaledLongsPinLaw", "cell", "([JIIIIJJ)Z"⟩ : MethodName) method_3_code 11 (some (.boolean)) :: ws) ({ frames := 0, cells := 0, slots := 0, locals := 0 } : Room)) (fun a U => a = #[(.ref ar), (.int (0 : Int32)), (.int cap), (.int g), (.int g2), (.long t1), (.long t2)] ∧ Z.Warmed39 U.vm ∧ U.heap = h0) (fun _ _ _ _ _ => True) (fun _ U o U' => ∃ v L, o = .returned v ∧ (Q_cel0 Z ar kr cap g g2 t1 t2 v0 v1 v2 v3 h0 n0) v U'.heap L ∧ FrameEnd U o U' L ({ frames := 0, cells := 0, slots := 0, locals := 0 } : Room).cells ({ frames := 0, cells := 0, slots := 0, locals := 0 } : Room).slots) := by
  refine MetFree.of_bodySF (plainFor_of_name pn_0) hisR ?_
  intro p e s m args below meth c s₁ Bd hml0 hP hK
  obtain ⟨rfl, hZ, hh⟩ := hP
  have hx := Bd.exec
  have hby := Bd.bytes
  have hW := fun i d (h : tables_1[i]? = some d) => hw d (List.mem_of_getElem? h)
  have hlk : meth.locks = false := BodyLoose.notSynchronized Bd
  have hml : c.maxLocals = 11 := hml0
  have hown : s.vm.findClass "com/example/viewlattice/viewlattice/engine/DecimalSumsGetUnscaledLongsPinLaw" = some m.cls := findClass_of_methodNamed Bd.named
  have hnm := (name_of_methodNamed Bd.named Bd.method).1
  have X0 : Stand p l e ({ frames := 0, cells := 0, slots := 0, locals := 0 } : Room) s m #[(.ref ar), (.int (0 : Int32)), (.int cap), (.int g), (.int g2), (.long t1), (.long t2)] below meth c s₁ [] 0 0 := Stand.of_body Bd
  have e0 : s₁.heap = h0 := by rw [← hh, Bd.state]; rfl
  have N0 := Fr.nil n0
  show own_Go p e below s (Q_cel0 Z ar kr cap g g2 t1 t2 v0 v1 v2 v3 h0 n0) ({ frames := 0, cells := 0, slots := 0, locals := 0 } : Room).cells ({ frames := 0, cells := 0, slots := 0, locals := 0 } : Room).slots s₁ (entryFrame m #[(.ref ar), (.int (0 : Int32)), (.int cap), (.int g), (.int g2), (.long t1), (.long t2)] 11)
  refine own_cast (g' := (mkF m 0 #[rv ar, iv 0, iv cap, iv g, iv g2, own_j t1, s_, own_j t2, s_, u_, u_] [])) (ef_rm_cel0 m ar (0 : Int32) cap g g2 t1 t2) ?_
  refine own_s s₁ (mkF m 1 #[rv ar, iv 0, iv cap, iv g, iv g2, own_j t1, s_, own_j t2, s_, u_, u_] [.int 0]) (fun t k => XS.iloadN X0.here hx rfl (hb hby d4_0) rfl k) ?_
  refine own_s s₁ (mkF m 2 #[rv ar, iv 0, iv cap, iv g, iv g2, own_j t1, s_, own_j t2, s_, u_, u_] [.int cap, .int 0]) (fun t k => XS.iloadN X0.here hx rfl (hb hby d4_1) rfl k) ?_
  by_cases c2 : (0 : Int32) < cap
  · refine own_s s₁ (mkF m 7 #[rv ar, iv 0, iv cap, iv g, iv g2, own_j t1, s_, own_j t2, s_, u_, u_] []) (fun t k => XS.icmpYes X0.here hx rfl (pc0 := 2) (pc' := 7) rfl (hb hby d4_2) rfl (tlt c2).1 (by decide) (by decide) k) ?_
    refine own_s s₁ (mkF m 8 #[rv ar, iv 0, iv cap, iv g, iv g2, own_j t1, s_, own_j t2, s_, u_, u_] [.int 0]) (fun t k => XS.iloadN X0.here hx rfl (hb hby d4_7) rfl k) ?_
    refine own_s s₁ (mkF m 9 #[rv ar, iv 0, iv cap, iv g, iv g2, own_j t1, s_, own_j t2, s_, u_, u_] [.int g, .int 0]) (fun t k => XS.iloadN X0.here hx rfl (hb hby d4_8) rfl k) ?_
    by_cases c9 : (0 : Int32) = g
    · refine own_s s₁ (mkF m 12 #[rv ar, iv 0, iv cap, iv g, iv g2, own_j t1, s_, own_j t2, s_, u_, u_] []) (fun t k => XS.icmpNo X0.here hx rfl (hb hby d4_9) rfl (teq c9).2 k) ?_
      refine own_s s₁ (mkF m 14 #[rv ar, iv 0, iv cap, iv g, iv g2, own_j t1, s_, own_j t2, s_, u_, u_] [.long t1]) (fun t k => XS.lload X0.here hx rfl (hb hby d4_12) rfl k) ?_
      refine own_s s₁ (mkF m 18 #[rv ar, iv 0, iv cap, iv g, iv g2, own_j t1, s_, own_j t2, s_, u_, u_] [.long t1]) (fun t k => XS.goto X0.here hx rfl (pc0 := 14) (pc' := 18) rfl (hb hby d4_14) (by decide) (by decide) k) ?_
      refine own_s s₁ (mkF m 19 #[rv ar, iv 0, iv cap, iv g, iv g2, own_j t1, s_, own_j t2, s_, u_, u_] [.int 0, .long t1]) (fun t k => XS.iloadN X0.here hx rfl (hb hby d4_18) rfl k) ?_
      refine own_s s₁ (mkF m 21 #[rv ar, iv 0, iv cap, iv g, iv g2, own_j t1, s_, own_j t2, s_, u_, u_] [.int g2, .int 0, .long t1]) (fun t k => XS.iload X0.here hx rfl (hb hby d4_19) rfl k) ?_
      by_cases c21 : (0 : Int32) = g2
      · refine own_s s₁ (mkF m 24 #[rv ar, iv 0, iv cap, iv g, iv g2, own_j t1, s_, own_j t2, s_, u_, u_] [.long t1]) (fun t k => XS.icmpNo X0.here hx rfl (hb hby d4_21) rfl (teq c21).2 k) ?_
        refine own_s s₁ (mkF m 26 #[rv ar, iv 0, iv cap, iv g, iv g2, own_j t1, s_, own_j t2, s_, u_, u_] [.long t2, .long t1]) (fun t k => XS.lload X0.here hx rfl (hb hby d4_24) rfl k) ?_
        refine own_s s₁ (mkF m 30 #[rv ar, iv 0, iv cap, iv g, iv g2, own_j t1, s_, own_j t2, s_, u_, u_] [.long t2, .long t1]) (fun t k => XS.goto X0.here hx rfl (pc0 := 26) (pc' := 30) rfl (hb hby d4_26) (by decide) (by decide) k) ?_
        refine own_s s₁ (mkF m 31 #[rv ar, iv 0, iv cap, iv g, iv g2, own_j t1, s_, own_j t2, s_, u_, u_] [.long (t1 + t2)]) (fun t k => XS.ladd X0.here hx rfl (hb hby d4_30) rfl k) ?_
        refine own_s s₁ (mkF m 33 #[rv ar, iv 0, iv cap, iv g, iv g2, own_j t1, s_, own_j t2, s_, own_j (t1 + t2), s_] []) (fun t k => XS.lstore X0.here hx rfl (hb hby d4_31) rfl (l' := #[rv ar, iv 0, iv cap, iv g, iv g2, own_j t1, s_, own_j t2, s_, own_j (t1 + t2), s_]) rfl k) ?_
        refine own_s s₁ (mkF m 34 #[rv ar, iv 0, iv cap, iv g, iv g2, own_j t1, s_, own_j t2, s_, own_j (t1 + t2), s_] [.ref ar]) (fun t k => XS.aloadN X0.here hx rfl (hb hby d4_33) rfl rfl k) ?_
        refine own_s s₁ (mkF m 35 #[rv ar, iv 0, iv cap, iv g, iv g2, own_j t1, s_, own_j t2, s_, own_j (t1 + t2), s_] [.int 0, .ref ar]) (fun t k => XS.iloadN X0.here hx rfl (hb hby d4_34) rfl k) ?_
        obtain ⟨cl1, Ar1, qa1, S1, M1, H1, U1⟩ := id F_0
        have hi1 := inb_of S1 (j := (0 : Int32)) ⟨by decide, c2⟩
        have hat1 := H1.at hi1 (v := (.long v0)) (own_getL hcap ⟨by decide, c2⟩)
        refine own_s s₁ (mkF m 36 #[rv ar, iv 0, iv cap, iv g, iv g2, own_j t1, s_, own_j t2, s_, own_j (t1 + t2), s_] [.long v0]) (fun t k => X0.laload hx (j := (0 : Int32)) (v := (.long v0)) (by rw [e0]; exact Ar1.1) (State.isArrayOf_alike hZ.alike Ar1.2.1) Ar1.2.2 hi1 hat1 (g := (mkF m 35 #[rv ar, iv 0, iv cap, iv g, iv g2, own_j t1, s_, own_j t2, s_, own_j (t1 + t2), s_] [.int 0, .ref ar])) rfl rfl (hb hby d4_35) t k) ?_
        refine own_s s₁ (mkF m 38 #[rv ar, iv 0, iv cap, iv g, iv g2, own_j t1, s_, own_j t2, s_, own_j (t1 + t2), s_] [.long (t1 + t2), .long v0]) (fun t k => XS.lload X0.here hx rfl (hb hby d4_36) rfl k) ?_
        refine own_s s₁ (mkF m 39 #[rv ar, iv 0, iv cap, iv g, iv g2, own_j t1, s_, own_j t2, s_, own_j (t1 + t2), s_] [.int (lcmpW v0 (t1 + t2))]) (fun t k => XS.lcmp X0.here hx rfl (hb hby d4_38) rfl k) ?_
        refine own_s s₁ (mkF m 42 #[rv ar, iv 0, iv cap, iv g, iv g2, own_j t1, s_, own_j t2, s_, own_j (t1 + t2), s_] []) (fun t k => XS.ifNo X0.here hx rfl (hb hby d4_39) rfl ((if0 _ _).trans (teq ((lw_eq _ _).mpr ((hval c2).trans (by first | (rw [if_pos c9, if_pos c21]; done) | (rw [if_pos c9, if_pos c21]; rfl))))).2) k) ?_
        refine own_s s₁ (mkF m 43 #[rv ar, iv 0, iv cap, iv g, iv g2, own_j t1, s_, own_j t2, s_, own_j (t1 + t2), s_] [.int 1]) (fun t k => XS.iconst X0.here hx rfl (hb hby d4_42) k) ?_
        refine own_s s₁ (mkF m 47 #[rv ar, iv 0, iv cap, iv g, iv g2, own_j t1, s_, own_j t2, s_, own_j (t1 + t2), s_] [.int 1]) (fun t k => XS.goto X0.here hx rfl (pc0 := 43) (pc' := 47) rfl (hb hby d4_43) (by decide) (by decide) k) ?_
        refine own_rN X0 hx hlk Bd.returns (by simp) (hb hby d4_47) ?_ (by decide) (by decide)
        rw [e0]
        exact ⟨rfl, N0, rfl⟩
      · refine own_s s₁ (mkF m 29 #[rv ar, iv 0, iv cap, iv g, iv g2, own_j t1, s_, own_j t2, s_, u_, u_] [.long t1]) (fun t k => XS.icmpYes X0.here hx rfl (pc0 := 21) (pc' := 29) rfl (hb hby d4_21) rfl (feq c21).2 (by decide) (by decide) k) ?_
        refine own_s s₁ (mkF m 30 #[rv ar, iv 0, iv cap, iv g, iv g2, own_j t1, s_, own_j t2, s_, u_, u_] [.long 0, .long t1]) (fun t k => XS.lconst X0.here hx rfl (hb hby d4_29) k) ?_
        refine own_s s₁ (mkF m 31 #[rv ar, iv 0, iv cap, iv g, iv g2, own_j t1, s_, own_j t2, s_, u_, u_] [.long (t1 + (0 : Int64))]) (fun t k => XS.ladd X0.here hx rfl (hb hby d4_30) rfl k) ?_
        refine own_s s₁ (mkF m 33 #[rv ar, iv 0, iv cap, iv g, iv g2, own_j t1, s_, own_j t2, s_, own_j (t1 + (0 : Int64)), s_] []) (fun t k => XS.lstore X0.here hx rfl (hb hby d4_31) rfl (l' := #[rv ar, iv 0, iv cap, iv g, iv g2, own_j t1, s_, own_j t2, s_, own_j (t1 + (0 : Int64)), s_]) rfl k) ?_
        refine own_s s₁ (mkF m 34 #[rv ar, iv 0, iv cap, iv g, iv g2, own_j t1, s_, own_j t2, s_, own_j (t1 + (0 : Int64)), s_] [.ref ar]) (fun t k => XS.aloadN X0.here hx rfl (hb hby d4_33) rfl rfl k) ?_
        refine own_s s₁ (mkF m 35 #[rv ar, iv 0, iv cap, iv g, iv g2, own_j t1, s_, own_j t2, s_, own_j (t1 + (0 : Int64)), s_] [.int 0, .ref ar]) (fun t k => XS.iloadN X0.here hx rfl (hb hby d4_34) rfl k) ?_
        obtain ⟨cl2, Ar2, qa2, S2, M2, H2, U2⟩ := id F_0
        have hi2 := inb_of S2 (j := (0 : Int32)) ⟨by decide, c2⟩
        have hat2 := H2.at hi2 (v := (.long v0)) (own_getL hcap ⟨by decide, c2⟩)
        refine own_s s₁ (mkF m 36 #[rv ar, iv 0, iv cap, iv g, iv g2, own_j t1, s_, own_j t2, s_, own_j (t1 + (0 : Int64)), s_] [.long v0]) (fun t k => X0.laload hx (j := (0 : Int32)) (v := (.long v0)) (by rw [e0]; exact Ar2.1) (State.isArrayOf_alike hZ.alike Ar2.2.1) Ar2.2.2 hi2 hat2 (g := (mkF m 35 #[rv ar, iv 0, iv cap, iv g, iv g2, own_j t1, s_, own_j t2, s_, own_j (t1 + (0 : Int64)), s_] [.int 0, .ref ar])) rfl rfl (hb hby d4_35) t k) ?_
        refine own_s s₁ (mkF m 38 #[rv ar, iv 0, iv cap, iv g, iv g2, own_j t1, s_, own_j t2, s_, own_j (t1 + (0 : Int64)), s_] [.long (t1 + (0 : Int64)), .long v0]) (fun t k => XS.lload X0.here hx rfl (hb hby d4_36) rfl k) ?_
        refine own_s s₁ (mkF m 39 #[rv ar, iv 0, iv cap, iv g, iv g2, own_j t1, s_, own_j t2, s_, own_j (t1 + (0 : Int64)), s_] [.int (lcmpW v0 (t1 + (0 : Int64)))]) (fun t k => XS.lcmp X0.here hx rfl (hb hby d4_38) rfl k) ?_
        refine own_s s₁ (mkF m 42 #[rv ar, iv 0, iv cap, iv g, iv g2, own_j t1, s_, own_j t2, s_, own_j (t1 + (0 : Int64)), s_] []) (fun t k => XS.ifNo X0.here hx rfl (hb hby d4_39) rfl ((if0 _ _).trans (teq ((lw_eq _ _).mpr ((hval c2).trans (by first | (rw [if_pos c9, if_neg c21]; done) | (rw [if_pos c9, if_neg c21]; rfl))))).2) k) ?_
        refine own_s s₁ (mkF m 43 #[rv ar, iv 0, iv cap, iv g, iv g2, own_j t1, s_, own_j t2, s_, own_j (t1 + (0 : Int64)), s_] [.int 1]) (fun t k => XS.iconst X0.here hx rfl (hb hby d4_42) k) ?_
        refine own_s s₁ (mkF m 47 #[rv ar, iv 0, iv cap, iv g, iv g2, own_j t1, s_, own_j t2, s_, own_j (t1 + (0 : Int64)), s_] [.int 1]) (fun t k => XS.goto X0.here hx rfl (pc0 := 43) (pc' := 47) rfl (hb hby d4_43) (by decide) (by decide) k) ?_
        refine own_rN X0 hx hlk Bd.returns (by simp) (hb hby d4_47) ?_ (by decide) (by decide)
        rw [e0]
        exact ⟨rfl, N0, rfl⟩
    · refine own_s s₁ (mkF m 17 #[rv ar, iv 0, iv cap, iv g, iv g2, own_j t1, s_, own_j t2, s_, u_, u_] []) (fun t k => XS.icmpYes X0.here hx rfl (pc0 := 9) (pc' := 17) rfl (hb hby d4_9) rfl (feq c9).2 (by decide) (by decide) k) ?_
      refine own_s s₁ (mkF m 18 #[rv ar, iv 0, iv cap, iv g, iv g2, own_j t1, s_, own_j t2, s_, u_, u_] [.long 0]) (fun t k => XS.lconst X0.here hx rfl (hb hby d4_17) k) ?_
      refine own_s s₁ (mkF m 19 #[rv ar, iv 0, iv cap, iv g, iv g2, own_j t1, s_, own_j t2, s_, u_, u_] [.int 0, .long 0]) (fun t k => XS.iloadN X0.here hx rfl (hb hby d4_18) rfl k) ?_
      refine own_s s₁ (mkF m 21 #[rv ar, iv 0, iv cap, iv g, iv g2, own_j t1, s_, own_j t2, s_, u_, u_] [.int g2, .int 0, .long 0]) (fun t k => XS.iload X0.here hx rfl (hb hby d4_19) rfl k) ?_
      by_cases c21 : (0 : Int32) = g2
      · refine own_s s₁ (mkF m 24 #[rv ar, iv 0, iv cap, iv g, iv g2, own_j t1, s_, own_j t2, s_, u_, u_] [.long 0]) (fun t k => XS.icmpNo X0.here hx rfl (hb hby d4_21) rfl (teq c21).2 k) ?_
        refine own_s s₁ (mkF m 26 #[rv ar, iv 0, iv cap, iv g, iv g2, own_j t1, s_, own_j t2, s_, u_, u_] [.long t2, .long 0]) (fun t k => XS.lload X0.here hx rfl (hb hby d4_24) rfl k) ?_
        refine own_s s₁ (mkF m 30 #[rv ar, iv 0, iv cap, iv g, iv g2, own_j t1, s_, own_j t2, s_, u_, u_] [.long t2, .long 0]) (fun t k => XS.goto X0.here hx rfl (pc0 := 26) (pc' := 30) rfl (hb hby d4_26) (by decide) (by decide) k) ?_
        refine own_s s₁ (mkF m 31 #[rv ar, iv 0, iv cap, iv g, iv g2, own_j t1, s_, own_j t2, s_, u_, u_] [.long ((0 : Int64) + t2)]) (fun t k => XS.ladd X0.here hx rfl (hb hby d4_30) rfl k) ?_
        refine own_s s₁ (mkF m 33 #[rv ar, iv 0, iv cap, iv g, iv g2, own_j t1, s_, own_j t2, s_, own_j ((0 : Int64) + t2), s_] []) (fun t k => XS.lstore X0.here hx rfl (hb hby d4_31) rfl (l' := #[rv ar, iv 0, iv cap, iv g, iv g2, own_j t1, s_, own_j t2, s_, own_j ((0 : Int64) + t2), s_]) rfl k) ?_
        refine own_s s₁ (mkF m 34 #[rv ar, iv 0, iv cap, iv g, iv g2, own_j t1, s_, own_j t2, s_, own_j ((0 : Int64) + t2), s_] [.ref ar]) (fun t k => XS.aloadN X0.here hx rfl (hb hby d4_33) rfl rfl k) ?_
        refine own_s s₁ (mkF m 35 #[rv ar, iv 0, iv cap, iv g, iv g2, own_j t1, s_, own_j t2, s_, own_j ((0 : Int64) + t2), s_] [.int 0, .ref ar]) (fun t k => XS.iloadN X0.here hx rfl (hb hby d4_34) rfl k) ?_
        obtain ⟨cl3, Ar3, qa3, S3, M3, H3, U3⟩ := id F_0
        have hi3 := inb_of S3 (j := (0 : Int32)) ⟨by decide, c2⟩
        have hat3 := H3.at hi3 (v := (.long v0)) (own_getL hcap ⟨by decide, c2⟩)
        refine own_s s₁ (mkF m 36 #[rv ar, iv 0, iv cap, iv g, iv g2, own_j t1, s_, own_j t2, s_, own_j ((0 : Int64) + t2), s_] [.long v0]) (fun t k => X0.laload hx (j := (0 : Int32)) (v := (.long v0)) (by rw [e0]; exact Ar3.1) (State.isArrayOf_alike hZ.alike Ar3.2.1) Ar3.2.2 hi3 hat3 (g := (mkF m 35 #[rv ar, iv 0, iv cap, iv g, iv g2, own_j t1, s_, own_j t2, s_, own_j ((0 : Int64) + t2), s_] [.int 0, .ref ar])) rfl rfl (hb hby d4_35) t k) ?_
        refine own_s s₁ (mkF m 38 #[rv ar, iv 0, iv cap, iv g, iv g2, own_j t1, s_, own_j t2, s_, own_j ((0 : Int64) + t2), s_] [.long ((0 : Int64) + t2), .long v0]) (fun t k => XS.lload X0.here hx rfl (hb hby d4_36) rfl k) ?_
        refine own_s s₁ (mkF m 39 #[rv ar, iv 0, iv cap, iv g, iv g2, own_j t1, s_, own_j t2, s_, own_j ((0 : Int64) + t2), s_] [.int (lcmpW v0 ((0 : Int64) + t2))]) (fun t k => XS.lcmp X0.here hx rfl (hb hby d4_38) rfl k) ?_
        refine own_s s₁ (mkF m 42 #[rv ar, iv 0, iv cap, iv g, iv g2, own_j t1, s_, own_j t2, s_, own_j ((0 : Int64) + t2), s_] []) (fun t k => XS.ifNo X0.here hx rfl (hb hby d4_39) rfl ((if0 _ _).trans (teq ((lw_eq _ _).mpr ((hval c2).trans (by first | (rw [if_neg c9, if_pos c21]; done) | (rw [if_neg c9, if_pos c21]; rfl))))).2) k) ?_
        refine own_s s₁ (mkF m 43 #[rv ar, iv 0, iv cap, iv g, iv g2, own_j t1, s_, own_j t2, s_, own_j ((0 : Int64) + t2), s_] [.int 1]) (fun t k => XS.iconst X0.here hx rfl (hb hby d4_42) k) ?_
        refine own_s s₁ (mkF m 47 #[rv ar, iv 0, iv cap, iv g, iv g2, own_j t1, s_, own_j t2, s_, own_j ((0 : Int64) + t2), s_] [.int 1]) (fun t k => XS.goto X0.here hx rfl (pc0 := 43) (pc' := 47) rfl (hb hby d4_43) (by decide) (by decide) k) ?_
        refine own_rN X0 hx hlk Bd.returns (by simp) (hb hby d4_47) ?_ (by decide) (by decide)
        rw [e0]
        exact ⟨rfl, N0, rfl⟩
      · refine own_s s₁ (mkF m 29 #[rv ar, iv 0, iv cap, iv g, iv g2, own_j t1, s_, own_j t2, s_, u_, u_] [.long 0]) (fun t k => XS.icmpYes X0.here hx rfl (pc0 := 21) (pc' := 29) rfl (hb hby d4_21) rfl (feq c21).2 (by decide) (by decide) k) ?_
        refine own_s s₁ (mkF m 30 #[rv ar, iv 0, iv cap, iv g, iv g2, own_j t1, s_, own_j t2, s_, u_, u_] [.long 0, .long 0]) (fun t k => XS.lconst X0.here hx rfl (hb hby d4_29) k) ?_
        refine own_s s₁ (mkF m 31 #[rv ar, iv 0, iv cap, iv g, iv g2, own_j t1, s_, own_j t2, s_, u_, u_] [.long 0]) (fun t k => XS.ladd X0.here hx rfl (hb hby d4_30) rfl k) ?_
        refine own_s s₁ (mkF m 33 #[rv ar, iv 0, iv cap, iv g, iv g2, own_j t1, s_, own_j t2, s_, own_j 0, s_] []) (fun t k => XS.lstore X0.here hx rfl (hb hby d4_31) rfl (l' := #[rv ar, iv 0, iv cap, iv g, iv g2, own_j t1, s_, own_j t2, s_, own_j 0, s_]) rfl k) ?_
        refine own_s s₁ (mkF m 34 #[rv ar, iv 0, iv cap, iv g, iv g2, own_j t1, s_, own_j t2, s_, own_j 0, s_] [.ref ar]) (fun t k => XS.aloadN X0.here hx rfl (hb hby d4_33) rfl rfl k) ?_
        refine own_s s₁ (mkF m 35 #[rv ar, iv 0, iv cap, iv g, iv g2, own_j t1, s_, own_j t2, s_, own_j 0, s_] [.int 0, .ref ar]) (fun t k => XS.iloadN X0.here hx rfl (hb hby d4_34) rfl k) ?_
        obtain ⟨cl4, Ar4, qa4, S4, M4, H4, U4⟩ := id F_0
        have hi4 := inb_of S4 (j := (0 : Int32)) ⟨by decide, c2⟩
        have hat4 := H4.at hi4 (v := (.long v0)) (own_getL hcap ⟨by decide, c2⟩)
        refine own_s s₁ (mkF m 36 #[rv ar, iv 0, iv cap, iv g, iv g2, own_j t1, s_, own_j t2, s_, own_j 0, s_] [.long v0]) (fun t k => X0.laload hx (j := (0 : Int32)) (v := (.long v0)) (by rw [e0]; exact Ar4.1) (State.isArrayOf_alike hZ.alike Ar4.2.1) Ar4.2.2 hi4 hat4 (g := (mkF m 35 #[rv ar, iv 0, iv cap, iv g, iv g2, own_j t1, s_, own_j t2, s_, own_j 0, s_] [.int 0, .ref ar])) rfl rfl (hb hby d4_35) t k) ?_
        refine own_s s₁ (mkF m 38 #[rv ar, iv 0, iv cap, iv g, iv g2, own_j t1, s_, own_j t2, s_, own_j 0, s_] [.long 0, .long v0]) (fun t k => XS.lload X0.here hx rfl (hb hby d4_36) rfl k) ?_
        refine own_s s₁ (mkF m 39 #[rv ar, iv 0, iv cap, iv g, iv g2, own_j t1, s_, own_j t2, s_, own_j 0, s_] [.int (lcmpW v0 (0 : Int64))]) (fun t k => XS.lcmp X0.here hx rfl (hb hby d4_38) rfl k) ?_
        refine own_s s₁ (mkF m 42 #[rv ar, iv 0, iv cap, iv g, iv g2, own_j t1, s_, own_j t2, s_, own_j 0, s_] []) (fun t k => XS.ifNo X0.here hx rfl (hb hby d4_39) rfl ((if0 _ _).trans (teq ((lw_eq _ _).mpr ((hval c2).trans (by first | (rw [if_neg c9, if_neg c21]; done) | (rw [if_neg c9, if_neg c21]; rfl))))).2) k) ?_
        refine own_s s₁ (mkF m 43 #[rv ar, iv 0, iv cap, iv g, iv g2, own_j t1, s_, own_j t2, s_, own_j 0, s_] [.int 1]) (fun t k => XS.iconst X0.here hx rfl (hb hby d4_42) k) ?_
        refine own_s s₁ (mkF m 47 #[rv ar, iv 0, iv cap, iv g, iv g2, own_j t1, s_, own_j t2, s_, own_j 0, s_] [.int 1]) (fun t k => XS.goto X0.here hx rfl (pc0 := 43) (pc' := 47) rfl (hb hby d4_43) (by decide) (by decide) k) ?_
        refine own_rN X0 hx hlk Bd.returns (by simp) (hb hby d4_47) ?_ (by decide) (by decide)
        rw [e0]
        exact ⟨rfl, N0, rfl⟩
  · refine own_s s₁ (mkF m 5 #[rv ar, iv 0, iv cap, iv g, iv g2, own_j t1, s_, own_j t2, s_, u_, u_] []) (fun t k => XS.icmpNo X0.here hx rfl (hb hby d4_2) rfl (flt c2).1 k) ?_
    refine own_s s₁ (mkF m 6 #[rv ar, iv 0, iv cap, iv g, iv g2, own_j t1, s_, own_j t2, s_, u_, u_] [.int 1]) (fun t k => XS.iconst X0.here hx rfl (hb hby d4_5) k) ?_
    refine own_rN X0 hx hlk Bd.returns (by simp) (hb hby d4_6) ?_ (by decide) (by decide)
    rw [e0]
    exact ⟨rfl, N0, rfl⟩
def Q_cel1 (Z : State) (ar : Addr) (kr : ClassId) (cap : Int32) (g : Int32) (g2 : Int32) (t1 : Int64) (t2 : Int64) (v0 : Int64) (v1 : Int64) (v2 : Int64) (v3 : Int64) (h0 : Heap) (n0 : Nat) (v : Option Value) (h : Heap) (L : List Loc) : Prop := v = some (.int (1 : Int32)) ∧ Fr n0 L ∧ h = h0
theorem ef_rm_cel1 (m : MethodId) (x0 : Addr) (x1 : Int32) (x2 : Int32) (x3 : Int32) (x4 : Int32) (x5 : Int64) (x6 : Int64) : entryFrame m #[(.ref x0), (.int x1), (.int x2), (.int x3), (.int x4), (.long x5), (.long x6)] 11 = mkF m 0 #[.val (.ref x0), .val (.int x1), .val (.int x2), .val (.int x3), .val (.int x4), .val (.long x5), .second, .val (.long x6), .second, .unset, .unset] [] := by first | (simp [entryFrame, mkF, argsToLocals, Value.category]; done) | rfl | (simp [entryFrame, mkF, argsToLocals, Value.category] <;> rfl)
set_option maxRecDepth 65536 in
set_option maxHeartbeats 40000000 in
theorem rm_cel1 (l : Launch) (Z : State) (a0 : Array Value) (hw : ∀ d ∈ tables_1, d.before a0 Z = true) (ws : List Jvm.Cond) (ar : Addr) (kr : ClassId) (cap : Int32) (g : Int32) (g2 : Int32) (t1 : Int64) (t2 : Int64) (v0 : Int64) (v1 : Int64) (v2 : Int64) (v3 : Int64) (h0 : Heap) (n0 : Nat) (Z0 : n0 ≤ h0.size) (F_0 : Arv Z h0 ar kr .long cap (own_L cap v0 v1 v2 v3) (.long (0 : Int64))) (hcap : own_cap cap) (hval : (1 : Int32) < cap → v1 = (if (1 : Int32) = g then t1 else 0) + (if (1 : Int32) = g2 then t2 else 0)) :
    MetFree l (⟨"com/example/viewlattice/viewlattice/engine/DecimalSumsGetUnscaledLongsPinLaw", "cell", "([JIIIIJJ)Z"⟩ : MethodName) (head1 (Jvm.Cond.code (⟨"com/example/viewlattice/viewlattice/engine/DecimalSumsGetUnscaledLongsPinLaw", "cell", "([JIIIIJJ)Z"⟩ : MethodName) method_3_code 11 (some (.boolean)) :: ws) ({ frames := 0, cells := 0, slots := 0, locals := 0 } : Room)) (fun a U => a = #[(.ref ar), (.int (1 : Int32)), (.int cap), (.int g), (.int g2), (.long t1), (.long t2)] ∧ Z.Warmed39 U.vm ∧ U.heap = h0) (fun _ _ _ _ _ => True) (fun _ U o U' => ∃ v L, o = .returned v ∧ (Q_cel1 Z ar kr cap g g2 t1 t2 v0 v1 v2 v3 h0 n0) v U'.heap L ∧ FrameEnd U o U' L ({ frames := 0, cells := 0, slots := 0, locals := 0 } : Room).cells ({ frames := 0, cells := 0, slots := 0, locals := 0 } : Room).slots) := by
  refine MetFree.of_bodySF (plainFor_of_name pn_0) hisR ?_
  intro p e s m args below meth c s₁ Bd hml0 hP hK
  obtain ⟨rfl, hZ, hh⟩ := hP
  have hx := Bd.exec
  have hby := Bd.bytes
  have hW := fun i d (h : tables_1[i]? = some d) => hw d (List.mem_of_getElem? h)
  have hlk : meth.locks = false := BodyLoose.notSynchronized Bd
  have hml : c.maxLocals = 11 := hml0
  have hown : s.vm.findClass "com/example/viewlattice/viewlattice/engine/DecimalSumsGetUnscaledLongsPinLaw" = some m.cls := findClass_of_methodNamed Bd.named
  have hnm := (name_of_methodNamed Bd.named Bd.method).1
  have X0 : Stand p l e ({ frames := 0, cells := 0, slots := 0, locals := 0 } : Room) s m #[(.ref ar), (.int (1 : Int32)), (.int cap), (.int g), (.int g2), (.long t1), (.long t2)] below meth c s₁ [] 0 0 := Stand.of_body Bd
  have e0 : s₁.heap = h0 := by rw [← hh, Bd.state]; rfl
  have N0 := Fr.nil n0
  show own_Go p e below s (Q_cel1 Z ar kr cap g g2 t1 t2 v0 v1 v2 v3 h0 n0) ({ frames := 0, cells := 0, slots := 0, locals := 0 } : Room).cells ({ frames := 0, cells := 0, slots := 0, locals := 0 } : Room).slots s₁ (entryFrame m #[(.ref ar), (.int (1 : Int32)), (.int cap), (.int g), (.int g2), (.long t1), (.long t2)] 11)
  refine own_cast (g' := (mkF m 0 #[rv ar, iv 1, iv cap, iv g, iv g2, own_j t1, s_, own_j t2, s_, u_, u_] [])) (ef_rm_cel1 m ar (1 : Int32) cap g g2 t1 t2) ?_
  refine own_s s₁ (mkF m 1 #[rv ar, iv 1, iv cap, iv g, iv g2, own_j t1, s_, own_j t2, s_, u_, u_] [.int 1]) (fun t k => XS.iloadN X0.here hx rfl (hb hby d4_0) rfl k) ?_
  refine own_s s₁ (mkF m 2 #[rv ar, iv 1, iv cap, iv g, iv g2, own_j t1, s_, own_j t2, s_, u_, u_] [.int cap, .int 1]) (fun t k => XS.iloadN X0.here hx rfl (hb hby d4_1) rfl k) ?_
  by_cases c2 : (1 : Int32) < cap
  · refine own_s s₁ (mkF m 7 #[rv ar, iv 1, iv cap, iv g, iv g2, own_j t1, s_, own_j t2, s_, u_, u_] []) (fun t k => XS.icmpYes X0.here hx rfl (pc0 := 2) (pc' := 7) rfl (hb hby d4_2) rfl (tlt c2).1 (by decide) (by decide) k) ?_
    refine own_s s₁ (mkF m 8 #[rv ar, iv 1, iv cap, iv g, iv g2, own_j t1, s_, own_j t2, s_, u_, u_] [.int 1]) (fun t k => XS.iloadN X0.here hx rfl (hb hby d4_7) rfl k) ?_
    refine own_s s₁ (mkF m 9 #[rv ar, iv 1, iv cap, iv g, iv g2, own_j t1, s_, own_j t2, s_, u_, u_] [.int g, .int 1]) (fun t k => XS.iloadN X0.here hx rfl (hb hby d4_8) rfl k) ?_
    by_cases c9 : (1 : Int32) = g
    · refine own_s s₁ (mkF m 12 #[rv ar, iv 1, iv cap, iv g, iv g2, own_j t1, s_, own_j t2, s_, u_, u_] []) (fun t k => XS.icmpNo X0.here hx rfl (hb hby d4_9) rfl (teq c9).2 k) ?_
      refine own_s s₁ (mkF m 14 #[rv ar, iv 1, iv cap, iv g, iv g2, own_j t1, s_, own_j t2, s_, u_, u_] [.long t1]) (fun t k => XS.lload X0.here hx rfl (hb hby d4_12) rfl k) ?_
      refine own_s s₁ (mkF m 18 #[rv ar, iv 1, iv cap, iv g, iv g2, own_j t1, s_, own_j t2, s_, u_, u_] [.long t1]) (fun t k => XS.goto X0.here hx rfl (pc0 := 14) (pc' := 18) rfl (hb hby d4_14) (by decide) (by decide) k) ?_
      refine own_s s₁ (mkF m 19 #[rv ar, iv 1, iv cap, iv g, iv g2, own_j t1, s_, own_j t2, s_, u_, u_] [.int 1, .long t1]) (fun t k => XS.iloadN X0.here hx rfl (hb hby d4_18) rfl k) ?_
      refine own_s s₁ (mkF m 21 #[rv ar, iv 1, iv cap, iv g, iv g2, own_j t1, s_, own_j t2, s_, u_, u_] [.int g2, .int 1, .long t1]) (fun t k => XS.iload X0.here hx rfl (hb hby d4_19) rfl k) ?_
      by_cases c21 : (1 : Int32) = g2
      · refine own_s s₁ (mkF m 24 #[rv ar, iv 1, iv cap, iv g, iv g2, own_j t1, s_, own_j t2, s_, u_, u_] [.long t1]) (fun t k => XS.icmpNo X0.here hx rfl (hb hby d4_21) rfl (teq c21).2 k) ?_
        refine own_s s₁ (mkF m 26 #[rv ar, iv 1, iv cap, iv g, iv g2, own_j t1, s_, own_j t2, s_, u_, u_] [.long t2, .long t1]) (fun t k => XS.lload X0.here hx rfl (hb hby d4_24) rfl k) ?_
        refine own_s s₁ (mkF m 30 #[rv ar, iv 1, iv cap, iv g, iv g2, own_j t1, s_, own_j t2, s_, u_, u_] [.long t2, .long t1]) (fun t k => XS.goto X0.here hx rfl (pc0 := 26) (pc' := 30) rfl (hb hby d4_26) (by decide) (by decide) k) ?_
        refine own_s s₁ (mkF m 31 #[rv ar, iv 1, iv cap, iv g, iv g2, own_j t1, s_, own_j t2, s_, u_, u_] [.long (t1 + t2)]) (fun t k => XS.ladd X0.here hx rfl (hb hby d4_30) rfl k) ?_
        refine own_s s₁ (mkF m 33 #[rv ar, iv 1, iv cap, iv g, iv g2, own_j t1, s_, own_j t2, s_, own_j (t1 + t2), s_] []) (fun t k => XS.lstore X0.here hx rfl (hb hby d4_31) rfl (l' := #[rv ar, iv 1, iv cap, iv g, iv g2, own_j t1, s_, own_j t2, s_, own_j (t1 + t2), s_]) rfl k) ?_
        refine own_s s₁ (mkF m 34 #[rv ar, iv 1, iv cap, iv g, iv g2, own_j t1, s_, own_j t2, s_, own_j (t1 + t2), s_] [.ref ar]) (fun t k => XS.aloadN X0.here hx rfl (hb hby d4_33) rfl rfl k) ?_
        refine own_s s₁ (mkF m 35 #[rv ar, iv 1, iv cap, iv g, iv g2, own_j t1, s_, own_j t2, s_, own_j (t1 + t2), s_] [.int 1, .ref ar]) (fun t k => XS.iloadN X0.here hx rfl (hb hby d4_34) rfl k) ?_
        obtain ⟨cl1, Ar1, qa1, S1, M1, H1, U1⟩ := id F_0
        have hi1 := inb_of S1 (j := (1 : Int32)) ⟨by decide, c2⟩
        have hat1 := H1.at hi1 (v := (.long v1)) (own_getL hcap ⟨by decide, c2⟩)
        refine own_s s₁ (mkF m 36 #[rv ar, iv 1, iv cap, iv g, iv g2, own_j t1, s_, own_j t2, s_, own_j (t1 + t2), s_] [.long v1]) (fun t k => X0.laload hx (j := (1 : Int32)) (v := (.long v1)) (by rw [e0]; exact Ar1.1) (State.isArrayOf_alike hZ.alike Ar1.2.1) Ar1.2.2 hi1 hat1 (g := (mkF m 35 #[rv ar, iv 1, iv cap, iv g, iv g2, own_j t1, s_, own_j t2, s_, own_j (t1 + t2), s_] [.int 1, .ref ar])) rfl rfl (hb hby d4_35) t k) ?_
        refine own_s s₁ (mkF m 38 #[rv ar, iv 1, iv cap, iv g, iv g2, own_j t1, s_, own_j t2, s_, own_j (t1 + t2), s_] [.long (t1 + t2), .long v1]) (fun t k => XS.lload X0.here hx rfl (hb hby d4_36) rfl k) ?_
        refine own_s s₁ (mkF m 39 #[rv ar, iv 1, iv cap, iv g, iv g2, own_j t1, s_, own_j t2, s_, own_j (t1 + t2), s_] [.int (lcmpW v1 (t1 + t2))]) (fun t k => XS.lcmp X0.here hx rfl (hb hby d4_38) rfl k) ?_
        refine own_s s₁ (mkF m 42 #[rv ar, iv 1, iv cap, iv g, iv g2, own_j t1, s_, own_j t2, s_, own_j (t1 + t2), s_] []) (fun t k => XS.ifNo X0.here hx rfl (hb hby d4_39) rfl ((if0 _ _).trans (teq ((lw_eq _ _).mpr ((hval c2).trans (by first | (rw [if_pos c9, if_pos c21]; done) | (rw [if_pos c9, if_pos c21]; rfl))))).2) k) ?_
        refine own_s s₁ (mkF m 43 #[rv ar, iv 1, iv cap, iv g, iv g2, own_j t1, s_, own_j t2, s_, own_j (t1 + t2), s_] [.int 1]) (fun t k => XS.iconst X0.here hx rfl (hb hby d4_42) k) ?_
        refine own_s s₁ (mkF m 47 #[rv ar, iv 1, iv cap, iv g, iv g2, own_j t1, s_, own_j t2, s_, own_j (t1 + t2), s_] [.int 1]) (fun t k => XS.goto X0.here hx rfl (pc0 := 43) (pc' := 47) rfl (hb hby d4_43) (by decide) (by decide) k) ?_
        refine own_rN X0 hx hlk Bd.returns (by simp) (hb hby d4_47) ?_ (by decide) (by decide)
        rw [e0]
        exact ⟨rfl, N0, rfl⟩
      · refine own_s s₁ (mkF m 29 #[rv ar, iv 1, iv cap, iv g, iv g2, own_j t1, s_, own_j t2, s_, u_, u_] [.long t1]) (fun t k => XS.icmpYes X0.here hx rfl (pc0 := 21) (pc' := 29) rfl (hb hby d4_21) rfl (feq c21).2 (by decide) (by decide) k) ?_
        refine own_s s₁ (mkF m 30 #[rv ar, iv 1, iv cap, iv g, iv g2, own_j t1, s_, own_j t2, s_, u_, u_] [.long 0, .long t1]) (fun t k => XS.lconst X0.here hx rfl (hb hby d4_29) k) ?_
        refine own_s s₁ (mkF m 31 #[rv ar, iv 1, iv cap, iv g, iv g2, own_j t1, s_, own_j t2, s_, u_, u_] [.long (t1 + (0 : Int64))]) (fun t k => XS.ladd X0.here hx rfl (hb hby d4_30) rfl k) ?_
        refine own_s s₁ (mkF m 33 #[rv ar, iv 1, iv cap, iv g, iv g2, own_j t1, s_, own_j t2, s_, own_j (t1 + (0 : Int64)), s_] []) (fun t k => XS.lstore X0.here hx rfl (hb hby d4_31) rfl (l' := #[rv ar, iv 1, iv cap, iv g, iv g2, own_j t1, s_, own_j t2, s_, own_j (t1 + (0 : Int64)), s_]) rfl k) ?_
        refine own_s s₁ (mkF m 34 #[rv ar, iv 1, iv cap, iv g, iv g2, own_j t1, s_, own_j t2, s_, own_j (t1 + (0 : Int64)), s_] [.ref ar]) (fun t k => XS.aloadN X0.here hx rfl (hb hby d4_33) rfl rfl k) ?_
        refine own_s s₁ (mkF m 35 #[rv ar, iv 1, iv cap, iv g, iv g2, own_j t1, s_, own_j t2, s_, own_j (t1 + (0 : Int64)), s_] [.int 1, .ref ar]) (fun t k => XS.iloadN X0.here hx rfl (hb hby d4_34) rfl k) ?_
        obtain ⟨cl2, Ar2, qa2, S2, M2, H2, U2⟩ := id F_0
        have hi2 := inb_of S2 (j := (1 : Int32)) ⟨by decide, c2⟩
        have hat2 := H2.at hi2 (v := (.long v1)) (own_getL hcap ⟨by decide, c2⟩)
        refine own_s s₁ (mkF m 36 #[rv ar, iv 1, iv cap, iv g, iv g2, own_j t1, s_, own_j t2, s_, own_j (t1 + (0 : Int64)), s_] [.long v1]) (fun t k => X0.laload hx (j := (1 : Int32)) (v := (.long v1)) (by rw [e0]; exact Ar2.1) (State.isArrayOf_alike hZ.alike Ar2.2.1) Ar2.2.2 hi2 hat2 (g := (mkF m 35 #[rv ar, iv 1, iv cap, iv g, iv g2, own_j t1, s_, own_j t2, s_, own_j (t1 + (0 : Int64)), s_] [.int 1, .ref ar])) rfl rfl (hb hby d4_35) t k) ?_
        refine own_s s₁ (mkF m 38 #[rv ar, iv 1, iv cap, iv g, iv g2, own_j t1, s_, own_j t2, s_, own_j (t1 + (0 : Int64)), s_] [.long (t1 + (0 : Int64)), .long v1]) (fun t k => XS.lload X0.here hx rfl (hb hby d4_36) rfl k) ?_
        refine own_s s₁ (mkF m 39 #[rv ar, iv 1, iv cap, iv g, iv g2, own_j t1, s_, own_j t2, s_, own_j (t1 + (0 : Int64)), s_] [.int (lcmpW v1 (t1 + (0 : Int64)))]) (fun t k => XS.lcmp X0.here hx rfl (hb hby d4_38) rfl k) ?_
        refine own_s s₁ (mkF m 42 #[rv ar, iv 1, iv cap, iv g, iv g2, own_j t1, s_, own_j t2, s_, own_j (t1 + (0 : Int64)), s_] []) (fun t k => XS.ifNo X0.here hx rfl (hb hby d4_39) rfl ((if0 _ _).trans (teq ((lw_eq _ _).mpr ((hval c2).trans (by first | (rw [if_pos c9, if_neg c21]; done) | (rw [if_pos c9, if_neg c21]; rfl))))).2) k) ?_
        refine own_s s₁ (mkF m 43 #[rv ar, iv 1, iv cap, iv g, iv g2, own_j t1, s_, own_j t2, s_, own_j (t1 + (0 : Int64)), s_] [.int 1]) (fun t k => XS.iconst X0.here hx rfl (hb hby d4_42) k) ?_
        refine own_s s₁ (mkF m 47 #[rv ar, iv 1, iv cap, iv g, iv g2, own_j t1, s_, own_j t2, s_, own_j (t1 + (0 : Int64)), s_] [.int 1]) (fun t k => XS.goto X0.here hx rfl (pc0 := 43) (pc' := 47) rfl (hb hby d4_43) (by decide) (by decide) k) ?_
        refine own_rN X0 hx hlk Bd.returns (by simp) (hb hby d4_47) ?_ (by decide) (by decide)
        rw [e0]
        exact ⟨rfl, N0, rfl⟩
    · refine own_s s₁ (mkF m 17 #[rv ar, iv 1, iv cap, iv g, iv g2, own_j t1, s_, own_j t2, s_, u_, u_] []) (fun t k => XS.icmpYes X0.here hx rfl (pc0 := 9) (pc' := 17) rfl (hb hby d4_9) rfl (feq c9).2 (by decide) (by decide) k) ?_
      refine own_s s₁ (mkF m 18 #[rv ar, iv 1, iv cap, iv g, iv g2, own_j t1, s_, own_j t2, s_, u_, u_] [.long 0]) (fun t k => XS.lconst X0.here hx rfl (hb hby d4_17) k) ?_
      refine own_s s₁ (mkF m 19 #[rv ar, iv 1, iv cap, iv g, iv g2, own_j t1, s_, own_j t2, s_, u_, u_] [.int 1, .long 0]) (fun t k => XS.iloadN X0.here hx rfl (hb hby d4_18) rfl k) ?_
      refine own_s s₁ (mkF m 21 #[rv ar, iv 1, iv cap, iv g, iv g2, own_j t1, s_, own_j t2, s_, u_, u_] [.int g2, .int 1, .long 0]) (fun t k => XS.iload X0.here hx rfl (hb hby d4_19) rfl k) ?_
      by_cases c21 : (1 : Int32) = g2
      · refine own_s s₁ (mkF m 24 #[rv ar, iv 1, iv cap, iv g, iv g2, own_j t1, s_, own_j t2, s_, u_, u_] [.long 0]) (fun t k => XS.icmpNo X0.here hx rfl (hb hby d4_21) rfl (teq c21).2 k) ?_
        refine own_s s₁ (mkF m 26 #[rv ar, iv 1, iv cap, iv g, iv g2, own_j t1, s_, own_j t2, s_, u_, u_] [.long t2, .long 0]) (fun t k => XS.lload X0.here hx rfl (hb hby d4_24) rfl k) ?_
        refine own_s s₁ (mkF m 30 #[rv ar, iv 1, iv cap, iv g, iv g2, own_j t1, s_, own_j t2, s_, u_, u_] [.long t2, .long 0]) (fun t k => XS.goto X0.here hx rfl (pc0 := 26) (pc' := 30) rfl (hb hby d4_26) (by decide) (by decide) k) ?_
        refine own_s s₁ (mkF m 31 #[rv ar, iv 1, iv cap, iv g, iv g2, own_j t1, s_, own_j t2, s_, u_, u_] [.long ((0 : Int64) + t2)]) (fun t k => XS.ladd X0.here hx rfl (hb hby d4_30) rfl k) ?_
        refine own_s s₁ (mkF m 33 #[rv ar, iv 1, iv cap, iv g, iv g2, own_j t1, s_, own_j t2, s_, own_j ((0 : Int64) + t2), s_] []) (fun t k => XS.lstore X0.here hx rfl (hb hby d4_31) rfl (l' := #[rv ar, iv 1, iv cap, iv g, iv g2, own_j t1, s_, own_j t2, s_, own_j ((0 : Int64) + t2), s_]) rfl k) ?_
        refine own_s s₁ (mkF m 34 #[rv ar, iv 1, iv cap, iv g, iv g2, own_j t1, s_, own_j t2, s_, own_j ((0 : Int64) + t2), s_] [.ref ar]) (fun t k => XS.aloadN X0.here hx rfl (hb hby d4_33) rfl rfl k) ?_
        refine own_s s₁ (mkF m 35 #[rv ar, iv 1, iv cap, iv g, iv g2, own_j t1, s_, own_j t2, s_, own_j ((0 : Int64) + t2), s_] [.int 1, .ref ar]) (fun t k => XS.iloadN X0.here hx rfl (hb hby d4_34) rfl k) ?_
        obtain ⟨cl3, Ar3, qa3, S3, M3, H3, U3⟩ := id F_0
        have hi3 := inb_of S3 (j := (1 : Int32)) ⟨by decide, c2⟩
        have hat3 := H3.at hi3 (v := (.long v1)) (own_getL hcap ⟨by decide, c2⟩)
        refine own_s s₁ (mkF m 36 #[rv ar, iv 1, iv cap, iv g, iv g2, own_j t1, s_, own_j t2, s_, own_j ((0 : Int64) + t2), s_] [.long v1]) (fun t k => X0.laload hx (j := (1 : Int32)) (v := (.long v1)) (by rw [e0]; exact Ar3.1) (State.isArrayOf_alike hZ.alike Ar3.2.1) Ar3.2.2 hi3 hat3 (g := (mkF m 35 #[rv ar, iv 1, iv cap, iv g, iv g2, own_j t1, s_, own_j t2, s_, own_j ((0 : Int64) + t2), s_] [.int 1, .ref ar])) rfl rfl (hb hby d4_35) t k) ?_
        refine own_s s₁ (mkF m 38 #[rv ar, iv 1, iv cap, iv g, iv g2, own_j t1, s_, own_j t2, s_, own_j ((0 : Int64) + t2), s_] [.long ((0 : Int64) + t2), .long v1]) (fun t k => XS.lload X0.here hx rfl (hb hby d4_36) rfl k) ?_
        refine own_s s₁ (mkF m 39 #[rv ar, iv 1, iv cap, iv g, iv g2, own_j t1, s_, own_j t2, s_, own_j ((0 : Int64) + t2), s_] [.int (lcmpW v1 ((0 : Int64) + t2))]) (fun t k => XS.lcmp X0.here hx rfl (hb hby d4_38) rfl k) ?_
        refine own_s s₁ (mkF m 42 #[rv ar, iv 1, iv cap, iv g, iv g2, own_j t1, s_, own_j t2, s_, own_j ((0 : Int64) + t2), s_] []) (fun t k => XS.ifNo X0.here hx rfl (hb hby d4_39) rfl ((if0 _ _).trans (teq ((lw_eq _ _).mpr ((hval c2).trans (by first | (rw [if_neg c9, if_pos c21]; done) | (rw [if_neg c9, if_pos c21]; rfl))))).2) k) ?_
        refine own_s s₁ (mkF m 43 #[rv ar, iv 1, iv cap, iv g, iv g2, own_j t1, s_, own_j t2, s_, own_j ((0 : Int64) + t2), s_] [.int 1]) (fun t k => XS.iconst X0.here hx rfl (hb hby d4_42) k) ?_
        refine own_s s₁ (mkF m 47 #[rv ar, iv 1, iv cap, iv g, iv g2, own_j t1, s_, own_j t2, s_, own_j ((0 : Int64) + t2), s_] [.int 1]) (fun t k => XS.goto X0.here hx rfl (pc0 := 43) (pc' := 47) rfl (hb hby d4_43) (by decide) (by decide) k) ?_
        refine own_rN X0 hx hlk Bd.returns (by simp) (hb hby d4_47) ?_ (by decide) (by decide)
        rw [e0]
        exact ⟨rfl, N0, rfl⟩
      · refine own_s s₁ (mkF m 29 #[rv ar, iv 1, iv cap, iv g, iv g2, own_j t1, s_, own_j t2, s_, u_, u_] [.long 0]) (fun t k => XS.icmpYes X0.here hx rfl (pc0 := 21) (pc' := 29) rfl (hb hby d4_21) rfl (feq c21).2 (by decide) (by decide) k) ?_
        refine own_s s₁ (mkF m 30 #[rv ar, iv 1, iv cap, iv g, iv g2, own_j t1, s_, own_j t2, s_, u_, u_] [.long 0, .long 0]) (fun t k => XS.lconst X0.here hx rfl (hb hby d4_29) k) ?_
        refine own_s s₁ (mkF m 31 #[rv ar, iv 1, iv cap, iv g, iv g2, own_j t1, s_, own_j t2, s_, u_, u_] [.long 0]) (fun t k => XS.ladd X0.here hx rfl (hb hby d4_30) rfl k) ?_
        refine own_s s₁ (mkF m 33 #[rv ar, iv 1, iv cap, iv g, iv g2, own_j t1, s_, own_j t2, s_, own_j 0, s_] []) (fun t k => XS.lstore X0.here hx rfl (hb hby d4_31) rfl (l' := #[rv ar, iv 1, iv cap, iv g, iv g2, own_j t1, s_, own_j t2, s_, own_j 0, s_]) rfl k) ?_
        refine own_s s₁ (mkF m 34 #[rv ar, iv 1, iv cap, iv g, iv g2, own_j t1, s_, own_j t2, s_, own_j 0, s_] [.ref ar]) (fun t k => XS.aloadN X0.here hx rfl (hb hby d4_33) rfl rfl k) ?_
        refine own_s s₁ (mkF m 35 #[rv ar, iv 1, iv cap, iv g, iv g2, own_j t1, s_, own_j t2, s_, own_j 0, s_] [.int 1, .ref ar]) (fun t k => XS.iloadN X0.here hx rfl (hb hby d4_34) rfl k) ?_
        obtain ⟨cl4, Ar4, qa4, S4, M4, H4, U4⟩ := id F_0
        have hi4 := inb_of S4 (j := (1 : Int32)) ⟨by decide, c2⟩
        have hat4 := H4.at hi4 (v := (.long v1)) (own_getL hcap ⟨by decide, c2⟩)
        refine own_s s₁ (mkF m 36 #[rv ar, iv 1, iv cap, iv g, iv g2, own_j t1, s_, own_j t2, s_, own_j 0, s_] [.long v1]) (fun t k => X0.laload hx (j := (1 : Int32)) (v := (.long v1)) (by rw [e0]; exact Ar4.1) (State.isArrayOf_alike hZ.alike Ar4.2.1) Ar4.2.2 hi4 hat4 (g := (mkF m 35 #[rv ar, iv 1, iv cap, iv g, iv g2, own_j t1, s_, own_j t2, s_, own_j 0, s_] [.int 1, .ref ar])) rfl rfl (hb hby d4_35) t k) ?_
        refine own_s s₁ (mkF m 38 #[rv ar, iv 1, iv cap, iv g, iv g2, own_j t1, s_, own_j t2, s_, own_j 0, s_] [.long 0, .long v1]) (fun t k => XS.lload X0.here hx rfl (hb hby d4_36) rfl k) ?_
        refine own_s s₁ (mkF m 39 #[rv ar, iv 1, iv cap, iv g, iv g2, own_j t1, s_, own_j t2, s_, own_j 0, s_] [.int (lcmpW v1 (0 : Int64))]) (fun t k => XS.lcmp X0.here hx rfl (hb hby d4_38) rfl k) ?_
        refine own_s s₁ (mkF m 42 #[rv ar, iv 1, iv cap, iv g, iv g2, own_j t1, s_, own_j t2, s_, own_j 0, s_] []) (fun t k => XS.ifNo X0.here hx rfl (hb hby d4_39) rfl ((if0 _ _).trans (teq ((lw_eq _ _).mpr ((hval c2).trans (by first | (rw [if_neg c9, if_neg c21]; done) | (rw [if_neg c9, if_neg c21]; rfl))))).2) k) ?_
        refine own_s s₁ (mkF m 43 #[rv ar, iv 1, iv cap, iv g, iv g2, own_j t1, s_, own_j t2, s_, own_j 0, s_] [.int 1]) (fun t k => XS.iconst X0.here hx rfl (hb hby d4_42) k) ?_
        refine own_s s₁ (mkF m 47 #[rv ar, iv 1, iv cap, iv g, iv g2, own_j t1, s_, own_j t2, s_, own_j 0, s_] [.int 1]) (fun t k => XS.goto X0.here hx rfl (pc0 := 43) (pc' := 47) rfl (hb hby d4_43) (by decide) (by decide) k) ?_
        refine own_rN X0 hx hlk Bd.returns (by simp) (hb hby d4_47) ?_ (by decide) (by decide)
        rw [e0]
        exact ⟨rfl, N0, rfl⟩
  · refine own_s s₁ (mkF m 5 #[rv ar, iv 1, iv cap, iv g, iv g2, own_j t1, s_, own_j t2, s_, u_, u_] []) (fun t k => XS.icmpNo X0.here hx rfl (hb hby d4_2) rfl (flt c2).1 k) ?_
    refine own_s s₁ (mkF m 6 #[rv ar, iv 1, iv cap, iv g, iv g2, own_j t1, s_, own_j t2, s_, u_, u_] [.int 1]) (fun t k => XS.iconst X0.here hx rfl (hb hby d4_5) k) ?_
    refine own_rN X0 hx hlk Bd.returns (by simp) (hb hby d4_6) ?_ (by decide) (by decide)
    rw [e0]
    exact ⟨rfl, N0, rfl⟩
def Q_cel2 (Z : State) (ar : Addr) (kr : ClassId) (cap : Int32) (g : Int32) (g2 : Int32) (t1 : Int64) (t2 : Int64) (v0 : Int64) (v1 : Int64) (v2 : Int64) (v3 : Int64) (h0 : Heap) (n0 : Nat) (v : Option Value) (h : Heap) (L : List Loc) : Prop := v = some (.int (1 : Int32)) ∧ Fr n0 L ∧ h = h0
theorem ef_rm_cel2 (m : MethodId) (x0 : Addr) (x1 : Int32) (x2 : Int32) (x3 : Int32) (x4 : Int32) (x5 : Int64) (x6 : Int64) : entryFrame m #[(.ref x0), (.int x1), (.int x2), (.int x3), (.int x4), (.long x5), (.long x6)] 11 = mkF m 0 #[.val (.ref x0), .val (.int x1), .val (.int x2), .val (.int x3), .val (.int x4), .val (.long x5), .second, .val (.long x6), .second, .unset, .unset] [] := by first | (simp [entryFrame, mkF, argsToLocals, Value.category]; done) | rfl | (simp [entryFrame, mkF, argsToLocals, Value.category] <;> rfl)
set_option maxRecDepth 65536 in
set_option maxHeartbeats 40000000 in
theorem rm_cel2 (l : Launch) (Z : State) (a0 : Array Value) (hw : ∀ d ∈ tables_1, d.before a0 Z = true) (ws : List Jvm.Cond) (ar : Addr) (kr : ClassId) (cap : Int32) (g : Int32) (g2 : Int32) (t1 : Int64) (t2 : Int64) (v0 : Int64) (v1 : Int64) (v2 : Int64) (v3 : Int64) (h0 : Heap) (n0 : Nat) (Z0 : n0 ≤ h0.size) (F_0 : Arv Z h0 ar kr .long cap (own_L cap v0 v1 v2 v3) (.long (0 : Int64))) (hcap : own_cap cap) (hval : (2 : Int32) < cap → v2 = (if (2 : Int32) = g then t1 else 0) + (if (2 : Int32) = g2 then t2 else 0)) :
    MetFree l (⟨"com/example/viewlattice/viewlattice/engine/DecimalSumsGetUnscaledLongsPinLaw", "cell", "([JIIIIJJ)Z"⟩ : MethodName) (head1 (Jvm.Cond.code (⟨"com/example/viewlattice/viewlattice/engine/DecimalSumsGetUnscaledLongsPinLaw", "cell", "([JIIIIJJ)Z"⟩ : MethodName) method_3_code 11 (some (.boolean)) :: ws) ({ frames := 0, cells := 0, slots := 0, locals := 0 } : Room)) (fun a U => a = #[(.ref ar), (.int (2 : Int32)), (.int cap), (.int g), (.int g2), (.long t1), (.long t2)] ∧ Z.Warmed39 U.vm ∧ U.heap = h0) (fun _ _ _ _ _ => True) (fun _ U o U' => ∃ v L, o = .returned v ∧ (Q_cel2 Z ar kr cap g g2 t1 t2 v0 v1 v2 v3 h0 n0) v U'.heap L ∧ FrameEnd U o U' L ({ frames := 0, cells := 0, slots := 0, locals := 0 } : Room).cells ({ frames := 0, cells := 0, slots := 0, locals := 0 } : Room).slots) := by
  refine MetFree.of_bodySF (plainFor_of_name pn_0) hisR ?_
  intro p e s m args below meth c s₁ Bd hml0 hP hK
  obtain ⟨rfl, hZ, hh⟩ := hP
  have hx := Bd.exec
  have hby := Bd.bytes
  have hW := fun i d (h : tables_1[i]? = some d) => hw d (List.mem_of_getElem? h)
  have hlk : meth.locks = false := BodyLoose.notSynchronized Bd
  have hml : c.maxLocals = 11 := hml0
  have hown : s.vm.findClass "com/example/viewlattice/viewlattice/engine/DecimalSumsGetUnscaledLongsPinLaw" = some m.cls := findClass_of_methodNamed Bd.named
  have hnm := (name_of_methodNamed Bd.named Bd.method).1
  have X0 : Stand p l e ({ frames := 0, cells := 0, slots := 0, locals := 0 } : Room) s m #[(.ref ar), (.int (2 : Int32)), (.int cap), (.int g), (.int g2), (.long t1), (.long t2)] below meth c s₁ [] 0 0 := Stand.of_body Bd
  have e0 : s₁.heap = h0 := by rw [← hh, Bd.state]; rfl
  have N0 := Fr.nil n0
  show own_Go p e below s (Q_cel2 Z ar kr cap g g2 t1 t2 v0 v1 v2 v3 h0 n0) ({ frames := 0, cells := 0, slots := 0, locals := 0 } : Room).cells ({ frames := 0, cells := 0, slots := 0, locals := 0 } : Room).slots s₁ (entryFrame m #[(.ref ar), (.int (2 : Int32)), (.int cap), (.int g), (.int g2), (.long t1), (.long t2)] 11)
  refine own_cast (g' := (mkF m 0 #[rv ar, iv 2, iv cap, iv g, iv g2, own_j t1, s_, own_j t2, s_, u_, u_] [])) (ef_rm_cel2 m ar (2 : Int32) cap g g2 t1 t2) ?_
  refine own_s s₁ (mkF m 1 #[rv ar, iv 2, iv cap, iv g, iv g2, own_j t1, s_, own_j t2, s_, u_, u_] [.int 2]) (fun t k => XS.iloadN X0.here hx rfl (hb hby d4_0) rfl k) ?_
  refine own_s s₁ (mkF m 2 #[rv ar, iv 2, iv cap, iv g, iv g2, own_j t1, s_, own_j t2, s_, u_, u_] [.int cap, .int 2]) (fun t k => XS.iloadN X0.here hx rfl (hb hby d4_1) rfl k) ?_
  by_cases c2 : (2 : Int32) < cap
  · refine own_s s₁ (mkF m 7 #[rv ar, iv 2, iv cap, iv g, iv g2, own_j t1, s_, own_j t2, s_, u_, u_] []) (fun t k => XS.icmpYes X0.here hx rfl (pc0 := 2) (pc' := 7) rfl (hb hby d4_2) rfl (tlt c2).1 (by decide) (by decide) k) ?_
    refine own_s s₁ (mkF m 8 #[rv ar, iv 2, iv cap, iv g, iv g2, own_j t1, s_, own_j t2, s_, u_, u_] [.int 2]) (fun t k => XS.iloadN X0.here hx rfl (hb hby d4_7) rfl k) ?_
    refine own_s s₁ (mkF m 9 #[rv ar, iv 2, iv cap, iv g, iv g2, own_j t1, s_, own_j t2, s_, u_, u_] [.int g, .int 2]) (fun t k => XS.iloadN X0.here hx rfl (hb hby d4_8) rfl k) ?_
    by_cases c9 : (2 : Int32) = g
    · refine own_s s₁ (mkF m 12 #[rv ar, iv 2, iv cap, iv g, iv g2, own_j t1, s_, own_j t2, s_, u_, u_] []) (fun t k => XS.icmpNo X0.here hx rfl (hb hby d4_9) rfl (teq c9).2 k) ?_
      refine own_s s₁ (mkF m 14 #[rv ar, iv 2, iv cap, iv g, iv g2, own_j t1, s_, own_j t2, s_, u_, u_] [.long t1]) (fun t k => XS.lload X0.here hx rfl (hb hby d4_12) rfl k) ?_
      refine own_s s₁ (mkF m 18 #[rv ar, iv 2, iv cap, iv g, iv g2, own_j t1, s_, own_j t2, s_, u_, u_] [.long t1]) (fun t k => XS.goto X0.here hx rfl (pc0 := 14) (pc' := 18) rfl (hb hby d4_14) (by decide) (by decide) k) ?_
      refine own_s s₁ (mkF m 19 #[rv ar, iv 2, iv cap, iv g, iv g2, own_j t1, s_, own_j t2, s_, u_, u_] [.int 2, .long t1]) (fun t k => XS.iloadN X0.here hx rfl (hb hby d4_18) rfl k) ?_
      refine own_s s₁ (mkF m 21 #[rv ar, iv 2, iv cap, iv g, iv g2, own_j t1, s_, own_j t2, s_, u_, u_] [.int g2, .int 2, .long t1]) (fun t k => XS.iload X0.here hx rfl (hb hby d4_19) rfl k) ?_
      by_cases c21 : (2 : Int32) = g2
      · refine own_s s₁ (mkF m 24 #[rv ar, iv 2, iv cap, iv g, iv g2, own_j t1, s_, own_j t2, s_, u_, u_] [.long t1]) (fun t k => XS.icmpNo X0.here hx rfl (hb hby d4_21) rfl (teq c21).2 k) ?_
        refine own_s s₁ (mkF m 26 #[rv ar, iv 2, iv cap, iv g, iv g2, own_j t1, s_, own_j t2, s_, u_, u_] [.long t2, .long t1]) (fun t k => XS.lload X0.here hx rfl (hb hby d4_24) rfl k) ?_
        refine own_s s₁ (mkF m 30 #[rv ar, iv 2, iv cap, iv g, iv g2, own_j t1, s_, own_j t2, s_, u_, u_] [.long t2, .long t1]) (fun t k => XS.goto X0.here hx rfl (pc0 := 26) (pc' := 30) rfl (hb hby d4_26) (by decide) (by decide) k) ?_
        refine own_s s₁ (mkF m 31 #[rv ar, iv 2, iv cap, iv g, iv g2, own_j t1, s_, own_j t2, s_, u_, u_] [.long (t1 + t2)]) (fun t k => XS.ladd X0.here hx rfl (hb hby d4_30) rfl k) ?_
        refine own_s s₁ (mkF m 33 #[rv ar, iv 2, iv cap, iv g, iv g2, own_j t1, s_, own_j t2, s_, own_j (t1 + t2), s_] []) (fun t k => XS.lstore X0.here hx rfl (hb hby d4_31) rfl (l' := #[rv ar, iv 2, iv cap, iv g, iv g2, own_j t1, s_, own_j t2, s_, own_j (t1 + t2), s_]) rfl k) ?_
        refine own_s s₁ (mkF m 34 #[rv ar, iv 2, iv cap, iv g, iv g2, own_j t1, s_, own_j t2, s_, own_j (t1 + t2), s_] [.ref ar]) (fun t k => XS.aloadN X0.here hx rfl (hb hby d4_33) rfl rfl k) ?_
        refine own_s s₁ (mkF m 35 #[rv ar, iv 2, iv cap, iv g, iv g2, own_j t1, s_, own_j t2, s_, own_j (t1 + t2), s_] [.int 2, .ref ar]) (fun t k => XS.iloadN X0.here hx rfl (hb hby d4_34) rfl k) ?_
        obtain ⟨cl1, Ar1, qa1, S1, M1, H1, U1⟩ := id F_0
        have hi1 := inb_of S1 (j := (2 : Int32)) ⟨by decide, c2⟩
        have hat1 := H1.at hi1 (v := (.long v2)) (own_getL hcap ⟨by decide, c2⟩)
        refine own_s s₁ (mkF m 36 #[rv ar, iv 2, iv cap, iv g, iv g2, own_j t1, s_, own_j t2, s_, own_j (t1 + t2), s_] [.long v2]) (fun t k => X0.laload hx (j := (2 : Int32)) (v := (.long v2)) (by rw [e0]; exact Ar1.1) (State.isArrayOf_alike hZ.alike Ar1.2.1) Ar1.2.2 hi1 hat1 (g := (mkF m 35 #[rv ar, iv 2, iv cap, iv g, iv g2, own_j t1, s_, own_j t2, s_, own_j (t1 + t2), s_] [.int 2, .ref ar])) rfl rfl (hb hby d4_35) t k) ?_
        refine own_s s₁ (mkF m 38 #[rv ar, iv 2, iv cap, iv g, iv g2, own_j t1, s_, own_j t2, s_, own_j (t1 + t2), s_] [.long (t1 + t2), .long v2]) (fun t k => XS.lload X0.here hx rfl (hb hby d4_36) rfl k) ?_
        refine own_s s₁ (mkF m 39 #[rv ar, iv 2, iv cap, iv g, iv g2, own_j t1, s_, own_j t2, s_, own_j (t1 + t2), s_] [.int (lcmpW v2 (t1 + t2))]) (fun t k => XS.lcmp X0.here hx rfl (hb hby d4_38) rfl k) ?_
        refine own_s s₁ (mkF m 42 #[rv ar, iv 2, iv cap, iv g, iv g2, own_j t1, s_, own_j t2, s_, own_j (t1 + t2), s_] []) (fun t k => XS.ifNo X0.here hx rfl (hb hby d4_39) rfl ((if0 _ _).trans (teq ((lw_eq _ _).mpr ((hval c2).trans (by first | (rw [if_pos c9, if_pos c21]; done) | (rw [if_pos c9, if_pos c21]; rfl))))).2) k) ?_
        refine own_s s₁ (mkF m 43 #[rv ar, iv 2, iv cap, iv g, iv g2, own_j t1, s_, own_j t2, s_, own_j (t1 + t2), s_] [.int 1]) (fun t k => XS.iconst X0.here hx rfl (hb hby d4_42) k) ?_
        refine own_s s₁ (mkF m 47 #[rv ar, iv 2, iv cap, iv g, iv g2, own_j t1, s_, own_j t2, s_, own_j (t1 + t2), s_] [.int 1]) (fun t k => XS.goto X0.here hx rfl (pc0 := 43) (pc' := 47) rfl (hb hby d4_43) (by decide) (by decide) k) ?_
        refine own_rN X0 hx hlk Bd.returns (by simp) (hb hby d4_47) ?_ (by decide) (by decide)
        rw [e0]
        exact ⟨rfl, N0, rfl⟩
      · refine own_s s₁ (mkF m 29 #[rv ar, iv 2, iv cap, iv g, iv g2, own_j t1, s_, own_j t2, s_, u_, u_] [.long t1]) (fun t k => XS.icmpYes X0.here hx rfl (pc0 := 21) (pc' := 29) rfl (hb hby d4_21) rfl (feq c21).2 (by decide) (by decide) k) ?_
        refine own_s s₁ (mkF m 30 #[rv ar, iv 2, iv cap, iv g, iv g2, own_j t1, s_, own_j t2, s_, u_, u_] [.long 0, .long t1]) (fun t k => XS.lconst X0.here hx rfl (hb hby d4_29) k) ?_
        refine own_s s₁ (mkF m 31 #[rv ar, iv 2, iv cap, iv g, iv g2, own_j t1, s_, own_j t2, s_, u_, u_] [.long (t1 + (0 : Int64))]) (fun t k => XS.ladd X0.here hx rfl (hb hby d4_30) rfl k) ?_
        refine own_s s₁ (mkF m 33 #[rv ar, iv 2, iv cap, iv g, iv g2, own_j t1, s_, own_j t2, s_, own_j (t1 + (0 : Int64)), s_] []) (fun t k => XS.lstore X0.here hx rfl (hb hby d4_31) rfl (l' := #[rv ar, iv 2, iv cap, iv g, iv g2, own_j t1, s_, own_j t2, s_, own_j (t1 + (0 : Int64)), s_]) rfl k) ?_
        refine own_s s₁ (mkF m 34 #[rv ar, iv 2, iv cap, iv g, iv g2, own_j t1, s_, own_j t2, s_, own_j (t1 + (0 : Int64)), s_] [.ref ar]) (fun t k => XS.aloadN X0.here hx rfl (hb hby d4_33) rfl rfl k) ?_
        refine own_s s₁ (mkF m 35 #[rv ar, iv 2, iv cap, iv g, iv g2, own_j t1, s_, own_j t2, s_, own_j (t1 + (0 : Int64)), s_] [.int 2, .ref ar]) (fun t k => XS.iloadN X0.here hx rfl (hb hby d4_34) rfl k) ?_
        obtain ⟨cl2, Ar2, qa2, S2, M2, H2, U2⟩ := id F_0
        have hi2 := inb_of S2 (j := (2 : Int32)) ⟨by decide, c2⟩
        have hat2 := H2.at hi2 (v := (.long v2)) (own_getL hcap ⟨by decide, c2⟩)
        refine own_s s₁ (mkF m 36 #[rv ar, iv 2, iv cap, iv g, iv g2, own_j t1, s_, own_j t2, s_, own_j (t1 + (0 : Int64)), s_] [.long v2]) (fun t k => X0.laload hx (j := (2 : Int32)) (v := (.long v2)) (by rw [e0]; exact Ar2.1) (State.isArrayOf_alike hZ.alike Ar2.2.1) Ar2.2.2 hi2 hat2 (g := (mkF m 35 #[rv ar, iv 2, iv cap, iv g, iv g2, own_j t1, s_, own_j t2, s_, own_j (t1 + (0 : Int64)), s_] [.int 2, .ref ar])) rfl rfl (hb hby d4_35) t k) ?_
        refine own_s s₁ (mkF m 38 #[rv ar, iv 2, iv cap, iv g, iv g2, own_j t1, s_, own_j t2, s_, own_j (t1 + (0 : Int64)), s_] [.long (t1 + (0 : Int64)), .long v2]) (fun t k => XS.lload X0.here hx rfl (hb hby d4_36) rfl k) ?_
        refine own_s s₁ (mkF m 39 #[rv ar, iv 2, iv cap, iv g, iv g2, own_j t1, s_, own_j t2, s_, own_j (t1 + (0 : Int64)), s_] [.int (lcmpW v2 (t1 + (0 : Int64)))]) (fun t k => XS.lcmp X0.here hx rfl (hb hby d4_38) rfl k) ?_
        refine own_s s₁ (mkF m 42 #[rv ar, iv 2, iv cap, iv g, iv g2, own_j t1, s_, own_j t2, s_, own_j (t1 + (0 : Int64)), s_] []) (fun t k => XS.ifNo X0.here hx rfl (hb hby d4_39) rfl ((if0 _ _).trans (teq ((lw_eq _ _).mpr ((hval c2).trans (by first | (rw [if_pos c9, if_neg c21]; done) | (rw [if_pos c9, if_neg c21]; rfl))))).2) k) ?_
        refine own_s s₁ (mkF m 43 #[rv ar, iv 2, iv cap, iv g, iv g2, own_j t1, s_, own_j t2, s_, own_j (t1 + (0 : Int64)), s_] [.int 1]) (fun t k => XS.iconst X0.here hx rfl (hb hby d4_42) k) ?_
        refine own_s s₁ (mkF m 47 #[rv ar, iv 2, iv cap, iv g, iv g2, own_j t1, s_, own_j t2, s_, own_j (t1 + (0 : Int64)), s_] [.int 1]) (fun t k => XS.goto X0.here hx rfl (pc0 := 43) (pc' := 47) rfl (hb hby d4_43) (by decide) (by decide) k) ?_
        refine own_rN X0 hx hlk Bd.returns (by simp) (hb hby d4_47) ?_ (by decide) (by decide)
        rw [e0]
        exact ⟨rfl, N0, rfl⟩
    · refine own_s s₁ (mkF m 17 #[rv ar, iv 2, iv cap, iv g, iv g2, own_j t1, s_, own_j t2, s_, u_, u_] []) (fun t k => XS.icmpYes X0.here hx rfl (pc0 := 9) (pc' := 17) rfl (hb hby d4_9) rfl (feq c9).2 (by decide) (by decide) k) ?_
      refine own_s s₁ (mkF m 18 #[rv ar, iv 2, iv cap, iv g, iv g2, own_j t1, s_, own_j t2, s_, u_, u_] [.long 0]) (fun t k => XS.lconst X0.here hx rfl (hb hby d4_17) k) ?_
      refine own_s s₁ (mkF m 19 #[rv ar, iv 2, iv cap, iv g, iv g2, own_j t1, s_, own_j t2, s_, u_, u_] [.int 2, .long 0]) (fun t k => XS.iloadN X0.here hx rfl (hb hby d4_18) rfl k) ?_
      refine own_s s₁ (mkF m 21 #[rv ar, iv 2, iv cap, iv g, iv g2, own_j t1, s_, own_j t2, s_, u_, u_] [.int g2, .int 2, .long 0]) (fun t k => XS.iload X0.here hx rfl (hb hby d4_19) rfl k) ?_
      by_cases c21 : (2 : Int32) = g2
      · refine own_s s₁ (mkF m 24 #[rv ar, iv 2, iv cap, iv g, iv g2, own_j t1, s_, own_j t2, s_, u_, u_] [.long 0]) (fun t k => XS.icmpNo X0.here hx rfl (hb hby d4_21) rfl (teq c21).2 k) ?_
        refine own_s s₁ (mkF m 26 #[rv ar, iv 2, iv cap, iv g, iv g2, own_j t1, s_, own_j t2, s_, u_, u_] [.long t2, .long 0]) (fun t k => XS.lload X0.here hx rfl (hb hby d4_24) rfl k) ?_
        refine own_s s₁ (mkF m 30 #[rv ar, iv 2, iv cap, iv g, iv g2, own_j t1, s_, own_j t2, s_, u_, u_] [.long t2, .long 0]) (fun t k => XS.goto X0.here hx rfl (pc0 := 26) (pc' := 30) rfl (hb hby d4_26) (by decide) (by decide) k) ?_
        refine own_s s₁ (mkF m 31 #[rv ar, iv 2, iv cap, iv g, iv g2, own_j t1, s_, own_j t2, s_, u_, u_] [.long ((0 : Int64) + t2)]) (fun t k => XS.ladd X0.here hx rfl (hb hby d4_30) rfl k) ?_
        refine own_s s₁ (mkF m 33 #[rv ar, iv 2, iv cap, iv g, iv g2, own_j t1, s_, own_j t2, s_, own_j ((0 : Int64) + t2), s_] []) (fun t k => XS.lstore X0.here hx rfl (hb hby d4_31) rfl (l' := #[rv ar, iv 2, iv cap, iv g, iv g2, own_j t1, s_, own_j t2, s_, own_j ((0 : Int64) + t2), s_]) rfl k) ?_
        refine own_s s₁ (mkF m 34 #[rv ar, iv 2, iv cap, iv g, iv g2, own_j t1, s_, own_j t2, s_, own_j ((0 : Int64) + t2), s_] [.ref ar]) (fun t k => XS.aloadN X0.here hx rfl (hb hby d4_33) rfl rfl k) ?_
        refine own_s s₁ (mkF m 35 #[rv ar, iv 2, iv cap, iv g, iv g2, own_j t1, s_, own_j t2, s_, own_j ((0 : Int64) + t2), s_] [.int 2, .ref ar]) (fun t k => XS.iloadN X0.here hx rfl (hb hby d4_34) rfl k) ?_
        obtain ⟨cl3, Ar3, qa3, S3, M3, H3, U3⟩ := id F_0
        have hi3 := inb_of S3 (j := (2 : Int32)) ⟨by decide, c2⟩
        have hat3 := H3.at hi3 (v := (.long v2)) (own_getL hcap ⟨by decide, c2⟩)
        refine own_s s₁ (mkF m 36 #[rv ar, iv 2, iv cap, iv g, iv g2, own_j t1, s_, own_j t2, s_, own_j ((0 : Int64) + t2), s_] [.long v2]) (fun t k => X0.laload hx (j := (2 : Int32)) (v := (.long v2)) (by rw [e0]; exact Ar3.1) (State.isArrayOf_alike hZ.alike Ar3.2.1) Ar3.2.2 hi3 hat3 (g := (mkF m 35 #[rv ar, iv 2, iv cap, iv g, iv g2, own_j t1, s_, own_j t2, s_, own_j ((0 : Int64) + t2), s_] [.int 2, .ref ar])) rfl rfl (hb hby d4_35) t k) ?_
        refine own_s s₁ (mkF m 38 #[rv ar, iv 2, iv cap, iv g, iv g2, own_j t1, s_, own_j t2, s_, own_j ((0 : Int64) + t2), s_] [.long ((0 : Int64) + t2), .long v2]) (fun t k => XS.lload X0.here hx rfl (hb hby d4_36) rfl k) ?_
        refine own_s s₁ (mkF m 39 #[rv ar, iv 2, iv cap, iv g, iv g2, own_j t1, s_, own_j t2, s_, own_j ((0 : Int64) + t2), s_] [.int (lcmpW v2 ((0 : Int64) + t2))]) (fun t k => XS.lcmp X0.here hx rfl (hb hby d4_38) rfl k) ?_
        refine own_s s₁ (mkF m 42 #[rv ar, iv 2, iv cap, iv g, iv g2, own_j t1, s_, own_j t2, s_, own_j ((0 : Int64) + t2), s_] []) (fun t k => XS.ifNo X0.here hx rfl (hb hby d4_39) rfl ((if0 _ _).trans (teq ((lw_eq _ _).mpr ((hval c2).trans (by first | (rw [if_neg c9, if_pos c21]; done) | (rw [if_neg c9, if_pos c21]; rfl))))).2) k) ?_
        refine own_s s₁ (mkF m 43 #[rv ar, iv 2, iv cap, iv g, iv g2, own_j t1, s_, own_j t2, s_, own_j ((0 : Int64) + t2), s_] [.int 1]) (fun t k => XS.iconst X0.here hx rfl (hb hby d4_42) k) ?_
        refine own_s s₁ (mkF m 47 #[rv ar, iv 2, iv cap, iv g, iv g2, own_j t1, s_, own_j t2, s_, own_j ((0 : Int64) + t2), s_] [.int 1]) (fun t k => XS.goto X0.here hx rfl (pc0 := 43) (pc' := 47) rfl (hb hby d4_43) (by decide) (by decide) k) ?_
        refine own_rN X0 hx hlk Bd.returns (by simp) (hb hby d4_47) ?_ (by decide) (by decide)
        rw [e0]
        exact ⟨rfl, N0, rfl⟩
      · refine own_s s₁ (mkF m 29 #[rv ar, iv 2, iv cap, iv g, iv g2, own_j t1, s_, own_j t2, s_, u_, u_] [.long 0]) (fun t k => XS.icmpYes X0.here hx rfl (pc0 := 21) (pc' := 29) rfl (hb hby d4_21) rfl (feq c21).2 (by decide) (by decide) k) ?_
        refine own_s s₁ (mkF m 30 #[rv ar, iv 2, iv cap, iv g, iv g2, own_j t1, s_, own_j t2, s_, u_, u_] [.long 0, .long 0]) (fun t k => XS.lconst X0.here hx rfl (hb hby d4_29) k) ?_
        refine own_s s₁ (mkF m 31 #[rv ar, iv 2, iv cap, iv g, iv g2, own_j t1, s_, own_j t2, s_, u_, u_] [.long 0]) (fun t k => XS.ladd X0.here hx rfl (hb hby d4_30) rfl k) ?_
        refine own_s s₁ (mkF m 33 #[rv ar, iv 2, iv cap, iv g, iv g2, own_j t1, s_, own_j t2, s_, own_j 0, s_] []) (fun t k => XS.lstore X0.here hx rfl (hb hby d4_31) rfl (l' := #[rv ar, iv 2, iv cap, iv g, iv g2, own_j t1, s_, own_j t2, s_, own_j 0, s_]) rfl k) ?_
        refine own_s s₁ (mkF m 34 #[rv ar, iv 2, iv cap, iv g, iv g2, own_j t1, s_, own_j t2, s_, own_j 0, s_] [.ref ar]) (fun t k => XS.aloadN X0.here hx rfl (hb hby d4_33) rfl rfl k) ?_
        refine own_s s₁ (mkF m 35 #[rv ar, iv 2, iv cap, iv g, iv g2, own_j t1, s_, own_j t2, s_, own_j 0, s_] [.int 2, .ref ar]) (fun t k => XS.iloadN X0.here hx rfl (hb hby d4_34) rfl k) ?_
        obtain ⟨cl4, Ar4, qa4, S4, M4, H4, U4⟩ := id F_0
        have hi4 := inb_of S4 (j := (2 : Int32)) ⟨by decide, c2⟩
        have hat4 := H4.at hi4 (v := (.long v2)) (own_getL hcap ⟨by decide, c2⟩)
        refine own_s s₁ (mkF m 36 #[rv ar, iv 2, iv cap, iv g, iv g2, own_j t1, s_, own_j t2, s_, own_j 0, s_] [.long v2]) (fun t k => X0.laload hx (j := (2 : Int32)) (v := (.long v2)) (by rw [e0]; exact Ar4.1) (State.isArrayOf_alike hZ.alike Ar4.2.1) Ar4.2.2 hi4 hat4 (g := (mkF m 35 #[rv ar, iv 2, iv cap, iv g, iv g2, own_j t1, s_, own_j t2, s_, own_j 0, s_] [.int 2, .ref ar])) rfl rfl (hb hby d4_35) t k) ?_
        refine own_s s₁ (mkF m 38 #[rv ar, iv 2, iv cap, iv g, iv g2, own_j t1, s_, own_j t2, s_, own_j 0, s_] [.long 0, .long v2]) (fun t k => XS.lload X0.here hx rfl (hb hby d4_36) rfl k) ?_
        refine own_s s₁ (mkF m 39 #[rv ar, iv 2, iv cap, iv g, iv g2, own_j t1, s_, own_j t2, s_, own_j 0, s_] [.int (lcmpW v2 (0 : Int64))]) (fun t k => XS.lcmp X0.here hx rfl (hb hby d4_38) rfl k) ?_
        refine own_s s₁ (mkF m 42 #[rv ar, iv 2, iv cap, iv g, iv g2, own_j t1, s_, own_j t2, s_, own_j 0, s_] []) (fun t k => XS.ifNo X0.here hx rfl (hb hby d4_39) rfl ((if0 _ _).trans (teq ((lw_eq _ _).mpr ((hval c2).trans (by first | (rw [if_neg c9, if_neg c21]; done) | (rw [if_neg c9, if_neg c21]; rfl))))).2) k) ?_
        refine own_s s₁ (mkF m 43 #[rv ar, iv 2, iv cap, iv g, iv g2, own_j t1, s_, own_j t2, s_, own_j 0, s_] [.int 1]) (fun t k => XS.iconst X0.here hx rfl (hb hby d4_42) k) ?_
        refine own_s s₁ (mkF m 47 #[rv ar, iv 2, iv cap, iv g, iv g2, own_j t1, s_, own_j t2, s_, own_j 0, s_] [.int 1]) (fun t k => XS.goto X0.here hx rfl (pc0 := 43) (pc' := 47) rfl (hb hby d4_43) (by decide) (by decide) k) ?_
        refine own_rN X0 hx hlk Bd.returns (by simp) (hb hby d4_47) ?_ (by decide) (by decide)
        rw [e0]
        exact ⟨rfl, N0, rfl⟩
  · refine own_s s₁ (mkF m 5 #[rv ar, iv 2, iv cap, iv g, iv g2, own_j t1, s_, own_j t2, s_, u_, u_] []) (fun t k => XS.icmpNo X0.here hx rfl (hb hby d4_2) rfl (flt c2).1 k) ?_
    refine own_s s₁ (mkF m 6 #[rv ar, iv 2, iv cap, iv g, iv g2, own_j t1, s_, own_j t2, s_, u_, u_] [.int 1]) (fun t k => XS.iconst X0.here hx rfl (hb hby d4_5) k) ?_
    refine own_rN X0 hx hlk Bd.returns (by simp) (hb hby d4_6) ?_ (by decide) (by decide)
    rw [e0]
    exact ⟨rfl, N0, rfl⟩
def Q_cel3 (Z : State) (ar : Addr) (kr : ClassId) (cap : Int32) (g : Int32) (g2 : Int32) (t1 : Int64) (t2 : Int64) (v0 : Int64) (v1 : Int64) (v2 : Int64) (v3 : Int64) (h0 : Heap) (n0 : Nat) (v : Option Value) (h : Heap) (L : List Loc) : Prop := v = some (.int (1 : Int32)) ∧ Fr n0 L ∧ h = h0
theorem ef_rm_cel3 (m : MethodId) (x0 : Addr) (x1 : Int32) (x2 : Int32) (x3 : Int32) (x4 : Int32) (x5 : Int64) (x6 : Int64) : entryFrame m #[(.ref x0), (.int x1), (.int x2), (.int x3), (.int x4), (.long x5), (.long x6)] 11 = mkF m 0 #[.val (.ref x0), .val (.int x1), .val (.int x2), .val (.int x3), .val (.int x4), .val (.long x5), .second, .val (.long x6), .second, .unset, .unset] [] := by first | (simp [entryFrame, mkF, argsToLocals, Value.category]; done) | rfl | (simp [entryFrame, mkF, argsToLocals, Value.category] <;> rfl)
set_option maxRecDepth 65536 in
set_option maxHeartbeats 40000000 in
theorem rm_cel3 (l : Launch) (Z : State) (a0 : Array Value) (hw : ∀ d ∈ tables_1, d.before a0 Z = true) (ws : List Jvm.Cond) (ar : Addr) (kr : ClassId) (cap : Int32) (g : Int32) (g2 : Int32) (t1 : Int64) (t2 : Int64) (v0 : Int64) (v1 : Int64) (v2 : Int64) (v3 : Int64) (h0 : Heap) (n0 : Nat) (Z0 : n0 ≤ h0.size) (F_0 : Arv Z h0 ar kr .long cap (own_L cap v0 v1 v2 v3) (.long (0 : Int64))) (hcap : own_cap cap) (hval : (3 : Int32) < cap → v3 = (if (3 : Int32) = g then t1 else 0) + (if (3 : Int32) = g2 then t2 else 0)) :
    MetFree l (⟨"com/example/viewlattice/viewlattice/engine/DecimalSumsGetUnscaledLongsPinLaw", "cell", "([JIIIIJJ)Z"⟩ : MethodName) (head1 (Jvm.Cond.code (⟨"com/example/viewlattice/viewlattice/engine/DecimalSumsGetUnscaledLongsPinLaw", "cell", "([JIIIIJJ)Z"⟩ : MethodName) method_3_code 11 (some (.boolean)) :: ws) ({ frames := 0, cells := 0, slots := 0, locals := 0 } : Room)) (fun a U => a = #[(.ref ar), (.int (3 : Int32)), (.int cap), (.int g), (.int g2), (.long t1), (.long t2)] ∧ Z.Warmed39 U.vm ∧ U.heap = h0) (fun _ _ _ _ _ => True) (fun _ U o U' => ∃ v L, o = .returned v ∧ (Q_cel3 Z ar kr cap g g2 t1 t2 v0 v1 v2 v3 h0 n0) v U'.heap L ∧ FrameEnd U o U' L ({ frames := 0, cells := 0, slots := 0, locals := 0 } : Room).cells ({ frames := 0, cells := 0, slots := 0, locals := 0 } : Room).slots) := by
  refine MetFree.of_bodySF (plainFor_of_name pn_0) hisR ?_
  intro p e s m args below meth c s₁ Bd hml0 hP hK
  obtain ⟨rfl, hZ, hh⟩ := hP
  have hx := Bd.exec
  have hby := Bd.bytes
  have hW := fun i d (h : tables_1[i]? = some d) => hw d (List.mem_of_getElem? h)
  have hlk : meth.locks = false := BodyLoose.notSynchronized Bd
  have hml : c.maxLocals = 11 := hml0
  have hown : s.vm.findClass "com/example/viewlattice/viewlattice/engine/DecimalSumsGetUnscaledLongsPinLaw" = some m.cls := findClass_of_methodNamed Bd.named
  have hnm := (name_of_methodNamed Bd.named Bd.method).1
  have X0 : Stand p l e ({ frames := 0, cells := 0, slots := 0, locals := 0 } : Room) s m #[(.ref ar), (.int (3 : Int32)), (.int cap), (.int g), (.int g2), (.long t1), (.long t2)] below meth c s₁ [] 0 0 := Stand.of_body Bd
  have e0 : s₁.heap = h0 := by rw [← hh, Bd.state]; rfl
  have N0 := Fr.nil n0
  show own_Go p e below s (Q_cel3 Z ar kr cap g g2 t1 t2 v0 v1 v2 v3 h0 n0) ({ frames := 0, cells := 0, slots := 0, locals := 0 } : Room).cells ({ frames := 0, cells := 0, slots := 0, locals := 0 } : Room).slots s₁ (entryFrame m #[(.ref ar), (.int (3 : Int32)), (.int cap), (.int g), (.int g2), (.long t1), (.long t2)] 11)
  refine own_cast (g' := (mkF m 0 #[rv ar, iv 3, iv cap, iv g, iv g2, own_j t1, s_, own_j t2, s_, u_, u_] [])) (ef_rm_cel3 m ar (3 : Int32) cap g g2 t1 t2) ?_
  refine own_s s₁ (mkF m 1 #[rv ar, iv 3, iv cap, iv g, iv g2, own_j t1, s_, own_j t2, s_, u_, u_] [.int 3]) (fun t k => XS.iloadN X0.here hx rfl (hb hby d4_0) rfl k) ?_
  refine own_s s₁ (mkF m 2 #[rv ar, iv 3, iv cap, iv g, iv g2, own_j t1, s_, own_j t2, s_, u_, u_] [.int cap, .int 3]) (fun t k => XS.iloadN X0.here hx rfl (hb hby d4_1) rfl k) ?_
  by_cases c2 : (3 : Int32) < cap
  · refine own_s s₁ (mkF m 7 #[rv ar, iv 3, iv cap, iv g, iv g2, own_j t1, s_, own_j t2, s_, u_, u_] []) (fun t k => XS.icmpYes X0.here hx rfl (pc0 := 2) (pc' := 7) rfl (hb hby d4_2) rfl (tlt c2).1 (by decide) (by decide) k) ?_
    refine own_s s₁ (mkF m 8 #[rv ar, iv 3, iv cap, iv g, iv g2, own_j t1, s_, own_j t2, s_, u_, u_] [.int 3]) (fun t k => XS.iloadN X0.here hx rfl (hb hby d4_7) rfl k) ?_
    refine own_s s₁ (mkF m 9 #[rv ar, iv 3, iv cap, iv g, iv g2, own_j t1, s_, own_j t2, s_, u_, u_] [.int g, .int 3]) (fun t k => XS.iloadN X0.here hx rfl (hb hby d4_8) rfl k) ?_
    by_cases c9 : (3 : Int32) = g
    · refine own_s s₁ (mkF m 12 #[rv ar, iv 3, iv cap, iv g, iv g2, own_j t1, s_, own_j t2, s_, u_, u_] []) (fun t k => XS.icmpNo X0.here hx rfl (hb hby d4_9) rfl (teq c9).2 k) ?_
      refine own_s s₁ (mkF m 14 #[rv ar, iv 3, iv cap, iv g, iv g2, own_j t1, s_, own_j t2, s_, u_, u_] [.long t1]) (fun t k => XS.lload X0.here hx rfl (hb hby d4_12) rfl k) ?_
      refine own_s s₁ (mkF m 18 #[rv ar, iv 3, iv cap, iv g, iv g2, own_j t1, s_, own_j t2, s_, u_, u_] [.long t1]) (fun t k => XS.goto X0.here hx rfl (pc0 := 14) (pc' := 18) rfl (hb hby d4_14) (by decide) (by decide) k) ?_
      refine own_s s₁ (mkF m 19 #[rv ar, iv 3, iv cap, iv g, iv g2, own_j t1, s_, own_j t2, s_, u_, u_] [.int 3, .long t1]) (fun t k => XS.iloadN X0.here hx rfl (hb hby d4_18) rfl k) ?_
      refine own_s s₁ (mkF m 21 #[rv ar, iv 3, iv cap, iv g, iv g2, own_j t1, s_, own_j t2, s_, u_, u_] [.int g2, .int 3, .long t1]) (fun t k => XS.iload X0.here hx rfl (hb hby d4_19) rfl k) ?_
      by_cases c21 : (3 : Int32) = g2
      · refine own_s s₁ (mkF m 24 #[rv ar, iv 3, iv cap, iv g, iv g2, own_j t1, s_, own_j t2, s_, u_, u_] [.long t1]) (fun t k => XS.icmpNo X0.here hx rfl (hb hby d4_21) rfl (teq c21).2 k) ?_
        refine own_s s₁ (mkF m 26 #[rv ar, iv 3, iv cap, iv g, iv g2, own_j t1, s_, own_j t2, s_, u_, u_] [.long t2, .long t1]) (fun t k => XS.lload X0.here hx rfl (hb hby d4_24) rfl k) ?_
        refine own_s s₁ (mkF m 30 #[rv ar, iv 3, iv cap, iv g, iv g2, own_j t1, s_, own_j t2, s_, u_, u_] [.long t2, .long t1]) (fun t k => XS.goto X0.here hx rfl (pc0 := 26) (pc' := 30) rfl (hb hby d4_26) (by decide) (by decide) k) ?_
        refine own_s s₁ (mkF m 31 #[rv ar, iv 3, iv cap, iv g, iv g2, own_j t1, s_, own_j t2, s_, u_, u_] [.long (t1 + t2)]) (fun t k => XS.ladd X0.here hx rfl (hb hby d4_30) rfl k) ?_
        refine own_s s₁ (mkF m 33 #[rv ar, iv 3, iv cap, iv g, iv g2, own_j t1, s_, own_j t2, s_, own_j (t1 + t2), s_] []) (fun t k => XS.lstore X0.here hx rfl (hb hby d4_31) rfl (l' := #[rv ar, iv 3, iv cap, iv g, iv g2, own_j t1, s_, own_j t2, s_, own_j (t1 + t2), s_]) rfl k) ?_
        refine own_s s₁ (mkF m 34 #[rv ar, iv 3, iv cap, iv g, iv g2, own_j t1, s_, own_j t2, s_, own_j (t1 + t2), s_] [.ref ar]) (fun t k => XS.aloadN X0.here hx rfl (hb hby d4_33) rfl rfl k) ?_
        refine own_s s₁ (mkF m 35 #[rv ar, iv 3, iv cap, iv g, iv g2, own_j t1, s_, own_j t2, s_, own_j (t1 + t2), s_] [.int 3, .ref ar]) (fun t k => XS.iloadN X0.here hx rfl (hb hby d4_34) rfl k) ?_
        obtain ⟨cl1, Ar1, qa1, S1, M1, H1, U1⟩ := id F_0
        have hi1 := inb_of S1 (j := (3 : Int32)) ⟨by decide, c2⟩
        have hat1 := H1.at hi1 (v := (.long v3)) (own_getL hcap ⟨by decide, c2⟩)
        refine own_s s₁ (mkF m 36 #[rv ar, iv 3, iv cap, iv g, iv g2, own_j t1, s_, own_j t2, s_, own_j (t1 + t2), s_] [.long v3]) (fun t k => X0.laload hx (j := (3 : Int32)) (v := (.long v3)) (by rw [e0]; exact Ar1.1) (State.isArrayOf_alike hZ.alike Ar1.2.1) Ar1.2.2 hi1 hat1 (g := (mkF m 35 #[rv ar, iv 3, iv cap, iv g, iv g2, own_j t1, s_, own_j t2, s_, own_j (t1 + t2), s_] [.int 3, .ref ar])) rfl rfl (hb hby d4_35) t k) ?_
        refine own_s s₁ (mkF m 38 #[rv ar, iv 3, iv cap, iv g, iv g2, own_j t1, s_, own_j t2, s_, own_j (t1 + t2), s_] [.long (t1 + t2), .long v3]) (fun t k => XS.lload X0.here hx rfl (hb hby d4_36) rfl k) ?_
        refine own_s s₁ (mkF m 39 #[rv ar, iv 3, iv cap, iv g, iv g2, own_j t1, s_, own_j t2, s_, own_j (t1 + t2), s_] [.int (lcmpW v3 (t1 + t2))]) (fun t k => XS.lcmp X0.here hx rfl (hb hby d4_38) rfl k) ?_
        refine own_s s₁ (mkF m 42 #[rv ar, iv 3, iv cap, iv g, iv g2, own_j t1, s_, own_j t2, s_, own_j (t1 + t2), s_] []) (fun t k => XS.ifNo X0.here hx rfl (hb hby d4_39) rfl ((if0 _ _).trans (teq ((lw_eq _ _).mpr ((hval c2).trans (by first | (rw [if_pos c9, if_pos c21]; done) | (rw [if_pos c9, if_pos c21]; rfl))))).2) k) ?_
        refine own_s s₁ (mkF m 43 #[rv ar, iv 3, iv cap, iv g, iv g2, own_j t1, s_, own_j t2, s_, own_j (t1 + t2), s_] [.int 1]) (fun t k => XS.iconst X0.here hx rfl (hb hby d4_42) k) ?_
        refine own_s s₁ (mkF m 47 #[rv ar, iv 3, iv cap, iv g, iv g2, own_j t1, s_, own_j t2, s_, own_j (t1 + t2), s_] [.int 1]) (fun t k => XS.goto X0.here hx rfl (pc0 := 43) (pc' := 47) rfl (hb hby d4_43) (by decide) (by decide) k) ?_
        refine own_rN X0 hx hlk Bd.returns (by simp) (hb hby d4_47) ?_ (by decide) (by decide)
        rw [e0]
        exact ⟨rfl, N0, rfl⟩
      · refine own_s s₁ (mkF m 29 #[rv ar, iv 3, iv cap, iv g, iv g2, own_j t1, s_, own_j t2, s_, u_, u_] [.long t1]) (fun t k => XS.icmpYes X0.here hx rfl (pc0 := 21) (pc' := 29) rfl (hb hby d4_21) rfl (feq c21).2 (by decide) (by decide) k) ?_
        refine own_s s₁ (mkF m 30 #[rv ar, iv 3, iv cap, iv g, iv g2, own_j t1, s_, own_j t2, s_, u_, u_] [.long 0, .long t1]) (fun t k => XS.lconst X0.here hx rfl (hb hby d4_29) k) ?_
        refine own_s s₁ (mkF m 31 #[rv ar, iv 3, iv cap, iv g, iv g2, own_j t1, s_, own_j t2, s_, u_, u_] [.long (t1 + (0 : Int64))]) (fun t k => XS.ladd X0.here hx rfl (hb hby d4_30) rfl k) ?_
        refine own_s s₁ (mkF m 33 #[rv ar, iv 3, iv cap, iv g, iv g2, own_j t1, s_, own_j t2, s_, own_j (t1 + (0 : Int64)), s_] []) (fun t k => XS.lstore X0.here hx rfl (hb hby d4_31) rfl (l' := #[rv ar, iv 3, iv cap, iv g, iv g2, own_j t1, s_, own_j t2, s_, own_j (t1 + (0 : Int64)), s_]) rfl k) ?_
        refine own_s s₁ (mkF m 34 #[rv ar, iv 3, iv cap, iv g, iv g2, own_j t1, s_, own_j t2, s_, own_j (t1 + (0 : Int64)), s_] [.ref ar]) (fun t k => XS.aloadN X0.here hx rfl (hb hby d4_33) rfl rfl k) ?_
        refine own_s s₁ (mkF m 35 #[rv ar, iv 3, iv cap, iv g, iv g2, own_j t1, s_, own_j t2, s_, own_j (t1 + (0 : Int64)), s_] [.int 3, .ref ar]) (fun t k => XS.iloadN X0.here hx rfl (hb hby d4_34) rfl k) ?_
        obtain ⟨cl2, Ar2, qa2, S2, M2, H2, U2⟩ := id F_0
        have hi2 := inb_of S2 (j := (3 : Int32)) ⟨by decide, c2⟩
        have hat2 := H2.at hi2 (v := (.long v3)) (own_getL hcap ⟨by decide, c2⟩)
        refine own_s s₁ (mkF m 36 #[rv ar, iv 3, iv cap, iv g, iv g2, own_j t1, s_, own_j t2, s_, own_j (t1 + (0 : Int64)), s_] [.long v3]) (fun t k => X0.laload hx (j := (3 : Int32)) (v := (.long v3)) (by rw [e0]; exact Ar2.1) (State.isArrayOf_alike hZ.alike Ar2.2.1) Ar2.2.2 hi2 hat2 (g := (mkF m 35 #[rv ar, iv 3, iv cap, iv g, iv g2, own_j t1, s_, own_j t2, s_, own_j (t1 + (0 : Int64)), s_] [.int 3, .ref ar])) rfl rfl (hb hby d4_35) t k) ?_
        refine own_s s₁ (mkF m 38 #[rv ar, iv 3, iv cap, iv g, iv g2, own_j t1, s_, own_j t2, s_, own_j (t1 + (0 : Int64)), s_] [.long (t1 + (0 : Int64)), .long v3]) (fun t k => XS.lload X0.here hx rfl (hb hby d4_36) rfl k) ?_
        refine own_s s₁ (mkF m 39 #[rv ar, iv 3, iv cap, iv g, iv g2, own_j t1, s_, own_j t2, s_, own_j (t1 + (0 : Int64)), s_] [.int (lcmpW v3 (t1 + (0 : Int64)))]) (fun t k => XS.lcmp X0.here hx rfl (hb hby d4_38) rfl k) ?_
        refine own_s s₁ (mkF m 42 #[rv ar, iv 3, iv cap, iv g, iv g2, own_j t1, s_, own_j t2, s_, own_j (t1 + (0 : Int64)), s_] []) (fun t k => XS.ifNo X0.here hx rfl (hb hby d4_39) rfl ((if0 _ _).trans (teq ((lw_eq _ _).mpr ((hval c2).trans (by first | (rw [if_pos c9, if_neg c21]; done) | (rw [if_pos c9, if_neg c21]; rfl))))).2) k) ?_
        refine own_s s₁ (mkF m 43 #[rv ar, iv 3, iv cap, iv g, iv g2, own_j t1, s_, own_j t2, s_, own_j (t1 + (0 : Int64)), s_] [.int 1]) (fun t k => XS.iconst X0.here hx rfl (hb hby d4_42) k) ?_
        refine own_s s₁ (mkF m 47 #[rv ar, iv 3, iv cap, iv g, iv g2, own_j t1, s_, own_j t2, s_, own_j (t1 + (0 : Int64)), s_] [.int 1]) (fun t k => XS.goto X0.here hx rfl (pc0 := 43) (pc' := 47) rfl (hb hby d4_43) (by decide) (by decide) k) ?_
        refine own_rN X0 hx hlk Bd.returns (by simp) (hb hby d4_47) ?_ (by decide) (by decide)
        rw [e0]
        exact ⟨rfl, N0, rfl⟩
    · refine own_s s₁ (mkF m 17 #[rv ar, iv 3, iv cap, iv g, iv g2, own_j t1, s_, own_j t2, s_, u_, u_] []) (fun t k => XS.icmpYes X0.here hx rfl (pc0 := 9) (pc' := 17) rfl (hb hby d4_9) rfl (feq c9).2 (by decide) (by decide) k) ?_
      refine own_s s₁ (mkF m 18 #[rv ar, iv 3, iv cap, iv g, iv g2, own_j t1, s_, own_j t2, s_, u_, u_] [.long 0]) (fun t k => XS.lconst X0.here hx rfl (hb hby d4_17) k) ?_
      refine own_s s₁ (mkF m 19 #[rv ar, iv 3, iv cap, iv g, iv g2, own_j t1, s_, own_j t2, s_, u_, u_] [.int 3, .long 0]) (fun t k => XS.iloadN X0.here hx rfl (hb hby d4_18) rfl k) ?_
      refine own_s s₁ (mkF m 21 #[rv ar, iv 3, iv cap, iv g, iv g2, own_j t1, s_, own_j t2, s_, u_, u_] [.int g2, .int 3, .long 0]) (fun t k => XS.iload X0.here hx rfl (hb hby d4_19) rfl k) ?_
      by_cases c21 : (3 : Int32) = g2
      · refine own_s s₁ (mkF m 24 #[rv ar, iv 3, iv cap, iv g, iv g2, own_j t1, s_, own_j t2, s_, u_, u_] [.long 0]) (fun t k => XS.icmpNo X0.here hx rfl (hb hby d4_21) rfl (teq c21).2 k) ?_
        refine own_s s₁ (mkF m 26 #[rv ar, iv 3, iv cap, iv g, iv g2, own_j t1, s_, own_j t2, s_, u_, u_] [.long t2, .long 0]) (fun t k => XS.lload X0.here hx rfl (hb hby d4_24) rfl k) ?_
        refine own_s s₁ (mkF m 30 #[rv ar, iv 3, iv cap, iv g, iv g2, own_j t1, s_, own_j t2, s_, u_, u_] [.long t2, .long 0]) (fun t k => XS.goto X0.here hx rfl (pc0 := 26) (pc' := 30) rfl (hb hby d4_26) (by decide) (by decide) k) ?_
        refine own_s s₁ (mkF m 31 #[rv ar, iv 3, iv cap, iv g, iv g2, own_j t1, s_, own_j t2, s_, u_, u_] [.long ((0 : Int64) + t2)]) (fun t k => XS.ladd X0.here hx rfl (hb hby d4_30) rfl k) ?_
        refine own_s s₁ (mkF m 33 #[rv ar, iv 3, iv cap, iv g, iv g2, own_j t1, s_, own_j t2, s_, own_j ((0 : Int64) + t2), s_] []) (fun t k => XS.lstore X0.here hx rfl (hb hby d4_31) rfl (l' := #[rv ar, iv 3, iv cap, iv g, iv g2, own_j t1, s_, own_j t2, s_, own_j ((0 : Int64) + t2), s_]) rfl k) ?_
        refine own_s s₁ (mkF m 34 #[rv ar, iv 3, iv cap, iv g, iv g2, own_j t1, s_, own_j t2, s_, own_j ((0 : Int64) + t2), s_] [.ref ar]) (fun t k => XS.aloadN X0.here hx rfl (hb hby d4_33) rfl rfl k) ?_
        refine own_s s₁ (mkF m 35 #[rv ar, iv 3, iv cap, iv g, iv g2, own_j t1, s_, own_j t2, s_, own_j ((0 : Int64) + t2), s_] [.int 3, .ref ar]) (fun t k => XS.iloadN X0.here hx rfl (hb hby d4_34) rfl k) ?_
        obtain ⟨cl3, Ar3, qa3, S3, M3, H3, U3⟩ := id F_0
        have hi3 := inb_of S3 (j := (3 : Int32)) ⟨by decide, c2⟩
        have hat3 := H3.at hi3 (v := (.long v3)) (own_getL hcap ⟨by decide, c2⟩)
        refine own_s s₁ (mkF m 36 #[rv ar, iv 3, iv cap, iv g, iv g2, own_j t1, s_, own_j t2, s_, own_j ((0 : Int64) + t2), s_] [.long v3]) (fun t k => X0.laload hx (j := (3 : Int32)) (v := (.long v3)) (by rw [e0]; exact Ar3.1) (State.isArrayOf_alike hZ.alike Ar3.2.1) Ar3.2.2 hi3 hat3 (g := (mkF m 35 #[rv ar, iv 3, iv cap, iv g, iv g2, own_j t1, s_, own_j t2, s_, own_j ((0 : Int64) + t2), s_] [.int 3, .ref ar])) rfl rfl (hb hby d4_35) t k) ?_
        refine own_s s₁ (mkF m 38 #[rv ar, iv 3, iv cap, iv g, iv g2, own_j t1, s_, own_j t2, s_, own_j ((0 : Int64) + t2), s_] [.long ((0 : Int64) + t2), .long v3]) (fun t k => XS.lload X0.here hx rfl (hb hby d4_36) rfl k) ?_
        refine own_s s₁ (mkF m 39 #[rv ar, iv 3, iv cap, iv g, iv g2, own_j t1, s_, own_j t2, s_, own_j ((0 : Int64) + t2), s_] [.int (lcmpW v3 ((0 : Int64) + t2))]) (fun t k => XS.lcmp X0.here hx rfl (hb hby d4_38) rfl k) ?_
        refine own_s s₁ (mkF m 42 #[rv ar, iv 3, iv cap, iv g, iv g2, own_j t1, s_, own_j t2, s_, own_j ((0 : Int64) + t2), s_] []) (fun t k => XS.ifNo X0.here hx rfl (hb hby d4_39) rfl ((if0 _ _).trans (teq ((lw_eq _ _).mpr ((hval c2).trans (by first | (rw [if_neg c9, if_pos c21]; done) | (rw [if_neg c9, if_pos c21]; rfl))))).2) k) ?_
        refine own_s s₁ (mkF m 43 #[rv ar, iv 3, iv cap, iv g, iv g2, own_j t1, s_, own_j t2, s_, own_j ((0 : Int64) + t2), s_] [.int 1]) (fun t k => XS.iconst X0.here hx rfl (hb hby d4_42) k) ?_
        refine own_s s₁ (mkF m 47 #[rv ar, iv 3, iv cap, iv g, iv g2, own_j t1, s_, own_j t2, s_, own_j ((0 : Int64) + t2), s_] [.int 1]) (fun t k => XS.goto X0.here hx rfl (pc0 := 43) (pc' := 47) rfl (hb hby d4_43) (by decide) (by decide) k) ?_
        refine own_rN X0 hx hlk Bd.returns (by simp) (hb hby d4_47) ?_ (by decide) (by decide)
        rw [e0]
        exact ⟨rfl, N0, rfl⟩
      · refine own_s s₁ (mkF m 29 #[rv ar, iv 3, iv cap, iv g, iv g2, own_j t1, s_, own_j t2, s_, u_, u_] [.long 0]) (fun t k => XS.icmpYes X0.here hx rfl (pc0 := 21) (pc' := 29) rfl (hb hby d4_21) rfl (feq c21).2 (by decide) (by decide) k) ?_
        refine own_s s₁ (mkF m 30 #[rv ar, iv 3, iv cap, iv g, iv g2, own_j t1, s_, own_j t2, s_, u_, u_] [.long 0, .long 0]) (fun t k => XS.lconst X0.here hx rfl (hb hby d4_29) k) ?_
        refine own_s s₁ (mkF m 31 #[rv ar, iv 3, iv cap, iv g, iv g2, own_j t1, s_, own_j t2, s_, u_, u_] [.long 0]) (fun t k => XS.ladd X0.here hx rfl (hb hby d4_30) rfl k) ?_
        refine own_s s₁ (mkF m 33 #[rv ar, iv 3, iv cap, iv g, iv g2, own_j t1, s_, own_j t2, s_, own_j 0, s_] []) (fun t k => XS.lstore X0.here hx rfl (hb hby d4_31) rfl (l' := #[rv ar, iv 3, iv cap, iv g, iv g2, own_j t1, s_, own_j t2, s_, own_j 0, s_]) rfl k) ?_
        refine own_s s₁ (mkF m 34 #[rv ar, iv 3, iv cap, iv g, iv g2, own_j t1, s_, own_j t2, s_, own_j 0, s_] [.ref ar]) (fun t k => XS.aloadN X0.here hx rfl (hb hby d4_33) rfl rfl k) ?_
        refine own_s s₁ (mkF m 35 #[rv ar, iv 3, iv cap, iv g, iv g2, own_j t1, s_, own_j t2, s_, own_j 0, s_] [.int 3, .ref ar]) (fun t k => XS.iloadN X0.here hx rfl (hb hby d4_34) rfl k) ?_
        obtain ⟨cl4, Ar4, qa4, S4, M4, H4, U4⟩ := id F_0
        have hi4 := inb_of S4 (j := (3 : Int32)) ⟨by decide, c2⟩
        have hat4 := H4.at hi4 (v := (.long v3)) (own_getL hcap ⟨by decide, c2⟩)
        refine own_s s₁ (mkF m 36 #[rv ar, iv 3, iv cap, iv g, iv g2, own_j t1, s_, own_j t2, s_, own_j 0, s_] [.long v3]) (fun t k => X0.laload hx (j := (3 : Int32)) (v := (.long v3)) (by rw [e0]; exact Ar4.1) (State.isArrayOf_alike hZ.alike Ar4.2.1) Ar4.2.2 hi4 hat4 (g := (mkF m 35 #[rv ar, iv 3, iv cap, iv g, iv g2, own_j t1, s_, own_j t2, s_, own_j 0, s_] [.int 3, .ref ar])) rfl rfl (hb hby d4_35) t k) ?_
        refine own_s s₁ (mkF m 38 #[rv ar, iv 3, iv cap, iv g, iv g2, own_j t1, s_, own_j t2, s_, own_j 0, s_] [.long 0, .long v3]) (fun t k => XS.lload X0.here hx rfl (hb hby d4_36) rfl k) ?_
        refine own_s s₁ (mkF m 39 #[rv ar, iv 3, iv cap, iv g, iv g2, own_j t1, s_, own_j t2, s_, own_j 0, s_] [.int (lcmpW v3 (0 : Int64))]) (fun t k => XS.lcmp X0.here hx rfl (hb hby d4_38) rfl k) ?_
        refine own_s s₁ (mkF m 42 #[rv ar, iv 3, iv cap, iv g, iv g2, own_j t1, s_, own_j t2, s_, own_j 0, s_] []) (fun t k => XS.ifNo X0.here hx rfl (hb hby d4_39) rfl ((if0 _ _).trans (teq ((lw_eq _ _).mpr ((hval c2).trans (by first | (rw [if_neg c9, if_neg c21]; done) | (rw [if_neg c9, if_neg c21]; rfl))))).2) k) ?_
        refine own_s s₁ (mkF m 43 #[rv ar, iv 3, iv cap, iv g, iv g2, own_j t1, s_, own_j t2, s_, own_j 0, s_] [.int 1]) (fun t k => XS.iconst X0.here hx rfl (hb hby d4_42) k) ?_
        refine own_s s₁ (mkF m 47 #[rv ar, iv 3, iv cap, iv g, iv g2, own_j t1, s_, own_j t2, s_, own_j 0, s_] [.int 1]) (fun t k => XS.goto X0.here hx rfl (pc0 := 43) (pc' := 47) rfl (hb hby d4_43) (by decide) (by decide) k) ?_
        refine own_rN X0 hx hlk Bd.returns (by simp) (hb hby d4_47) ?_ (by decide) (by decide)
        rw [e0]
        exact ⟨rfl, N0, rfl⟩
  · refine own_s s₁ (mkF m 5 #[rv ar, iv 3, iv cap, iv g, iv g2, own_j t1, s_, own_j t2, s_, u_, u_] []) (fun t k => XS.icmpNo X0.here hx rfl (hb hby d4_2) rfl (flt c2).1 k) ?_
    refine own_s s₁ (mkF m 6 #[rv ar, iv 3, iv cap, iv g, iv g2, own_j t1, s_, own_j t2, s_, u_, u_] [.int 1]) (fun t k => XS.iconst X0.here hx rfl (hb hby d4_5) k) ?_
    refine own_rN X0 hx hlk Bd.returns (by simp) (hb hby d4_6) ?_ (by decide) (by decide)
    rw [e0]
    exact ⟨rfl, N0, rfl⟩
def own_pw : List Value := [(.long (1 : Int64)), (.long (10 : Int64)), (.long (100 : Int64)), (.long (1000 : Int64)), (.long (10000 : Int64)), (.long (100000 : Int64)), (.long (1000000 : Int64)), (.long (10000000 : Int64)), (.long (100000000 : Int64)), (.long (1000000000 : Int64)), (.long (10000000000 : Int64)), (.long (100000000000 : Int64)), (.long (1000000000000 : Int64)), (.long (10000000000000 : Int64)), (.long (100000000000000 : Int64)), (.long (1000000000000000 : Int64)), (.long (10000000000000000 : Int64)), (.long (100000000000000000 : Int64)), (.long (1000000000000000000 : Int64))]
def own_sh (s : Int32) : Prop := s = 0 ∨ s = 1 ∨ s = 2 ∨ s = 3
theorem own_pwat {s : Int32} (h : own_sh s) : own_pw.getD s.toNatClampNeg (.long (0 : Int64)) = .long (own_p10 s) := by rcases h with rfl | rfl | rfl | rfl <;> rfl
theorem own_sh19 {s : Int32} (h : own_sh s) : s < (19 : Int32) := by rcases h with rfl | rfl | rfl | rfl <;> decide
theorem own_shin {s : Int32} (h : own_sh s) : ¬ s < 0 ∧ s < (19 : Int32) := by rcases h with rfl | rfl | rfl | rfl <;> decide
theorem own_p10sm {s : Int32} (h : own_sh s) : own_sm (own_p10 s) := by rcases h with rfl | rfl | rfl | rfl <;> (constructor <;> decide)
theorem own_sh12 {s : Int32} (h : s = 1 ∨ s = 2) : own_sh s := h.elim (fun q => Or.inr (Or.inl q)) (fun q => Or.inr (Or.inr (Or.inl q)))

def Q_rsn (Z : State) (ob : Addr) (ar : Addr) (kr : ClassId) (cap : Int32) (S : Int32) (v0 : Int64) (v1 : Int64) (v2 : Int64) (v3 : Int64) (ts : Int32) (h0 : Heap) (n0 : Nat) (v : Option Value) (h : Heap) (L : List Loc) : Prop := v = none ∧ Fr n0 L ∧ h = h0
theorem ef_rm_rsn (m : MethodId) (x0 : Addr) (x1 : Int32) : entryFrame m #[(.ref x0), (.int x1)] 5 = mkF m 0 #[.val (.ref x0), .val (.int x1), .unset, .unset, .unset] [] := by first | (simp [entryFrame, mkF, argsToLocals, Value.category]; done) | rfl | (simp [entryFrame, mkF, argsToLocals, Value.category] <;> rfl)
theorem d913_0 : decode prog_40_method_18_code 0 = .ok (.iload_n 1, 1) := by decide +kernel
theorem d913_1 : decode prog_40_method_18_code 1 = .ok (.aload_n 0, 1) := by decide +kernel
theorem d913_2 : decode prog_40_method_18_code 2 = .ok (.getfield 13, 3) := by decide +kernel
theorem d913_5 : decode prog_40_method_18_code 5 = .ok (.if_icmp .gt 4, 3) := by decide +kernel
theorem d913_8 : decode prog_40_method_18_code 8 = .ok (.return_, 1) := by decide +kernel
set_option maxRecDepth 65536 in
set_option maxHeartbeats 40000000 in
theorem rm_rsn (l : Launch) (Z : State) (a0 : Array Value) (hw : ∀ d ∈ tables_1, d.before a0 Z = true) (ws : List Jvm.Cond) (ob : Addr) (ar : Addr) (kr : ClassId) (cap : Int32) (S : Int32) (v0 : Int64) (v1 : Int64) (v2 : Int64) (v3 : Int64) (ts : Int32) (h0 : Heap) (n0 : Nat) (Z0 : n0 ≤ h0.size) (F_0 : own_St Z n0 h0 ob ar kr cap S v0 v1 v2 v3) (hlt : ¬ S < ts) :
    MetFree l (⟨"com/example/viewlattice/viewlattice/engine/DecimalSums", "raiseScale", "(I)V"⟩ : MethodName) (head1 (Jvm.Cond.codeWith (⟨"com/example/viewlattice/viewlattice/engine/DecimalSums", "raiseScale", "(I)V"⟩ : MethodName) prog_40_method_18_code 5 none [(39, 87, 88, 103)] :: ws) ({ frames := 0, cells := 0, slots := 0, locals := 0 } : Room)) (fun a U => a = #[(.ref ob), (.int ts)] ∧ Z.Warmed39 U.vm ∧ U.heap = h0) (fun _ _ _ _ _ => True) (fun _ U o U' => ∃ v L, o = .returned v ∧ (Q_rsn Z ob ar kr cap S v0 v1 v2 v3 ts h0 n0) v U'.heap L ∧ FrameEnd U o U' L ({ frames := 0, cells := 0, slots := 0, locals := 0 } : Room).cells ({ frames := 0, cells := 0, slots := 0, locals := 0 } : Room).slots) := by
  refine MetFree.of_bodySF (plainFor_of_name pn_1) hisWith ?_
  intro p e s m args below meth c s₁ Bd hml0 hP hK
  obtain ⟨rfl, hZ, hh⟩ := hP
  have hx := Bd.exec
  have hby := Bd.bytes
  have hW := fun i d (h : tables_1[i]? = some d) => hw d (List.mem_of_getElem? h)
  have hlk : meth.locks = false := BodyLoose.notSynchronized Bd
  have hml : c.maxLocals = 5 := hml0
  have hown : s.vm.findClass "com/example/viewlattice/viewlattice/engine/DecimalSums" = some m.cls := findClass_of_methodNamed Bd.named
  have hnm := (name_of_methodNamed Bd.named Bd.method).1
  have X0 : Stand p l e ({ frames := 0, cells := 0, slots := 0, locals := 0 } : Room) s m #[(.ref ob), (.int ts)] below meth c s₁ [] 0 0 := Stand.of_body Bd
  have e0 : s₁.heap = h0 := by rw [← hh, Bd.state]; rfl
  have N0 := Fr.nil n0
  show own_Go p e below s (Q_rsn Z ob ar kr cap S v0 v1 v2 v3 ts h0 n0) ({ frames := 0, cells := 0, slots := 0, locals := 0 } : Room).cells ({ frames := 0, cells := 0, slots := 0, locals := 0 } : Room).slots s₁ (entryFrame m #[(.ref ob), (.int ts)] 5)
  refine own_cast (g' := (mkF m 0 #[rv ob, iv ts, u_, u_, u_] [])) (ef_rm_rsn m ob ts) ?_
  refine own_s s₁ (mkF m 1 #[rv ob, iv ts, u_, u_, u_] [.int ts]) (fun t k => XS.iloadN X0.here hx rfl (hb hby d913_0) rfl k) ?_
  refine own_s s₁ (mkF m 2 #[rv ob, iv ts, u_, u_, u_] [.ref ob, .int ts]) (fun t k => XS.aloadN X0.here hx rfl (hb hby d913_1) rfl rfl k) ?_
  obtain ⟨T1, X1, e1, st1⟩ := getF X0 hx hZ hown (host := "") (Or.inl (hW 14 _ rfl)) Via.refl e0 F_0.2.1 (g := (mkF m 2 #[rv ob, iv ts, u_, u_, u_] [.ref ob, .int ts])) rfl rfl (hb hby d913_2)
  refine own_s T1 (mkF m 5 #[rv ob, iv ts, u_, u_, u_] [.int S, .int ts]) st1 ?_
  refine own_s T1 (mkF m 8 #[rv ob, iv ts, u_, u_, u_] []) (fun t k => XS.icmpNo X1.here hx rfl (hb hby d913_5) rfl (flt hlt).2.2.1 k) ?_
  refine own_rV X1 hx hlk Bd.returns (hb hby d913_8) ?_ (by decide) (by decide)
  rw [e1]
  exact ⟨rfl, N0, rfl⟩
def Q_rsy (Z : State) (ob : Addr) (ar : Addr) (kr : ClassId) (cap : Int32) (S : Int32) (v0 : Int64) (v1 : Int64) (v2 : Int64) (v3 : Int64) (ts : Int32) (pw : Addr) (kp : ClassId) (h0 : Heap) (n0 : Nat) (v : Option Value) (h : Heap) (L : List Loc) : Prop := ∃ (b : Addr) (kb : ClassId), v = none ∧ Fr n0 L ∧ Keep h0 h [ob] ∧ h0.size ≤ b ∧ ob ≠ b ∧ own_St Z n0 h ob b kb cap ts (v0 * own_p10 (ts - S)) (v1 * own_p10 (ts - S)) (v2 * own_p10 (ts - S)) (v3 * own_p10 (ts - S))
theorem ef_rm_rsy (m : MethodId) (x0 : Addr) (x1 : Int32) : entryFrame m #[(.ref x0), (.int x1)] 5 = mkF m 0 #[.val (.ref x0), .val (.int x1), .unset, .unset, .unset] [] := by first | (simp [entryFrame, mkF, argsToLocals, Value.category]; done) | rfl | (simp [entryFrame, mkF, argsToLocals, Value.category] <;> rfl)
theorem d913_9 : decode prog_40_method_18_code 9 = .ok (.iload_n 1, 1) := by decide +kernel
theorem d913_10 : decode prog_40_method_18_code 10 = .ok (.aload_n 0, 1) := by decide +kernel
theorem d913_11 : decode prog_40_method_18_code 11 = .ok (.getfield 13, 3) := by decide +kernel
theorem d913_14 : decode prog_40_method_18_code 14 = .ok (.isub, 1) := by decide +kernel
theorem d913_15 : decode prog_40_method_18_code 15 = .ok (.istore_n 2, 1) := by decide +kernel
theorem d913_16 : decode prog_40_method_18_code 16 = .ok (.aload_n 0, 1) := by decide +kernel
theorem d913_17 : decode prog_40_method_18_code 17 = .ok (.getfield 7, 3) := by decide +kernel
theorem d913_20 : decode prog_40_method_18_code 20 = .ok (.ifnull 74, 3) := by decide +kernel
theorem d913_23 : decode prog_40_method_18_code 23 = .ok (.iload_n 2, 1) := by decide +kernel
theorem d913_24 : decode prog_40_method_18_code 24 = .ok (.getstatic 123, 3) := by decide +kernel
theorem d913_27 : decode prog_40_method_18_code 27 = .ok (.arraylength, 1) := by decide +kernel
theorem d913_28 : decode prog_40_method_18_code 28 = .ok (.if_icmp .ge 66, 3) := by decide +kernel
theorem d913_31 : decode prog_40_method_18_code 31 = .ok (.aload_n 0, 1) := by decide +kernel
theorem d913_32 : decode prog_40_method_18_code 32 = .ok (.getfield 7, 3) := by decide +kernel
theorem d913_35 : decode prog_40_method_18_code 35 = .ok (.arraylength, 1) := by decide +kernel
theorem d913_36 : decode prog_40_method_18_code 36 = .ok (.newarray .long, 2) := by decide +kernel
theorem d913_38 : decode prog_40_method_18_code 38 = .ok (.astore_n 3, 1) := by decide +kernel
theorem d913_39 : decode prog_40_method_18_code 39 = .ok (.iconst 0, 1) := by decide +kernel
theorem d913_40 : decode prog_40_method_18_code 40 = .ok (.istore 4, 2) := by decide +kernel
theorem d913_42 : decode prog_40_method_18_code 42 = .ok (.iload 4, 2) := by decide +kernel
theorem d913_44 : decode prog_40_method_18_code 44 = .ok (.aload_n 0, 1) := by decide +kernel
theorem d913_45 : decode prog_40_method_18_code 45 = .ok (.getfield 7, 3) := by decide +kernel
theorem d913_48 : decode prog_40_method_18_code 48 = .ok (.arraylength, 1) := by decide +kernel
theorem d913_49 : decode prog_40_method_18_code 49 = .ok (.if_icmp .ge 28, 3) := by decide +kernel
theorem d913_52 : decode prog_40_method_18_code 52 = .ok (.aload_n 3, 1) := by decide +kernel
theorem d913_53 : decode prog_40_method_18_code 53 = .ok (.iload 4, 2) := by decide +kernel
theorem d913_55 : decode prog_40_method_18_code 55 = .ok (.aload_n 0, 1) := by decide +kernel
theorem d913_56 : decode prog_40_method_18_code 56 = .ok (.getfield 7, 3) := by decide +kernel
theorem d913_59 : decode prog_40_method_18_code 59 = .ok (.iload 4, 2) := by decide +kernel
theorem d913_61 : decode prog_40_method_18_code 61 = .ok (.laload, 1) := by decide +kernel
theorem d913_62 : decode prog_40_method_18_code 62 = .ok (.getstatic 123, 3) := by decide +kernel
theorem d913_65 : decode prog_40_method_18_code 65 = .ok (.iload_n 2, 1) := by decide +kernel
theorem d913_66 : decode prog_40_method_18_code 66 = .ok (.laload, 1) := by decide +kernel
theorem pd_1 : parseMethodDescriptor "(JJ)J" = some ⟨[.long, .long], some (.long)⟩ := by decide +kernel
theorem d913_67 : decode prog_40_method_18_code 67 = .ok (.invokestatic 126, 3) := by decide +kernel
theorem d913_70 : decode prog_40_method_18_code 70 = .ok (.lastore, 1) := by decide +kernel
theorem d913_71 : decode prog_40_method_18_code 71 = .ok (.iinc 4 1, 3) := by decide +kernel
theorem d913_74 : decode prog_40_method_18_code 74 = .ok (.goto (-32), 3) := by decide +kernel
theorem d913_77 : decode prog_40_method_18_code 77 = .ok (.aload_n 0, 1) := by decide +kernel
theorem d913_78 : decode prog_40_method_18_code 78 = .ok (.aload_n 3, 1) := by decide +kernel
theorem d913_79 : decode prog_40_method_18_code 79 = .ok (.putfield 7, 3) := by decide +kernel
theorem d913_82 : decode prog_40_method_18_code 82 = .ok (.aload_n 0, 1) := by decide +kernel
theorem d913_83 : decode prog_40_method_18_code 83 = .ok (.iload_n 1, 1) := by decide +kernel
theorem d913_84 : decode prog_40_method_18_code 84 = .ok (.putfield 13, 3) := by decide +kernel
theorem d913_87 : decode prog_40_method_18_code 87 = .ok (.return_, 1) := by decide +kernel
set_option maxRecDepth 65536 in
set_option maxHeartbeats 40000000 in
theorem rm_rsy (l : Launch) (Z : State) (a0 : Array Value) (hw : ∀ d ∈ tables_1, d.before a0 Z = true) (ws : List Jvm.Cond) (ob : Addr) (ar : Addr) (kr : ClassId) (cap : Int32) (S : Int32) (v0 : Int64) (v1 : Int64) (v2 : Int64) (v3 : Int64) (ts : Int32) (pw : Addr) (kp : ClassId) (h0 : Heap) (n0 : Nat) (Z0 : n0 ≤ h0.size) (F_0 : own_St Z n0 h0 ob ar kr cap S v0 v1 v2 v3) (O0 : Old Z n0 h0) (hlt : S < ts) (hts : ts - S = 1 ∨ ts - S = 2) (hcap : own_cap cap) (S_p : Sta Z Z.heap "com/example/viewlattice/viewlattice/engine/DecimalSums" "POWERS_OF_TEN" "[J" (.ref pw)) (V_p : Arv Z Z.heap pw kp .long (19 : Int32) own_pw (.long (0 : Int64))) (hv0 : own_sm v0) (hv1 : own_sm v1) (hv2 : own_sm v2) (hv3 : own_sm v3) :
    MetFree l (⟨"com/example/viewlattice/viewlattice/engine/DecimalSums", "raiseScale", "(I)V"⟩ : MethodName) (head1 (Jvm.Cond.codeWith (⟨"com/example/viewlattice/viewlattice/engine/DecimalSums", "raiseScale", "(I)V"⟩ : MethodName) prog_40_method_18_code 5 none [(39, 87, 88, 103)] :: ws) ({ frames := 2, cells := 1, slots := 4, locals := 36 } : Room)) (fun a U => a = #[(.ref ob), (.int ts)] ∧ Z.Warmed39 U.vm ∧ U.heap = h0) (fun _ _ _ _ _ => True) (fun _ U o U' => ∃ v L, o = .returned v ∧ (Q_rsy Z ob ar kr cap S v0 v1 v2 v3 ts pw kp h0 n0) v U'.heap L ∧ FrameEnd U o U' L ({ frames := 2, cells := 1, slots := 4, locals := 36 } : Room).cells ({ frames := 2, cells := 1, slots := 4, locals := 36 } : Room).slots) := by
  refine MetFree.of_bodySF (plainFor_of_name pn_1) hisWith ?_
  intro p e s m args below meth c s₁ Bd hml0 hP hK
  obtain ⟨rfl, hZ, hh⟩ := hP
  have hx := Bd.exec
  have hby := Bd.bytes
  have hW := fun i d (h : tables_1[i]? = some d) => hw d (List.mem_of_getElem? h)
  have hlk : meth.locks = false := BodyLoose.notSynchronized Bd
  have hml : c.maxLocals = 5 := hml0
  have hown : s.vm.findClass "com/example/viewlattice/viewlattice/engine/DecimalSums" = some m.cls := findClass_of_methodNamed Bd.named
  have hnm := (name_of_methodNamed Bd.named Bd.method).1
  have X0 : Stand p l e ({ frames := 2, cells := 1, slots := 4, locals := 36 } : Room) s m #[(.ref ob), (.int ts)] below meth c s₁ [] 0 0 := Stand.of_body Bd
  have e0 : s₁.heap = h0 := by rw [← hh, Bd.state]; rfl
  have N0 := Fr.nil n0
  show own_Go p e below s (Q_rsy Z ob ar kr cap S v0 v1 v2 v3 ts pw kp h0 n0) ({ frames := 2, cells := 1, slots := 4, locals := 36 } : Room).cells ({ frames := 2, cells := 1, slots := 4, locals := 36 } : Room).slots s₁ (entryFrame m #[(.ref ob), (.int ts)] 5)
  refine own_cast (g' := (mkF m 0 #[rv ob, iv ts, u_, u_, u_] [])) (ef_rm_rsy m ob ts) ?_
  have K0 : Keep h0 h0 [ob] := Keep.refl _ _
  refine own_s s₁ (mkF m 1 #[rv ob, iv ts, u_, u_, u_] [.int ts]) (fun t k => XS.iloadN X0.here hx rfl (hb hby d913_0) rfl k) ?_
  refine own_s s₁ (mkF m 2 #[rv ob, iv ts, u_, u_, u_] [.ref ob, .int ts]) (fun t k => XS.aloadN X0.here hx rfl (hb hby d913_1) rfl rfl k) ?_
  obtain ⟨T1, X1, e1, st1⟩ := getF X0 hx hZ hown (host := "") (Or.inl (hW 14 _ rfl)) Via.refl e0 F_0.2.1 (g := (mkF m 2 #[rv ob, iv ts, u_, u_, u_] [.ref ob, .int ts])) rfl rfl (hb hby d913_2)
  refine own_s T1 (mkF m 5 #[rv ob, iv ts, u_, u_, u_] [.int S, .int ts]) st1 ?_
  refine own_s T1 (mkF m 9 #[rv ob, iv ts, u_, u_, u_] []) (fun t k => XS.icmpYes X1.here hx rfl (pc0 := 5) (pc' := 9) rfl (hb hby d913_5) rfl (tlt hlt).2.2.1 (by decide) (by decide) k) ?_
  refine own_s T1 (mkF m 10 #[rv ob, iv ts, u_, u_, u_] [.int ts]) (fun t k => XS.iloadN X1.here hx rfl (hb hby d913_9) rfl k) ?_
  refine own_s T1 (mkF m 11 #[rv ob, iv ts, u_, u_, u_] [.ref ob, .int ts]) (fun t k => XS.aloadN X1.here hx rfl (hb hby d913_10) rfl rfl k) ?_
  obtain ⟨T2, X2, e2, st2⟩ := getF X1 hx hZ hown (host := "") (Or.inl (hW 14 _ rfl)) Via.refl e1 F_0.2.1 (g := (mkF m 11 #[rv ob, iv ts, u_, u_, u_] [.ref ob, .int ts])) rfl rfl (hb hby d913_11)
  refine own_s T2 (mkF m 14 #[rv ob, iv ts, u_, u_, u_] [.int S, .int ts]) st2 ?_
  refine own_s T2 (mkF m 15 #[rv ob, iv ts, u_, u_, u_] [.int (ts - S)]) (fun t k => XS.isub X2.here hx rfl (hb hby d913_14) rfl k) ?_
  generalize hd_sh : (ts - S) = sh
  refine own_s T2 (mkF m 16 #[rv ob, iv ts, iv sh, u_, u_] []) (fun t k => XS.istoreN X2.here hx rfl (hb hby d913_15) rfl (l' := #[rv ob, iv ts, iv sh, u_, u_]) rfl k) ?_
  have hsh : own_sh sh := own_sh12 (by rw [← hd_sh]; exact hts)
  rcases hcap with rfl | rfl | rfl | rfl
  · have Vn : Arv Z h0 ar kr .long (1 : Int32) [(.long v0)] (.long (0 : Int64)) := F_0.2.2.2.1
    refine own_s T2 (mkF m 17 #[rv ob, iv ts, iv sh, u_, u_] [.ref ob]) (fun t k => XS.aloadN X2.here hx rfl (hb hby d913_16) rfl rfl k) ?_
    obtain ⟨T3, X3, e3, st3⟩ := getF X2 hx hZ hown (host := "") (Or.inl (hW 12 _ rfl)) Via.refl e2 F_0.2.2.1 (g := (mkF m 17 #[rv ob, iv ts, iv sh, u_, u_] [.ref ob])) rfl rfl (hb hby d913_17)
    refine own_s T3 (mkF m 20 #[rv ob, iv ts, iv sh, u_, u_] [.ref ar]) st3 ?_
    refine own_s T3 (mkF m 23 #[rv ob, iv ts, iv sh, u_, u_] []) (fun t k => XS.ifnullNo X3.here hx rfl (hb hby d913_20) rfl k) ?_
    refine own_s T3 (mkF m 24 #[rv ob, iv ts, iv sh, u_, u_] [.int sh]) (fun t k => XS.iloadN X3.here hx rfl (hb hby d913_23) rfl k) ?_
    obtain ⟨T4, X4, e4, st4⟩ := getS2 X3 hx hZ hown (host := "") (Or.inl (hW 43 _ rfl)) Via.refl e3 (S_p.ext O0.2) (g := (mkF m 24 #[rv ob, iv ts, iv sh, u_, u_] [.int sh])) rfl (hb hby d913_24)
    refine own_s T4 (mkF m 27 #[rv ob, iv ts, iv sh, u_, u_] [.ref pw, .int sh]) st4 ?_
    obtain ⟨cl5, Ar5, qa5, S5, M5, H5, U5⟩ := id (V_p.ext O0.2)
    have ln5 := len_of S5 M5
    refine own_s T4 (mkF m 28 #[rv ob, iv ts, iv sh, u_, u_] [.int 19, .int sh]) (fun t k => X4.arraylength hx (cell := cl5) (by rw [e4]; exact Ar5.1) (State.isArrayOf_alike hZ.alike Ar5.2.1) (g := (mkF m 27 #[rv ob, iv ts, iv sh, u_, u_] [.ref pw, .int sh])) rfl rfl (hb hby d913_27) t (by rw [ln5]; exact k)) ?_
    refine own_s T4 (mkF m 31 #[rv ob, iv ts, iv sh, u_, u_] []) (fun t k => XS.icmpNo X4.here hx rfl (hb hby d913_28) rfl (tlt (own_sh19 hsh)).2.1 k) ?_
    refine own_s T4 (mkF m 32 #[rv ob, iv ts, iv sh, u_, u_] [.ref ob]) (fun t k => XS.aloadN X4.here hx rfl (hb hby d913_31) rfl rfl k) ?_
    obtain ⟨T6, X6, e6, st6⟩ := getF X4 hx hZ hown (host := "") (Or.inl (hW 12 _ rfl)) Via.refl e4 F_0.2.2.1 (g := (mkF m 32 #[rv ob, iv ts, iv sh, u_, u_] [.ref ob])) rfl rfl (hb hby d913_32)
    refine own_s T6 (mkF m 35 #[rv ob, iv ts, iv sh, u_, u_] [.ref ar]) st6 ?_
    obtain ⟨cl7, Ar7, qa7, S7, M7, H7, U7⟩ := id Vn
    have ln7 := len_of S7 M7
    refine own_s T6 (mkF m 36 #[rv ob, iv ts, iv sh, u_, u_] [.int 1]) (fun t k => X6.arraylength hx (cell := cl7) (by rw [e6]; exact Ar7.1) (State.isArrayOf_alike hZ.alike Ar7.2.1) (g := (mkF m 35 #[rv ob, iv ts, iv sh, u_, u_] [.ref ar])) rfl rfl (hb hby d913_35) t (by rw [ln7]; exact k)) ?_
    obtain ⟨T8, h8, k8, X8, e8, E8, A8, st8⟩ := newP X6 hx hZ (hW 11 _ rfl) e6 (g := (mkF m 36 #[rv ob, iv ts, iv sh, u_, u_] [.int 1])) rfl (hb hby d913_36) rfl (by decide) (cap := 1) (by decide) (by decide) (by decide : 0 + 1 ≤ _) (by decide : 0 + 1 ≤ _)
    obtain ⟨ad8, g_ad8⟩ : ∃ z, z = h0.size := ⟨_, rfl⟩
    rw [← g_ad8] at A8 st8
    have g9 : Exa Z h8 ob "com/example/viewlattice/viewlattice/engine/DecimalSums" := F_0.1.ext E8
    have g10 : Fld Z h8 ob "com/example/viewlattice/viewlattice/engine/DecimalSums" "scale" "I" (.int S) := F_0.2.1.ext E8
    have g11 : Fld Z h8 ob "com/example/viewlattice/viewlattice/engine/DecimalSums" "small" "[J" (.ref ar) := F_0.2.2.1.ext E8
    have g12 : Arv Z h8 ar kr .long (1 : Int32) [(.long v0)] (.long (0 : Int64)) := Vn.ext E8
    have ne8_1 : ob ≠ ad8 := Nat.ne_of_lt (by rw [g_ad8]; exact F_0.1.lt)
    have ne8_2 : ar ≠ ad8 := Nat.ne_of_lt (by rw [g_ad8]; exact Vn.lt)
    have o8 : n0 ≤ ad8 := (Nat.le_trans Z0 (Nat.le_of_eq g_ad8.symm))
    have Z8 : n0 ≤ h8.size := (Nat.le_trans Z0 E8.1)
    have O8 : Old Z n0 h8 := O0.ext E8
    have f8 : h0.size ≤ ad8 := by rw [g_ad8]; exact K0.1
    have K13 : Keep h0 h8 [ob] := K0.ext E8
    have V8 : Arv Z h8 ad8 k8 .long (1 : Int32) [(.long (0 : Int64))] (.long (0 : Int64)) := (Arv.new A8 (by decide)).pad (pad_rep [] (.long (0 : Int64)) 1)
    refine own_s T8 (mkF m 38 #[rv ob, iv ts, iv sh, u_, u_] [.ref ad8]) st8 ?_
    refine own_s T8 (mkF m 39 #[rv ob, iv ts, iv sh, rv ad8, u_] []) (fun t k => XS.astoreN X8.here hx rfl (hb hby d913_38) rfl rfl (l' := #[rv ob, iv ts, iv sh, rv ad8, u_]) rfl k) ?_
    refine own_s T8 (mkF m 40 #[rv ob, iv ts, iv sh, rv ad8, u_] [.int 0]) (fun t k => XS.iconst X8.here hx rfl (hb hby d913_39) k) ?_
    refine own_s T8 (mkF m 42 #[rv ob, iv ts, iv sh, rv ad8, iv 0] []) (fun t k => XS.istore X8.here hx rfl (hb hby d913_40) rfl (l' := #[rv ob, iv ts, iv sh, rv ad8, iv 0]) rfl k) ?_
    refine own_s T8 (mkF m 44 #[rv ob, iv ts, iv sh, rv ad8, iv 0] [.int 0]) (fun t k => XS.iload X8.here hx rfl (hb hby d913_42) rfl k) ?_
    refine own_s T8 (mkF m 45 #[rv ob, iv ts, iv sh, rv ad8, iv 0] [.ref ob, .int 0]) (fun t k => XS.aloadN X8.here hx rfl (hb hby d913_44) rfl rfl k) ?_
    obtain ⟨T14, X14, e14, st14⟩ := getF X8 hx hZ hown (host := "") (Or.inl (hW 12 _ rfl)) Via.refl e8 g11 (g := (mkF m 45 #[rv ob, iv ts, iv sh, rv ad8, iv 0] [.ref ob, .int 0])) rfl rfl (hb hby d913_45)
    refine own_s T14 (mkF m 48 #[rv ob, iv ts, iv sh, rv ad8, iv 0] [.ref ar, .int 0]) st14 ?_
    obtain ⟨cl15, Ar15, qa15, S15, M15, H15, U15⟩ := id g12
    have ln15 := len_of S15 M15
    refine own_s T14 (mkF m 49 #[rv ob, iv ts, iv sh, rv ad8, iv 0] [.int 1, .int 0]) (fun t k => X14.arraylength hx (cell := cl15) (by rw [e14]; exact Ar15.1) (State.isArrayOf_alike hZ.alike Ar15.2.1) (g := (mkF m 48 #[rv ob, iv ts, iv sh, rv ad8, iv 0] [.ref ar, .int 0])) rfl rfl (hb hby d913_48) t (by rw [ln15]; exact k)) ?_
    refine own_s T14 (mkF m 52 #[rv ob, iv ts, iv sh, rv ad8, iv 0] []) (fun t k => XS.icmpNo X14.here hx rfl (hb hby d913_49) rfl (tlt (by decide : ((0 : Int32) < (1 : Int32)))).2.1 k) ?_
    refine own_s T14 (mkF m 53 #[rv ob, iv ts, iv sh, rv ad8, iv 0] [.ref ad8]) (fun t k => XS.aloadN X14.here hx rfl (hb hby d913_52) rfl rfl k) ?_
    refine own_s T14 (mkF m 55 #[rv ob, iv ts, iv sh, rv ad8, iv 0] [.int 0, .ref ad8]) (fun t k => XS.iload X14.here hx rfl (hb hby d913_53) rfl k) ?_
    refine own_s T14 (mkF m 56 #[rv ob, iv ts, iv sh, rv ad8, iv 0] [.ref ob, .int 0, .ref ad8]) (fun t k => XS.aloadN X14.here hx rfl (hb hby d913_55) rfl rfl k) ?_
    obtain ⟨T16, X16, e16, st16⟩ := getF X14 hx hZ hown (host := "") (Or.inl (hW 12 _ rfl)) Via.refl e14 g11 (g := (mkF m 56 #[rv ob, iv ts, iv sh, rv ad8, iv 0] [.ref ob, .int 0, .ref ad8])) rfl rfl (hb hby d913_56)
    refine own_s T16 (mkF m 59 #[rv ob, iv ts, iv sh, rv ad8, iv 0] [.ref ar, .int 0, .ref ad8]) st16 ?_
    refine own_s T16 (mkF m 61 #[rv ob, iv ts, iv sh, rv ad8, iv 0] [.int 0, .ref ar, .int 0, .ref ad8]) (fun t k => XS.iload X16.here hx rfl (hb hby d913_59) rfl k) ?_
    obtain ⟨cl17, Ar17, qa17, S17, M17, H17, U17⟩ := id g12
    have hi17 := inb_of S17 (j := (0 : Int32)) ⟨by decide, by decide⟩
    have hat17 := H17.at hi17 (v := (.long v0)) rfl
    refine own_s T16 (mkF m 62 #[rv ob, iv ts, iv sh, rv ad8, iv 0] [.long v0, .int 0, .ref ad8]) (fun t k => X16.laload hx (j := (0 : Int32)) (v := (.long v0)) (by rw [e16]; exact Ar17.1) (State.isArrayOf_alike hZ.alike Ar17.2.1) Ar17.2.2 hi17 hat17 (g := (mkF m 61 #[rv ob, iv ts, iv sh, rv ad8, iv 0] [.int 0, .ref ar, .int 0, .ref ad8])) rfl rfl (hb hby d913_61) t k) ?_
    obtain ⟨T18, X18, e18, st18⟩ := getS2 X16 hx hZ hown (host := "") (Or.inl (hW 43 _ rfl)) Via.refl e16 (S_p.ext O8.2) (g := (mkF m 62 #[rv ob, iv ts, iv sh, rv ad8, iv 0] [.long v0, .int 0, .ref ad8])) rfl (hb hby d913_62)
    refine own_s T18 (mkF m 65 #[rv ob, iv ts, iv sh, rv ad8, iv 0] [.ref pw, .long v0, .int 0, .ref ad8]) st18 ?_
    refine own_s T18 (mkF m 66 #[rv ob, iv ts, iv sh, rv ad8, iv 0] [.int sh, .ref pw, .long v0, .int 0, .ref ad8]) (fun t k => XS.iloadN X18.here hx rfl (hb hby d913_65) rfl k) ?_
    obtain ⟨cl19, Ar19, qa19, S19, M19, H19, U19⟩ := id (V_p.ext O8.2)
    have hi19 := inb_of S19 (j := sh) (own_shin hsh)
    have hat19 := H19.at hi19 (v := (.long (own_p10 sh))) (own_pwat hsh)
    refine own_s T18 (mkF m 67 #[rv ob, iv ts, iv sh, rv ad8, iv 0] [.long (own_p10 sh), .long v0, .int 0, .ref ad8]) (fun t k => X18.laload hx (j := sh) (v := (.long (own_p10 sh))) (by rw [e18]; exact Ar19.1) (State.isArrayOf_alike hZ.alike Ar19.2.1) Ar19.2.2 hi19 hat19 (g := (mkF m 66 #[rv ob, iv ts, iv sh, rv ad8, iv 0] [.int sh, .ref pw, .long v0, .int 0, .ref ad8])) rfl rfl (hb hby d913_66) t k) ?_
    obtain ⟨_, _, ⟨T22, L22, k22, n22⟩, -, X22, ⟨Lc22, hQ22, lq22, yq22, zq22⟩, st22⟩ := Jvm.LawKit.callS X18 hx (y := (⟨"java/lang/Math", "multiplyExact", "(JJ)J"⟩ : MethodName)) hown (mvT hZ (hW 45 _ rfl)) (mvT hZ (hW 46 _ rfl)) (mvT hZ (hW 33 _ rfl)) (mvT hZ (hW 47 _ rfl)) (by decide) (backOf (W := 2) (rm_mul l Z a0 hw [] v0 (own_p10 sh) h8 n0 Z8 hv0 (own_p10sm hsh)) hZ (hW 47 _ rfl) (hW 33 _ rfl) (by decide) (by decide)) (g := (mkF m 67 #[rv ob, iv ts, iv sh, rv ad8, iv 0] [.long (own_p10 sh), .long v0, .int 0, .ref ad8])) rfl (by rw [hml]; rfl) (argsL := [(.long v0), (.long (own_p10 sh))]) (rest := [(.int (0 : Int32)), (.ref ad8)]) (lenOf pd_1 rfl) rfl (by show 2 * 0 + _ ≤ _; exact Nat.le_of_eq rfl) (hb hby d913_67) (fun _ _ => ⟨rfl, e18, (by decide : 1 + 0 ≤ _), (by decide : 1 + 0 ≤ _)⟩)
    dsimp only [Pt.U, Pt.locs, Pt.cells, Pt.slots] at X22 lq22 yq22 zq22 st22 hQ22
    subst lq22 yq22 zq22
    obtain ⟨rfl, Nq22, eq21⟩ := hQ22
    have N22 := Fr.app N0 Nq22
    refine own_s T22 (mkF m 70 #[rv ob, iv ts, iv sh, rv ad8, iv 0] [.long (v0 * (own_p10 sh)), .int 0, .ref ad8]) st22 ?_
    obtain ⟨cl23, Ar23, qa23, S23, M23, H23, U23⟩ := id V8
    obtain ⟨T23, h23, X23, e23, W23, st23⟩ := stJ X22 hx hZ eq21 Ar23 (j := (0 : Int32)) (inb_of S23 ⟨by decide, by decide⟩) (g := (mkF m 70 #[rv ob, iv ts, iv sh, rv ad8, iv 0] [.long (v0 * (own_p10 sh)), .int 0, .ref ad8])) rfl rfl (hb hby d913_70)
    have g24 : Exa Z h23 ob "com/example/viewlattice/viewlattice/engine/DecimalSums" := g9.wr W23
    have g25 : Fld Z h23 ob "com/example/viewlattice/viewlattice/engine/DecimalSums" "scale" "I" (.int S) := g10.other W23 (Or.inl ne8_1)
    have g26 : Fld Z h23 ob "com/example/viewlattice/viewlattice/engine/DecimalSums" "small" "[J" (.ref ar) := g11.other W23 (Or.inl ne8_1)
    have g27 : Arv Z h23 ar kr .long (1 : Int32) [(.long v0)] (.long (0 : Int64)) := g12.other W23 ne8_2
    have g28 : Arv Z h23 ad8 k8 .long (1 : Int32) [(.long (v0 * (own_p10 sh)))] (.long (0 : Int64)) := Arv.set Ar23 qa23 S23 M23 H23 U23 rfl W23 0 rfl (Nat.le_of_ble_eq_true rfl)
    have K29 : Keep h0 h23 [ob] := K13.wr W23 (Or.inr f8)
    have N23 := Fr.snoc X23 N22 o8
    have Z23 : n0 ≤ h23.size := (Nat.le_trans Z8 (Nat.le_of_eq W23.size.symm))
    have O23 : Old Z n0 h23 := O8.wr W23 o8
    refine own_s T23 (mkF m 71 #[rv ob, iv ts, iv sh, rv ad8, iv 0] []) st23 ?_
    refine own_s T23 (mkF m 74 #[rv ob, iv ts, iv sh, rv ad8, iv 1] []) (fun t k => XS.iinc X23.here hx rfl (hb hby d913_71) rfl (l' := #[rv ob, iv ts, iv sh, rv ad8, iv 1]) rfl k) ?_
    refine own_s T23 (mkF m 42 #[rv ob, iv ts, iv sh, rv ad8, iv 1] []) (fun t k => XS.goto X23.here hx rfl (pc0 := 74) (pc' := 42) rfl (hb hby d913_74) (by decide) (by decide) k) ?_
    refine own_s T23 (mkF m 44 #[rv ob, iv ts, iv sh, rv ad8, iv 1] [.int 1]) (fun t k => XS.iload X23.here hx rfl (hb hby d913_42) rfl k) ?_
    refine own_s T23 (mkF m 45 #[rv ob, iv ts, iv sh, rv ad8, iv 1] [.ref ob, .int 1]) (fun t k => XS.aloadN X23.here hx rfl (hb hby d913_44) rfl rfl k) ?_
    obtain ⟨T30, X30, e30, st30⟩ := getF X23 hx hZ hown (host := "") (Or.inl (hW 12 _ rfl)) Via.refl e23 g26 (g := (mkF m 45 #[rv ob, iv ts, iv sh, rv ad8, iv 1] [.ref ob, .int 1])) rfl rfl (hb hby d913_45)
    refine own_s T30 (mkF m 48 #[rv ob, iv ts, iv sh, rv ad8, iv 1] [.ref ar, .int 1]) st30 ?_
    obtain ⟨cl31, Ar31, qa31, S31, M31, H31, U31⟩ := id g27
    have ln31 := len_of S31 M31
    refine own_s T30 (mkF m 49 #[rv ob, iv ts, iv sh, rv ad8, iv 1] [.int 1, .int 1]) (fun t k => X30.arraylength hx (cell := cl31) (by rw [e30]; exact Ar31.1) (State.isArrayOf_alike hZ.alike Ar31.2.1) (g := (mkF m 48 #[rv ob, iv ts, iv sh, rv ad8, iv 1] [.ref ar, .int 1])) rfl rfl (hb hby d913_48) t (by rw [ln31]; exact k)) ?_
    refine own_s T30 (mkF m 77 #[rv ob, iv ts, iv sh, rv ad8, iv 1] []) (fun t k => XS.icmpYes X30.here hx rfl (pc0 := 49) (pc' := 77) rfl (hb hby d913_49) rfl (flt (by decide : ¬ ((1 : Int32) < (1 : Int32)))).2.1 (by decide) (by decide) k) ?_
    refine own_s T30 (mkF m 78 #[rv ob, iv ts, iv sh, rv ad8, iv 1] [.ref ob]) (fun t k => XS.aloadN X30.here hx rfl (hb hby d913_77) rfl rfl k) ?_
    refine own_s T30 (mkF m 79 #[rv ob, iv ts, iv sh, rv ad8, iv 1] [.ref ad8, .ref ob]) (fun t k => XS.aloadN X30.here hx rfl (hb hby d913_78) rfl rfl k) ?_
    obtain ⟨T32, h32, X32, e32, W32, st32⟩ := putF X30 hx hZ hown (host := "") (Or.inl (hW 12 _ rfl)) Via.refl e30 g26 g24 (Or.inl (hW 13 _ rfl)) (hW 3 _ rfl) (ty := .array .long) (by decide) rfl rfl (g := (mkF m 79 #[rv ob, iv ts, iv sh, rv ad8, iv 1] [.ref ad8, .ref ob])) rfl rfl (hb hby d913_79)
    have g33 : Exa Z h32 ob "com/example/viewlattice/viewlattice/engine/DecimalSums" := g24.wr W32
    have g34 : Fld Z h32 ob "com/example/viewlattice/viewlattice/engine/DecimalSums" "scale" "I" (.int S) := g25.other W32 (Or.inr (slot_ne (Or.inl (hW 15 _ rfl)) (Or.inl (hW 13 _ rfl)) (by decide) (t := .int) (t' := .array .long) (by decide) (by decide)))
    have g35 : Fld Z h32 ob "com/example/viewlattice/viewlattice/engine/DecimalSums" "small" "[J" (.ref ad8) := g26.same W32
    have g36 : Arv Z h32 ar kr .long (1 : Int32) [(.long v0)] (.long (0 : Int64)) := g27.other W32 (Ne.symm F_0.2.2.2.2.1)
    have g37 : Arv Z h32 ad8 k8 .long (1 : Int32) [(.long (v0 * (own_p10 sh)))] (.long (0 : Int64)) := g28.other W32 (Ne.symm ne8_1)
    have K38 : Keep h0 h32 [ob] := K29.wr W32 (Or.inl (List.mem_of_getElem? (i := 0) rfl))
    have N32 := Fr.snoc X32 N23 F_0.2.2.2.2.2.1
    have Z32 : n0 ≤ h32.size := (Nat.le_trans Z23 (Nat.le_of_eq W32.size.symm))
    have O32 : Old Z n0 h32 := O23.wr W32 F_0.2.2.2.2.2.1
    refine own_s T32 (mkF m 82 #[rv ob, iv ts, iv sh, rv ad8, iv 1] []) st32 ?_
    refine own_s T32 (mkF m 83 #[rv ob, iv ts, iv sh, rv ad8, iv 1] [.ref ob]) (fun t k => XS.aloadN X32.here hx rfl (hb hby d913_82) rfl rfl k) ?_
    refine own_s T32 (mkF m 84 #[rv ob, iv ts, iv sh, rv ad8, iv 1] [.int ts, .ref ob]) (fun t k => XS.iloadN X32.here hx rfl (hb hby d913_83) rfl k) ?_
    obtain ⟨T39, h39, X39, e39, W39, st39⟩ := putF X32 hx hZ hown (host := "") (Or.inl (hW 14 _ rfl)) Via.refl e32 g34 g33 (Or.inl (hW 15 _ rfl)) (hW 3 _ rfl) (ty := .int) (by decide) rfl rfl (g := (mkF m 84 #[rv ob, iv ts, iv sh, rv ad8, iv 1] [.int ts, .ref ob])) rfl rfl (hb hby d913_84)
    have g40 : Exa Z h39 ob "com/example/viewlattice/viewlattice/engine/DecimalSums" := g33.wr W39
    have g41 : Fld Z h39 ob "com/example/viewlattice/viewlattice/engine/DecimalSums" "scale" "I" (.int ts) := g34.same W39
    have g42 : Fld Z h39 ob "com/example/viewlattice/viewlattice/engine/DecimalSums" "small" "[J" (.ref ad8) := g35.other W39 (Or.inr (slot_ne (Or.inl (hW 13 _ rfl)) (Or.inl (hW 15 _ rfl)) (by decide) (t := .array .long) (t' := .int) (by decide) (by decide)))
    have g43 : Arv Z h39 ar kr .long (1 : Int32) [(.long v0)] (.long (0 : Int64)) := g36.other W39 (Ne.symm F_0.2.2.2.2.1)
    have g44 : Arv Z h39 ad8 k8 .long (1 : Int32) [(.long (v0 * (own_p10 sh)))] (.long (0 : Int64)) := g37.other W39 (Ne.symm ne8_1)
    have K45 : Keep h0 h39 [ob] := K38.wr W39 (Or.inl (List.mem_of_getElem? (i := 0) rfl))
    have N39 := Fr.snoc X39 N32 F_0.2.2.2.2.2.1
    have Z39 : n0 ≤ h39.size := (Nat.le_trans Z32 (Nat.le_of_eq W39.size.symm))
    have O39 : Old Z n0 h39 := O32.wr W39 F_0.2.2.2.2.2.1
    refine own_s T39 (mkF m 87 #[rv ob, iv ts, iv sh, rv ad8, iv 1] []) st39 ?_
    refine own_rV X39 hx hlk Bd.returns (hb hby d913_87) ?_ (by decide) (by decide)
    rw [e39]
    exact ⟨ad8, k8, rfl, N39, K45, f8, ne8_1, (by rw [hd_sh]; exact ⟨g40, g41, g42, g44, ne8_1, F_0.2.2.2.2.2.1, o8⟩)⟩
  · have Vn : Arv Z h0 ar kr .long (2 : Int32) [(.long v0), (.long v1)] (.long (0 : Int64)) := F_0.2.2.2.1
    refine own_s T2 (mkF m 17 #[rv ob, iv ts, iv sh, u_, u_] [.ref ob]) (fun t k => XS.aloadN X2.here hx rfl (hb hby d913_16) rfl rfl k) ?_
    obtain ⟨T46, X46, e46, st46⟩ := getF X2 hx hZ hown (host := "") (Or.inl (hW 12 _ rfl)) Via.refl e2 F_0.2.2.1 (g := (mkF m 17 #[rv ob, iv ts, iv sh, u_, u_] [.ref ob])) rfl rfl (hb hby d913_17)
    refine own_s T46 (mkF m 20 #[rv ob, iv ts, iv sh, u_, u_] [.ref ar]) st46 ?_
    refine own_s T46 (mkF m 23 #[rv ob, iv ts, iv sh, u_, u_] []) (fun t k => XS.ifnullNo X46.here hx rfl (hb hby d913_20) rfl k) ?_
    refine own_s T46 (mkF m 24 #[rv ob, iv ts, iv sh, u_, u_] [.int sh]) (fun t k => XS.iloadN X46.here hx rfl (hb hby d913_23) rfl k) ?_
    obtain ⟨T47, X47, e47, st47⟩ := getS2 X46 hx hZ hown (host := "") (Or.inl (hW 43 _ rfl)) Via.refl e46 (S_p.ext O0.2) (g := (mkF m 24 #[rv ob, iv ts, iv sh, u_, u_] [.int sh])) rfl (hb hby d913_24)
    refine own_s T47 (mkF m 27 #[rv ob, iv ts, iv sh, u_, u_] [.ref pw, .int sh]) st47 ?_
    obtain ⟨cl48, Ar48, qa48, S48, M48, H48, U48⟩ := id (V_p.ext O0.2)
    have ln48 := len_of S48 M48
    refine own_s T47 (mkF m 28 #[rv ob, iv ts, iv sh, u_, u_] [.int 19, .int sh]) (fun t k => X47.arraylength hx (cell := cl48) (by rw [e47]; exact Ar48.1) (State.isArrayOf_alike hZ.alike Ar48.2.1) (g := (mkF m 27 #[rv ob, iv ts, iv sh, u_, u_] [.ref pw, .int sh])) rfl rfl (hb hby d913_27) t (by rw [ln48]; exact k)) ?_
    refine own_s T47 (mkF m 31 #[rv ob, iv ts, iv sh, u_, u_] []) (fun t k => XS.icmpNo X47.here hx rfl (hb hby d913_28) rfl (tlt (own_sh19 hsh)).2.1 k) ?_
    refine own_s T47 (mkF m 32 #[rv ob, iv ts, iv sh, u_, u_] [.ref ob]) (fun t k => XS.aloadN X47.here hx rfl (hb hby d913_31) rfl rfl k) ?_
    obtain ⟨T49, X49, e49, st49⟩ := getF X47 hx hZ hown (host := "") (Or.inl (hW 12 _ rfl)) Via.refl e47 F_0.2.2.1 (g := (mkF m 32 #[rv ob, iv ts, iv sh, u_, u_] [.ref ob])) rfl rfl (hb hby d913_32)
    refine own_s T49 (mkF m 35 #[rv ob, iv ts, iv sh, u_, u_] [.ref ar]) st49 ?_
    obtain ⟨cl50, Ar50, qa50, S50, M50, H50, U50⟩ := id Vn
    have ln50 := len_of S50 M50
    refine own_s T49 (mkF m 36 #[rv ob, iv ts, iv sh, u_, u_] [.int 2]) (fun t k => X49.arraylength hx (cell := cl50) (by rw [e49]; exact Ar50.1) (State.isArrayOf_alike hZ.alike Ar50.2.1) (g := (mkF m 35 #[rv ob, iv ts, iv sh, u_, u_] [.ref ar])) rfl rfl (hb hby d913_35) t (by rw [ln50]; exact k)) ?_
    obtain ⟨T51, h51, k51, X51, e51, E51, A51, st51⟩ := newP X49 hx hZ (hW 11 _ rfl) e49 (g := (mkF m 36 #[rv ob, iv ts, iv sh, u_, u_] [.int 2])) rfl (hb hby d913_36) rfl (by decide) (cap := 2) (by decide) (by decide) (by decide : 0 + 1 ≤ _) (by decide : 0 + 2 ≤ _)
    obtain ⟨ad51, g_ad51⟩ : ∃ z, z = h0.size := ⟨_, rfl⟩
    rw [← g_ad51] at A51 st51
    have g52 : Exa Z h51 ob "com/example/viewlattice/viewlattice/engine/DecimalSums" := F_0.1.ext E51
    have g53 : Fld Z h51 ob "com/example/viewlattice/viewlattice/engine/DecimalSums" "scale" "I" (.int S) := F_0.2.1.ext E51
    have g54 : Fld Z h51 ob "com/example/viewlattice/viewlattice/engine/DecimalSums" "small" "[J" (.ref ar) := F_0.2.2.1.ext E51
    have g55 : Arv Z h51 ar kr .long (2 : Int32) [(.long v0), (.long v1)] (.long (0 : Int64)) := Vn.ext E51
    have ne51_1 : ob ≠ ad51 := Nat.ne_of_lt (by rw [g_ad51]; exact F_0.1.lt)
    have ne51_2 : ar ≠ ad51 := Nat.ne_of_lt (by rw [g_ad51]; exact Vn.lt)
    have o51 : n0 ≤ ad51 := (Nat.le_trans Z0 (Nat.le_of_eq g_ad51.symm))
    have Z51 : n0 ≤ h51.size := (Nat.le_trans Z0 E51.1)
    have O51 : Old Z n0 h51 := O0.ext E51
    have f51 : h0.size ≤ ad51 := by rw [g_ad51]; exact K0.1
    have K56 : Keep h0 h51 [ob] := K0.ext E51
    have V51 : Arv Z h51 ad51 k51 .long (2 : Int32) [(.long (0 : Int64)), (.long (0 : Int64))] (.long (0 : Int64)) := (Arv.new A51 (by decide)).pad (pad_rep [] (.long (0 : Int64)) 2)
    refine own_s T51 (mkF m 38 #[rv ob, iv ts, iv sh, u_, u_] [.ref ad51]) st51 ?_
    refine own_s T51 (mkF m 39 #[rv ob, iv ts, iv sh, rv ad51, u_] []) (fun t k => XS.astoreN X51.here hx rfl (hb hby d913_38) rfl rfl (l' := #[rv ob, iv ts, iv sh, rv ad51, u_]) rfl k) ?_
    refine own_s T51 (mkF m 40 #[rv ob, iv ts, iv sh, rv ad51, u_] [.int 0]) (fun t k => XS.iconst X51.here hx rfl (hb hby d913_39) k) ?_
    refine own_s T51 (mkF m 42 #[rv ob, iv ts, iv sh, rv ad51, iv 0] []) (fun t k => XS.istore X51.here hx rfl (hb hby d913_40) rfl (l' := #[rv ob, iv ts, iv sh, rv ad51, iv 0]) rfl k) ?_
    refine own_s T51 (mkF m 44 #[rv ob, iv ts, iv sh, rv ad51, iv 0] [.int 0]) (fun t k => XS.iload X51.here hx rfl (hb hby d913_42) rfl k) ?_
    refine own_s T51 (mkF m 45 #[rv ob, iv ts, iv sh, rv ad51, iv 0] [.ref ob, .int 0]) (fun t k => XS.aloadN X51.here hx rfl (hb hby d913_44) rfl rfl k) ?_
    obtain ⟨T57, X57, e57, st57⟩ := getF X51 hx hZ hown (host := "") (Or.inl (hW 12 _ rfl)) Via.refl e51 g54 (g := (mkF m 45 #[rv ob, iv ts, iv sh, rv ad51, iv 0] [.ref ob, .int 0])) rfl rfl (hb hby d913_45)
    refine own_s T57 (mkF m 48 #[rv ob, iv ts, iv sh, rv ad51, iv 0] [.ref ar, .int 0]) st57 ?_
    obtain ⟨cl58, Ar58, qa58, S58, M58, H58, U58⟩ := id g55
    have ln58 := len_of S58 M58
    refine own_s T57 (mkF m 49 #[rv ob, iv ts, iv sh, rv ad51, iv 0] [.int 2, .int 0]) (fun t k => X57.arraylength hx (cell := cl58) (by rw [e57]; exact Ar58.1) (State.isArrayOf_alike hZ.alike Ar58.2.1) (g := (mkF m 48 #[rv ob, iv ts, iv sh, rv ad51, iv 0] [.ref ar, .int 0])) rfl rfl (hb hby d913_48) t (by rw [ln58]; exact k)) ?_
    refine own_s T57 (mkF m 52 #[rv ob, iv ts, iv sh, rv ad51, iv 0] []) (fun t k => XS.icmpNo X57.here hx rfl (hb hby d913_49) rfl (tlt (by decide : ((0 : Int32) < (2 : Int32)))).2.1 k) ?_
    refine own_s T57 (mkF m 53 #[rv ob, iv ts, iv sh, rv ad51, iv 0] [.ref ad51]) (fun t k => XS.aloadN X57.here hx rfl (hb hby d913_52) rfl rfl k) ?_
    refine own_s T57 (mkF m 55 #[rv ob, iv ts, iv sh, rv ad51, iv 0] [.int 0, .ref ad51]) (fun t k => XS.iload X57.here hx rfl (hb hby d913_53) rfl k) ?_
    refine own_s T57 (mkF m 56 #[rv ob, iv ts, iv sh, rv ad51, iv 0] [.ref ob, .int 0, .ref ad51]) (fun t k => XS.aloadN X57.here hx rfl (hb hby d913_55) rfl rfl k) ?_
    obtain ⟨T59, X59, e59, st59⟩ := getF X57 hx hZ hown (host := "") (Or.inl (hW 12 _ rfl)) Via.refl e57 g54 (g := (mkF m 56 #[rv ob, iv ts, iv sh, rv ad51, iv 0] [.ref ob, .int 0, .ref ad51])) rfl rfl (hb hby d913_56)
    refine own_s T59 (mkF m 59 #[rv ob, iv ts, iv sh, rv ad51, iv 0] [.ref ar, .int 0, .ref ad51]) st59 ?_
    refine own_s T59 (mkF m 61 #[rv ob, iv ts, iv sh, rv ad51, iv 0] [.int 0, .ref ar, .int 0, .ref ad51]) (fun t k => XS.iload X59.here hx rfl (hb hby d913_59) rfl k) ?_
    obtain ⟨cl60, Ar60, qa60, S60, M60, H60, U60⟩ := id g55
    have hi60 := inb_of S60 (j := (0 : Int32)) ⟨by decide, by decide⟩
    have hat60 := H60.at hi60 (v := (.long v0)) rfl
    refine own_s T59 (mkF m 62 #[rv ob, iv ts, iv sh, rv ad51, iv 0] [.long v0, .int 0, .ref ad51]) (fun t k => X59.laload hx (j := (0 : Int32)) (v := (.long v0)) (by rw [e59]; exact Ar60.1) (State.isArrayOf_alike hZ.alike Ar60.2.1) Ar60.2.2 hi60 hat60 (g := (mkF m 61 #[rv ob, iv ts, iv sh, rv ad51, iv 0] [.int 0, .ref ar, .int 0, .ref ad51])) rfl rfl (hb hby d913_61) t k) ?_
    obtain ⟨T61, X61, e61, st61⟩ := getS2 X59 hx hZ hown (host := "") (Or.inl (hW 43 _ rfl)) Via.refl e59 (S_p.ext O51.2) (g := (mkF m 62 #[rv ob, iv ts, iv sh, rv ad51, iv 0] [.long v0, .int 0, .ref ad51])) rfl (hb hby d913_62)
    refine own_s T61 (mkF m 65 #[rv ob, iv ts, iv sh, rv ad51, iv 0] [.ref pw, .long v0, .int 0, .ref ad51]) st61 ?_
    refine own_s T61 (mkF m 66 #[rv ob, iv ts, iv sh, rv ad51, iv 0] [.int sh, .ref pw, .long v0, .int 0, .ref ad51]) (fun t k => XS.iloadN X61.here hx rfl (hb hby d913_65) rfl k) ?_
    obtain ⟨cl62, Ar62, qa62, S62, M62, H62, U62⟩ := id (V_p.ext O51.2)
    have hi62 := inb_of S62 (j := sh) (own_shin hsh)
    have hat62 := H62.at hi62 (v := (.long (own_p10 sh))) (own_pwat hsh)
    refine own_s T61 (mkF m 67 #[rv ob, iv ts, iv sh, rv ad51, iv 0] [.long (own_p10 sh), .long v0, .int 0, .ref ad51]) (fun t k => X61.laload hx (j := sh) (v := (.long (own_p10 sh))) (by rw [e61]; exact Ar62.1) (State.isArrayOf_alike hZ.alike Ar62.2.1) Ar62.2.2 hi62 hat62 (g := (mkF m 66 #[rv ob, iv ts, iv sh, rv ad51, iv 0] [.int sh, .ref pw, .long v0, .int 0, .ref ad51])) rfl rfl (hb hby d913_66) t k) ?_
    obtain ⟨_, _, ⟨T65, L65, k65, n65⟩, -, X65, ⟨Lc65, hQ65, lq65, yq65, zq65⟩, st65⟩ := Jvm.LawKit.callS X61 hx (y := (⟨"java/lang/Math", "multiplyExact", "(JJ)J"⟩ : MethodName)) hown (mvT hZ (hW 45 _ rfl)) (mvT hZ (hW 46 _ rfl)) (mvT hZ (hW 33 _ rfl)) (mvT hZ (hW 47 _ rfl)) (by decide) (backOf (W := 2) (rm_mul l Z a0 hw [] v0 (own_p10 sh) h51 n0 Z51 hv0 (own_p10sm hsh)) hZ (hW 47 _ rfl) (hW 33 _ rfl) (by decide) (by decide)) (g := (mkF m 67 #[rv ob, iv ts, iv sh, rv ad51, iv 0] [.long (own_p10 sh), .long v0, .int 0, .ref ad51])) rfl (by rw [hml]; rfl) (argsL := [(.long v0), (.long (own_p10 sh))]) (rest := [(.int (0 : Int32)), (.ref ad51)]) (lenOf pd_1 rfl) rfl (by show 2 * 0 + _ ≤ _; exact Nat.le_of_eq rfl) (hb hby d913_67) (fun _ _ => ⟨rfl, e61, (by decide : 1 + 0 ≤ _), (by decide : 2 + 0 ≤ _)⟩)
    dsimp only [Pt.U, Pt.locs, Pt.cells, Pt.slots] at X65 lq65 yq65 zq65 st65 hQ65
    subst lq65 yq65 zq65
    obtain ⟨rfl, Nq65, eq64⟩ := hQ65
    have N65 := Fr.app N0 Nq65
    refine own_s T65 (mkF m 70 #[rv ob, iv ts, iv sh, rv ad51, iv 0] [.long (v0 * (own_p10 sh)), .int 0, .ref ad51]) st65 ?_
    obtain ⟨cl66, Ar66, qa66, S66, M66, H66, U66⟩ := id V51
    obtain ⟨T66, h66, X66, e66, W66, st66⟩ := stJ X65 hx hZ eq64 Ar66 (j := (0 : Int32)) (inb_of S66 ⟨by decide, by decide⟩) (g := (mkF m 70 #[rv ob, iv ts, iv sh, rv ad51, iv 0] [.long (v0 * (own_p10 sh)), .int 0, .ref ad51])) rfl rfl (hb hby d913_70)
    have g67 : Exa Z h66 ob "com/example/viewlattice/viewlattice/engine/DecimalSums" := g52.wr W66
    have g68 : Fld Z h66 ob "com/example/viewlattice/viewlattice/engine/DecimalSums" "scale" "I" (.int S) := g53.other W66 (Or.inl ne51_1)
    have g69 : Fld Z h66 ob "com/example/viewlattice/viewlattice/engine/DecimalSums" "small" "[J" (.ref ar) := g54.other W66 (Or.inl ne51_1)
    have g70 : Arv Z h66 ar kr .long (2 : Int32) [(.long v0), (.long v1)] (.long (0 : Int64)) := g55.other W66 ne51_2
    have g71 : Arv Z h66 ad51 k51 .long (2 : Int32) [(.long (v0 * (own_p10 sh))), (.long (0 : Int64))] (.long (0 : Int64)) := Arv.set Ar66 qa66 S66 M66 H66 U66 rfl W66 0 rfl (Nat.le_of_ble_eq_true rfl)
    have K72 : Keep h0 h66 [ob] := K56.wr W66 (Or.inr f51)
    have N66 := Fr.snoc X66 N65 o51
    have Z66 : n0 ≤ h66.size := (Nat.le_trans Z51 (Nat.le_of_eq W66.size.symm))
    have O66 : Old Z n0 h66 := O51.wr W66 o51
    refine own_s T66 (mkF m 71 #[rv ob, iv ts, iv sh, rv ad51, iv 0] []) st66 ?_
    refine own_s T66 (mkF m 74 #[rv ob, iv ts, iv sh, rv ad51, iv 1] []) (fun t k => XS.iinc X66.here hx rfl (hb hby d913_71) rfl (l' := #[rv ob, iv ts, iv sh, rv ad51, iv 1]) rfl k) ?_
    refine own_s T66 (mkF m 42 #[rv ob, iv ts, iv sh, rv ad51, iv 1] []) (fun t k => XS.goto X66.here hx rfl (pc0 := 74) (pc' := 42) rfl (hb hby d913_74) (by decide) (by decide) k) ?_
    refine own_s T66 (mkF m 44 #[rv ob, iv ts, iv sh, rv ad51, iv 1] [.int 1]) (fun t k => XS.iload X66.here hx rfl (hb hby d913_42) rfl k) ?_
    refine own_s T66 (mkF m 45 #[rv ob, iv ts, iv sh, rv ad51, iv 1] [.ref ob, .int 1]) (fun t k => XS.aloadN X66.here hx rfl (hb hby d913_44) rfl rfl k) ?_
    obtain ⟨T73, X73, e73, st73⟩ := getF X66 hx hZ hown (host := "") (Or.inl (hW 12 _ rfl)) Via.refl e66 g69 (g := (mkF m 45 #[rv ob, iv ts, iv sh, rv ad51, iv 1] [.ref ob, .int 1])) rfl rfl (hb hby d913_45)
    refine own_s T73 (mkF m 48 #[rv ob, iv ts, iv sh, rv ad51, iv 1] [.ref ar, .int 1]) st73 ?_
    obtain ⟨cl74, Ar74, qa74, S74, M74, H74, U74⟩ := id g70
    have ln74 := len_of S74 M74
    refine own_s T73 (mkF m 49 #[rv ob, iv ts, iv sh, rv ad51, iv 1] [.int 2, .int 1]) (fun t k => X73.arraylength hx (cell := cl74) (by rw [e73]; exact Ar74.1) (State.isArrayOf_alike hZ.alike Ar74.2.1) (g := (mkF m 48 #[rv ob, iv ts, iv sh, rv ad51, iv 1] [.ref ar, .int 1])) rfl rfl (hb hby d913_48) t (by rw [ln74]; exact k)) ?_
    refine own_s T73 (mkF m 52 #[rv ob, iv ts, iv sh, rv ad51, iv 1] []) (fun t k => XS.icmpNo X73.here hx rfl (hb hby d913_49) rfl (tlt (by decide : ((1 : Int32) < (2 : Int32)))).2.1 k) ?_
    refine own_s T73 (mkF m 53 #[rv ob, iv ts, iv sh, rv ad51, iv 1] [.ref ad51]) (fun t k => XS.aloadN X73.here hx rfl (hb hby d913_52) rfl rfl k) ?_
    refine own_s T73 (mkF m 55 #[rv ob, iv ts, iv sh, rv ad51, iv 1] [.int 1, .ref ad51]) (fun t k => XS.iload X73.here hx rfl (hb hby d913_53) rfl k) ?_
    refine own_s T73 (mkF m 56 #[rv ob, iv ts, iv sh, rv ad51, iv 1] [.ref ob, .int 1, .ref ad51]) (fun t k => XS.aloadN X73.here hx rfl (hb hby d913_55) rfl rfl k) ?_
    obtain ⟨T75, X75, e75, st75⟩ := getF X73 hx hZ hown (host := "") (Or.inl (hW 12 _ rfl)) Via.refl e73 g69 (g := (mkF m 56 #[rv ob, iv ts, iv sh, rv ad51, iv 1] [.ref ob, .int 1, .ref ad51])) rfl rfl (hb hby d913_56)
    refine own_s T75 (mkF m 59 #[rv ob, iv ts, iv sh, rv ad51, iv 1] [.ref ar, .int 1, .ref ad51]) st75 ?_
    refine own_s T75 (mkF m 61 #[rv ob, iv ts, iv sh, rv ad51, iv 1] [.int 1, .ref ar, .int 1, .ref ad51]) (fun t k => XS.iload X75.here hx rfl (hb hby d913_59) rfl k) ?_
    obtain ⟨cl76, Ar76, qa76, S76, M76, H76, U76⟩ := id g70
    have hi76 := inb_of S76 (j := (1 : Int32)) ⟨by decide, by decide⟩
    have hat76 := H76.at hi76 (v := (.long v1)) rfl
    refine own_s T75 (mkF m 62 #[rv ob, iv ts, iv sh, rv ad51, iv 1] [.long v1, .int 1, .ref ad51]) (fun t k => X75.laload hx (j := (1 : Int32)) (v := (.long v1)) (by rw [e75]; exact Ar76.1) (State.isArrayOf_alike hZ.alike Ar76.2.1) Ar76.2.2 hi76 hat76 (g := (mkF m 61 #[rv ob, iv ts, iv sh, rv ad51, iv 1] [.int 1, .ref ar, .int 1, .ref ad51])) rfl rfl (hb hby d913_61) t k) ?_
    obtain ⟨T77, X77, e77, st77⟩ := getS2 X75 hx hZ hown (host := "") (Or.inl (hW 43 _ rfl)) Via.refl e75 (S_p.ext O66.2) (g := (mkF m 62 #[rv ob, iv ts, iv sh, rv ad51, iv 1] [.long v1, .int 1, .ref ad51])) rfl (hb hby d913_62)
    refine own_s T77 (mkF m 65 #[rv ob, iv ts, iv sh, rv ad51, iv 1] [.ref pw, .long v1, .int 1, .ref ad51]) st77 ?_
    refine own_s T77 (mkF m 66 #[rv ob, iv ts, iv sh, rv ad51, iv 1] [.int sh, .ref pw, .long v1, .int 1, .ref ad51]) (fun t k => XS.iloadN X77.here hx rfl (hb hby d913_65) rfl k) ?_
    obtain ⟨cl78, Ar78, qa78, S78, M78, H78, U78⟩ := id (V_p.ext O66.2)
    have hi78 := inb_of S78 (j := sh) (own_shin hsh)
    have hat78 := H78.at hi78 (v := (.long (own_p10 sh))) (own_pwat hsh)
    refine own_s T77 (mkF m 67 #[rv ob, iv ts, iv sh, rv ad51, iv 1] [.long (own_p10 sh), .long v1, .int 1, .ref ad51]) (fun t k => X77.laload hx (j := sh) (v := (.long (own_p10 sh))) (by rw [e77]; exact Ar78.1) (State.isArrayOf_alike hZ.alike Ar78.2.1) Ar78.2.2 hi78 hat78 (g := (mkF m 66 #[rv ob, iv ts, iv sh, rv ad51, iv 1] [.int sh, .ref pw, .long v1, .int 1, .ref ad51])) rfl rfl (hb hby d913_66) t k) ?_
    obtain ⟨_, _, ⟨T81, L81, k81, n81⟩, -, X81, ⟨Lc81, hQ81, lq81, yq81, zq81⟩, st81⟩ := Jvm.LawKit.callS X77 hx (y := (⟨"java/lang/Math", "multiplyExact", "(JJ)J"⟩ : MethodName)) hown (mvT hZ (hW 45 _ rfl)) (mvT hZ (hW 46 _ rfl)) (mvT hZ (hW 33 _ rfl)) (mvT hZ (hW 47 _ rfl)) (by decide) (backOf (W := 2) (rm_mul l Z a0 hw [] v1 (own_p10 sh) h66 n0 Z66 hv1 (own_p10sm hsh)) hZ (hW 47 _ rfl) (hW 33 _ rfl) (by decide) (by decide)) (g := (mkF m 67 #[rv ob, iv ts, iv sh, rv ad51, iv 1] [.long (own_p10 sh), .long v1, .int 1, .ref ad51])) rfl (by rw [hml]; rfl) (argsL := [(.long v1), (.long (own_p10 sh))]) (rest := [(.int (1 : Int32)), (.ref ad51)]) (lenOf pd_1 rfl) rfl (by show 2 * 0 + _ ≤ _; exact Nat.le_of_eq rfl) (hb hby d913_67) (fun _ _ => ⟨rfl, e77, (by decide : 1 + 0 ≤ _), (by decide : 2 + 0 ≤ _)⟩)
    dsimp only [Pt.U, Pt.locs, Pt.cells, Pt.slots] at X81 lq81 yq81 zq81 st81 hQ81
    subst lq81 yq81 zq81
    obtain ⟨rfl, Nq81, eq80⟩ := hQ81
    have N81 := Fr.app N66 Nq81
    refine own_s T81 (mkF m 70 #[rv ob, iv ts, iv sh, rv ad51, iv 1] [.long (v1 * (own_p10 sh)), .int 1, .ref ad51]) st81 ?_
    obtain ⟨cl82, Ar82, qa82, S82, M82, H82, U82⟩ := id g71
    obtain ⟨T82, h82, X82, e82, W82, st82⟩ := stJ X81 hx hZ eq80 Ar82 (j := (1 : Int32)) (inb_of S82 ⟨by decide, by decide⟩) (g := (mkF m 70 #[rv ob, iv ts, iv sh, rv ad51, iv 1] [.long (v1 * (own_p10 sh)), .int 1, .ref ad51])) rfl rfl (hb hby d913_70)
    have g83 : Exa Z h82 ob "com/example/viewlattice/viewlattice/engine/DecimalSums" := g67.wr W82
    have g84 : Fld Z h82 ob "com/example/viewlattice/viewlattice/engine/DecimalSums" "scale" "I" (.int S) := g68.other W82 (Or.inl ne51_1)
    have g85 : Fld Z h82 ob "com/example/viewlattice/viewlattice/engine/DecimalSums" "small" "[J" (.ref ar) := g69.other W82 (Or.inl ne51_1)
    have g86 : Arv Z h82 ar kr .long (2 : Int32) [(.long v0), (.long v1)] (.long (0 : Int64)) := g70.other W82 ne51_2
    have g87 : Arv Z h82 ad51 k51 .long (2 : Int32) [(.long (v0 * (own_p10 sh))), (.long (v1 * (own_p10 sh)))] (.long (0 : Int64)) := Arv.set Ar82 qa82 S82 M82 H82 U82 rfl W82 1 rfl (Nat.le_of_ble_eq_true rfl)
    have K88 : Keep h0 h82 [ob] := K72.wr W82 (Or.inr f51)
    have N82 := Fr.snoc X82 N81 o51
    have Z82 : n0 ≤ h82.size := (Nat.le_trans Z66 (Nat.le_of_eq W82.size.symm))
    have O82 : Old Z n0 h82 := O66.wr W82 o51
    refine own_s T82 (mkF m 71 #[rv ob, iv ts, iv sh, rv ad51, iv 1] []) st82 ?_
    refine own_s T82 (mkF m 74 #[rv ob, iv ts, iv sh, rv ad51, iv 2] []) (fun t k => XS.iinc X82.here hx rfl (hb hby d913_71) rfl (l' := #[rv ob, iv ts, iv sh, rv ad51, iv 2]) rfl k) ?_
    refine own_s T82 (mkF m 42 #[rv ob, iv ts, iv sh, rv ad51, iv 2] []) (fun t k => XS.goto X82.here hx rfl (pc0 := 74) (pc' := 42) rfl (hb hby d913_74) (by decide) (by decide) k) ?_
    refine own_s T82 (mkF m 44 #[rv ob, iv ts, iv sh, rv ad51, iv 2] [.int 2]) (fun t k => XS.iload X82.here hx rfl (hb hby d913_42) rfl k) ?_
    refine own_s T82 (mkF m 45 #[rv ob, iv ts, iv sh, rv ad51, iv 2] [.ref ob, .int 2]) (fun t k => XS.aloadN X82.here hx rfl (hb hby d913_44) rfl rfl k) ?_
    obtain ⟨T89, X89, e89, st89⟩ := getF X82 hx hZ hown (host := "") (Or.inl (hW 12 _ rfl)) Via.refl e82 g85 (g := (mkF m 45 #[rv ob, iv ts, iv sh, rv ad51, iv 2] [.ref ob, .int 2])) rfl rfl (hb hby d913_45)
    refine own_s T89 (mkF m 48 #[rv ob, iv ts, iv sh, rv ad51, iv 2] [.ref ar, .int 2]) st89 ?_
    obtain ⟨cl90, Ar90, qa90, S90, M90, H90, U90⟩ := id g86
    have ln90 := len_of S90 M90
    refine own_s T89 (mkF m 49 #[rv ob, iv ts, iv sh, rv ad51, iv 2] [.int 2, .int 2]) (fun t k => X89.arraylength hx (cell := cl90) (by rw [e89]; exact Ar90.1) (State.isArrayOf_alike hZ.alike Ar90.2.1) (g := (mkF m 48 #[rv ob, iv ts, iv sh, rv ad51, iv 2] [.ref ar, .int 2])) rfl rfl (hb hby d913_48) t (by rw [ln90]; exact k)) ?_
    refine own_s T89 (mkF m 77 #[rv ob, iv ts, iv sh, rv ad51, iv 2] []) (fun t k => XS.icmpYes X89.here hx rfl (pc0 := 49) (pc' := 77) rfl (hb hby d913_49) rfl (flt (by decide : ¬ ((2 : Int32) < (2 : Int32)))).2.1 (by decide) (by decide) k) ?_
    refine own_s T89 (mkF m 78 #[rv ob, iv ts, iv sh, rv ad51, iv 2] [.ref ob]) (fun t k => XS.aloadN X89.here hx rfl (hb hby d913_77) rfl rfl k) ?_
    refine own_s T89 (mkF m 79 #[rv ob, iv ts, iv sh, rv ad51, iv 2] [.ref ad51, .ref ob]) (fun t k => XS.aloadN X89.here hx rfl (hb hby d913_78) rfl rfl k) ?_
    obtain ⟨T91, h91, X91, e91, W91, st91⟩ := putF X89 hx hZ hown (host := "") (Or.inl (hW 12 _ rfl)) Via.refl e89 g85 g83 (Or.inl (hW 13 _ rfl)) (hW 3 _ rfl) (ty := .array .long) (by decide) rfl rfl (g := (mkF m 79 #[rv ob, iv ts, iv sh, rv ad51, iv 2] [.ref ad51, .ref ob])) rfl rfl (hb hby d913_79)
    have g92 : Exa Z h91 ob "com/example/viewlattice/viewlattice/engine/DecimalSums" := g83.wr W91
    have g93 : Fld Z h91 ob "com/example/viewlattice/viewlattice/engine/DecimalSums" "scale" "I" (.int S) := g84.other W91 (Or.inr (slot_ne (Or.inl (hW 15 _ rfl)) (Or.inl (hW 13 _ rfl)) (by decide) (t := .int) (t' := .array .long) (by decide) (by decide)))
    have g94 : Fld Z h91 ob "com/example/viewlattice/viewlattice/engine/DecimalSums" "small" "[J" (.ref ad51) := g85.same W91
    have g95 : Arv Z h91 ar kr .long (2 : Int32) [(.long v0), (.long v1)] (.long (0 : Int64)) := g86.other W91 (Ne.symm F_0.2.2.2.2.1)
    have g96 : Arv Z h91 ad51 k51 .long (2 : Int32) [(.long (v0 * (own_p10 sh))), (.long (v1 * (own_p10 sh)))] (.long (0 : Int64)) := g87.other W91 (Ne.symm ne51_1)
    have K97 : Keep h0 h91 [ob] := K88.wr W91 (Or.inl (List.mem_of_getElem? (i := 0) rfl))
    have N91 := Fr.snoc X91 N82 F_0.2.2.2.2.2.1
    have Z91 : n0 ≤ h91.size := (Nat.le_trans Z82 (Nat.le_of_eq W91.size.symm))
    have O91 : Old Z n0 h91 := O82.wr W91 F_0.2.2.2.2.2.1
    refine own_s T91 (mkF m 82 #[rv ob, iv ts, iv sh, rv ad51, iv 2] []) st91 ?_
    refine own_s T91 (mkF m 83 #[rv ob, iv ts, iv sh, rv ad51, iv 2] [.ref ob]) (fun t k => XS.aloadN X91.here hx rfl (hb hby d913_82) rfl rfl k) ?_
    refine own_s T91 (mkF m 84 #[rv ob, iv ts, iv sh, rv ad51, iv 2] [.int ts, .ref ob]) (fun t k => XS.iloadN X91.here hx rfl (hb hby d913_83) rfl k) ?_
    obtain ⟨T98, h98, X98, e98, W98, st98⟩ := putF X91 hx hZ hown (host := "") (Or.inl (hW 14 _ rfl)) Via.refl e91 g93 g92 (Or.inl (hW 15 _ rfl)) (hW 3 _ rfl) (ty := .int) (by decide) rfl rfl (g := (mkF m 84 #[rv ob, iv ts, iv sh, rv ad51, iv 2] [.int ts, .ref ob])) rfl rfl (hb hby d913_84)
    have g99 : Exa Z h98 ob "com/example/viewlattice/viewlattice/engine/DecimalSums" := g92.wr W98
    have g100 : Fld Z h98 ob "com/example/viewlattice/viewlattice/engine/DecimalSums" "scale" "I" (.int ts) := g93.same W98
    have g101 : Fld Z h98 ob "com/example/viewlattice/viewlattice/engine/DecimalSums" "small" "[J" (.ref ad51) := g94.other W98 (Or.inr (slot_ne (Or.inl (hW 13 _ rfl)) (Or.inl (hW 15 _ rfl)) (by decide) (t := .array .long) (t' := .int) (by decide) (by decide)))
    have g102 : Arv Z h98 ar kr .long (2 : Int32) [(.long v0), (.long v1)] (.long (0 : Int64)) := g95.other W98 (Ne.symm F_0.2.2.2.2.1)
    have g103 : Arv Z h98 ad51 k51 .long (2 : Int32) [(.long (v0 * (own_p10 sh))), (.long (v1 * (own_p10 sh)))] (.long (0 : Int64)) := g96.other W98 (Ne.symm ne51_1)
    have K104 : Keep h0 h98 [ob] := K97.wr W98 (Or.inl (List.mem_of_getElem? (i := 0) rfl))
    have N98 := Fr.snoc X98 N91 F_0.2.2.2.2.2.1
    have Z98 : n0 ≤ h98.size := (Nat.le_trans Z91 (Nat.le_of_eq W98.size.symm))
    have O98 : Old Z n0 h98 := O91.wr W98 F_0.2.2.2.2.2.1
    refine own_s T98 (mkF m 87 #[rv ob, iv ts, iv sh, rv ad51, iv 2] []) st98 ?_
    refine own_rV X98 hx hlk Bd.returns (hb hby d913_87) ?_ (by decide) (by decide)
    rw [e98]
    exact ⟨ad51, k51, rfl, N98, K104, f51, ne51_1, (by rw [hd_sh]; exact ⟨g99, g100, g101, g103, ne51_1, F_0.2.2.2.2.2.1, o51⟩)⟩
  · have Vn : Arv Z h0 ar kr .long (3 : Int32) [(.long v0), (.long v1), (.long v2)] (.long (0 : Int64)) := F_0.2.2.2.1
    refine own_s T2 (mkF m 17 #[rv ob, iv ts, iv sh, u_, u_] [.ref ob]) (fun t k => XS.aloadN X2.here hx rfl (hb hby d913_16) rfl rfl k) ?_
    obtain ⟨T105, X105, e105, st105⟩ := getF X2 hx hZ hown (host := "") (Or.inl (hW 12 _ rfl)) Via.refl e2 F_0.2.2.1 (g := (mkF m 17 #[rv ob, iv ts, iv sh, u_, u_] [.ref ob])) rfl rfl (hb hby d913_17)
    refine own_s T105 (mkF m 20 #[rv ob, iv ts, iv sh, u_, u_] [.ref ar]) st105 ?_
    refine own_s T105 (mkF m 23 #[rv ob, iv ts, iv sh, u_, u_] []) (fun t k => XS.ifnullNo X105.here hx rfl (hb hby d913_20) rfl k) ?_
    refine own_s T105 (mkF m 24 #[rv ob, iv ts, iv sh, u_, u_] [.int sh]) (fun t k => XS.iloadN X105.here hx rfl (hb hby d913_23) rfl k) ?_
    obtain ⟨T106, X106, e106, st106⟩ := getS2 X105 hx hZ hown (host := "") (Or.inl (hW 43 _ rfl)) Via.refl e105 (S_p.ext O0.2) (g := (mkF m 24 #[rv ob, iv ts, iv sh, u_, u_] [.int sh])) rfl (hb hby d913_24)
    refine own_s T106 (mkF m 27 #[rv ob, iv ts, iv sh, u_, u_] [.ref pw, .int sh]) st106 ?_
    obtain ⟨cl107, Ar107, qa107, S107, M107, H107, U107⟩ := id (V_p.ext O0.2)
    have ln107 := len_of S107 M107
    refine own_s T106 (mkF m 28 #[rv ob, iv ts, iv sh, u_, u_] [.int 19, .int sh]) (fun t k => X106.arraylength hx (cell := cl107) (by rw [e106]; exact Ar107.1) (State.isArrayOf_alike hZ.alike Ar107.2.1) (g := (mkF m 27 #[rv ob, iv ts, iv sh, u_, u_] [.ref pw, .int sh])) rfl rfl (hb hby d913_27) t (by rw [ln107]; exact k)) ?_
    refine own_s T106 (mkF m 31 #[rv ob, iv ts, iv sh, u_, u_] []) (fun t k => XS.icmpNo X106.here hx rfl (hb hby d913_28) rfl (tlt (own_sh19 hsh)).2.1 k) ?_
    refine own_s T106 (mkF m 32 #[rv ob, iv ts, iv sh, u_, u_] [.ref ob]) (fun t k => XS.aloadN X106.here hx rfl (hb hby d913_31) rfl rfl k) ?_
    obtain ⟨T108, X108, e108, st108⟩ := getF X106 hx hZ hown (host := "") (Or.inl (hW 12 _ rfl)) Via.refl e106 F_0.2.2.1 (g := (mkF m 32 #[rv ob, iv ts, iv sh, u_, u_] [.ref ob])) rfl rfl (hb hby d913_32)
    refine own_s T108 (mkF m 35 #[rv ob, iv ts, iv sh, u_, u_] [.ref ar]) st108 ?_
    obtain ⟨cl109, Ar109, qa109, S109, M109, H109, U109⟩ := id Vn
    have ln109 := len_of S109 M109
    refine own_s T108 (mkF m 36 #[rv ob, iv ts, iv sh, u_, u_] [.int 3]) (fun t k => X108.arraylength hx (cell := cl109) (by rw [e108]; exact Ar109.1) (State.isArrayOf_alike hZ.alike Ar109.2.1) (g := (mkF m 35 #[rv ob, iv ts, iv sh, u_, u_] [.ref ar])) rfl rfl (hb hby d913_35) t (by rw [ln109]; exact k)) ?_
    obtain ⟨T110, h110, k110, X110, e110, E110, A110, st110⟩ := newP X108 hx hZ (hW 11 _ rfl) e108 (g := (mkF m 36 #[rv ob, iv ts, iv sh, u_, u_] [.int 3])) rfl (hb hby d913_36) rfl (by decide) (cap := 3) (by decide) (by decide) (by decide : 0 + 1 ≤ _) (by decide : 0 + 3 ≤ _)
    obtain ⟨ad110, g_ad110⟩ : ∃ z, z = h0.size := ⟨_, rfl⟩
    rw [← g_ad110] at A110 st110
    have g111 : Exa Z h110 ob "com/example/viewlattice/viewlattice/engine/DecimalSums" := F_0.1.ext E110
    have g112 : Fld Z h110 ob "com/example/viewlattice/viewlattice/engine/DecimalSums" "scale" "I" (.int S) := F_0.2.1.ext E110
    have g113 : Fld Z h110 ob "com/example/viewlattice/viewlattice/engine/DecimalSums" "small" "[J" (.ref ar) := F_0.2.2.1.ext E110
    have g114 : Arv Z h110 ar kr .long (3 : Int32) [(.long v0), (.long v1), (.long v2)] (.long (0 : Int64)) := Vn.ext E110
    have ne110_1 : ob ≠ ad110 := Nat.ne_of_lt (by rw [g_ad110]; exact F_0.1.lt)
    have ne110_2 : ar ≠ ad110 := Nat.ne_of_lt (by rw [g_ad110]; exact Vn.lt)
    have o110 : n0 ≤ ad110 := (Nat.le_trans Z0 (Nat.le_of_eq g_ad110.symm))
    have Z110 : n0 ≤ h110.size := (Nat.le_trans Z0 E110.1)
    have O110 : Old Z n0 h110 := O0.ext E110
    have f110 : h0.size ≤ ad110 := by rw [g_ad110]; exact K0.1
    have K115 : Keep h0 h110 [ob] := K0.ext E110
    have V110 : Arv Z h110 ad110 k110 .long (3 : Int32) [(.long (0 : Int64)), (.long (0 : Int64)), (.long (0 : Int64))] (.long (0 : Int64)) := (Arv.new A110 (by decide)).pad (pad_rep [] (.long (0 : Int64)) 3)
    refine own_s T110 (mkF m 38 #[rv ob, iv ts, iv sh, u_, u_] [.ref ad110]) st110 ?_
    refine own_s T110 (mkF m 39 #[rv ob, iv ts, iv sh, rv ad110, u_] []) (fun t k => XS.astoreN X110.here hx rfl (hb hby d913_38) rfl rfl (l' := #[rv ob, iv ts, iv sh, rv ad110, u_]) rfl k) ?_
    refine own_s T110 (mkF m 40 #[rv ob, iv ts, iv sh, rv ad110, u_] [.int 0]) (fun t k => XS.iconst X110.here hx rfl (hb hby d913_39) k) ?_
    refine own_s T110 (mkF m 42 #[rv ob, iv ts, iv sh, rv ad110, iv 0] []) (fun t k => XS.istore X110.here hx rfl (hb hby d913_40) rfl (l' := #[rv ob, iv ts, iv sh, rv ad110, iv 0]) rfl k) ?_
    refine own_s T110 (mkF m 44 #[rv ob, iv ts, iv sh, rv ad110, iv 0] [.int 0]) (fun t k => XS.iload X110.here hx rfl (hb hby d913_42) rfl k) ?_
    refine own_s T110 (mkF m 45 #[rv ob, iv ts, iv sh, rv ad110, iv 0] [.ref ob, .int 0]) (fun t k => XS.aloadN X110.here hx rfl (hb hby d913_44) rfl rfl k) ?_
    obtain ⟨T116, X116, e116, st116⟩ := getF X110 hx hZ hown (host := "") (Or.inl (hW 12 _ rfl)) Via.refl e110 g113 (g := (mkF m 45 #[rv ob, iv ts, iv sh, rv ad110, iv 0] [.ref ob, .int 0])) rfl rfl (hb hby d913_45)
    refine own_s T116 (mkF m 48 #[rv ob, iv ts, iv sh, rv ad110, iv 0] [.ref ar, .int 0]) st116 ?_
    obtain ⟨cl117, Ar117, qa117, S117, M117, H117, U117⟩ := id g114
    have ln117 := len_of S117 M117
    refine own_s T116 (mkF m 49 #[rv ob, iv ts, iv sh, rv ad110, iv 0] [.int 3, .int 0]) (fun t k => X116.arraylength hx (cell := cl117) (by rw [e116]; exact Ar117.1) (State.isArrayOf_alike hZ.alike Ar117.2.1) (g := (mkF m 48 #[rv ob, iv ts, iv sh, rv ad110, iv 0] [.ref ar, .int 0])) rfl rfl (hb hby d913_48) t (by rw [ln117]; exact k)) ?_
    refine own_s T116 (mkF m 52 #[rv ob, iv ts, iv sh, rv ad110, iv 0] []) (fun t k => XS.icmpNo X116.here hx rfl (hb hby d913_49) rfl (tlt (by decide : ((0 : Int32) < (3 : Int32)))).2.1 k) ?_
    refine own_s T116 (mkF m 53 #[rv ob, iv ts, iv sh, rv ad110, iv 0] [.ref ad110]) (fun t k => XS.aloadN X116.here hx rfl (hb hby d913_52) rfl rfl k) ?_
    refine own_s T116 (mkF m 55 #[rv ob, iv ts, iv sh, rv ad110, iv 0] [.int 0, .ref ad110]) (fun t k => XS.iload X116.here hx rfl (hb hby d913_53) rfl k) ?_
    refine own_s T116 (mkF m 56 #[rv ob, iv ts, iv sh, rv ad110, iv 0] [.ref ob, .int 0, .ref ad110]) (fun t k => XS.aloadN X116.here hx rfl (hb hby d913_55) rfl rfl k) ?_
    obtain ⟨T118, X118, e118, st118⟩ := getF X116 hx hZ hown (host := "") (Or.inl (hW 12 _ rfl)) Via.refl e116 g113 (g := (mkF m 56 #[rv ob, iv ts, iv sh, rv ad110, iv 0] [.ref ob, .int 0, .ref ad110])) rfl rfl (hb hby d913_56)
    refine own_s T118 (mkF m 59 #[rv ob, iv ts, iv sh, rv ad110, iv 0] [.ref ar, .int 0, .ref ad110]) st118 ?_
    refine own_s T118 (mkF m 61 #[rv ob, iv ts, iv sh, rv ad110, iv 0] [.int 0, .ref ar, .int 0, .ref ad110]) (fun t k => XS.iload X118.here hx rfl (hb hby d913_59) rfl k) ?_
    obtain ⟨cl119, Ar119, qa119, S119, M119, H119, U119⟩ := id g114
    have hi119 := inb_of S119 (j := (0 : Int32)) ⟨by decide, by decide⟩
    have hat119 := H119.at hi119 (v := (.long v0)) rfl
    refine own_s T118 (mkF m 62 #[rv ob, iv ts, iv sh, rv ad110, iv 0] [.long v0, .int 0, .ref ad110]) (fun t k => X118.laload hx (j := (0 : Int32)) (v := (.long v0)) (by rw [e118]; exact Ar119.1) (State.isArrayOf_alike hZ.alike Ar119.2.1) Ar119.2.2 hi119 hat119 (g := (mkF m 61 #[rv ob, iv ts, iv sh, rv ad110, iv 0] [.int 0, .ref ar, .int 0, .ref ad110])) rfl rfl (hb hby d913_61) t k) ?_
    obtain ⟨T120, X120, e120, st120⟩ := getS2 X118 hx hZ hown (host := "") (Or.inl (hW 43 _ rfl)) Via.refl e118 (S_p.ext O110.2) (g := (mkF m 62 #[rv ob, iv ts, iv sh, rv ad110, iv 0] [.long v0, .int 0, .ref ad110])) rfl (hb hby d913_62)
    refine own_s T120 (mkF m 65 #[rv ob, iv ts, iv sh, rv ad110, iv 0] [.ref pw, .long v0, .int 0, .ref ad110]) st120 ?_
    refine own_s T120 (mkF m 66 #[rv ob, iv ts, iv sh, rv ad110, iv 0] [.int sh, .ref pw, .long v0, .int 0, .ref ad110]) (fun t k => XS.iloadN X120.here hx rfl (hb hby d913_65) rfl k) ?_
    obtain ⟨cl121, Ar121, qa121, S121, M121, H121, U121⟩ := id (V_p.ext O110.2)
    have hi121 := inb_of S121 (j := sh) (own_shin hsh)
    have hat121 := H121.at hi121 (v := (.long (own_p10 sh))) (own_pwat hsh)
    refine own_s T120 (mkF m 67 #[rv ob, iv ts, iv sh, rv ad110, iv 0] [.long (own_p10 sh), .long v0, .int 0, .ref ad110]) (fun t k => X120.laload hx (j := sh) (v := (.long (own_p10 sh))) (by rw [e120]; exact Ar121.1) (State.isArrayOf_alike hZ.alike Ar121.2.1) Ar121.2.2 hi121 hat121 (g := (mkF m 66 #[rv ob, iv ts, iv sh, rv ad110, iv 0] [.int sh, .ref pw, .long v0, .int 0, .ref ad110])) rfl rfl (hb hby d913_66) t k) ?_
    obtain ⟨_, _, ⟨T124, L124, k124, n124⟩, -, X124, ⟨Lc124, hQ124, lq124, yq124, zq124⟩, st124⟩ := Jvm.LawKit.callS X120 hx (y := (⟨"java/lang/Math", "multiplyExact", "(JJ)J"⟩ : MethodName)) hown (mvT hZ (hW 45 _ rfl)) (mvT hZ (hW 46 _ rfl)) (mvT hZ (hW 33 _ rfl)) (mvT hZ (hW 47 _ rfl)) (by decide) (backOf (W := 2) (rm_mul l Z a0 hw [] v0 (own_p10 sh) h110 n0 Z110 hv0 (own_p10sm hsh)) hZ (hW 47 _ rfl) (hW 33 _ rfl) (by decide) (by decide)) (g := (mkF m 67 #[rv ob, iv ts, iv sh, rv ad110, iv 0] [.long (own_p10 sh), .long v0, .int 0, .ref ad110])) rfl (by rw [hml]; rfl) (argsL := [(.long v0), (.long (own_p10 sh))]) (rest := [(.int (0 : Int32)), (.ref ad110)]) (lenOf pd_1 rfl) rfl (by show 2 * 0 + _ ≤ _; exact Nat.le_of_eq rfl) (hb hby d913_67) (fun _ _ => ⟨rfl, e120, (by decide : 1 + 0 ≤ _), (by decide : 3 + 0 ≤ _)⟩)
    dsimp only [Pt.U, Pt.locs, Pt.cells, Pt.slots] at X124 lq124 yq124 zq124 st124 hQ124
    subst lq124 yq124 zq124
    obtain ⟨rfl, Nq124, eq123⟩ := hQ124
    have N124 := Fr.app N0 Nq124
    refine own_s T124 (mkF m 70 #[rv ob, iv ts, iv sh, rv ad110, iv 0] [.long (v0 * (own_p10 sh)), .int 0, .ref ad110]) st124 ?_
    obtain ⟨cl125, Ar125, qa125, S125, M125, H125, U125⟩ := id V110
    obtain ⟨T125, h125, X125, e125, W125, st125⟩ := stJ X124 hx hZ eq123 Ar125 (j := (0 : Int32)) (inb_of S125 ⟨by decide, by decide⟩) (g := (mkF m 70 #[rv ob, iv ts, iv sh, rv ad110, iv 0] [.long (v0 * (own_p10 sh)), .int 0, .ref ad110])) rfl rfl (hb hby d913_70)
    have g126 : Exa Z h125 ob "com/example/viewlattice/viewlattice/engine/DecimalSums" := g111.wr W125
    have g127 : Fld Z h125 ob "com/example/viewlattice/viewlattice/engine/DecimalSums" "scale" "I" (.int S) := g112.other W125 (Or.inl ne110_1)
    have g128 : Fld Z h125 ob "com/example/viewlattice/viewlattice/engine/DecimalSums" "small" "[J" (.ref ar) := g113.other W125 (Or.inl ne110_1)
    have g129 : Arv Z h125 ar kr .long (3 : Int32) [(.long v0), (.long v1), (.long v2)] (.long (0 : Int64)) := g114.other W125 ne110_2
    have g130 : Arv Z h125 ad110 k110 .long (3 : Int32) [(.long (v0 * (own_p10 sh))), (.long (0 : Int64)), (.long (0 : Int64))] (.long (0 : Int64)) := Arv.set Ar125 qa125 S125 M125 H125 U125 rfl W125 0 rfl (Nat.le_of_ble_eq_true rfl)
    have K131 : Keep h0 h125 [ob] := K115.wr W125 (Or.inr f110)
    have N125 := Fr.snoc X125 N124 o110
    have Z125 : n0 ≤ h125.size := (Nat.le_trans Z110 (Nat.le_of_eq W125.size.symm))
    have O125 : Old Z n0 h125 := O110.wr W125 o110
    refine own_s T125 (mkF m 71 #[rv ob, iv ts, iv sh, rv ad110, iv 0] []) st125 ?_
    refine own_s T125 (mkF m 74 #[rv ob, iv ts, iv sh, rv ad110, iv 1] []) (fun t k => XS.iinc X125.here hx rfl (hb hby d913_71) rfl (l' := #[rv ob, iv ts, iv sh, rv ad110, iv 1]) rfl k) ?_
    refine own_s T125 (mkF m 42 #[rv ob, iv ts, iv sh, rv ad110, iv 1] []) (fun t k => XS.goto X125.here hx rfl (pc0 := 74) (pc' := 42) rfl (hb hby d913_74) (by decide) (by decide) k) ?_
    refine own_s T125 (mkF m 44 #[rv ob, iv ts, iv sh, rv ad110, iv 1] [.int 1]) (fun t k => XS.iload X125.here hx rfl (hb hby d913_42) rfl k) ?_
    refine own_s T125 (mkF m 45 #[rv ob, iv ts, iv sh, rv ad110, iv 1] [.ref ob, .int 1]) (fun t k => XS.aloadN X125.here hx rfl (hb hby d913_44) rfl rfl k) ?_
    obtain ⟨T132, X132, e132, st132⟩ := getF X125 hx hZ hown (host := "") (Or.inl (hW 12 _ rfl)) Via.refl e125 g128 (g := (mkF m 45 #[rv ob, iv ts, iv sh, rv ad110, iv 1] [.ref ob, .int 1])) rfl rfl (hb hby d913_45)
    refine own_s T132 (mkF m 48 #[rv ob, iv ts, iv sh, rv ad110, iv 1] [.ref ar, .int 1]) st132 ?_
    obtain ⟨cl133, Ar133, qa133, S133, M133, H133, U133⟩ := id g129
    have ln133 := len_of S133 M133
    refine own_s T132 (mkF m 49 #[rv ob, iv ts, iv sh, rv ad110, iv 1] [.int 3, .int 1]) (fun t k => X132.arraylength hx (cell := cl133) (by rw [e132]; exact Ar133.1) (State.isArrayOf_alike hZ.alike Ar133.2.1) (g := (mkF m 48 #[rv ob, iv ts, iv sh, rv ad110, iv 1] [.ref ar, .int 1])) rfl rfl (hb hby d913_48) t (by rw [ln133]; exact k)) ?_
    refine own_s T132 (mkF m 52 #[rv ob, iv ts, iv sh, rv ad110, iv 1] []) (fun t k => XS.icmpNo X132.here hx rfl (hb hby d913_49) rfl (tlt (by decide : ((1 : Int32) < (3 : Int32)))).2.1 k) ?_
    refine own_s T132 (mkF m 53 #[rv ob, iv ts, iv sh, rv ad110, iv 1] [.ref ad110]) (fun t k => XS.aloadN X132.here hx rfl (hb hby d913_52) rfl rfl k) ?_
    refine own_s T132 (mkF m 55 #[rv ob, iv ts, iv sh, rv ad110, iv 1] [.int 1, .ref ad110]) (fun t k => XS.iload X132.here hx rfl (hb hby d913_53) rfl k) ?_
    refine own_s T132 (mkF m 56 #[rv ob, iv ts, iv sh, rv ad110, iv 1] [.ref ob, .int 1, .ref ad110]) (fun t k => XS.aloadN X132.here hx rfl (hb hby d913_55) rfl rfl k) ?_
    obtain ⟨T134, X134, e134, st134⟩ := getF X132 hx hZ hown (host := "") (Or.inl (hW 12 _ rfl)) Via.refl e132 g128 (g := (mkF m 56 #[rv ob, iv ts, iv sh, rv ad110, iv 1] [.ref ob, .int 1, .ref ad110])) rfl rfl (hb hby d913_56)
    refine own_s T134 (mkF m 59 #[rv ob, iv ts, iv sh, rv ad110, iv 1] [.ref ar, .int 1, .ref ad110]) st134 ?_
    refine own_s T134 (mkF m 61 #[rv ob, iv ts, iv sh, rv ad110, iv 1] [.int 1, .ref ar, .int 1, .ref ad110]) (fun t k => XS.iload X134.here hx rfl (hb hby d913_59) rfl k) ?_
    obtain ⟨cl135, Ar135, qa135, S135, M135, H135, U135⟩ := id g129
    have hi135 := inb_of S135 (j := (1 : Int32)) ⟨by decide, by decide⟩
    have hat135 := H135.at hi135 (v := (.long v1)) rfl
    refine own_s T134 (mkF m 62 #[rv ob, iv ts, iv sh, rv ad110, iv 1] [.long v1, .int 1, .ref ad110]) (fun t k => X134.laload hx (j := (1 : Int32)) (v := (.long v1)) (by rw [e134]; exact Ar135.1) (State.isArrayOf_alike hZ.alike Ar135.2.1) Ar135.2.2 hi135 hat135 (g := (mkF m 61 #[rv ob, iv ts, iv sh, rv ad110, iv 1] [.int 1, .ref ar, .int 1, .ref ad110])) rfl rfl (hb hby d913_61) t k) ?_
    obtain ⟨T136, X136, e136, st136⟩ := getS2 X134 hx hZ hown (host := "") (Or.inl (hW 43 _ rfl)) Via.refl e134 (S_p.ext O125.2) (g := (mkF m 62 #[rv ob, iv ts, iv sh, rv ad110, iv 1] [.long v1, .int 1, .ref ad110])) rfl (hb hby d913_62)
    refine own_s T136 (mkF m 65 #[rv ob, iv ts, iv sh, rv ad110, iv 1] [.ref pw, .long v1, .int 1, .ref ad110]) st136 ?_
    refine own_s T136 (mkF m 66 #[rv ob, iv ts, iv sh, rv ad110, iv 1] [.int sh, .ref pw, .long v1, .int 1, .ref ad110]) (fun t k => XS.iloadN X136.here hx rfl (hb hby d913_65) rfl k) ?_
    obtain ⟨cl137, Ar137, qa137, S137, M137, H137, U137⟩ := id (V_p.ext O125.2)
    have hi137 := inb_of S137 (j := sh) (own_shin hsh)
    have hat137 := H137.at hi137 (v := (.long (own_p10 sh))) (own_pwat hsh)
    refine own_s T136 (mkF m 67 #[rv ob, iv ts, iv sh, rv ad110, iv 1] [.long (own_p10 sh), .long v1, .int 1, .ref ad110]) (fun t k => X136.laload hx (j := sh) (v := (.long (own_p10 sh))) (by rw [e136]; exact Ar137.1) (State.isArrayOf_alike hZ.alike Ar137.2.1) Ar137.2.2 hi137 hat137 (g := (mkF m 66 #[rv ob, iv ts, iv sh, rv ad110, iv 1] [.int sh, .ref pw, .long v1, .int 1, .ref ad110])) rfl rfl (hb hby d913_66) t k) ?_
    obtain ⟨_, _, ⟨T140, L140, k140, n140⟩, -, X140, ⟨Lc140, hQ140, lq140, yq140, zq140⟩, st140⟩ := Jvm.LawKit.callS X136 hx (y := (⟨"java/lang/Math", "multiplyExact", "(JJ)J"⟩ : MethodName)) hown (mvT hZ (hW 45 _ rfl)) (mvT hZ (hW 46 _ rfl)) (mvT hZ (hW 33 _ rfl)) (mvT hZ (hW 47 _ rfl)) (by decide) (backOf (W := 2) (rm_mul l Z a0 hw [] v1 (own_p10 sh) h125 n0 Z125 hv1 (own_p10sm hsh)) hZ (hW 47 _ rfl) (hW 33 _ rfl) (by decide) (by decide)) (g := (mkF m 67 #[rv ob, iv ts, iv sh, rv ad110, iv 1] [.long (own_p10 sh), .long v1, .int 1, .ref ad110])) rfl (by rw [hml]; rfl) (argsL := [(.long v1), (.long (own_p10 sh))]) (rest := [(.int (1 : Int32)), (.ref ad110)]) (lenOf pd_1 rfl) rfl (by show 2 * 0 + _ ≤ _; exact Nat.le_of_eq rfl) (hb hby d913_67) (fun _ _ => ⟨rfl, e136, (by decide : 1 + 0 ≤ _), (by decide : 3 + 0 ≤ _)⟩)
    dsimp only [Pt.U, Pt.locs, Pt.cells, Pt.slots] at X140 lq140 yq140 zq140 st140 hQ140
    subst lq140 yq140 zq140
    obtain ⟨rfl, Nq140, eq139⟩ := hQ140
    have N140 := Fr.app N125 Nq140
    refine own_s T140 (mkF m 70 #[rv ob, iv ts, iv sh, rv ad110, iv 1] [.long (v1 * (own_p10 sh)), .int 1, .ref ad110]) st140 ?_
    obtain ⟨cl141, Ar141, qa141, S141, M141, H141, U141⟩ := id g130
    obtain ⟨T141, h141, X141, e141, W141, st141⟩ := stJ X140 hx hZ eq139 Ar141 (j := (1 : Int32)) (inb_of S141 ⟨by decide, by decide⟩) (g := (mkF m 70 #[rv ob, iv ts, iv sh, rv ad110, iv 1] [.long (v1 * (own_p10 sh)), .int 1, .ref ad110])) rfl rfl (hb hby d913_70)
    have g142 : Exa Z h141 ob "com/example/viewlattice/viewlattice/engine/DecimalSums" := g126.wr W141
    have g143 : Fld Z h141 ob "com/example/viewlattice/viewlattice/engine/DecimalSums" "scale" "I" (.int S) := g127.other W141 (Or.inl ne110_1)
    have g144 : Fld Z h141 ob "com/example/viewlattice/viewlattice/engine/DecimalSums" "small" "[J" (.ref ar) := g128.other W141 (Or.inl ne110_1)
    have g145 : Arv Z h141 ar kr .long (3 : Int32) [(.long v0), (.long v1), (.long v2)] (.long (0 : Int64)) := g129.other W141 ne110_2
    have g146 : Arv Z h141 ad110 k110 .long (3 : Int32) [(.long (v0 * (own_p10 sh))), (.long (v1 * (own_p10 sh))), (.long (0 : Int64))] (.long (0 : Int64)) := Arv.set Ar141 qa141 S141 M141 H141 U141 rfl W141 1 rfl (Nat.le_of_ble_eq_true rfl)
    have K147 : Keep h0 h141 [ob] := K131.wr W141 (Or.inr f110)
    have N141 := Fr.snoc X141 N140 o110
    have Z141 : n0 ≤ h141.size := (Nat.le_trans Z125 (Nat.le_of_eq W141.size.symm))
    have O141 : Old Z n0 h141 := O125.wr W141 o110
    refine own_s T141 (mkF m 71 #[rv ob, iv ts, iv sh, rv ad110, iv 1] []) st141 ?_
    refine own_s T141 (mkF m 74 #[rv ob, iv ts, iv sh, rv ad110, iv 2] []) (fun t k => XS.iinc X141.here hx rfl (hb hby d913_71) rfl (l' := #[rv ob, iv ts, iv sh, rv ad110, iv 2]) rfl k) ?_
    refine own_s T141 (mkF m 42 #[rv ob, iv ts, iv sh, rv ad110, iv 2] []) (fun t k => XS.goto X141.here hx rfl (pc0 := 74) (pc' := 42) rfl (hb hby d913_74) (by decide) (by decide) k) ?_
    refine own_s T141 (mkF m 44 #[rv ob, iv ts, iv sh, rv ad110, iv 2] [.int 2]) (fun t k => XS.iload X141.here hx rfl (hb hby d913_42) rfl k) ?_
    refine own_s T141 (mkF m 45 #[rv ob, iv ts, iv sh, rv ad110, iv 2] [.ref ob, .int 2]) (fun t k => XS.aloadN X141.here hx rfl (hb hby d913_44) rfl rfl k) ?_
    obtain ⟨T148, X148, e148, st148⟩ := getF X141 hx hZ hown (host := "") (Or.inl (hW 12 _ rfl)) Via.refl e141 g144 (g := (mkF m 45 #[rv ob, iv ts, iv sh, rv ad110, iv 2] [.ref ob, .int 2])) rfl rfl (hb hby d913_45)
    refine own_s T148 (mkF m 48 #[rv ob, iv ts, iv sh, rv ad110, iv 2] [.ref ar, .int 2]) st148 ?_
    obtain ⟨cl149, Ar149, qa149, S149, M149, H149, U149⟩ := id g145
    have ln149 := len_of S149 M149
    refine own_s T148 (mkF m 49 #[rv ob, iv ts, iv sh, rv ad110, iv 2] [.int 3, .int 2]) (fun t k => X148.arraylength hx (cell := cl149) (by rw [e148]; exact Ar149.1) (State.isArrayOf_alike hZ.alike Ar149.2.1) (g := (mkF m 48 #[rv ob, iv ts, iv sh, rv ad110, iv 2] [.ref ar, .int 2])) rfl rfl (hb hby d913_48) t (by rw [ln149]; exact k)) ?_
    refine own_s T148 (mkF m 52 #[rv ob, iv ts, iv sh, rv ad110, iv 2] []) (fun t k => XS.icmpNo X148.here hx rfl (hb hby d913_49) rfl (tlt (by decide : ((2 : Int32) < (3 : Int32)))).2.1 k) ?_
    refine own_s T148 (mkF m 53 #[rv ob, iv ts, iv sh, rv ad110, iv 2] [.ref ad110]) (fun t k => XS.aloadN X148.here hx rfl (hb hby d913_52) rfl rfl k) ?_
    refine own_s T148 (mkF m 55 #[rv ob, iv ts, iv sh, rv ad110, iv 2] [.int 2, .ref ad110]) (fun t k => XS.iload X148.here hx rfl (hb hby d913_53) rfl k) ?_
    refine own_s T148 (mkF m 56 #[rv ob, iv ts, iv sh, rv ad110, iv 2] [.ref ob, .int 2, .ref ad110]) (fun t k => XS.aloadN X148.here hx rfl (hb hby d913_55) rfl rfl k) ?_
    obtain ⟨T150, X150, e150, st150⟩ := getF X148 hx hZ hown (host := "") (Or.inl (hW 12 _ rfl)) Via.refl e148 g144 (g := (mkF m 56 #[rv ob, iv ts, iv sh, rv ad110, iv 2] [.ref ob, .int 2, .ref ad110])) rfl rfl (hb hby d913_56)
    refine own_s T150 (mkF m 59 #[rv ob, iv ts, iv sh, rv ad110, iv 2] [.ref ar, .int 2, .ref ad110]) st150 ?_
    refine own_s T150 (mkF m 61 #[rv ob, iv ts, iv sh, rv ad110, iv 2] [.int 2, .ref ar, .int 2, .ref ad110]) (fun t k => XS.iload X150.here hx rfl (hb hby d913_59) rfl k) ?_
    obtain ⟨cl151, Ar151, qa151, S151, M151, H151, U151⟩ := id g145
    have hi151 := inb_of S151 (j := (2 : Int32)) ⟨by decide, by decide⟩
    have hat151 := H151.at hi151 (v := (.long v2)) rfl
    refine own_s T150 (mkF m 62 #[rv ob, iv ts, iv sh, rv ad110, iv 2] [.long v2, .int 2, .ref ad110]) (fun t k => X150.laload hx (j := (2 : Int32)) (v := (.long v2)) (by rw [e150]; exact Ar151.1) (State.isArrayOf_alike hZ.alike Ar151.2.1) Ar151.2.2 hi151 hat151 (g := (mkF m 61 #[rv ob, iv ts, iv sh, rv ad110, iv 2] [.int 2, .ref ar, .int 2, .ref ad110])) rfl rfl (hb hby d913_61) t k) ?_
    obtain ⟨T152, X152, e152, st152⟩ := getS2 X150 hx hZ hown (host := "") (Or.inl (hW 43 _ rfl)) Via.refl e150 (S_p.ext O141.2) (g := (mkF m 62 #[rv ob, iv ts, iv sh, rv ad110, iv 2] [.long v2, .int 2, .ref ad110])) rfl (hb hby d913_62)
    refine own_s T152 (mkF m 65 #[rv ob, iv ts, iv sh, rv ad110, iv 2] [.ref pw, .long v2, .int 2, .ref ad110]) st152 ?_
    refine own_s T152 (mkF m 66 #[rv ob, iv ts, iv sh, rv ad110, iv 2] [.int sh, .ref pw, .long v2, .int 2, .ref ad110]) (fun t k => XS.iloadN X152.here hx rfl (hb hby d913_65) rfl k) ?_
    obtain ⟨cl153, Ar153, qa153, S153, M153, H153, U153⟩ := id (V_p.ext O141.2)
    have hi153 := inb_of S153 (j := sh) (own_shin hsh)
    have hat153 := H153.at hi153 (v := (.long (own_p10 sh))) (own_pwat hsh)
    refine own_s T152 (mkF m 67 #[rv ob, iv ts, iv sh, rv ad110, iv 2] [.long (own_p10 sh), .long v2, .int 2, .ref ad110]) (fun t k => X152.laload hx (j := sh) (v := (.long (own_p10 sh))) (by rw [e152]; exact Ar153.1) (State.isArrayOf_alike hZ.alike Ar153.2.1) Ar153.2.2 hi153 hat153 (g := (mkF m 66 #[rv ob, iv ts, iv sh, rv ad110, iv 2] [.int sh, .ref pw, .long v2, .int 2, .ref ad110])) rfl rfl (hb hby d913_66) t k) ?_
    obtain ⟨_, _, ⟨T156, L156, k156, n156⟩, -, X156, ⟨Lc156, hQ156, lq156, yq156, zq156⟩, st156⟩ := Jvm.LawKit.callS X152 hx (y := (⟨"java/lang/Math", "multiplyExact", "(JJ)J"⟩ : MethodName)) hown (mvT hZ (hW 45 _ rfl)) (mvT hZ (hW 46 _ rfl)) (mvT hZ (hW 33 _ rfl)) (mvT hZ (hW 47 _ rfl)) (by decide) (backOf (W := 2) (rm_mul l Z a0 hw [] v2 (own_p10 sh) h141 n0 Z141 hv2 (own_p10sm hsh)) hZ (hW 47 _ rfl) (hW 33 _ rfl) (by decide) (by decide)) (g := (mkF m 67 #[rv ob, iv ts, iv sh, rv ad110, iv 2] [.long (own_p10 sh), .long v2, .int 2, .ref ad110])) rfl (by rw [hml]; rfl) (argsL := [(.long v2), (.long (own_p10 sh))]) (rest := [(.int (2 : Int32)), (.ref ad110)]) (lenOf pd_1 rfl) rfl (by show 2 * 0 + _ ≤ _; exact Nat.le_of_eq rfl) (hb hby d913_67) (fun _ _ => ⟨rfl, e152, (by decide : 1 + 0 ≤ _), (by decide : 3 + 0 ≤ _)⟩)
    dsimp only [Pt.U, Pt.locs, Pt.cells, Pt.slots] at X156 lq156 yq156 zq156 st156 hQ156
    subst lq156 yq156 zq156
    obtain ⟨rfl, Nq156, eq155⟩ := hQ156
    have N156 := Fr.app N141 Nq156
    refine own_s T156 (mkF m 70 #[rv ob, iv ts, iv sh, rv ad110, iv 2] [.long (v2 * (own_p10 sh)), .int 2, .ref ad110]) st156 ?_
    obtain ⟨cl157, Ar157, qa157, S157, M157, H157, U157⟩ := id g146
    obtain ⟨T157, h157, X157, e157, W157, st157⟩ := stJ X156 hx hZ eq155 Ar157 (j := (2 : Int32)) (inb_of S157 ⟨by decide, by decide⟩) (g := (mkF m 70 #[rv ob, iv ts, iv sh, rv ad110, iv 2] [.long (v2 * (own_p10 sh)), .int 2, .ref ad110])) rfl rfl (hb hby d913_70)
    have g158 : Exa Z h157 ob "com/example/viewlattice/viewlattice/engine/DecimalSums" := g142.wr W157
    have g159 : Fld Z h157 ob "com/example/viewlattice/viewlattice/engine/DecimalSums" "scale" "I" (.int S) := g143.other W157 (Or.inl ne110_1)
    have g160 : Fld Z h157 ob "com/example/viewlattice/viewlattice/engine/DecimalSums" "small" "[J" (.ref ar) := g144.other W157 (Or.inl ne110_1)
    have g161 : Arv Z h157 ar kr .long (3 : Int32) [(.long v0), (.long v1), (.long v2)] (.long (0 : Int64)) := g145.other W157 ne110_2
    have g162 : Arv Z h157 ad110 k110 .long (3 : Int32) [(.long (v0 * (own_p10 sh))), (.long (v1 * (own_p10 sh))), (.long (v2 * (own_p10 sh)))] (.long (0 : Int64)) := Arv.set Ar157 qa157 S157 M157 H157 U157 rfl W157 2 rfl (Nat.le_of_ble_eq_true rfl)
    have K163 : Keep h0 h157 [ob] := K147.wr W157 (Or.inr f110)
    have N157 := Fr.snoc X157 N156 o110
    have Z157 : n0 ≤ h157.size := (Nat.le_trans Z141 (Nat.le_of_eq W157.size.symm))
    have O157 : Old Z n0 h157 := O141.wr W157 o110
    refine own_s T157 (mkF m 71 #[rv ob, iv ts, iv sh, rv ad110, iv 2] []) st157 ?_
    refine own_s T157 (mkF m 74 #[rv ob, iv ts, iv sh, rv ad110, iv 3] []) (fun t k => XS.iinc X157.here hx rfl (hb hby d913_71) rfl (l' := #[rv ob, iv ts, iv sh, rv ad110, iv 3]) rfl k) ?_
    refine own_s T157 (mkF m 42 #[rv ob, iv ts, iv sh, rv ad110, iv 3] []) (fun t k => XS.goto X157.here hx rfl (pc0 := 74) (pc' := 42) rfl (hb hby d913_74) (by decide) (by decide) k) ?_
    refine own_s T157 (mkF m 44 #[rv ob, iv ts, iv sh, rv ad110, iv 3] [.int 3]) (fun t k => XS.iload X157.here hx rfl (hb hby d913_42) rfl k) ?_
    refine own_s T157 (mkF m 45 #[rv ob, iv ts, iv sh, rv ad110, iv 3] [.ref ob, .int 3]) (fun t k => XS.aloadN X157.here hx rfl (hb hby d913_44) rfl rfl k) ?_
    obtain ⟨T164, X164, e164, st164⟩ := getF X157 hx hZ hown (host := "") (Or.inl (hW 12 _ rfl)) Via.refl e157 g160 (g := (mkF m 45 #[rv ob, iv ts, iv sh, rv ad110, iv 3] [.ref ob, .int 3])) rfl rfl (hb hby d913_45)
    refine own_s T164 (mkF m 48 #[rv ob, iv ts, iv sh, rv ad110, iv 3] [.ref ar, .int 3]) st164 ?_
    obtain ⟨cl165, Ar165, qa165, S165, M165, H165, U165⟩ := id g161
    have ln165 := len_of S165 M165
    refine own_s T164 (mkF m 49 #[rv ob, iv ts, iv sh, rv ad110, iv 3] [.int 3, .int 3]) (fun t k => X164.arraylength hx (cell := cl165) (by rw [e164]; exact Ar165.1) (State.isArrayOf_alike hZ.alike Ar165.2.1) (g := (mkF m 48 #[rv ob, iv ts, iv sh, rv ad110, iv 3] [.ref ar, .int 3])) rfl rfl (hb hby d913_48) t (by rw [ln165]; exact k)) ?_
    refine own_s T164 (mkF m 77 #[rv ob, iv ts, iv sh, rv ad110, iv 3] []) (fun t k => XS.icmpYes X164.here hx rfl (pc0 := 49) (pc' := 77) rfl (hb hby d913_49) rfl (flt (by decide : ¬ ((3 : Int32) < (3 : Int32)))).2.1 (by decide) (by decide) k) ?_
    refine own_s T164 (mkF m 78 #[rv ob, iv ts, iv sh, rv ad110, iv 3] [.ref ob]) (fun t k => XS.aloadN X164.here hx rfl (hb hby d913_77) rfl rfl k) ?_
    refine own_s T164 (mkF m 79 #[rv ob, iv ts, iv sh, rv ad110, iv 3] [.ref ad110, .ref ob]) (fun t k => XS.aloadN X164.here hx rfl (hb hby d913_78) rfl rfl k) ?_
    obtain ⟨T166, h166, X166, e166, W166, st166⟩ := putF X164 hx hZ hown (host := "") (Or.inl (hW 12 _ rfl)) Via.refl e164 g160 g158 (Or.inl (hW 13 _ rfl)) (hW 3 _ rfl) (ty := .array .long) (by decide) rfl rfl (g := (mkF m 79 #[rv ob, iv ts, iv sh, rv ad110, iv 3] [.ref ad110, .ref ob])) rfl rfl (hb hby d913_79)
    have g167 : Exa Z h166 ob "com/example/viewlattice/viewlattice/engine/DecimalSums" := g158.wr W166
    have g168 : Fld Z h166 ob "com/example/viewlattice/viewlattice/engine/DecimalSums" "scale" "I" (.int S) := g159.other W166 (Or.inr (slot_ne (Or.inl (hW 15 _ rfl)) (Or.inl (hW 13 _ rfl)) (by decide) (t := .int) (t' := .array .long) (by decide) (by decide)))
    have g169 : Fld Z h166 ob "com/example/viewlattice/viewlattice/engine/DecimalSums" "small" "[J" (.ref ad110) := g160.same W166
    have g170 : Arv Z h166 ar kr .long (3 : Int32) [(.long v0), (.long v1), (.long v2)] (.long (0 : Int64)) := g161.other W166 (Ne.symm F_0.2.2.2.2.1)
    have g171 : Arv Z h166 ad110 k110 .long (3 : Int32) [(.long (v0 * (own_p10 sh))), (.long (v1 * (own_p10 sh))), (.long (v2 * (own_p10 sh)))] (.long (0 : Int64)) := g162.other W166 (Ne.symm ne110_1)
    have K172 : Keep h0 h166 [ob] := K163.wr W166 (Or.inl (List.mem_of_getElem? (i := 0) rfl))
    have N166 := Fr.snoc X166 N157 F_0.2.2.2.2.2.1
    have Z166 : n0 ≤ h166.size := (Nat.le_trans Z157 (Nat.le_of_eq W166.size.symm))
    have O166 : Old Z n0 h166 := O157.wr W166 F_0.2.2.2.2.2.1
    refine own_s T166 (mkF m 82 #[rv ob, iv ts, iv sh, rv ad110, iv 3] []) st166 ?_
    refine own_s T166 (mkF m 83 #[rv ob, iv ts, iv sh, rv ad110, iv 3] [.ref ob]) (fun t k => XS.aloadN X166.here hx rfl (hb hby d913_82) rfl rfl k) ?_
    refine own_s T166 (mkF m 84 #[rv ob, iv ts, iv sh, rv ad110, iv 3] [.int ts, .ref ob]) (fun t k => XS.iloadN X166.here hx rfl (hb hby d913_83) rfl k) ?_
    obtain ⟨T173, h173, X173, e173, W173, st173⟩ := putF X166 hx hZ hown (host := "") (Or.inl (hW 14 _ rfl)) Via.refl e166 g168 g167 (Or.inl (hW 15 _ rfl)) (hW 3 _ rfl) (ty := .int) (by decide) rfl rfl (g := (mkF m 84 #[rv ob, iv ts, iv sh, rv ad110, iv 3] [.int ts, .ref ob])) rfl rfl (hb hby d913_84)
    have g174 : Exa Z h173 ob "com/example/viewlattice/viewlattice/engine/DecimalSums" := g167.wr W173
    have g175 : Fld Z h173 ob "com/example/viewlattice/viewlattice/engine/DecimalSums" "scale" "I" (.int ts) := g168.same W173
    have g176 : Fld Z h173 ob "com/example/viewlattice/viewlattice/engine/DecimalSums" "small" "[J" (.ref ad110) := g169.other W173 (Or.inr (slot_ne (Or.inl (hW 13 _ rfl)) (Or.inl (hW 15 _ rfl)) (by decide) (t := .array .long) (t' := .int) (by decide) (by decide)))
    have g177 : Arv Z h173 ar kr .long (3 : Int32) [(.long v0), (.long v1), (.long v2)] (.long (0 : Int64)) := g170.other W173 (Ne.symm F_0.2.2.2.2.1)
    have g178 : Arv Z h173 ad110 k110 .long (3 : Int32) [(.long (v0 * (own_p10 sh))), (.long (v1 * (own_p10 sh))), (.long (v2 * (own_p10 sh)))] (.long (0 : Int64)) := g171.other W173 (Ne.symm ne110_1)
    have K179 : Keep h0 h173 [ob] := K172.wr W173 (Or.inl (List.mem_of_getElem? (i := 0) rfl))
    have N173 := Fr.snoc X173 N166 F_0.2.2.2.2.2.1
    have Z173 : n0 ≤ h173.size := (Nat.le_trans Z166 (Nat.le_of_eq W173.size.symm))
    have O173 : Old Z n0 h173 := O166.wr W173 F_0.2.2.2.2.2.1
    refine own_s T173 (mkF m 87 #[rv ob, iv ts, iv sh, rv ad110, iv 3] []) st173 ?_
    refine own_rV X173 hx hlk Bd.returns (hb hby d913_87) ?_ (by decide) (by decide)
    rw [e173]
    exact ⟨ad110, k110, rfl, N173, K179, f110, ne110_1, (by rw [hd_sh]; exact ⟨g174, g175, g176, g178, ne110_1, F_0.2.2.2.2.2.1, o110⟩)⟩
  · have Vn : Arv Z h0 ar kr .long (4 : Int32) [(.long v0), (.long v1), (.long v2), (.long v3)] (.long (0 : Int64)) := F_0.2.2.2.1
    refine own_s T2 (mkF m 17 #[rv ob, iv ts, iv sh, u_, u_] [.ref ob]) (fun t k => XS.aloadN X2.here hx rfl (hb hby d913_16) rfl rfl k) ?_
    obtain ⟨T180, X180, e180, st180⟩ := getF X2 hx hZ hown (host := "") (Or.inl (hW 12 _ rfl)) Via.refl e2 F_0.2.2.1 (g := (mkF m 17 #[rv ob, iv ts, iv sh, u_, u_] [.ref ob])) rfl rfl (hb hby d913_17)
    refine own_s T180 (mkF m 20 #[rv ob, iv ts, iv sh, u_, u_] [.ref ar]) st180 ?_
    refine own_s T180 (mkF m 23 #[rv ob, iv ts, iv sh, u_, u_] []) (fun t k => XS.ifnullNo X180.here hx rfl (hb hby d913_20) rfl k) ?_
    refine own_s T180 (mkF m 24 #[rv ob, iv ts, iv sh, u_, u_] [.int sh]) (fun t k => XS.iloadN X180.here hx rfl (hb hby d913_23) rfl k) ?_
    obtain ⟨T181, X181, e181, st181⟩ := getS2 X180 hx hZ hown (host := "") (Or.inl (hW 43 _ rfl)) Via.refl e180 (S_p.ext O0.2) (g := (mkF m 24 #[rv ob, iv ts, iv sh, u_, u_] [.int sh])) rfl (hb hby d913_24)
    refine own_s T181 (mkF m 27 #[rv ob, iv ts, iv sh, u_, u_] [.ref pw, .int sh]) st181 ?_
    obtain ⟨cl182, Ar182, qa182, S182, M182, H182, U182⟩ := id (V_p.ext O0.2)
    have ln182 := len_of S182 M182
    refine own_s T181 (mkF m 28 #[rv ob, iv ts, iv sh, u_, u_] [.int 19, .int sh]) (fun t k => X181.arraylength hx (cell := cl182) (by rw [e181]; exact Ar182.1) (State.isArrayOf_alike hZ.alike Ar182.2.1) (g := (mkF m 27 #[rv ob, iv ts, iv sh, u_, u_] [.ref pw, .int sh])) rfl rfl (hb hby d913_27) t (by rw [ln182]; exact k)) ?_
    refine own_s T181 (mkF m 31 #[rv ob, iv ts, iv sh, u_, u_] []) (fun t k => XS.icmpNo X181.here hx rfl (hb hby d913_28) rfl (tlt (own_sh19 hsh)).2.1 k) ?_
    refine own_s T181 (mkF m 32 #[rv ob, iv ts, iv sh, u_, u_] [.ref ob]) (fun t k => XS.aloadN X181.here hx rfl (hb hby d913_31) rfl rfl k) ?_
    obtain ⟨T183, X183, e183, st183⟩ := getF X181 hx hZ hown (host := "") (Or.inl (hW 12 _ rfl)) Via.refl e181 F_0.2.2.1 (g := (mkF m 32 #[rv ob, iv ts, iv sh, u_, u_] [.ref ob])) rfl rfl (hb hby d913_32)
    refine own_s T183 (mkF m 35 #[rv ob, iv ts, iv sh, u_, u_] [.ref ar]) st183 ?_
    obtain ⟨cl184, Ar184, qa184, S184, M184, H184, U184⟩ := id Vn
    have ln184 := len_of S184 M184
    refine own_s T183 (mkF m 36 #[rv ob, iv ts, iv sh, u_, u_] [.int 4]) (fun t k => X183.arraylength hx (cell := cl184) (by rw [e183]; exact Ar184.1) (State.isArrayOf_alike hZ.alike Ar184.2.1) (g := (mkF m 35 #[rv ob, iv ts, iv sh, u_, u_] [.ref ar])) rfl rfl (hb hby d913_35) t (by rw [ln184]; exact k)) ?_
    obtain ⟨T185, h185, k185, X185, e185, E185, A185, st185⟩ := newP X183 hx hZ (hW 11 _ rfl) e183 (g := (mkF m 36 #[rv ob, iv ts, iv sh, u_, u_] [.int 4])) rfl (hb hby d913_36) rfl (by decide) (cap := 4) (by decide) (by decide) (by decide : 0 + 1 ≤ _) (by decide : 0 + 4 ≤ _)
    obtain ⟨ad185, g_ad185⟩ : ∃ z, z = h0.size := ⟨_, rfl⟩
    rw [← g_ad185] at A185 st185
    have g186 : Exa Z h185 ob "com/example/viewlattice/viewlattice/engine/DecimalSums" := F_0.1.ext E185
    have g187 : Fld Z h185 ob "com/example/viewlattice/viewlattice/engine/DecimalSums" "scale" "I" (.int S) := F_0.2.1.ext E185
    have g188 : Fld Z h185 ob "com/example/viewlattice/viewlattice/engine/DecimalSums" "small" "[J" (.ref ar) := F_0.2.2.1.ext E185
    have g189 : Arv Z h185 ar kr .long (4 : Int32) [(.long v0), (.long v1), (.long v2), (.long v3)] (.long (0 : Int64)) := Vn.ext E185
    have ne185_1 : ob ≠ ad185 := Nat.ne_of_lt (by rw [g_ad185]; exact F_0.1.lt)
    have ne185_2 : ar ≠ ad185 := Nat.ne_of_lt (by rw [g_ad185]; exact Vn.lt)
    have o185 : n0 ≤ ad185 := (Nat.le_trans Z0 (Nat.le_of_eq g_ad185.symm))
    have Z185 : n0 ≤ h185.size := (Nat.le_trans Z0 E185.1)
    have O185 : Old Z n0 h185 := O0.ext E185
    have f185 : h0.size ≤ ad185 := by rw [g_ad185]; exact K0.1
    have K190 : Keep h0 h185 [ob] := K0.ext E185
    have V185 : Arv Z h185 ad185 k185 .long (4 : Int32) [(.long (0 : Int64)), (.long (0 : Int64)), (.long (0 : Int64)), (.long (0 : Int64))] (.long (0 : Int64)) := (Arv.new A185 (by decide)).pad (pad_rep [] (.long (0 : Int64)) 4)
    refine own_s T185 (mkF m 38 #[rv ob, iv ts, iv sh, u_, u_] [.ref ad185]) st185 ?_
    refine own_s T185 (mkF m 39 #[rv ob, iv ts, iv sh, rv ad185, u_] []) (fun t k => XS.astoreN X185.here hx rfl (hb hby d913_38) rfl rfl (l' := #[rv ob, iv ts, iv sh, rv ad185, u_]) rfl k) ?_
    refine own_s T185 (mkF m 40 #[rv ob, iv ts, iv sh, rv ad185, u_] [.int 0]) (fun t k => XS.iconst X185.here hx rfl (hb hby d913_39) k) ?_
    refine own_s T185 (mkF m 42 #[rv ob, iv ts, iv sh, rv ad185, iv 0] []) (fun t k => XS.istore X185.here hx rfl (hb hby d913_40) rfl (l' := #[rv ob, iv ts, iv sh, rv ad185, iv 0]) rfl k) ?_
    refine own_s T185 (mkF m 44 #[rv ob, iv ts, iv sh, rv ad185, iv 0] [.int 0]) (fun t k => XS.iload X185.here hx rfl (hb hby d913_42) rfl k) ?_
    refine own_s T185 (mkF m 45 #[rv ob, iv ts, iv sh, rv ad185, iv 0] [.ref ob, .int 0]) (fun t k => XS.aloadN X185.here hx rfl (hb hby d913_44) rfl rfl k) ?_
    obtain ⟨T191, X191, e191, st191⟩ := getF X185 hx hZ hown (host := "") (Or.inl (hW 12 _ rfl)) Via.refl e185 g188 (g := (mkF m 45 #[rv ob, iv ts, iv sh, rv ad185, iv 0] [.ref ob, .int 0])) rfl rfl (hb hby d913_45)
    refine own_s T191 (mkF m 48 #[rv ob, iv ts, iv sh, rv ad185, iv 0] [.ref ar, .int 0]) st191 ?_
    obtain ⟨cl192, Ar192, qa192, S192, M192, H192, U192⟩ := id g189
    have ln192 := len_of S192 M192
    refine own_s T191 (mkF m 49 #[rv ob, iv ts, iv sh, rv ad185, iv 0] [.int 4, .int 0]) (fun t k => X191.arraylength hx (cell := cl192) (by rw [e191]; exact Ar192.1) (State.isArrayOf_alike hZ.alike Ar192.2.1) (g := (mkF m 48 #[rv ob, iv ts, iv sh, rv ad185, iv 0] [.ref ar, .int 0])) rfl rfl (hb hby d913_48) t (by rw [ln192]; exact k)) ?_
    refine own_s T191 (mkF m 52 #[rv ob, iv ts, iv sh, rv ad185, iv 0] []) (fun t k => XS.icmpNo X191.here hx rfl (hb hby d913_49) rfl (tlt (by decide : ((0 : Int32) < (4 : Int32)))).2.1 k) ?_
    refine own_s T191 (mkF m 53 #[rv ob, iv ts, iv sh, rv ad185, iv 0] [.ref ad185]) (fun t k => XS.aloadN X191.here hx rfl (hb hby d913_52) rfl rfl k) ?_
    refine own_s T191 (mkF m 55 #[rv ob, iv ts, iv sh, rv ad185, iv 0] [.int 0, .ref ad185]) (fun t k => XS.iload X191.here hx rfl (hb hby d913_53) rfl k) ?_
    refine own_s T191 (mkF m 56 #[rv ob, iv ts, iv sh, rv ad185, iv 0] [.ref ob, .int 0, .ref ad185]) (fun t k => XS.aloadN X191.here hx rfl (hb hby d913_55) rfl rfl k) ?_
    obtain ⟨T193, X193, e193, st193⟩ := getF X191 hx hZ hown (host := "") (Or.inl (hW 12 _ rfl)) Via.refl e191 g188 (g := (mkF m 56 #[rv ob, iv ts, iv sh, rv ad185, iv 0] [.ref ob, .int 0, .ref ad185])) rfl rfl (hb hby d913_56)
    refine own_s T193 (mkF m 59 #[rv ob, iv ts, iv sh, rv ad185, iv 0] [.ref ar, .int 0, .ref ad185]) st193 ?_
    refine own_s T193 (mkF m 61 #[rv ob, iv ts, iv sh, rv ad185, iv 0] [.int 0, .ref ar, .int 0, .ref ad185]) (fun t k => XS.iload X193.here hx rfl (hb hby d913_59) rfl k) ?_
    obtain ⟨cl194, Ar194, qa194, S194, M194, H194, U194⟩ := id g189
    have hi194 := inb_of S194 (j := (0 : Int32)) ⟨by decide, by decide⟩
    have hat194 := H194.at hi194 (v := (.long v0)) rfl
    refine own_s T193 (mkF m 62 #[rv ob, iv ts, iv sh, rv ad185, iv 0] [.long v0, .int 0, .ref ad185]) (fun t k => X193.laload hx (j := (0 : Int32)) (v := (.long v0)) (by rw [e193]; exact Ar194.1) (State.isArrayOf_alike hZ.alike Ar194.2.1) Ar194.2.2 hi194 hat194 (g := (mkF m 61 #[rv ob, iv ts, iv sh, rv ad185, iv 0] [.int 0, .ref ar, .int 0, .ref ad185])) rfl rfl (hb hby d913_61) t k) ?_
    obtain ⟨T195, X195, e195, st195⟩ := getS2 X193 hx hZ hown (host := "") (Or.inl (hW 43 _ rfl)) Via.refl e193 (S_p.ext O185.2) (g := (mkF m 62 #[rv ob, iv ts, iv sh, rv ad185, iv 0] [.long v0, .int 0, .ref ad185])) rfl (hb hby d913_62)
    refine own_s T195 (mkF m 65 #[rv ob, iv ts, iv sh, rv ad185, iv 0] [.ref pw, .long v0, .int 0, .ref ad185]) st195 ?_
    refine own_s T195 (mkF m 66 #[rv ob, iv ts, iv sh, rv ad185, iv 0] [.int sh, .ref pw, .long v0, .int 0, .ref ad185]) (fun t k => XS.iloadN X195.here hx rfl (hb hby d913_65) rfl k) ?_
    obtain ⟨cl196, Ar196, qa196, S196, M196, H196, U196⟩ := id (V_p.ext O185.2)
    have hi196 := inb_of S196 (j := sh) (own_shin hsh)
    have hat196 := H196.at hi196 (v := (.long (own_p10 sh))) (own_pwat hsh)
    refine own_s T195 (mkF m 67 #[rv ob, iv ts, iv sh, rv ad185, iv 0] [.long (own_p10 sh), .long v0, .int 0, .ref ad185]) (fun t k => X195.laload hx (j := sh) (v := (.long (own_p10 sh))) (by rw [e195]; exact Ar196.1) (State.isArrayOf_alike hZ.alike Ar196.2.1) Ar196.2.2 hi196 hat196 (g := (mkF m 66 #[rv ob, iv ts, iv sh, rv ad185, iv 0] [.int sh, .ref pw, .long v0, .int 0, .ref ad185])) rfl rfl (hb hby d913_66) t k) ?_
    obtain ⟨_, _, ⟨T199, L199, k199, n199⟩, -, X199, ⟨Lc199, hQ199, lq199, yq199, zq199⟩, st199⟩ := Jvm.LawKit.callS X195 hx (y := (⟨"java/lang/Math", "multiplyExact", "(JJ)J"⟩ : MethodName)) hown (mvT hZ (hW 45 _ rfl)) (mvT hZ (hW 46 _ rfl)) (mvT hZ (hW 33 _ rfl)) (mvT hZ (hW 47 _ rfl)) (by decide) (backOf (W := 2) (rm_mul l Z a0 hw [] v0 (own_p10 sh) h185 n0 Z185 hv0 (own_p10sm hsh)) hZ (hW 47 _ rfl) (hW 33 _ rfl) (by decide) (by decide)) (g := (mkF m 67 #[rv ob, iv ts, iv sh, rv ad185, iv 0] [.long (own_p10 sh), .long v0, .int 0, .ref ad185])) rfl (by rw [hml]; rfl) (argsL := [(.long v0), (.long (own_p10 sh))]) (rest := [(.int (0 : Int32)), (.ref ad185)]) (lenOf pd_1 rfl) rfl (by show 2 * 0 + _ ≤ _; exact Nat.le_of_eq rfl) (hb hby d913_67) (fun _ _ => ⟨rfl, e195, (by decide : 1 + 0 ≤ _), (by decide : 4 + 0 ≤ _)⟩)
    dsimp only [Pt.U, Pt.locs, Pt.cells, Pt.slots] at X199 lq199 yq199 zq199 st199 hQ199
    subst lq199 yq199 zq199
    obtain ⟨rfl, Nq199, eq198⟩ := hQ199
    have N199 := Fr.app N0 Nq199
    refine own_s T199 (mkF m 70 #[rv ob, iv ts, iv sh, rv ad185, iv 0] [.long (v0 * (own_p10 sh)), .int 0, .ref ad185]) st199 ?_
    obtain ⟨cl200, Ar200, qa200, S200, M200, H200, U200⟩ := id V185
    obtain ⟨T200, h200, X200, e200, W200, st200⟩ := stJ X199 hx hZ eq198 Ar200 (j := (0 : Int32)) (inb_of S200 ⟨by decide, by decide⟩) (g := (mkF m 70 #[rv ob, iv ts, iv sh, rv ad185, iv 0] [.long (v0 * (own_p10 sh)), .int 0, .ref ad185])) rfl rfl (hb hby d913_70)
    have g201 : Exa Z h200 ob "com/example/viewlattice/viewlattice/engine/DecimalSums" := g186.wr W200
    have g202 : Fld Z h200 ob "com/example/viewlattice/viewlattice/engine/DecimalSums" "scale" "I" (.int S) := g187.other W200 (Or.inl ne185_1)
    have g203 : Fld Z h200 ob "com/example/viewlattice/viewlattice/engine/DecimalSums" "small" "[J" (.ref ar) := g188.other W200 (Or.inl ne185_1)
    have g204 : Arv Z h200 ar kr .long (4 : Int32) [(.long v0), (.long v1), (.long v2), (.long v3)] (.long (0 : Int64)) := g189.other W200 ne185_2
    have g205 : Arv Z h200 ad185 k185 .long (4 : Int32) [(.long (v0 * (own_p10 sh))), (.long (0 : Int64)), (.long (0 : Int64)), (.long (0 : Int64))] (.long (0 : Int64)) := Arv.set Ar200 qa200 S200 M200 H200 U200 rfl W200 0 rfl (Nat.le_of_ble_eq_true rfl)
    have K206 : Keep h0 h200 [ob] := K190.wr W200 (Or.inr f185)
    have N200 := Fr.snoc X200 N199 o185
    have Z200 : n0 ≤ h200.size := (Nat.le_trans Z185 (Nat.le_of_eq W200.size.symm))
    have O200 : Old Z n0 h200 := O185.wr W200 o185
    refine own_s T200 (mkF m 71 #[rv ob, iv ts, iv sh, rv ad185, iv 0] []) st200 ?_
    refine own_s T200 (mkF m 74 #[rv ob, iv ts, iv sh, rv ad185, iv 1] []) (fun t k => XS.iinc X200.here hx rfl (hb hby d913_71) rfl (l' := #[rv ob, iv ts, iv sh, rv ad185, iv 1]) rfl k) ?_
    refine own_s T200 (mkF m 42 #[rv ob, iv ts, iv sh, rv ad185, iv 1] []) (fun t k => XS.goto X200.here hx rfl (pc0 := 74) (pc' := 42) rfl (hb hby d913_74) (by decide) (by decide) k) ?_
    refine own_s T200 (mkF m 44 #[rv ob, iv ts, iv sh, rv ad185, iv 1] [.int 1]) (fun t k => XS.iload X200.here hx rfl (hb hby d913_42) rfl k) ?_
    refine own_s T200 (mkF m 45 #[rv ob, iv ts, iv sh, rv ad185, iv 1] [.ref ob, .int 1]) (fun t k => XS.aloadN X200.here hx rfl (hb hby d913_44) rfl rfl k) ?_
    obtain ⟨T207, X207, e207, st207⟩ := getF X200 hx hZ hown (host := "") (Or.inl (hW 12 _ rfl)) Via.refl e200 g203 (g := (mkF m 45 #[rv ob, iv ts, iv sh, rv ad185, iv 1] [.ref ob, .int 1])) rfl rfl (hb hby d913_45)
    refine own_s T207 (mkF m 48 #[rv ob, iv ts, iv sh, rv ad185, iv 1] [.ref ar, .int 1]) st207 ?_
    obtain ⟨cl208, Ar208, qa208, S208, M208, H208, U208⟩ := id g204
    have ln208 := len_of S208 M208
    refine own_s T207 (mkF m 49 #[rv ob, iv ts, iv sh, rv ad185, iv 1] [.int 4, .int 1]) (fun t k => X207.arraylength hx (cell := cl208) (by rw [e207]; exact Ar208.1) (State.isArrayOf_alike hZ.alike Ar208.2.1) (g := (mkF m 48 #[rv ob, iv ts, iv sh, rv ad185, iv 1] [.ref ar, .int 1])) rfl rfl (hb hby d913_48) t (by rw [ln208]; exact k)) ?_
    refine own_s T207 (mkF m 52 #[rv ob, iv ts, iv sh, rv ad185, iv 1] []) (fun t k => XS.icmpNo X207.here hx rfl (hb hby d913_49) rfl (tlt (by decide : ((1 : Int32) < (4 : Int32)))).2.1 k) ?_
    refine own_s T207 (mkF m 53 #[rv ob, iv ts, iv sh, rv ad185, iv 1] [.ref ad185]) (fun t k => XS.aloadN X207.here hx rfl (hb hby d913_52) rfl rfl k) ?_
    refine own_s T207 (mkF m 55 #[rv ob, iv ts, iv sh, rv ad185, iv 1] [.int 1, .ref ad185]) (fun t k => XS.iload X207.here hx rfl (hb hby d913_53) rfl k) ?_
    refine own_s T207 (mkF m 56 #[rv ob, iv ts, iv sh, rv ad185, iv 1] [.ref ob, .int 1, .ref ad185]) (fun t k => XS.aloadN X207.here hx rfl (hb hby d913_55) rfl rfl k) ?_
    obtain ⟨T209, X209, e209, st209⟩ := getF X207 hx hZ hown (host := "") (Or.inl (hW 12 _ rfl)) Via.refl e207 g203 (g := (mkF m 56 #[rv ob, iv ts, iv sh, rv ad185, iv 1] [.ref ob, .int 1, .ref ad185])) rfl rfl (hb hby d913_56)
    refine own_s T209 (mkF m 59 #[rv ob, iv ts, iv sh, rv ad185, iv 1] [.ref ar, .int 1, .ref ad185]) st209 ?_
    refine own_s T209 (mkF m 61 #[rv ob, iv ts, iv sh, rv ad185, iv 1] [.int 1, .ref ar, .int 1, .ref ad185]) (fun t k => XS.iload X209.here hx rfl (hb hby d913_59) rfl k) ?_
    obtain ⟨cl210, Ar210, qa210, S210, M210, H210, U210⟩ := id g204
    have hi210 := inb_of S210 (j := (1 : Int32)) ⟨by decide, by decide⟩
    have hat210 := H210.at hi210 (v := (.long v1)) rfl
    refine own_s T209 (mkF m 62 #[rv ob, iv ts, iv sh, rv ad185, iv 1] [.long v1, .int 1, .ref ad185]) (fun t k => X209.laload hx (j := (1 : Int32)) (v := (.long v1)) (by rw [e209]; exact Ar210.1) (State.isArrayOf_alike hZ.alike Ar210.2.1) Ar210.2.2 hi210 hat210 (g := (mkF m 61 #[rv ob, iv ts, iv sh, rv ad185, iv 1] [.int 1, .ref ar, .int 1, .ref ad185])) rfl rfl (hb hby d913_61) t k) ?_
    obtain ⟨T211, X211, e211, st211⟩ := getS2 X209 hx hZ hown (host := "") (Or.inl (hW 43 _ rfl)) Via.refl e209 (S_p.ext O200.2) (g := (mkF m 62 #[rv ob, iv ts, iv sh, rv ad185, iv 1] [.long v1, .int 1, .ref ad185])) rfl (hb hby d913_62)
    refine own_s T211 (mkF m 65 #[rv ob, iv ts, iv sh, rv ad185, iv 1] [.ref pw, .long v1, .int 1, .ref ad185]) st211 ?_
    refine own_s T211 (mkF m 66 #[rv ob, iv ts, iv sh, rv ad185, iv 1] [.int sh, .ref pw, .long v1, .int 1, .ref ad185]) (fun t k => XS.iloadN X211.here hx rfl (hb hby d913_65) rfl k) ?_
    obtain ⟨cl212, Ar212, qa212, S212, M212, H212, U212⟩ := id (V_p.ext O200.2)
    have hi212 := inb_of S212 (j := sh) (own_shin hsh)
    have hat212 := H212.at hi212 (v := (.long (own_p10 sh))) (own_pwat hsh)
    refine own_s T211 (mkF m 67 #[rv ob, iv ts, iv sh, rv ad185, iv 1] [.long (own_p10 sh), .long v1, .int 1, .ref ad185]) (fun t k => X211.laload hx (j := sh) (v := (.long (own_p10 sh))) (by rw [e211]; exact Ar212.1) (State.isArrayOf_alike hZ.alike Ar212.2.1) Ar212.2.2 hi212 hat212 (g := (mkF m 66 #[rv ob, iv ts, iv sh, rv ad185, iv 1] [.int sh, .ref pw, .long v1, .int 1, .ref ad185])) rfl rfl (hb hby d913_66) t k) ?_
    obtain ⟨_, _, ⟨T215, L215, k215, n215⟩, -, X215, ⟨Lc215, hQ215, lq215, yq215, zq215⟩, st215⟩ := Jvm.LawKit.callS X211 hx (y := (⟨"java/lang/Math", "multiplyExact", "(JJ)J"⟩ : MethodName)) hown (mvT hZ (hW 45 _ rfl)) (mvT hZ (hW 46 _ rfl)) (mvT hZ (hW 33 _ rfl)) (mvT hZ (hW 47 _ rfl)) (by decide) (backOf (W := 2) (rm_mul l Z a0 hw [] v1 (own_p10 sh) h200 n0 Z200 hv1 (own_p10sm hsh)) hZ (hW 47 _ rfl) (hW 33 _ rfl) (by decide) (by decide)) (g := (mkF m 67 #[rv ob, iv ts, iv sh, rv ad185, iv 1] [.long (own_p10 sh), .long v1, .int 1, .ref ad185])) rfl (by rw [hml]; rfl) (argsL := [(.long v1), (.long (own_p10 sh))]) (rest := [(.int (1 : Int32)), (.ref ad185)]) (lenOf pd_1 rfl) rfl (by show 2 * 0 + _ ≤ _; exact Nat.le_of_eq rfl) (hb hby d913_67) (fun _ _ => ⟨rfl, e211, (by decide : 1 + 0 ≤ _), (by decide : 4 + 0 ≤ _)⟩)
    dsimp only [Pt.U, Pt.locs, Pt.cells, Pt.slots] at X215 lq215 yq215 zq215 st215 hQ215
    subst lq215 yq215 zq215
    obtain ⟨rfl, Nq215, eq214⟩ := hQ215
    have N215 := Fr.app N200 Nq215
    refine own_s T215 (mkF m 70 #[rv ob, iv ts, iv sh, rv ad185, iv 1] [.long (v1 * (own_p10 sh)), .int 1, .ref ad185]) st215 ?_
    obtain ⟨cl216, Ar216, qa216, S216, M216, H216, U216⟩ := id g205
    obtain ⟨T216, h216, X216, e216, W216, st216⟩ := stJ X215 hx hZ eq214 Ar216 (j := (1 : Int32)) (inb_of S216 ⟨by decide, by decide⟩) (g := (mkF m 70 #[rv ob, iv ts, iv sh, rv ad185, iv 1] [.long (v1 * (own_p10 sh)), .int 1, .ref ad185])) rfl rfl (hb hby d913_70)
    have g217 : Exa Z h216 ob "com/example/viewlattice/viewlattice/engine/DecimalSums" := g201.wr W216
    have g218 : Fld Z h216 ob "com/example/viewlattice/viewlattice/engine/DecimalSums" "scale" "I" (.int S) := g202.other W216 (Or.inl ne185_1)
    have g219 : Fld Z h216 ob "com/example/viewlattice/viewlattice/engine/DecimalSums" "small" "[J" (.ref ar) := g203.other W216 (Or.inl ne185_1)
    have g220 : Arv Z h216 ar kr .long (4 : Int32) [(.long v0), (.long v1), (.long v2), (.long v3)] (.long (0 : Int64)) := g204.other W216 ne185_2
    have g221 : Arv Z h216 ad185 k185 .long (4 : Int32) [(.long (v0 * (own_p10 sh))), (.long (v1 * (own_p10 sh))), (.long (0 : Int64)), (.long (0 : Int64))] (.long (0 : Int64)) := Arv.set Ar216 qa216 S216 M216 H216 U216 rfl W216 1 rfl (Nat.le_of_ble_eq_true rfl)
    have K222 : Keep h0 h216 [ob] := K206.wr W216 (Or.inr f185)
    have N216 := Fr.snoc X216 N215 o185
    have Z216 : n0 ≤ h216.size := (Nat.le_trans Z200 (Nat.le_of_eq W216.size.symm))
    have O216 : Old Z n0 h216 := O200.wr W216 o185
    refine own_s T216 (mkF m 71 #[rv ob, iv ts, iv sh, rv ad185, iv 1] []) st216 ?_
    refine own_s T216 (mkF m 74 #[rv ob, iv ts, iv sh, rv ad185, iv 2] []) (fun t k => XS.iinc X216.here hx rfl (hb hby d913_71) rfl (l' := #[rv ob, iv ts, iv sh, rv ad185, iv 2]) rfl k) ?_
    refine own_s T216 (mkF m 42 #[rv ob, iv ts, iv sh, rv ad185, iv 2] []) (fun t k => XS.goto X216.here hx rfl (pc0 := 74) (pc' := 42) rfl (hb hby d913_74) (by decide) (by decide) k) ?_
    refine own_s T216 (mkF m 44 #[rv ob, iv ts, iv sh, rv ad185, iv 2] [.int 2]) (fun t k => XS.iload X216.here hx rfl (hb hby d913_42) rfl k) ?_
    refine own_s T216 (mkF m 45 #[rv ob, iv ts, iv sh, rv ad185, iv 2] [.ref ob, .int 2]) (fun t k => XS.aloadN X216.here hx rfl (hb hby d913_44) rfl rfl k) ?_
    obtain ⟨T223, X223, e223, st223⟩ := getF X216 hx hZ hown (host := "") (Or.inl (hW 12 _ rfl)) Via.refl e216 g219 (g := (mkF m 45 #[rv ob, iv ts, iv sh, rv ad185, iv 2] [.ref ob, .int 2])) rfl rfl (hb hby d913_45)
    refine own_s T223 (mkF m 48 #[rv ob, iv ts, iv sh, rv ad185, iv 2] [.ref ar, .int 2]) st223 ?_
    obtain ⟨cl224, Ar224, qa224, S224, M224, H224, U224⟩ := id g220
    have ln224 := len_of S224 M224
    refine own_s T223 (mkF m 49 #[rv ob, iv ts, iv sh, rv ad185, iv 2] [.int 4, .int 2]) (fun t k => X223.arraylength hx (cell := cl224) (by rw [e223]; exact Ar224.1) (State.isArrayOf_alike hZ.alike Ar224.2.1) (g := (mkF m 48 #[rv ob, iv ts, iv sh, rv ad185, iv 2] [.ref ar, .int 2])) rfl rfl (hb hby d913_48) t (by rw [ln224]; exact k)) ?_
    refine own_s T223 (mkF m 52 #[rv ob, iv ts, iv sh, rv ad185, iv 2] []) (fun t k => XS.icmpNo X223.here hx rfl (hb hby d913_49) rfl (tlt (by decide : ((2 : Int32) < (4 : Int32)))).2.1 k) ?_
    refine own_s T223 (mkF m 53 #[rv ob, iv ts, iv sh, rv ad185, iv 2] [.ref ad185]) (fun t k => XS.aloadN X223.here hx rfl (hb hby d913_52) rfl rfl k) ?_
    refine own_s T223 (mkF m 55 #[rv ob, iv ts, iv sh, rv ad185, iv 2] [.int 2, .ref ad185]) (fun t k => XS.iload X223.here hx rfl (hb hby d913_53) rfl k) ?_
    refine own_s T223 (mkF m 56 #[rv ob, iv ts, iv sh, rv ad185, iv 2] [.ref ob, .int 2, .ref ad185]) (fun t k => XS.aloadN X223.here hx rfl (hb hby d913_55) rfl rfl k) ?_
    obtain ⟨T225, X225, e225, st225⟩ := getF X223 hx hZ hown (host := "") (Or.inl (hW 12 _ rfl)) Via.refl e223 g219 (g := (mkF m 56 #[rv ob, iv ts, iv sh, rv ad185, iv 2] [.ref ob, .int 2, .ref ad185])) rfl rfl (hb hby d913_56)
    refine own_s T225 (mkF m 59 #[rv ob, iv ts, iv sh, rv ad185, iv 2] [.ref ar, .int 2, .ref ad185]) st225 ?_
    refine own_s T225 (mkF m 61 #[rv ob, iv ts, iv sh, rv ad185, iv 2] [.int 2, .ref ar, .int 2, .ref ad185]) (fun t k => XS.iload X225.here hx rfl (hb hby d913_59) rfl k) ?_
    obtain ⟨cl226, Ar226, qa226, S226, M226, H226, U226⟩ := id g220
    have hi226 := inb_of S226 (j := (2 : Int32)) ⟨by decide, by decide⟩
    have hat226 := H226.at hi226 (v := (.long v2)) rfl
    refine own_s T225 (mkF m 62 #[rv ob, iv ts, iv sh, rv ad185, iv 2] [.long v2, .int 2, .ref ad185]) (fun t k => X225.laload hx (j := (2 : Int32)) (v := (.long v2)) (by rw [e225]; exact Ar226.1) (State.isArrayOf_alike hZ.alike Ar226.2.1) Ar226.2.2 hi226 hat226 (g := (mkF m 61 #[rv ob, iv ts, iv sh, rv ad185, iv 2] [.int 2, .ref ar, .int 2, .ref ad185])) rfl rfl (hb hby d913_61) t k) ?_
    obtain ⟨T227, X227, e227, st227⟩ := getS2 X225 hx hZ hown (host := "") (Or.inl (hW 43 _ rfl)) Via.refl e225 (S_p.ext O216.2) (g := (mkF m 62 #[rv ob, iv ts, iv sh, rv ad185, iv 2] [.long v2, .int 2, .ref ad185])) rfl (hb hby d913_62)
    refine own_s T227 (mkF m 65 #[rv ob, iv ts, iv sh, rv ad185, iv 2] [.ref pw, .long v2, .int 2, .ref ad185]) st227 ?_
    refine own_s T227 (mkF m 66 #[rv ob, iv ts, iv sh, rv ad185, iv 2] [.int sh, .ref pw, .long v2, .int 2, .ref ad185]) (fun t k => XS.iloadN X227.here hx rfl (hb hby d913_65) rfl k) ?_
    obtain ⟨cl228, Ar228, qa228, S228, M228, H228, U228⟩ := id (V_p.ext O216.2)
    have hi228 := inb_of S228 (j := sh) (own_shin hsh)
    have hat228 := H228.at hi228 (v := (.long (own_p10 sh))) (own_pwat hsh)
    refine own_s T227 (mkF m 67 #[rv ob, iv ts, iv sh, rv ad185, iv 2] [.long (own_p10 sh), .long v2, .int 2, .ref ad185]) (fun t k => X227.laload hx (j := sh) (v := (.long (own_p10 sh))) (by rw [e227]; exact Ar228.1) (State.isArrayOf_alike hZ.alike Ar228.2.1) Ar228.2.2 hi228 hat228 (g := (mkF m 66 #[rv ob, iv ts, iv sh, rv ad185, iv 2] [.int sh, .ref pw, .long v2, .int 2, .ref ad185])) rfl rfl (hb hby d913_66) t k) ?_
    obtain ⟨_, _, ⟨T231, L231, k231, n231⟩, -, X231, ⟨Lc231, hQ231, lq231, yq231, zq231⟩, st231⟩ := Jvm.LawKit.callS X227 hx (y := (⟨"java/lang/Math", "multiplyExact", "(JJ)J"⟩ : MethodName)) hown (mvT hZ (hW 45 _ rfl)) (mvT hZ (hW 46 _ rfl)) (mvT hZ (hW 33 _ rfl)) (mvT hZ (hW 47 _ rfl)) (by decide) (backOf (W := 2) (rm_mul l Z a0 hw [] v2 (own_p10 sh) h216 n0 Z216 hv2 (own_p10sm hsh)) hZ (hW 47 _ rfl) (hW 33 _ rfl) (by decide) (by decide)) (g := (mkF m 67 #[rv ob, iv ts, iv sh, rv ad185, iv 2] [.long (own_p10 sh), .long v2, .int 2, .ref ad185])) rfl (by rw [hml]; rfl) (argsL := [(.long v2), (.long (own_p10 sh))]) (rest := [(.int (2 : Int32)), (.ref ad185)]) (lenOf pd_1 rfl) rfl (by show 2 * 0 + _ ≤ _; exact Nat.le_of_eq rfl) (hb hby d913_67) (fun _ _ => ⟨rfl, e227, (by decide : 1 + 0 ≤ _), (by decide : 4 + 0 ≤ _)⟩)
    dsimp only [Pt.U, Pt.locs, Pt.cells, Pt.slots] at X231 lq231 yq231 zq231 st231 hQ231
    subst lq231 yq231 zq231
    obtain ⟨rfl, Nq231, eq230⟩ := hQ231
    have N231 := Fr.app N216 Nq231
    refine own_s T231 (mkF m 70 #[rv ob, iv ts, iv sh, rv ad185, iv 2] [.long (v2 * (own_p10 sh)), .int 2, .ref ad185]) st231 ?_
    obtain ⟨cl232, Ar232, qa232, S232, M232, H232, U232⟩ := id g221
    obtain ⟨T232, h232, X232, e232, W232, st232⟩ := stJ X231 hx hZ eq230 Ar232 (j := (2 : Int32)) (inb_of S232 ⟨by decide, by decide⟩) (g := (mkF m 70 #[rv ob, iv ts, iv sh, rv ad185, iv 2] [.long (v2 * (own_p10 sh)), .int 2, .ref ad185])) rfl rfl (hb hby d913_70)
    have g233 : Exa Z h232 ob "com/example/viewlattice/viewlattice/engine/DecimalSums" := g217.wr W232
    have g234 : Fld Z h232 ob "com/example/viewlattice/viewlattice/engine/DecimalSums" "scale" "I" (.int S) := g218.other W232 (Or.inl ne185_1)
    have g235 : Fld Z h232 ob "com/example/viewlattice/viewlattice/engine/DecimalSums" "small" "[J" (.ref ar) := g219.other W232 (Or.inl ne185_1)
    have g236 : Arv Z h232 ar kr .long (4 : Int32) [(.long v0), (.long v1), (.long v2), (.long v3)] (.long (0 : Int64)) := g220.other W232 ne185_2
    have g237 : Arv Z h232 ad185 k185 .long (4 : Int32) [(.long (v0 * (own_p10 sh))), (.long (v1 * (own_p10 sh))), (.long (v2 * (own_p10 sh))), (.long (0 : Int64))] (.long (0 : Int64)) := Arv.set Ar232 qa232 S232 M232 H232 U232 rfl W232 2 rfl (Nat.le_of_ble_eq_true rfl)
    have K238 : Keep h0 h232 [ob] := K222.wr W232 (Or.inr f185)
    have N232 := Fr.snoc X232 N231 o185
    have Z232 : n0 ≤ h232.size := (Nat.le_trans Z216 (Nat.le_of_eq W232.size.symm))
    have O232 : Old Z n0 h232 := O216.wr W232 o185
    refine own_s T232 (mkF m 71 #[rv ob, iv ts, iv sh, rv ad185, iv 2] []) st232 ?_
    refine own_s T232 (mkF m 74 #[rv ob, iv ts, iv sh, rv ad185, iv 3] []) (fun t k => XS.iinc X232.here hx rfl (hb hby d913_71) rfl (l' := #[rv ob, iv ts, iv sh, rv ad185, iv 3]) rfl k) ?_
    refine own_s T232 (mkF m 42 #[rv ob, iv ts, iv sh, rv ad185, iv 3] []) (fun t k => XS.goto X232.here hx rfl (pc0 := 74) (pc' := 42) rfl (hb hby d913_74) (by decide) (by decide) k) ?_
    refine own_s T232 (mkF m 44 #[rv ob, iv ts, iv sh, rv ad185, iv 3] [.int 3]) (fun t k => XS.iload X232.here hx rfl (hb hby d913_42) rfl k) ?_
    refine own_s T232 (mkF m 45 #[rv ob, iv ts, iv sh, rv ad185, iv 3] [.ref ob, .int 3]) (fun t k => XS.aloadN X232.here hx rfl (hb hby d913_44) rfl rfl k) ?_
    obtain ⟨T239, X239, e239, st239⟩ := getF X232 hx hZ hown (host := "") (Or.inl (hW 12 _ rfl)) Via.refl e232 g235 (g := (mkF m 45 #[rv ob, iv ts, iv sh, rv ad185, iv 3] [.ref ob, .int 3])) rfl rfl (hb hby d913_45)
    refine own_s T239 (mkF m 48 #[rv ob, iv ts, iv sh, rv ad185, iv 3] [.ref ar, .int 3]) st239 ?_
    obtain ⟨cl240, Ar240, qa240, S240, M240, H240, U240⟩ := id g236
    have ln240 := len_of S240 M240
    refine own_s T239 (mkF m 49 #[rv ob, iv ts, iv sh, rv ad185, iv 3] [.int 4, .int 3]) (fun t k => X239.arraylength hx (cell := cl240) (by rw [e239]; exact Ar240.1) (State.isArrayOf_alike hZ.alike Ar240.2.1) (g := (mkF m 48 #[rv ob, iv ts, iv sh, rv ad185, iv 3] [.ref ar, .int 3])) rfl rfl (hb hby d913_48) t (by rw [ln240]; exact k)) ?_
    refine own_s T239 (mkF m 52 #[rv ob, iv ts, iv sh, rv ad185, iv 3] []) (fun t k => XS.icmpNo X239.here hx rfl (hb hby d913_49) rfl (tlt (by decide : ((3 : Int32) < (4 : Int32)))).2.1 k) ?_
    refine own_s T239 (mkF m 53 #[rv ob, iv ts, iv sh, rv ad185, iv 3] [.ref ad185]) (fun t k => XS.aloadN X239.here hx rfl (hb hby d913_52) rfl rfl k) ?_
    refine own_s T239 (mkF m 55 #[rv ob, iv ts, iv sh, rv ad185, iv 3] [.int 3, .ref ad185]) (fun t k => XS.iload X239.here hx rfl (hb hby d913_53) rfl k) ?_
    refine own_s T239 (mkF m 56 #[rv ob, iv ts, iv sh, rv ad185, iv 3] [.ref ob, .int 3, .ref ad185]) (fun t k => XS.aloadN X239.here hx rfl (hb hby d913_55) rfl rfl k) ?_
    obtain ⟨T241, X241, e241, st241⟩ := getF X239 hx hZ hown (host := "") (Or.inl (hW 12 _ rfl)) Via.refl e239 g235 (g := (mkF m 56 #[rv ob, iv ts, iv sh, rv ad185, iv 3] [.ref ob, .int 3, .ref ad185])) rfl rfl (hb hby d913_56)
    refine own_s T241 (mkF m 59 #[rv ob, iv ts, iv sh, rv ad185, iv 3] [.ref ar, .int 3, .ref ad185]) st241 ?_
    refine own_s T241 (mkF m 61 #[rv ob, iv ts, iv sh, rv ad185, iv 3] [.int 3, .ref ar, .int 3, .ref ad185]) (fun t k => XS.iload X241.here hx rfl (hb hby d913_59) rfl k) ?_
    obtain ⟨cl242, Ar242, qa242, S242, M242, H242, U242⟩ := id g236
    have hi242 := inb_of S242 (j := (3 : Int32)) ⟨by decide, by decide⟩
    have hat242 := H242.at hi242 (v := (.long v3)) rfl
    refine own_s T241 (mkF m 62 #[rv ob, iv ts, iv sh, rv ad185, iv 3] [.long v3, .int 3, .ref ad185]) (fun t k => X241.laload hx (j := (3 : Int32)) (v := (.long v3)) (by rw [e241]; exact Ar242.1) (State.isArrayOf_alike hZ.alike Ar242.2.1) Ar242.2.2 hi242 hat242 (g := (mkF m 61 #[rv ob, iv ts, iv sh, rv ad185, iv 3] [.int 3, .ref ar, .int 3, .ref ad185])) rfl rfl (hb hby d913_61) t k) ?_
    obtain ⟨T243, X243, e243, st243⟩ := getS2 X241 hx hZ hown (host := "") (Or.inl (hW 43 _ rfl)) Via.refl e241 (S_p.ext O232.2) (g := (mkF m 62 #[rv ob, iv ts, iv sh, rv ad185, iv 3] [.long v3, .int 3, .ref ad185])) rfl (hb hby d913_62)
    refine own_s T243 (mkF m 65 #[rv ob, iv ts, iv sh, rv ad185, iv 3] [.ref pw, .long v3, .int 3, .ref ad185]) st243 ?_
    refine own_s T243 (mkF m 66 #[rv ob, iv ts, iv sh, rv ad185, iv 3] [.int sh, .ref pw, .long v3, .int 3, .ref ad185]) (fun t k => XS.iloadN X243.here hx rfl (hb hby d913_65) rfl k) ?_
    obtain ⟨cl244, Ar244, qa244, S244, M244, H244, U244⟩ := id (V_p.ext O232.2)
    have hi244 := inb_of S244 (j := sh) (own_shin hsh)
    have hat244 := H244.at hi244 (v := (.long (own_p10 sh))) (own_pwat hsh)
    refine own_s T243 (mkF m 67 #[rv ob, iv ts, iv sh, rv ad185, iv 3] [.long (own_p10 sh), .long v3, .int 3, .ref ad185]) (fun t k => X243.laload hx (j := sh) (v := (.long (own_p10 sh))) (by rw [e243]; exact Ar244.1) (State.isArrayOf_alike hZ.alike Ar244.2.1) Ar244.2.2 hi244 hat244 (g := (mkF m 66 #[rv ob, iv ts, iv sh, rv ad185, iv 3] [.int sh, .ref pw, .long v3, .int 3, .ref ad185])) rfl rfl (hb hby d913_66) t k) ?_
    obtain ⟨_, _, ⟨T247, L247, k247, n247⟩, -, X247, ⟨Lc247, hQ247, lq247, yq247, zq247⟩, st247⟩ := Jvm.LawKit.callS X243 hx (y := (⟨"java/lang/Math", "multiplyExact", "(JJ)J"⟩ : MethodName)) hown (mvT hZ (hW 45 _ rfl)) (mvT hZ (hW 46 _ rfl)) (mvT hZ (hW 33 _ rfl)) (mvT hZ (hW 47 _ rfl)) (by decide) (backOf (W := 2) (rm_mul l Z a0 hw [] v3 (own_p10 sh) h232 n0 Z232 hv3 (own_p10sm hsh)) hZ (hW 47 _ rfl) (hW 33 _ rfl) (by decide) (by decide)) (g := (mkF m 67 #[rv ob, iv ts, iv sh, rv ad185, iv 3] [.long (own_p10 sh), .long v3, .int 3, .ref ad185])) rfl (by rw [hml]; rfl) (argsL := [(.long v3), (.long (own_p10 sh))]) (rest := [(.int (3 : Int32)), (.ref ad185)]) (lenOf pd_1 rfl) rfl (by show 2 * 0 + _ ≤ _; exact Nat.le_of_eq rfl) (hb hby d913_67) (fun _ _ => ⟨rfl, e243, (by decide : 1 + 0 ≤ _), (by decide : 4 + 0 ≤ _)⟩)
    dsimp only [Pt.U, Pt.locs, Pt.cells, Pt.slots] at X247 lq247 yq247 zq247 st247 hQ247
    subst lq247 yq247 zq247
    obtain ⟨rfl, Nq247, eq246⟩ := hQ247
    have N247 := Fr.app N232 Nq247
    refine own_s T247 (mkF m 70 #[rv ob, iv ts, iv sh, rv ad185, iv 3] [.long (v3 * (own_p10 sh)), .int 3, .ref ad185]) st247 ?_
    obtain ⟨cl248, Ar248, qa248, S248, M248, H248, U248⟩ := id g237
    obtain ⟨T248, h248, X248, e248, W248, st248⟩ := stJ X247 hx hZ eq246 Ar248 (j := (3 : Int32)) (inb_of S248 ⟨by decide, by decide⟩) (g := (mkF m 70 #[rv ob, iv ts, iv sh, rv ad185, iv 3] [.long (v3 * (own_p10 sh)), .int 3, .ref ad185])) rfl rfl (hb hby d913_70)
    have g249 : Exa Z h248 ob "com/example/viewlattice/viewlattice/engine/DecimalSums" := g233.wr W248
    have g250 : Fld Z h248 ob "com/example/viewlattice/viewlattice/engine/DecimalSums" "scale" "I" (.int S) := g234.other W248 (Or.inl ne185_1)
    have g251 : Fld Z h248 ob "com/example/viewlattice/viewlattice/engine/DecimalSums" "small" "[J" (.ref ar) := g235.other W248 (Or.inl ne185_1)
    have g252 : Arv Z h248 ar kr .long (4 : Int32) [(.long v0), (.long v1), (.long v2), (.long v3)] (.long (0 : Int64)) := g236.other W248 ne185_2
    have g253 : Arv Z h248 ad185 k185 .long (4 : Int32) [(.long (v0 * (own_p10 sh))), (.long (v1 * (own_p10 sh))), (.long (v2 * (own_p10 sh))), (.long (v3 * (own_p10 sh)))] (.long (0 : Int64)) := Arv.set Ar248 qa248 S248 M248 H248 U248 rfl W248 3 rfl (Nat.le_of_ble_eq_true rfl)
    have K254 : Keep h0 h248 [ob] := K238.wr W248 (Or.inr f185)
    have N248 := Fr.snoc X248 N247 o185
    have Z248 : n0 ≤ h248.size := (Nat.le_trans Z232 (Nat.le_of_eq W248.size.symm))
    have O248 : Old Z n0 h248 := O232.wr W248 o185
    refine own_s T248 (mkF m 71 #[rv ob, iv ts, iv sh, rv ad185, iv 3] []) st248 ?_
    refine own_s T248 (mkF m 74 #[rv ob, iv ts, iv sh, rv ad185, iv 4] []) (fun t k => XS.iinc X248.here hx rfl (hb hby d913_71) rfl (l' := #[rv ob, iv ts, iv sh, rv ad185, iv 4]) rfl k) ?_
    refine own_s T248 (mkF m 42 #[rv ob, iv ts, iv sh, rv ad185, iv 4] []) (fun t k => XS.goto X248.here hx rfl (pc0 := 74) (pc' := 42) rfl (hb hby d913_74) (by decide) (by decide) k) ?_
    refine own_s T248 (mkF m 44 #[rv ob, iv ts, iv sh, rv ad185, iv 4] [.int 4]) (fun t k => XS.iload X248.here hx rfl (hb hby d913_42) rfl k) ?_
    refine own_s T248 (mkF m 45 #[rv ob, iv ts, iv sh, rv ad185, iv 4] [.ref ob, .int 4]) (fun t k => XS.aloadN X248.here hx rfl (hb hby d913_44) rfl rfl k) ?_
    obtain ⟨T255, X255, e255, st255⟩ := getF X248 hx hZ hown (host := "") (Or.inl (hW 12 _ rfl)) Via.refl e248 g251 (g := (mkF m 45 #[rv ob, iv ts, iv sh, rv ad185, iv 4] [.ref ob, .int 4])) rfl rfl (hb hby d913_45)
    refine own_s T255 (mkF m 48 #[rv ob, iv ts, iv sh, rv ad185, iv 4] [.ref ar, .int 4]) st255 ?_
    obtain ⟨cl256, Ar256, qa256, S256, M256, H256, U256⟩ := id g252
    have ln256 := len_of S256 M256
    refine own_s T255 (mkF m 49 #[rv ob, iv ts, iv sh, rv ad185, iv 4] [.int 4, .int 4]) (fun t k => X255.arraylength hx (cell := cl256) (by rw [e255]; exact Ar256.1) (State.isArrayOf_alike hZ.alike Ar256.2.1) (g := (mkF m 48 #[rv ob, iv ts, iv sh, rv ad185, iv 4] [.ref ar, .int 4])) rfl rfl (hb hby d913_48) t (by rw [ln256]; exact k)) ?_
    refine own_s T255 (mkF m 77 #[rv ob, iv ts, iv sh, rv ad185, iv 4] []) (fun t k => XS.icmpYes X255.here hx rfl (pc0 := 49) (pc' := 77) rfl (hb hby d913_49) rfl (flt (by decide : ¬ ((4 : Int32) < (4 : Int32)))).2.1 (by decide) (by decide) k) ?_
    refine own_s T255 (mkF m 78 #[rv ob, iv ts, iv sh, rv ad185, iv 4] [.ref ob]) (fun t k => XS.aloadN X255.here hx rfl (hb hby d913_77) rfl rfl k) ?_
    refine own_s T255 (mkF m 79 #[rv ob, iv ts, iv sh, rv ad185, iv 4] [.ref ad185, .ref ob]) (fun t k => XS.aloadN X255.here hx rfl (hb hby d913_78) rfl rfl k) ?_
    obtain ⟨T257, h257, X257, e257, W257, st257⟩ := putF X255 hx hZ hown (host := "") (Or.inl (hW 12 _ rfl)) Via.refl e255 g251 g249 (Or.inl (hW 13 _ rfl)) (hW 3 _ rfl) (ty := .array .long) (by decide) rfl rfl (g := (mkF m 79 #[rv ob, iv ts, iv sh, rv ad185, iv 4] [.ref ad185, .ref ob])) rfl rfl (hb hby d913_79)
    have g258 : Exa Z h257 ob "com/example/viewlattice/viewlattice/engine/DecimalSums" := g249.wr W257
    have g259 : Fld Z h257 ob "com/example/viewlattice/viewlattice/engine/DecimalSums" "scale" "I" (.int S) := g250.other W257 (Or.inr (slot_ne (Or.inl (hW 15 _ rfl)) (Or.inl (hW 13 _ rfl)) (by decide) (t := .int) (t' := .array .long) (by decide) (by decide)))
    have g260 : Fld Z h257 ob "com/example/viewlattice/viewlattice/engine/DecimalSums" "small" "[J" (.ref ad185) := g251.same W257
    have g261 : Arv Z h257 ar kr .long (4 : Int32) [(.long v0), (.long v1), (.long v2), (.long v3)] (.long (0 : Int64)) := g252.other W257 (Ne.symm F_0.2.2.2.2.1)
    have g262 : Arv Z h257 ad185 k185 .long (4 : Int32) [(.long (v0 * (own_p10 sh))), (.long (v1 * (own_p10 sh))), (.long (v2 * (own_p10 sh))), (.long (v3 * (own_p10 sh)))] (.long (0 : Int64)) := g253.other W257 (Ne.symm ne185_1)
    have K263 : Keep h0 h257 [ob] := K254.wr W257 (Or.inl (List.mem_of_getElem? (i := 0) rfl))
    have N257 := Fr.snoc X257 N248 F_0.2.2.2.2.2.1
    have Z257 : n0 ≤ h257.size := (Nat.le_trans Z248 (Nat.le_of_eq W257.size.symm))
    have O257 : Old Z n0 h257 := O248.wr W257 F_0.2.2.2.2.2.1
    refine own_s T257 (mkF m 82 #[rv ob, iv ts, iv sh, rv ad185, iv 4] []) st257 ?_
    refine own_s T257 (mkF m 83 #[rv ob, iv ts, iv sh, rv ad185, iv 4] [.ref ob]) (fun t k => XS.aloadN X257.here hx rfl (hb hby d913_82) rfl rfl k) ?_
    refine own_s T257 (mkF m 84 #[rv ob, iv ts, iv sh, rv ad185, iv 4] [.int ts, .ref ob]) (fun t k => XS.iloadN X257.here hx rfl (hb hby d913_83) rfl k) ?_
    obtain ⟨T264, h264, X264, e264, W264, st264⟩ := putF X257 hx hZ hown (host := "") (Or.inl (hW 14 _ rfl)) Via.refl e257 g259 g258 (Or.inl (hW 15 _ rfl)) (hW 3 _ rfl) (ty := .int) (by decide) rfl rfl (g := (mkF m 84 #[rv ob, iv ts, iv sh, rv ad185, iv 4] [.int ts, .ref ob])) rfl rfl (hb hby d913_84)
    have g265 : Exa Z h264 ob "com/example/viewlattice/viewlattice/engine/DecimalSums" := g258.wr W264
    have g266 : Fld Z h264 ob "com/example/viewlattice/viewlattice/engine/DecimalSums" "scale" "I" (.int ts) := g259.same W264
    have g267 : Fld Z h264 ob "com/example/viewlattice/viewlattice/engine/DecimalSums" "small" "[J" (.ref ad185) := g260.other W264 (Or.inr (slot_ne (Or.inl (hW 13 _ rfl)) (Or.inl (hW 15 _ rfl)) (by decide) (t := .array .long) (t' := .int) (by decide) (by decide)))
    have g268 : Arv Z h264 ar kr .long (4 : Int32) [(.long v0), (.long v1), (.long v2), (.long v3)] (.long (0 : Int64)) := g261.other W264 (Ne.symm F_0.2.2.2.2.1)
    have g269 : Arv Z h264 ad185 k185 .long (4 : Int32) [(.long (v0 * (own_p10 sh))), (.long (v1 * (own_p10 sh))), (.long (v2 * (own_p10 sh))), (.long (v3 * (own_p10 sh)))] (.long (0 : Int64)) := g262.other W264 (Ne.symm ne185_1)
    have K270 : Keep h0 h264 [ob] := K263.wr W264 (Or.inl (List.mem_of_getElem? (i := 0) rfl))
    have N264 := Fr.snoc X264 N257 F_0.2.2.2.2.2.1
    have Z264 : n0 ≤ h264.size := (Nat.le_trans Z257 (Nat.le_of_eq W264.size.symm))
    have O264 : Old Z n0 h264 := O257.wr W264 F_0.2.2.2.2.2.1
    refine own_s T264 (mkF m 87 #[rv ob, iv ts, iv sh, rv ad185, iv 4] []) st264 ?_
    refine own_rV X264 hx hlk Bd.returns (hb hby d913_87) ?_ (by decide) (by decide)
    rw [e264]
    exact ⟨ad185, k185, rfl, N264, K270, f185, ne185_1, (by rw [hd_sh]; exact ⟨g265, g266, g267, g269, ne185_1, F_0.2.2.2.2.2.1, o185⟩)⟩
def own_bd (x : Int64) : Prop := -4611686018427387904 ≤ x.toInt ∧ x.toInt < 4611686018427387904
theorem own_smbd {x : Int64} (h : own_sm x) : own_bd x := ⟨by have := h.1; omega, by have := h.2; omega⟩
theorem own_mulb {x : Int64} {s : Int32} (h : own_sm x) (k : own_sh s) : own_bd (x * own_p10 s) := by
  obtain ⟨h1, h2⟩ := h
  have e : (own_p10 s).toInt = 1 ∨ (own_p10 s).toInt = 10 ∨ (own_p10 s).toInt = 100 ∨ (own_p10 s).toInt = 1000 := by rcases k with rfl | rfl | rfl | rfl <;> decide
  have m : (x * own_p10 s).toInt = x.toInt * (own_p10 s).toInt := Jvm.Kit.i64_mul (by rcases e with e | e | e | e <;> rw [e] <;> omega) (by rcases e with e | e | e | e <;> rw [e] <;> omega)
  unfold own_bd
  rw [m]
  rcases e with e | e | e | e <;> rw [e] <;> omega
theorem own_selb {g : Int32} {a b c d : Int64} (h0 : own_bd a) (h1 : own_bd b) (h2 : own_bd c) (h3 : own_bd d) : own_bd (own_sel g a b c d) := by
  unfold own_sel
  split
  · exact h0
  · split
    · exact h1
    · split
      · exact h2
      · exact h3

def Q_au (Z : State) (ob : Addr) (ar : Addr) (kr : ClassId) (cap : Int32) (S : Int32) (v0 : Int64) (v1 : Int64) (v2 : Int64) (v3 : Int64) (g : Int32) (uu : Int64) (ts : Int32) (pw : Addr) (kp : ClassId) (h0 : Heap) (n0 : Nat) (v : Option Value) (h : Heap) (L : List Loc) : Prop := ∃ (b : Addr) (kb : ClassId), v = none ∧ Fr n0 L ∧ Keep h0 h [ob, ar] ∧ own_St Z n0 h ob b kb cap (own_mx S ts) (own_upd g (0 : Int32) (v0 * own_f S ts) (uu * own_p10 (own_mx S ts - ts))) (own_upd g (1 : Int32) (v1 * own_f S ts) (uu * own_p10 (own_mx S ts - ts))) (own_upd g (2 : Int32) (v2 * own_f S ts) (uu * own_p10 (own_mx S ts - ts))) (own_upd g (3 : Int32) (v3 * own_f S ts) (uu * own_p10 (own_mx S ts - ts))) ∧ (b = ar ∨ h0.size ≤ b)
theorem ef_rm_au (m : MethodId) (x0 : Addr) (x1 : Int32) (x2 : Int64) (x3 : Int32) : entryFrame m #[(.ref x0), (.int x1), (.long x2), (.int x3)] 8 = mkF m 0 #[.val (.ref x0), .val (.int x1), .val (.long x2), .second, .val (.int x3), .unset, .unset, .unset] [] := by first | (simp [entryFrame, mkF, argsToLocals, Value.category]; done) | rfl | (simp [entryFrame, mkF, argsToLocals, Value.category] <;> rfl)
theorem d912_0 : decode prog_40_method_14_code 0 = .ok (.aload_n 0, 1) := by decide +kernel
theorem d912_1 : decode prog_40_method_14_code 1 = .ok (.iload 4, 2) := by decide +kernel
theorem pd_2 : parseMethodDescriptor "(I)V" = some ⟨[.int], none⟩ := by decide +kernel
theorem d912_3 : decode prog_40_method_14_code 3 = .ok (.invokevirtual 119, 3) := by decide +kernel
theorem d912_6 : decode prog_40_method_14_code 6 = .ok (.aload_n 0, 1) := by decide +kernel
theorem d912_7 : decode prog_40_method_14_code 7 = .ok (.getfield 13, 3) := by decide +kernel
theorem d912_10 : decode prog_40_method_14_code 10 = .ok (.iload 4, 2) := by decide +kernel
theorem d912_12 : decode prog_40_method_14_code 12 = .ok (.isub, 1) := by decide +kernel
theorem d912_13 : decode prog_40_method_14_code 13 = .ok (.istore 5, 2) := by decide +kernel
theorem d912_15 : decode prog_40_method_14_code 15 = .ok (.aload_n 0, 1) := by decide +kernel
theorem d912_16 : decode prog_40_method_14_code 16 = .ok (.getfield 7, 3) := by decide +kernel
theorem d912_19 : decode prog_40_method_14_code 19 = .ok (.ifnull 48, 3) := by decide +kernel
theorem d912_22 : decode prog_40_method_14_code 22 = .ok (.iload 5, 2) := by decide +kernel
theorem d912_24 : decode prog_40_method_14_code 24 = .ok (.getstatic 123, 3) := by decide +kernel
theorem d912_27 : decode prog_40_method_14_code 27 = .ok (.arraylength, 1) := by decide +kernel
theorem d912_28 : decode prog_40_method_14_code 28 = .ok (.if_icmp .ge 39, 3) := by decide +kernel
theorem d912_31 : decode prog_40_method_14_code 31 = .ok (.lload_n 2, 1) := by decide +kernel
theorem d912_32 : decode prog_40_method_14_code 32 = .ok (.getstatic 123, 3) := by decide +kernel
theorem d912_35 : decode prog_40_method_14_code 35 = .ok (.iload 5, 2) := by decide +kernel
theorem d912_37 : decode prog_40_method_14_code 37 = .ok (.laload, 1) := by decide +kernel
theorem d912_38 : decode prog_40_method_14_code 38 = .ok (.invokestatic 126, 3) := by decide +kernel
theorem d912_41 : decode prog_40_method_14_code 41 = .ok (.lstore 6, 2) := by decide +kernel
theorem d912_43 : decode prog_40_method_14_code 43 = .ok (.aload_n 0, 1) := by decide +kernel
theorem d912_44 : decode prog_40_method_14_code 44 = .ok (.getfield 7, 3) := by decide +kernel
theorem d912_47 : decode prog_40_method_14_code 47 = .ok (.iload_n 1, 1) := by decide +kernel
theorem d912_48 : decode prog_40_method_14_code 48 = .ok (.aload_n 0, 1) := by decide +kernel
theorem d912_49 : decode prog_40_method_14_code 49 = .ok (.getfield 7, 3) := by decide +kernel
theorem d912_52 : decode prog_40_method_14_code 52 = .ok (.iload_n 1, 1) := by decide +kernel
theorem d912_53 : decode prog_40_method_14_code 53 = .ok (.laload, 1) := by decide +kernel
theorem d912_54 : decode prog_40_method_14_code 54 = .ok (.lload 6, 2) := by decide +kernel
theorem d912_56 : decode prog_40_method_14_code 56 = .ok (.invokestatic 99, 3) := by decide +kernel
theorem d912_59 : decode prog_40_method_14_code 59 = .ok (.lastore, 1) := by decide +kernel
theorem d912_60 : decode prog_40_method_14_code 60 = .ok (.return_, 1) := by decide +kernel
set_option maxRecDepth 65536 in
set_option maxHeartbeats 40000000 in
theorem rm_au (l : Launch) (Z : State) (a0 : Array Value) (hw : ∀ d ∈ tables_1, d.before a0 Z = true) (ws : List Jvm.Cond) (ob : Addr) (ar : Addr) (kr : ClassId) (cap : Int32) (S : Int32) (v0 : Int64) (v1 : Int64) (v2 : Int64) (v3 : Int64) (g : Int32) (uu : Int64) (ts : Int32) (pw : Addr) (kp : ClassId) (h0 : Heap) (n0 : Nat) (Z0 : n0 ≤ h0.size) (F_0 : own_St Z n0 h0 ob ar kr cap S v0 v1 v2 v3) (O0 : Old Z n0 h0) (hcap : own_cap cap) (hg : own_in g cap) (hsh1 : S < ts → (ts - S = 1 ∨ ts - S = 2)) (hsh2 : ¬ S < ts → own_sh (S - ts)) (hu : own_sm uu) (hv0 : own_sm v0) (hv1 : own_sm v1) (hv2 : own_sm v2) (hv3 : own_sm v3) (S_p : Sta Z Z.heap "com/example/viewlattice/viewlattice/engine/DecimalSums" "POWERS_OF_TEN" "[J" (.ref pw)) (V_p : Arv Z Z.heap pw kp .long (19 : Int32) own_pw (.long (0 : Int64))) :
    MetFree l (⟨"com/example/viewlattice/viewlattice/engine/DecimalSums", "addUnscaled", "(IJI)V"⟩ : MethodName) (head1 (Jvm.Cond.codeWith (⟨"com/example/viewlattice/viewlattice/engine/DecimalSums", "addUnscaled", "(IJI)V"⟩ : MethodName) prog_40_method_14_code 8 none [(31, 60, 61, 103)] :: ws) ({ frames := 3, cells := 1, slots := 4, locals := 52 } : Room)) (fun a U => a = #[(.ref ob), (.int g), (.long uu), (.int ts)] ∧ Z.Warmed39 U.vm ∧ U.heap = h0) (fun _ _ _ _ _ => True) (fun _ U o U' => ∃ v L, o = .returned v ∧ (Q_au Z ob ar kr cap S v0 v1 v2 v3 g uu ts pw kp h0 n0) v U'.heap L ∧ FrameEnd U o U' L ({ frames := 3, cells := 1, slots := 4, locals := 52 } : Room).cells ({ frames := 3, cells := 1, slots := 4, locals := 52 } : Room).slots) := by
  refine MetFree.of_bodySF (plainFor_of_name pn_1) hisWith ?_
  intro p e s m args below meth c s₁ Bd hml0 hP hK
  obtain ⟨rfl, hZ, hh⟩ := hP
  have hx := Bd.exec
  have hby := Bd.bytes
  have hW := fun i d (h : tables_1[i]? = some d) => hw d (List.mem_of_getElem? h)
  have hlk : meth.locks = false := BodyLoose.notSynchronized Bd
  have hml : c.maxLocals = 8 := hml0
  have hown : s.vm.findClass "com/example/viewlattice/viewlattice/engine/DecimalSums" = some m.cls := findClass_of_methodNamed Bd.named
  have hnm := (name_of_methodNamed Bd.named Bd.method).1
  have X0 : Stand p l e ({ frames := 3, cells := 1, slots := 4, locals := 52 } : Room) s m #[(.ref ob), (.int g), (.long uu), (.int ts)] below meth c s₁ [] 0 0 := Stand.of_body Bd
  have e0 : s₁.heap = h0 := by rw [← hh, Bd.state]; rfl
  have N0 := Fr.nil n0
  show own_Go p e below s (Q_au Z ob ar kr cap S v0 v1 v2 v3 g uu ts pw kp h0 n0) ({ frames := 3, cells := 1, slots := 4, locals := 52 } : Room).cells ({ frames := 3, cells := 1, slots := 4, locals := 52 } : Room).slots s₁ (entryFrame m #[(.ref ob), (.int g), (.long uu), (.int ts)] 8)
  refine own_cast (g' := (mkF m 0 #[rv ob, iv g, own_j uu, s_, iv ts, u_, u_, u_] [])) (ef_rm_au m ob g uu ts) ?_
  have K0 : Keep h0 h0 [ob, ar] := Keep.refl _ _
  refine own_s s₁ (mkF m 1 #[rv ob, iv g, own_j uu, s_, iv ts, u_, u_, u_] [.ref ob]) (fun t k => XS.aloadN X0.here hx rfl (hb hby d912_0) rfl rfl k) ?_
  refine own_s s₁ (mkF m 3 #[rv ob, iv g, own_j uu, s_, iv ts, u_, u_, u_] [.int ts, .ref ob]) (fun t k => XS.iload X0.here hx rfl (hb hby d912_1) rfl k) ?_
  by_cases c_lt : S < ts
  · obtain ⟨cq5, q5a, q5b⟩ := F_0.1.cell
    obtain ⟨_, _, ⟨T4, L4, k4, n4⟩, -, X4, ⟨Lc4, hQ4, lq4, yq4, zq4⟩, st4⟩ := own_privH X0 hx (y := (⟨"com/example/viewlattice/viewlattice/engine/DecimalSums", "raiseScale", "(I)V"⟩ : MethodName)) hown (mvT hZ (hW 39 _ rfl)) (mvT hZ (hW 40 _ rfl)) (mvT hZ (hW 3 _ rfl)) (Cond.privateMethod_at (args := #[]) (mvP hZ (hW 41 _ rfl))) (mvT hZ (hW 42 _ rfl)) (by decide) (backOfWith (W := 0) (rm_rsy l Z a0 hw [] ob ar kr cap S v0 v1 v2 v3 ts pw kp h0 n0 Z0 F_0 O0 c_lt (hsh1 c_lt) hcap S_p V_p hv0 hv1 hv2 hv3) hZ (hW 42 _ rfl) (hW 4 _ rfl) (by decide) (by decide)) (g := (mkF m 3 #[rv ob, iv g, own_j uu, s_, iv ts, u_, u_, u_] [.int ts, .ref ob])) rfl (by rw [hml]; rfl) (Steps.refl _) (a := ob) (cell := cq5) (by rw [e0]; exact q5a) q5b (argsL := [(.int ts)]) (rest := []) (lenOf pd_2 rfl) rfl (by show 2 * 0 + _ ≤ _; exact Nat.le_of_eq rfl) (hb hby d912_3) (fun _ _ => ⟨rfl, e0, (by decide : 0 + 1 ≤ _), (by decide : 0 + 4 ≤ _)⟩)
    dsimp only [Pt.U, Pt.locs, Pt.cells, Pt.slots] at X4 lq4 yq4 zq4 st4 hQ4
    subst lq4 yq4 zq4
    obtain ⟨b_1, kb_1, rfl, Nq4, K2, fz_b_1, nz_ob_b_1, g3⟩ := hQ4
    have N4 := Fr.app N0 Nq4
    have oz_b_1 : n0 ≤ b_1 := Nat.le_trans Z0 fz_b_1
    have nz_ob_b_1 : ob ≠ b_1 := Nat.ne_of_lt (Nat.lt_of_lt_of_le F_0.1.lt fz_b_1)
    have nz_ar_b_1 : ar ≠ b_1 := Nat.ne_of_lt (Nat.lt_of_lt_of_le F_0.2.2.2.1.lt fz_b_1)
    have fr_b_1 : h0.size ≤ b_1 := Nat.le_trans K0.1 fz_b_1
    have Z2 : n0 ≤ T4.heap.size := (Nat.le_trans Z0 K2.1)
    have O2 : Old Z n0 T4.heap := O0.keep K2 (allS (P := fun x => n0 ≤ x) F_0.2.2.2.2.2.1 all0)
    have K6 : Keep h0 T4.heap [ob, ar] := K0.trans K2 (allS (P := fun x => x ∈ [ob, ar] ∨ h0.size ≤ x) (Or.inl (List.mem_of_getElem? (i := 0) rfl)) all0)
    refine own_tr (T' := T4) (g' := (mkF m 6 #[rv ob, iv g, own_j uu, s_, iv ts, u_, u_, u_] [])) st4 ?_
    have hmx : own_mx S ts = ts := if_pos c_lt
    have hf : own_f S ts = own_p10 (ts - S) := if_pos c_lt
    refine own_s T4 (mkF m 7 #[rv ob, iv g, own_j uu, s_, iv ts, u_, u_, u_] [.ref ob]) (fun t k => XS.aloadN X4.here hx rfl (hb hby d912_6) rfl rfl k) ?_
    obtain ⟨T7, X7, e7, st7⟩ := getF X4 hx hZ hown (host := "") (Or.inl (hW 14 _ rfl)) Via.refl rfl g3.2.1 (g := (mkF m 7 #[rv ob, iv g, own_j uu, s_, iv ts, u_, u_, u_] [.ref ob])) rfl rfl (hb hby d912_7)
    refine own_s T7 (mkF m 10 #[rv ob, iv g, own_j uu, s_, iv ts, u_, u_, u_] [.int ts]) st7 ?_
    refine own_s T7 (mkF m 12 #[rv ob, iv g, own_j uu, s_, iv ts, u_, u_, u_] [.int ts, .int ts]) (fun t k => XS.iload X7.here hx rfl (hb hby d912_10) rfl k) ?_
    refine own_s T7 (mkF m 13 #[rv ob, iv g, own_j uu, s_, iv ts, u_, u_, u_] [.int (ts - ts)]) (fun t k => XS.isub X7.here hx rfl (hb hby d912_12) rfl k) ?_
    generalize hd_sh : (ts - ts) = sh
    refine own_s T7 (mkF m 15 #[rv ob, iv g, own_j uu, s_, iv ts, iv sh, u_, u_] []) (fun t k => XS.istore X7.here hx rfl (hb hby d912_13) rfl (l' := #[rv ob, iv g, own_j uu, s_, iv ts, iv sh, u_, u_]) rfl k) ?_
    have hsh : own_sh sh := by rw [← hd_sh]; exact (by rw [Int32.sub_self]; exact Or.inl rfl)
    refine own_s T7 (mkF m 16 #[rv ob, iv g, own_j uu, s_, iv ts, iv sh, u_, u_] [.ref ob]) (fun t k => XS.aloadN X7.here hx rfl (hb hby d912_15) rfl rfl k) ?_
    obtain ⟨T8, X8, e8, st8⟩ := getF X7 hx hZ hown (host := "") (Or.inl (hW 12 _ rfl)) Via.refl e7 g3.2.2.1 (g := (mkF m 16 #[rv ob, iv g, own_j uu, s_, iv ts, iv sh, u_, u_] [.ref ob])) rfl rfl (hb hby d912_16)
    refine own_s T8 (mkF m 19 #[rv ob, iv g, own_j uu, s_, iv ts, iv sh, u_, u_] [.ref b_1]) st8 ?_
    refine own_s T8 (mkF m 22 #[rv ob, iv g, own_j uu, s_, iv ts, iv sh, u_, u_] []) (fun t k => XS.ifnullNo X8.here hx rfl (hb hby d912_19) rfl k) ?_
    refine own_s T8 (mkF m 24 #[rv ob, iv g, own_j uu, s_, iv ts, iv sh, u_, u_] [.int sh]) (fun t k => XS.iload X8.here hx rfl (hb hby d912_22) rfl k) ?_
    obtain ⟨T9, X9, e9, st9⟩ := getS2 X8 hx hZ hown (host := "") (Or.inl (hW 43 _ rfl)) Via.refl e8 (S_p.ext O2.2) (g := (mkF m 24 #[rv ob, iv g, own_j uu, s_, iv ts, iv sh, u_, u_] [.int sh])) rfl (hb hby d912_24)
    refine own_s T9 (mkF m 27 #[rv ob, iv g, own_j uu, s_, iv ts, iv sh, u_, u_] [.ref pw, .int sh]) st9 ?_
    obtain ⟨cl10, Ar10, qa10, S10, M10, H10, U10⟩ := id (V_p.ext O2.2)
    have ln10 := len_of S10 M10
    refine own_s T9 (mkF m 28 #[rv ob, iv g, own_j uu, s_, iv ts, iv sh, u_, u_] [.int 19, .int sh]) (fun t k => X9.arraylength hx (cell := cl10) (by rw [e9]; exact Ar10.1) (State.isArrayOf_alike hZ.alike Ar10.2.1) (g := (mkF m 27 #[rv ob, iv g, own_j uu, s_, iv ts, iv sh, u_, u_] [.ref pw, .int sh])) rfl rfl (hb hby d912_27) t (by rw [ln10]; exact k)) ?_
    refine own_s T9 (mkF m 31 #[rv ob, iv g, own_j uu, s_, iv ts, iv sh, u_, u_] []) (fun t k => XS.icmpNo X9.here hx rfl (hb hby d912_28) rfl (tlt (own_sh19 hsh)).2.1 k) ?_
    refine own_s T9 (mkF m 32 #[rv ob, iv g, own_j uu, s_, iv ts, iv sh, u_, u_] [.long uu]) (fun t k => XS.lloadN X9.here hx rfl (hb hby d912_31) rfl k) ?_
    obtain ⟨T11, X11, e11, st11⟩ := getS2 X9 hx hZ hown (host := "") (Or.inl (hW 43 _ rfl)) Via.refl e9 (S_p.ext O2.2) (g := (mkF m 32 #[rv ob, iv g, own_j uu, s_, iv ts, iv sh, u_, u_] [.long uu])) rfl (hb hby d912_32)
    refine own_s T11 (mkF m 35 #[rv ob, iv g, own_j uu, s_, iv ts, iv sh, u_, u_] [.ref pw, .long uu]) st11 ?_
    refine own_s T11 (mkF m 37 #[rv ob, iv g, own_j uu, s_, iv ts, iv sh, u_, u_] [.int sh, .ref pw, .long uu]) (fun t k => XS.iload X11.here hx rfl (hb hby d912_35) rfl k) ?_
    obtain ⟨cl12, Ar12, qa12, S12, M12, H12, U12⟩ := id (V_p.ext O2.2)
    have hi12 := inb_of S12 (j := sh) (own_shin hsh)
    have hat12 := H12.at hi12 (v := (.long (own_p10 sh))) (own_pwat hsh)
    refine own_s T11 (mkF m 38 #[rv ob, iv g, own_j uu, s_, iv ts, iv sh, u_, u_] [.long (own_p10 sh), .long uu]) (fun t k => X11.laload hx (j := sh) (v := (.long (own_p10 sh))) (by rw [e11]; exact Ar12.1) (State.isArrayOf_alike hZ.alike Ar12.2.1) Ar12.2.2 hi12 hat12 (g := (mkF m 37 #[rv ob, iv g, own_j uu, s_, iv ts, iv sh, u_, u_] [.int sh, .ref pw, .long uu])) rfl rfl (hb hby d912_37) t k) ?_
    obtain ⟨_, _, ⟨T15, L15, k15, n15⟩, -, X15, ⟨Lc15, hQ15, lq15, yq15, zq15⟩, st15⟩ := Jvm.LawKit.callS X11 hx (y := (⟨"java/lang/Math", "multiplyExact", "(JJ)J"⟩ : MethodName)) hown (mvT hZ (hW 45 _ rfl)) (mvT hZ (hW 46 _ rfl)) (mvT hZ (hW 33 _ rfl)) (mvT hZ (hW 47 _ rfl)) (by decide) (backOf (W := 0) (rm_mul l Z a0 hw [] uu (own_p10 sh) T4.heap n0 Z2 hu (own_p10sm hsh)) hZ (hW 47 _ rfl) (hW 33 _ rfl) (by decide) (by decide)) (g := (mkF m 38 #[rv ob, iv g, own_j uu, s_, iv ts, iv sh, u_, u_] [.long (own_p10 sh), .long uu])) rfl (by rw [hml]; rfl) (argsL := [(.long uu), (.long (own_p10 sh))]) (rest := []) (lenOf pd_1 rfl) rfl (by show 2 * 0 + _ ≤ _; exact Nat.le_of_eq rfl) (hb hby d912_38) (fun _ _ => ⟨rfl, e11, (by decide : 1 + 0 ≤ _), (by decide : 4 + 0 ≤ _)⟩)
    dsimp only [Pt.U, Pt.locs, Pt.cells, Pt.slots] at X15 lq15 yq15 zq15 st15 hQ15
    subst lq15 yq15 zq15
    obtain ⟨rfl, Nq15, eq14⟩ := hQ15
    have N15 := Fr.app N4 Nq15
    refine own_s T15 (mkF m 41 #[rv ob, iv g, own_j uu, s_, iv ts, iv sh, u_, u_] [.long (uu * (own_p10 sh))]) st15 ?_
    refine own_s T15 (mkF m 43 #[rv ob, iv g, own_j uu, s_, iv ts, iv sh, own_j (uu * (own_p10 sh)), s_] []) (fun t k => XS.lstore X15.here hx rfl (hb hby d912_41) rfl (l' := #[rv ob, iv g, own_j uu, s_, iv ts, iv sh, own_j (uu * (own_p10 sh)), s_]) rfl k) ?_
    refine own_s T15 (mkF m 44 #[rv ob, iv g, own_j uu, s_, iv ts, iv sh, own_j (uu * (own_p10 sh)), s_] [.ref ob]) (fun t k => XS.aloadN X15.here hx rfl (hb hby d912_43) rfl rfl k) ?_
    obtain ⟨T16, X16, e16, st16⟩ := getF X15 hx hZ hown (host := "") (Or.inl (hW 12 _ rfl)) Via.refl eq14 g3.2.2.1 (g := (mkF m 44 #[rv ob, iv g, own_j uu, s_, iv ts, iv sh, own_j (uu * (own_p10 sh)), s_] [.ref ob])) rfl rfl (hb hby d912_44)
    refine own_s T16 (mkF m 47 #[rv ob, iv g, own_j uu, s_, iv ts, iv sh, own_j (uu * (own_p10 sh)), s_] [.ref b_1]) st16 ?_
    refine own_s T16 (mkF m 48 #[rv ob, iv g, own_j uu, s_, iv ts, iv sh, own_j (uu * (own_p10 sh)), s_] [.int g, .ref b_1]) (fun t k => XS.iloadN X16.here hx rfl (hb hby d912_47) rfl k) ?_
    refine own_s T16 (mkF m 49 #[rv ob, iv g, own_j uu, s_, iv ts, iv sh, own_j (uu * (own_p10 sh)), s_] [.ref ob, .int g, .ref b_1]) (fun t k => XS.aloadN X16.here hx rfl (hb hby d912_48) rfl rfl k) ?_
    obtain ⟨T17, X17, e17, st17⟩ := getF X16 hx hZ hown (host := "") (Or.inl (hW 12 _ rfl)) Via.refl e16 g3.2.2.1 (g := (mkF m 49 #[rv ob, iv g, own_j uu, s_, iv ts, iv sh, own_j (uu * (own_p10 sh)), s_] [.ref ob, .int g, .ref b_1])) rfl rfl (hb hby d912_49)
    refine own_s T17 (mkF m 52 #[rv ob, iv g, own_j uu, s_, iv ts, iv sh, own_j (uu * (own_p10 sh)), s_] [.ref b_1, .int g, .ref b_1]) st17 ?_
    refine own_s T17 (mkF m 53 #[rv ob, iv g, own_j uu, s_, iv ts, iv sh, own_j (uu * (own_p10 sh)), s_] [.int g, .ref b_1, .int g, .ref b_1]) (fun t k => XS.iloadN X17.here hx rfl (hb hby d912_52) rfl k) ?_
    obtain ⟨cl18, Ar18, qa18, S18, M18, H18, U18⟩ := id g3.2.2.2.1
    have hi18 := inb_of S18 (j := g) hg
    have hat18 := H18.at hi18 (v := (.long (own_sel g (v0 * own_p10 (ts - S)) (v1 * own_p10 (ts - S)) (v2 * own_p10 (ts - S)) (v3 * own_p10 (ts - S))))) (own_getL hcap hg)
    refine own_s T17 (mkF m 54 #[rv ob, iv g, own_j uu, s_, iv ts, iv sh, own_j (uu * (own_p10 sh)), s_] [.long (own_sel g (v0 * own_p10 (ts - S)) (v1 * own_p10 (ts - S)) (v2 * own_p10 (ts - S)) (v3 * own_p10 (ts - S))), .int g, .ref b_1]) (fun t k => X17.laload hx (j := g) (v := (.long (own_sel g (v0 * own_p10 (ts - S)) (v1 * own_p10 (ts - S)) (v2 * own_p10 (ts - S)) (v3 * own_p10 (ts - S))))) (by rw [e17]; exact Ar18.1) (State.isArrayOf_alike hZ.alike Ar18.2.1) Ar18.2.2 hi18 hat18 (g := (mkF m 53 #[rv ob, iv g, own_j uu, s_, iv ts, iv sh, own_j (uu * (own_p10 sh)), s_] [.int g, .ref b_1, .int g, .ref b_1])) rfl rfl (hb hby d912_53) t k) ?_
    refine own_s T17 (mkF m 56 #[rv ob, iv g, own_j uu, s_, iv ts, iv sh, own_j (uu * (own_p10 sh)), s_] [.long (uu * (own_p10 sh)), .long (own_sel g (v0 * own_p10 (ts - S)) (v1 * own_p10 (ts - S)) (v2 * own_p10 (ts - S)) (v3 * own_p10 (ts - S))), .int g, .ref b_1]) (fun t k => XS.lload X17.here hx rfl (hb hby d912_54) rfl k) ?_
    obtain ⟨_, _, ⟨T21, L21, k21, n21⟩, -, X21, ⟨Lc21, hQ21, lq21, yq21, zq21⟩, st21⟩ := Jvm.LawKit.callS X17 hx (y := (⟨"java/lang/Math", "addExact", "(JJ)J"⟩ : MethodName)) hown (mvT hZ (hW 51 _ rfl)) (mvT hZ (hW 52 _ rfl)) (mvT hZ (hW 33 _ rfl)) (mvT hZ (hW 53 _ rfl)) (by decide) (backOf (W := 2) (rm_adx l Z a0 hw [] (own_sel g (v0 * own_p10 (ts - S)) (v1 * own_p10 (ts - S)) (v2 * own_p10 (ts - S)) (v3 * own_p10 (ts - S))) (uu * (own_p10 sh)) T4.heap n0 Z2 (own_selb (own_mulb hv0 (own_sh12 (hsh1 c_lt))) (own_mulb hv1 (own_sh12 (hsh1 c_lt))) (own_mulb hv2 (own_sh12 (hsh1 c_lt))) (own_mulb hv3 (own_sh12 (hsh1 c_lt)))) (own_mulb hu hsh)) hZ (hW 53 _ rfl) (hW 33 _ rfl) (by decide) (by decide)) (g := (mkF m 56 #[rv ob, iv g, own_j uu, s_, iv ts, iv sh, own_j (uu * (own_p10 sh)), s_] [.long (uu * (own_p10 sh)), .long (own_sel g (v0 * own_p10 (ts - S)) (v1 * own_p10 (ts - S)) (v2 * own_p10 (ts - S)) (v3 * own_p10 (ts - S))), .int g, .ref b_1])) rfl (by rw [hml]; rfl) (argsL := [(.long (own_sel g (v0 * own_p10 (ts - S)) (v1 * own_p10 (ts - S)) (v2 * own_p10 (ts - S)) (v3 * own_p10 (ts - S)))), (.long (uu * (own_p10 sh)))]) (rest := [(.int g), (.ref b_1)]) (lenOf pd_1 rfl) rfl (by show 2 * 0 + _ ≤ _; exact Nat.le_of_eq rfl) (hb hby d912_56) (fun _ _ => ⟨rfl, e17, (by decide : 1 + 0 ≤ _), (by decide : 4 + 0 ≤ _)⟩)
    dsimp only [Pt.U, Pt.locs, Pt.cells, Pt.slots] at X21 lq21 yq21 zq21 st21 hQ21
    subst lq21 yq21 zq21
    obtain ⟨rfl, Nq21, eq20⟩ := hQ21
    have N21 := Fr.app N15 Nq21
    refine own_s T21 (mkF m 59 #[rv ob, iv g, own_j uu, s_, iv ts, iv sh, own_j (uu * (own_p10 sh)), s_] [.long ((own_sel g (v0 * own_p10 (ts - S)) (v1 * own_p10 (ts - S)) (v2 * own_p10 (ts - S)) (v3 * own_p10 (ts - S))) + (uu * (own_p10 sh))), .int g, .ref b_1]) st21 ?_
    obtain ⟨cl22, Ar22, qa22, S22, M22, H22, U22⟩ := id g3.2.2.2.1
    obtain ⟨T22, h22, X22, e22, W22, st22⟩ := stJ X21 hx hZ eq20 Ar22 (j := g) (inb_of S22 hg) (g := (mkF m 59 #[rv ob, iv g, own_j uu, s_, iv ts, iv sh, own_j (uu * (own_p10 sh)), s_] [.long ((own_sel g (v0 * own_p10 (ts - S)) (v1 * own_p10 (ts - S)) (v2 * own_p10 (ts - S)) (v3 * own_p10 (ts - S))) + (uu * (own_p10 sh))), .int g, .ref b_1])) rfl rfl (hb hby d912_59)
    have g23 : Exa Z h22 ob "com/example/viewlattice/viewlattice/engine/DecimalSums" := g3.1.wr W22
    have g24 : Fld Z h22 ob "com/example/viewlattice/viewlattice/engine/DecimalSums" "scale" "I" (.int ts) := g3.2.1.other W22 (Or.inl g3.2.2.2.2.1)
    have g25 : Fld Z h22 ob "com/example/viewlattice/viewlattice/engine/DecimalSums" "small" "[J" (.ref b_1) := g3.2.2.1.other W22 (Or.inl g3.2.2.2.2.1)
    have g26 : Arv Z h22 b_1 kb_1 .long cap (own_L cap (own_upd g (0 : Int32) (v0 * own_p10 (ts - S)) (uu * own_p10 sh)) (own_upd g (1 : Int32) (v1 * own_p10 (ts - S)) (uu * own_p10 sh)) (own_upd g (2 : Int32) (v2 * own_p10 (ts - S)) (uu * own_p10 sh)) (own_upd g (3 : Int32) (v3 * own_p10 (ts - S)) (uu * own_p10 sh))) (.long (0 : Int64)) := (by rw [← own_setL hcap hg]; exact Arv.set Ar22 qa22 S22 M22 H22 U22 rfl W22 _ rfl (own_lenL hcap hg))
    have K27 : Keep h0 h22 [ob, ar] := K6.wr W22 (Or.inr fr_b_1)
    have N22 := Fr.snoc X22 N21 g3.2.2.2.2.2.2
    have Z22 : n0 ≤ h22.size := (Nat.le_trans Z2 (Nat.le_of_eq W22.size.symm))
    have O22 : Old Z n0 h22 := O2.wr W22 g3.2.2.2.2.2.2
    refine own_s T22 (mkF m 60 #[rv ob, iv g, own_j uu, s_, iv ts, iv sh, own_j (uu * (own_p10 sh)), s_] []) st22 ?_
    refine own_rV X22 hx hlk Bd.returns (hb hby d912_60) ?_ (by decide) (by decide)
    rw [e22]
    exact ⟨b_1, kb_1, rfl, N22, K27, (by simp only [hmx, hf, hd_sh]; exact ⟨g23, g24, g25, g26, g3.2.2.2.2.1, g3.2.2.2.2.2.1, g3.2.2.2.2.2.2⟩), Or.inr fr_b_1⟩
  · obtain ⟨cq31, q31a, q31b⟩ := F_0.1.cell
    obtain ⟨_, _, ⟨T30, L30, k30, n30⟩, -, X30, ⟨Lc30, hQ30, lq30, yq30, zq30⟩, st30⟩ := own_privH X0 hx (y := (⟨"com/example/viewlattice/viewlattice/engine/DecimalSums", "raiseScale", "(I)V"⟩ : MethodName)) hown (mvT hZ (hW 39 _ rfl)) (mvT hZ (hW 40 _ rfl)) (mvT hZ (hW 3 _ rfl)) (Cond.privateMethod_at (args := #[]) (mvP hZ (hW 41 _ rfl))) (mvT hZ (hW 42 _ rfl)) (by decide) (backOfWith (W := 0) (rm_rsn l Z a0 hw [] ob ar kr cap S v0 v1 v2 v3 ts h0 n0 Z0 F_0 c_lt) hZ (hW 42 _ rfl) (hW 4 _ rfl) (by decide) (by decide)) (g := (mkF m 3 #[rv ob, iv g, own_j uu, s_, iv ts, u_, u_, u_] [.int ts, .ref ob])) rfl (by rw [hml]; rfl) (Steps.refl _) (a := ob) (cell := cq31) (by rw [e0]; exact q31a) q31b (argsL := [(.int ts)]) (rest := []) (lenOf pd_2 rfl) rfl (by show 2 * 0 + _ ≤ _; exact Nat.le_of_eq rfl) (hb hby d912_3) (fun _ _ => ⟨rfl, e0, (by decide : 0 + 0 ≤ _), (by decide : 0 + 0 ≤ _)⟩)
    dsimp only [Pt.U, Pt.locs, Pt.cells, Pt.slots] at X30 lq30 yq30 zq30 st30 hQ30
    subst lq30 yq30 zq30
    obtain ⟨rfl, Nq30, eq29⟩ := hQ30
    have N30 := Fr.app N0 Nq30
    refine own_tr (T' := T30) (g' := (mkF m 6 #[rv ob, iv g, own_j uu, s_, iv ts, u_, u_, u_] [])) st30 ?_
    have hmx : own_mx S ts = S := if_neg c_lt
    have hf : own_f S ts = 1 := if_neg c_lt
    refine own_s T30 (mkF m 7 #[rv ob, iv g, own_j uu, s_, iv ts, u_, u_, u_] [.ref ob]) (fun t k => XS.aloadN X30.here hx rfl (hb hby d912_6) rfl rfl k) ?_
    obtain ⟨T32, X32, e32, st32⟩ := getF X30 hx hZ hown (host := "") (Or.inl (hW 14 _ rfl)) Via.refl eq29 F_0.2.1 (g := (mkF m 7 #[rv ob, iv g, own_j uu, s_, iv ts, u_, u_, u_] [.ref ob])) rfl rfl (hb hby d912_7)
    refine own_s T32 (mkF m 10 #[rv ob, iv g, own_j uu, s_, iv ts, u_, u_, u_] [.int S]) st32 ?_
    refine own_s T32 (mkF m 12 #[rv ob, iv g, own_j uu, s_, iv ts, u_, u_, u_] [.int ts, .int S]) (fun t k => XS.iload X32.here hx rfl (hb hby d912_10) rfl k) ?_
    refine own_s T32 (mkF m 13 #[rv ob, iv g, own_j uu, s_, iv ts, u_, u_, u_] [.int (S - ts)]) (fun t k => XS.isub X32.here hx rfl (hb hby d912_12) rfl k) ?_
    generalize hd_sh : (S - ts) = sh
    refine own_s T32 (mkF m 15 #[rv ob, iv g, own_j uu, s_, iv ts, iv sh, u_, u_] []) (fun t k => XS.istore X32.here hx rfl (hb hby d912_13) rfl (l' := #[rv ob, iv g, own_j uu, s_, iv ts, iv sh, u_, u_]) rfl k) ?_
    have hsh : own_sh sh := by rw [← hd_sh]; exact (hsh2 c_lt)
    refine own_s T32 (mkF m 16 #[rv ob, iv g, own_j uu, s_, iv ts, iv sh, u_, u_] [.ref ob]) (fun t k => XS.aloadN X32.here hx rfl (hb hby d912_15) rfl rfl k) ?_
    obtain ⟨T33, X33, e33, st33⟩ := getF X32 hx hZ hown (host := "") (Or.inl (hW 12 _ rfl)) Via.refl e32 F_0.2.2.1 (g := (mkF m 16 #[rv ob, iv g, own_j uu, s_, iv ts, iv sh, u_, u_] [.ref ob])) rfl rfl (hb hby d912_16)
    refine own_s T33 (mkF m 19 #[rv ob, iv g, own_j uu, s_, iv ts, iv sh, u_, u_] [.ref ar]) st33 ?_
    refine own_s T33 (mkF m 22 #[rv ob, iv g, own_j uu, s_, iv ts, iv sh, u_, u_] []) (fun t k => XS.ifnullNo X33.here hx rfl (hb hby d912_19) rfl k) ?_
    refine own_s T33 (mkF m 24 #[rv ob, iv g, own_j uu, s_, iv ts, iv sh, u_, u_] [.int sh]) (fun t k => XS.iload X33.here hx rfl (hb hby d912_22) rfl k) ?_
    obtain ⟨T34, X34, e34, st34⟩ := getS2 X33 hx hZ hown (host := "") (Or.inl (hW 43 _ rfl)) Via.refl e33 (S_p.ext O0.2) (g := (mkF m 24 #[rv ob, iv g, own_j uu, s_, iv ts, iv sh, u_, u_] [.int sh])) rfl (hb hby d912_24)
    refine own_s T34 (mkF m 27 #[rv ob, iv g, own_j uu, s_, iv ts, iv sh, u_, u_] [.ref pw, .int sh]) st34 ?_
    obtain ⟨cl35, Ar35, qa35, S35, M35, H35, U35⟩ := id (V_p.ext O0.2)
    have ln35 := len_of S35 M35
    refine own_s T34 (mkF m 28 #[rv ob, iv g, own_j uu, s_, iv ts, iv sh, u_, u_] [.int 19, .int sh]) (fun t k => X34.arraylength hx (cell := cl35) (by rw [e34]; exact Ar35.1) (State.isArrayOf_alike hZ.alike Ar35.2.1) (g := (mkF m 27 #[rv ob, iv g, own_j uu, s_, iv ts, iv sh, u_, u_] [.ref pw, .int sh])) rfl rfl (hb hby d912_27) t (by rw [ln35]; exact k)) ?_
    refine own_s T34 (mkF m 31 #[rv ob, iv g, own_j uu, s_, iv ts, iv sh, u_, u_] []) (fun t k => XS.icmpNo X34.here hx rfl (hb hby d912_28) rfl (tlt (own_sh19 hsh)).2.1 k) ?_
    refine own_s T34 (mkF m 32 #[rv ob, iv g, own_j uu, s_, iv ts, iv sh, u_, u_] [.long uu]) (fun t k => XS.lloadN X34.here hx rfl (hb hby d912_31) rfl k) ?_
    obtain ⟨T36, X36, e36, st36⟩ := getS2 X34 hx hZ hown (host := "") (Or.inl (hW 43 _ rfl)) Via.refl e34 (S_p.ext O0.2) (g := (mkF m 32 #[rv ob, iv g, own_j uu, s_, iv ts, iv sh, u_, u_] [.long uu])) rfl (hb hby d912_32)
    refine own_s T36 (mkF m 35 #[rv ob, iv g, own_j uu, s_, iv ts, iv sh, u_, u_] [.ref pw, .long uu]) st36 ?_
    refine own_s T36 (mkF m 37 #[rv ob, iv g, own_j uu, s_, iv ts, iv sh, u_, u_] [.int sh, .ref pw, .long uu]) (fun t k => XS.iload X36.here hx rfl (hb hby d912_35) rfl k) ?_
    obtain ⟨cl37, Ar37, qa37, S37, M37, H37, U37⟩ := id (V_p.ext O0.2)
    have hi37 := inb_of S37 (j := sh) (own_shin hsh)
    have hat37 := H37.at hi37 (v := (.long (own_p10 sh))) (own_pwat hsh)
    refine own_s T36 (mkF m 38 #[rv ob, iv g, own_j uu, s_, iv ts, iv sh, u_, u_] [.long (own_p10 sh), .long uu]) (fun t k => X36.laload hx (j := sh) (v := (.long (own_p10 sh))) (by rw [e36]; exact Ar37.1) (State.isArrayOf_alike hZ.alike Ar37.2.1) Ar37.2.2 hi37 hat37 (g := (mkF m 37 #[rv ob, iv g, own_j uu, s_, iv ts, iv sh, u_, u_] [.int sh, .ref pw, .long uu])) rfl rfl (hb hby d912_37) t k) ?_
    obtain ⟨_, _, ⟨T40, L40, k40, n40⟩, -, X40, ⟨Lc40, hQ40, lq40, yq40, zq40⟩, st40⟩ := Jvm.LawKit.callS X36 hx (y := (⟨"java/lang/Math", "multiplyExact", "(JJ)J"⟩ : MethodName)) hown (mvT hZ (hW 45 _ rfl)) (mvT hZ (hW 46 _ rfl)) (mvT hZ (hW 33 _ rfl)) (mvT hZ (hW 47 _ rfl)) (by decide) (backOf (W := 0) (rm_mul l Z a0 hw [] uu (own_p10 sh) h0 n0 Z0 hu (own_p10sm hsh)) hZ (hW 47 _ rfl) (hW 33 _ rfl) (by decide) (by decide)) (g := (mkF m 38 #[rv ob, iv g, own_j uu, s_, iv ts, iv sh, u_, u_] [.long (own_p10 sh), .long uu])) rfl (by rw [hml]; rfl) (argsL := [(.long uu), (.long (own_p10 sh))]) (rest := []) (lenOf pd_1 rfl) rfl (by show 2 * 0 + _ ≤ _; exact Nat.le_of_eq rfl) (hb hby d912_38) (fun _ _ => ⟨rfl, e36, (by decide : 0 + 0 ≤ _), (by decide : 0 + 0 ≤ _)⟩)
    dsimp only [Pt.U, Pt.locs, Pt.cells, Pt.slots] at X40 lq40 yq40 zq40 st40 hQ40
    subst lq40 yq40 zq40
    obtain ⟨rfl, Nq40, eq39⟩ := hQ40
    have N40 := Fr.app N30 Nq40
    refine own_s T40 (mkF m 41 #[rv ob, iv g, own_j uu, s_, iv ts, iv sh, u_, u_] [.long (uu * (own_p10 sh))]) st40 ?_
    refine own_s T40 (mkF m 43 #[rv ob, iv g, own_j uu, s_, iv ts, iv sh, own_j (uu * (own_p10 sh)), s_] []) (fun t k => XS.lstore X40.here hx rfl (hb hby d912_41) rfl (l' := #[rv ob, iv g, own_j uu, s_, iv ts, iv sh, own_j (uu * (own_p10 sh)), s_]) rfl k) ?_
    refine own_s T40 (mkF m 44 #[rv ob, iv g, own_j uu, s_, iv ts, iv sh, own_j (uu * (own_p10 sh)), s_] [.ref ob]) (fun t k => XS.aloadN X40.here hx rfl (hb hby d912_43) rfl rfl k) ?_
    obtain ⟨T41, X41, e41, st41⟩ := getF X40 hx hZ hown (host := "") (Or.inl (hW 12 _ rfl)) Via.refl eq39 F_0.2.2.1 (g := (mkF m 44 #[rv ob, iv g, own_j uu, s_, iv ts, iv sh, own_j (uu * (own_p10 sh)), s_] [.ref ob])) rfl rfl (hb hby d912_44)
    refine own_s T41 (mkF m 47 #[rv ob, iv g, own_j uu, s_, iv ts, iv sh, own_j (uu * (own_p10 sh)), s_] [.ref ar]) st41 ?_
    refine own_s T41 (mkF m 48 #[rv ob, iv g, own_j uu, s_, iv ts, iv sh, own_j (uu * (own_p10 sh)), s_] [.int g, .ref ar]) (fun t k => XS.iloadN X41.here hx rfl (hb hby d912_47) rfl k) ?_
    refine own_s T41 (mkF m 49 #[rv ob, iv g, own_j uu, s_, iv ts, iv sh, own_j (uu * (own_p10 sh)), s_] [.ref ob, .int g, .ref ar]) (fun t k => XS.aloadN X41.here hx rfl (hb hby d912_48) rfl rfl k) ?_
    obtain ⟨T42, X42, e42, st42⟩ := getF X41 hx hZ hown (host := "") (Or.inl (hW 12 _ rfl)) Via.refl e41 F_0.2.2.1 (g := (mkF m 49 #[rv ob, iv g, own_j uu, s_, iv ts, iv sh, own_j (uu * (own_p10 sh)), s_] [.ref ob, .int g, .ref ar])) rfl rfl (hb hby d912_49)
    refine own_s T42 (mkF m 52 #[rv ob, iv g, own_j uu, s_, iv ts, iv sh, own_j (uu * (own_p10 sh)), s_] [.ref ar, .int g, .ref ar]) st42 ?_
    refine own_s T42 (mkF m 53 #[rv ob, iv g, own_j uu, s_, iv ts, iv sh, own_j (uu * (own_p10 sh)), s_] [.int g, .ref ar, .int g, .ref ar]) (fun t k => XS.iloadN X42.here hx rfl (hb hby d912_52) rfl k) ?_
    obtain ⟨cl43, Ar43, qa43, S43, M43, H43, U43⟩ := id F_0.2.2.2.1
    have hi43 := inb_of S43 (j := g) hg
    have hat43 := H43.at hi43 (v := (.long (own_sel g v0 v1 v2 v3))) (own_getL hcap hg)
    refine own_s T42 (mkF m 54 #[rv ob, iv g, own_j uu, s_, iv ts, iv sh, own_j (uu * (own_p10 sh)), s_] [.long (own_sel g v0 v1 v2 v3), .int g, .ref ar]) (fun t k => X42.laload hx (j := g) (v := (.long (own_sel g v0 v1 v2 v3))) (by rw [e42]; exact Ar43.1) (State.isArrayOf_alike hZ.alike Ar43.2.1) Ar43.2.2 hi43 hat43 (g := (mkF m 53 #[rv ob, iv g, own_j uu, s_, iv ts, iv sh, own_j (uu * (own_p10 sh)), s_] [.int g, .ref ar, .int g, .ref ar])) rfl rfl (hb hby d912_53) t k) ?_
    refine own_s T42 (mkF m 56 #[rv ob, iv g, own_j uu, s_, iv ts, iv sh, own_j (uu * (own_p10 sh)), s_] [.long (uu * (own_p10 sh)), .long (own_sel g v0 v1 v2 v3), .int g, .ref ar]) (fun t k => XS.lload X42.here hx rfl (hb hby d912_54) rfl k) ?_
    obtain ⟨_, _, ⟨T46, L46, k46, n46⟩, -, X46, ⟨Lc46, hQ46, lq46, yq46, zq46⟩, st46⟩ := Jvm.LawKit.callS X42 hx (y := (⟨"java/lang/Math", "addExact", "(JJ)J"⟩ : MethodName)) hown (mvT hZ (hW 51 _ rfl)) (mvT hZ (hW 52 _ rfl)) (mvT hZ (hW 33 _ rfl)) (mvT hZ (hW 53 _ rfl)) (by decide) (backOf (W := 2) (rm_adx l Z a0 hw [] (own_sel g v0 v1 v2 v3) (uu * (own_p10 sh)) h0 n0 Z0 (own_selb (own_smbd hv0) (own_smbd hv1) (own_smbd hv2) (own_smbd hv3)) (own_mulb hu hsh)) hZ (hW 53 _ rfl) (hW 33 _ rfl) (by decide) (by decide)) (g := (mkF m 56 #[rv ob, iv g, own_j uu, s_, iv ts, iv sh, own_j (uu * (own_p10 sh)), s_] [.long (uu * (own_p10 sh)), .long (own_sel g v0 v1 v2 v3), .int g, .ref ar])) rfl (by rw [hml]; rfl) (argsL := [(.long (own_sel g v0 v1 v2 v3)), (.long (uu * (own_p10 sh)))]) (rest := [(.int g), (.ref ar)]) (lenOf pd_1 rfl) rfl (by show 2 * 0 + _ ≤ _; exact Nat.le_of_eq rfl) (hb hby d912_56) (fun _ _ => ⟨rfl, e42, (by decide : 0 + 0 ≤ _), (by decide : 0 + 0 ≤ _)⟩)
    dsimp only [Pt.U, Pt.locs, Pt.cells, Pt.slots] at X46 lq46 yq46 zq46 st46 hQ46
    subst lq46 yq46 zq46
    obtain ⟨rfl, Nq46, eq45⟩ := hQ46
    have N46 := Fr.app N40 Nq46
    refine own_s T46 (mkF m 59 #[rv ob, iv g, own_j uu, s_, iv ts, iv sh, own_j (uu * (own_p10 sh)), s_] [.long ((own_sel g v0 v1 v2 v3) + (uu * (own_p10 sh))), .int g, .ref ar]) st46 ?_
    obtain ⟨cl47, Ar47, qa47, S47, M47, H47, U47⟩ := id F_0.2.2.2.1
    obtain ⟨T47, h47, X47, e47, W47, st47⟩ := stJ X46 hx hZ eq45 Ar47 (j := g) (inb_of S47 hg) (g := (mkF m 59 #[rv ob, iv g, own_j uu, s_, iv ts, iv sh, own_j (uu * (own_p10 sh)), s_] [.long ((own_sel g v0 v1 v2 v3) + (uu * (own_p10 sh))), .int g, .ref ar])) rfl rfl (hb hby d912_59)
    have g48 : Exa Z h47 ob "com/example/viewlattice/viewlattice/engine/DecimalSums" := F_0.1.wr W47
    have g49 : Fld Z h47 ob "com/example/viewlattice/viewlattice/engine/DecimalSums" "scale" "I" (.int S) := F_0.2.1.other W47 (Or.inl F_0.2.2.2.2.1)
    have g50 : Fld Z h47 ob "com/example/viewlattice/viewlattice/engine/DecimalSums" "small" "[J" (.ref ar) := F_0.2.2.1.other W47 (Or.inl F_0.2.2.2.2.1)
    have g51 : Arv Z h47 ar kr .long cap (own_L cap (own_upd g (0 : Int32) v0 (uu * own_p10 sh)) (own_upd g (1 : Int32) v1 (uu * own_p10 sh)) (own_upd g (2 : Int32) v2 (uu * own_p10 sh)) (own_upd g (3 : Int32) v3 (uu * own_p10 sh))) (.long (0 : Int64)) := (by rw [← own_setL hcap hg]; exact Arv.set Ar47 qa47 S47 M47 H47 U47 rfl W47 _ rfl (own_lenL hcap hg))
    have K52 : Keep h0 h47 [ob, ar] := K0.wr W47 (Or.inl (List.mem_of_getElem? (i := 1) rfl))
    have N47 := Fr.snoc X47 N46 F_0.2.2.2.2.2.2
    have Z47 : n0 ≤ h47.size := (Nat.le_trans Z0 (Nat.le_of_eq W47.size.symm))
    have O47 : Old Z n0 h47 := O0.wr W47 F_0.2.2.2.2.2.2
    refine own_s T47 (mkF m 60 #[rv ob, iv g, own_j uu, s_, iv ts, iv sh, own_j (uu * (own_p10 sh)), s_] []) st47 ?_
    refine own_rV X47 hx hlk Bd.returns (hb hby d912_60) ?_ (by decide) (by decide)
    rw [e47]
    exact ⟨ar, kr, rfl, N47, K52, (by simp only [hmx, hf, hd_sh, Int64.mul_one]; exact ⟨g48, g49, g50, g51, F_0.2.2.2.2.1, F_0.2.2.2.2.2.1, F_0.2.2.2.2.2.2⟩), Or.inl rfl⟩
def own_cs (kk sg y1 y2 : Int32) : List Value := if kk = 0 then [.int sg, .int y1, .int y2, .int 48] else if kk = 1 then [.int sg, .int y1, .int 46, .int y2] else if kk = 2 then [.int sg, .int 46, .int y1, .int y2] else [.int sg, .int y1, .int y2, .int 46]
def own_to (kk : Int32) : Int32 := if kk = 0 then 3 else 4
def own_vk (kk : Int32) : Int32 := if kk = 0 then 0 else if kk = 1 then 1 else if kk = 2 then 2 else 0
def own_fr2 (ff : Int32) : Int32 := if ff = 0 then 1 else 0
def own_vf (ff : Int32) : Int32 := if ff = 0 then 0 else 2
def own_u (d1 d2 : Int32) : Int64 := (10 : Int64) * d1.toInt64 + d2.toInt64
def own_sv (ng : Int32) (u : Int64) : Int64 := if ng = 0 then u else -u
def own_dg (y d : Int32) : Prop := y = 48 + d ∧ ¬ d < 0 ∧ d < 10
theorem own_dgi {y d : Int32} (h : own_dg y d) : y.toInt = 48 + d.toInt ∧ 0 ≤ d.toInt ∧ d.toInt < 10 := by
  obtain ⟨rfl, h1, h2⟩ := h
  have z0 : (0 : Int32).toInt = 0 := by decide
  have z10 : (10 : Int32).toInt = 10 := by decide
  have z48 : (48 : Int32).toInt = 48 := by decide
  rw [Int32.lt_iff_toInt_lt, z0] at h1
  rw [Int32.lt_iff_toInt_lt, z10] at h2
  exact ⟨by rw [Jvm.Kit.i32_add (by rw [z48]; omega) (by rw [z48]; omega), z48], by omega, h2⟩
theorem own_dne {y d c : Int32} (h : own_dg y d) (hc : c.toInt < 48) : ¬ y = c := fun q => by
  have := own_dgi h; rw [q] at this; omega
theorem own_d48 {y d : Int32} (h : own_dg y d) : ¬ y < (48 : Int32) := by
  have z48 : (48 : Int32).toInt = 48 := by decide
  have := own_dgi h; rw [Int32.lt_iff_toInt_lt, z48]; omega
theorem own_d57 {y d : Int32} (h : own_dg y d) : ¬ (57 : Int32) < y := by
  have z57 : (57 : Int32).toInt = 57 := by decide
  have := own_dgi h; rw [Int32.lt_iff_toInt_lt, z57]; omega
theorem own_dsub {y d : Int32} (h : own_dg y d) : y - (48 : Int32) = d := by
  obtain ⟨rfl, -, -⟩ := h
  rw [Int32.add_comm, Int32.add_sub_cancel]
theorem own_uI {d1 d2 y1 y2 : Int32} (h1 : own_dg y1 d1) (h2 : own_dg y2 d2) : (own_u d1 d2).toInt = 10 * d1.toInt + d2.toInt := by
  have a := own_dgi h1
  have b := own_dgi h2
  have z10 : (10 : Int64).toInt = 10 := by decide
  have m : ((10 : Int64) * d1.toInt64).toInt = 10 * d1.toInt := by
    rw [Jvm.Kit.i64_mul, z10, c_i2l]
    · rw [z10, c_i2l]; omega
    · rw [z10, c_i2l]; omega
  unfold own_u
  rw [Jvm.Kit.i64_add, m, c_i2l]
  · rw [m, c_i2l]; omega
  · rw [m, c_i2l]; omega
theorem own_usm {d1 d2 y1 y2 : Int32} (h1 : own_dg y1 d1) (h2 : own_dg y2 d2) : own_sm (own_u d1 d2) := by
  have a := own_dgi h1
  have b := own_dgi h2
  unfold own_sm
  rw [own_uI h1 h2]; omega
theorem own_unsm {d1 d2 y1 y2 : Int32} (h1 : own_dg y1 d1) (h2 : own_dg y2 d2) : own_sm (-(own_u d1 d2)) := by
  have a := own_dgi h1
  have b := own_dgi h2
  unfold own_sm
  rw [Jvm.Kit.i64_neg (by rw [own_uI h1 h2]; omega), own_uI h1 h2]; omega
theorem own_hs1 {S t : Int32} (hS : own_sh S) (ht : t = 0 ∨ t = 1 ∨ t = 2) : S < t → (t - S = 1 ∨ t - S = 2) := by
  rcases hS with rfl | rfl | rfl | rfl <;> rcases ht with rfl | rfl | rfl <;> decide
theorem own_hs2 {S t : Int32} (hS : own_sh S) (ht : t = 0 ∨ t = 1 ∨ t = 2) : ¬ S < t → own_sh (S - t) := by
  intro h
  rcases hS with rfl | rfl | rfl | rfl <;> rcases ht with rfl | rfl | rfl <;> first | exact absurd (by decide) h | exact Or.inl (by decide) | exact Or.inr (Or.inl (by decide)) | exact Or.inr (Or.inr (Or.inl (by decide))) | exact Or.inr (Or.inr (Or.inr (by decide)))

def Q_maxlm1 (Z : State)  (h0 : Heap) (n0 : Nat) (v : Option Value) (h : Heap) (L : List Loc) : Prop := v = some (.int (0 : Int32)) ∧ Fr n0 L ∧ h = h0
theorem ef_rm_maxlm1 (m : MethodId) (x0 : Int32) (x1 : Int32) : entryFrame m #[(.int x0), (.int x1)] 2 = mkF m 0 #[.val (.int x0), .val (.int x1)] [] := by first | (simp [entryFrame, mkF, argsToLocals, Value.category]; done) | rfl | (simp [entryFrame, mkF, argsToLocals, Value.category] <;> rfl)
set_option maxRecDepth 65536 in
set_option maxHeartbeats 40000000 in
theorem rm_maxlm1 (l : Launch) (Z : State) (a0 : Array Value) (hw : ∀ d ∈ tables_1, d.before a0 Z = true) (ws : List Jvm.Cond)  (h0 : Heap) (n0 : Nat) (Z0 : n0 ≤ h0.size)  :
    MetFree l (⟨"java/lang/Math", "max", "(II)I"⟩ : MethodName) (head1 (Jvm.Cond.code (⟨"java/lang/Math", "max", "(II)I"⟩ : MethodName) jdk_29_method_65_code 2 (some (.int)) :: ws) ({ frames := 0, cells := 0, slots := 0, locals := 0 } : Room)) (fun a U => a = #[(.int ((-1) : Int32)), (.int (0 : Int32))] ∧ Z.Warmed39 U.vm ∧ U.heap = h0) (fun _ _ _ _ _ => True) (fun _ U o U' => ∃ v L, o = .returned v ∧ (Q_maxlm1 Z h0 n0) v U'.heap L ∧ FrameEnd U o U' L ({ frames := 0, cells := 0, slots := 0, locals := 0 } : Room).cells ({ frames := 0, cells := 0, slots := 0, locals := 0 } : Room).slots) := by
  refine MetFree.of_bodySF (Jvm.Free.JP.mathPlain rfl (by decide +kernel)) hisR ?_
  intro p e s m args below meth c s₁ Bd hml0 hP hK
  obtain ⟨rfl, hZ, hh⟩ := hP
  have hx := Bd.exec
  have hby := Bd.bytes
  have hW := fun i d (h : tables_1[i]? = some d) => hw d (List.mem_of_getElem? h)
  have hlk : meth.locks = false := BodyLoose.notSynchronized Bd
  have hml : c.maxLocals = 2 := hml0
  have hown : s.vm.findClass "java/lang/Math" = some m.cls := findClass_of_methodNamed Bd.named
  have hnm := (name_of_methodNamed Bd.named Bd.method).1
  have X0 : Stand p l e ({ frames := 0, cells := 0, slots := 0, locals := 0 } : Room) s m #[(.int ((-1) : Int32)), (.int (0 : Int32))] below meth c s₁ [] 0 0 := Stand.of_body Bd
  have e0 : s₁.heap = h0 := by rw [← hh, Bd.state]; rfl
  have N0 := Fr.nil n0
  show own_Go p e below s (Q_maxlm1 Z h0 n0) ({ frames := 0, cells := 0, slots := 0, locals := 0 } : Room).cells ({ frames := 0, cells := 0, slots := 0, locals := 0 } : Room).slots s₁ (entryFrame m #[(.int ((-1) : Int32)), (.int (0 : Int32))] 2)
  refine own_cast (g' := (mkF m 0 #[iv (-1), iv 0] [])) (ef_rm_maxlm1 m ((-1) : Int32) (0 : Int32)) ?_
  refine own_s s₁ (mkF m 1 #[iv (-1), iv 0] [.int (-1)]) (fun t k => XS.iloadN X0.here hx rfl (hb hby d6_0) rfl k) ?_
  refine own_s s₁ (mkF m 2 #[iv (-1), iv 0] [.int 0, .int (-1)]) (fun t k => XS.iloadN X0.here hx rfl (hb hby d6_1) rfl k) ?_
  refine own_s s₁ (mkF m 9 #[iv (-1), iv 0] []) (fun t k => XS.icmpYes X0.here hx rfl (pc0 := 2) (pc' := 9) rfl (hb hby d6_2) rfl (tlt (by decide : (((-1) : Int32) < (0 : Int32)))).1 (by decide) (by decide) k) ?_
  refine own_s s₁ (mkF m 10 #[iv (-1), iv 0] [.int 0]) (fun t k => XS.iloadN X0.here hx rfl (hb hby d6_9) rfl k) ?_
  refine own_rI X0 hx hlk Bd.returns (hb hby d6_10) ?_ (by decide) (by decide)
  rw [e0]
  exact ⟨rfl, N0, rfl⟩
def Q_maxl0 (Z : State)  (h0 : Heap) (n0 : Nat) (v : Option Value) (h : Heap) (L : List Loc) : Prop := v = some (.int (0 : Int32)) ∧ Fr n0 L ∧ h = h0
theorem ef_rm_maxl0 (m : MethodId) (x0 : Int32) (x1 : Int32) : entryFrame m #[(.int x0), (.int x1)] 2 = mkF m 0 #[.val (.int x0), .val (.int x1)] [] := by first | (simp [entryFrame, mkF, argsToLocals, Value.category]; done) | rfl | (simp [entryFrame, mkF, argsToLocals, Value.category] <;> rfl)
set_option maxRecDepth 65536 in
set_option maxHeartbeats 40000000 in
theorem rm_maxl0 (l : Launch) (Z : State) (a0 : Array Value) (hw : ∀ d ∈ tables_1, d.before a0 Z = true) (ws : List Jvm.Cond)  (h0 : Heap) (n0 : Nat) (Z0 : n0 ≤ h0.size)  :
    MetFree l (⟨"java/lang/Math", "max", "(II)I"⟩ : MethodName) (head1 (Jvm.Cond.code (⟨"java/lang/Math", "max", "(II)I"⟩ : MethodName) jdk_29_method_65_code 2 (some (.int)) :: ws) ({ frames := 0, cells := 0, slots := 0, locals := 0 } : Room)) (fun a U => a = #[(.int (0 : Int32)), (.int (0 : Int32))] ∧ Z.Warmed39 U.vm ∧ U.heap = h0) (fun _ _ _ _ _ => True) (fun _ U o U' => ∃ v L, o = .returned v ∧ (Q_maxl0 Z h0 n0) v U'.heap L ∧ FrameEnd U o U' L ({ frames := 0, cells := 0, slots := 0, locals := 0 } : Room).cells ({ frames := 0, cells := 0, slots := 0, locals := 0 } : Room).slots) := by
  refine MetFree.of_bodySF (Jvm.Free.JP.mathPlain rfl (by decide +kernel)) hisR ?_
  intro p e s m args below meth c s₁ Bd hml0 hP hK
  obtain ⟨rfl, hZ, hh⟩ := hP
  have hx := Bd.exec
  have hby := Bd.bytes
  have hW := fun i d (h : tables_1[i]? = some d) => hw d (List.mem_of_getElem? h)
  have hlk : meth.locks = false := BodyLoose.notSynchronized Bd
  have hml : c.maxLocals = 2 := hml0
  have hown : s.vm.findClass "java/lang/Math" = some m.cls := findClass_of_methodNamed Bd.named
  have hnm := (name_of_methodNamed Bd.named Bd.method).1
  have X0 : Stand p l e ({ frames := 0, cells := 0, slots := 0, locals := 0 } : Room) s m #[(.int (0 : Int32)), (.int (0 : Int32))] below meth c s₁ [] 0 0 := Stand.of_body Bd
  have e0 : s₁.heap = h0 := by rw [← hh, Bd.state]; rfl
  have N0 := Fr.nil n0
  show own_Go p e below s (Q_maxl0 Z h0 n0) ({ frames := 0, cells := 0, slots := 0, locals := 0 } : Room).cells ({ frames := 0, cells := 0, slots := 0, locals := 0 } : Room).slots s₁ (entryFrame m #[(.int (0 : Int32)), (.int (0 : Int32))] 2)
  refine own_cast (g' := (mkF m 0 #[iv 0, iv 0] [])) (ef_rm_maxl0 m (0 : Int32) (0 : Int32)) ?_
  refine own_s s₁ (mkF m 1 #[iv 0, iv 0] [.int 0]) (fun t k => XS.iloadN X0.here hx rfl (hb hby d6_0) rfl k) ?_
  refine own_s s₁ (mkF m 2 #[iv 0, iv 0] [.int 0, .int 0]) (fun t k => XS.iloadN X0.here hx rfl (hb hby d6_1) rfl k) ?_
  refine own_s s₁ (mkF m 5 #[iv 0, iv 0] []) (fun t k => XS.icmpNo X0.here hx rfl (hb hby d6_2) rfl (flt (by decide : ¬ ((0 : Int32) < (0 : Int32)))).1 k) ?_
  refine own_s s₁ (mkF m 6 #[iv 0, iv 0] [.int 0]) (fun t k => XS.iloadN X0.here hx rfl (hb hby d6_5) rfl k) ?_
  refine own_s s₁ (mkF m 10 #[iv 0, iv 0] [.int 0]) (fun t k => XS.goto X0.here hx rfl (pc0 := 6) (pc' := 10) rfl (hb hby d6_6) (by decide) (by decide) k) ?_
  refine own_rI X0 hx hlk Bd.returns (hb hby d6_10) ?_ (by decide) (by decide)
  rw [e0]
  exact ⟨rfl, N0, rfl⟩
def Q_maxl1 (Z : State)  (h0 : Heap) (n0 : Nat) (v : Option Value) (h : Heap) (L : List Loc) : Prop := v = some (.int (1 : Int32)) ∧ Fr n0 L ∧ h = h0
theorem ef_rm_maxl1 (m : MethodId) (x0 : Int32) (x1 : Int32) : entryFrame m #[(.int x0), (.int x1)] 2 = mkF m 0 #[.val (.int x0), .val (.int x1)] [] := by first | (simp [entryFrame, mkF, argsToLocals, Value.category]; done) | rfl | (simp [entryFrame, mkF, argsToLocals, Value.category] <;> rfl)
set_option maxRecDepth 65536 in
set_option maxHeartbeats 40000000 in
theorem rm_maxl1 (l : Launch) (Z : State) (a0 : Array Value) (hw : ∀ d ∈ tables_1, d.before a0 Z = true) (ws : List Jvm.Cond)  (h0 : Heap) (n0 : Nat) (Z0 : n0 ≤ h0.size)  :
    MetFree l (⟨"java/lang/Math", "max", "(II)I"⟩ : MethodName) (head1 (Jvm.Cond.code (⟨"java/lang/Math", "max", "(II)I"⟩ : MethodName) jdk_29_method_65_code 2 (some (.int)) :: ws) ({ frames := 0, cells := 0, slots := 0, locals := 0 } : Room)) (fun a U => a = #[(.int (1 : Int32)), (.int (0 : Int32))] ∧ Z.Warmed39 U.vm ∧ U.heap = h0) (fun _ _ _ _ _ => True) (fun _ U o U' => ∃ v L, o = .returned v ∧ (Q_maxl1 Z h0 n0) v U'.heap L ∧ FrameEnd U o U' L ({ frames := 0, cells := 0, slots := 0, locals := 0 } : Room).cells ({ frames := 0, cells := 0, slots := 0, locals := 0 } : Room).slots) := by
  refine MetFree.of_bodySF (Jvm.Free.JP.mathPlain rfl (by decide +kernel)) hisR ?_
  intro p e s m args below meth c s₁ Bd hml0 hP hK
  obtain ⟨rfl, hZ, hh⟩ := hP
  have hx := Bd.exec
  have hby := Bd.bytes
  have hW := fun i d (h : tables_1[i]? = some d) => hw d (List.mem_of_getElem? h)
  have hlk : meth.locks = false := BodyLoose.notSynchronized Bd
  have hml : c.maxLocals = 2 := hml0
  have hown : s.vm.findClass "java/lang/Math" = some m.cls := findClass_of_methodNamed Bd.named
  have hnm := (name_of_methodNamed Bd.named Bd.method).1
  have X0 : Stand p l e ({ frames := 0, cells := 0, slots := 0, locals := 0 } : Room) s m #[(.int (1 : Int32)), (.int (0 : Int32))] below meth c s₁ [] 0 0 := Stand.of_body Bd
  have e0 : s₁.heap = h0 := by rw [← hh, Bd.state]; rfl
  have N0 := Fr.nil n0
  show own_Go p e below s (Q_maxl1 Z h0 n0) ({ frames := 0, cells := 0, slots := 0, locals := 0 } : Room).cells ({ frames := 0, cells := 0, slots := 0, locals := 0 } : Room).slots s₁ (entryFrame m #[(.int (1 : Int32)), (.int (0 : Int32))] 2)
  refine own_cast (g' := (mkF m 0 #[iv 1, iv 0] [])) (ef_rm_maxl1 m (1 : Int32) (0 : Int32)) ?_
  refine own_s s₁ (mkF m 1 #[iv 1, iv 0] [.int 1]) (fun t k => XS.iloadN X0.here hx rfl (hb hby d6_0) rfl k) ?_
  refine own_s s₁ (mkF m 2 #[iv 1, iv 0] [.int 0, .int 1]) (fun t k => XS.iloadN X0.here hx rfl (hb hby d6_1) rfl k) ?_
  refine own_s s₁ (mkF m 5 #[iv 1, iv 0] []) (fun t k => XS.icmpNo X0.here hx rfl (hb hby d6_2) rfl (flt (by decide : ¬ ((1 : Int32) < (0 : Int32)))).1 k) ?_
  refine own_s s₁ (mkF m 6 #[iv 1, iv 0] [.int 1]) (fun t k => XS.iloadN X0.here hx rfl (hb hby d6_5) rfl k) ?_
  refine own_s s₁ (mkF m 10 #[iv 1, iv 0] [.int 1]) (fun t k => XS.goto X0.here hx rfl (pc0 := 6) (pc' := 10) rfl (hb hby d6_6) (by decide) (by decide) k) ?_
  refine own_rI X0 hx hlk Bd.returns (hb hby d6_10) ?_ (by decide) (by decide)
  rw [e0]
  exact ⟨rfl, N0, rfl⟩
def Q_maxl2 (Z : State)  (h0 : Heap) (n0 : Nat) (v : Option Value) (h : Heap) (L : List Loc) : Prop := v = some (.int (2 : Int32)) ∧ Fr n0 L ∧ h = h0
theorem ef_rm_maxl2 (m : MethodId) (x0 : Int32) (x1 : Int32) : entryFrame m #[(.int x0), (.int x1)] 2 = mkF m 0 #[.val (.int x0), .val (.int x1)] [] := by first | (simp [entryFrame, mkF, argsToLocals, Value.category]; done) | rfl | (simp [entryFrame, mkF, argsToLocals, Value.category] <;> rfl)
set_option maxRecDepth 65536 in
set_option maxHeartbeats 40000000 in
theorem rm_maxl2 (l : Launch) (Z : State) (a0 : Array Value) (hw : ∀ d ∈ tables_1, d.before a0 Z = true) (ws : List Jvm.Cond)  (h0 : Heap) (n0 : Nat) (Z0 : n0 ≤ h0.size)  :
    MetFree l (⟨"java/lang/Math", "max", "(II)I"⟩ : MethodName) (head1 (Jvm.Cond.code (⟨"java/lang/Math", "max", "(II)I"⟩ : MethodName) jdk_29_method_65_code 2 (some (.int)) :: ws) ({ frames := 0, cells := 0, slots := 0, locals := 0 } : Room)) (fun a U => a = #[(.int (2 : Int32)), (.int (0 : Int32))] ∧ Z.Warmed39 U.vm ∧ U.heap = h0) (fun _ _ _ _ _ => True) (fun _ U o U' => ∃ v L, o = .returned v ∧ (Q_maxl2 Z h0 n0) v U'.heap L ∧ FrameEnd U o U' L ({ frames := 0, cells := 0, slots := 0, locals := 0 } : Room).cells ({ frames := 0, cells := 0, slots := 0, locals := 0 } : Room).slots) := by
  refine MetFree.of_bodySF (Jvm.Free.JP.mathPlain rfl (by decide +kernel)) hisR ?_
  intro p e s m args below meth c s₁ Bd hml0 hP hK
  obtain ⟨rfl, hZ, hh⟩ := hP
  have hx := Bd.exec
  have hby := Bd.bytes
  have hW := fun i d (h : tables_1[i]? = some d) => hw d (List.mem_of_getElem? h)
  have hlk : meth.locks = false := BodyLoose.notSynchronized Bd
  have hml : c.maxLocals = 2 := hml0
  have hown : s.vm.findClass "java/lang/Math" = some m.cls := findClass_of_methodNamed Bd.named
  have hnm := (name_of_methodNamed Bd.named Bd.method).1
  have X0 : Stand p l e ({ frames := 0, cells := 0, slots := 0, locals := 0 } : Room) s m #[(.int (2 : Int32)), (.int (0 : Int32))] below meth c s₁ [] 0 0 := Stand.of_body Bd
  have e0 : s₁.heap = h0 := by rw [← hh, Bd.state]; rfl
  have N0 := Fr.nil n0
  show own_Go p e below s (Q_maxl2 Z h0 n0) ({ frames := 0, cells := 0, slots := 0, locals := 0 } : Room).cells ({ frames := 0, cells := 0, slots := 0, locals := 0 } : Room).slots s₁ (entryFrame m #[(.int (2 : Int32)), (.int (0 : Int32))] 2)
  refine own_cast (g' := (mkF m 0 #[iv 2, iv 0] [])) (ef_rm_maxl2 m (2 : Int32) (0 : Int32)) ?_
  refine own_s s₁ (mkF m 1 #[iv 2, iv 0] [.int 2]) (fun t k => XS.iloadN X0.here hx rfl (hb hby d6_0) rfl k) ?_
  refine own_s s₁ (mkF m 2 #[iv 2, iv 0] [.int 0, .int 2]) (fun t k => XS.iloadN X0.here hx rfl (hb hby d6_1) rfl k) ?_
  refine own_s s₁ (mkF m 5 #[iv 2, iv 0] []) (fun t k => XS.icmpNo X0.here hx rfl (hb hby d6_2) rfl (flt (by decide : ¬ ((2 : Int32) < (0 : Int32)))).1 k) ?_
  refine own_s s₁ (mkF m 6 #[iv 2, iv 0] [.int 2]) (fun t k => XS.iloadN X0.here hx rfl (hb hby d6_5) rfl k) ?_
  refine own_s s₁ (mkF m 10 #[iv 2, iv 0] [.int 2]) (fun t k => XS.goto X0.here hx rfl (pc0 := 6) (pc' := 10) rfl (hb hby d6_6) (by decide) (by decide) k) ?_
  refine own_rI X0 hx hlk Bd.returns (hb hby d6_10) ?_ (by decide) (by decide)
  rw [e0]
  exact ⟨rfl, N0, rfl⟩
def Q_add1 (Z : State) (ob : Addr) (ar : Addr) (kr : ClassId) (cap : Int32) (S : Int32) (v0 : Int64) (v1 : Int64) (v2 : Int64) (v3 : Int64) (g : Int32) (tx : Addr) (kx : ClassId) (fr : Int32) (kk : Int32) (sg : Int32) (y1 : Int32) (y2 : Int32) (d1 : Int32) (d2 : Int32) (ng : Int32) (pw : Addr) (kp : ClassId) (h0 : Heap) (n0 : Nat) (v : Option Value) (h : Heap) (L : List Loc) : Prop := ∃ (b : Addr) (kb : ClassId), v = some (.int (1 : Int32)) ∧ Fr n0 L ∧ Keep h0 h [ob, ar] ∧ own_St Z n0 h ob b kb cap (own_mx S (own_vk kk)) (own_upd g (0 : Int32) (v0 * own_f S (own_vk kk)) ((own_sv ng (own_u d1 d2)) * own_p10 (own_mx S (own_vk kk) - (own_vk kk)))) (own_upd g (1 : Int32) (v1 * own_f S (own_vk kk)) ((own_sv ng (own_u d1 d2)) * own_p10 (own_mx S (own_vk kk) - (own_vk kk)))) (own_upd g (2 : Int32) (v2 * own_f S (own_vk kk)) ((own_sv ng (own_u d1 d2)) * own_p10 (own_mx S (own_vk kk) - (own_vk kk)))) (own_upd g (3 : Int32) (v3 * own_f S (own_vk kk)) ((own_sv ng (own_u d1 d2)) * own_p10 (own_mx S (own_vk kk) - (own_vk kk)))) ∧ (b = ar ∨ h0.size ≤ b)
theorem ef_rm_add1 (m : MethodId) (x0 : Addr) (x1 : Int32) (x2 : Addr) (x3 : Int32) (x4 : Int32) : entryFrame m #[(.ref x0), (.int x1), (.ref x2), (.int x3), (.int x4)] 12 = mkF m 0 #[.val (.ref x0), .val (.int x1), .val (.ref x2), .val (.int x3), .val (.int x4), .unset, .unset, .unset, .unset, .unset, .unset, .unset] [] := by first | (simp [entryFrame, mkF, argsToLocals, Value.category]; done) | rfl | (simp [entryFrame, mkF, argsToLocals, Value.category] <;> rfl)
theorem d5_50 : decode prog_40_method_11_code 50 = .ok (.lconst 0, 1) := by decide +kernel
theorem d5_51 : decode prog_40_method_11_code 51 = .ok (.lstore 7, 2) := by decide +kernel
theorem d5_53 : decode prog_40_method_11_code 53 = .ok (.iconst 0, 1) := by decide +kernel
theorem d5_54 : decode prog_40_method_11_code 54 = .ok (.istore 9, 2) := by decide +kernel
theorem d5_56 : decode prog_40_method_11_code 56 = .ok (.iconst (-1), 1) := by decide +kernel
theorem d5_57 : decode prog_40_method_11_code 57 = .ok (.istore 10, 2) := by decide +kernel
theorem d5_59 : decode prog_40_method_11_code 59 = .ok (.iload 5, 2) := by decide +kernel
theorem d5_61 : decode prog_40_method_11_code 61 = .ok (.iload 4, 2) := by decide +kernel
theorem d5_63 : decode prog_40_method_11_code 63 = .ok (.if_icmp .ge 90, 3) := by decide +kernel
theorem d5_66 : decode prog_40_method_11_code 66 = .ok (.aload_n 2, 1) := by decide +kernel
theorem d5_67 : decode prog_40_method_11_code 67 = .ok (.iload 5, 2) := by decide +kernel
theorem d5_69 : decode prog_40_method_11_code 69 = .ok (.caload, 1) := by decide +kernel
theorem d5_70 : decode prog_40_method_11_code 70 = .ok (.istore 11, 2) := by decide +kernel
theorem d5_72 : decode prog_40_method_11_code 72 = .ok (.iload 11, 2) := by decide +kernel
theorem d5_74 : decode prog_40_method_11_code 74 = .ok (.bipush 46, 2) := by decide +kernel
theorem d5_76 : decode prog_40_method_11_code 76 = .ok (.if_icmp .ne 14, 3) := by decide +kernel
theorem d5_90 : decode prog_40_method_11_code 90 = .ok (.iload 11, 2) := by decide +kernel
theorem d5_92 : decode prog_40_method_11_code 92 = .ok (.bipush 48, 2) := by decide +kernel
theorem d5_94 : decode prog_40_method_11_code 94 = .ok (.if_icmp .lt 51, 3) := by decide +kernel
theorem d5_97 : decode prog_40_method_11_code 97 = .ok (.iload 11, 2) := by decide +kernel
theorem d5_99 : decode prog_40_method_11_code 99 = .ok (.bipush 57, 2) := by decide +kernel
theorem d5_101 : decode prog_40_method_11_code 101 = .ok (.if_icmp .gt 44, 3) := by decide +kernel
theorem d5_104 : decode prog_40_method_11_code 104 = .ok (.iload 9, 2) := by decide +kernel
theorem d5_106 : decode prog_40_method_11_code 106 = .ok (.bipush 18, 2) := by decide +kernel
theorem d5_108 : decode prog_40_method_11_code 108 = .ok (.if_icmp .ge 19, 3) := by decide +kernel
theorem d5_111 : decode prog_40_method_11_code 111 = .ok (.ldc2_w 75, 3) := by decide +kernel
theorem d5_114 : decode prog_40_method_11_code 114 = .ok (.lload 7, 2) := by decide +kernel
theorem d5_116 : decode prog_40_method_11_code 116 = .ok (.lmul, 1) := by decide +kernel
theorem d5_117 : decode prog_40_method_11_code 117 = .ok (.iload 11, 2) := by decide +kernel
theorem d5_119 : decode prog_40_method_11_code 119 = .ok (.bipush 48, 2) := by decide +kernel
theorem d5_121 : decode prog_40_method_11_code 121 = .ok (.isub, 1) := by decide +kernel
theorem d5_122 : decode prog_40_method_11_code 122 = .ok (.i2l, 1) := by decide +kernel
theorem d5_123 : decode prog_40_method_11_code 123 = .ok (.ladd, 1) := by decide +kernel
theorem d5_124 : decode prog_40_method_11_code 124 = .ok (.goto 5, 3) := by decide +kernel
theorem d5_129 : decode prog_40_method_11_code 129 = .ok (.lstore 7, 2) := by decide +kernel
theorem d5_131 : decode prog_40_method_11_code 131 = .ok (.iinc 9 1, 3) := by decide +kernel
theorem d5_134 : decode prog_40_method_11_code 134 = .ok (.iload 10, 2) := by decide +kernel
theorem d5_136 : decode prog_40_method_11_code 136 = .ok (.ifCond .lt 11, 3) := by decide +kernel
theorem d5_147 : decode prog_40_method_11_code 147 = .ok (.iinc 5 1, 3) := by decide +kernel
theorem d5_150 : decode prog_40_method_11_code 150 = .ok (.goto (-91), 3) := by decide +kernel
theorem d5_153 : decode prog_40_method_11_code 153 = .ok (.iload 9, 2) := by decide +kernel
theorem d5_155 : decode prog_40_method_11_code 155 = .ok (.ifCond .ne 5, 3) := by decide +kernel
theorem d5_160 : decode prog_40_method_11_code 160 = .ok (.iload 10, 2) := by decide +kernel
theorem d5_162 : decode prog_40_method_11_code 162 = .ok (.iconst 0, 1) := by decide +kernel
theorem pd_3 : parseMethodDescriptor "(II)I" = some ⟨[.int, .int], some (.int)⟩ := by decide +kernel
theorem d5_163 : decode prog_40_method_11_code 163 = .ok (.invokestatic 77, 3) := by decide +kernel
theorem d5_166 : decode prog_40_method_11_code 166 = .ok (.istore 10, 2) := by decide +kernel
theorem d5_168 : decode prog_40_method_11_code 168 = .ok (.iload 9, 2) := by decide +kernel
theorem d5_170 : decode prog_40_method_11_code 170 = .ok (.bipush 18, 2) := by decide +kernel
theorem d5_172 : decode prog_40_method_11_code 172 = .ok (.if_icmp .le 29, 3) := by decide +kernel
theorem d5_201 : decode prog_40_method_11_code 201 = .ok (.aload_n 0, 1) := by decide +kernel
theorem d5_202 : decode prog_40_method_11_code 202 = .ok (.iload_n 1, 1) := by decide +kernel
theorem d5_203 : decode prog_40_method_11_code 203 = .ok (.iload 6, 2) := by decide +kernel
theorem d5_205 : decode prog_40_method_11_code 205 = .ok (.ifCond .eq 9, 3) := by decide +kernel
theorem d5_214 : decode prog_40_method_11_code 214 = .ok (.lload 7, 2) := by decide +kernel
theorem d5_216 : decode prog_40_method_11_code 216 = .ok (.iload 10, 2) := by decide +kernel
theorem pd_4 : parseMethodDescriptor "(IJI)V" = some ⟨[.int, .long, .int], none⟩ := by decide +kernel
theorem d5_218 : decode prog_40_method_11_code 218 = .ok (.invokevirtual 94, 3) := by decide +kernel
theorem d5_221 : decode prog_40_method_11_code 221 = .ok (.iconst 1, 1) := by decide +kernel
theorem d5_222 : decode prog_40_method_11_code 222 = .ok (.ireturn, 1) := by decide +kernel
theorem d5_208 : decode prog_40_method_11_code 208 = .ok (.lload 7, 2) := by decide +kernel
theorem d5_210 : decode prog_40_method_11_code 210 = .ok (.lneg, 1) := by decide +kernel
theorem d5_211 : decode prog_40_method_11_code 211 = .ok (.goto 5, 3) := by decide +kernel
theorem d5_0 : decode prog_40_method_11_code 0 = .ok (.iload_n 3, 1) := by decide +kernel
theorem d5_1 : decode prog_40_method_11_code 1 = .ok (.istore 5, 2) := by decide +kernel
theorem d5_3 : decode prog_40_method_11_code 3 = .ok (.iconst 0, 1) := by decide +kernel
theorem d5_4 : decode prog_40_method_11_code 4 = .ok (.istore 6, 2) := by decide +kernel
theorem d5_6 : decode prog_40_method_11_code 6 = .ok (.iload 5, 2) := by decide +kernel
theorem d5_8 : decode prog_40_method_11_code 8 = .ok (.iload 4, 2) := by decide +kernel
theorem d5_10 : decode prog_40_method_11_code 10 = .ok (.if_icmp .ge 40, 3) := by decide +kernel
theorem d5_13 : decode prog_40_method_11_code 13 = .ok (.aload_n 2, 1) := by decide +kernel
theorem d5_14 : decode prog_40_method_11_code 14 = .ok (.iload 5, 2) := by decide +kernel
theorem d5_16 : decode prog_40_method_11_code 16 = .ok (.caload, 1) := by decide +kernel
theorem d5_17 : decode prog_40_method_11_code 17 = .ok (.bipush 45, 2) := by decide +kernel
theorem d5_19 : decode prog_40_method_11_code 19 = .ok (.if_icmp .eq 12, 3) := by decide +kernel
theorem d5_31 : decode prog_40_method_11_code 31 = .ok (.aload_n 2, 1) := by decide +kernel
theorem d5_32 : decode prog_40_method_11_code 32 = .ok (.iload 5, 2) := by decide +kernel
theorem d5_34 : decode prog_40_method_11_code 34 = .ok (.caload, 1) := by decide +kernel
theorem d5_35 : decode prog_40_method_11_code 35 = .ok (.bipush 45, 2) := by decide +kernel
theorem d5_37 : decode prog_40_method_11_code 37 = .ok (.if_icmp .ne 7, 3) := by decide +kernel
theorem d5_40 : decode prog_40_method_11_code 40 = .ok (.iconst 1, 1) := by decide +kernel
theorem d5_41 : decode prog_40_method_11_code 41 = .ok (.goto 4, 3) := by decide +kernel
theorem d5_45 : decode prog_40_method_11_code 45 = .ok (.istore 6, 2) := by decide +kernel
theorem d5_47 : decode prog_40_method_11_code 47 = .ok (.iinc 5 1, 3) := by decide +kernel
theorem d5_22 : decode prog_40_method_11_code 22 = .ok (.aload_n 2, 1) := by decide +kernel
theorem d5_23 : decode prog_40_method_11_code 23 = .ok (.iload 5, 2) := by decide +kernel
theorem d5_25 : decode prog_40_method_11_code 25 = .ok (.caload, 1) := by decide +kernel
theorem d5_26 : decode prog_40_method_11_code 26 = .ok (.bipush 43, 2) := by decide +kernel
theorem d5_28 : decode prog_40_method_11_code 28 = .ok (.if_icmp .ne 22, 3) := by decide +kernel
theorem d5_44 : decode prog_40_method_11_code 44 = .ok (.iconst 0, 1) := by decide +kernel
theorem d5_79 : decode prog_40_method_11_code 79 = .ok (.iload 10, 2) := by decide +kernel
theorem d5_81 : decode prog_40_method_11_code 81 = .ok (.ifCond .ge 9, 3) := by decide +kernel
theorem d5_84 : decode prog_40_method_11_code 84 = .ok (.iconst 0, 1) := by decide +kernel
theorem d5_85 : decode prog_40_method_11_code 85 = .ok (.istore 10, 2) := by decide +kernel
theorem d5_87 : decode prog_40_method_11_code 87 = .ok (.goto 60, 3) := by decide +kernel
theorem d5_139 : decode prog_40_method_11_code 139 = .ok (.iinc 10 1, 3) := by decide +kernel
theorem d5_142 : decode prog_40_method_11_code 142 = .ok (.goto 5, 3) := by decide +kernel
set_option maxRecDepth 65536 in
set_option maxHeartbeats 40000000 in
theorem rm_add1 (l : Launch) (Z : State) (a0 : Array Value) (hw : ∀ d ∈ tables_1, d.before a0 Z = true) (ws : List Jvm.Cond) (ob : Addr) (ar : Addr) (kr : ClassId) (cap : Int32) (S : Int32) (v0 : Int64) (v1 : Int64) (v2 : Int64) (v3 : Int64) (g : Int32) (tx : Addr) (kx : ClassId) (fr : Int32) (kk : Int32) (sg : Int32) (y1 : Int32) (y2 : Int32) (d1 : Int32) (d2 : Int32) (ng : Int32) (pw : Addr) (kp : ClassId) (h0 : Heap) (n0 : Nat) (Z0 : n0 ≤ h0.size) (F_0 : own_St Z n0 h0 ob ar kr cap S v0 v1 v2 v3) (F_1 : Arv Z h0 tx kx .char (4 : Int32) (own_cs kk sg y1 y2) (.int (0 : Int32))) (n_ob_tx : ob ≠ tx) (n_ar_tx : ar ≠ tx) (O0 : Old Z n0 h0) (hkk : kk = 0 ∨ kk = 1 ∨ kk = 2 ∨ kk = 3) (hfr : (fr = 0 ∧ sg = 45 ∧ ng = 1) ∨ (fr = 0 ∧ sg = 43 ∧ ng = 0) ∨ (fr = 1 ∧ ng = 0)) (hcap : own_cap cap) (hg : own_in g cap) (hS : own_sh S) (hd1 : own_dg y1 d1) (hd2 : own_dg y2 d2) (hv0 : own_sm v0) (hv1 : own_sm v1) (hv2 : own_sm v2) (hv3 : own_sm v3) (S_p : Sta Z Z.heap "com/example/viewlattice/viewlattice/engine/DecimalSums" "POWERS_OF_TEN" "[J" (.ref pw)) (V_p : Arv Z Z.heap pw kp .long (19 : Int32) own_pw (.long (0 : Int64))) :
    MetFree l (⟨"com/example/viewlattice/viewlattice/engine/DecimalSums", "add", "(I[CII)Z"⟩ : MethodName) (head1 (Jvm.Cond.code (⟨"com/example/viewlattice/viewlattice/engine/DecimalSums", "add", "(I[CII)Z"⟩ : MethodName) prog_40_method_11_code 12 (some (.boolean)) :: ws) ({ frames := 4, cells := 1, slots := 4, locals := 71 } : Room)) (fun a U => a = #[(.ref ob), (.int g), (.ref tx), (.int fr), (.int (own_to kk))] ∧ Z.Warmed39 U.vm ∧ U.heap = h0) (fun _ _ _ _ _ => True) (fun _ U o U' => ∃ v L, o = .returned v ∧ (Q_add1 Z ob ar kr cap S v0 v1 v2 v3 g tx kx fr kk sg y1 y2 d1 d2 ng pw kp h0 n0) v U'.heap L ∧ FrameEnd U o U' L ({ frames := 4, cells := 1, slots := 4, locals := 71 } : Room).cells ({ frames := 4, cells := 1, slots := 4, locals := 71 } : Room).slots) := by
  refine MetFree.of_bodySF (plainFor_of_name pn_1) hisR ?_
  intro p e s m args below meth c s₁ Bd hml0 hP hK
  obtain ⟨rfl, hZ, hh⟩ := hP
  have hx := Bd.exec
  have hby := Bd.bytes
  have hW := fun i d (h : tables_1[i]? = some d) => hw d (List.mem_of_getElem? h)
  have hlk : meth.locks = false := BodyLoose.notSynchronized Bd
  have hml : c.maxLocals = 12 := hml0
  have hown : s.vm.findClass "com/example/viewlattice/viewlattice/engine/DecimalSums" = some m.cls := findClass_of_methodNamed Bd.named
  have hnm := (name_of_methodNamed Bd.named Bd.method).1
  have X0 : Stand p l e ({ frames := 4, cells := 1, slots := 4, locals := 71 } : Room) s m #[(.ref ob), (.int g), (.ref tx), (.int fr), (.int (own_to kk))] below meth c s₁ [] 0 0 := Stand.of_body Bd
  have e0 : s₁.heap = h0 := by rw [← hh, Bd.state]; rfl
  have N0 := Fr.nil n0
  show own_Go p e below s (Q_add1 Z ob ar kr cap S v0 v1 v2 v3 g tx kx fr kk sg y1 y2 d1 d2 ng pw kp h0 n0) ({ frames := 4, cells := 1, slots := 4, locals := 71 } : Room).cells ({ frames := 4, cells := 1, slots := 4, locals := 71 } : Room).slots s₁ (entryFrame m #[(.ref ob), (.int g), (.ref tx), (.int fr), (.int (own_to kk))] 12)
  refine own_cast (g' := (mkF m 0 #[rv ob, iv g, rv tx, iv fr, iv (own_to kk), u_, u_, u_, u_, u_, u_, u_] [])) (ef_rm_add1 m ob g tx fr (own_to kk)) ?_
  have K0 : Keep h0 h0 [ob, ar] := Keep.refl _ _
  rcases hkk with rfl | rfl | rfl | rfl
  · refine own_cast (g' := (mkF m 0 #[rv ob, iv g, rv tx, iv fr, iv 3, u_, u_, u_, u_, u_, u_, u_] [])) rfl ?_
    have Vx : Arv Z h0 tx kx .char (4 : Int32) [(.int sg), (.int y1), (.int y2), (.int (48 : Int32))] (.int (0 : Int32)) := F_1
    have j50 : ∀ (nb : Int32), nb = ng → own_Go p e below s (Q_add1 Z ob ar kr cap S v0 v1 v2 v3 g tx kx fr (0 : Int32) sg y1 y2 d1 d2 ng pw kp h0 n0) ({ frames := 4, cells := 1, slots := 4, locals := 71 } : Room).cells ({ frames := 4, cells := 1, slots := 4, locals := 71 } : Room).slots s₁ (mkF m 50 #[rv ob, iv g, rv tx, iv fr, iv 3, iv 1, iv nb, u_, u_, u_, u_, u_] []) := by
      intro nb hnb
      refine own_s s₁ (mkF m 51 #[rv ob, iv g, rv tx, iv fr, iv 3, iv 1, iv nb, u_, u_, u_, u_, u_] [.long 0]) (fun t k => XS.lconst X0.here hx rfl (hb hby d5_50) k) ?_
      refine own_s s₁ (mkF m 53 #[rv ob, iv g, rv tx, iv fr, iv 3, iv 1, iv nb, own_j 0, s_, u_, u_, u_] []) (fun t k => XS.lstore X0.here hx rfl (hb hby d5_51) rfl (l' := #[rv ob, iv g, rv tx, iv fr, iv 3, iv 1, iv nb, own_j 0, s_, u_, u_, u_]) rfl k) ?_
      refine own_s s₁ (mkF m 54 #[rv ob, iv g, rv tx, iv fr, iv 3, iv 1, iv nb, own_j 0, s_, u_, u_, u_] [.int 0]) (fun t k => XS.iconst X0.here hx rfl (hb hby d5_53) k) ?_
      refine own_s s₁ (mkF m 56 #[rv ob, iv g, rv tx, iv fr, iv 3, iv 1, iv nb, own_j 0, s_, iv 0, u_, u_] []) (fun t k => XS.istore X0.here hx rfl (hb hby d5_54) rfl (l' := #[rv ob, iv g, rv tx, iv fr, iv 3, iv 1, iv nb, own_j 0, s_, iv 0, u_, u_]) rfl k) ?_
      refine own_s s₁ (mkF m 57 #[rv ob, iv g, rv tx, iv fr, iv 3, iv 1, iv nb, own_j 0, s_, iv 0, u_, u_] [.int (-1)]) (fun t k => XS.iconst X0.here hx rfl (hb hby d5_56) k) ?_
      refine own_s s₁ (mkF m 59 #[rv ob, iv g, rv tx, iv fr, iv 3, iv 1, iv nb, own_j 0, s_, iv 0, iv (-1), u_] []) (fun t k => XS.istore X0.here hx rfl (hb hby d5_57) rfl (l' := #[rv ob, iv g, rv tx, iv fr, iv 3, iv 1, iv nb, own_j 0, s_, iv 0, iv (-1), u_]) rfl k) ?_
      refine own_s s₁ (mkF m 61 #[rv ob, iv g, rv tx, iv fr, iv 3, iv 1, iv nb, own_j 0, s_, iv 0, iv (-1), u_] [.int 1]) (fun t k => XS.iload X0.here hx rfl (hb hby d5_59) rfl k) ?_
      refine own_s s₁ (mkF m 63 #[rv ob, iv g, rv tx, iv fr, iv 3, iv 1, iv nb, own_j 0, s_, iv 0, iv (-1), u_] [.int 3, .int 1]) (fun t k => XS.iload X0.here hx rfl (hb hby d5_61) rfl k) ?_
      refine own_s s₁ (mkF m 66 #[rv ob, iv g, rv tx, iv fr, iv 3, iv 1, iv nb, own_j 0, s_, iv 0, iv (-1), u_] []) (fun t k => XS.icmpNo X0.here hx rfl (hb hby d5_63) rfl (tlt (by decide : ((1 : Int32) < (3 : Int32)))).2.1 k) ?_
      refine own_s s₁ (mkF m 67 #[rv ob, iv g, rv tx, iv fr, iv 3, iv 1, iv nb, own_j 0, s_, iv 0, iv (-1), u_] [.ref tx]) (fun t k => XS.aloadN X0.here hx rfl (hb hby d5_66) rfl rfl k) ?_
      refine own_s s₁ (mkF m 69 #[rv ob, iv g, rv tx, iv fr, iv 3, iv 1, iv nb, own_j 0, s_, iv 0, iv (-1), u_] [.int 1, .ref tx]) (fun t k => XS.iload X0.here hx rfl (hb hby d5_67) rfl k) ?_
      obtain ⟨cl1, Ar1, qa1, S1, M1, H1, U1⟩ := id Vx
      have hi1 := inb_of S1 (j := (1 : Int32)) ⟨by decide, by decide⟩
      have hat1 := H1.at hi1 (v := (.int y1)) rfl
      refine own_s s₁ (mkF m 70 #[rv ob, iv g, rv tx, iv fr, iv 3, iv 1, iv nb, own_j 0, s_, iv 0, iv (-1), u_] [.int y1]) (fun t k => X0.caload hx (j := (1 : Int32)) (v := (.int y1)) (by rw [e0]; exact Ar1.1) (State.isArrayOf_alike hZ.alike Ar1.2.1) Ar1.2.2 hi1 hat1 (g := (mkF m 69 #[rv ob, iv g, rv tx, iv fr, iv 3, iv 1, iv nb, own_j 0, s_, iv 0, iv (-1), u_] [.int 1, .ref tx])) rfl rfl (hb hby d5_69) t k) ?_
      refine own_s s₁ (mkF m 72 #[rv ob, iv g, rv tx, iv fr, iv 3, iv 1, iv nb, own_j 0, s_, iv 0, iv (-1), iv y1] []) (fun t k => XS.istore X0.here hx rfl (hb hby d5_70) rfl (l' := #[rv ob, iv g, rv tx, iv fr, iv 3, iv 1, iv nb, own_j 0, s_, iv 0, iv (-1), iv y1]) rfl k) ?_
      refine own_s s₁ (mkF m 74 #[rv ob, iv g, rv tx, iv fr, iv 3, iv 1, iv nb, own_j 0, s_, iv 0, iv (-1), iv y1] [.int y1]) (fun t k => XS.iload X0.here hx rfl (hb hby d5_72) rfl k) ?_
      refine own_s s₁ (mkF m 76 #[rv ob, iv g, rv tx, iv fr, iv 3, iv 1, iv nb, own_j 0, s_, iv 0, iv (-1), iv y1] [.int 46, .int y1]) (fun t k => XS.bipush X0.here hx rfl (hb hby d5_74) k) ?_
      refine own_s s₁ (mkF m 90 #[rv ob, iv g, rv tx, iv fr, iv 3, iv 1, iv nb, own_j 0, s_, iv 0, iv (-1), iv y1] []) (fun t k => XS.icmpYes X0.here hx rfl (pc0 := 76) (pc' := 90) rfl (hb hby d5_76) rfl (feq (own_dne hd1 (by decide))).2 (by decide) (by decide) k) ?_
      refine own_s s₁ (mkF m 92 #[rv ob, iv g, rv tx, iv fr, iv 3, iv 1, iv nb, own_j 0, s_, iv 0, iv (-1), iv y1] [.int y1]) (fun t k => XS.iload X0.here hx rfl (hb hby d5_90) rfl k) ?_
      refine own_s s₁ (mkF m 94 #[rv ob, iv g, rv tx, iv fr, iv 3, iv 1, iv nb, own_j 0, s_, iv 0, iv (-1), iv y1] [.int 48, .int y1]) (fun t k => XS.bipush X0.here hx rfl (hb hby d5_92) k) ?_
      refine own_s s₁ (mkF m 97 #[rv ob, iv g, rv tx, iv fr, iv 3, iv 1, iv nb, own_j 0, s_, iv 0, iv (-1), iv y1] []) (fun t k => XS.icmpNo X0.here hx rfl (hb hby d5_94) rfl (flt (own_d48 hd1)).1 k) ?_
      refine own_s s₁ (mkF m 99 #[rv ob, iv g, rv tx, iv fr, iv 3, iv 1, iv nb, own_j 0, s_, iv 0, iv (-1), iv y1] [.int y1]) (fun t k => XS.iload X0.here hx rfl (hb hby d5_97) rfl k) ?_
      refine own_s s₁ (mkF m 101 #[rv ob, iv g, rv tx, iv fr, iv 3, iv 1, iv nb, own_j 0, s_, iv 0, iv (-1), iv y1] [.int 57, .int y1]) (fun t k => XS.bipush X0.here hx rfl (hb hby d5_99) k) ?_
      refine own_s s₁ (mkF m 104 #[rv ob, iv g, rv tx, iv fr, iv 3, iv 1, iv nb, own_j 0, s_, iv 0, iv (-1), iv y1] []) (fun t k => XS.icmpNo X0.here hx rfl (hb hby d5_101) rfl (flt (own_d57 hd1)).2.2.1 k) ?_
      refine own_s s₁ (mkF m 106 #[rv ob, iv g, rv tx, iv fr, iv 3, iv 1, iv nb, own_j 0, s_, iv 0, iv (-1), iv y1] [.int 0]) (fun t k => XS.iload X0.here hx rfl (hb hby d5_104) rfl k) ?_
      refine own_s s₁ (mkF m 108 #[rv ob, iv g, rv tx, iv fr, iv 3, iv 1, iv nb, own_j 0, s_, iv 0, iv (-1), iv y1] [.int 18, .int 0]) (fun t k => XS.bipush X0.here hx rfl (hb hby d5_106) k) ?_
      refine own_s s₁ (mkF m 111 #[rv ob, iv g, rv tx, iv fr, iv 3, iv 1, iv nb, own_j 0, s_, iv 0, iv (-1), iv y1] []) (fun t k => XS.icmpNo X0.here hx rfl (hb hby d5_108) rfl (tlt (by decide : ((0 : Int32) < (18 : Int32)))).2.1 k) ?_
      refine own_s s₁ (mkF m 114 #[rv ob, iv g, rv tx, iv fr, iv 3, iv 1, iv nb, own_j 0, s_, iv 0, iv (-1), iv y1] [.long 10]) (X0.ldc2Long hx hown (mvT hZ (hW 30 _ rfl)) (g := (mkF m 111 #[rv ob, iv g, rv tx, iv fr, iv 3, iv 1, iv nb, own_j 0, s_, iv 0, iv (-1), iv y1] [])) rfl (hb hby d5_111)) ?_
      refine own_s s₁ (mkF m 116 #[rv ob, iv g, rv tx, iv fr, iv 3, iv 1, iv nb, own_j 0, s_, iv 0, iv (-1), iv y1] [.long 0, .long 10]) (fun t k => XS.lload X0.here hx rfl (hb hby d5_114) rfl k) ?_
      refine own_s s₁ (mkF m 117 #[rv ob, iv g, rv tx, iv fr, iv 3, iv 1, iv nb, own_j 0, s_, iv 0, iv (-1), iv y1] [.long 0]) (fun t k => XS.lmul X0.here hx rfl (hb hby d5_116) rfl k) ?_
      refine own_s s₁ (mkF m 119 #[rv ob, iv g, rv tx, iv fr, iv 3, iv 1, iv nb, own_j 0, s_, iv 0, iv (-1), iv y1] [.int y1, .long 0]) (fun t k => XS.iload X0.here hx rfl (hb hby d5_117) rfl k) ?_
      refine own_s s₁ (mkF m 121 #[rv ob, iv g, rv tx, iv fr, iv 3, iv 1, iv nb, own_j 0, s_, iv 0, iv (-1), iv y1] [.int 48, .int y1, .long 0]) (fun t k => XS.bipush X0.here hx rfl (hb hby d5_119) k) ?_
      refine own_s s₁ (mkF m 122 #[rv ob, iv g, rv tx, iv fr, iv 3, iv 1, iv nb, own_j 0, s_, iv 0, iv (-1), iv y1] [.int (y1 - (48 : Int32)), .long 0]) (fun t k => XS.isub X0.here hx rfl (hb hby d5_121) rfl k) ?_
      refine own_s s₁ (mkF m 123 #[rv ob, iv g, rv tx, iv fr, iv 3, iv 1, iv nb, own_j 0, s_, iv 0, iv (-1), iv y1] [.long ((y1 - (48 : Int32)).toInt64), .long 0]) (fun t k => XS.i2l X0.here hx rfl (hb hby d5_122) rfl k) ?_
      refine own_s s₁ (mkF m 124 #[rv ob, iv g, rv tx, iv fr, iv 3, iv 1, iv nb, own_j 0, s_, iv 0, iv (-1), iv y1] [.long ((0 : Int64) + ((y1 - (48 : Int32)).toInt64))]) (fun t k => XS.ladd X0.here hx rfl (hb hby d5_123) rfl k) ?_
      refine own_s s₁ (mkF m 129 #[rv ob, iv g, rv tx, iv fr, iv 3, iv 1, iv nb, own_j 0, s_, iv 0, iv (-1), iv y1] [.long ((0 : Int64) + ((y1 - (48 : Int32)).toInt64))]) (fun t k => XS.goto X0.here hx rfl (pc0 := 124) (pc' := 129) rfl (hb hby d5_124) (by decide) (by decide) k) ?_
      generalize hd_uu1 : ((0 : Int64) + ((y1 - (48 : Int32)).toInt64)) = uu1
      refine own_s s₁ (mkF m 131 #[rv ob, iv g, rv tx, iv fr, iv 3, iv 1, iv nb, own_j uu1, s_, iv 0, iv (-1), iv y1] []) (fun t k => XS.lstore X0.here hx rfl (hb hby d5_129) rfl (l' := #[rv ob, iv g, rv tx, iv fr, iv 3, iv 1, iv nb, own_j uu1, s_, iv 0, iv (-1), iv y1]) rfl k) ?_
      refine own_s s₁ (mkF m 134 #[rv ob, iv g, rv tx, iv fr, iv 3, iv 1, iv nb, own_j uu1, s_, iv 1, iv (-1), iv y1] []) (fun t k => XS.iinc X0.here hx rfl (hb hby d5_131) rfl (l' := #[rv ob, iv g, rv tx, iv fr, iv 3, iv 1, iv nb, own_j uu1, s_, iv 1, iv (-1), iv y1]) rfl k) ?_
      refine own_s s₁ (mkF m 136 #[rv ob, iv g, rv tx, iv fr, iv 3, iv 1, iv nb, own_j uu1, s_, iv 1, iv (-1), iv y1] [.int (-1)]) (fun t k => XS.iload X0.here hx rfl (hb hby d5_134) rfl k) ?_
      refine own_s s₁ (mkF m 147 #[rv ob, iv g, rv tx, iv fr, iv 3, iv 1, iv nb, own_j uu1, s_, iv 1, iv (-1), iv y1] []) (fun t k => XS.ifYes X0.here hx rfl (pc0 := 136) (pc' := 147) rfl (hb hby d5_136) rfl ((if0 _ _).trans (tlt (by decide : (((-1) : Int32) < (0 : Int32)))).1) (by decide) (by decide) k) ?_
      refine own_s s₁ (mkF m 150 #[rv ob, iv g, rv tx, iv fr, iv 3, iv 2, iv nb, own_j uu1, s_, iv 1, iv (-1), iv y1] []) (fun t k => XS.iinc X0.here hx rfl (hb hby d5_147) rfl (l' := #[rv ob, iv g, rv tx, iv fr, iv 3, iv 2, iv nb, own_j uu1, s_, iv 1, iv (-1), iv y1]) rfl k) ?_
      refine own_s s₁ (mkF m 59 #[rv ob, iv g, rv tx, iv fr, iv 3, iv 2, iv nb, own_j uu1, s_, iv 1, iv (-1), iv y1] []) (fun t k => XS.goto X0.here hx rfl (pc0 := 150) (pc' := 59) rfl (hb hby d5_150) (by decide) (by decide) k) ?_
      refine own_s s₁ (mkF m 61 #[rv ob, iv g, rv tx, iv fr, iv 3, iv 2, iv nb, own_j uu1, s_, iv 1, iv (-1), iv y1] [.int 2]) (fun t k => XS.iload X0.here hx rfl (hb hby d5_59) rfl k) ?_
      refine own_s s₁ (mkF m 63 #[rv ob, iv g, rv tx, iv fr, iv 3, iv 2, iv nb, own_j uu1, s_, iv 1, iv (-1), iv y1] [.int 3, .int 2]) (fun t k => XS.iload X0.here hx rfl (hb hby d5_61) rfl k) ?_
      refine own_s s₁ (mkF m 66 #[rv ob, iv g, rv tx, iv fr, iv 3, iv 2, iv nb, own_j uu1, s_, iv 1, iv (-1), iv y1] []) (fun t k => XS.icmpNo X0.here hx rfl (hb hby d5_63) rfl (tlt (by decide : ((2 : Int32) < (3 : Int32)))).2.1 k) ?_
      refine own_s s₁ (mkF m 67 #[rv ob, iv g, rv tx, iv fr, iv 3, iv 2, iv nb, own_j uu1, s_, iv 1, iv (-1), iv y1] [.ref tx]) (fun t k => XS.aloadN X0.here hx rfl (hb hby d5_66) rfl rfl k) ?_
      refine own_s s₁ (mkF m 69 #[rv ob, iv g, rv tx, iv fr, iv 3, iv 2, iv nb, own_j uu1, s_, iv 1, iv (-1), iv y1] [.int 2, .ref tx]) (fun t k => XS.iload X0.here hx rfl (hb hby d5_67) rfl k) ?_
      obtain ⟨cl2, Ar2, qa2, S2, M2, H2, U2⟩ := id Vx
      have hi2 := inb_of S2 (j := (2 : Int32)) ⟨by decide, by decide⟩
      have hat2 := H2.at hi2 (v := (.int y2)) rfl
      refine own_s s₁ (mkF m 70 #[rv ob, iv g, rv tx, iv fr, iv 3, iv 2, iv nb, own_j uu1, s_, iv 1, iv (-1), iv y1] [.int y2]) (fun t k => X0.caload hx (j := (2 : Int32)) (v := (.int y2)) (by rw [e0]; exact Ar2.1) (State.isArrayOf_alike hZ.alike Ar2.2.1) Ar2.2.2 hi2 hat2 (g := (mkF m 69 #[rv ob, iv g, rv tx, iv fr, iv 3, iv 2, iv nb, own_j uu1, s_, iv 1, iv (-1), iv y1] [.int 2, .ref tx])) rfl rfl (hb hby d5_69) t k) ?_
      refine own_s s₁ (mkF m 72 #[rv ob, iv g, rv tx, iv fr, iv 3, iv 2, iv nb, own_j uu1, s_, iv 1, iv (-1), iv y2] []) (fun t k => XS.istore X0.here hx rfl (hb hby d5_70) rfl (l' := #[rv ob, iv g, rv tx, iv fr, iv 3, iv 2, iv nb, own_j uu1, s_, iv 1, iv (-1), iv y2]) rfl k) ?_
      refine own_s s₁ (mkF m 74 #[rv ob, iv g, rv tx, iv fr, iv 3, iv 2, iv nb, own_j uu1, s_, iv 1, iv (-1), iv y2] [.int y2]) (fun t k => XS.iload X0.here hx rfl (hb hby d5_72) rfl k) ?_
      refine own_s s₁ (mkF m 76 #[rv ob, iv g, rv tx, iv fr, iv 3, iv 2, iv nb, own_j uu1, s_, iv 1, iv (-1), iv y2] [.int 46, .int y2]) (fun t k => XS.bipush X0.here hx rfl (hb hby d5_74) k) ?_
      refine own_s s₁ (mkF m 90 #[rv ob, iv g, rv tx, iv fr, iv 3, iv 2, iv nb, own_j uu1, s_, iv 1, iv (-1), iv y2] []) (fun t k => XS.icmpYes X0.here hx rfl (pc0 := 76) (pc' := 90) rfl (hb hby d5_76) rfl (feq (own_dne hd2 (by decide))).2 (by decide) (by decide) k) ?_
      refine own_s s₁ (mkF m 92 #[rv ob, iv g, rv tx, iv fr, iv 3, iv 2, iv nb, own_j uu1, s_, iv 1, iv (-1), iv y2] [.int y2]) (fun t k => XS.iload X0.here hx rfl (hb hby d5_90) rfl k) ?_
      refine own_s s₁ (mkF m 94 #[rv ob, iv g, rv tx, iv fr, iv 3, iv 2, iv nb, own_j uu1, s_, iv 1, iv (-1), iv y2] [.int 48, .int y2]) (fun t k => XS.bipush X0.here hx rfl (hb hby d5_92) k) ?_
      refine own_s s₁ (mkF m 97 #[rv ob, iv g, rv tx, iv fr, iv 3, iv 2, iv nb, own_j uu1, s_, iv 1, iv (-1), iv y2] []) (fun t k => XS.icmpNo X0.here hx rfl (hb hby d5_94) rfl (flt (own_d48 hd2)).1 k) ?_
      refine own_s s₁ (mkF m 99 #[rv ob, iv g, rv tx, iv fr, iv 3, iv 2, iv nb, own_j uu1, s_, iv 1, iv (-1), iv y2] [.int y2]) (fun t k => XS.iload X0.here hx rfl (hb hby d5_97) rfl k) ?_
      refine own_s s₁ (mkF m 101 #[rv ob, iv g, rv tx, iv fr, iv 3, iv 2, iv nb, own_j uu1, s_, iv 1, iv (-1), iv y2] [.int 57, .int y2]) (fun t k => XS.bipush X0.here hx rfl (hb hby d5_99) k) ?_
      refine own_s s₁ (mkF m 104 #[rv ob, iv g, rv tx, iv fr, iv 3, iv 2, iv nb, own_j uu1, s_, iv 1, iv (-1), iv y2] []) (fun t k => XS.icmpNo X0.here hx rfl (hb hby d5_101) rfl (flt (own_d57 hd2)).2.2.1 k) ?_
      refine own_s s₁ (mkF m 106 #[rv ob, iv g, rv tx, iv fr, iv 3, iv 2, iv nb, own_j uu1, s_, iv 1, iv (-1), iv y2] [.int 1]) (fun t k => XS.iload X0.here hx rfl (hb hby d5_104) rfl k) ?_
      refine own_s s₁ (mkF m 108 #[rv ob, iv g, rv tx, iv fr, iv 3, iv 2, iv nb, own_j uu1, s_, iv 1, iv (-1), iv y2] [.int 18, .int 1]) (fun t k => XS.bipush X0.here hx rfl (hb hby d5_106) k) ?_
      refine own_s s₁ (mkF m 111 #[rv ob, iv g, rv tx, iv fr, iv 3, iv 2, iv nb, own_j uu1, s_, iv 1, iv (-1), iv y2] []) (fun t k => XS.icmpNo X0.here hx rfl (hb hby d5_108) rfl (tlt (by decide : ((1 : Int32) < (18 : Int32)))).2.1 k) ?_
      refine own_s s₁ (mkF m 114 #[rv ob, iv g, rv tx, iv fr, iv 3, iv 2, iv nb, own_j uu1, s_, iv 1, iv (-1), iv y2] [.long 10]) (X0.ldc2Long hx hown (mvT hZ (hW 30 _ rfl)) (g := (mkF m 111 #[rv ob, iv g, rv tx, iv fr, iv 3, iv 2, iv nb, own_j uu1, s_, iv 1, iv (-1), iv y2] [])) rfl (hb hby d5_111)) ?_
      refine own_s s₁ (mkF m 116 #[rv ob, iv g, rv tx, iv fr, iv 3, iv 2, iv nb, own_j uu1, s_, iv 1, iv (-1), iv y2] [.long uu1, .long 10]) (fun t k => XS.lload X0.here hx rfl (hb hby d5_114) rfl k) ?_
      refine own_s s₁ (mkF m 117 #[rv ob, iv g, rv tx, iv fr, iv 3, iv 2, iv nb, own_j uu1, s_, iv 1, iv (-1), iv y2] [.long ((10 : Int64) * uu1)]) (fun t k => XS.lmul X0.here hx rfl (hb hby d5_116) rfl k) ?_
      refine own_s s₁ (mkF m 119 #[rv ob, iv g, rv tx, iv fr, iv 3, iv 2, iv nb, own_j uu1, s_, iv 1, iv (-1), iv y2] [.int y2, .long ((10 : Int64) * uu1)]) (fun t k => XS.iload X0.here hx rfl (hb hby d5_117) rfl k) ?_
      refine own_s s₁ (mkF m 121 #[rv ob, iv g, rv tx, iv fr, iv 3, iv 2, iv nb, own_j uu1, s_, iv 1, iv (-1), iv y2] [.int 48, .int y2, .long ((10 : Int64) * uu1)]) (fun t k => XS.bipush X0.here hx rfl (hb hby d5_119) k) ?_
      refine own_s s₁ (mkF m 122 #[rv ob, iv g, rv tx, iv fr, iv 3, iv 2, iv nb, own_j uu1, s_, iv 1, iv (-1), iv y2] [.int (y2 - (48 : Int32)), .long ((10 : Int64) * uu1)]) (fun t k => XS.isub X0.here hx rfl (hb hby d5_121) rfl k) ?_
      refine own_s s₁ (mkF m 123 #[rv ob, iv g, rv tx, iv fr, iv 3, iv 2, iv nb, own_j uu1, s_, iv 1, iv (-1), iv y2] [.long ((y2 - (48 : Int32)).toInt64), .long ((10 : Int64) * uu1)]) (fun t k => XS.i2l X0.here hx rfl (hb hby d5_122) rfl k) ?_
      refine own_s s₁ (mkF m 124 #[rv ob, iv g, rv tx, iv fr, iv 3, iv 2, iv nb, own_j uu1, s_, iv 1, iv (-1), iv y2] [.long (((10 : Int64) * uu1) + ((y2 - (48 : Int32)).toInt64))]) (fun t k => XS.ladd X0.here hx rfl (hb hby d5_123) rfl k) ?_
      refine own_s s₁ (mkF m 129 #[rv ob, iv g, rv tx, iv fr, iv 3, iv 2, iv nb, own_j uu1, s_, iv 1, iv (-1), iv y2] [.long (((10 : Int64) * uu1) + ((y2 - (48 : Int32)).toInt64))]) (fun t k => XS.goto X0.here hx rfl (pc0 := 124) (pc' := 129) rfl (hb hby d5_124) (by decide) (by decide) k) ?_
      generalize hd_uu2 : (((10 : Int64) * uu1) + ((y2 - (48 : Int32)).toInt64)) = uu2
      refine own_s s₁ (mkF m 131 #[rv ob, iv g, rv tx, iv fr, iv 3, iv 2, iv nb, own_j uu2, s_, iv 1, iv (-1), iv y2] []) (fun t k => XS.lstore X0.here hx rfl (hb hby d5_129) rfl (l' := #[rv ob, iv g, rv tx, iv fr, iv 3, iv 2, iv nb, own_j uu2, s_, iv 1, iv (-1), iv y2]) rfl k) ?_
      refine own_s s₁ (mkF m 134 #[rv ob, iv g, rv tx, iv fr, iv 3, iv 2, iv nb, own_j uu2, s_, iv 2, iv (-1), iv y2] []) (fun t k => XS.iinc X0.here hx rfl (hb hby d5_131) rfl (l' := #[rv ob, iv g, rv tx, iv fr, iv 3, iv 2, iv nb, own_j uu2, s_, iv 2, iv (-1), iv y2]) rfl k) ?_
      refine own_s s₁ (mkF m 136 #[rv ob, iv g, rv tx, iv fr, iv 3, iv 2, iv nb, own_j uu2, s_, iv 2, iv (-1), iv y2] [.int (-1)]) (fun t k => XS.iload X0.here hx rfl (hb hby d5_134) rfl k) ?_
      refine own_s s₁ (mkF m 147 #[rv ob, iv g, rv tx, iv fr, iv 3, iv 2, iv nb, own_j uu2, s_, iv 2, iv (-1), iv y2] []) (fun t k => XS.ifYes X0.here hx rfl (pc0 := 136) (pc' := 147) rfl (hb hby d5_136) rfl ((if0 _ _).trans (tlt (by decide : (((-1) : Int32) < (0 : Int32)))).1) (by decide) (by decide) k) ?_
      refine own_s s₁ (mkF m 150 #[rv ob, iv g, rv tx, iv fr, iv 3, iv 3, iv nb, own_j uu2, s_, iv 2, iv (-1), iv y2] []) (fun t k => XS.iinc X0.here hx rfl (hb hby d5_147) rfl (l' := #[rv ob, iv g, rv tx, iv fr, iv 3, iv 3, iv nb, own_j uu2, s_, iv 2, iv (-1), iv y2]) rfl k) ?_
      refine own_s s₁ (mkF m 59 #[rv ob, iv g, rv tx, iv fr, iv 3, iv 3, iv nb, own_j uu2, s_, iv 2, iv (-1), iv y2] []) (fun t k => XS.goto X0.here hx rfl (pc0 := 150) (pc' := 59) rfl (hb hby d5_150) (by decide) (by decide) k) ?_
      refine own_s s₁ (mkF m 61 #[rv ob, iv g, rv tx, iv fr, iv 3, iv 3, iv nb, own_j uu2, s_, iv 2, iv (-1), iv y2] [.int 3]) (fun t k => XS.iload X0.here hx rfl (hb hby d5_59) rfl k) ?_
      refine own_s s₁ (mkF m 63 #[rv ob, iv g, rv tx, iv fr, iv 3, iv 3, iv nb, own_j uu2, s_, iv 2, iv (-1), iv y2] [.int 3, .int 3]) (fun t k => XS.iload X0.here hx rfl (hb hby d5_61) rfl k) ?_
      refine own_s s₁ (mkF m 153 #[rv ob, iv g, rv tx, iv fr, iv 3, iv 3, iv nb, own_j uu2, s_, iv 2, iv (-1), iv y2] []) (fun t k => XS.icmpYes X0.here hx rfl (pc0 := 63) (pc' := 153) rfl (hb hby d5_63) rfl (flt (by decide : ¬ ((3 : Int32) < (3 : Int32)))).2.1 (by decide) (by decide) k) ?_
      refine own_s s₁ (mkF m 155 #[rv ob, iv g, rv tx, iv fr, iv 3, iv 3, iv nb, own_j uu2, s_, iv 2, iv (-1), iv y2] [.int 2]) (fun t k => XS.iload X0.here hx rfl (hb hby d5_153) rfl k) ?_
      refine own_s s₁ (mkF m 160 #[rv ob, iv g, rv tx, iv fr, iv 3, iv 3, iv nb, own_j uu2, s_, iv 2, iv (-1), iv y2] []) (fun t k => XS.ifYes X0.here hx rfl (pc0 := 155) (pc' := 160) rfl (hb hby d5_155) rfl ((if0 _ _).trans (feq (by decide : ¬ ((2 : Int32) = (0 : Int32)))).2) (by decide) (by decide) k) ?_
      refine own_s s₁ (mkF m 162 #[rv ob, iv g, rv tx, iv fr, iv 3, iv 3, iv nb, own_j uu2, s_, iv 2, iv (-1), iv y2] [.int (-1)]) (fun t k => XS.iload X0.here hx rfl (hb hby d5_160) rfl k) ?_
      refine own_s s₁ (mkF m 163 #[rv ob, iv g, rv tx, iv fr, iv 3, iv 3, iv nb, own_j uu2, s_, iv 2, iv (-1), iv y2] [.int 0, .int (-1)]) (fun t k => XS.iconst X0.here hx rfl (hb hby d5_162) k) ?_
      obtain ⟨_, _, ⟨T5, L5, k5, n5⟩, -, X5, ⟨Lc5, hQ5, lq5, yq5, zq5⟩, st5⟩ := Jvm.LawKit.callS X0 hx (y := (⟨"java/lang/Math", "max", "(II)I"⟩ : MethodName)) hown (mvT hZ (hW 31 _ rfl)) (mvT hZ (hW 32 _ rfl)) (mvT hZ (hW 33 _ rfl)) (mvT hZ (hW 34 _ rfl)) (by decide) (backOf (W := 0) (rm_maxlm1 l Z a0 hw []  h0 n0 Z0 ) hZ (hW 34 _ rfl) (hW 33 _ rfl) (by decide) (by decide)) (g := (mkF m 163 #[rv ob, iv g, rv tx, iv fr, iv 3, iv 3, iv nb, own_j uu2, s_, iv 2, iv (-1), iv y2] [.int 0, .int (-1)])) rfl (by rw [hml]; rfl) (argsL := [(.int ((-1) : Int32)), (.int (0 : Int32))]) (rest := []) (lenOf pd_3 rfl) rfl (by show 2 * 0 + _ ≤ _; exact Nat.le_of_eq rfl) (hb hby d5_163) (fun _ _ => ⟨rfl, e0, (by decide : 0 + 0 ≤ _), (by decide : 0 + 0 ≤ _)⟩)
      dsimp only [Pt.U, Pt.locs, Pt.cells, Pt.slots] at X5 lq5 yq5 zq5 st5 hQ5
      subst lq5 yq5 zq5
      obtain ⟨rfl, Nq5, eq4⟩ := hQ5
      have N5 := Fr.app N0 Nq5
      refine own_s T5 (mkF m 166 #[rv ob, iv g, rv tx, iv fr, iv 3, iv 3, iv nb, own_j uu2, s_, iv 2, iv (-1), iv y2] [.int 0]) st5 ?_
      refine own_s T5 (mkF m 168 #[rv ob, iv g, rv tx, iv fr, iv 3, iv 3, iv nb, own_j uu2, s_, iv 2, iv 0, iv y2] []) (fun t k => XS.istore X5.here hx rfl (hb hby d5_166) rfl (l' := #[rv ob, iv g, rv tx, iv fr, iv 3, iv 3, iv nb, own_j uu2, s_, iv 2, iv 0, iv y2]) rfl k) ?_
      refine own_s T5 (mkF m 170 #[rv ob, iv g, rv tx, iv fr, iv 3, iv 3, iv nb, own_j uu2, s_, iv 2, iv 0, iv y2] [.int 2]) (fun t k => XS.iload X5.here hx rfl (hb hby d5_168) rfl k) ?_
      refine own_s T5 (mkF m 172 #[rv ob, iv g, rv tx, iv fr, iv 3, iv 3, iv nb, own_j uu2, s_, iv 2, iv 0, iv y2] [.int 18, .int 2]) (fun t k => XS.bipush X5.here hx rfl (hb hby d5_170) k) ?_
      refine own_s T5 (mkF m 201 #[rv ob, iv g, rv tx, iv fr, iv 3, iv 3, iv nb, own_j uu2, s_, iv 2, iv 0, iv y2] []) (fun t k => XS.icmpYes X5.here hx rfl (pc0 := 172) (pc' := 201) rfl (hb hby d5_172) rfl (flt (by decide : ¬ ((18 : Int32) < (2 : Int32)))).2.2.2 (by decide) (by decide) k) ?_
      refine own_s T5 (mkF m 202 #[rv ob, iv g, rv tx, iv fr, iv 3, iv 3, iv nb, own_j uu2, s_, iv 2, iv 0, iv y2] [.ref ob]) (fun t k => XS.aloadN X5.here hx rfl (hb hby d5_201) rfl rfl k) ?_
      refine own_s T5 (mkF m 203 #[rv ob, iv g, rv tx, iv fr, iv 3, iv 3, iv nb, own_j uu2, s_, iv 2, iv 0, iv y2] [.int g, .ref ob]) (fun t k => XS.iloadN X5.here hx rfl (hb hby d5_202) rfl k) ?_
      refine own_s T5 (mkF m 205 #[rv ob, iv g, rv tx, iv fr, iv 3, iv 3, iv nb, own_j uu2, s_, iv 2, iv 0, iv y2] [.int nb, .int g, .ref ob]) (fun t k => XS.iload X5.here hx rfl (hb hby d5_203) rfl k) ?_
      have huu : uu2 = own_u d1 d2 := by rw [← hd_uu2, ← hd_uu1, own_dsub hd1, own_dsub hd2, Int64.zero_add]; rfl
      by_cases c205 : nb = (0 : Int32)
      · have hsv : own_sv ng (own_u d1 d2) = uu2 := by rw [own_sv, if_pos (hnb.symm.trans c205), huu]
        refine own_s T5 (mkF m 214 #[rv ob, iv g, rv tx, iv fr, iv 3, iv 3, iv nb, own_j uu2, s_, iv 2, iv 0, iv y2] [.int g, .ref ob]) (fun t k => XS.ifYes X5.here hx rfl (pc0 := 205) (pc' := 214) rfl (hb hby d5_205) rfl ((if0 _ _).trans (teq c205).1) (by decide) (by decide) k) ?_
        refine own_s T5 (mkF m 216 #[rv ob, iv g, rv tx, iv fr, iv 3, iv 3, iv nb, own_j uu2, s_, iv 2, iv 0, iv y2] [.long uu2, .int g, .ref ob]) (fun t k => XS.lload X5.here hx rfl (hb hby d5_214) rfl k) ?_
        refine own_s T5 (mkF m 218 #[rv ob, iv g, rv tx, iv fr, iv 3, iv 3, iv nb, own_j uu2, s_, iv 2, iv 0, iv y2] [.int 0, .long uu2, .int g, .ref ob]) (fun t k => XS.iload X5.here hx rfl (hb hby d5_216) rfl k) ?_
        obtain ⟨cq10, q10a, q10b⟩ := F_0.1.cell
        obtain ⟨_, _, ⟨T9, L9, k9, n9⟩, -, X9, ⟨Lc9, hQ9, lq9, yq9, zq9⟩, st9⟩ := own_privH X5 hx (y := (⟨"com/example/viewlattice/viewlattice/engine/DecimalSums", "addUnscaled", "(IJI)V"⟩ : MethodName)) hown (mvT hZ (hW 35 _ rfl)) (mvT hZ (hW 36 _ rfl)) (mvT hZ (hW 3 _ rfl)) (Cond.privateMethod_at (args := #[]) (mvP hZ (hW 37 _ rfl))) (mvT hZ (hW 38 _ rfl)) (by decide) (backOfWith (W := 0) (rm_au l Z a0 hw [] ob ar kr cap S v0 v1 v2 v3 g uu2 (0 : Int32) pw kp h0 n0 Z0 F_0 O0 hcap hg (own_hs1 hS (Or.inl rfl)) (own_hs2 hS (Or.inl rfl)) (by rw [huu]; exact own_usm hd1 hd2) hv0 hv1 hv2 hv3 S_p V_p) hZ (hW 38 _ rfl) (hW 4 _ rfl) (by decide) (by decide)) (g := (mkF m 218 #[rv ob, iv g, rv tx, iv fr, iv 3, iv 3, iv nb, own_j uu2, s_, iv 2, iv 0, iv y2] [.int 0, .long uu2, .int g, .ref ob])) rfl (by rw [hml]; rfl) (Steps.refl _) (a := ob) (cell := cq10) (by rw [eq4]; exact q10a) q10b (argsL := [(.int g), (.long uu2), (.int (0 : Int32))]) (rest := []) (lenOf pd_4 rfl) rfl (by show 2 * 0 + _ ≤ _; exact Nat.le_of_eq rfl) (hb hby d5_218) (fun _ _ => ⟨rfl, eq4, (by decide : 0 + 1 ≤ _), (by decide : 0 + 4 ≤ _)⟩)
        dsimp only [Pt.U, Pt.locs, Pt.cells, Pt.slots] at X9 lq9 yq9 zq9 st9 hQ9
        subst lq9 yq9 zq9
        obtain ⟨b_6, kb_6, rfl, Nq9, K7, g8, pz7⟩ := hQ9
        have N9 := Fr.app N5 Nq9
        have g11 : Arv Z T9.heap tx kx .char (4 : Int32) [(.int sg), (.int y1), (.int y2), (.int (48 : Int32))] (.int (0 : Int32)) := Vx.keep K7 (ninS (Ne.symm n_ob_tx) (ninS (Ne.symm n_ar_tx) nin0))
        have Z7 : n0 ≤ T9.heap.size := (Nat.le_trans Z0 K7.1)
        have O7 : Old Z n0 T9.heap := O0.keep K7 (allS (P := fun x => n0 ≤ x) F_0.2.2.2.2.2.1 (allS (P := fun x => n0 ≤ x) F_0.2.2.2.2.2.2 all0))
        have K12 : Keep h0 T9.heap [ob, ar] := K0.trans K7 (allS (P := fun x => x ∈ [ob, ar] ∨ h0.size ≤ x) (Or.inl (List.mem_of_getElem? (i := 0) rfl)) (allS (P := fun x => x ∈ [ob, ar] ∨ h0.size ≤ x) (Or.inl (List.mem_of_getElem? (i := 1) rfl)) all0))
        have nb7_2 : tx ≠ b_6 := fun z => pz7.elim (fun y => (Ne.symm n_ar_tx) (z.trans y)) (fun y => Nat.ne_of_lt (Nat.lt_of_lt_of_le Vx.lt y) z)
        refine own_tr (T' := T9) (g' := (mkF m 221 #[rv ob, iv g, rv tx, iv fr, iv 3, iv 3, iv nb, own_j uu2, s_, iv 2, iv 0, iv y2] [])) st9 ?_
        refine own_s T9 (mkF m 222 #[rv ob, iv g, rv tx, iv fr, iv 3, iv 3, iv nb, own_j uu2, s_, iv 2, iv 0, iv y2] [.int 1]) (fun t k => XS.iconst X9.here hx rfl (hb hby d5_221) k) ?_
        refine own_rN X9 hx hlk Bd.returns (by simp) (hb hby d5_222) ?_ (by decide) (by decide)
        exact ⟨b_6, kb_6, rfl, N9, K12, (by rw [hsv]; exact g8), pz7⟩
      · have hsv : own_sv ng (own_u d1 d2) = (-uu2) := by rw [own_sv, if_neg (fun q => c205 (hnb.trans q)), huu]
        refine own_s T5 (mkF m 208 #[rv ob, iv g, rv tx, iv fr, iv 3, iv 3, iv nb, own_j uu2, s_, iv 2, iv 0, iv y2] [.int g, .ref ob]) (fun t k => XS.ifNo X5.here hx rfl (hb hby d5_205) rfl ((if0 _ _).trans (feq c205).1) k) ?_
        refine own_s T5 (mkF m 210 #[rv ob, iv g, rv tx, iv fr, iv 3, iv 3, iv nb, own_j uu2, s_, iv 2, iv 0, iv y2] [.long uu2, .int g, .ref ob]) (fun t k => XS.lload X5.here hx rfl (hb hby d5_208) rfl k) ?_
        refine own_s T5 (mkF m 211 #[rv ob, iv g, rv tx, iv fr, iv 3, iv 3, iv nb, own_j uu2, s_, iv 2, iv 0, iv y2] [.long (-uu2), .int g, .ref ob]) (fun t k => XS.lneg X5.here hx rfl (hb hby d5_210) rfl k) ?_
        refine own_s T5 (mkF m 216 #[rv ob, iv g, rv tx, iv fr, iv 3, iv 3, iv nb, own_j uu2, s_, iv 2, iv 0, iv y2] [.long (-uu2), .int g, .ref ob]) (fun t k => XS.goto X5.here hx rfl (pc0 := 211) (pc' := 216) rfl (hb hby d5_211) (by decide) (by decide) k) ?_
        refine own_s T5 (mkF m 218 #[rv ob, iv g, rv tx, iv fr, iv 3, iv 3, iv nb, own_j uu2, s_, iv 2, iv 0, iv y2] [.int 0, .long (-uu2), .int g, .ref ob]) (fun t k => XS.iload X5.here hx rfl (hb hby d5_216) rfl k) ?_
        obtain ⟨cq17, q17a, q17b⟩ := F_0.1.cell
        obtain ⟨_, _, ⟨T16, L16, k16, n16⟩, -, X16, ⟨Lc16, hQ16, lq16, yq16, zq16⟩, st16⟩ := own_privH X5 hx (y := (⟨"com/example/viewlattice/viewlattice/engine/DecimalSums", "addUnscaled", "(IJI)V"⟩ : MethodName)) hown (mvT hZ (hW 35 _ rfl)) (mvT hZ (hW 36 _ rfl)) (mvT hZ (hW 3 _ rfl)) (Cond.privateMethod_at (args := #[]) (mvP hZ (hW 37 _ rfl))) (mvT hZ (hW 38 _ rfl)) (by decide) (backOfWith (W := 0) (rm_au l Z a0 hw [] ob ar kr cap S v0 v1 v2 v3 g (-uu2) (0 : Int32) pw kp h0 n0 Z0 F_0 O0 hcap hg (own_hs1 hS (Or.inl rfl)) (own_hs2 hS (Or.inl rfl)) (by rw [huu]; exact own_unsm hd1 hd2) hv0 hv1 hv2 hv3 S_p V_p) hZ (hW 38 _ rfl) (hW 4 _ rfl) (by decide) (by decide)) (g := (mkF m 218 #[rv ob, iv g, rv tx, iv fr, iv 3, iv 3, iv nb, own_j uu2, s_, iv 2, iv 0, iv y2] [.int 0, .long (-uu2), .int g, .ref ob])) rfl (by rw [hml]; rfl) (Steps.refl _) (a := ob) (cell := cq17) (by rw [eq4]; exact q17a) q17b (argsL := [(.int g), (.long (-uu2)), (.int (0 : Int32))]) (rest := []) (lenOf pd_4 rfl) rfl (by show 2 * 0 + _ ≤ _; exact Nat.le_of_eq rfl) (hb hby d5_218) (fun _ _ => ⟨rfl, eq4, (by decide : 0 + 1 ≤ _), (by decide : 0 + 4 ≤ _)⟩)
        dsimp only [Pt.U, Pt.locs, Pt.cells, Pt.slots] at X16 lq16 yq16 zq16 st16 hQ16
        subst lq16 yq16 zq16
        obtain ⟨b_13, kb_13, rfl, Nq16, K14, g15, pz14⟩ := hQ16
        have N16 := Fr.app N5 Nq16
        have g18 : Arv Z T16.heap tx kx .char (4 : Int32) [(.int sg), (.int y1), (.int y2), (.int (48 : Int32))] (.int (0 : Int32)) := Vx.keep K14 (ninS (Ne.symm n_ob_tx) (ninS (Ne.symm n_ar_tx) nin0))
        have Z14 : n0 ≤ T16.heap.size := (Nat.le_trans Z0 K14.1)
        have O14 : Old Z n0 T16.heap := O0.keep K14 (allS (P := fun x => n0 ≤ x) F_0.2.2.2.2.2.1 (allS (P := fun x => n0 ≤ x) F_0.2.2.2.2.2.2 all0))
        have K19 : Keep h0 T16.heap [ob, ar] := K0.trans K14 (allS (P := fun x => x ∈ [ob, ar] ∨ h0.size ≤ x) (Or.inl (List.mem_of_getElem? (i := 0) rfl)) (allS (P := fun x => x ∈ [ob, ar] ∨ h0.size ≤ x) (Or.inl (List.mem_of_getElem? (i := 1) rfl)) all0))
        have nb14_2 : tx ≠ b_13 := fun z => pz14.elim (fun y => (Ne.symm n_ar_tx) (z.trans y)) (fun y => Nat.ne_of_lt (Nat.lt_of_lt_of_le Vx.lt y) z)
        refine own_tr (T' := T16) (g' := (mkF m 221 #[rv ob, iv g, rv tx, iv fr, iv 3, iv 3, iv nb, own_j uu2, s_, iv 2, iv 0, iv y2] [])) st16 ?_
        refine own_s T16 (mkF m 222 #[rv ob, iv g, rv tx, iv fr, iv 3, iv 3, iv nb, own_j uu2, s_, iv 2, iv 0, iv y2] [.int 1]) (fun t k => XS.iconst X16.here hx rfl (hb hby d5_221) k) ?_
        refine own_rN X16 hx hlk Bd.returns (by simp) (hb hby d5_222) ?_ (by decide) (by decide)
        exact ⟨b_13, kb_13, rfl, N16, K19, (by rw [hsv]; exact g15), pz14⟩
    rcases hfr with ⟨hf0, hsg, hng⟩ | ⟨hf0, hsg, hng⟩ | ⟨hf0, hng⟩
    · subst hf0
      refine own_s s₁ (mkF m 1 #[rv ob, iv g, rv tx, iv 0, iv 3, u_, u_, u_, u_, u_, u_, u_] [.int 0]) (fun t k => XS.iloadN X0.here hx rfl (hb hby d5_0) rfl k) ?_
      refine own_s s₁ (mkF m 3 #[rv ob, iv g, rv tx, iv 0, iv 3, iv 0, u_, u_, u_, u_, u_, u_] []) (fun t k => XS.istore X0.here hx rfl (hb hby d5_1) rfl (l' := #[rv ob, iv g, rv tx, iv 0, iv 3, iv 0, u_, u_, u_, u_, u_, u_]) rfl k) ?_
      refine own_s s₁ (mkF m 4 #[rv ob, iv g, rv tx, iv 0, iv 3, iv 0, u_, u_, u_, u_, u_, u_] [.int 0]) (fun t k => XS.iconst X0.here hx rfl (hb hby d5_3) k) ?_
      refine own_s s₁ (mkF m 6 #[rv ob, iv g, rv tx, iv 0, iv 3, iv 0, iv 0, u_, u_, u_, u_, u_] []) (fun t k => XS.istore X0.here hx rfl (hb hby d5_4) rfl (l' := #[rv ob, iv g, rv tx, iv 0, iv 3, iv 0, iv 0, u_, u_, u_, u_, u_]) rfl k) ?_
      refine own_s s₁ (mkF m 8 #[rv ob, iv g, rv tx, iv 0, iv 3, iv 0, iv 0, u_, u_, u_, u_, u_] [.int 0]) (fun t k => XS.iload X0.here hx rfl (hb hby d5_6) rfl k) ?_
      refine own_s s₁ (mkF m 10 #[rv ob, iv g, rv tx, iv 0, iv 3, iv 0, iv 0, u_, u_, u_, u_, u_] [.int 3, .int 0]) (fun t k => XS.iload X0.here hx rfl (hb hby d5_8) rfl k) ?_
      refine own_s s₁ (mkF m 13 #[rv ob, iv g, rv tx, iv 0, iv 3, iv 0, iv 0, u_, u_, u_, u_, u_] []) (fun t k => XS.icmpNo X0.here hx rfl (hb hby d5_10) rfl (tlt (by decide : ((0 : Int32) < (3 : Int32)))).2.1 k) ?_
      refine own_s s₁ (mkF m 14 #[rv ob, iv g, rv tx, iv 0, iv 3, iv 0, iv 0, u_, u_, u_, u_, u_] [.ref tx]) (fun t k => XS.aloadN X0.here hx rfl (hb hby d5_13) rfl rfl k) ?_
      refine own_s s₁ (mkF m 16 #[rv ob, iv g, rv tx, iv 0, iv 3, iv 0, iv 0, u_, u_, u_, u_, u_] [.int 0, .ref tx]) (fun t k => XS.iload X0.here hx rfl (hb hby d5_14) rfl k) ?_
      obtain ⟨cl20, Ar20, qa20, S20, M20, H20, U20⟩ := id Vx
      have hi20 := inb_of S20 (j := (0 : Int32)) ⟨by decide, by decide⟩
      have hat20 := H20.at hi20 (v := (.int sg)) rfl
      refine own_s s₁ (mkF m 17 #[rv ob, iv g, rv tx, iv 0, iv 3, iv 0, iv 0, u_, u_, u_, u_, u_] [.int sg]) (fun t k => X0.caload hx (j := (0 : Int32)) (v := (.int sg)) (by rw [e0]; exact Ar20.1) (State.isArrayOf_alike hZ.alike Ar20.2.1) Ar20.2.2 hi20 hat20 (g := (mkF m 16 #[rv ob, iv g, rv tx, iv 0, iv 3, iv 0, iv 0, u_, u_, u_, u_, u_] [.int 0, .ref tx])) rfl rfl (hb hby d5_16) t k) ?_
      refine own_s s₁ (mkF m 19 #[rv ob, iv g, rv tx, iv 0, iv 3, iv 0, iv 0, u_, u_, u_, u_, u_] [.int 45, .int sg]) (fun t k => XS.bipush X0.here hx rfl (hb hby d5_17) k) ?_
      refine own_s s₁ (mkF m 31 #[rv ob, iv g, rv tx, iv 0, iv 3, iv 0, iv 0, u_, u_, u_, u_, u_] []) (fun t k => XS.icmpYes X0.here hx rfl (pc0 := 19) (pc' := 31) rfl (hb hby d5_19) rfl (teq hsg).1 (by decide) (by decide) k) ?_
      refine own_s s₁ (mkF m 32 #[rv ob, iv g, rv tx, iv 0, iv 3, iv 0, iv 0, u_, u_, u_, u_, u_] [.ref tx]) (fun t k => XS.aloadN X0.here hx rfl (hb hby d5_31) rfl rfl k) ?_
      refine own_s s₁ (mkF m 34 #[rv ob, iv g, rv tx, iv 0, iv 3, iv 0, iv 0, u_, u_, u_, u_, u_] [.int 0, .ref tx]) (fun t k => XS.iload X0.here hx rfl (hb hby d5_32) rfl k) ?_
      obtain ⟨cl21, Ar21, qa21, S21, M21, H21, U21⟩ := id Vx
      have hi21 := inb_of S21 (j := (0 : Int32)) ⟨by decide, by decide⟩
      have hat21 := H21.at hi21 (v := (.int sg)) rfl
      refine own_s s₁ (mkF m 35 #[rv ob, iv g, rv tx, iv 0, iv 3, iv 0, iv 0, u_, u_, u_, u_, u_] [.int sg]) (fun t k => X0.caload hx (j := (0 : Int32)) (v := (.int sg)) (by rw [e0]; exact Ar21.1) (State.isArrayOf_alike hZ.alike Ar21.2.1) Ar21.2.2 hi21 hat21 (g := (mkF m 34 #[rv ob, iv g, rv tx, iv 0, iv 3, iv 0, iv 0, u_, u_, u_, u_, u_] [.int 0, .ref tx])) rfl rfl (hb hby d5_34) t k) ?_
      refine own_s s₁ (mkF m 37 #[rv ob, iv g, rv tx, iv 0, iv 3, iv 0, iv 0, u_, u_, u_, u_, u_] [.int 45, .int sg]) (fun t k => XS.bipush X0.here hx rfl (hb hby d5_35) k) ?_
      refine own_s s₁ (mkF m 40 #[rv ob, iv g, rv tx, iv 0, iv 3, iv 0, iv 0, u_, u_, u_, u_, u_] []) (fun t k => XS.icmpNo X0.here hx rfl (hb hby d5_37) rfl (teq hsg).2 k) ?_
      refine own_s s₁ (mkF m 41 #[rv ob, iv g, rv tx, iv 0, iv 3, iv 0, iv 0, u_, u_, u_, u_, u_] [.int 1]) (fun t k => XS.iconst X0.here hx rfl (hb hby d5_40) k) ?_
      refine own_s s₁ (mkF m 45 #[rv ob, iv g, rv tx, iv 0, iv 3, iv 0, iv 0, u_, u_, u_, u_, u_] [.int 1]) (fun t k => XS.goto X0.here hx rfl (pc0 := 41) (pc' := 45) rfl (hb hby d5_41) (by decide) (by decide) k) ?_
      refine own_s s₁ (mkF m 47 #[rv ob, iv g, rv tx, iv 0, iv 3, iv 0, iv 1, u_, u_, u_, u_, u_] []) (fun t k => XS.istore X0.here hx rfl (hb hby d5_45) rfl (l' := #[rv ob, iv g, rv tx, iv 0, iv 3, iv 0, iv 1, u_, u_, u_, u_, u_]) rfl k) ?_
      refine own_s s₁ (mkF m 50 #[rv ob, iv g, rv tx, iv 0, iv 3, iv 1, iv 1, u_, u_, u_, u_, u_] []) (fun t k => XS.iinc X0.here hx rfl (hb hby d5_47) rfl (l' := #[rv ob, iv g, rv tx, iv 0, iv 3, iv 1, iv 1, u_, u_, u_, u_, u_]) rfl k) ?_
      exact j50 _ hng.symm
    · subst hf0
      refine own_s s₁ (mkF m 1 #[rv ob, iv g, rv tx, iv 0, iv 3, u_, u_, u_, u_, u_, u_, u_] [.int 0]) (fun t k => XS.iloadN X0.here hx rfl (hb hby d5_0) rfl k) ?_
      refine own_s s₁ (mkF m 3 #[rv ob, iv g, rv tx, iv 0, iv 3, iv 0, u_, u_, u_, u_, u_, u_] []) (fun t k => XS.istore X0.here hx rfl (hb hby d5_1) rfl (l' := #[rv ob, iv g, rv tx, iv 0, iv 3, iv 0, u_, u_, u_, u_, u_, u_]) rfl k) ?_
      refine own_s s₁ (mkF m 4 #[rv ob, iv g, rv tx, iv 0, iv 3, iv 0, u_, u_, u_, u_, u_, u_] [.int 0]) (fun t k => XS.iconst X0.here hx rfl (hb hby d5_3) k) ?_
      refine own_s s₁ (mkF m 6 #[rv ob, iv g, rv tx, iv 0, iv 3, iv 0, iv 0, u_, u_, u_, u_, u_] []) (fun t k => XS.istore X0.here hx rfl (hb hby d5_4) rfl (l' := #[rv ob, iv g, rv tx, iv 0, iv 3, iv 0, iv 0, u_, u_, u_, u_, u_]) rfl k) ?_
      refine own_s s₁ (mkF m 8 #[rv ob, iv g, rv tx, iv 0, iv 3, iv 0, iv 0, u_, u_, u_, u_, u_] [.int 0]) (fun t k => XS.iload X0.here hx rfl (hb hby d5_6) rfl k) ?_
      refine own_s s₁ (mkF m 10 #[rv ob, iv g, rv tx, iv 0, iv 3, iv 0, iv 0, u_, u_, u_, u_, u_] [.int 3, .int 0]) (fun t k => XS.iload X0.here hx rfl (hb hby d5_8) rfl k) ?_
      refine own_s s₁ (mkF m 13 #[rv ob, iv g, rv tx, iv 0, iv 3, iv 0, iv 0, u_, u_, u_, u_, u_] []) (fun t k => XS.icmpNo X0.here hx rfl (hb hby d5_10) rfl (tlt (by decide : ((0 : Int32) < (3 : Int32)))).2.1 k) ?_
      refine own_s s₁ (mkF m 14 #[rv ob, iv g, rv tx, iv 0, iv 3, iv 0, iv 0, u_, u_, u_, u_, u_] [.ref tx]) (fun t k => XS.aloadN X0.here hx rfl (hb hby d5_13) rfl rfl k) ?_
      refine own_s s₁ (mkF m 16 #[rv ob, iv g, rv tx, iv 0, iv 3, iv 0, iv 0, u_, u_, u_, u_, u_] [.int 0, .ref tx]) (fun t k => XS.iload X0.here hx rfl (hb hby d5_14) rfl k) ?_
      obtain ⟨cl22, Ar22, qa22, S22, M22, H22, U22⟩ := id Vx
      have hi22 := inb_of S22 (j := (0 : Int32)) ⟨by decide, by decide⟩
      have hat22 := H22.at hi22 (v := (.int sg)) rfl
      refine own_s s₁ (mkF m 17 #[rv ob, iv g, rv tx, iv 0, iv 3, iv 0, iv 0, u_, u_, u_, u_, u_] [.int sg]) (fun t k => X0.caload hx (j := (0 : Int32)) (v := (.int sg)) (by rw [e0]; exact Ar22.1) (State.isArrayOf_alike hZ.alike Ar22.2.1) Ar22.2.2 hi22 hat22 (g := (mkF m 16 #[rv ob, iv g, rv tx, iv 0, iv 3, iv 0, iv 0, u_, u_, u_, u_, u_] [.int 0, .ref tx])) rfl rfl (hb hby d5_16) t k) ?_
      refine own_s s₁ (mkF m 19 #[rv ob, iv g, rv tx, iv 0, iv 3, iv 0, iv 0, u_, u_, u_, u_, u_] [.int 45, .int sg]) (fun t k => XS.bipush X0.here hx rfl (hb hby d5_17) k) ?_
      refine own_s s₁ (mkF m 22 #[rv ob, iv g, rv tx, iv 0, iv 3, iv 0, iv 0, u_, u_, u_, u_, u_] []) (fun t k => XS.icmpNo X0.here hx rfl (hb hby d5_19) rfl (feq (by rw [hsg]; decide)).1 k) ?_
      refine own_s s₁ (mkF m 23 #[rv ob, iv g, rv tx, iv 0, iv 3, iv 0, iv 0, u_, u_, u_, u_, u_] [.ref tx]) (fun t k => XS.aloadN X0.here hx rfl (hb hby d5_22) rfl rfl k) ?_
      refine own_s s₁ (mkF m 25 #[rv ob, iv g, rv tx, iv 0, iv 3, iv 0, iv 0, u_, u_, u_, u_, u_] [.int 0, .ref tx]) (fun t k => XS.iload X0.here hx rfl (hb hby d5_23) rfl k) ?_
      obtain ⟨cl23, Ar23, qa23, S23, M23, H23, U23⟩ := id Vx
      have hi23 := inb_of S23 (j := (0 : Int32)) ⟨by decide, by decide⟩
      have hat23 := H23.at hi23 (v := (.int sg)) rfl
      refine own_s s₁ (mkF m 26 #[rv ob, iv g, rv tx, iv 0, iv 3, iv 0, iv 0, u_, u_, u_, u_, u_] [.int sg]) (fun t k => X0.caload hx (j := (0 : Int32)) (v := (.int sg)) (by rw [e0]; exact Ar23.1) (State.isArrayOf_alike hZ.alike Ar23.2.1) Ar23.2.2 hi23 hat23 (g := (mkF m 25 #[rv ob, iv g, rv tx, iv 0, iv 3, iv 0, iv 0, u_, u_, u_, u_, u_] [.int 0, .ref tx])) rfl rfl (hb hby d5_25) t k) ?_
      refine own_s s₁ (mkF m 28 #[rv ob, iv g, rv tx, iv 0, iv 3, iv 0, iv 0, u_, u_, u_, u_, u_] [.int 43, .int sg]) (fun t k => XS.bipush X0.here hx rfl (hb hby d5_26) k) ?_
      refine own_s s₁ (mkF m 31 #[rv ob, iv g, rv tx, iv 0, iv 3, iv 0, iv 0, u_, u_, u_, u_, u_] []) (fun t k => XS.icmpNo X0.here hx rfl (hb hby d5_28) rfl (teq hsg).2 k) ?_
      refine own_s s₁ (mkF m 32 #[rv ob, iv g, rv tx, iv 0, iv 3, iv 0, iv 0, u_, u_, u_, u_, u_] [.ref tx]) (fun t k => XS.aloadN X0.here hx rfl (hb hby d5_31) rfl rfl k) ?_
      refine own_s s₁ (mkF m 34 #[rv ob, iv g, rv tx, iv 0, iv 3, iv 0, iv 0, u_, u_, u_, u_, u_] [.int 0, .ref tx]) (fun t k => XS.iload X0.here hx rfl (hb hby d5_32) rfl k) ?_
      obtain ⟨cl24, Ar24, qa24, S24, M24, H24, U24⟩ := id Vx
      have hi24 := inb_of S24 (j := (0 : Int32)) ⟨by decide, by decide⟩
      have hat24 := H24.at hi24 (v := (.int sg)) rfl
      refine own_s s₁ (mkF m 35 #[rv ob, iv g, rv tx, iv 0, iv 3, iv 0, iv 0, u_, u_, u_, u_, u_] [.int sg]) (fun t k => X0.caload hx (j := (0 : Int32)) (v := (.int sg)) (by rw [e0]; exact Ar24.1) (State.isArrayOf_alike hZ.alike Ar24.2.1) Ar24.2.2 hi24 hat24 (g := (mkF m 34 #[rv ob, iv g, rv tx, iv 0, iv 3, iv 0, iv 0, u_, u_, u_, u_, u_] [.int 0, .ref tx])) rfl rfl (hb hby d5_34) t k) ?_
      refine own_s s₁ (mkF m 37 #[rv ob, iv g, rv tx, iv 0, iv 3, iv 0, iv 0, u_, u_, u_, u_, u_] [.int 45, .int sg]) (fun t k => XS.bipush X0.here hx rfl (hb hby d5_35) k) ?_
      refine own_s s₁ (mkF m 44 #[rv ob, iv g, rv tx, iv 0, iv 3, iv 0, iv 0, u_, u_, u_, u_, u_] []) (fun t k => XS.icmpYes X0.here hx rfl (pc0 := 37) (pc' := 44) rfl (hb hby d5_37) rfl (feq (by rw [hsg]; decide)).2 (by decide) (by decide) k) ?_
      refine own_s s₁ (mkF m 45 #[rv ob, iv g, rv tx, iv 0, iv 3, iv 0, iv 0, u_, u_, u_, u_, u_] [.int 0]) (fun t k => XS.iconst X0.here hx rfl (hb hby d5_44) k) ?_
      refine own_s s₁ (mkF m 47 #[rv ob, iv g, rv tx, iv 0, iv 3, iv 0, iv 0, u_, u_, u_, u_, u_] []) (fun t k => XS.istore X0.here hx rfl (hb hby d5_45) rfl (l' := #[rv ob, iv g, rv tx, iv 0, iv 3, iv 0, iv 0, u_, u_, u_, u_, u_]) rfl k) ?_
      refine own_s s₁ (mkF m 50 #[rv ob, iv g, rv tx, iv 0, iv 3, iv 1, iv 0, u_, u_, u_, u_, u_] []) (fun t k => XS.iinc X0.here hx rfl (hb hby d5_47) rfl (l' := #[rv ob, iv g, rv tx, iv 0, iv 3, iv 1, iv 0, u_, u_, u_, u_, u_]) rfl k) ?_
      exact j50 _ hng.symm
    · subst hf0
      refine own_s s₁ (mkF m 1 #[rv ob, iv g, rv tx, iv 1, iv 3, u_, u_, u_, u_, u_, u_, u_] [.int 1]) (fun t k => XS.iloadN X0.here hx rfl (hb hby d5_0) rfl k) ?_
      refine own_s s₁ (mkF m 3 #[rv ob, iv g, rv tx, iv 1, iv 3, iv 1, u_, u_, u_, u_, u_, u_] []) (fun t k => XS.istore X0.here hx rfl (hb hby d5_1) rfl (l' := #[rv ob, iv g, rv tx, iv 1, iv 3, iv 1, u_, u_, u_, u_, u_, u_]) rfl k) ?_
      refine own_s s₁ (mkF m 4 #[rv ob, iv g, rv tx, iv 1, iv 3, iv 1, u_, u_, u_, u_, u_, u_] [.int 0]) (fun t k => XS.iconst X0.here hx rfl (hb hby d5_3) k) ?_
      refine own_s s₁ (mkF m 6 #[rv ob, iv g, rv tx, iv 1, iv 3, iv 1, iv 0, u_, u_, u_, u_, u_] []) (fun t k => XS.istore X0.here hx rfl (hb hby d5_4) rfl (l' := #[rv ob, iv g, rv tx, iv 1, iv 3, iv 1, iv 0, u_, u_, u_, u_, u_]) rfl k) ?_
      refine own_s s₁ (mkF m 8 #[rv ob, iv g, rv tx, iv 1, iv 3, iv 1, iv 0, u_, u_, u_, u_, u_] [.int 1]) (fun t k => XS.iload X0.here hx rfl (hb hby d5_6) rfl k) ?_
      refine own_s s₁ (mkF m 10 #[rv ob, iv g, rv tx, iv 1, iv 3, iv 1, iv 0, u_, u_, u_, u_, u_] [.int 3, .int 1]) (fun t k => XS.iload X0.here hx rfl (hb hby d5_8) rfl k) ?_
      refine own_s s₁ (mkF m 13 #[rv ob, iv g, rv tx, iv 1, iv 3, iv 1, iv 0, u_, u_, u_, u_, u_] []) (fun t k => XS.icmpNo X0.here hx rfl (hb hby d5_10) rfl (tlt (by decide : ((1 : Int32) < (3 : Int32)))).2.1 k) ?_
      refine own_s s₁ (mkF m 14 #[rv ob, iv g, rv tx, iv 1, iv 3, iv 1, iv 0, u_, u_, u_, u_, u_] [.ref tx]) (fun t k => XS.aloadN X0.here hx rfl (hb hby d5_13) rfl rfl k) ?_
      refine own_s s₁ (mkF m 16 #[rv ob, iv g, rv tx, iv 1, iv 3, iv 1, iv 0, u_, u_, u_, u_, u_] [.int 1, .ref tx]) (fun t k => XS.iload X0.here hx rfl (hb hby d5_14) rfl k) ?_
      obtain ⟨cl25, Ar25, qa25, S25, M25, H25, U25⟩ := id Vx
      have hi25 := inb_of S25 (j := (1 : Int32)) ⟨by decide, by decide⟩
      have hat25 := H25.at hi25 (v := (.int y1)) rfl
      refine own_s s₁ (mkF m 17 #[rv ob, iv g, rv tx, iv 1, iv 3, iv 1, iv 0, u_, u_, u_, u_, u_] [.int y1]) (fun t k => X0.caload hx (j := (1 : Int32)) (v := (.int y1)) (by rw [e0]; exact Ar25.1) (State.isArrayOf_alike hZ.alike Ar25.2.1) Ar25.2.2 hi25 hat25 (g := (mkF m 16 #[rv ob, iv g, rv tx, iv 1, iv 3, iv 1, iv 0, u_, u_, u_, u_, u_] [.int 1, .ref tx])) rfl rfl (hb hby d5_16) t k) ?_
      refine own_s s₁ (mkF m 19 #[rv ob, iv g, rv tx, iv 1, iv 3, iv 1, iv 0, u_, u_, u_, u_, u_] [.int 45, .int y1]) (fun t k => XS.bipush X0.here hx rfl (hb hby d5_17) k) ?_
      refine own_s s₁ (mkF m 22 #[rv ob, iv g, rv tx, iv 1, iv 3, iv 1, iv 0, u_, u_, u_, u_, u_] []) (fun t k => XS.icmpNo X0.here hx rfl (hb hby d5_19) rfl (feq (own_dne hd1 (by decide))).1 k) ?_
      refine own_s s₁ (mkF m 23 #[rv ob, iv g, rv tx, iv 1, iv 3, iv 1, iv 0, u_, u_, u_, u_, u_] [.ref tx]) (fun t k => XS.aloadN X0.here hx rfl (hb hby d5_22) rfl rfl k) ?_
      refine own_s s₁ (mkF m 25 #[rv ob, iv g, rv tx, iv 1, iv 3, iv 1, iv 0, u_, u_, u_, u_, u_] [.int 1, .ref tx]) (fun t k => XS.iload X0.here hx rfl (hb hby d5_23) rfl k) ?_
      obtain ⟨cl26, Ar26, qa26, S26, M26, H26, U26⟩ := id Vx
      have hi26 := inb_of S26 (j := (1 : Int32)) ⟨by decide, by decide⟩
      have hat26 := H26.at hi26 (v := (.int y1)) rfl
      refine own_s s₁ (mkF m 26 #[rv ob, iv g, rv tx, iv 1, iv 3, iv 1, iv 0, u_, u_, u_, u_, u_] [.int y1]) (fun t k => X0.caload hx (j := (1 : Int32)) (v := (.int y1)) (by rw [e0]; exact Ar26.1) (State.isArrayOf_alike hZ.alike Ar26.2.1) Ar26.2.2 hi26 hat26 (g := (mkF m 25 #[rv ob, iv g, rv tx, iv 1, iv 3, iv 1, iv 0, u_, u_, u_, u_, u_] [.int 1, .ref tx])) rfl rfl (hb hby d5_25) t k) ?_
      refine own_s s₁ (mkF m 28 #[rv ob, iv g, rv tx, iv 1, iv 3, iv 1, iv 0, u_, u_, u_, u_, u_] [.int 43, .int y1]) (fun t k => XS.bipush X0.here hx rfl (hb hby d5_26) k) ?_
      refine own_s s₁ (mkF m 50 #[rv ob, iv g, rv tx, iv 1, iv 3, iv 1, iv 0, u_, u_, u_, u_, u_] []) (fun t k => XS.icmpYes X0.here hx rfl (pc0 := 28) (pc' := 50) rfl (hb hby d5_28) rfl (feq (own_dne hd1 (by decide))).2 (by decide) (by decide) k) ?_
      exact j50 _ hng.symm
  · refine own_cast (g' := (mkF m 0 #[rv ob, iv g, rv tx, iv fr, iv 4, u_, u_, u_, u_, u_, u_, u_] [])) rfl ?_
    have Vx : Arv Z h0 tx kx .char (4 : Int32) [(.int sg), (.int y1), (.int (46 : Int32)), (.int y2)] (.int (0 : Int32)) := F_1
    have j50 : ∀ (nb : Int32), nb = ng → own_Go p e below s (Q_add1 Z ob ar kr cap S v0 v1 v2 v3 g tx kx fr (1 : Int32) sg y1 y2 d1 d2 ng pw kp h0 n0) ({ frames := 4, cells := 1, slots := 4, locals := 71 } : Room).cells ({ frames := 4, cells := 1, slots := 4, locals := 71 } : Room).slots s₁ (mkF m 50 #[rv ob, iv g, rv tx, iv fr, iv 4, iv 1, iv nb, u_, u_, u_, u_, u_] []) := by
      intro nb hnb
      refine own_s s₁ (mkF m 51 #[rv ob, iv g, rv tx, iv fr, iv 4, iv 1, iv nb, u_, u_, u_, u_, u_] [.long 0]) (fun t k => XS.lconst X0.here hx rfl (hb hby d5_50) k) ?_
      refine own_s s₁ (mkF m 53 #[rv ob, iv g, rv tx, iv fr, iv 4, iv 1, iv nb, own_j 0, s_, u_, u_, u_] []) (fun t k => XS.lstore X0.here hx rfl (hb hby d5_51) rfl (l' := #[rv ob, iv g, rv tx, iv fr, iv 4, iv 1, iv nb, own_j 0, s_, u_, u_, u_]) rfl k) ?_
      refine own_s s₁ (mkF m 54 #[rv ob, iv g, rv tx, iv fr, iv 4, iv 1, iv nb, own_j 0, s_, u_, u_, u_] [.int 0]) (fun t k => XS.iconst X0.here hx rfl (hb hby d5_53) k) ?_
      refine own_s s₁ (mkF m 56 #[rv ob, iv g, rv tx, iv fr, iv 4, iv 1, iv nb, own_j 0, s_, iv 0, u_, u_] []) (fun t k => XS.istore X0.here hx rfl (hb hby d5_54) rfl (l' := #[rv ob, iv g, rv tx, iv fr, iv 4, iv 1, iv nb, own_j 0, s_, iv 0, u_, u_]) rfl k) ?_
      refine own_s s₁ (mkF m 57 #[rv ob, iv g, rv tx, iv fr, iv 4, iv 1, iv nb, own_j 0, s_, iv 0, u_, u_] [.int (-1)]) (fun t k => XS.iconst X0.here hx rfl (hb hby d5_56) k) ?_
      refine own_s s₁ (mkF m 59 #[rv ob, iv g, rv tx, iv fr, iv 4, iv 1, iv nb, own_j 0, s_, iv 0, iv (-1), u_] []) (fun t k => XS.istore X0.here hx rfl (hb hby d5_57) rfl (l' := #[rv ob, iv g, rv tx, iv fr, iv 4, iv 1, iv nb, own_j 0, s_, iv 0, iv (-1), u_]) rfl k) ?_
      refine own_s s₁ (mkF m 61 #[rv ob, iv g, rv tx, iv fr, iv 4, iv 1, iv nb, own_j 0, s_, iv 0, iv (-1), u_] [.int 1]) (fun t k => XS.iload X0.here hx rfl (hb hby d5_59) rfl k) ?_
      refine own_s s₁ (mkF m 63 #[rv ob, iv g, rv tx, iv fr, iv 4, iv 1, iv nb, own_j 0, s_, iv 0, iv (-1), u_] [.int 4, .int 1]) (fun t k => XS.iload X0.here hx rfl (hb hby d5_61) rfl k) ?_
      refine own_s s₁ (mkF m 66 #[rv ob, iv g, rv tx, iv fr, iv 4, iv 1, iv nb, own_j 0, s_, iv 0, iv (-1), u_] []) (fun t k => XS.icmpNo X0.here hx rfl (hb hby d5_63) rfl (tlt (by decide : ((1 : Int32) < (4 : Int32)))).2.1 k) ?_
      refine own_s s₁ (mkF m 67 #[rv ob, iv g, rv tx, iv fr, iv 4, iv 1, iv nb, own_j 0, s_, iv 0, iv (-1), u_] [.ref tx]) (fun t k => XS.aloadN X0.here hx rfl (hb hby d5_66) rfl rfl k) ?_
      refine own_s s₁ (mkF m 69 #[rv ob, iv g, rv tx, iv fr, iv 4, iv 1, iv nb, own_j 0, s_, iv 0, iv (-1), u_] [.int 1, .ref tx]) (fun t k => XS.iload X0.here hx rfl (hb hby d5_67) rfl k) ?_
      obtain ⟨cl27, Ar27, qa27, S27, M27, H27, U27⟩ := id Vx
      have hi27 := inb_of S27 (j := (1 : Int32)) ⟨by decide, by decide⟩
      have hat27 := H27.at hi27 (v := (.int y1)) rfl
      refine own_s s₁ (mkF m 70 #[rv ob, iv g, rv tx, iv fr, iv 4, iv 1, iv nb, own_j 0, s_, iv 0, iv (-1), u_] [.int y1]) (fun t k => X0.caload hx (j := (1 : Int32)) (v := (.int y1)) (by rw [e0]; exact Ar27.1) (State.isArrayOf_alike hZ.alike Ar27.2.1) Ar27.2.2 hi27 hat27 (g := (mkF m 69 #[rv ob, iv g, rv tx, iv fr, iv 4, iv 1, iv nb, own_j 0, s_, iv 0, iv (-1), u_] [.int 1, .ref tx])) rfl rfl (hb hby d5_69) t k) ?_
      refine own_s s₁ (mkF m 72 #[rv ob, iv g, rv tx, iv fr, iv 4, iv 1, iv nb, own_j 0, s_, iv 0, iv (-1), iv y1] []) (fun t k => XS.istore X0.here hx rfl (hb hby d5_70) rfl (l' := #[rv ob, iv g, rv tx, iv fr, iv 4, iv 1, iv nb, own_j 0, s_, iv 0, iv (-1), iv y1]) rfl k) ?_
      refine own_s s₁ (mkF m 74 #[rv ob, iv g, rv tx, iv fr, iv 4, iv 1, iv nb, own_j 0, s_, iv 0, iv (-1), iv y1] [.int y1]) (fun t k => XS.iload X0.here hx rfl (hb hby d5_72) rfl k) ?_
      refine own_s s₁ (mkF m 76 #[rv ob, iv g, rv tx, iv fr, iv 4, iv 1, iv nb, own_j 0, s_, iv 0, iv (-1), iv y1] [.int 46, .int y1]) (fun t k => XS.bipush X0.here hx rfl (hb hby d5_74) k) ?_
      refine own_s s₁ (mkF m 90 #[rv ob, iv g, rv tx, iv fr, iv 4, iv 1, iv nb, own_j 0, s_, iv 0, iv (-1), iv y1] []) (fun t k => XS.icmpYes X0.here hx rfl (pc0 := 76) (pc' := 90) rfl (hb hby d5_76) rfl (feq (own_dne hd1 (by decide))).2 (by decide) (by decide) k) ?_
      refine own_s s₁ (mkF m 92 #[rv ob, iv g, rv tx, iv fr, iv 4, iv 1, iv nb, own_j 0, s_, iv 0, iv (-1), iv y1] [.int y1]) (fun t k => XS.iload X0.here hx rfl (hb hby d5_90) rfl k) ?_
      refine own_s s₁ (mkF m 94 #[rv ob, iv g, rv tx, iv fr, iv 4, iv 1, iv nb, own_j 0, s_, iv 0, iv (-1), iv y1] [.int 48, .int y1]) (fun t k => XS.bipush X0.here hx rfl (hb hby d5_92) k) ?_
      refine own_s s₁ (mkF m 97 #[rv ob, iv g, rv tx, iv fr, iv 4, iv 1, iv nb, own_j 0, s_, iv 0, iv (-1), iv y1] []) (fun t k => XS.icmpNo X0.here hx rfl (hb hby d5_94) rfl (flt (own_d48 hd1)).1 k) ?_
      refine own_s s₁ (mkF m 99 #[rv ob, iv g, rv tx, iv fr, iv 4, iv 1, iv nb, own_j 0, s_, iv 0, iv (-1), iv y1] [.int y1]) (fun t k => XS.iload X0.here hx rfl (hb hby d5_97) rfl k) ?_
      refine own_s s₁ (mkF m 101 #[rv ob, iv g, rv tx, iv fr, iv 4, iv 1, iv nb, own_j 0, s_, iv 0, iv (-1), iv y1] [.int 57, .int y1]) (fun t k => XS.bipush X0.here hx rfl (hb hby d5_99) k) ?_
      refine own_s s₁ (mkF m 104 #[rv ob, iv g, rv tx, iv fr, iv 4, iv 1, iv nb, own_j 0, s_, iv 0, iv (-1), iv y1] []) (fun t k => XS.icmpNo X0.here hx rfl (hb hby d5_101) rfl (flt (own_d57 hd1)).2.2.1 k) ?_
      refine own_s s₁ (mkF m 106 #[rv ob, iv g, rv tx, iv fr, iv 4, iv 1, iv nb, own_j 0, s_, iv 0, iv (-1), iv y1] [.int 0]) (fun t k => XS.iload X0.here hx rfl (hb hby d5_104) rfl k) ?_
      refine own_s s₁ (mkF m 108 #[rv ob, iv g, rv tx, iv fr, iv 4, iv 1, iv nb, own_j 0, s_, iv 0, iv (-1), iv y1] [.int 18, .int 0]) (fun t k => XS.bipush X0.here hx rfl (hb hby d5_106) k) ?_
      refine own_s s₁ (mkF m 111 #[rv ob, iv g, rv tx, iv fr, iv 4, iv 1, iv nb, own_j 0, s_, iv 0, iv (-1), iv y1] []) (fun t k => XS.icmpNo X0.here hx rfl (hb hby d5_108) rfl (tlt (by decide : ((0 : Int32) < (18 : Int32)))).2.1 k) ?_
      refine own_s s₁ (mkF m 114 #[rv ob, iv g, rv tx, iv fr, iv 4, iv 1, iv nb, own_j 0, s_, iv 0, iv (-1), iv y1] [.long 10]) (X0.ldc2Long hx hown (mvT hZ (hW 30 _ rfl)) (g := (mkF m 111 #[rv ob, iv g, rv tx, iv fr, iv 4, iv 1, iv nb, own_j 0, s_, iv 0, iv (-1), iv y1] [])) rfl (hb hby d5_111)) ?_
      refine own_s s₁ (mkF m 116 #[rv ob, iv g, rv tx, iv fr, iv 4, iv 1, iv nb, own_j 0, s_, iv 0, iv (-1), iv y1] [.long 0, .long 10]) (fun t k => XS.lload X0.here hx rfl (hb hby d5_114) rfl k) ?_
      refine own_s s₁ (mkF m 117 #[rv ob, iv g, rv tx, iv fr, iv 4, iv 1, iv nb, own_j 0, s_, iv 0, iv (-1), iv y1] [.long 0]) (fun t k => XS.lmul X0.here hx rfl (hb hby d5_116) rfl k) ?_
      refine own_s s₁ (mkF m 119 #[rv ob, iv g, rv tx, iv fr, iv 4, iv 1, iv nb, own_j 0, s_, iv 0, iv (-1), iv y1] [.int y1, .long 0]) (fun t k => XS.iload X0.here hx rfl (hb hby d5_117) rfl k) ?_
      refine own_s s₁ (mkF m 121 #[rv ob, iv g, rv tx, iv fr, iv 4, iv 1, iv nb, own_j 0, s_, iv 0, iv (-1), iv y1] [.int 48, .int y1, .long 0]) (fun t k => XS.bipush X0.here hx rfl (hb hby d5_119) k) ?_
      refine own_s s₁ (mkF m 122 #[rv ob, iv g, rv tx, iv fr, iv 4, iv 1, iv nb, own_j 0, s_, iv 0, iv (-1), iv y1] [.int (y1 - (48 : Int32)), .long 0]) (fun t k => XS.isub X0.here hx rfl (hb hby d5_121) rfl k) ?_
      refine own_s s₁ (mkF m 123 #[rv ob, iv g, rv tx, iv fr, iv 4, iv 1, iv nb, own_j 0, s_, iv 0, iv (-1), iv y1] [.long ((y1 - (48 : Int32)).toInt64), .long 0]) (fun t k => XS.i2l X0.here hx rfl (hb hby d5_122) rfl k) ?_
      refine own_s s₁ (mkF m 124 #[rv ob, iv g, rv tx, iv fr, iv 4, iv 1, iv nb, own_j 0, s_, iv 0, iv (-1), iv y1] [.long ((0 : Int64) + ((y1 - (48 : Int32)).toInt64))]) (fun t k => XS.ladd X0.here hx rfl (hb hby d5_123) rfl k) ?_
      refine own_s s₁ (mkF m 129 #[rv ob, iv g, rv tx, iv fr, iv 4, iv 1, iv nb, own_j 0, s_, iv 0, iv (-1), iv y1] [.long ((0 : Int64) + ((y1 - (48 : Int32)).toInt64))]) (fun t k => XS.goto X0.here hx rfl (pc0 := 124) (pc' := 129) rfl (hb hby d5_124) (by decide) (by decide) k) ?_
      generalize hd_uu1 : ((0 : Int64) + ((y1 - (48 : Int32)).toInt64)) = uu1
      refine own_s s₁ (mkF m 131 #[rv ob, iv g, rv tx, iv fr, iv 4, iv 1, iv nb, own_j uu1, s_, iv 0, iv (-1), iv y1] []) (fun t k => XS.lstore X0.here hx rfl (hb hby d5_129) rfl (l' := #[rv ob, iv g, rv tx, iv fr, iv 4, iv 1, iv nb, own_j uu1, s_, iv 0, iv (-1), iv y1]) rfl k) ?_
      refine own_s s₁ (mkF m 134 #[rv ob, iv g, rv tx, iv fr, iv 4, iv 1, iv nb, own_j uu1, s_, iv 1, iv (-1), iv y1] []) (fun t k => XS.iinc X0.here hx rfl (hb hby d5_131) rfl (l' := #[rv ob, iv g, rv tx, iv fr, iv 4, iv 1, iv nb, own_j uu1, s_, iv 1, iv (-1), iv y1]) rfl k) ?_
      refine own_s s₁ (mkF m 136 #[rv ob, iv g, rv tx, iv fr, iv 4, iv 1, iv nb, own_j uu1, s_, iv 1, iv (-1), iv y1] [.int (-1)]) (fun t k => XS.iload X0.here hx rfl (hb hby d5_134) rfl k) ?_
      refine own_s s₁ (mkF m 147 #[rv ob, iv g, rv tx, iv fr, iv 4, iv 1, iv nb, own_j uu1, s_, iv 1, iv (-1), iv y1] []) (fun t k => XS.ifYes X0.here hx rfl (pc0 := 136) (pc' := 147) rfl (hb hby d5_136) rfl ((if0 _ _).trans (tlt (by decide : (((-1) : Int32) < (0 : Int32)))).1) (by decide) (by decide) k) ?_
      refine own_s s₁ (mkF m 150 #[rv ob, iv g, rv tx, iv fr, iv 4, iv 2, iv nb, own_j uu1, s_, iv 1, iv (-1), iv y1] []) (fun t k => XS.iinc X0.here hx rfl (hb hby d5_147) rfl (l' := #[rv ob, iv g, rv tx, iv fr, iv 4, iv 2, iv nb, own_j uu1, s_, iv 1, iv (-1), iv y1]) rfl k) ?_
      refine own_s s₁ (mkF m 59 #[rv ob, iv g, rv tx, iv fr, iv 4, iv 2, iv nb, own_j uu1, s_, iv 1, iv (-1), iv y1] []) (fun t k => XS.goto X0.here hx rfl (pc0 := 150) (pc' := 59) rfl (hb hby d5_150) (by decide) (by decide) k) ?_
      refine own_s s₁ (mkF m 61 #[rv ob, iv g, rv tx, iv fr, iv 4, iv 2, iv nb, own_j uu1, s_, iv 1, iv (-1), iv y1] [.int 2]) (fun t k => XS.iload X0.here hx rfl (hb hby d5_59) rfl k) ?_
      refine own_s s₁ (mkF m 63 #[rv ob, iv g, rv tx, iv fr, iv 4, iv 2, iv nb, own_j uu1, s_, iv 1, iv (-1), iv y1] [.int 4, .int 2]) (fun t k => XS.iload X0.here hx rfl (hb hby d5_61) rfl k) ?_
      refine own_s s₁ (mkF m 66 #[rv ob, iv g, rv tx, iv fr, iv 4, iv 2, iv nb, own_j uu1, s_, iv 1, iv (-1), iv y1] []) (fun t k => XS.icmpNo X0.here hx rfl (hb hby d5_63) rfl (tlt (by decide : ((2 : Int32) < (4 : Int32)))).2.1 k) ?_
      refine own_s s₁ (mkF m 67 #[rv ob, iv g, rv tx, iv fr, iv 4, iv 2, iv nb, own_j uu1, s_, iv 1, iv (-1), iv y1] [.ref tx]) (fun t k => XS.aloadN X0.here hx rfl (hb hby d5_66) rfl rfl k) ?_
      refine own_s s₁ (mkF m 69 #[rv ob, iv g, rv tx, iv fr, iv 4, iv 2, iv nb, own_j uu1, s_, iv 1, iv (-1), iv y1] [.int 2, .ref tx]) (fun t k => XS.iload X0.here hx rfl (hb hby d5_67) rfl k) ?_
      obtain ⟨cl28, Ar28, qa28, S28, M28, H28, U28⟩ := id Vx
      have hi28 := inb_of S28 (j := (2 : Int32)) ⟨by decide, by decide⟩
      have hat28 := H28.at hi28 (v := (.int (46 : Int32))) rfl
      refine own_s s₁ (mkF m 70 #[rv ob, iv g, rv tx, iv fr, iv 4, iv 2, iv nb, own_j uu1, s_, iv 1, iv (-1), iv y1] [.int 46]) (fun t k => X0.caload hx (j := (2 : Int32)) (v := (.int (46 : Int32))) (by rw [e0]; exact Ar28.1) (State.isArrayOf_alike hZ.alike Ar28.2.1) Ar28.2.2 hi28 hat28 (g := (mkF m 69 #[rv ob, iv g, rv tx, iv fr, iv 4, iv 2, iv nb, own_j uu1, s_, iv 1, iv (-1), iv y1] [.int 2, .ref tx])) rfl rfl (hb hby d5_69) t k) ?_
      refine own_s s₁ (mkF m 72 #[rv ob, iv g, rv tx, iv fr, iv 4, iv 2, iv nb, own_j uu1, s_, iv 1, iv (-1), iv 46] []) (fun t k => XS.istore X0.here hx rfl (hb hby d5_70) rfl (l' := #[rv ob, iv g, rv tx, iv fr, iv 4, iv 2, iv nb, own_j uu1, s_, iv 1, iv (-1), iv 46]) rfl k) ?_
      refine own_s s₁ (mkF m 74 #[rv ob, iv g, rv tx, iv fr, iv 4, iv 2, iv nb, own_j uu1, s_, iv 1, iv (-1), iv 46] [.int 46]) (fun t k => XS.iload X0.here hx rfl (hb hby d5_72) rfl k) ?_
      refine own_s s₁ (mkF m 76 #[rv ob, iv g, rv tx, iv fr, iv 4, iv 2, iv nb, own_j uu1, s_, iv 1, iv (-1), iv 46] [.int 46, .int 46]) (fun t k => XS.bipush X0.here hx rfl (hb hby d5_74) k) ?_
      refine own_s s₁ (mkF m 79 #[rv ob, iv g, rv tx, iv fr, iv 4, iv 2, iv nb, own_j uu1, s_, iv 1, iv (-1), iv 46] []) (fun t k => XS.icmpNo X0.here hx rfl (hb hby d5_76) rfl (teq (by decide : ((46 : Int32) = (46 : Int32)))).2 k) ?_
      refine own_s s₁ (mkF m 81 #[rv ob, iv g, rv tx, iv fr, iv 4, iv 2, iv nb, own_j uu1, s_, iv 1, iv (-1), iv 46] [.int (-1)]) (fun t k => XS.iload X0.here hx rfl (hb hby d5_79) rfl k) ?_
      refine own_s s₁ (mkF m 84 #[rv ob, iv g, rv tx, iv fr, iv 4, iv 2, iv nb, own_j uu1, s_, iv 1, iv (-1), iv 46] []) (fun t k => XS.ifNo X0.here hx rfl (hb hby d5_81) rfl ((if0 _ _).trans (tlt (by decide : (((-1) : Int32) < (0 : Int32)))).2.1) k) ?_
      refine own_s s₁ (mkF m 85 #[rv ob, iv g, rv tx, iv fr, iv 4, iv 2, iv nb, own_j uu1, s_, iv 1, iv (-1), iv 46] [.int 0]) (fun t k => XS.iconst X0.here hx rfl (hb hby d5_84) k) ?_
      refine own_s s₁ (mkF m 87 #[rv ob, iv g, rv tx, iv fr, iv 4, iv 2, iv nb, own_j uu1, s_, iv 1, iv 0, iv 46] []) (fun t k => XS.istore X0.here hx rfl (hb hby d5_85) rfl (l' := #[rv ob, iv g, rv tx, iv fr, iv 4, iv 2, iv nb, own_j uu1, s_, iv 1, iv 0, iv 46]) rfl k) ?_
      refine own_s s₁ (mkF m 147 #[rv ob, iv g, rv tx, iv fr, iv 4, iv 2, iv nb, own_j uu1, s_, iv 1, iv 0, iv 46] []) (fun t k => XS.goto X0.here hx rfl (pc0 := 87) (pc' := 147) rfl (hb hby d5_87) (by decide) (by decide) k) ?_
      refine own_s s₁ (mkF m 150 #[rv ob, iv g, rv tx, iv fr, iv 4, iv 3, iv nb, own_j uu1, s_, iv 1, iv 0, iv 46] []) (fun t k => XS.iinc X0.here hx rfl (hb hby d5_147) rfl (l' := #[rv ob, iv g, rv tx, iv fr, iv 4, iv 3, iv nb, own_j uu1, s_, iv 1, iv 0, iv 46]) rfl k) ?_
      refine own_s s₁ (mkF m 59 #[rv ob, iv g, rv tx, iv fr, iv 4, iv 3, iv nb, own_j uu1, s_, iv 1, iv 0, iv 46] []) (fun t k => XS.goto X0.here hx rfl (pc0 := 150) (pc' := 59) rfl (hb hby d5_150) (by decide) (by decide) k) ?_
      refine own_s s₁ (mkF m 61 #[rv ob, iv g, rv tx, iv fr, iv 4, iv 3, iv nb, own_j uu1, s_, iv 1, iv 0, iv 46] [.int 3]) (fun t k => XS.iload X0.here hx rfl (hb hby d5_59) rfl k) ?_
      refine own_s s₁ (mkF m 63 #[rv ob, iv g, rv tx, iv fr, iv 4, iv 3, iv nb, own_j uu1, s_, iv 1, iv 0, iv 46] [.int 4, .int 3]) (fun t k => XS.iload X0.here hx rfl (hb hby d5_61) rfl k) ?_
      refine own_s s₁ (mkF m 66 #[rv ob, iv g, rv tx, iv fr, iv 4, iv 3, iv nb, own_j uu1, s_, iv 1, iv 0, iv 46] []) (fun t k => XS.icmpNo X0.here hx rfl (hb hby d5_63) rfl (tlt (by decide : ((3 : Int32) < (4 : Int32)))).2.1 k) ?_
      refine own_s s₁ (mkF m 67 #[rv ob, iv g, rv tx, iv fr, iv 4, iv 3, iv nb, own_j uu1, s_, iv 1, iv 0, iv 46] [.ref tx]) (fun t k => XS.aloadN X0.here hx rfl (hb hby d5_66) rfl rfl k) ?_
      refine own_s s₁ (mkF m 69 #[rv ob, iv g, rv tx, iv fr, iv 4, iv 3, iv nb, own_j uu1, s_, iv 1, iv 0, iv 46] [.int 3, .ref tx]) (fun t k => XS.iload X0.here hx rfl (hb hby d5_67) rfl k) ?_
      obtain ⟨cl29, Ar29, qa29, S29, M29, H29, U29⟩ := id Vx
      have hi29 := inb_of S29 (j := (3 : Int32)) ⟨by decide, by decide⟩
      have hat29 := H29.at hi29 (v := (.int y2)) rfl
      refine own_s s₁ (mkF m 70 #[rv ob, iv g, rv tx, iv fr, iv 4, iv 3, iv nb, own_j uu1, s_, iv 1, iv 0, iv 46] [.int y2]) (fun t k => X0.caload hx (j := (3 : Int32)) (v := (.int y2)) (by rw [e0]; exact Ar29.1) (State.isArrayOf_alike hZ.alike Ar29.2.1) Ar29.2.2 hi29 hat29 (g := (mkF m 69 #[rv ob, iv g, rv tx, iv fr, iv 4, iv 3, iv nb, own_j uu1, s_, iv 1, iv 0, iv 46] [.int 3, .ref tx])) rfl rfl (hb hby d5_69) t k) ?_
      refine own_s s₁ (mkF m 72 #[rv ob, iv g, rv tx, iv fr, iv 4, iv 3, iv nb, own_j uu1, s_, iv 1, iv 0, iv y2] []) (fun t k => XS.istore X0.here hx rfl (hb hby d5_70) rfl (l' := #[rv ob, iv g, rv tx, iv fr, iv 4, iv 3, iv nb, own_j uu1, s_, iv 1, iv 0, iv y2]) rfl k) ?_
      refine own_s s₁ (mkF m 74 #[rv ob, iv g, rv tx, iv fr, iv 4, iv 3, iv nb, own_j uu1, s_, iv 1, iv 0, iv y2] [.int y2]) (fun t k => XS.iload X0.here hx rfl (hb hby d5_72) rfl k) ?_
      refine own_s s₁ (mkF m 76 #[rv ob, iv g, rv tx, iv fr, iv 4, iv 3, iv nb, own_j uu1, s_, iv 1, iv 0, iv y2] [.int 46, .int y2]) (fun t k => XS.bipush X0.here hx rfl (hb hby d5_74) k) ?_
      refine own_s s₁ (mkF m 90 #[rv ob, iv g, rv tx, iv fr, iv 4, iv 3, iv nb, own_j uu1, s_, iv 1, iv 0, iv y2] []) (fun t k => XS.icmpYes X0.here hx rfl (pc0 := 76) (pc' := 90) rfl (hb hby d5_76) rfl (feq (own_dne hd2 (by decide))).2 (by decide) (by decide) k) ?_
      refine own_s s₁ (mkF m 92 #[rv ob, iv g, rv tx, iv fr, iv 4, iv 3, iv nb, own_j uu1, s_, iv 1, iv 0, iv y2] [.int y2]) (fun t k => XS.iload X0.here hx rfl (hb hby d5_90) rfl k) ?_
      refine own_s s₁ (mkF m 94 #[rv ob, iv g, rv tx, iv fr, iv 4, iv 3, iv nb, own_j uu1, s_, iv 1, iv 0, iv y2] [.int 48, .int y2]) (fun t k => XS.bipush X0.here hx rfl (hb hby d5_92) k) ?_
      refine own_s s₁ (mkF m 97 #[rv ob, iv g, rv tx, iv fr, iv 4, iv 3, iv nb, own_j uu1, s_, iv 1, iv 0, iv y2] []) (fun t k => XS.icmpNo X0.here hx rfl (hb hby d5_94) rfl (flt (own_d48 hd2)).1 k) ?_
      refine own_s s₁ (mkF m 99 #[rv ob, iv g, rv tx, iv fr, iv 4, iv 3, iv nb, own_j uu1, s_, iv 1, iv 0, iv y2] [.int y2]) (fun t k => XS.iload X0.here hx rfl (hb hby d5_97) rfl k) ?_
      refine own_s s₁ (mkF m 101 #[rv ob, iv g, rv tx, iv fr, iv 4, iv 3, iv nb, own_j uu1, s_, iv 1, iv 0, iv y2] [.int 57, .int y2]) (fun t k => XS.bipush X0.here hx rfl (hb hby d5_99) k) ?_
      refine own_s s₁ (mkF m 104 #[rv ob, iv g, rv tx, iv fr, iv 4, iv 3, iv nb, own_j uu1, s_, iv 1, iv 0, iv y2] []) (fun t k => XS.icmpNo X0.here hx rfl (hb hby d5_101) rfl (flt (own_d57 hd2)).2.2.1 k) ?_
      refine own_s s₁ (mkF m 106 #[rv ob, iv g, rv tx, iv fr, iv 4, iv 3, iv nb, own_j uu1, s_, iv 1, iv 0, iv y2] [.int 1]) (fun t k => XS.iload X0.here hx rfl (hb hby d5_104) rfl k) ?_
      refine own_s s₁ (mkF m 108 #[rv ob, iv g, rv tx, iv fr, iv 4, iv 3, iv nb, own_j uu1, s_, iv 1, iv 0, iv y2] [.int 18, .int 1]) (fun t k => XS.bipush X0.here hx rfl (hb hby d5_106) k) ?_
      refine own_s s₁ (mkF m 111 #[rv ob, iv g, rv tx, iv fr, iv 4, iv 3, iv nb, own_j uu1, s_, iv 1, iv 0, iv y2] []) (fun t k => XS.icmpNo X0.here hx rfl (hb hby d5_108) rfl (tlt (by decide : ((1 : Int32) < (18 : Int32)))).2.1 k) ?_
      refine own_s s₁ (mkF m 114 #[rv ob, iv g, rv tx, iv fr, iv 4, iv 3, iv nb, own_j uu1, s_, iv 1, iv 0, iv y2] [.long 10]) (X0.ldc2Long hx hown (mvT hZ (hW 30 _ rfl)) (g := (mkF m 111 #[rv ob, iv g, rv tx, iv fr, iv 4, iv 3, iv nb, own_j uu1, s_, iv 1, iv 0, iv y2] [])) rfl (hb hby d5_111)) ?_
      refine own_s s₁ (mkF m 116 #[rv ob, iv g, rv tx, iv fr, iv 4, iv 3, iv nb, own_j uu1, s_, iv 1, iv 0, iv y2] [.long uu1, .long 10]) (fun t k => XS.lload X0.here hx rfl (hb hby d5_114) rfl k) ?_
      refine own_s s₁ (mkF m 117 #[rv ob, iv g, rv tx, iv fr, iv 4, iv 3, iv nb, own_j uu1, s_, iv 1, iv 0, iv y2] [.long ((10 : Int64) * uu1)]) (fun t k => XS.lmul X0.here hx rfl (hb hby d5_116) rfl k) ?_
      refine own_s s₁ (mkF m 119 #[rv ob, iv g, rv tx, iv fr, iv 4, iv 3, iv nb, own_j uu1, s_, iv 1, iv 0, iv y2] [.int y2, .long ((10 : Int64) * uu1)]) (fun t k => XS.iload X0.here hx rfl (hb hby d5_117) rfl k) ?_
      refine own_s s₁ (mkF m 121 #[rv ob, iv g, rv tx, iv fr, iv 4, iv 3, iv nb, own_j uu1, s_, iv 1, iv 0, iv y2] [.int 48, .int y2, .long ((10 : Int64) * uu1)]) (fun t k => XS.bipush X0.here hx rfl (hb hby d5_119) k) ?_
      refine own_s s₁ (mkF m 122 #[rv ob, iv g, rv tx, iv fr, iv 4, iv 3, iv nb, own_j uu1, s_, iv 1, iv 0, iv y2] [.int (y2 - (48 : Int32)), .long ((10 : Int64) * uu1)]) (fun t k => XS.isub X0.here hx rfl (hb hby d5_121) rfl k) ?_
      refine own_s s₁ (mkF m 123 #[rv ob, iv g, rv tx, iv fr, iv 4, iv 3, iv nb, own_j uu1, s_, iv 1, iv 0, iv y2] [.long ((y2 - (48 : Int32)).toInt64), .long ((10 : Int64) * uu1)]) (fun t k => XS.i2l X0.here hx rfl (hb hby d5_122) rfl k) ?_
      refine own_s s₁ (mkF m 124 #[rv ob, iv g, rv tx, iv fr, iv 4, iv 3, iv nb, own_j uu1, s_, iv 1, iv 0, iv y2] [.long (((10 : Int64) * uu1) + ((y2 - (48 : Int32)).toInt64))]) (fun t k => XS.ladd X0.here hx rfl (hb hby d5_123) rfl k) ?_
      refine own_s s₁ (mkF m 129 #[rv ob, iv g, rv tx, iv fr, iv 4, iv 3, iv nb, own_j uu1, s_, iv 1, iv 0, iv y2] [.long (((10 : Int64) * uu1) + ((y2 - (48 : Int32)).toInt64))]) (fun t k => XS.goto X0.here hx rfl (pc0 := 124) (pc' := 129) rfl (hb hby d5_124) (by decide) (by decide) k) ?_
      generalize hd_uu2 : (((10 : Int64) * uu1) + ((y2 - (48 : Int32)).toInt64)) = uu2
      refine own_s s₁ (mkF m 131 #[rv ob, iv g, rv tx, iv fr, iv 4, iv 3, iv nb, own_j uu2, s_, iv 1, iv 0, iv y2] []) (fun t k => XS.lstore X0.here hx rfl (hb hby d5_129) rfl (l' := #[rv ob, iv g, rv tx, iv fr, iv 4, iv 3, iv nb, own_j uu2, s_, iv 1, iv 0, iv y2]) rfl k) ?_
      refine own_s s₁ (mkF m 134 #[rv ob, iv g, rv tx, iv fr, iv 4, iv 3, iv nb, own_j uu2, s_, iv 2, iv 0, iv y2] []) (fun t k => XS.iinc X0.here hx rfl (hb hby d5_131) rfl (l' := #[rv ob, iv g, rv tx, iv fr, iv 4, iv 3, iv nb, own_j uu2, s_, iv 2, iv 0, iv y2]) rfl k) ?_
      refine own_s s₁ (mkF m 136 #[rv ob, iv g, rv tx, iv fr, iv 4, iv 3, iv nb, own_j uu2, s_, iv 2, iv 0, iv y2] [.int 0]) (fun t k => XS.iload X0.here hx rfl (hb hby d5_134) rfl k) ?_
      refine own_s s₁ (mkF m 139 #[rv ob, iv g, rv tx, iv fr, iv 4, iv 3, iv nb, own_j uu2, s_, iv 2, iv 0, iv y2] []) (fun t k => XS.ifNo X0.here hx rfl (hb hby d5_136) rfl ((if0 _ _).trans (flt (by decide : ¬ ((0 : Int32) < (0 : Int32)))).1) k) ?_
      refine own_s s₁ (mkF m 142 #[rv ob, iv g, rv tx, iv fr, iv 4, iv 3, iv nb, own_j uu2, s_, iv 2, iv 1, iv y2] []) (fun t k => XS.iinc X0.here hx rfl (hb hby d5_139) rfl (l' := #[rv ob, iv g, rv tx, iv fr, iv 4, iv 3, iv nb, own_j uu2, s_, iv 2, iv 1, iv y2]) rfl k) ?_
      refine own_s s₁ (mkF m 147 #[rv ob, iv g, rv tx, iv fr, iv 4, iv 3, iv nb, own_j uu2, s_, iv 2, iv 1, iv y2] []) (fun t k => XS.goto X0.here hx rfl (pc0 := 142) (pc' := 147) rfl (hb hby d5_142) (by decide) (by decide) k) ?_
      refine own_s s₁ (mkF m 150 #[rv ob, iv g, rv tx, iv fr, iv 4, iv 4, iv nb, own_j uu2, s_, iv 2, iv 1, iv y2] []) (fun t k => XS.iinc X0.here hx rfl (hb hby d5_147) rfl (l' := #[rv ob, iv g, rv tx, iv fr, iv 4, iv 4, iv nb, own_j uu2, s_, iv 2, iv 1, iv y2]) rfl k) ?_
      refine own_s s₁ (mkF m 59 #[rv ob, iv g, rv tx, iv fr, iv 4, iv 4, iv nb, own_j uu2, s_, iv 2, iv 1, iv y2] []) (fun t k => XS.goto X0.here hx rfl (pc0 := 150) (pc' := 59) rfl (hb hby d5_150) (by decide) (by decide) k) ?_
      refine own_s s₁ (mkF m 61 #[rv ob, iv g, rv tx, iv fr, iv 4, iv 4, iv nb, own_j uu2, s_, iv 2, iv 1, iv y2] [.int 4]) (fun t k => XS.iload X0.here hx rfl (hb hby d5_59) rfl k) ?_
      refine own_s s₁ (mkF m 63 #[rv ob, iv g, rv tx, iv fr, iv 4, iv 4, iv nb, own_j uu2, s_, iv 2, iv 1, iv y2] [.int 4, .int 4]) (fun t k => XS.iload X0.here hx rfl (hb hby d5_61) rfl k) ?_
      refine own_s s₁ (mkF m 153 #[rv ob, iv g, rv tx, iv fr, iv 4, iv 4, iv nb, own_j uu2, s_, iv 2, iv 1, iv y2] []) (fun t k => XS.icmpYes X0.here hx rfl (pc0 := 63) (pc' := 153) rfl (hb hby d5_63) rfl (flt (by decide : ¬ ((4 : Int32) < (4 : Int32)))).2.1 (by decide) (by decide) k) ?_
      refine own_s s₁ (mkF m 155 #[rv ob, iv g, rv tx, iv fr, iv 4, iv 4, iv nb, own_j uu2, s_, iv 2, iv 1, iv y2] [.int 2]) (fun t k => XS.iload X0.here hx rfl (hb hby d5_153) rfl k) ?_
      refine own_s s₁ (mkF m 160 #[rv ob, iv g, rv tx, iv fr, iv 4, iv 4, iv nb, own_j uu2, s_, iv 2, iv 1, iv y2] []) (fun t k => XS.ifYes X0.here hx rfl (pc0 := 155) (pc' := 160) rfl (hb hby d5_155) rfl ((if0 _ _).trans (feq (by decide : ¬ ((2 : Int32) = (0 : Int32)))).2) (by decide) (by decide) k) ?_
      refine own_s s₁ (mkF m 162 #[rv ob, iv g, rv tx, iv fr, iv 4, iv 4, iv nb, own_j uu2, s_, iv 2, iv 1, iv y2] [.int 1]) (fun t k => XS.iload X0.here hx rfl (hb hby d5_160) rfl k) ?_
      refine own_s s₁ (mkF m 163 #[rv ob, iv g, rv tx, iv fr, iv 4, iv 4, iv nb, own_j uu2, s_, iv 2, iv 1, iv y2] [.int 0, .int 1]) (fun t k => XS.iconst X0.here hx rfl (hb hby d5_162) k) ?_
      obtain ⟨_, _, ⟨T32, L32, k32, n32⟩, -, X32, ⟨Lc32, hQ32, lq32, yq32, zq32⟩, st32⟩ := Jvm.LawKit.callS X0 hx (y := (⟨"java/lang/Math", "max", "(II)I"⟩ : MethodName)) hown (mvT hZ (hW 31 _ rfl)) (mvT hZ (hW 32 _ rfl)) (mvT hZ (hW 33 _ rfl)) (mvT hZ (hW 34 _ rfl)) (by decide) (backOf (W := 0) (rm_maxl1 l Z a0 hw []  h0 n0 Z0 ) hZ (hW 34 _ rfl) (hW 33 _ rfl) (by decide) (by decide)) (g := (mkF m 163 #[rv ob, iv g, rv tx, iv fr, iv 4, iv 4, iv nb, own_j uu2, s_, iv 2, iv 1, iv y2] [.int 0, .int 1])) rfl (by rw [hml]; rfl) (argsL := [(.int (1 : Int32)), (.int (0 : Int32))]) (rest := []) (lenOf pd_3 rfl) rfl (by show 2 * 0 + _ ≤ _; exact Nat.le_of_eq rfl) (hb hby d5_163) (fun _ _ => ⟨rfl, e0, (by decide : 0 + 0 ≤ _), (by decide : 0 + 0 ≤ _)⟩)
      dsimp only [Pt.U, Pt.locs, Pt.cells, Pt.slots] at X32 lq32 yq32 zq32 st32 hQ32
      subst lq32 yq32 zq32
      obtain ⟨rfl, Nq32, eq31⟩ := hQ32
      have N32 := Fr.app N0 Nq32
      refine own_s T32 (mkF m 166 #[rv ob, iv g, rv tx, iv fr, iv 4, iv 4, iv nb, own_j uu2, s_, iv 2, iv 1, iv y2] [.int 1]) st32 ?_
      refine own_s T32 (mkF m 168 #[rv ob, iv g, rv tx, iv fr, iv 4, iv 4, iv nb, own_j uu2, s_, iv 2, iv 1, iv y2] []) (fun t k => XS.istore X32.here hx rfl (hb hby d5_166) rfl (l' := #[rv ob, iv g, rv tx, iv fr, iv 4, iv 4, iv nb, own_j uu2, s_, iv 2, iv 1, iv y2]) rfl k) ?_
      refine own_s T32 (mkF m 170 #[rv ob, iv g, rv tx, iv fr, iv 4, iv 4, iv nb, own_j uu2, s_, iv 2, iv 1, iv y2] [.int 2]) (fun t k => XS.iload X32.here hx rfl (hb hby d5_168) rfl k) ?_
      refine own_s T32 (mkF m 172 #[rv ob, iv g, rv tx, iv fr, iv 4, iv 4, iv nb, own_j uu2, s_, iv 2, iv 1, iv y2] [.int 18, .int 2]) (fun t k => XS.bipush X32.here hx rfl (hb hby d5_170) k) ?_
      refine own_s T32 (mkF m 201 #[rv ob, iv g, rv tx, iv fr, iv 4, iv 4, iv nb, own_j uu2, s_, iv 2, iv 1, iv y2] []) (fun t k => XS.icmpYes X32.here hx rfl (pc0 := 172) (pc' := 201) rfl (hb hby d5_172) rfl (flt (by decide : ¬ ((18 : Int32) < (2 : Int32)))).2.2.2 (by decide) (by decide) k) ?_
      refine own_s T32 (mkF m 202 #[rv ob, iv g, rv tx, iv fr, iv 4, iv 4, iv nb, own_j uu2, s_, iv 2, iv 1, iv y2] [.ref ob]) (fun t k => XS.aloadN X32.here hx rfl (hb hby d5_201) rfl rfl k) ?_
      refine own_s T32 (mkF m 203 #[rv ob, iv g, rv tx, iv fr, iv 4, iv 4, iv nb, own_j uu2, s_, iv 2, iv 1, iv y2] [.int g, .ref ob]) (fun t k => XS.iloadN X32.here hx rfl (hb hby d5_202) rfl k) ?_
      refine own_s T32 (mkF m 205 #[rv ob, iv g, rv tx, iv fr, iv 4, iv 4, iv nb, own_j uu2, s_, iv 2, iv 1, iv y2] [.int nb, .int g, .ref ob]) (fun t k => XS.iload X32.here hx rfl (hb hby d5_203) rfl k) ?_
      have huu : uu2 = own_u d1 d2 := by rw [← hd_uu2, ← hd_uu1, own_dsub hd1, own_dsub hd2, Int64.zero_add]; rfl
      by_cases c205 : nb = (0 : Int32)
      · have hsv : own_sv ng (own_u d1 d2) = uu2 := by rw [own_sv, if_pos (hnb.symm.trans c205), huu]
        refine own_s T32 (mkF m 214 #[rv ob, iv g, rv tx, iv fr, iv 4, iv 4, iv nb, own_j uu2, s_, iv 2, iv 1, iv y2] [.int g, .ref ob]) (fun t k => XS.ifYes X32.here hx rfl (pc0 := 205) (pc' := 214) rfl (hb hby d5_205) rfl ((if0 _ _).trans (teq c205).1) (by decide) (by decide) k) ?_
        refine own_s T32 (mkF m 216 #[rv ob, iv g, rv tx, iv fr, iv 4, iv 4, iv nb, own_j uu2, s_, iv 2, iv 1, iv y2] [.long uu2, .int g, .ref ob]) (fun t k => XS.lload X32.here hx rfl (hb hby d5_214) rfl k) ?_
        refine own_s T32 (mkF m 218 #[rv ob, iv g, rv tx, iv fr, iv 4, iv 4, iv nb, own_j uu2, s_, iv 2, iv 1, iv y2] [.int 1, .long uu2, .int g, .ref ob]) (fun t k => XS.iload X32.here hx rfl (hb hby d5_216) rfl k) ?_
        obtain ⟨cq37, q37a, q37b⟩ := F_0.1.cell
        obtain ⟨_, _, ⟨T36, L36, k36, n36⟩, -, X36, ⟨Lc36, hQ36, lq36, yq36, zq36⟩, st36⟩ := own_privH X32 hx (y := (⟨"com/example/viewlattice/viewlattice/engine/DecimalSums", "addUnscaled", "(IJI)V"⟩ : MethodName)) hown (mvT hZ (hW 35 _ rfl)) (mvT hZ (hW 36 _ rfl)) (mvT hZ (hW 3 _ rfl)) (Cond.privateMethod_at (args := #[]) (mvP hZ (hW 37 _ rfl))) (mvT hZ (hW 38 _ rfl)) (by decide) (backOfWith (W := 0) (rm_au l Z a0 hw [] ob ar kr cap S v0 v1 v2 v3 g uu2 (1 : Int32) pw kp h0 n0 Z0 F_0 O0 hcap hg (own_hs1 hS (Or.inr (Or.inl rfl))) (own_hs2 hS (Or.inr (Or.inl rfl))) (by rw [huu]; exact own_usm hd1 hd2) hv0 hv1 hv2 hv3 S_p V_p) hZ (hW 38 _ rfl) (hW 4 _ rfl) (by decide) (by decide)) (g := (mkF m 218 #[rv ob, iv g, rv tx, iv fr, iv 4, iv 4, iv nb, own_j uu2, s_, iv 2, iv 1, iv y2] [.int 1, .long uu2, .int g, .ref ob])) rfl (by rw [hml]; rfl) (Steps.refl _) (a := ob) (cell := cq37) (by rw [eq31]; exact q37a) q37b (argsL := [(.int g), (.long uu2), (.int (1 : Int32))]) (rest := []) (lenOf pd_4 rfl) rfl (by show 2 * 0 + _ ≤ _; exact Nat.le_of_eq rfl) (hb hby d5_218) (fun _ _ => ⟨rfl, eq31, (by decide : 0 + 1 ≤ _), (by decide : 0 + 4 ≤ _)⟩)
        dsimp only [Pt.U, Pt.locs, Pt.cells, Pt.slots] at X36 lq36 yq36 zq36 st36 hQ36
        subst lq36 yq36 zq36
        obtain ⟨b_33, kb_33, rfl, Nq36, K34, g35, pz34⟩ := hQ36
        have N36 := Fr.app N32 Nq36
        have g38 : Arv Z T36.heap tx kx .char (4 : Int32) [(.int sg), (.int y1), (.int (46 : Int32)), (.int y2)] (.int (0 : Int32)) := Vx.keep K34 (ninS (Ne.symm n_ob_tx) (ninS (Ne.symm n_ar_tx) nin0))
        have Z34 : n0 ≤ T36.heap.size := (Nat.le_trans Z0 K34.1)
        have O34 : Old Z n0 T36.heap := O0.keep K34 (allS (P := fun x => n0 ≤ x) F_0.2.2.2.2.2.1 (allS (P := fun x => n0 ≤ x) F_0.2.2.2.2.2.2 all0))
        have K39 : Keep h0 T36.heap [ob, ar] := K0.trans K34 (allS (P := fun x => x ∈ [ob, ar] ∨ h0.size ≤ x) (Or.inl (List.mem_of_getElem? (i := 0) rfl)) (allS (P := fun x => x ∈ [ob, ar] ∨ h0.size ≤ x) (Or.inl (List.mem_of_getElem? (i := 1) rfl)) all0))
        have nb34_2 : tx ≠ b_33 := fun z => pz34.elim (fun y => (Ne.symm n_ar_tx) (z.trans y)) (fun y => Nat.ne_of_lt (Nat.lt_of_lt_of_le Vx.lt y) z)
        refine own_tr (T' := T36) (g' := (mkF m 221 #[rv ob, iv g, rv tx, iv fr, iv 4, iv 4, iv nb, own_j uu2, s_, iv 2, iv 1, iv y2] [])) st36 ?_
        refine own_s T36 (mkF m 222 #[rv ob, iv g, rv tx, iv fr, iv 4, iv 4, iv nb, own_j uu2, s_, iv 2, iv 1, iv y2] [.int 1]) (fun t k => XS.iconst X36.here hx rfl (hb hby d5_221) k) ?_
        refine own_rN X36 hx hlk Bd.returns (by simp) (hb hby d5_222) ?_ (by decide) (by decide)
        exact ⟨b_33, kb_33, rfl, N36, K39, (by rw [hsv]; exact g35), pz34⟩
      · have hsv : own_sv ng (own_u d1 d2) = (-uu2) := by rw [own_sv, if_neg (fun q => c205 (hnb.trans q)), huu]
        refine own_s T32 (mkF m 208 #[rv ob, iv g, rv tx, iv fr, iv 4, iv 4, iv nb, own_j uu2, s_, iv 2, iv 1, iv y2] [.int g, .ref ob]) (fun t k => XS.ifNo X32.here hx rfl (hb hby d5_205) rfl ((if0 _ _).trans (feq c205).1) k) ?_
        refine own_s T32 (mkF m 210 #[rv ob, iv g, rv tx, iv fr, iv 4, iv 4, iv nb, own_j uu2, s_, iv 2, iv 1, iv y2] [.long uu2, .int g, .ref ob]) (fun t k => XS.lload X32.here hx rfl (hb hby d5_208) rfl k) ?_
        refine own_s T32 (mkF m 211 #[rv ob, iv g, rv tx, iv fr, iv 4, iv 4, iv nb, own_j uu2, s_, iv 2, iv 1, iv y2] [.long (-uu2), .int g, .ref ob]) (fun t k => XS.lneg X32.here hx rfl (hb hby d5_210) rfl k) ?_
        refine own_s T32 (mkF m 216 #[rv ob, iv g, rv tx, iv fr, iv 4, iv 4, iv nb, own_j uu2, s_, iv 2, iv 1, iv y2] [.long (-uu2), .int g, .ref ob]) (fun t k => XS.goto X32.here hx rfl (pc0 := 211) (pc' := 216) rfl (hb hby d5_211) (by decide) (by decide) k) ?_
        refine own_s T32 (mkF m 218 #[rv ob, iv g, rv tx, iv fr, iv 4, iv 4, iv nb, own_j uu2, s_, iv 2, iv 1, iv y2] [.int 1, .long (-uu2), .int g, .ref ob]) (fun t k => XS.iload X32.here hx rfl (hb hby d5_216) rfl k) ?_
        obtain ⟨cq44, q44a, q44b⟩ := F_0.1.cell
        obtain ⟨_, _, ⟨T43, L43, k43, n43⟩, -, X43, ⟨Lc43, hQ43, lq43, yq43, zq43⟩, st43⟩ := own_privH X32 hx (y := (⟨"com/example/viewlattice/viewlattice/engine/DecimalSums", "addUnscaled", "(IJI)V"⟩ : MethodName)) hown (mvT hZ (hW 35 _ rfl)) (mvT hZ (hW 36 _ rfl)) (mvT hZ (hW 3 _ rfl)) (Cond.privateMethod_at (args := #[]) (mvP hZ (hW 37 _ rfl))) (mvT hZ (hW 38 _ rfl)) (by decide) (backOfWith (W := 0) (rm_au l Z a0 hw [] ob ar kr cap S v0 v1 v2 v3 g (-uu2) (1 : Int32) pw kp h0 n0 Z0 F_0 O0 hcap hg (own_hs1 hS (Or.inr (Or.inl rfl))) (own_hs2 hS (Or.inr (Or.inl rfl))) (by rw [huu]; exact own_unsm hd1 hd2) hv0 hv1 hv2 hv3 S_p V_p) hZ (hW 38 _ rfl) (hW 4 _ rfl) (by decide) (by decide)) (g := (mkF m 218 #[rv ob, iv g, rv tx, iv fr, iv 4, iv 4, iv nb, own_j uu2, s_, iv 2, iv 1, iv y2] [.int 1, .long (-uu2), .int g, .ref ob])) rfl (by rw [hml]; rfl) (Steps.refl _) (a := ob) (cell := cq44) (by rw [eq31]; exact q44a) q44b (argsL := [(.int g), (.long (-uu2)), (.int (1 : Int32))]) (rest := []) (lenOf pd_4 rfl) rfl (by show 2 * 0 + _ ≤ _; exact Nat.le_of_eq rfl) (hb hby d5_218) (fun _ _ => ⟨rfl, eq31, (by decide : 0 + 1 ≤ _), (by decide : 0 + 4 ≤ _)⟩)
        dsimp only [Pt.U, Pt.locs, Pt.cells, Pt.slots] at X43 lq43 yq43 zq43 st43 hQ43
        subst lq43 yq43 zq43
        obtain ⟨b_40, kb_40, rfl, Nq43, K41, g42, pz41⟩ := hQ43
        have N43 := Fr.app N32 Nq43
        have g45 : Arv Z T43.heap tx kx .char (4 : Int32) [(.int sg), (.int y1), (.int (46 : Int32)), (.int y2)] (.int (0 : Int32)) := Vx.keep K41 (ninS (Ne.symm n_ob_tx) (ninS (Ne.symm n_ar_tx) nin0))
        have Z41 : n0 ≤ T43.heap.size := (Nat.le_trans Z0 K41.1)
        have O41 : Old Z n0 T43.heap := O0.keep K41 (allS (P := fun x => n0 ≤ x) F_0.2.2.2.2.2.1 (allS (P := fun x => n0 ≤ x) F_0.2.2.2.2.2.2 all0))
        have K46 : Keep h0 T43.heap [ob, ar] := K0.trans K41 (allS (P := fun x => x ∈ [ob, ar] ∨ h0.size ≤ x) (Or.inl (List.mem_of_getElem? (i := 0) rfl)) (allS (P := fun x => x ∈ [ob, ar] ∨ h0.size ≤ x) (Or.inl (List.mem_of_getElem? (i := 1) rfl)) all0))
        have nb41_2 : tx ≠ b_40 := fun z => pz41.elim (fun y => (Ne.symm n_ar_tx) (z.trans y)) (fun y => Nat.ne_of_lt (Nat.lt_of_lt_of_le Vx.lt y) z)
        refine own_tr (T' := T43) (g' := (mkF m 221 #[rv ob, iv g, rv tx, iv fr, iv 4, iv 4, iv nb, own_j uu2, s_, iv 2, iv 1, iv y2] [])) st43 ?_
        refine own_s T43 (mkF m 222 #[rv ob, iv g, rv tx, iv fr, iv 4, iv 4, iv nb, own_j uu2, s_, iv 2, iv 1, iv y2] [.int 1]) (fun t k => XS.iconst X43.here hx rfl (hb hby d5_221) k) ?_
        refine own_rN X43 hx hlk Bd.returns (by simp) (hb hby d5_222) ?_ (by decide) (by decide)
        exact ⟨b_40, kb_40, rfl, N43, K46, (by rw [hsv]; exact g42), pz41⟩
    rcases hfr with ⟨hf0, hsg, hng⟩ | ⟨hf0, hsg, hng⟩ | ⟨hf0, hng⟩
    · subst hf0
      refine own_s s₁ (mkF m 1 #[rv ob, iv g, rv tx, iv 0, iv 4, u_, u_, u_, u_, u_, u_, u_] [.int 0]) (fun t k => XS.iloadN X0.here hx rfl (hb hby d5_0) rfl k) ?_
      refine own_s s₁ (mkF m 3 #[rv ob, iv g, rv tx, iv 0, iv 4, iv 0, u_, u_, u_, u_, u_, u_] []) (fun t k => XS.istore X0.here hx rfl (hb hby d5_1) rfl (l' := #[rv ob, iv g, rv tx, iv 0, iv 4, iv 0, u_, u_, u_, u_, u_, u_]) rfl k) ?_
      refine own_s s₁ (mkF m 4 #[rv ob, iv g, rv tx, iv 0, iv 4, iv 0, u_, u_, u_, u_, u_, u_] [.int 0]) (fun t k => XS.iconst X0.here hx rfl (hb hby d5_3) k) ?_
      refine own_s s₁ (mkF m 6 #[rv ob, iv g, rv tx, iv 0, iv 4, iv 0, iv 0, u_, u_, u_, u_, u_] []) (fun t k => XS.istore X0.here hx rfl (hb hby d5_4) rfl (l' := #[rv ob, iv g, rv tx, iv 0, iv 4, iv 0, iv 0, u_, u_, u_, u_, u_]) rfl k) ?_
      refine own_s s₁ (mkF m 8 #[rv ob, iv g, rv tx, iv 0, iv 4, iv 0, iv 0, u_, u_, u_, u_, u_] [.int 0]) (fun t k => XS.iload X0.here hx rfl (hb hby d5_6) rfl k) ?_
      refine own_s s₁ (mkF m 10 #[rv ob, iv g, rv tx, iv 0, iv 4, iv 0, iv 0, u_, u_, u_, u_, u_] [.int 4, .int 0]) (fun t k => XS.iload X0.here hx rfl (hb hby d5_8) rfl k) ?_
      refine own_s s₁ (mkF m 13 #[rv ob, iv g, rv tx, iv 0, iv 4, iv 0, iv 0, u_, u_, u_, u_, u_] []) (fun t k => XS.icmpNo X0.here hx rfl (hb hby d5_10) rfl (tlt (by decide : ((0 : Int32) < (4 : Int32)))).2.1 k) ?_
      refine own_s s₁ (mkF m 14 #[rv ob, iv g, rv tx, iv 0, iv 4, iv 0, iv 0, u_, u_, u_, u_, u_] [.ref tx]) (fun t k => XS.aloadN X0.here hx rfl (hb hby d5_13) rfl rfl k) ?_
      refine own_s s₁ (mkF m 16 #[rv ob, iv g, rv tx, iv 0, iv 4, iv 0, iv 0, u_, u_, u_, u_, u_] [.int 0, .ref tx]) (fun t k => XS.iload X0.here hx rfl (hb hby d5_14) rfl k) ?_
      obtain ⟨cl47, Ar47, qa47, S47, M47, H47, U47⟩ := id Vx
      have hi47 := inb_of S47 (j := (0 : Int32)) ⟨by decide, by decide⟩
      have hat47 := H47.at hi47 (v := (.int sg)) rfl
      refine own_s s₁ (mkF m 17 #[rv ob, iv g, rv tx, iv 0, iv 4, iv 0, iv 0, u_, u_, u_, u_, u_] [.int sg]) (fun t k => X0.caload hx (j := (0 : Int32)) (v := (.int sg)) (by rw [e0]; exact Ar47.1) (State.isArrayOf_alike hZ.alike Ar47.2.1) Ar47.2.2 hi47 hat47 (g := (mkF m 16 #[rv ob, iv g, rv tx, iv 0, iv 4, iv 0, iv 0, u_, u_, u_, u_, u_] [.int 0, .ref tx])) rfl rfl (hb hby d5_16) t k) ?_
      refine own_s s₁ (mkF m 19 #[rv ob, iv g, rv tx, iv 0, iv 4, iv 0, iv 0, u_, u_, u_, u_, u_] [.int 45, .int sg]) (fun t k => XS.bipush X0.here hx rfl (hb hby d5_17) k) ?_
      refine own_s s₁ (mkF m 31 #[rv ob, iv g, rv tx, iv 0, iv 4, iv 0, iv 0, u_, u_, u_, u_, u_] []) (fun t k => XS.icmpYes X0.here hx rfl (pc0 := 19) (pc' := 31) rfl (hb hby d5_19) rfl (teq hsg).1 (by decide) (by decide) k) ?_
      refine own_s s₁ (mkF m 32 #[rv ob, iv g, rv tx, iv 0, iv 4, iv 0, iv 0, u_, u_, u_, u_, u_] [.ref tx]) (fun t k => XS.aloadN X0.here hx rfl (hb hby d5_31) rfl rfl k) ?_
      refine own_s s₁ (mkF m 34 #[rv ob, iv g, rv tx, iv 0, iv 4, iv 0, iv 0, u_, u_, u_, u_, u_] [.int 0, .ref tx]) (fun t k => XS.iload X0.here hx rfl (hb hby d5_32) rfl k) ?_
      obtain ⟨cl48, Ar48, qa48, S48, M48, H48, U48⟩ := id Vx
      have hi48 := inb_of S48 (j := (0 : Int32)) ⟨by decide, by decide⟩
      have hat48 := H48.at hi48 (v := (.int sg)) rfl
      refine own_s s₁ (mkF m 35 #[rv ob, iv g, rv tx, iv 0, iv 4, iv 0, iv 0, u_, u_, u_, u_, u_] [.int sg]) (fun t k => X0.caload hx (j := (0 : Int32)) (v := (.int sg)) (by rw [e0]; exact Ar48.1) (State.isArrayOf_alike hZ.alike Ar48.2.1) Ar48.2.2 hi48 hat48 (g := (mkF m 34 #[rv ob, iv g, rv tx, iv 0, iv 4, iv 0, iv 0, u_, u_, u_, u_, u_] [.int 0, .ref tx])) rfl rfl (hb hby d5_34) t k) ?_
      refine own_s s₁ (mkF m 37 #[rv ob, iv g, rv tx, iv 0, iv 4, iv 0, iv 0, u_, u_, u_, u_, u_] [.int 45, .int sg]) (fun t k => XS.bipush X0.here hx rfl (hb hby d5_35) k) ?_
      refine own_s s₁ (mkF m 40 #[rv ob, iv g, rv tx, iv 0, iv 4, iv 0, iv 0, u_, u_, u_, u_, u_] []) (fun t k => XS.icmpNo X0.here hx rfl (hb hby d5_37) rfl (teq hsg).2 k) ?_
      refine own_s s₁ (mkF m 41 #[rv ob, iv g, rv tx, iv 0, iv 4, iv 0, iv 0, u_, u_, u_, u_, u_] [.int 1]) (fun t k => XS.iconst X0.here hx rfl (hb hby d5_40) k) ?_
      refine own_s s₁ (mkF m 45 #[rv ob, iv g, rv tx, iv 0, iv 4, iv 0, iv 0, u_, u_, u_, u_, u_] [.int 1]) (fun t k => XS.goto X0.here hx rfl (pc0 := 41) (pc' := 45) rfl (hb hby d5_41) (by decide) (by decide) k) ?_
      refine own_s s₁ (mkF m 47 #[rv ob, iv g, rv tx, iv 0, iv 4, iv 0, iv 1, u_, u_, u_, u_, u_] []) (fun t k => XS.istore X0.here hx rfl (hb hby d5_45) rfl (l' := #[rv ob, iv g, rv tx, iv 0, iv 4, iv 0, iv 1, u_, u_, u_, u_, u_]) rfl k) ?_
      refine own_s s₁ (mkF m 50 #[rv ob, iv g, rv tx, iv 0, iv 4, iv 1, iv 1, u_, u_, u_, u_, u_] []) (fun t k => XS.iinc X0.here hx rfl (hb hby d5_47) rfl (l' := #[rv ob, iv g, rv tx, iv 0, iv 4, iv 1, iv 1, u_, u_, u_, u_, u_]) rfl k) ?_
      exact j50 _ hng.symm
    · subst hf0
      refine own_s s₁ (mkF m 1 #[rv ob, iv g, rv tx, iv 0, iv 4, u_, u_, u_, u_, u_, u_, u_] [.int 0]) (fun t k => XS.iloadN X0.here hx rfl (hb hby d5_0) rfl k) ?_
      refine own_s s₁ (mkF m 3 #[rv ob, iv g, rv tx, iv 0, iv 4, iv 0, u_, u_, u_, u_, u_, u_] []) (fun t k => XS.istore X0.here hx rfl (hb hby d5_1) rfl (l' := #[rv ob, iv g, rv tx, iv 0, iv 4, iv 0, u_, u_, u_, u_, u_, u_]) rfl k) ?_
      refine own_s s₁ (mkF m 4 #[rv ob, iv g, rv tx, iv 0, iv 4, iv 0, u_, u_, u_, u_, u_, u_] [.int 0]) (fun t k => XS.iconst X0.here hx rfl (hb hby d5_3) k) ?_
      refine own_s s₁ (mkF m 6 #[rv ob, iv g, rv tx, iv 0, iv 4, iv 0, iv 0, u_, u_, u_, u_, u_] []) (fun t k => XS.istore X0.here hx rfl (hb hby d5_4) rfl (l' := #[rv ob, iv g, rv tx, iv 0, iv 4, iv 0, iv 0, u_, u_, u_, u_, u_]) rfl k) ?_
      refine own_s s₁ (mkF m 8 #[rv ob, iv g, rv tx, iv 0, iv 4, iv 0, iv 0, u_, u_, u_, u_, u_] [.int 0]) (fun t k => XS.iload X0.here hx rfl (hb hby d5_6) rfl k) ?_
      refine own_s s₁ (mkF m 10 #[rv ob, iv g, rv tx, iv 0, iv 4, iv 0, iv 0, u_, u_, u_, u_, u_] [.int 4, .int 0]) (fun t k => XS.iload X0.here hx rfl (hb hby d5_8) rfl k) ?_
      refine own_s s₁ (mkF m 13 #[rv ob, iv g, rv tx, iv 0, iv 4, iv 0, iv 0, u_, u_, u_, u_, u_] []) (fun t k => XS.icmpNo X0.here hx rfl (hb hby d5_10) rfl (tlt (by decide : ((0 : Int32) < (4 : Int32)))).2.1 k) ?_
      refine own_s s₁ (mkF m 14 #[rv ob, iv g, rv tx, iv 0, iv 4, iv 0, iv 0, u_, u_, u_, u_, u_] [.ref tx]) (fun t k => XS.aloadN X0.here hx rfl (hb hby d5_13) rfl rfl k) ?_
      refine own_s s₁ (mkF m 16 #[rv ob, iv g, rv tx, iv 0, iv 4, iv 0, iv 0, u_, u_, u_, u_, u_] [.int 0, .ref tx]) (fun t k => XS.iload X0.here hx rfl (hb hby d5_14) rfl k) ?_
      obtain ⟨cl49, Ar49, qa49, S49, M49, H49, U49⟩ := id Vx
      have hi49 := inb_of S49 (j := (0 : Int32)) ⟨by decide, by decide⟩
      have hat49 := H49.at hi49 (v := (.int sg)) rfl
      refine own_s s₁ (mkF m 17 #[rv ob, iv g, rv tx, iv 0, iv 4, iv 0, iv 0, u_, u_, u_, u_, u_] [.int sg]) (fun t k => X0.caload hx (j := (0 : Int32)) (v := (.int sg)) (by rw [e0]; exact Ar49.1) (State.isArrayOf_alike hZ.alike Ar49.2.1) Ar49.2.2 hi49 hat49 (g := (mkF m 16 #[rv ob, iv g, rv tx, iv 0, iv 4, iv 0, iv 0, u_, u_, u_, u_, u_] [.int 0, .ref tx])) rfl rfl (hb hby d5_16) t k) ?_
      refine own_s s₁ (mkF m 19 #[rv ob, iv g, rv tx, iv 0, iv 4, iv 0, iv 0, u_, u_, u_, u_, u_] [.int 45, .int sg]) (fun t k => XS.bipush X0.here hx rfl (hb hby d5_17) k) ?_
      refine own_s s₁ (mkF m 22 #[rv ob, iv g, rv tx, iv 0, iv 4, iv 0, iv 0, u_, u_, u_, u_, u_] []) (fun t k => XS.icmpNo X0.here hx rfl (hb hby d5_19) rfl (feq (by rw [hsg]; decide)).1 k) ?_
      refine own_s s₁ (mkF m 23 #[rv ob, iv g, rv tx, iv 0, iv 4, iv 0, iv 0, u_, u_, u_, u_, u_] [.ref tx]) (fun t k => XS.aloadN X0.here hx rfl (hb hby d5_22) rfl rfl k) ?_
      refine own_s s₁ (mkF m 25 #[rv ob, iv g, rv tx, iv 0, iv 4, iv 0, iv 0, u_, u_, u_, u_, u_] [.int 0, .ref tx]) (fun t k => XS.iload X0.here hx rfl (hb hby d5_23) rfl k) ?_
      obtain ⟨cl50, Ar50, qa50, S50, M50, H50, U50⟩ := id Vx
      have hi50 := inb_of S50 (j := (0 : Int32)) ⟨by decide, by decide⟩
      have hat50 := H50.at hi50 (v := (.int sg)) rfl
      refine own_s s₁ (mkF m 26 #[rv ob, iv g, rv tx, iv 0, iv 4, iv 0, iv 0, u_, u_, u_, u_, u_] [.int sg]) (fun t k => X0.caload hx (j := (0 : Int32)) (v := (.int sg)) (by rw [e0]; exact Ar50.1) (State.isArrayOf_alike hZ.alike Ar50.2.1) Ar50.2.2 hi50 hat50 (g := (mkF m 25 #[rv ob, iv g, rv tx, iv 0, iv 4, iv 0, iv 0, u_, u_, u_, u_, u_] [.int 0, .ref tx])) rfl rfl (hb hby d5_25) t k) ?_
      refine own_s s₁ (mkF m 28 #[rv ob, iv g, rv tx, iv 0, iv 4, iv 0, iv 0, u_, u_, u_, u_, u_] [.int 43, .int sg]) (fun t k => XS.bipush X0.here hx rfl (hb hby d5_26) k) ?_
      refine own_s s₁ (mkF m 31 #[rv ob, iv g, rv tx, iv 0, iv 4, iv 0, iv 0, u_, u_, u_, u_, u_] []) (fun t k => XS.icmpNo X0.here hx rfl (hb hby d5_28) rfl (teq hsg).2 k) ?_
      refine own_s s₁ (mkF m 32 #[rv ob, iv g, rv tx, iv 0, iv 4, iv 0, iv 0, u_, u_, u_, u_, u_] [.ref tx]) (fun t k => XS.aloadN X0.here hx rfl (hb hby d5_31) rfl rfl k) ?_
      refine own_s s₁ (mkF m 34 #[rv ob, iv g, rv tx, iv 0, iv 4, iv 0, iv 0, u_, u_, u_, u_, u_] [.int 0, .ref tx]) (fun t k => XS.iload X0.here hx rfl (hb hby d5_32) rfl k) ?_
      obtain ⟨cl51, Ar51, qa51, S51, M51, H51, U51⟩ := id Vx
      have hi51 := inb_of S51 (j := (0 : Int32)) ⟨by decide, by decide⟩
      have hat51 := H51.at hi51 (v := (.int sg)) rfl
      refine own_s s₁ (mkF m 35 #[rv ob, iv g, rv tx, iv 0, iv 4, iv 0, iv 0, u_, u_, u_, u_, u_] [.int sg]) (fun t k => X0.caload hx (j := (0 : Int32)) (v := (.int sg)) (by rw [e0]; exact Ar51.1) (State.isArrayOf_alike hZ.alike Ar51.2.1) Ar51.2.2 hi51 hat51 (g := (mkF m 34 #[rv ob, iv g, rv tx, iv 0, iv 4, iv 0, iv 0, u_, u_, u_, u_, u_] [.int 0, .ref tx])) rfl rfl (hb hby d5_34) t k) ?_
      refine own_s s₁ (mkF m 37 #[rv ob, iv g, rv tx, iv 0, iv 4, iv 0, iv 0, u_, u_, u_, u_, u_] [.int 45, .int sg]) (fun t k => XS.bipush X0.here hx rfl (hb hby d5_35) k) ?_
      refine own_s s₁ (mkF m 44 #[rv ob, iv g, rv tx, iv 0, iv 4, iv 0, iv 0, u_, u_, u_, u_, u_] []) (fun t k => XS.icmpYes X0.here hx rfl (pc0 := 37) (pc' := 44) rfl (hb hby d5_37) rfl (feq (by rw [hsg]; decide)).2 (by decide) (by decide) k) ?_
      refine own_s s₁ (mkF m 45 #[rv ob, iv g, rv tx, iv 0, iv 4, iv 0, iv 0, u_, u_, u_, u_, u_] [.int 0]) (fun t k => XS.iconst X0.here hx rfl (hb hby d5_44) k) ?_
      refine own_s s₁ (mkF m 47 #[rv ob, iv g, rv tx, iv 0, iv 4, iv 0, iv 0, u_, u_, u_, u_, u_] []) (fun t k => XS.istore X0.here hx rfl (hb hby d5_45) rfl (l' := #[rv ob, iv g, rv tx, iv 0, iv 4, iv 0, iv 0, u_, u_, u_, u_, u_]) rfl k) ?_
      refine own_s s₁ (mkF m 50 #[rv ob, iv g, rv tx, iv 0, iv 4, iv 1, iv 0, u_, u_, u_, u_, u_] []) (fun t k => XS.iinc X0.here hx rfl (hb hby d5_47) rfl (l' := #[rv ob, iv g, rv tx, iv 0, iv 4, iv 1, iv 0, u_, u_, u_, u_, u_]) rfl k) ?_
      exact j50 _ hng.symm
    · subst hf0
      refine own_s s₁ (mkF m 1 #[rv ob, iv g, rv tx, iv 1, iv 4, u_, u_, u_, u_, u_, u_, u_] [.int 1]) (fun t k => XS.iloadN X0.here hx rfl (hb hby d5_0) rfl k) ?_
      refine own_s s₁ (mkF m 3 #[rv ob, iv g, rv tx, iv 1, iv 4, iv 1, u_, u_, u_, u_, u_, u_] []) (fun t k => XS.istore X0.here hx rfl (hb hby d5_1) rfl (l' := #[rv ob, iv g, rv tx, iv 1, iv 4, iv 1, u_, u_, u_, u_, u_, u_]) rfl k) ?_
      refine own_s s₁ (mkF m 4 #[rv ob, iv g, rv tx, iv 1, iv 4, iv 1, u_, u_, u_, u_, u_, u_] [.int 0]) (fun t k => XS.iconst X0.here hx rfl (hb hby d5_3) k) ?_
      refine own_s s₁ (mkF m 6 #[rv ob, iv g, rv tx, iv 1, iv 4, iv 1, iv 0, u_, u_, u_, u_, u_] []) (fun t k => XS.istore X0.here hx rfl (hb hby d5_4) rfl (l' := #[rv ob, iv g, rv tx, iv 1, iv 4, iv 1, iv 0, u_, u_, u_, u_, u_]) rfl k) ?_
      refine own_s s₁ (mkF m 8 #[rv ob, iv g, rv tx, iv 1, iv 4, iv 1, iv 0, u_, u_, u_, u_, u_] [.int 1]) (fun t k => XS.iload X0.here hx rfl (hb hby d5_6) rfl k) ?_
      refine own_s s₁ (mkF m 10 #[rv ob, iv g, rv tx, iv 1, iv 4, iv 1, iv 0, u_, u_, u_, u_, u_] [.int 4, .int 1]) (fun t k => XS.iload X0.here hx rfl (hb hby d5_8) rfl k) ?_
      refine own_s s₁ (mkF m 13 #[rv ob, iv g, rv tx, iv 1, iv 4, iv 1, iv 0, u_, u_, u_, u_, u_] []) (fun t k => XS.icmpNo X0.here hx rfl (hb hby d5_10) rfl (tlt (by decide : ((1 : Int32) < (4 : Int32)))).2.1 k) ?_
      refine own_s s₁ (mkF m 14 #[rv ob, iv g, rv tx, iv 1, iv 4, iv 1, iv 0, u_, u_, u_, u_, u_] [.ref tx]) (fun t k => XS.aloadN X0.here hx rfl (hb hby d5_13) rfl rfl k) ?_
      refine own_s s₁ (mkF m 16 #[rv ob, iv g, rv tx, iv 1, iv 4, iv 1, iv 0, u_, u_, u_, u_, u_] [.int 1, .ref tx]) (fun t k => XS.iload X0.here hx rfl (hb hby d5_14) rfl k) ?_
      obtain ⟨cl52, Ar52, qa52, S52, M52, H52, U52⟩ := id Vx
      have hi52 := inb_of S52 (j := (1 : Int32)) ⟨by decide, by decide⟩
      have hat52 := H52.at hi52 (v := (.int y1)) rfl
      refine own_s s₁ (mkF m 17 #[rv ob, iv g, rv tx, iv 1, iv 4, iv 1, iv 0, u_, u_, u_, u_, u_] [.int y1]) (fun t k => X0.caload hx (j := (1 : Int32)) (v := (.int y1)) (by rw [e0]; exact Ar52.1) (State.isArrayOf_alike hZ.alike Ar52.2.1) Ar52.2.2 hi52 hat52 (g := (mkF m 16 #[rv ob, iv g, rv tx, iv 1, iv 4, iv 1, iv 0, u_, u_, u_, u_, u_] [.int 1, .ref tx])) rfl rfl (hb hby d5_16) t k) ?_
      refine own_s s₁ (mkF m 19 #[rv ob, iv g, rv tx, iv 1, iv 4, iv 1, iv 0, u_, u_, u_, u_, u_] [.int 45, .int y1]) (fun t k => XS.bipush X0.here hx rfl (hb hby d5_17) k) ?_
      refine own_s s₁ (mkF m 22 #[rv ob, iv g, rv tx, iv 1, iv 4, iv 1, iv 0, u_, u_, u_, u_, u_] []) (fun t k => XS.icmpNo X0.here hx rfl (hb hby d5_19) rfl (feq (own_dne hd1 (by decide))).1 k) ?_
      refine own_s s₁ (mkF m 23 #[rv ob, iv g, rv tx, iv 1, iv 4, iv 1, iv 0, u_, u_, u_, u_, u_] [.ref tx]) (fun t k => XS.aloadN X0.here hx rfl (hb hby d5_22) rfl rfl k) ?_
      refine own_s s₁ (mkF m 25 #[rv ob, iv g, rv tx, iv 1, iv 4, iv 1, iv 0, u_, u_, u_, u_, u_] [.int 1, .ref tx]) (fun t k => XS.iload X0.here hx rfl (hb hby d5_23) rfl k) ?_
      obtain ⟨cl53, Ar53, qa53, S53, M53, H53, U53⟩ := id Vx
      have hi53 := inb_of S53 (j := (1 : Int32)) ⟨by decide, by decide⟩
      have hat53 := H53.at hi53 (v := (.int y1)) rfl
      refine own_s s₁ (mkF m 26 #[rv ob, iv g, rv tx, iv 1, iv 4, iv 1, iv 0, u_, u_, u_, u_, u_] [.int y1]) (fun t k => X0.caload hx (j := (1 : Int32)) (v := (.int y1)) (by rw [e0]; exact Ar53.1) (State.isArrayOf_alike hZ.alike Ar53.2.1) Ar53.2.2 hi53 hat53 (g := (mkF m 25 #[rv ob, iv g, rv tx, iv 1, iv 4, iv 1, iv 0, u_, u_, u_, u_, u_] [.int 1, .ref tx])) rfl rfl (hb hby d5_25) t k) ?_
      refine own_s s₁ (mkF m 28 #[rv ob, iv g, rv tx, iv 1, iv 4, iv 1, iv 0, u_, u_, u_, u_, u_] [.int 43, .int y1]) (fun t k => XS.bipush X0.here hx rfl (hb hby d5_26) k) ?_
      refine own_s s₁ (mkF m 50 #[rv ob, iv g, rv tx, iv 1, iv 4, iv 1, iv 0, u_, u_, u_, u_, u_] []) (fun t k => XS.icmpYes X0.here hx rfl (pc0 := 28) (pc' := 50) rfl (hb hby d5_28) rfl (feq (own_dne hd1 (by decide))).2 (by decide) (by decide) k) ?_
      exact j50 _ hng.symm
  · refine own_cast (g' := (mkF m 0 #[rv ob, iv g, rv tx, iv fr, iv 4, u_, u_, u_, u_, u_, u_, u_] [])) rfl ?_
    have Vx : Arv Z h0 tx kx .char (4 : Int32) [(.int sg), (.int (46 : Int32)), (.int y1), (.int y2)] (.int (0 : Int32)) := F_1
    have j50 : ∀ (nb : Int32), nb = ng → own_Go p e below s (Q_add1 Z ob ar kr cap S v0 v1 v2 v3 g tx kx fr (2 : Int32) sg y1 y2 d1 d2 ng pw kp h0 n0) ({ frames := 4, cells := 1, slots := 4, locals := 71 } : Room).cells ({ frames := 4, cells := 1, slots := 4, locals := 71 } : Room).slots s₁ (mkF m 50 #[rv ob, iv g, rv tx, iv fr, iv 4, iv 1, iv nb, u_, u_, u_, u_, u_] []) := by
      intro nb hnb
      refine own_s s₁ (mkF m 51 #[rv ob, iv g, rv tx, iv fr, iv 4, iv 1, iv nb, u_, u_, u_, u_, u_] [.long 0]) (fun t k => XS.lconst X0.here hx rfl (hb hby d5_50) k) ?_
      refine own_s s₁ (mkF m 53 #[rv ob, iv g, rv tx, iv fr, iv 4, iv 1, iv nb, own_j 0, s_, u_, u_, u_] []) (fun t k => XS.lstore X0.here hx rfl (hb hby d5_51) rfl (l' := #[rv ob, iv g, rv tx, iv fr, iv 4, iv 1, iv nb, own_j 0, s_, u_, u_, u_]) rfl k) ?_
      refine own_s s₁ (mkF m 54 #[rv ob, iv g, rv tx, iv fr, iv 4, iv 1, iv nb, own_j 0, s_, u_, u_, u_] [.int 0]) (fun t k => XS.iconst X0.here hx rfl (hb hby d5_53) k) ?_
      refine own_s s₁ (mkF m 56 #[rv ob, iv g, rv tx, iv fr, iv 4, iv 1, iv nb, own_j 0, s_, iv 0, u_, u_] []) (fun t k => XS.istore X0.here hx rfl (hb hby d5_54) rfl (l' := #[rv ob, iv g, rv tx, iv fr, iv 4, iv 1, iv nb, own_j 0, s_, iv 0, u_, u_]) rfl k) ?_
      refine own_s s₁ (mkF m 57 #[rv ob, iv g, rv tx, iv fr, iv 4, iv 1, iv nb, own_j 0, s_, iv 0, u_, u_] [.int (-1)]) (fun t k => XS.iconst X0.here hx rfl (hb hby d5_56) k) ?_
      refine own_s s₁ (mkF m 59 #[rv ob, iv g, rv tx, iv fr, iv 4, iv 1, iv nb, own_j 0, s_, iv 0, iv (-1), u_] []) (fun t k => XS.istore X0.here hx rfl (hb hby d5_57) rfl (l' := #[rv ob, iv g, rv tx, iv fr, iv 4, iv 1, iv nb, own_j 0, s_, iv 0, iv (-1), u_]) rfl k) ?_
      refine own_s s₁ (mkF m 61 #[rv ob, iv g, rv tx, iv fr, iv 4, iv 1, iv nb, own_j 0, s_, iv 0, iv (-1), u_] [.int 1]) (fun t k => XS.iload X0.here hx rfl (hb hby d5_59) rfl k) ?_
      refine own_s s₁ (mkF m 63 #[rv ob, iv g, rv tx, iv fr, iv 4, iv 1, iv nb, own_j 0, s_, iv 0, iv (-1), u_] [.int 4, .int 1]) (fun t k => XS.iload X0.here hx rfl (hb hby d5_61) rfl k) ?_
      refine own_s s₁ (mkF m 66 #[rv ob, iv g, rv tx, iv fr, iv 4, iv 1, iv nb, own_j 0, s_, iv 0, iv (-1), u_] []) (fun t k => XS.icmpNo X0.here hx rfl (hb hby d5_63) rfl (tlt (by decide : ((1 : Int32) < (4 : Int32)))).2.1 k) ?_
      refine own_s s₁ (mkF m 67 #[rv ob, iv g, rv tx, iv fr, iv 4, iv 1, iv nb, own_j 0, s_, iv 0, iv (-1), u_] [.ref tx]) (fun t k => XS.aloadN X0.here hx rfl (hb hby d5_66) rfl rfl k) ?_
      refine own_s s₁ (mkF m 69 #[rv ob, iv g, rv tx, iv fr, iv 4, iv 1, iv nb, own_j 0, s_, iv 0, iv (-1), u_] [.int 1, .ref tx]) (fun t k => XS.iload X0.here hx rfl (hb hby d5_67) rfl k) ?_
      obtain ⟨cl54, Ar54, qa54, S54, M54, H54, U54⟩ := id Vx
      have hi54 := inb_of S54 (j := (1 : Int32)) ⟨by decide, by decide⟩
      have hat54 := H54.at hi54 (v := (.int (46 : Int32))) rfl
      refine own_s s₁ (mkF m 70 #[rv ob, iv g, rv tx, iv fr, iv 4, iv 1, iv nb, own_j 0, s_, iv 0, iv (-1), u_] [.int 46]) (fun t k => X0.caload hx (j := (1 : Int32)) (v := (.int (46 : Int32))) (by rw [e0]; exact Ar54.1) (State.isArrayOf_alike hZ.alike Ar54.2.1) Ar54.2.2 hi54 hat54 (g := (mkF m 69 #[rv ob, iv g, rv tx, iv fr, iv 4, iv 1, iv nb, own_j 0, s_, iv 0, iv (-1), u_] [.int 1, .ref tx])) rfl rfl (hb hby d5_69) t k) ?_
      refine own_s s₁ (mkF m 72 #[rv ob, iv g, rv tx, iv fr, iv 4, iv 1, iv nb, own_j 0, s_, iv 0, iv (-1), iv 46] []) (fun t k => XS.istore X0.here hx rfl (hb hby d5_70) rfl (l' := #[rv ob, iv g, rv tx, iv fr, iv 4, iv 1, iv nb, own_j 0, s_, iv 0, iv (-1), iv 46]) rfl k) ?_
      refine own_s s₁ (mkF m 74 #[rv ob, iv g, rv tx, iv fr, iv 4, iv 1, iv nb, own_j 0, s_, iv 0, iv (-1), iv 46] [.int 46]) (fun t k => XS.iload X0.here hx rfl (hb hby d5_72) rfl k) ?_
      refine own_s s₁ (mkF m 76 #[rv ob, iv g, rv tx, iv fr, iv 4, iv 1, iv nb, own_j 0, s_, iv 0, iv (-1), iv 46] [.int 46, .int 46]) (fun t k => XS.bipush X0.here hx rfl (hb hby d5_74) k) ?_
      refine own_s s₁ (mkF m 79 #[rv ob, iv g, rv tx, iv fr, iv 4, iv 1, iv nb, own_j 0, s_, iv 0, iv (-1), iv 46] []) (fun t k => XS.icmpNo X0.here hx rfl (hb hby d5_76) rfl (teq (by decide : ((46 : Int32) = (46 : Int32)))).2 k) ?_
      refine own_s s₁ (mkF m 81 #[rv ob, iv g, rv tx, iv fr, iv 4, iv 1, iv nb, own_j 0, s_, iv 0, iv (-1), iv 46] [.int (-1)]) (fun t k => XS.iload X0.here hx rfl (hb hby d5_79) rfl k) ?_
      refine own_s s₁ (mkF m 84 #[rv ob, iv g, rv tx, iv fr, iv 4, iv 1, iv nb, own_j 0, s_, iv 0, iv (-1), iv 46] []) (fun t k => XS.ifNo X0.here hx rfl (hb hby d5_81) rfl ((if0 _ _).trans (tlt (by decide : (((-1) : Int32) < (0 : Int32)))).2.1) k) ?_
      refine own_s s₁ (mkF m 85 #[rv ob, iv g, rv tx, iv fr, iv 4, iv 1, iv nb, own_j 0, s_, iv 0, iv (-1), iv 46] [.int 0]) (fun t k => XS.iconst X0.here hx rfl (hb hby d5_84) k) ?_
      refine own_s s₁ (mkF m 87 #[rv ob, iv g, rv tx, iv fr, iv 4, iv 1, iv nb, own_j 0, s_, iv 0, iv 0, iv 46] []) (fun t k => XS.istore X0.here hx rfl (hb hby d5_85) rfl (l' := #[rv ob, iv g, rv tx, iv fr, iv 4, iv 1, iv nb, own_j 0, s_, iv 0, iv 0, iv 46]) rfl k) ?_
      refine own_s s₁ (mkF m 147 #[rv ob, iv g, rv tx, iv fr, iv 4, iv 1, iv nb, own_j 0, s_, iv 0, iv 0, iv 46] []) (fun t k => XS.goto X0.here hx rfl (pc0 := 87) (pc' := 147) rfl (hb hby d5_87) (by decide) (by decide) k) ?_
      refine own_s s₁ (mkF m 150 #[rv ob, iv g, rv tx, iv fr, iv 4, iv 2, iv nb, own_j 0, s_, iv 0, iv 0, iv 46] []) (fun t k => XS.iinc X0.here hx rfl (hb hby d5_147) rfl (l' := #[rv ob, iv g, rv tx, iv fr, iv 4, iv 2, iv nb, own_j 0, s_, iv 0, iv 0, iv 46]) rfl k) ?_
      refine own_s s₁ (mkF m 59 #[rv ob, iv g, rv tx, iv fr, iv 4, iv 2, iv nb, own_j 0, s_, iv 0, iv 0, iv 46] []) (fun t k => XS.goto X0.here hx rfl (pc0 := 150) (pc' := 59) rfl (hb hby d5_150) (by decide) (by decide) k) ?_
      refine own_s s₁ (mkF m 61 #[rv ob, iv g, rv tx, iv fr, iv 4, iv 2, iv nb, own_j 0, s_, iv 0, iv 0, iv 46] [.int 2]) (fun t k => XS.iload X0.here hx rfl (hb hby d5_59) rfl k) ?_
      refine own_s s₁ (mkF m 63 #[rv ob, iv g, rv tx, iv fr, iv 4, iv 2, iv nb, own_j 0, s_, iv 0, iv 0, iv 46] [.int 4, .int 2]) (fun t k => XS.iload X0.here hx rfl (hb hby d5_61) rfl k) ?_
      refine own_s s₁ (mkF m 66 #[rv ob, iv g, rv tx, iv fr, iv 4, iv 2, iv nb, own_j 0, s_, iv 0, iv 0, iv 46] []) (fun t k => XS.icmpNo X0.here hx rfl (hb hby d5_63) rfl (tlt (by decide : ((2 : Int32) < (4 : Int32)))).2.1 k) ?_
      refine own_s s₁ (mkF m 67 #[rv ob, iv g, rv tx, iv fr, iv 4, iv 2, iv nb, own_j 0, s_, iv 0, iv 0, iv 46] [.ref tx]) (fun t k => XS.aloadN X0.here hx rfl (hb hby d5_66) rfl rfl k) ?_
      refine own_s s₁ (mkF m 69 #[rv ob, iv g, rv tx, iv fr, iv 4, iv 2, iv nb, own_j 0, s_, iv 0, iv 0, iv 46] [.int 2, .ref tx]) (fun t k => XS.iload X0.here hx rfl (hb hby d5_67) rfl k) ?_
      obtain ⟨cl55, Ar55, qa55, S55, M55, H55, U55⟩ := id Vx
      have hi55 := inb_of S55 (j := (2 : Int32)) ⟨by decide, by decide⟩
      have hat55 := H55.at hi55 (v := (.int y1)) rfl
      refine own_s s₁ (mkF m 70 #[rv ob, iv g, rv tx, iv fr, iv 4, iv 2, iv nb, own_j 0, s_, iv 0, iv 0, iv 46] [.int y1]) (fun t k => X0.caload hx (j := (2 : Int32)) (v := (.int y1)) (by rw [e0]; exact Ar55.1) (State.isArrayOf_alike hZ.alike Ar55.2.1) Ar55.2.2 hi55 hat55 (g := (mkF m 69 #[rv ob, iv g, rv tx, iv fr, iv 4, iv 2, iv nb, own_j 0, s_, iv 0, iv 0, iv 46] [.int 2, .ref tx])) rfl rfl (hb hby d5_69) t k) ?_
      refine own_s s₁ (mkF m 72 #[rv ob, iv g, rv tx, iv fr, iv 4, iv 2, iv nb, own_j 0, s_, iv 0, iv 0, iv y1] []) (fun t k => XS.istore X0.here hx rfl (hb hby d5_70) rfl (l' := #[rv ob, iv g, rv tx, iv fr, iv 4, iv 2, iv nb, own_j 0, s_, iv 0, iv 0, iv y1]) rfl k) ?_
      refine own_s s₁ (mkF m 74 #[rv ob, iv g, rv tx, iv fr, iv 4, iv 2, iv nb, own_j 0, s_, iv 0, iv 0, iv y1] [.int y1]) (fun t k => XS.iload X0.here hx rfl (hb hby d5_72) rfl k) ?_
      refine own_s s₁ (mkF m 76 #[rv ob, iv g, rv tx, iv fr, iv 4, iv 2, iv nb, own_j 0, s_, iv 0, iv 0, iv y1] [.int 46, .int y1]) (fun t k => XS.bipush X0.here hx rfl (hb hby d5_74) k) ?_
      refine own_s s₁ (mkF m 90 #[rv ob, iv g, rv tx, iv fr, iv 4, iv 2, iv nb, own_j 0, s_, iv 0, iv 0, iv y1] []) (fun t k => XS.icmpYes X0.here hx rfl (pc0 := 76) (pc' := 90) rfl (hb hby d5_76) rfl (feq (own_dne hd1 (by decide))).2 (by decide) (by decide) k) ?_
      refine own_s s₁ (mkF m 92 #[rv ob, iv g, rv tx, iv fr, iv 4, iv 2, iv nb, own_j 0, s_, iv 0, iv 0, iv y1] [.int y1]) (fun t k => XS.iload X0.here hx rfl (hb hby d5_90) rfl k) ?_
      refine own_s s₁ (mkF m 94 #[rv ob, iv g, rv tx, iv fr, iv 4, iv 2, iv nb, own_j 0, s_, iv 0, iv 0, iv y1] [.int 48, .int y1]) (fun t k => XS.bipush X0.here hx rfl (hb hby d5_92) k) ?_
      refine own_s s₁ (mkF m 97 #[rv ob, iv g, rv tx, iv fr, iv 4, iv 2, iv nb, own_j 0, s_, iv 0, iv 0, iv y1] []) (fun t k => XS.icmpNo X0.here hx rfl (hb hby d5_94) rfl (flt (own_d48 hd1)).1 k) ?_
      refine own_s s₁ (mkF m 99 #[rv ob, iv g, rv tx, iv fr, iv 4, iv 2, iv nb, own_j 0, s_, iv 0, iv 0, iv y1] [.int y1]) (fun t k => XS.iload X0.here hx rfl (hb hby d5_97) rfl k) ?_
      refine own_s s₁ (mkF m 101 #[rv ob, iv g, rv tx, iv fr, iv 4, iv 2, iv nb, own_j 0, s_, iv 0, iv 0, iv y1] [.int 57, .int y1]) (fun t k => XS.bipush X0.here hx rfl (hb hby d5_99) k) ?_
      refine own_s s₁ (mkF m 104 #[rv ob, iv g, rv tx, iv fr, iv 4, iv 2, iv nb, own_j 0, s_, iv 0, iv 0, iv y1] []) (fun t k => XS.icmpNo X0.here hx rfl (hb hby d5_101) rfl (flt (own_d57 hd1)).2.2.1 k) ?_
      refine own_s s₁ (mkF m 106 #[rv ob, iv g, rv tx, iv fr, iv 4, iv 2, iv nb, own_j 0, s_, iv 0, iv 0, iv y1] [.int 0]) (fun t k => XS.iload X0.here hx rfl (hb hby d5_104) rfl k) ?_
      refine own_s s₁ (mkF m 108 #[rv ob, iv g, rv tx, iv fr, iv 4, iv 2, iv nb, own_j 0, s_, iv 0, iv 0, iv y1] [.int 18, .int 0]) (fun t k => XS.bipush X0.here hx rfl (hb hby d5_106) k) ?_
      refine own_s s₁ (mkF m 111 #[rv ob, iv g, rv tx, iv fr, iv 4, iv 2, iv nb, own_j 0, s_, iv 0, iv 0, iv y1] []) (fun t k => XS.icmpNo X0.here hx rfl (hb hby d5_108) rfl (tlt (by decide : ((0 : Int32) < (18 : Int32)))).2.1 k) ?_
      refine own_s s₁ (mkF m 114 #[rv ob, iv g, rv tx, iv fr, iv 4, iv 2, iv nb, own_j 0, s_, iv 0, iv 0, iv y1] [.long 10]) (X0.ldc2Long hx hown (mvT hZ (hW 30 _ rfl)) (g := (mkF m 111 #[rv ob, iv g, rv tx, iv fr, iv 4, iv 2, iv nb, own_j 0, s_, iv 0, iv 0, iv y1] [])) rfl (hb hby d5_111)) ?_
      refine own_s s₁ (mkF m 116 #[rv ob, iv g, rv tx, iv fr, iv 4, iv 2, iv nb, own_j 0, s_, iv 0, iv 0, iv y1] [.long 0, .long 10]) (fun t k => XS.lload X0.here hx rfl (hb hby d5_114) rfl k) ?_
      refine own_s s₁ (mkF m 117 #[rv ob, iv g, rv tx, iv fr, iv 4, iv 2, iv nb, own_j 0, s_, iv 0, iv 0, iv y1] [.long 0]) (fun t k => XS.lmul X0.here hx rfl (hb hby d5_116) rfl k) ?_
      refine own_s s₁ (mkF m 119 #[rv ob, iv g, rv tx, iv fr, iv 4, iv 2, iv nb, own_j 0, s_, iv 0, iv 0, iv y1] [.int y1, .long 0]) (fun t k => XS.iload X0.here hx rfl (hb hby d5_117) rfl k) ?_
      refine own_s s₁ (mkF m 121 #[rv ob, iv g, rv tx, iv fr, iv 4, iv 2, iv nb, own_j 0, s_, iv 0, iv 0, iv y1] [.int 48, .int y1, .long 0]) (fun t k => XS.bipush X0.here hx rfl (hb hby d5_119) k) ?_
      refine own_s s₁ (mkF m 122 #[rv ob, iv g, rv tx, iv fr, iv 4, iv 2, iv nb, own_j 0, s_, iv 0, iv 0, iv y1] [.int (y1 - (48 : Int32)), .long 0]) (fun t k => XS.isub X0.here hx rfl (hb hby d5_121) rfl k) ?_
      refine own_s s₁ (mkF m 123 #[rv ob, iv g, rv tx, iv fr, iv 4, iv 2, iv nb, own_j 0, s_, iv 0, iv 0, iv y1] [.long ((y1 - (48 : Int32)).toInt64), .long 0]) (fun t k => XS.i2l X0.here hx rfl (hb hby d5_122) rfl k) ?_
      refine own_s s₁ (mkF m 124 #[rv ob, iv g, rv tx, iv fr, iv 4, iv 2, iv nb, own_j 0, s_, iv 0, iv 0, iv y1] [.long ((0 : Int64) + ((y1 - (48 : Int32)).toInt64))]) (fun t k => XS.ladd X0.here hx rfl (hb hby d5_123) rfl k) ?_
      refine own_s s₁ (mkF m 129 #[rv ob, iv g, rv tx, iv fr, iv 4, iv 2, iv nb, own_j 0, s_, iv 0, iv 0, iv y1] [.long ((0 : Int64) + ((y1 - (48 : Int32)).toInt64))]) (fun t k => XS.goto X0.here hx rfl (pc0 := 124) (pc' := 129) rfl (hb hby d5_124) (by decide) (by decide) k) ?_
      generalize hd_uu1 : ((0 : Int64) + ((y1 - (48 : Int32)).toInt64)) = uu1
      refine own_s s₁ (mkF m 131 #[rv ob, iv g, rv tx, iv fr, iv 4, iv 2, iv nb, own_j uu1, s_, iv 0, iv 0, iv y1] []) (fun t k => XS.lstore X0.here hx rfl (hb hby d5_129) rfl (l' := #[rv ob, iv g, rv tx, iv fr, iv 4, iv 2, iv nb, own_j uu1, s_, iv 0, iv 0, iv y1]) rfl k) ?_
      refine own_s s₁ (mkF m 134 #[rv ob, iv g, rv tx, iv fr, iv 4, iv 2, iv nb, own_j uu1, s_, iv 1, iv 0, iv y1] []) (fun t k => XS.iinc X0.here hx rfl (hb hby d5_131) rfl (l' := #[rv ob, iv g, rv tx, iv fr, iv 4, iv 2, iv nb, own_j uu1, s_, iv 1, iv 0, iv y1]) rfl k) ?_
      refine own_s s₁ (mkF m 136 #[rv ob, iv g, rv tx, iv fr, iv 4, iv 2, iv nb, own_j uu1, s_, iv 1, iv 0, iv y1] [.int 0]) (fun t k => XS.iload X0.here hx rfl (hb hby d5_134) rfl k) ?_
      refine own_s s₁ (mkF m 139 #[rv ob, iv g, rv tx, iv fr, iv 4, iv 2, iv nb, own_j uu1, s_, iv 1, iv 0, iv y1] []) (fun t k => XS.ifNo X0.here hx rfl (hb hby d5_136) rfl ((if0 _ _).trans (flt (by decide : ¬ ((0 : Int32) < (0 : Int32)))).1) k) ?_
      refine own_s s₁ (mkF m 142 #[rv ob, iv g, rv tx, iv fr, iv 4, iv 2, iv nb, own_j uu1, s_, iv 1, iv 1, iv y1] []) (fun t k => XS.iinc X0.here hx rfl (hb hby d5_139) rfl (l' := #[rv ob, iv g, rv tx, iv fr, iv 4, iv 2, iv nb, own_j uu1, s_, iv 1, iv 1, iv y1]) rfl k) ?_
      refine own_s s₁ (mkF m 147 #[rv ob, iv g, rv tx, iv fr, iv 4, iv 2, iv nb, own_j uu1, s_, iv 1, iv 1, iv y1] []) (fun t k => XS.goto X0.here hx rfl (pc0 := 142) (pc' := 147) rfl (hb hby d5_142) (by decide) (by decide) k) ?_
      refine own_s s₁ (mkF m 150 #[rv ob, iv g, rv tx, iv fr, iv 4, iv 3, iv nb, own_j uu1, s_, iv 1, iv 1, iv y1] []) (fun t k => XS.iinc X0.here hx rfl (hb hby d5_147) rfl (l' := #[rv ob, iv g, rv tx, iv fr, iv 4, iv 3, iv nb, own_j uu1, s_, iv 1, iv 1, iv y1]) rfl k) ?_
      refine own_s s₁ (mkF m 59 #[rv ob, iv g, rv tx, iv fr, iv 4, iv 3, iv nb, own_j uu1, s_, iv 1, iv 1, iv y1] []) (fun t k => XS.goto X0.here hx rfl (pc0 := 150) (pc' := 59) rfl (hb hby d5_150) (by decide) (by decide) k) ?_
      refine own_s s₁ (mkF m 61 #[rv ob, iv g, rv tx, iv fr, iv 4, iv 3, iv nb, own_j uu1, s_, iv 1, iv 1, iv y1] [.int 3]) (fun t k => XS.iload X0.here hx rfl (hb hby d5_59) rfl k) ?_
      refine own_s s₁ (mkF m 63 #[rv ob, iv g, rv tx, iv fr, iv 4, iv 3, iv nb, own_j uu1, s_, iv 1, iv 1, iv y1] [.int 4, .int 3]) (fun t k => XS.iload X0.here hx rfl (hb hby d5_61) rfl k) ?_
      refine own_s s₁ (mkF m 66 #[rv ob, iv g, rv tx, iv fr, iv 4, iv 3, iv nb, own_j uu1, s_, iv 1, iv 1, iv y1] []) (fun t k => XS.icmpNo X0.here hx rfl (hb hby d5_63) rfl (tlt (by decide : ((3 : Int32) < (4 : Int32)))).2.1 k) ?_
      refine own_s s₁ (mkF m 67 #[rv ob, iv g, rv tx, iv fr, iv 4, iv 3, iv nb, own_j uu1, s_, iv 1, iv 1, iv y1] [.ref tx]) (fun t k => XS.aloadN X0.here hx rfl (hb hby d5_66) rfl rfl k) ?_
      refine own_s s₁ (mkF m 69 #[rv ob, iv g, rv tx, iv fr, iv 4, iv 3, iv nb, own_j uu1, s_, iv 1, iv 1, iv y1] [.int 3, .ref tx]) (fun t k => XS.iload X0.here hx rfl (hb hby d5_67) rfl k) ?_
      obtain ⟨cl56, Ar56, qa56, S56, M56, H56, U56⟩ := id Vx
      have hi56 := inb_of S56 (j := (3 : Int32)) ⟨by decide, by decide⟩
      have hat56 := H56.at hi56 (v := (.int y2)) rfl
      refine own_s s₁ (mkF m 70 #[rv ob, iv g, rv tx, iv fr, iv 4, iv 3, iv nb, own_j uu1, s_, iv 1, iv 1, iv y1] [.int y2]) (fun t k => X0.caload hx (j := (3 : Int32)) (v := (.int y2)) (by rw [e0]; exact Ar56.1) (State.isArrayOf_alike hZ.alike Ar56.2.1) Ar56.2.2 hi56 hat56 (g := (mkF m 69 #[rv ob, iv g, rv tx, iv fr, iv 4, iv 3, iv nb, own_j uu1, s_, iv 1, iv 1, iv y1] [.int 3, .ref tx])) rfl rfl (hb hby d5_69) t k) ?_
      refine own_s s₁ (mkF m 72 #[rv ob, iv g, rv tx, iv fr, iv 4, iv 3, iv nb, own_j uu1, s_, iv 1, iv 1, iv y2] []) (fun t k => XS.istore X0.here hx rfl (hb hby d5_70) rfl (l' := #[rv ob, iv g, rv tx, iv fr, iv 4, iv 3, iv nb, own_j uu1, s_, iv 1, iv 1, iv y2]) rfl k) ?_
      refine own_s s₁ (mkF m 74 #[rv ob, iv g, rv tx, iv fr, iv 4, iv 3, iv nb, own_j uu1, s_, iv 1, iv 1, iv y2] [.int y2]) (fun t k => XS.iload X0.here hx rfl (hb hby d5_72) rfl k) ?_
      refine own_s s₁ (mkF m 76 #[rv ob, iv g, rv tx, iv fr, iv 4, iv 3, iv nb, own_j uu1, s_, iv 1, iv 1, iv y2] [.int 46, .int y2]) (fun t k => XS.bipush X0.here hx rfl (hb hby d5_74) k) ?_
      refine own_s s₁ (mkF m 90 #[rv ob, iv g, rv tx, iv fr, iv 4, iv 3, iv nb, own_j uu1, s_, iv 1, iv 1, iv y2] []) (fun t k => XS.icmpYes X0.here hx rfl (pc0 := 76) (pc' := 90) rfl (hb hby d5_76) rfl (feq (own_dne hd2 (by decide))).2 (by decide) (by decide) k) ?_
      refine own_s s₁ (mkF m 92 #[rv ob, iv g, rv tx, iv fr, iv 4, iv 3, iv nb, own_j uu1, s_, iv 1, iv 1, iv y2] [.int y2]) (fun t k => XS.iload X0.here hx rfl (hb hby d5_90) rfl k) ?_
      refine own_s s₁ (mkF m 94 #[rv ob, iv g, rv tx, iv fr, iv 4, iv 3, iv nb, own_j uu1, s_, iv 1, iv 1, iv y2] [.int 48, .int y2]) (fun t k => XS.bipush X0.here hx rfl (hb hby d5_92) k) ?_
      refine own_s s₁ (mkF m 97 #[rv ob, iv g, rv tx, iv fr, iv 4, iv 3, iv nb, own_j uu1, s_, iv 1, iv 1, iv y2] []) (fun t k => XS.icmpNo X0.here hx rfl (hb hby d5_94) rfl (flt (own_d48 hd2)).1 k) ?_
      refine own_s s₁ (mkF m 99 #[rv ob, iv g, rv tx, iv fr, iv 4, iv 3, iv nb, own_j uu1, s_, iv 1, iv 1, iv y2] [.int y2]) (fun t k => XS.iload X0.here hx rfl (hb hby d5_97) rfl k) ?_
      refine own_s s₁ (mkF m 101 #[rv ob, iv g, rv tx, iv fr, iv 4, iv 3, iv nb, own_j uu1, s_, iv 1, iv 1, iv y2] [.int 57, .int y2]) (fun t k => XS.bipush X0.here hx rfl (hb hby d5_99) k) ?_
      refine own_s s₁ (mkF m 104 #[rv ob, iv g, rv tx, iv fr, iv 4, iv 3, iv nb, own_j uu1, s_, iv 1, iv 1, iv y2] []) (fun t k => XS.icmpNo X0.here hx rfl (hb hby d5_101) rfl (flt (own_d57 hd2)).2.2.1 k) ?_
      refine own_s s₁ (mkF m 106 #[rv ob, iv g, rv tx, iv fr, iv 4, iv 3, iv nb, own_j uu1, s_, iv 1, iv 1, iv y2] [.int 1]) (fun t k => XS.iload X0.here hx rfl (hb hby d5_104) rfl k) ?_
      refine own_s s₁ (mkF m 108 #[rv ob, iv g, rv tx, iv fr, iv 4, iv 3, iv nb, own_j uu1, s_, iv 1, iv 1, iv y2] [.int 18, .int 1]) (fun t k => XS.bipush X0.here hx rfl (hb hby d5_106) k) ?_
      refine own_s s₁ (mkF m 111 #[rv ob, iv g, rv tx, iv fr, iv 4, iv 3, iv nb, own_j uu1, s_, iv 1, iv 1, iv y2] []) (fun t k => XS.icmpNo X0.here hx rfl (hb hby d5_108) rfl (tlt (by decide : ((1 : Int32) < (18 : Int32)))).2.1 k) ?_
      refine own_s s₁ (mkF m 114 #[rv ob, iv g, rv tx, iv fr, iv 4, iv 3, iv nb, own_j uu1, s_, iv 1, iv 1, iv y2] [.long 10]) (X0.ldc2Long hx hown (mvT hZ (hW 30 _ rfl)) (g := (mkF m 111 #[rv ob, iv g, rv tx, iv fr, iv 4, iv 3, iv nb, own_j uu1, s_, iv 1, iv 1, iv y2] [])) rfl (hb hby d5_111)) ?_
      refine own_s s₁ (mkF m 116 #[rv ob, iv g, rv tx, iv fr, iv 4, iv 3, iv nb, own_j uu1, s_, iv 1, iv 1, iv y2] [.long uu1, .long 10]) (fun t k => XS.lload X0.here hx rfl (hb hby d5_114) rfl k) ?_
      refine own_s s₁ (mkF m 117 #[rv ob, iv g, rv tx, iv fr, iv 4, iv 3, iv nb, own_j uu1, s_, iv 1, iv 1, iv y2] [.long ((10 : Int64) * uu1)]) (fun t k => XS.lmul X0.here hx rfl (hb hby d5_116) rfl k) ?_
      refine own_s s₁ (mkF m 119 #[rv ob, iv g, rv tx, iv fr, iv 4, iv 3, iv nb, own_j uu1, s_, iv 1, iv 1, iv y2] [.int y2, .long ((10 : Int64) * uu1)]) (fun t k => XS.iload X0.here hx rfl (hb hby d5_117) rfl k) ?_
      refine own_s s₁ (mkF m 121 #[rv ob, iv g, rv tx, iv fr, iv 4, iv 3, iv nb, own_j uu1, s_, iv 1, iv 1, iv y2] [.int 48, .int y2, .long ((10 : Int64) * uu1)]) (fun t k => XS.bipush X0.here hx rfl (hb hby d5_119) k) ?_
      refine own_s s₁ (mkF m 122 #[rv ob, iv g, rv tx, iv fr, iv 4, iv 3, iv nb, own_j uu1, s_, iv 1, iv 1, iv y2] [.int (y2 - (48 : Int32)), .long ((10 : Int64) * uu1)]) (fun t k => XS.isub X0.here hx rfl (hb hby d5_121) rfl k) ?_
      refine own_s s₁ (mkF m 123 #[rv ob, iv g, rv tx, iv fr, iv 4, iv 3, iv nb, own_j uu1, s_, iv 1, iv 1, iv y2] [.long ((y2 - (48 : Int32)).toInt64), .long ((10 : Int64) * uu1)]) (fun t k => XS.i2l X0.here hx rfl (hb hby d5_122) rfl k) ?_
      refine own_s s₁ (mkF m 124 #[rv ob, iv g, rv tx, iv fr, iv 4, iv 3, iv nb, own_j uu1, s_, iv 1, iv 1, iv y2] [.long (((10 : Int64) * uu1) + ((y2 - (48 : Int32)).toInt64))]) (fun t k => XS.ladd X0.here hx rfl (hb hby d5_123) rfl k) ?_
      refine own_s s₁ (mkF m 129 #[rv ob, iv g, rv tx, iv fr, iv 4, iv 3, iv nb, own_j uu1, s_, iv 1, iv 1, iv y2] [.long (((10 : Int64) * uu1) + ((y2 - (48 : Int32)).toInt64))]) (fun t k => XS.goto X0.here hx rfl (pc0 := 124) (pc' := 129) rfl (hb hby d5_124) (by decide) (by decide) k) ?_
      generalize hd_uu2 : (((10 : Int64) * uu1) + ((y2 - (48 : Int32)).toInt64)) = uu2
      refine own_s s₁ (mkF m 131 #[rv ob, iv g, rv tx, iv fr, iv 4, iv 3, iv nb, own_j uu2, s_, iv 1, iv 1, iv y2] []) (fun t k => XS.lstore X0.here hx rfl (hb hby d5_129) rfl (l' := #[rv ob, iv g, rv tx, iv fr, iv 4, iv 3, iv nb, own_j uu2, s_, iv 1, iv 1, iv y2]) rfl k) ?_
      refine own_s s₁ (mkF m 134 #[rv ob, iv g, rv tx, iv fr, iv 4, iv 3, iv nb, own_j uu2, s_, iv 2, iv 1, iv y2] []) (fun t k => XS.iinc X0.here hx rfl (hb hby d5_131) rfl (l' := #[rv ob, iv g, rv tx, iv fr, iv 4, iv 3, iv nb, own_j uu2, s_, iv 2, iv 1, iv y2]) rfl k) ?_
      refine own_s s₁ (mkF m 136 #[rv ob, iv g, rv tx, iv fr, iv 4, iv 3, iv nb, own_j uu2, s_, iv 2, iv 1, iv y2] [.int 1]) (fun t k => XS.iload X0.here hx rfl (hb hby d5_134) rfl k) ?_
      refine own_s s₁ (mkF m 139 #[rv ob, iv g, rv tx, iv fr, iv 4, iv 3, iv nb, own_j uu2, s_, iv 2, iv 1, iv y2] []) (fun t k => XS.ifNo X0.here hx rfl (hb hby d5_136) rfl ((if0 _ _).trans (flt (by decide : ¬ ((1 : Int32) < (0 : Int32)))).1) k) ?_
      refine own_s s₁ (mkF m 142 #[rv ob, iv g, rv tx, iv fr, iv 4, iv 3, iv nb, own_j uu2, s_, iv 2, iv 2, iv y2] []) (fun t k => XS.iinc X0.here hx rfl (hb hby d5_139) rfl (l' := #[rv ob, iv g, rv tx, iv fr, iv 4, iv 3, iv nb, own_j uu2, s_, iv 2, iv 2, iv y2]) rfl k) ?_
      refine own_s s₁ (mkF m 147 #[rv ob, iv g, rv tx, iv fr, iv 4, iv 3, iv nb, own_j uu2, s_, iv 2, iv 2, iv y2] []) (fun t k => XS.goto X0.here hx rfl (pc0 := 142) (pc' := 147) rfl (hb hby d5_142) (by decide) (by decide) k) ?_
      refine own_s s₁ (mkF m 150 #[rv ob, iv g, rv tx, iv fr, iv 4, iv 4, iv nb, own_j uu2, s_, iv 2, iv 2, iv y2] []) (fun t k => XS.iinc X0.here hx rfl (hb hby d5_147) rfl (l' := #[rv ob, iv g, rv tx, iv fr, iv 4, iv 4, iv nb, own_j uu2, s_, iv 2, iv 2, iv y2]) rfl k) ?_
      refine own_s s₁ (mkF m 59 #[rv ob, iv g, rv tx, iv fr, iv 4, iv 4, iv nb, own_j uu2, s_, iv 2, iv 2, iv y2] []) (fun t k => XS.goto X0.here hx rfl (pc0 := 150) (pc' := 59) rfl (hb hby d5_150) (by decide) (by decide) k) ?_
      refine own_s s₁ (mkF m 61 #[rv ob, iv g, rv tx, iv fr, iv 4, iv 4, iv nb, own_j uu2, s_, iv 2, iv 2, iv y2] [.int 4]) (fun t k => XS.iload X0.here hx rfl (hb hby d5_59) rfl k) ?_
      refine own_s s₁ (mkF m 63 #[rv ob, iv g, rv tx, iv fr, iv 4, iv 4, iv nb, own_j uu2, s_, iv 2, iv 2, iv y2] [.int 4, .int 4]) (fun t k => XS.iload X0.here hx rfl (hb hby d5_61) rfl k) ?_
      refine own_s s₁ (mkF m 153 #[rv ob, iv g, rv tx, iv fr, iv 4, iv 4, iv nb, own_j uu2, s_, iv 2, iv 2, iv y2] []) (fun t k => XS.icmpYes X0.here hx rfl (pc0 := 63) (pc' := 153) rfl (hb hby d5_63) rfl (flt (by decide : ¬ ((4 : Int32) < (4 : Int32)))).2.1 (by decide) (by decide) k) ?_
      refine own_s s₁ (mkF m 155 #[rv ob, iv g, rv tx, iv fr, iv 4, iv 4, iv nb, own_j uu2, s_, iv 2, iv 2, iv y2] [.int 2]) (fun t k => XS.iload X0.here hx rfl (hb hby d5_153) rfl k) ?_
      refine own_s s₁ (mkF m 160 #[rv ob, iv g, rv tx, iv fr, iv 4, iv 4, iv nb, own_j uu2, s_, iv 2, iv 2, iv y2] []) (fun t k => XS.ifYes X0.here hx rfl (pc0 := 155) (pc' := 160) rfl (hb hby d5_155) rfl ((if0 _ _).trans (feq (by decide : ¬ ((2 : Int32) = (0 : Int32)))).2) (by decide) (by decide) k) ?_
      refine own_s s₁ (mkF m 162 #[rv ob, iv g, rv tx, iv fr, iv 4, iv 4, iv nb, own_j uu2, s_, iv 2, iv 2, iv y2] [.int 2]) (fun t k => XS.iload X0.here hx rfl (hb hby d5_160) rfl k) ?_
      refine own_s s₁ (mkF m 163 #[rv ob, iv g, rv tx, iv fr, iv 4, iv 4, iv nb, own_j uu2, s_, iv 2, iv 2, iv y2] [.int 0, .int 2]) (fun t k => XS.iconst X0.here hx rfl (hb hby d5_162) k) ?_
      obtain ⟨_, _, ⟨T59, L59, k59, n59⟩, -, X59, ⟨Lc59, hQ59, lq59, yq59, zq59⟩, st59⟩ := Jvm.LawKit.callS X0 hx (y := (⟨"java/lang/Math", "max", "(II)I"⟩ : MethodName)) hown (mvT hZ (hW 31 _ rfl)) (mvT hZ (hW 32 _ rfl)) (mvT hZ (hW 33 _ rfl)) (mvT hZ (hW 34 _ rfl)) (by decide) (backOf (W := 0) (rm_maxl2 l Z a0 hw []  h0 n0 Z0 ) hZ (hW 34 _ rfl) (hW 33 _ rfl) (by decide) (by decide)) (g := (mkF m 163 #[rv ob, iv g, rv tx, iv fr, iv 4, iv 4, iv nb, own_j uu2, s_, iv 2, iv 2, iv y2] [.int 0, .int 2])) rfl (by rw [hml]; rfl) (argsL := [(.int (2 : Int32)), (.int (0 : Int32))]) (rest := []) (lenOf pd_3 rfl) rfl (by show 2 * 0 + _ ≤ _; exact Nat.le_of_eq rfl) (hb hby d5_163) (fun _ _ => ⟨rfl, e0, (by decide : 0 + 0 ≤ _), (by decide : 0 + 0 ≤ _)⟩)
      dsimp only [Pt.U, Pt.locs, Pt.cells, Pt.slots] at X59 lq59 yq59 zq59 st59 hQ59
      subst lq59 yq59 zq59
      obtain ⟨rfl, Nq59, eq58⟩ := hQ59
      have N59 := Fr.app N0 Nq59
      refine own_s T59 (mkF m 166 #[rv ob, iv g, rv tx, iv fr, iv 4, iv 4, iv nb, own_j uu2, s_, iv 2, iv 2, iv y2] [.int 2]) st59 ?_
      refine own_s T59 (mkF m 168 #[rv ob, iv g, rv tx, iv fr, iv 4, iv 4, iv nb, own_j uu2, s_, iv 2, iv 2, iv y2] []) (fun t k => XS.istore X59.here hx rfl (hb hby d5_166) rfl (l' := #[rv ob, iv g, rv tx, iv fr, iv 4, iv 4, iv nb, own_j uu2, s_, iv 2, iv 2, iv y2]) rfl k) ?_
      refine own_s T59 (mkF m 170 #[rv ob, iv g, rv tx, iv fr, iv 4, iv 4, iv nb, own_j uu2, s_, iv 2, iv 2, iv y2] [.int 2]) (fun t k => XS.iload X59.here hx rfl (hb hby d5_168) rfl k) ?_
      refine own_s T59 (mkF m 172 #[rv ob, iv g, rv tx, iv fr, iv 4, iv 4, iv nb, own_j uu2, s_, iv 2, iv 2, iv y2] [.int 18, .int 2]) (fun t k => XS.bipush X59.here hx rfl (hb hby d5_170) k) ?_
      refine own_s T59 (mkF m 201 #[rv ob, iv g, rv tx, iv fr, iv 4, iv 4, iv nb, own_j uu2, s_, iv 2, iv 2, iv y2] []) (fun t k => XS.icmpYes X59.here hx rfl (pc0 := 172) (pc' := 201) rfl (hb hby d5_172) rfl (flt (by decide : ¬ ((18 : Int32) < (2 : Int32)))).2.2.2 (by decide) (by decide) k) ?_
      refine own_s T59 (mkF m 202 #[rv ob, iv g, rv tx, iv fr, iv 4, iv 4, iv nb, own_j uu2, s_, iv 2, iv 2, iv y2] [.ref ob]) (fun t k => XS.aloadN X59.here hx rfl (hb hby d5_201) rfl rfl k) ?_
      refine own_s T59 (mkF m 203 #[rv ob, iv g, rv tx, iv fr, iv 4, iv 4, iv nb, own_j uu2, s_, iv 2, iv 2, iv y2] [.int g, .ref ob]) (fun t k => XS.iloadN X59.here hx rfl (hb hby d5_202) rfl k) ?_
      refine own_s T59 (mkF m 205 #[rv ob, iv g, rv tx, iv fr, iv 4, iv 4, iv nb, own_j uu2, s_, iv 2, iv 2, iv y2] [.int nb, .int g, .ref ob]) (fun t k => XS.iload X59.here hx rfl (hb hby d5_203) rfl k) ?_
      have huu : uu2 = own_u d1 d2 := by rw [← hd_uu2, ← hd_uu1, own_dsub hd1, own_dsub hd2, Int64.zero_add]; rfl
      by_cases c205 : nb = (0 : Int32)
      · have hsv : own_sv ng (own_u d1 d2) = uu2 := by rw [own_sv, if_pos (hnb.symm.trans c205), huu]
        refine own_s T59 (mkF m 214 #[rv ob, iv g, rv tx, iv fr, iv 4, iv 4, iv nb, own_j uu2, s_, iv 2, iv 2, iv y2] [.int g, .ref ob]) (fun t k => XS.ifYes X59.here hx rfl (pc0 := 205) (pc' := 214) rfl (hb hby d5_205) rfl ((if0 _ _).trans (teq c205).1) (by decide) (by decide) k) ?_
        refine own_s T59 (mkF m 216 #[rv ob, iv g, rv tx, iv fr, iv 4, iv 4, iv nb, own_j uu2, s_, iv 2, iv 2, iv y2] [.long uu2, .int g, .ref ob]) (fun t k => XS.lload X59.here hx rfl (hb hby d5_214) rfl k) ?_
        refine own_s T59 (mkF m 218 #[rv ob, iv g, rv tx, iv fr, iv 4, iv 4, iv nb, own_j uu2, s_, iv 2, iv 2, iv y2] [.int 2, .long uu2, .int g, .ref ob]) (fun t k => XS.iload X59.here hx rfl (hb hby d5_216) rfl k) ?_
        obtain ⟨cq64, q64a, q64b⟩ := F_0.1.cell
        obtain ⟨_, _, ⟨T63, L63, k63, n63⟩, -, X63, ⟨Lc63, hQ63, lq63, yq63, zq63⟩, st63⟩ := own_privH X59 hx (y := (⟨"com/example/viewlattice/viewlattice/engine/DecimalSums", "addUnscaled", "(IJI)V"⟩ : MethodName)) hown (mvT hZ (hW 35 _ rfl)) (mvT hZ (hW 36 _ rfl)) (mvT hZ (hW 3 _ rfl)) (Cond.privateMethod_at (args := #[]) (mvP hZ (hW 37 _ rfl))) (mvT hZ (hW 38 _ rfl)) (by decide) (backOfWith (W := 0) (rm_au l Z a0 hw [] ob ar kr cap S v0 v1 v2 v3 g uu2 (2 : Int32) pw kp h0 n0 Z0 F_0 O0 hcap hg (own_hs1 hS (Or.inr (Or.inr rfl))) (own_hs2 hS (Or.inr (Or.inr rfl))) (by rw [huu]; exact own_usm hd1 hd2) hv0 hv1 hv2 hv3 S_p V_p) hZ (hW 38 _ rfl) (hW 4 _ rfl) (by decide) (by decide)) (g := (mkF m 218 #[rv ob, iv g, rv tx, iv fr, iv 4, iv 4, iv nb, own_j uu2, s_, iv 2, iv 2, iv y2] [.int 2, .long uu2, .int g, .ref ob])) rfl (by rw [hml]; rfl) (Steps.refl _) (a := ob) (cell := cq64) (by rw [eq58]; exact q64a) q64b (argsL := [(.int g), (.long uu2), (.int (2 : Int32))]) (rest := []) (lenOf pd_4 rfl) rfl (by show 2 * 0 + _ ≤ _; exact Nat.le_of_eq rfl) (hb hby d5_218) (fun _ _ => ⟨rfl, eq58, (by decide : 0 + 1 ≤ _), (by decide : 0 + 4 ≤ _)⟩)
        dsimp only [Pt.U, Pt.locs, Pt.cells, Pt.slots] at X63 lq63 yq63 zq63 st63 hQ63
        subst lq63 yq63 zq63
        obtain ⟨b_60, kb_60, rfl, Nq63, K61, g62, pz61⟩ := hQ63
        have N63 := Fr.app N59 Nq63
        have g65 : Arv Z T63.heap tx kx .char (4 : Int32) [(.int sg), (.int (46 : Int32)), (.int y1), (.int y2)] (.int (0 : Int32)) := Vx.keep K61 (ninS (Ne.symm n_ob_tx) (ninS (Ne.symm n_ar_tx) nin0))
        have Z61 : n0 ≤ T63.heap.size := (Nat.le_trans Z0 K61.1)
        have O61 : Old Z n0 T63.heap := O0.keep K61 (allS (P := fun x => n0 ≤ x) F_0.2.2.2.2.2.1 (allS (P := fun x => n0 ≤ x) F_0.2.2.2.2.2.2 all0))
        have K66 : Keep h0 T63.heap [ob, ar] := K0.trans K61 (allS (P := fun x => x ∈ [ob, ar] ∨ h0.size ≤ x) (Or.inl (List.mem_of_getElem? (i := 0) rfl)) (allS (P := fun x => x ∈ [ob, ar] ∨ h0.size ≤ x) (Or.inl (List.mem_of_getElem? (i := 1) rfl)) all0))
        have nb61_2 : tx ≠ b_60 := fun z => pz61.elim (fun y => (Ne.symm n_ar_tx) (z.trans y)) (fun y => Nat.ne_of_lt (Nat.lt_of_lt_of_le Vx.lt y) z)
        refine own_tr (T' := T63) (g' := (mkF m 221 #[rv ob, iv g, rv tx, iv fr, iv 4, iv 4, iv nb, own_j uu2, s_, iv 2, iv 2, iv y2] [])) st63 ?_
        refine own_s T63 (mkF m 222 #[rv ob, iv g, rv tx, iv fr, iv 4, iv 4, iv nb, own_j uu2, s_, iv 2, iv 2, iv y2] [.int 1]) (fun t k => XS.iconst X63.here hx rfl (hb hby d5_221) k) ?_
        refine own_rN X63 hx hlk Bd.returns (by simp) (hb hby d5_222) ?_ (by decide) (by decide)
        exact ⟨b_60, kb_60, rfl, N63, K66, (by rw [hsv]; exact g62), pz61⟩
      · have hsv : own_sv ng (own_u d1 d2) = (-uu2) := by rw [own_sv, if_neg (fun q => c205 (hnb.trans q)), huu]
        refine own_s T59 (mkF m 208 #[rv ob, iv g, rv tx, iv fr, iv 4, iv 4, iv nb, own_j uu2, s_, iv 2, iv 2, iv y2] [.int g, .ref ob]) (fun t k => XS.ifNo X59.here hx rfl (hb hby d5_205) rfl ((if0 _ _).trans (feq c205).1) k) ?_
        refine own_s T59 (mkF m 210 #[rv ob, iv g, rv tx, iv fr, iv 4, iv 4, iv nb, own_j uu2, s_, iv 2, iv 2, iv y2] [.long uu2, .int g, .ref ob]) (fun t k => XS.lload X59.here hx rfl (hb hby d5_208) rfl k) ?_
        refine own_s T59 (mkF m 211 #[rv ob, iv g, rv tx, iv fr, iv 4, iv 4, iv nb, own_j uu2, s_, iv 2, iv 2, iv y2] [.long (-uu2), .int g, .ref ob]) (fun t k => XS.lneg X59.here hx rfl (hb hby d5_210) rfl k) ?_
        refine own_s T59 (mkF m 216 #[rv ob, iv g, rv tx, iv fr, iv 4, iv 4, iv nb, own_j uu2, s_, iv 2, iv 2, iv y2] [.long (-uu2), .int g, .ref ob]) (fun t k => XS.goto X59.here hx rfl (pc0 := 211) (pc' := 216) rfl (hb hby d5_211) (by decide) (by decide) k) ?_
        refine own_s T59 (mkF m 218 #[rv ob, iv g, rv tx, iv fr, iv 4, iv 4, iv nb, own_j uu2, s_, iv 2, iv 2, iv y2] [.int 2, .long (-uu2), .int g, .ref ob]) (fun t k => XS.iload X59.here hx rfl (hb hby d5_216) rfl k) ?_
        obtain ⟨cq71, q71a, q71b⟩ := F_0.1.cell
        obtain ⟨_, _, ⟨T70, L70, k70, n70⟩, -, X70, ⟨Lc70, hQ70, lq70, yq70, zq70⟩, st70⟩ := own_privH X59 hx (y := (⟨"com/example/viewlattice/viewlattice/engine/DecimalSums", "addUnscaled", "(IJI)V"⟩ : MethodName)) hown (mvT hZ (hW 35 _ rfl)) (mvT hZ (hW 36 _ rfl)) (mvT hZ (hW 3 _ rfl)) (Cond.privateMethod_at (args := #[]) (mvP hZ (hW 37 _ rfl))) (mvT hZ (hW 38 _ rfl)) (by decide) (backOfWith (W := 0) (rm_au l Z a0 hw [] ob ar kr cap S v0 v1 v2 v3 g (-uu2) (2 : Int32) pw kp h0 n0 Z0 F_0 O0 hcap hg (own_hs1 hS (Or.inr (Or.inr rfl))) (own_hs2 hS (Or.inr (Or.inr rfl))) (by rw [huu]; exact own_unsm hd1 hd2) hv0 hv1 hv2 hv3 S_p V_p) hZ (hW 38 _ rfl) (hW 4 _ rfl) (by decide) (by decide)) (g := (mkF m 218 #[rv ob, iv g, rv tx, iv fr, iv 4, iv 4, iv nb, own_j uu2, s_, iv 2, iv 2, iv y2] [.int 2, .long (-uu2), .int g, .ref ob])) rfl (by rw [hml]; rfl) (Steps.refl _) (a := ob) (cell := cq71) (by rw [eq58]; exact q71a) q71b (argsL := [(.int g), (.long (-uu2)), (.int (2 : Int32))]) (rest := []) (lenOf pd_4 rfl) rfl (by show 2 * 0 + _ ≤ _; exact Nat.le_of_eq rfl) (hb hby d5_218) (fun _ _ => ⟨rfl, eq58, (by decide : 0 + 1 ≤ _), (by decide : 0 + 4 ≤ _)⟩)
        dsimp only [Pt.U, Pt.locs, Pt.cells, Pt.slots] at X70 lq70 yq70 zq70 st70 hQ70
        subst lq70 yq70 zq70
        obtain ⟨b_67, kb_67, rfl, Nq70, K68, g69, pz68⟩ := hQ70
        have N70 := Fr.app N59 Nq70
        have g72 : Arv Z T70.heap tx kx .char (4 : Int32) [(.int sg), (.int (46 : Int32)), (.int y1), (.int y2)] (.int (0 : Int32)) := Vx.keep K68 (ninS (Ne.symm n_ob_tx) (ninS (Ne.symm n_ar_tx) nin0))
        have Z68 : n0 ≤ T70.heap.size := (Nat.le_trans Z0 K68.1)
        have O68 : Old Z n0 T70.heap := O0.keep K68 (allS (P := fun x => n0 ≤ x) F_0.2.2.2.2.2.1 (allS (P := fun x => n0 ≤ x) F_0.2.2.2.2.2.2 all0))
        have K73 : Keep h0 T70.heap [ob, ar] := K0.trans K68 (allS (P := fun x => x ∈ [ob, ar] ∨ h0.size ≤ x) (Or.inl (List.mem_of_getElem? (i := 0) rfl)) (allS (P := fun x => x ∈ [ob, ar] ∨ h0.size ≤ x) (Or.inl (List.mem_of_getElem? (i := 1) rfl)) all0))
        have nb68_2 : tx ≠ b_67 := fun z => pz68.elim (fun y => (Ne.symm n_ar_tx) (z.trans y)) (fun y => Nat.ne_of_lt (Nat.lt_of_lt_of_le Vx.lt y) z)
        refine own_tr (T' := T70) (g' := (mkF m 221 #[rv ob, iv g, rv tx, iv fr, iv 4, iv 4, iv nb, own_j uu2, s_, iv 2, iv 2, iv y2] [])) st70 ?_
        refine own_s T70 (mkF m 222 #[rv ob, iv g, rv tx, iv fr, iv 4, iv 4, iv nb, own_j uu2, s_, iv 2, iv 2, iv y2] [.int 1]) (fun t k => XS.iconst X70.here hx rfl (hb hby d5_221) k) ?_
        refine own_rN X70 hx hlk Bd.returns (by simp) (hb hby d5_222) ?_ (by decide) (by decide)
        exact ⟨b_67, kb_67, rfl, N70, K73, (by rw [hsv]; exact g69), pz68⟩
    rcases hfr with ⟨hf0, hsg, hng⟩ | ⟨hf0, hsg, hng⟩ | ⟨hf0, hng⟩
    · subst hf0
      refine own_s s₁ (mkF m 1 #[rv ob, iv g, rv tx, iv 0, iv 4, u_, u_, u_, u_, u_, u_, u_] [.int 0]) (fun t k => XS.iloadN X0.here hx rfl (hb hby d5_0) rfl k) ?_
      refine own_s s₁ (mkF m 3 #[rv ob, iv g, rv tx, iv 0, iv 4, iv 0, u_, u_, u_, u_, u_, u_] []) (fun t k => XS.istore X0.here hx rfl (hb hby d5_1) rfl (l' := #[rv ob, iv g, rv tx, iv 0, iv 4, iv 0, u_, u_, u_, u_, u_, u_]) rfl k) ?_
      refine own_s s₁ (mkF m 4 #[rv ob, iv g, rv tx, iv 0, iv 4, iv 0, u_, u_, u_, u_, u_, u_] [.int 0]) (fun t k => XS.iconst X0.here hx rfl (hb hby d5_3) k) ?_
      refine own_s s₁ (mkF m 6 #[rv ob, iv g, rv tx, iv 0, iv 4, iv 0, iv 0, u_, u_, u_, u_, u_] []) (fun t k => XS.istore X0.here hx rfl (hb hby d5_4) rfl (l' := #[rv ob, iv g, rv tx, iv 0, iv 4, iv 0, iv 0, u_, u_, u_, u_, u_]) rfl k) ?_
      refine own_s s₁ (mkF m 8 #[rv ob, iv g, rv tx, iv 0, iv 4, iv 0, iv 0, u_, u_, u_, u_, u_] [.int 0]) (fun t k => XS.iload X0.here hx rfl (hb hby d5_6) rfl k) ?_
      refine own_s s₁ (mkF m 10 #[rv ob, iv g, rv tx, iv 0, iv 4, iv 0, iv 0, u_, u_, u_, u_, u_] [.int 4, .int 0]) (fun t k => XS.iload X0.here hx rfl (hb hby d5_8) rfl k) ?_
      refine own_s s₁ (mkF m 13 #[rv ob, iv g, rv tx, iv 0, iv 4, iv 0, iv 0, u_, u_, u_, u_, u_] []) (fun t k => XS.icmpNo X0.here hx rfl (hb hby d5_10) rfl (tlt (by decide : ((0 : Int32) < (4 : Int32)))).2.1 k) ?_
      refine own_s s₁ (mkF m 14 #[rv ob, iv g, rv tx, iv 0, iv 4, iv 0, iv 0, u_, u_, u_, u_, u_] [.ref tx]) (fun t k => XS.aloadN X0.here hx rfl (hb hby d5_13) rfl rfl k) ?_
      refine own_s s₁ (mkF m 16 #[rv ob, iv g, rv tx, iv 0, iv 4, iv 0, iv 0, u_, u_, u_, u_, u_] [.int 0, .ref tx]) (fun t k => XS.iload X0.here hx rfl (hb hby d5_14) rfl k) ?_
      obtain ⟨cl74, Ar74, qa74, S74, M74, H74, U74⟩ := id Vx
      have hi74 := inb_of S74 (j := (0 : Int32)) ⟨by decide, by decide⟩
      have hat74 := H74.at hi74 (v := (.int sg)) rfl
      refine own_s s₁ (mkF m 17 #[rv ob, iv g, rv tx, iv 0, iv 4, iv 0, iv 0, u_, u_, u_, u_, u_] [.int sg]) (fun t k => X0.caload hx (j := (0 : Int32)) (v := (.int sg)) (by rw [e0]; exact Ar74.1) (State.isArrayOf_alike hZ.alike Ar74.2.1) Ar74.2.2 hi74 hat74 (g := (mkF m 16 #[rv ob, iv g, rv tx, iv 0, iv 4, iv 0, iv 0, u_, u_, u_, u_, u_] [.int 0, .ref tx])) rfl rfl (hb hby d5_16) t k) ?_
      refine own_s s₁ (mkF m 19 #[rv ob, iv g, rv tx, iv 0, iv 4, iv 0, iv 0, u_, u_, u_, u_, u_] [.int 45, .int sg]) (fun t k => XS.bipush X0.here hx rfl (hb hby d5_17) k) ?_
      refine own_s s₁ (mkF m 31 #[rv ob, iv g, rv tx, iv 0, iv 4, iv 0, iv 0, u_, u_, u_, u_, u_] []) (fun t k => XS.icmpYes X0.here hx rfl (pc0 := 19) (pc' := 31) rfl (hb hby d5_19) rfl (teq hsg).1 (by decide) (by decide) k) ?_
      refine own_s s₁ (mkF m 32 #[rv ob, iv g, rv tx, iv 0, iv 4, iv 0, iv 0, u_, u_, u_, u_, u_] [.ref tx]) (fun t k => XS.aloadN X0.here hx rfl (hb hby d5_31) rfl rfl k) ?_
      refine own_s s₁ (mkF m 34 #[rv ob, iv g, rv tx, iv 0, iv 4, iv 0, iv 0, u_, u_, u_, u_, u_] [.int 0, .ref tx]) (fun t k => XS.iload X0.here hx rfl (hb hby d5_32) rfl k) ?_
      obtain ⟨cl75, Ar75, qa75, S75, M75, H75, U75⟩ := id Vx
      have hi75 := inb_of S75 (j := (0 : Int32)) ⟨by decide, by decide⟩
      have hat75 := H75.at hi75 (v := (.int sg)) rfl
      refine own_s s₁ (mkF m 35 #[rv ob, iv g, rv tx, iv 0, iv 4, iv 0, iv 0, u_, u_, u_, u_, u_] [.int sg]) (fun t k => X0.caload hx (j := (0 : Int32)) (v := (.int sg)) (by rw [e0]; exact Ar75.1) (State.isArrayOf_alike hZ.alike Ar75.2.1) Ar75.2.2 hi75 hat75 (g := (mkF m 34 #[rv ob, iv g, rv tx, iv 0, iv 4, iv 0, iv 0, u_, u_, u_, u_, u_] [.int 0, .ref tx])) rfl rfl (hb hby d5_34) t k) ?_
      refine own_s s₁ (mkF m 37 #[rv ob, iv g, rv tx, iv 0, iv 4, iv 0, iv 0, u_, u_, u_, u_, u_] [.int 45, .int sg]) (fun t k => XS.bipush X0.here hx rfl (hb hby d5_35) k) ?_
      refine own_s s₁ (mkF m 40 #[rv ob, iv g, rv tx, iv 0, iv 4, iv 0, iv 0, u_, u_, u_, u_, u_] []) (fun t k => XS.icmpNo X0.here hx rfl (hb hby d5_37) rfl (teq hsg).2 k) ?_
      refine own_s s₁ (mkF m 41 #[rv ob, iv g, rv tx, iv 0, iv 4, iv 0, iv 0, u_, u_, u_, u_, u_] [.int 1]) (fun t k => XS.iconst X0.here hx rfl (hb hby d5_40) k) ?_
      refine own_s s₁ (mkF m 45 #[rv ob, iv g, rv tx, iv 0, iv 4, iv 0, iv 0, u_, u_, u_, u_, u_] [.int 1]) (fun t k => XS.goto X0.here hx rfl (pc0 := 41) (pc' := 45) rfl (hb hby d5_41) (by decide) (by decide) k) ?_
      refine own_s s₁ (mkF m 47 #[rv ob, iv g, rv tx, iv 0, iv 4, iv 0, iv 1, u_, u_, u_, u_, u_] []) (fun t k => XS.istore X0.here hx rfl (hb hby d5_45) rfl (l' := #[rv ob, iv g, rv tx, iv 0, iv 4, iv 0, iv 1, u_, u_, u_, u_, u_]) rfl k) ?_
      refine own_s s₁ (mkF m 50 #[rv ob, iv g, rv tx, iv 0, iv 4, iv 1, iv 1, u_, u_, u_, u_, u_] []) (fun t k => XS.iinc X0.here hx rfl (hb hby d5_47) rfl (l' := #[rv ob, iv g, rv tx, iv 0, iv 4, iv 1, iv 1, u_, u_, u_, u_, u_]) rfl k) ?_
      exact j50 _ hng.symm
    · subst hf0
      refine own_s s₁ (mkF m 1 #[rv ob, iv g, rv tx, iv 0, iv 4, u_, u_, u_, u_, u_, u_, u_] [.int 0]) (fun t k => XS.iloadN X0.here hx rfl (hb hby d5_0) rfl k) ?_
      refine own_s s₁ (mkF m 3 #[rv ob, iv g, rv tx, iv 0, iv 4, iv 0, u_, u_, u_, u_, u_, u_] []) (fun t k => XS.istore X0.here hx rfl (hb hby d5_1) rfl (l' := #[rv ob, iv g, rv tx, iv 0, iv 4, iv 0, u_, u_, u_, u_, u_, u_]) rfl k) ?_
      refine own_s s₁ (mkF m 4 #[rv ob, iv g, rv tx, iv 0, iv 4, iv 0, u_, u_, u_, u_, u_, u_] [.int 0]) (fun t k => XS.iconst X0.here hx rfl (hb hby d5_3) k) ?_
      refine own_s s₁ (mkF m 6 #[rv ob, iv g, rv tx, iv 0, iv 4, iv 0, iv 0, u_, u_, u_, u_, u_] []) (fun t k => XS.istore X0.here hx rfl (hb hby d5_4) rfl (l' := #[rv ob, iv g, rv tx, iv 0, iv 4, iv 0, iv 0, u_, u_, u_, u_, u_]) rfl k) ?_
      refine own_s s₁ (mkF m 8 #[rv ob, iv g, rv tx, iv 0, iv 4, iv 0, iv 0, u_, u_, u_, u_, u_] [.int 0]) (fun t k => XS.iload X0.here hx rfl (hb hby d5_6) rfl k) ?_
      refine own_s s₁ (mkF m 10 #[rv ob, iv g, rv tx, iv 0, iv 4, iv 0, iv 0, u_, u_, u_, u_, u_] [.int 4, .int 0]) (fun t k => XS.iload X0.here hx rfl (hb hby d5_8) rfl k) ?_
      refine own_s s₁ (mkF m 13 #[rv ob, iv g, rv tx, iv 0, iv 4, iv 0, iv 0, u_, u_, u_, u_, u_] []) (fun t k => XS.icmpNo X0.here hx rfl (hb hby d5_10) rfl (tlt (by decide : ((0 : Int32) < (4 : Int32)))).2.1 k) ?_
      refine own_s s₁ (mkF m 14 #[rv ob, iv g, rv tx, iv 0, iv 4, iv 0, iv 0, u_, u_, u_, u_, u_] [.ref tx]) (fun t k => XS.aloadN X0.here hx rfl (hb hby d5_13) rfl rfl k) ?_
      refine own_s s₁ (mkF m 16 #[rv ob, iv g, rv tx, iv 0, iv 4, iv 0, iv 0, u_, u_, u_, u_, u_] [.int 0, .ref tx]) (fun t k => XS.iload X0.here hx rfl (hb hby d5_14) rfl k) ?_
      obtain ⟨cl76, Ar76, qa76, S76, M76, H76, U76⟩ := id Vx
      have hi76 := inb_of S76 (j := (0 : Int32)) ⟨by decide, by decide⟩
      have hat76 := H76.at hi76 (v := (.int sg)) rfl
      refine own_s s₁ (mkF m 17 #[rv ob, iv g, rv tx, iv 0, iv 4, iv 0, iv 0, u_, u_, u_, u_, u_] [.int sg]) (fun t k => X0.caload hx (j := (0 : Int32)) (v := (.int sg)) (by rw [e0]; exact Ar76.1) (State.isArrayOf_alike hZ.alike Ar76.2.1) Ar76.2.2 hi76 hat76 (g := (mkF m 16 #[rv ob, iv g, rv tx, iv 0, iv 4, iv 0, iv 0, u_, u_, u_, u_, u_] [.int 0, .ref tx])) rfl rfl (hb hby d5_16) t k) ?_
      refine own_s s₁ (mkF m 19 #[rv ob, iv g, rv tx, iv 0, iv 4, iv 0, iv 0, u_, u_, u_, u_, u_] [.int 45, .int sg]) (fun t k => XS.bipush X0.here hx rfl (hb hby d5_17) k) ?_
      refine own_s s₁ (mkF m 22 #[rv ob, iv g, rv tx, iv 0, iv 4, iv 0, iv 0, u_, u_, u_, u_, u_] []) (fun t k => XS.icmpNo X0.here hx rfl (hb hby d5_19) rfl (feq (by rw [hsg]; decide)).1 k) ?_
      refine own_s s₁ (mkF m 23 #[rv ob, iv g, rv tx, iv 0, iv 4, iv 0, iv 0, u_, u_, u_, u_, u_] [.ref tx]) (fun t k => XS.aloadN X0.here hx rfl (hb hby d5_22) rfl rfl k) ?_
      refine own_s s₁ (mkF m 25 #[rv ob, iv g, rv tx, iv 0, iv 4, iv 0, iv 0, u_, u_, u_, u_, u_] [.int 0, .ref tx]) (fun t k => XS.iload X0.here hx rfl (hb hby d5_23) rfl k) ?_
      obtain ⟨cl77, Ar77, qa77, S77, M77, H77, U77⟩ := id Vx
      have hi77 := inb_of S77 (j := (0 : Int32)) ⟨by decide, by decide⟩
      have hat77 := H77.at hi77 (v := (.int sg)) rfl
      refine own_s s₁ (mkF m 26 #[rv ob, iv g, rv tx, iv 0, iv 4, iv 0, iv 0, u_, u_, u_, u_, u_] [.int sg]) (fun t k => X0.caload hx (j := (0 : Int32)) (v := (.int sg)) (by rw [e0]; exact Ar77.1) (State.isArrayOf_alike hZ.alike Ar77.2.1) Ar77.2.2 hi77 hat77 (g := (mkF m 25 #[rv ob, iv g, rv tx, iv 0, iv 4, iv 0, iv 0, u_, u_, u_, u_, u_] [.int 0, .ref tx])) rfl rfl (hb hby d5_25) t k) ?_
      refine own_s s₁ (mkF m 28 #[rv ob, iv g, rv tx, iv 0, iv 4, iv 0, iv 0, u_, u_, u_, u_, u_] [.int 43, .int sg]) (fun t k => XS.bipush X0.here hx rfl (hb hby d5_26) k) ?_
      refine own_s s₁ (mkF m 31 #[rv ob, iv g, rv tx, iv 0, iv 4, iv 0, iv 0, u_, u_, u_, u_, u_] []) (fun t k => XS.icmpNo X0.here hx rfl (hb hby d5_28) rfl (teq hsg).2 k) ?_
      refine own_s s₁ (mkF m 32 #[rv ob, iv g, rv tx, iv 0, iv 4, iv 0, iv 0, u_, u_, u_, u_, u_] [.ref tx]) (fun t k => XS.aloadN X0.here hx rfl (hb hby d5_31) rfl rfl k) ?_
      refine own_s s₁ (mkF m 34 #[rv ob, iv g, rv tx, iv 0, iv 4, iv 0, iv 0, u_, u_, u_, u_, u_] [.int 0, .ref tx]) (fun t k => XS.iload X0.here hx rfl (hb hby d5_32) rfl k) ?_
      obtain ⟨cl78, Ar78, qa78, S78, M78, H78, U78⟩ := id Vx
      have hi78 := inb_of S78 (j := (0 : Int32)) ⟨by decide, by decide⟩
      have hat78 := H78.at hi78 (v := (.int sg)) rfl
      refine own_s s₁ (mkF m 35 #[rv ob, iv g, rv tx, iv 0, iv 4, iv 0, iv 0, u_, u_, u_, u_, u_] [.int sg]) (fun t k => X0.caload hx (j := (0 : Int32)) (v := (.int sg)) (by rw [e0]; exact Ar78.1) (State.isArrayOf_alike hZ.alike Ar78.2.1) Ar78.2.2 hi78 hat78 (g := (mkF m 34 #[rv ob, iv g, rv tx, iv 0, iv 4, iv 0, iv 0, u_, u_, u_, u_, u_] [.int 0, .ref tx])) rfl rfl (hb hby d5_34) t k) ?_
      refine own_s s₁ (mkF m 37 #[rv ob, iv g, rv tx, iv 0, iv 4, iv 0, iv 0, u_, u_, u_, u_, u_] [.int 45, .int sg]) (fun t k => XS.bipush X0.here hx rfl (hb hby d5_35) k) ?_
      refine own_s s₁ (mkF m 44 #[rv ob, iv g, rv tx, iv 0, iv 4, iv 0, iv 0, u_, u_, u_, u_, u_] []) (fun t k => XS.icmpYes X0.here hx rfl (pc0 := 37) (pc' := 44) rfl (hb hby d5_37) rfl (feq (by rw [hsg]; decide)).2 (by decide) (by decide) k) ?_
      refine own_s s₁ (mkF m 45 #[rv ob, iv g, rv tx, iv 0, iv 4, iv 0, iv 0, u_, u_, u_, u_, u_] [.int 0]) (fun t k => XS.iconst X0.here hx rfl (hb hby d5_44) k) ?_
      refine own_s s₁ (mkF m 47 #[rv ob, iv g, rv tx, iv 0, iv 4, iv 0, iv 0, u_, u_, u_, u_, u_] []) (fun t k => XS.istore X0.here hx rfl (hb hby d5_45) rfl (l' := #[rv ob, iv g, rv tx, iv 0, iv 4, iv 0, iv 0, u_, u_, u_, u_, u_]) rfl k) ?_
      refine own_s s₁ (mkF m 50 #[rv ob, iv g, rv tx, iv 0, iv 4, iv 1, iv 0, u_, u_, u_, u_, u_] []) (fun t k => XS.iinc X0.here hx rfl (hb hby d5_47) rfl (l' := #[rv ob, iv g, rv tx, iv 0, iv 4, iv 1, iv 0, u_, u_, u_, u_, u_]) rfl k) ?_
      exact j50 _ hng.symm
    · subst hf0
      refine own_s s₁ (mkF m 1 #[rv ob, iv g, rv tx, iv 1, iv 4, u_, u_, u_, u_, u_, u_, u_] [.int 1]) (fun t k => XS.iloadN X0.here hx rfl (hb hby d5_0) rfl k) ?_
      refine own_s s₁ (mkF m 3 #[rv ob, iv g, rv tx, iv 1, iv 4, iv 1, u_, u_, u_, u_, u_, u_] []) (fun t k => XS.istore X0.here hx rfl (hb hby d5_1) rfl (l' := #[rv ob, iv g, rv tx, iv 1, iv 4, iv 1, u_, u_, u_, u_, u_, u_]) rfl k) ?_
      refine own_s s₁ (mkF m 4 #[rv ob, iv g, rv tx, iv 1, iv 4, iv 1, u_, u_, u_, u_, u_, u_] [.int 0]) (fun t k => XS.iconst X0.here hx rfl (hb hby d5_3) k) ?_
      refine own_s s₁ (mkF m 6 #[rv ob, iv g, rv tx, iv 1, iv 4, iv 1, iv 0, u_, u_, u_, u_, u_] []) (fun t k => XS.istore X0.here hx rfl (hb hby d5_4) rfl (l' := #[rv ob, iv g, rv tx, iv 1, iv 4, iv 1, iv 0, u_, u_, u_, u_, u_]) rfl k) ?_
      refine own_s s₁ (mkF m 8 #[rv ob, iv g, rv tx, iv 1, iv 4, iv 1, iv 0, u_, u_, u_, u_, u_] [.int 1]) (fun t k => XS.iload X0.here hx rfl (hb hby d5_6) rfl k) ?_
      refine own_s s₁ (mkF m 10 #[rv ob, iv g, rv tx, iv 1, iv 4, iv 1, iv 0, u_, u_, u_, u_, u_] [.int 4, .int 1]) (fun t k => XS.iload X0.here hx rfl (hb hby d5_8) rfl k) ?_
      refine own_s s₁ (mkF m 13 #[rv ob, iv g, rv tx, iv 1, iv 4, iv 1, iv 0, u_, u_, u_, u_, u_] []) (fun t k => XS.icmpNo X0.here hx rfl (hb hby d5_10) rfl (tlt (by decide : ((1 : Int32) < (4 : Int32)))).2.1 k) ?_
      refine own_s s₁ (mkF m 14 #[rv ob, iv g, rv tx, iv 1, iv 4, iv 1, iv 0, u_, u_, u_, u_, u_] [.ref tx]) (fun t k => XS.aloadN X0.here hx rfl (hb hby d5_13) rfl rfl k) ?_
      refine own_s s₁ (mkF m 16 #[rv ob, iv g, rv tx, iv 1, iv 4, iv 1, iv 0, u_, u_, u_, u_, u_] [.int 1, .ref tx]) (fun t k => XS.iload X0.here hx rfl (hb hby d5_14) rfl k) ?_
      obtain ⟨cl79, Ar79, qa79, S79, M79, H79, U79⟩ := id Vx
      have hi79 := inb_of S79 (j := (1 : Int32)) ⟨by decide, by decide⟩
      have hat79 := H79.at hi79 (v := (.int (46 : Int32))) rfl
      refine own_s s₁ (mkF m 17 #[rv ob, iv g, rv tx, iv 1, iv 4, iv 1, iv 0, u_, u_, u_, u_, u_] [.int 46]) (fun t k => X0.caload hx (j := (1 : Int32)) (v := (.int (46 : Int32))) (by rw [e0]; exact Ar79.1) (State.isArrayOf_alike hZ.alike Ar79.2.1) Ar79.2.2 hi79 hat79 (g := (mkF m 16 #[rv ob, iv g, rv tx, iv 1, iv 4, iv 1, iv 0, u_, u_, u_, u_, u_] [.int 1, .ref tx])) rfl rfl (hb hby d5_16) t k) ?_
      refine own_s s₁ (mkF m 19 #[rv ob, iv g, rv tx, iv 1, iv 4, iv 1, iv 0, u_, u_, u_, u_, u_] [.int 45, .int 46]) (fun t k => XS.bipush X0.here hx rfl (hb hby d5_17) k) ?_
      refine own_s s₁ (mkF m 22 #[rv ob, iv g, rv tx, iv 1, iv 4, iv 1, iv 0, u_, u_, u_, u_, u_] []) (fun t k => XS.icmpNo X0.here hx rfl (hb hby d5_19) rfl (feq (by decide : ¬ ((46 : Int32) = (45 : Int32)))).1 k) ?_
      refine own_s s₁ (mkF m 23 #[rv ob, iv g, rv tx, iv 1, iv 4, iv 1, iv 0, u_, u_, u_, u_, u_] [.ref tx]) (fun t k => XS.aloadN X0.here hx rfl (hb hby d5_22) rfl rfl k) ?_
      refine own_s s₁ (mkF m 25 #[rv ob, iv g, rv tx, iv 1, iv 4, iv 1, iv 0, u_, u_, u_, u_, u_] [.int 1, .ref tx]) (fun t k => XS.iload X0.here hx rfl (hb hby d5_23) rfl k) ?_
      obtain ⟨cl80, Ar80, qa80, S80, M80, H80, U80⟩ := id Vx
      have hi80 := inb_of S80 (j := (1 : Int32)) ⟨by decide, by decide⟩
      have hat80 := H80.at hi80 (v := (.int (46 : Int32))) rfl
      refine own_s s₁ (mkF m 26 #[rv ob, iv g, rv tx, iv 1, iv 4, iv 1, iv 0, u_, u_, u_, u_, u_] [.int 46]) (fun t k => X0.caload hx (j := (1 : Int32)) (v := (.int (46 : Int32))) (by rw [e0]; exact Ar80.1) (State.isArrayOf_alike hZ.alike Ar80.2.1) Ar80.2.2 hi80 hat80 (g := (mkF m 25 #[rv ob, iv g, rv tx, iv 1, iv 4, iv 1, iv 0, u_, u_, u_, u_, u_] [.int 1, .ref tx])) rfl rfl (hb hby d5_25) t k) ?_
      refine own_s s₁ (mkF m 28 #[rv ob, iv g, rv tx, iv 1, iv 4, iv 1, iv 0, u_, u_, u_, u_, u_] [.int 43, .int 46]) (fun t k => XS.bipush X0.here hx rfl (hb hby d5_26) k) ?_
      refine own_s s₁ (mkF m 50 #[rv ob, iv g, rv tx, iv 1, iv 4, iv 1, iv 0, u_, u_, u_, u_, u_] []) (fun t k => XS.icmpYes X0.here hx rfl (pc0 := 28) (pc' := 50) rfl (hb hby d5_28) rfl (feq (by decide : ¬ ((46 : Int32) = (43 : Int32)))).2 (by decide) (by decide) k) ?_
      exact j50 _ hng.symm
  · refine own_cast (g' := (mkF m 0 #[rv ob, iv g, rv tx, iv fr, iv 4, u_, u_, u_, u_, u_, u_, u_] [])) rfl ?_
    have Vx : Arv Z h0 tx kx .char (4 : Int32) [(.int sg), (.int y1), (.int y2), (.int (46 : Int32))] (.int (0 : Int32)) := F_1
    have j50 : ∀ (nb : Int32), nb = ng → own_Go p e below s (Q_add1 Z ob ar kr cap S v0 v1 v2 v3 g tx kx fr (3 : Int32) sg y1 y2 d1 d2 ng pw kp h0 n0) ({ frames := 4, cells := 1, slots := 4, locals := 71 } : Room).cells ({ frames := 4, cells := 1, slots := 4, locals := 71 } : Room).slots s₁ (mkF m 50 #[rv ob, iv g, rv tx, iv fr, iv 4, iv 1, iv nb, u_, u_, u_, u_, u_] []) := by
      intro nb hnb
      refine own_s s₁ (mkF m 51 #[rv ob, iv g, rv tx, iv fr, iv 4, iv 1, iv nb, u_, u_, u_, u_, u_] [.long 0]) (fun t k => XS.lconst X0.here hx rfl (hb hby d5_50) k) ?_
      refine own_s s₁ (mkF m 53 #[rv ob, iv g, rv tx, iv fr, iv 4, iv 1, iv nb, own_j 0, s_, u_, u_, u_] []) (fun t k => XS.lstore X0.here hx rfl (hb hby d5_51) rfl (l' := #[rv ob, iv g, rv tx, iv fr, iv 4, iv 1, iv nb, own_j 0, s_, u_, u_, u_]) rfl k) ?_
      refine own_s s₁ (mkF m 54 #[rv ob, iv g, rv tx, iv fr, iv 4, iv 1, iv nb, own_j 0, s_, u_, u_, u_] [.int 0]) (fun t k => XS.iconst X0.here hx rfl (hb hby d5_53) k) ?_
      refine own_s s₁ (mkF m 56 #[rv ob, iv g, rv tx, iv fr, iv 4, iv 1, iv nb, own_j 0, s_, iv 0, u_, u_] []) (fun t k => XS.istore X0.here hx rfl (hb hby d5_54) rfl (l' := #[rv ob, iv g, rv tx, iv fr, iv 4, iv 1, iv nb, own_j 0, s_, iv 0, u_, u_]) rfl k) ?_
      refine own_s s₁ (mkF m 57 #[rv ob, iv g, rv tx, iv fr, iv 4, iv 1, iv nb, own_j 0, s_, iv 0, u_, u_] [.int (-1)]) (fun t k => XS.iconst X0.here hx rfl (hb hby d5_56) k) ?_
      refine own_s s₁ (mkF m 59 #[rv ob, iv g, rv tx, iv fr, iv 4, iv 1, iv nb, own_j 0, s_, iv 0, iv (-1), u_] []) (fun t k => XS.istore X0.here hx rfl (hb hby d5_57) rfl (l' := #[rv ob, iv g, rv tx, iv fr, iv 4, iv 1, iv nb, own_j 0, s_, iv 0, iv (-1), u_]) rfl k) ?_
      refine own_s s₁ (mkF m 61 #[rv ob, iv g, rv tx, iv fr, iv 4, iv 1, iv nb, own_j 0, s_, iv 0, iv (-1), u_] [.int 1]) (fun t k => XS.iload X0.here hx rfl (hb hby d5_59) rfl k) ?_
      refine own_s s₁ (mkF m 63 #[rv ob, iv g, rv tx, iv fr, iv 4, iv 1, iv nb, own_j 0, s_, iv 0, iv (-1), u_] [.int 4, .int 1]) (fun t k => XS.iload X0.here hx rfl (hb hby d5_61) rfl k) ?_
      refine own_s s₁ (mkF m 66 #[rv ob, iv g, rv tx, iv fr, iv 4, iv 1, iv nb, own_j 0, s_, iv 0, iv (-1), u_] []) (fun t k => XS.icmpNo X0.here hx rfl (hb hby d5_63) rfl (tlt (by decide : ((1 : Int32) < (4 : Int32)))).2.1 k) ?_
      refine own_s s₁ (mkF m 67 #[rv ob, iv g, rv tx, iv fr, iv 4, iv 1, iv nb, own_j 0, s_, iv 0, iv (-1), u_] [.ref tx]) (fun t k => XS.aloadN X0.here hx rfl (hb hby d5_66) rfl rfl k) ?_
      refine own_s s₁ (mkF m 69 #[rv ob, iv g, rv tx, iv fr, iv 4, iv 1, iv nb, own_j 0, s_, iv 0, iv (-1), u_] [.int 1, .ref tx]) (fun t k => XS.iload X0.here hx rfl (hb hby d5_67) rfl k) ?_
      obtain ⟨cl81, Ar81, qa81, S81, M81, H81, U81⟩ := id Vx
      have hi81 := inb_of S81 (j := (1 : Int32)) ⟨by decide, by decide⟩
      have hat81 := H81.at hi81 (v := (.int y1)) rfl
      refine own_s s₁ (mkF m 70 #[rv ob, iv g, rv tx, iv fr, iv 4, iv 1, iv nb, own_j 0, s_, iv 0, iv (-1), u_] [.int y1]) (fun t k => X0.caload hx (j := (1 : Int32)) (v := (.int y1)) (by rw [e0]; exact Ar81.1) (State.isArrayOf_alike hZ.alike Ar81.2.1) Ar81.2.2 hi81 hat81 (g := (mkF m 69 #[rv ob, iv g, rv tx, iv fr, iv 4, iv 1, iv nb, own_j 0, s_, iv 0, iv (-1), u_] [.int 1, .ref tx])) rfl rfl (hb hby d5_69) t k) ?_
      refine own_s s₁ (mkF m 72 #[rv ob, iv g, rv tx, iv fr, iv 4, iv 1, iv nb, own_j 0, s_, iv 0, iv (-1), iv y1] []) (fun t k => XS.istore X0.here hx rfl (hb hby d5_70) rfl (l' := #[rv ob, iv g, rv tx, iv fr, iv 4, iv 1, iv nb, own_j 0, s_, iv 0, iv (-1), iv y1]) rfl k) ?_
      refine own_s s₁ (mkF m 74 #[rv ob, iv g, rv tx, iv fr, iv 4, iv 1, iv nb, own_j 0, s_, iv 0, iv (-1), iv y1] [.int y1]) (fun t k => XS.iload X0.here hx rfl (hb hby d5_72) rfl k) ?_
      refine own_s s₁ (mkF m 76 #[rv ob, iv g, rv tx, iv fr, iv 4, iv 1, iv nb, own_j 0, s_, iv 0, iv (-1), iv y1] [.int 46, .int y1]) (fun t k => XS.bipush X0.here hx rfl (hb hby d5_74) k) ?_
      refine own_s s₁ (mkF m 90 #[rv ob, iv g, rv tx, iv fr, iv 4, iv 1, iv nb, own_j 0, s_, iv 0, iv (-1), iv y1] []) (fun t k => XS.icmpYes X0.here hx rfl (pc0 := 76) (pc' := 90) rfl (hb hby d5_76) rfl (feq (own_dne hd1 (by decide))).2 (by decide) (by decide) k) ?_
      refine own_s s₁ (mkF m 92 #[rv ob, iv g, rv tx, iv fr, iv 4, iv 1, iv nb, own_j 0, s_, iv 0, iv (-1), iv y1] [.int y1]) (fun t k => XS.iload X0.here hx rfl (hb hby d5_90) rfl k) ?_
      refine own_s s₁ (mkF m 94 #[rv ob, iv g, rv tx, iv fr, iv 4, iv 1, iv nb, own_j 0, s_, iv 0, iv (-1), iv y1] [.int 48, .int y1]) (fun t k => XS.bipush X0.here hx rfl (hb hby d5_92) k) ?_
      refine own_s s₁ (mkF m 97 #[rv ob, iv g, rv tx, iv fr, iv 4, iv 1, iv nb, own_j 0, s_, iv 0, iv (-1), iv y1] []) (fun t k => XS.icmpNo X0.here hx rfl (hb hby d5_94) rfl (flt (own_d48 hd1)).1 k) ?_
      refine own_s s₁ (mkF m 99 #[rv ob, iv g, rv tx, iv fr, iv 4, iv 1, iv nb, own_j 0, s_, iv 0, iv (-1), iv y1] [.int y1]) (fun t k => XS.iload X0.here hx rfl (hb hby d5_97) rfl k) ?_
      refine own_s s₁ (mkF m 101 #[rv ob, iv g, rv tx, iv fr, iv 4, iv 1, iv nb, own_j 0, s_, iv 0, iv (-1), iv y1] [.int 57, .int y1]) (fun t k => XS.bipush X0.here hx rfl (hb hby d5_99) k) ?_
      refine own_s s₁ (mkF m 104 #[rv ob, iv g, rv tx, iv fr, iv 4, iv 1, iv nb, own_j 0, s_, iv 0, iv (-1), iv y1] []) (fun t k => XS.icmpNo X0.here hx rfl (hb hby d5_101) rfl (flt (own_d57 hd1)).2.2.1 k) ?_
      refine own_s s₁ (mkF m 106 #[rv ob, iv g, rv tx, iv fr, iv 4, iv 1, iv nb, own_j 0, s_, iv 0, iv (-1), iv y1] [.int 0]) (fun t k => XS.iload X0.here hx rfl (hb hby d5_104) rfl k) ?_
      refine own_s s₁ (mkF m 108 #[rv ob, iv g, rv tx, iv fr, iv 4, iv 1, iv nb, own_j 0, s_, iv 0, iv (-1), iv y1] [.int 18, .int 0]) (fun t k => XS.bipush X0.here hx rfl (hb hby d5_106) k) ?_
      refine own_s s₁ (mkF m 111 #[rv ob, iv g, rv tx, iv fr, iv 4, iv 1, iv nb, own_j 0, s_, iv 0, iv (-1), iv y1] []) (fun t k => XS.icmpNo X0.here hx rfl (hb hby d5_108) rfl (tlt (by decide : ((0 : Int32) < (18 : Int32)))).2.1 k) ?_
      refine own_s s₁ (mkF m 114 #[rv ob, iv g, rv tx, iv fr, iv 4, iv 1, iv nb, own_j 0, s_, iv 0, iv (-1), iv y1] [.long 10]) (X0.ldc2Long hx hown (mvT hZ (hW 30 _ rfl)) (g := (mkF m 111 #[rv ob, iv g, rv tx, iv fr, iv 4, iv 1, iv nb, own_j 0, s_, iv 0, iv (-1), iv y1] [])) rfl (hb hby d5_111)) ?_
      refine own_s s₁ (mkF m 116 #[rv ob, iv g, rv tx, iv fr, iv 4, iv 1, iv nb, own_j 0, s_, iv 0, iv (-1), iv y1] [.long 0, .long 10]) (fun t k => XS.lload X0.here hx rfl (hb hby d5_114) rfl k) ?_
      refine own_s s₁ (mkF m 117 #[rv ob, iv g, rv tx, iv fr, iv 4, iv 1, iv nb, own_j 0, s_, iv 0, iv (-1), iv y1] [.long 0]) (fun t k => XS.lmul X0.here hx rfl (hb hby d5_116) rfl k) ?_
      refine own_s s₁ (mkF m 119 #[rv ob, iv g, rv tx, iv fr, iv 4, iv 1, iv nb, own_j 0, s_, iv 0, iv (-1), iv y1] [.int y1, .long 0]) (fun t k => XS.iload X0.here hx rfl (hb hby d5_117) rfl k) ?_
      refine own_s s₁ (mkF m 121 #[rv ob, iv g, rv tx, iv fr, iv 4, iv 1, iv nb, own_j 0, s_, iv 0, iv (-1), iv y1] [.int 48, .int y1, .long 0]) (fun t k => XS.bipush X0.here hx rfl (hb hby d5_119) k) ?_
      refine own_s s₁ (mkF m 122 #[rv ob, iv g, rv tx, iv fr, iv 4, iv 1, iv nb, own_j 0, s_, iv 0, iv (-1), iv y1] [.int (y1 - (48 : Int32)), .long 0]) (fun t k => XS.isub X0.here hx rfl (hb hby d5_121) rfl k) ?_
      refine own_s s₁ (mkF m 123 #[rv ob, iv g, rv tx, iv fr, iv 4, iv 1, iv nb, own_j 0, s_, iv 0, iv (-1), iv y1] [.long ((y1 - (48 : Int32)).toInt64), .long 0]) (fun t k => XS.i2l X0.here hx rfl (hb hby d5_122) rfl k) ?_
      refine own_s s₁ (mkF m 124 #[rv ob, iv g, rv tx, iv fr, iv 4, iv 1, iv nb, own_j 0, s_, iv 0, iv (-1), iv y1] [.long ((0 : Int64) + ((y1 - (48 : Int32)).toInt64))]) (fun t k => XS.ladd X0.here hx rfl (hb hby d5_123) rfl k) ?_
      refine own_s s₁ (mkF m 129 #[rv ob, iv g, rv tx, iv fr, iv 4, iv 1, iv nb, own_j 0, s_, iv 0, iv (-1), iv y1] [.long ((0 : Int64) + ((y1 - (48 : Int32)).toInt64))]) (fun t k => XS.goto X0.here hx rfl (pc0 := 124) (pc' := 129) rfl (hb hby d5_124) (by decide) (by decide) k) ?_
      generalize hd_uu1 : ((0 : Int64) + ((y1 - (48 : Int32)).toInt64)) = uu1
      refine own_s s₁ (mkF m 131 #[rv ob, iv g, rv tx, iv fr, iv 4, iv 1, iv nb, own_j uu1, s_, iv 0, iv (-1), iv y1] []) (fun t k => XS.lstore X0.here hx rfl (hb hby d5_129) rfl (l' := #[rv ob, iv g, rv tx, iv fr, iv 4, iv 1, iv nb, own_j uu1, s_, iv 0, iv (-1), iv y1]) rfl k) ?_
      refine own_s s₁ (mkF m 134 #[rv ob, iv g, rv tx, iv fr, iv 4, iv 1, iv nb, own_j uu1, s_, iv 1, iv (-1), iv y1] []) (fun t k => XS.iinc X0.here hx rfl (hb hby d5_131) rfl (l' := #[rv ob, iv g, rv tx, iv fr, iv 4, iv 1, iv nb, own_j uu1, s_, iv 1, iv (-1), iv y1]) rfl k) ?_
      refine own_s s₁ (mkF m 136 #[rv ob, iv g, rv tx, iv fr, iv 4, iv 1, iv nb, own_j uu1, s_, iv 1, iv (-1), iv y1] [.int (-1)]) (fun t k => XS.iload X0.here hx rfl (hb hby d5_134) rfl k) ?_
      refine own_s s₁ (mkF m 147 #[rv ob, iv g, rv tx, iv fr, iv 4, iv 1, iv nb, own_j uu1, s_, iv 1, iv (-1), iv y1] []) (fun t k => XS.ifYes X0.here hx rfl (pc0 := 136) (pc' := 147) rfl (hb hby d5_136) rfl ((if0 _ _).trans (tlt (by decide : (((-1) : Int32) < (0 : Int32)))).1) (by decide) (by decide) k) ?_
      refine own_s s₁ (mkF m 150 #[rv ob, iv g, rv tx, iv fr, iv 4, iv 2, iv nb, own_j uu1, s_, iv 1, iv (-1), iv y1] []) (fun t k => XS.iinc X0.here hx rfl (hb hby d5_147) rfl (l' := #[rv ob, iv g, rv tx, iv fr, iv 4, iv 2, iv nb, own_j uu1, s_, iv 1, iv (-1), iv y1]) rfl k) ?_
      refine own_s s₁ (mkF m 59 #[rv ob, iv g, rv tx, iv fr, iv 4, iv 2, iv nb, own_j uu1, s_, iv 1, iv (-1), iv y1] []) (fun t k => XS.goto X0.here hx rfl (pc0 := 150) (pc' := 59) rfl (hb hby d5_150) (by decide) (by decide) k) ?_
      refine own_s s₁ (mkF m 61 #[rv ob, iv g, rv tx, iv fr, iv 4, iv 2, iv nb, own_j uu1, s_, iv 1, iv (-1), iv y1] [.int 2]) (fun t k => XS.iload X0.here hx rfl (hb hby d5_59) rfl k) ?_
      refine own_s s₁ (mkF m 63 #[rv ob, iv g, rv tx, iv fr, iv 4, iv 2, iv nb, own_j uu1, s_, iv 1, iv (-1), iv y1] [.int 4, .int 2]) (fun t k => XS.iload X0.here hx rfl (hb hby d5_61) rfl k) ?_
      refine own_s s₁ (mkF m 66 #[rv ob, iv g, rv tx, iv fr, iv 4, iv 2, iv nb, own_j uu1, s_, iv 1, iv (-1), iv y1] []) (fun t k => XS.icmpNo X0.here hx rfl (hb hby d5_63) rfl (tlt (by decide : ((2 : Int32) < (4 : Int32)))).2.1 k) ?_
      refine own_s s₁ (mkF m 67 #[rv ob, iv g, rv tx, iv fr, iv 4, iv 2, iv nb, own_j uu1, s_, iv 1, iv (-1), iv y1] [.ref tx]) (fun t k => XS.aloadN X0.here hx rfl (hb hby d5_66) rfl rfl k) ?_
      refine own_s s₁ (mkF m 69 #[rv ob, iv g, rv tx, iv fr, iv 4, iv 2, iv nb, own_j uu1, s_, iv 1, iv (-1), iv y1] [.int 2, .ref tx]) (fun t k => XS.iload X0.here hx rfl (hb hby d5_67) rfl k) ?_
      obtain ⟨cl82, Ar82, qa82, S82, M82, H82, U82⟩ := id Vx
      have hi82 := inb_of S82 (j := (2 : Int32)) ⟨by decide, by decide⟩
      have hat82 := H82.at hi82 (v := (.int y2)) rfl
      refine own_s s₁ (mkF m 70 #[rv ob, iv g, rv tx, iv fr, iv 4, iv 2, iv nb, own_j uu1, s_, iv 1, iv (-1), iv y1] [.int y2]) (fun t k => X0.caload hx (j := (2 : Int32)) (v := (.int y2)) (by rw [e0]; exact Ar82.1) (State.isArrayOf_alike hZ.alike Ar82.2.1) Ar82.2.2 hi82 hat82 (g := (mkF m 69 #[rv ob, iv g, rv tx, iv fr, iv 4, iv 2, iv nb, own_j uu1, s_, iv 1, iv (-1), iv y1] [.int 2, .ref tx])) rfl rfl (hb hby d5_69) t k) ?_
      refine own_s s₁ (mkF m 72 #[rv ob, iv g, rv tx, iv fr, iv 4, iv 2, iv nb, own_j uu1, s_, iv 1, iv (-1), iv y2] []) (fun t k => XS.istore X0.here hx rfl (hb hby d5_70) rfl (l' := #[rv ob, iv g, rv tx, iv fr, iv 4, iv 2, iv nb, own_j uu1, s_, iv 1, iv (-1), iv y2]) rfl k) ?_
      refine own_s s₁ (mkF m 74 #[rv ob, iv g, rv tx, iv fr, iv 4, iv 2, iv nb, own_j uu1, s_, iv 1, iv (-1), iv y2] [.int y2]) (fun t k => XS.iload X0.here hx rfl (hb hby d5_72) rfl k) ?_
      refine own_s s₁ (mkF m 76 #[rv ob, iv g, rv tx, iv fr, iv 4, iv 2, iv nb, own_j uu1, s_, iv 1, iv (-1), iv y2] [.int 46, .int y2]) (fun t k => XS.bipush X0.here hx rfl (hb hby d5_74) k) ?_
      refine own_s s₁ (mkF m 90 #[rv ob, iv g, rv tx, iv fr, iv 4, iv 2, iv nb, own_j uu1, s_, iv 1, iv (-1), iv y2] []) (fun t k => XS.icmpYes X0.here hx rfl (pc0 := 76) (pc' := 90) rfl (hb hby d5_76) rfl (feq (own_dne hd2 (by decide))).2 (by decide) (by decide) k) ?_
      refine own_s s₁ (mkF m 92 #[rv ob, iv g, rv tx, iv fr, iv 4, iv 2, iv nb, own_j uu1, s_, iv 1, iv (-1), iv y2] [.int y2]) (fun t k => XS.iload X0.here hx rfl (hb hby d5_90) rfl k) ?_
      refine own_s s₁ (mkF m 94 #[rv ob, iv g, rv tx, iv fr, iv 4, iv 2, iv nb, own_j uu1, s_, iv 1, iv (-1), iv y2] [.int 48, .int y2]) (fun t k => XS.bipush X0.here hx rfl (hb hby d5_92) k) ?_
      refine own_s s₁ (mkF m 97 #[rv ob, iv g, rv tx, iv fr, iv 4, iv 2, iv nb, own_j uu1, s_, iv 1, iv (-1), iv y2] []) (fun t k => XS.icmpNo X0.here hx rfl (hb hby d5_94) rfl (flt (own_d48 hd2)).1 k) ?_
      refine own_s s₁ (mkF m 99 #[rv ob, iv g, rv tx, iv fr, iv 4, iv 2, iv nb, own_j uu1, s_, iv 1, iv (-1), iv y2] [.int y2]) (fun t k => XS.iload X0.here hx rfl (hb hby d5_97) rfl k) ?_
      refine own_s s₁ (mkF m 101 #[rv ob, iv g, rv tx, iv fr, iv 4, iv 2, iv nb, own_j uu1, s_, iv 1, iv (-1), iv y2] [.int 57, .int y2]) (fun t k => XS.bipush X0.here hx rfl (hb hby d5_99) k) ?_
      refine own_s s₁ (mkF m 104 #[rv ob, iv g, rv tx, iv fr, iv 4, iv 2, iv nb, own_j uu1, s_, iv 1, iv (-1), iv y2] []) (fun t k => XS.icmpNo X0.here hx rfl (hb hby d5_101) rfl (flt (own_d57 hd2)).2.2.1 k) ?_
      refine own_s s₁ (mkF m 106 #[rv ob, iv g, rv tx, iv fr, iv 4, iv 2, iv nb, own_j uu1, s_, iv 1, iv (-1), iv y2] [.int 1]) (fun t k => XS.iload X0.here hx rfl (hb hby d5_104) rfl k) ?_
      refine own_s s₁ (mkF m 108 #[rv ob, iv g, rv tx, iv fr, iv 4, iv 2, iv nb, own_j uu1, s_, iv 1, iv (-1), iv y2] [.int 18, .int 1]) (fun t k => XS.bipush X0.here hx rfl (hb hby d5_106) k) ?_
      refine own_s s₁ (mkF m 111 #[rv ob, iv g, rv tx, iv fr, iv 4, iv 2, iv nb, own_j uu1, s_, iv 1, iv (-1), iv y2] []) (fun t k => XS.icmpNo X0.here hx rfl (hb hby d5_108) rfl (tlt (by decide : ((1 : Int32) < (18 : Int32)))).2.1 k) ?_
      refine own_s s₁ (mkF m 114 #[rv ob, iv g, rv tx, iv fr, iv 4, iv 2, iv nb, own_j uu1, s_, iv 1, iv (-1), iv y2] [.long 10]) (X0.ldc2Long hx hown (mvT hZ (hW 30 _ rfl)) (g := (mkF m 111 #[rv ob, iv g, rv tx, iv fr, iv 4, iv 2, iv nb, own_j uu1, s_, iv 1, iv (-1), iv y2] [])) rfl (hb hby d5_111)) ?_
      refine own_s s₁ (mkF m 116 #[rv ob, iv g, rv tx, iv fr, iv 4, iv 2, iv nb, own_j uu1, s_, iv 1, iv (-1), iv y2] [.long uu1, .long 10]) (fun t k => XS.lload X0.here hx rfl (hb hby d5_114) rfl k) ?_
      refine own_s s₁ (mkF m 117 #[rv ob, iv g, rv tx, iv fr, iv 4, iv 2, iv nb, own_j uu1, s_, iv 1, iv (-1), iv y2] [.long ((10 : Int64) * uu1)]) (fun t k => XS.lmul X0.here hx rfl (hb hby d5_116) rfl k) ?_
      refine own_s s₁ (mkF m 119 #[rv ob, iv g, rv tx, iv fr, iv 4, iv 2, iv nb, own_j uu1, s_, iv 1, iv (-1), iv y2] [.int y2, .long ((10 : Int64) * uu1)]) (fun t k => XS.iload X0.here hx rfl (hb hby d5_117) rfl k) ?_
      refine own_s s₁ (mkF m 121 #[rv ob, iv g, rv tx, iv fr, iv 4, iv 2, iv nb, own_j uu1, s_, iv 1, iv (-1), iv y2] [.int 48, .int y2, .long ((10 : Int64) * uu1)]) (fun t k => XS.bipush X0.here hx rfl (hb hby d5_119) k) ?_
      refine own_s s₁ (mkF m 122 #[rv ob, iv g, rv tx, iv fr, iv 4, iv 2, iv nb, own_j uu1, s_, iv 1, iv (-1), iv y2] [.int (y2 - (48 : Int32)), .long ((10 : Int64) * uu1)]) (fun t k => XS.isub X0.here hx rfl (hb hby d5_121) rfl k) ?_
      refine own_s s₁ (mkF m 123 #[rv ob, iv g, rv tx, iv fr, iv 4, iv 2, iv nb, own_j uu1, s_, iv 1, iv (-1), iv y2] [.long ((y2 - (48 : Int32)).toInt64), .long ((10 : Int64) * uu1)]) (fun t k => XS.i2l X0.here hx rfl (hb hby d5_122) rfl k) ?_
      refine own_s s₁ (mkF m 124 #[rv ob, iv g, rv tx, iv fr, iv 4, iv 2, iv nb, own_j uu1, s_, iv 1, iv (-1), iv y2] [.long (((10 : Int64) * uu1) + ((y2 - (48 : Int32)).toInt64))]) (fun t k => XS.ladd X0.here hx rfl (hb hby d5_123) rfl k) ?_
      refine own_s s₁ (mkF m 129 #[rv ob, iv g, rv tx, iv fr, iv 4, iv 2, iv nb, own_j uu1, s_, iv 1, iv (-1), iv y2] [.long (((10 : Int64) * uu1) + ((y2 - (48 : Int32)).toInt64))]) (fun t k => XS.goto X0.here hx rfl (pc0 := 124) (pc' := 129) rfl (hb hby d5_124) (by decide) (by decide) k) ?_
      generalize hd_uu2 : (((10 : Int64) * uu1) + ((y2 - (48 : Int32)).toInt64)) = uu2
      refine own_s s₁ (mkF m 131 #[rv ob, iv g, rv tx, iv fr, iv 4, iv 2, iv nb, own_j uu2, s_, iv 1, iv (-1), iv y2] []) (fun t k => XS.lstore X0.here hx rfl (hb hby d5_129) rfl (l' := #[rv ob, iv g, rv tx, iv fr, iv 4, iv 2, iv nb, own_j uu2, s_, iv 1, iv (-1), iv y2]) rfl k) ?_
      refine own_s s₁ (mkF m 134 #[rv ob, iv g, rv tx, iv fr, iv 4, iv 2, iv nb, own_j uu2, s_, iv 2, iv (-1), iv y2] []) (fun t k => XS.iinc X0.here hx rfl (hb hby d5_131) rfl (l' := #[rv ob, iv g, rv tx, iv fr, iv 4, iv 2, iv nb, own_j uu2, s_, iv 2, iv (-1), iv y2]) rfl k) ?_
      refine own_s s₁ (mkF m 136 #[rv ob, iv g, rv tx, iv fr, iv 4, iv 2, iv nb, own_j uu2, s_, iv 2, iv (-1), iv y2] [.int (-1)]) (fun t k => XS.iload X0.here hx rfl (hb hby d5_134) rfl k) ?_
      refine own_s s₁ (mkF m 147 #[rv ob, iv g, rv tx, iv fr, iv 4, iv 2, iv nb, own_j uu2, s_, iv 2, iv (-1), iv y2] []) (fun t k => XS.ifYes X0.here hx rfl (pc0 := 136) (pc' := 147) rfl (hb hby d5_136) rfl ((if0 _ _).trans (tlt (by decide : (((-1) : Int32) < (0 : Int32)))).1) (by decide) (by decide) k) ?_
      refine own_s s₁ (mkF m 150 #[rv ob, iv g, rv tx, iv fr, iv 4, iv 3, iv nb, own_j uu2, s_, iv 2, iv (-1), iv y2] []) (fun t k => XS.iinc X0.here hx rfl (hb hby d5_147) rfl (l' := #[rv ob, iv g, rv tx, iv fr, iv 4, iv 3, iv nb, own_j uu2, s_, iv 2, iv (-1), iv y2]) rfl k) ?_
      refine own_s s₁ (mkF m 59 #[rv ob, iv g, rv tx, iv fr, iv 4, iv 3, iv nb, own_j uu2, s_, iv 2, iv (-1), iv y2] []) (fun t k => XS.goto X0.here hx rfl (pc0 := 150) (pc' := 59) rfl (hb hby d5_150) (by decide) (by decide) k) ?_
      refine own_s s₁ (mkF m 61 #[rv ob, iv g, rv tx, iv fr, iv 4, iv 3, iv nb, own_j uu2, s_, iv 2, iv (-1), iv y2] [.int 3]) (fun t k => XS.iload X0.here hx rfl (hb hby d5_59) rfl k) ?_
      refine own_s s₁ (mkF m 63 #[rv ob, iv g, rv tx, iv fr, iv 4, iv 3, iv nb, own_j uu2, s_, iv 2, iv (-1), iv y2] [.int 4, .int 3]) (fun t k => XS.iload X0.here hx rfl (hb hby d5_61) rfl k) ?_
      refine own_s s₁ (mkF m 66 #[rv ob, iv g, rv tx, iv fr, iv 4, iv 3, iv nb, own_j uu2, s_, iv 2, iv (-1), iv y2] []) (fun t k => XS.icmpNo X0.here hx rfl (hb hby d5_63) rfl (tlt (by decide : ((3 : Int32) < (4 : Int32)))).2.1 k) ?_
      refine own_s s₁ (mkF m 67 #[rv ob, iv g, rv tx, iv fr, iv 4, iv 3, iv nb, own_j uu2, s_, iv 2, iv (-1), iv y2] [.ref tx]) (fun t k => XS.aloadN X0.here hx rfl (hb hby d5_66) rfl rfl k) ?_
      refine own_s s₁ (mkF m 69 #[rv ob, iv g, rv tx, iv fr, iv 4, iv 3, iv nb, own_j uu2, s_, iv 2, iv (-1), iv y2] [.int 3, .ref tx]) (fun t k => XS.iload X0.here hx rfl (hb hby d5_67) rfl k) ?_
      obtain ⟨cl83, Ar83, qa83, S83, M83, H83, U83⟩ := id Vx
      have hi83 := inb_of S83 (j := (3 : Int32)) ⟨by decide, by decide⟩
      have hat83 := H83.at hi83 (v := (.int (46 : Int32))) rfl
      refine own_s s₁ (mkF m 70 #[rv ob, iv g, rv tx, iv fr, iv 4, iv 3, iv nb, own_j uu2, s_, iv 2, iv (-1), iv y2] [.int 46]) (fun t k => X0.caload hx (j := (3 : Int32)) (v := (.int (46 : Int32))) (by rw [e0]; exact Ar83.1) (State.isArrayOf_alike hZ.alike Ar83.2.1) Ar83.2.2 hi83 hat83 (g := (mkF m 69 #[rv ob, iv g, rv tx, iv fr, iv 4, iv 3, iv nb, own_j uu2, s_, iv 2, iv (-1), iv y2] [.int 3, .ref tx])) rfl rfl (hb hby d5_69) t k) ?_
      refine own_s s₁ (mkF m 72 #[rv ob, iv g, rv tx, iv fr, iv 4, iv 3, iv nb, own_j uu2, s_, iv 2, iv (-1), iv 46] []) (fun t k => XS.istore X0.here hx rfl (hb hby d5_70) rfl (l' := #[rv ob, iv g, rv tx, iv fr, iv 4, iv 3, iv nb, own_j uu2, s_, iv 2, iv (-1), iv 46]) rfl k) ?_
      refine own_s s₁ (mkF m 74 #[rv ob, iv g, rv tx, iv fr, iv 4, iv 3, iv nb, own_j uu2, s_, iv 2, iv (-1), iv 46] [.int 46]) (fun t k => XS.iload X0.here hx rfl (hb hby d5_72) rfl k) ?_
      refine own_s s₁ (mkF m 76 #[rv ob, iv g, rv tx, iv fr, iv 4, iv 3, iv nb, own_j uu2, s_, iv 2, iv (-1), iv 46] [.int 46, .int 46]) (fun t k => XS.bipush X0.here hx rfl (hb hby d5_74) k) ?_
      refine own_s s₁ (mkF m 79 #[rv ob, iv g, rv tx, iv fr, iv 4, iv 3, iv nb, own_j uu2, s_, iv 2, iv (-1), iv 46] []) (fun t k => XS.icmpNo X0.here hx rfl (hb hby d5_76) rfl (teq (by decide : ((46 : Int32) = (46 : Int32)))).2 k) ?_
      refine own_s s₁ (mkF m 81 #[rv ob, iv g, rv tx, iv fr, iv 4, iv 3, iv nb, own_j uu2, s_, iv 2, iv (-1), iv 46] [.int (-1)]) (fun t k => XS.iload X0.here hx rfl (hb hby d5_79) rfl k) ?_
      refine own_s s₁ (mkF m 84 #[rv ob, iv g, rv tx, iv fr, iv 4, iv 3, iv nb, own_j uu2, s_, iv 2, iv (-1), iv 46] []) (fun t k => XS.ifNo X0.here hx rfl (hb hby d5_81) rfl ((if0 _ _).trans (tlt (by decide : (((-1) : Int32) < (0 : Int32)))).2.1) k) ?_
      refine own_s s₁ (mkF m 85 #[rv ob, iv g, rv tx, iv fr, iv 4, iv 3, iv nb, own_j uu2, s_, iv 2, iv (-1), iv 46] [.int 0]) (fun t k => XS.iconst X0.here hx rfl (hb hby d5_84) k) ?_
      refine own_s s₁ (mkF m 87 #[rv ob, iv g, rv tx, iv fr, iv 4, iv 3, iv nb, own_j uu2, s_, iv 2, iv 0, iv 46] []) (fun t k => XS.istore X0.here hx rfl (hb hby d5_85) rfl (l' := #[rv ob, iv g, rv tx, iv fr, iv 4, iv 3, iv nb, own_j uu2, s_, iv 2, iv 0, iv 46]) rfl k) ?_
      refine own_s s₁ (mkF m 147 #[rv ob, iv g, rv tx, iv fr, iv 4, iv 3, iv nb, own_j uu2, s_, iv 2, iv 0, iv 46] []) (fun t k => XS.goto X0.here hx rfl (pc0 := 87) (pc' := 147) rfl (hb hby d5_87) (by decide) (by decide) k) ?_
      refine own_s s₁ (mkF m 150 #[rv ob, iv g, rv tx, iv fr, iv 4, iv 4, iv nb, own_j uu2, s_, iv 2, iv 0, iv 46] []) (fun t k => XS.iinc X0.here hx rfl (hb hby d5_147) rfl (l' := #[rv ob, iv g, rv tx, iv fr, iv 4, iv 4, iv nb, own_j uu2, s_, iv 2, iv 0, iv 46]) rfl k) ?_
      refine own_s s₁ (mkF m 59 #[rv ob, iv g, rv tx, iv fr, iv 4, iv 4, iv nb, own_j uu2, s_, iv 2, iv 0, iv 46] []) (fun t k => XS.goto X0.here hx rfl (pc0 := 150) (pc' := 59) rfl (hb hby d5_150) (by decide) (by decide) k) ?_
      refine own_s s₁ (mkF m 61 #[rv ob, iv g, rv tx, iv fr, iv 4, iv 4, iv nb, own_j uu2, s_, iv 2, iv 0, iv 46] [.int 4]) (fun t k => XS.iload X0.here hx rfl (hb hby d5_59) rfl k) ?_
      refine own_s s₁ (mkF m 63 #[rv ob, iv g, rv tx, iv fr, iv 4, iv 4, iv nb, own_j uu2, s_, iv 2, iv 0, iv 46] [.int 4, .int 4]) (fun t k => XS.iload X0.here hx rfl (hb hby d5_61) rfl k) ?_
      refine own_s s₁ (mkF m 153 #[rv ob, iv g, rv tx, iv fr, iv 4, iv 4, iv nb, own_j uu2, s_, iv 2, iv 0, iv 46] []) (fun t k => XS.icmpYes X0.here hx rfl (pc0 := 63) (pc' := 153) rfl (hb hby d5_63) rfl (flt (by decide : ¬ ((4 : Int32) < (4 : Int32)))).2.1 (by decide) (by decide) k) ?_
      refine own_s s₁ (mkF m 155 #[rv ob, iv g, rv tx, iv fr, iv 4, iv 4, iv nb, own_j uu2, s_, iv 2, iv 0, iv 46] [.int 2]) (fun t k => XS.iload X0.here hx rfl (hb hby d5_153) rfl k) ?_
      refine own_s s₁ (mkF m 160 #[rv ob, iv g, rv tx, iv fr, iv 4, iv 4, iv nb, own_j uu2, s_, iv 2, iv 0, iv 46] []) (fun t k => XS.ifYes X0.here hx rfl (pc0 := 155) (pc' := 160) rfl (hb hby d5_155) rfl ((if0 _ _).trans (feq (by decide : ¬ ((2 : Int32) = (0 : Int32)))).2) (by decide) (by decide) k) ?_
      refine own_s s₁ (mkF m 162 #[rv ob, iv g, rv tx, iv fr, iv 4, iv 4, iv nb, own_j uu2, s_, iv 2, iv 0, iv 46] [.int 0]) (fun t k => XS.iload X0.here hx rfl (hb hby d5_160) rfl k) ?_
      refine own_s s₁ (mkF m 163 #[rv ob, iv g, rv tx, iv fr, iv 4, iv 4, iv nb, own_j uu2, s_, iv 2, iv 0, iv 46] [.int 0, .int 0]) (fun t k => XS.iconst X0.here hx rfl (hb hby d5_162) k) ?_
      obtain ⟨_, _, ⟨T86, L86, k86, n86⟩, -, X86, ⟨Lc86, hQ86, lq86, yq86, zq86⟩, st86⟩ := Jvm.LawKit.callS X0 hx (y := (⟨"java/lang/Math", "max", "(II)I"⟩ : MethodName)) hown (mvT hZ (hW 31 _ rfl)) (mvT hZ (hW 32 _ rfl)) (mvT hZ (hW 33 _ rfl)) (mvT hZ (hW 34 _ rfl)) (by decide) (backOf (W := 0) (rm_maxl0 l Z a0 hw []  h0 n0 Z0 ) hZ (hW 34 _ rfl) (hW 33 _ rfl) (by decide) (by decide)) (g := (mkF m 163 #[rv ob, iv g, rv tx, iv fr, iv 4, iv 4, iv nb, own_j uu2, s_, iv 2, iv 0, iv 46] [.int 0, .int 0])) rfl (by rw [hml]; rfl) (argsL := [(.int (0 : Int32)), (.int (0 : Int32))]) (rest := []) (lenOf pd_3 rfl) rfl (by show 2 * 0 + _ ≤ _; exact Nat.le_of_eq rfl) (hb hby d5_163) (fun _ _ => ⟨rfl, e0, (by decide : 0 + 0 ≤ _), (by decide : 0 + 0 ≤ _)⟩)
      dsimp only [Pt.U, Pt.locs, Pt.cells, Pt.slots] at X86 lq86 yq86 zq86 st86 hQ86
      subst lq86 yq86 zq86
      obtain ⟨rfl, Nq86, eq85⟩ := hQ86
      have N86 := Fr.app N0 Nq86
      refine own_s T86 (mkF m 166 #[rv ob, iv g, rv tx, iv fr, iv 4, iv 4, iv nb, own_j uu2, s_, iv 2, iv 0, iv 46] [.int 0]) st86 ?_
      refine own_s T86 (mkF m 168 #[rv ob, iv g, rv tx, iv fr, iv 4, iv 4, iv nb, own_j uu2, s_, iv 2, iv 0, iv 46] []) (fun t k => XS.istore X86.here hx rfl (hb hby d5_166) rfl (l' := #[rv ob, iv g, rv tx, iv fr, iv 4, iv 4, iv nb, own_j uu2, s_, iv 2, iv 0, iv 46]) rfl k) ?_
      refine own_s T86 (mkF m 170 #[rv ob, iv g, rv tx, iv fr, iv 4, iv 4, iv nb, own_j uu2, s_, iv 2, iv 0, iv 46] [.int 2]) (fun t k => XS.iload X86.here hx rfl (hb hby d5_168) rfl k) ?_
      refine own_s T86 (mkF m 172 #[rv ob, iv g, rv tx, iv fr, iv 4, iv 4, iv nb, own_j uu2, s_, iv 2, iv 0, iv 46] [.int 18, .int 2]) (fun t k => XS.bipush X86.here hx rfl (hb hby d5_170) k) ?_
      refine own_s T86 (mkF m 201 #[rv ob, iv g, rv tx, iv fr, iv 4, iv 4, iv nb, own_j uu2, s_, iv 2, iv 0, iv 46] []) (fun t k => XS.icmpYes X86.here hx rfl (pc0 := 172) (pc' := 201) rfl (hb hby d5_172) rfl (flt (by decide : ¬ ((18 : Int32) < (2 : Int32)))).2.2.2 (by decide) (by decide) k) ?_
      refine own_s T86 (mkF m 202 #[rv ob, iv g, rv tx, iv fr, iv 4, iv 4, iv nb, own_j uu2, s_, iv 2, iv 0, iv 46] [.ref ob]) (fun t k => XS.aloadN X86.here hx rfl (hb hby d5_201) rfl rfl k) ?_
      refine own_s T86 (mkF m 203 #[rv ob, iv g, rv tx, iv fr, iv 4, iv 4, iv nb, own_j uu2, s_, iv 2, iv 0, iv 46] [.int g, .ref ob]) (fun t k => XS.iloadN X86.here hx rfl (hb hby d5_202) rfl k) ?_
      refine own_s T86 (mkF m 205 #[rv ob, iv g, rv tx, iv fr, iv 4, iv 4, iv nb, own_j uu2, s_, iv 2, iv 0, iv 46] [.int nb, .int g, .ref ob]) (fun t k => XS.iload X86.here hx rfl (hb hby d5_203) rfl k) ?_
      have huu : uu2 = own_u d1 d2 := by rw [← hd_uu2, ← hd_uu1, own_dsub hd1, own_dsub hd2, Int64.zero_add]; rfl
      by_cases c205 : nb = (0 : Int32)
      · have hsv : own_sv ng (own_u d1 d2) = uu2 := by rw [own_sv, if_pos (hnb.symm.trans c205), huu]
        refine own_s T86 (mkF m 214 #[rv ob, iv g, rv tx, iv fr, iv 4, iv 4, iv nb, own_j uu2, s_, iv 2, iv 0, iv 46] [.int g, .ref ob]) (fun t k => XS.ifYes X86.here hx rfl (pc0 := 205) (pc' := 214) rfl (hb hby d5_205) rfl ((if0 _ _).trans (teq c205).1) (by decide) (by decide) k) ?_
        refine own_s T86 (mkF m 216 #[rv ob, iv g, rv tx, iv fr, iv 4, iv 4, iv nb, own_j uu2, s_, iv 2, iv 0, iv 46] [.long uu2, .int g, .ref ob]) (fun t k => XS.lload X86.here hx rfl (hb hby d5_214) rfl k) ?_
        refine own_s T86 (mkF m 218 #[rv ob, iv g, rv tx, iv fr, iv 4, iv 4, iv nb, own_j uu2, s_, iv 2, iv 0, iv 46] [.int 0, .long uu2, .int g, .ref ob]) (fun t k => XS.iload X86.here hx rfl (hb hby d5_216) rfl k) ?_
        obtain ⟨cq91, q91a, q91b⟩ := F_0.1.cell
        obtain ⟨_, _, ⟨T90, L90, k90, n90⟩, -, X90, ⟨Lc90, hQ90, lq90, yq90, zq90⟩, st90⟩ := own_privH X86 hx (y := (⟨"com/example/viewlattice/viewlattice/engine/DecimalSums", "addUnscaled", "(IJI)V"⟩ : MethodName)) hown (mvT hZ (hW 35 _ rfl)) (mvT hZ (hW 36 _ rfl)) (mvT hZ (hW 3 _ rfl)) (Cond.privateMethod_at (args := #[]) (mvP hZ (hW 37 _ rfl))) (mvT hZ (hW 38 _ rfl)) (by decide) (backOfWith (W := 0) (rm_au l Z a0 hw [] ob ar kr cap S v0 v1 v2 v3 g uu2 (0 : Int32) pw kp h0 n0 Z0 F_0 O0 hcap hg (own_hs1 hS (Or.inl rfl)) (own_hs2 hS (Or.inl rfl)) (by rw [huu]; exact own_usm hd1 hd2) hv0 hv1 hv2 hv3 S_p V_p) hZ (hW 38 _ rfl) (hW 4 _ rfl) (by decide) (by decide)) (g := (mkF m 218 #[rv ob, iv g, rv tx, iv fr, iv 4, iv 4, iv nb, own_j uu2, s_, iv 2, iv 0, iv 46] [.int 0, .long uu2, .int g, .ref ob])) rfl (by rw [hml]; rfl) (Steps.refl _) (a := ob) (cell := cq91) (by rw [eq85]; exact q91a) q91b (argsL := [(.int g), (.long uu2), (.int (0 : Int32))]) (rest := []) (lenOf pd_4 rfl) rfl (by show 2 * 0 + _ ≤ _; exact Nat.le_of_eq rfl) (hb hby d5_218) (fun _ _ => ⟨rfl, eq85, (by decide : 0 + 1 ≤ _), (by decide : 0 + 4 ≤ _)⟩)
        dsimp only [Pt.U, Pt.locs, Pt.cells, Pt.slots] at X90 lq90 yq90 zq90 st90 hQ90
        subst lq90 yq90 zq90
        obtain ⟨b_87, kb_87, rfl, Nq90, K88, g89, pz88⟩ := hQ90
        have N90 := Fr.app N86 Nq90
        have g92 : Arv Z T90.heap tx kx .char (4 : Int32) [(.int sg), (.int y1), (.int y2), (.int (46 : Int32))] (.int (0 : Int32)) := Vx.keep K88 (ninS (Ne.symm n_ob_tx) (ninS (Ne.symm n_ar_tx) nin0))
        have Z88 : n0 ≤ T90.heap.size := (Nat.le_trans Z0 K88.1)
        have O88 : Old Z n0 T90.heap := O0.keep K88 (allS (P := fun x => n0 ≤ x) F_0.2.2.2.2.2.1 (allS (P := fun x => n0 ≤ x) F_0.2.2.2.2.2.2 all0))
        have K93 : Keep h0 T90.heap [ob, ar] := K0.trans K88 (allS (P := fun x => x ∈ [ob, ar] ∨ h0.size ≤ x) (Or.inl (List.mem_of_getElem? (i := 0) rfl)) (allS (P := fun x => x ∈ [ob, ar] ∨ h0.size ≤ x) (Or.inl (List.mem_of_getElem? (i := 1) rfl)) all0))
        have nb88_2 : tx ≠ b_87 := fun z => pz88.elim (fun y => (Ne.symm n_ar_tx) (z.trans y)) (fun y => Nat.ne_of_lt (Nat.lt_of_lt_of_le Vx.lt y) z)
        refine own_tr (T' := T90) (g' := (mkF m 221 #[rv ob, iv g, rv tx, iv fr, iv 4, iv 4, iv nb, own_j uu2, s_, iv 2, iv 0, iv 46] [])) st90 ?_
        refine own_s T90 (mkF m 222 #[rv ob, iv g, rv tx, iv fr, iv 4, iv 4, iv nb, own_j uu2, s_, iv 2, iv 0, iv 46] [.int 1]) (fun t k => XS.iconst X90.here hx rfl (hb hby d5_221) k) ?_
        refine own_rN X90 hx hlk Bd.returns (by simp) (hb hby d5_222) ?_ (by decide) (by decide)
        exact ⟨b_87, kb_87, rfl, N90, K93, (by rw [hsv]; exact g89), pz88⟩
      · have hsv : own_sv ng (own_u d1 d2) = (-uu2) := by rw [own_sv, if_neg (fun q => c205 (hnb.trans q)), huu]
        refine own_s T86 (mkF m 208 #[rv ob, iv g, rv tx, iv fr, iv 4, iv 4, iv nb, own_j uu2, s_, iv 2, iv 0, iv 46] [.int g, .ref ob]) (fun t k => XS.ifNo X86.here hx rfl (hb hby d5_205) rfl ((if0 _ _).trans (feq c205).1) k) ?_
        refine own_s T86 (mkF m 210 #[rv ob, iv g, rv tx, iv fr, iv 4, iv 4, iv nb, own_j uu2, s_, iv 2, iv 0, iv 46] [.long uu2, .int g, .ref ob]) (fun t k => XS.lload X86.here hx rfl (hb hby d5_208) rfl k) ?_
        refine own_s T86 (mkF m 211 #[rv ob, iv g, rv tx, iv fr, iv 4, iv 4, iv nb, own_j uu2, s_, iv 2, iv 0, iv 46] [.long (-uu2), .int g, .ref ob]) (fun t k => XS.lneg X86.here hx rfl (hb hby d5_210) rfl k) ?_
        refine own_s T86 (mkF m 216 #[rv ob, iv g, rv tx, iv fr, iv 4, iv 4, iv nb, own_j uu2, s_, iv 2, iv 0, iv 46] [.long (-uu2), .int g, .ref ob]) (fun t k => XS.goto X86.here hx rfl (pc0 := 211) (pc' := 216) rfl (hb hby d5_211) (by decide) (by decide) k) ?_
        refine own_s T86 (mkF m 218 #[rv ob, iv g, rv tx, iv fr, iv 4, iv 4, iv nb, own_j uu2, s_, iv 2, iv 0, iv 46] [.int 0, .long (-uu2), .int g, .ref ob]) (fun t k => XS.iload X86.here hx rfl (hb hby d5_216) rfl k) ?_
        obtain ⟨cq98, q98a, q98b⟩ := F_0.1.cell
        obtain ⟨_, _, ⟨T97, L97, k97, n97⟩, -, X97, ⟨Lc97, hQ97, lq97, yq97, zq97⟩, st97⟩ := own_privH X86 hx (y := (⟨"com/example/viewlattice/viewlattice/engine/DecimalSums", "addUnscaled", "(IJI)V"⟩ : MethodName)) hown (mvT hZ (hW 35 _ rfl)) (mvT hZ (hW 36 _ rfl)) (mvT hZ (hW 3 _ rfl)) (Cond.privateMethod_at (args := #[]) (mvP hZ (hW 37 _ rfl))) (mvT hZ (hW 38 _ rfl)) (by decide) (backOfWith (W := 0) (rm_au l Z a0 hw [] ob ar kr cap S v0 v1 v2 v3 g (-uu2) (0 : Int32) pw kp h0 n0 Z0 F_0 O0 hcap hg (own_hs1 hS (Or.inl rfl)) (own_hs2 hS (Or.inl rfl)) (by rw [huu]; exact own_unsm hd1 hd2) hv0 hv1 hv2 hv3 S_p V_p) hZ (hW 38 _ rfl) (hW 4 _ rfl) (by decide) (by decide)) (g := (mkF m 218 #[rv ob, iv g, rv tx, iv fr, iv 4, iv 4, iv nb, own_j uu2, s_, iv 2, iv 0, iv 46] [.int 0, .long (-uu2), .int g, .ref ob])) rfl (by rw [hml]; rfl) (Steps.refl _) (a := ob) (cell := cq98) (by rw [eq85]; exact q98a) q98b (argsL := [(.int g), (.long (-uu2)), (.int (0 : Int32))]) (rest := []) (lenOf pd_4 rfl) rfl (by show 2 * 0 + _ ≤ _; exact Nat.le_of_eq rfl) (hb hby d5_218) (fun _ _ => ⟨rfl, eq85, (by decide : 0 + 1 ≤ _), (by decide : 0 + 4 ≤ _)⟩)
        dsimp only [Pt.U, Pt.locs, Pt.cells, Pt.slots] at X97 lq97 yq97 zq97 st97 hQ97
        subst lq97 yq97 zq97
        obtain ⟨b_94, kb_94, rfl, Nq97, K95, g96, pz95⟩ := hQ97
        have N97 := Fr.app N86 Nq97
        have g99 : Arv Z T97.heap tx kx .char (4 : Int32) [(.int sg), (.int y1), (.int y2), (.int (46 : Int32))] (.int (0 : Int32)) := Vx.keep K95 (ninS (Ne.symm n_ob_tx) (ninS (Ne.symm n_ar_tx) nin0))
        have Z95 : n0 ≤ T97.heap.size := (Nat.le_trans Z0 K95.1)
        have O95 : Old Z n0 T97.heap := O0.keep K95 (allS (P := fun x => n0 ≤ x) F_0.2.2.2.2.2.1 (allS (P := fun x => n0 ≤ x) F_0.2.2.2.2.2.2 all0))
        have K100 : Keep h0 T97.heap [ob, ar] := K0.trans K95 (allS (P := fun x => x ∈ [ob, ar] ∨ h0.size ≤ x) (Or.inl (List.mem_of_getElem? (i := 0) rfl)) (allS (P := fun x => x ∈ [ob, ar] ∨ h0.size ≤ x) (Or.inl (List.mem_of_getElem? (i := 1) rfl)) all0))
        have nb95_2 : tx ≠ b_94 := fun z => pz95.elim (fun y => (Ne.symm n_ar_tx) (z.trans y)) (fun y => Nat.ne_of_lt (Nat.lt_of_lt_of_le Vx.lt y) z)
        refine own_tr (T' := T97) (g' := (mkF m 221 #[rv ob, iv g, rv tx, iv fr, iv 4, iv 4, iv nb, own_j uu2, s_, iv 2, iv 0, iv 46] [])) st97 ?_
        refine own_s T97 (mkF m 222 #[rv ob, iv g, rv tx, iv fr, iv 4, iv 4, iv nb, own_j uu2, s_, iv 2, iv 0, iv 46] [.int 1]) (fun t k => XS.iconst X97.here hx rfl (hb hby d5_221) k) ?_
        refine own_rN X97 hx hlk Bd.returns (by simp) (hb hby d5_222) ?_ (by decide) (by decide)
        exact ⟨b_94, kb_94, rfl, N97, K100, (by rw [hsv]; exact g96), pz95⟩
    rcases hfr with ⟨hf0, hsg, hng⟩ | ⟨hf0, hsg, hng⟩ | ⟨hf0, hng⟩
    · subst hf0
      refine own_s s₁ (mkF m 1 #[rv ob, iv g, rv tx, iv 0, iv 4, u_, u_, u_, u_, u_, u_, u_] [.int 0]) (fun t k => XS.iloadN X0.here hx rfl (hb hby d5_0) rfl k) ?_
      refine own_s s₁ (mkF m 3 #[rv ob, iv g, rv tx, iv 0, iv 4, iv 0, u_, u_, u_, u_, u_, u_] []) (fun t k => XS.istore X0.here hx rfl (hb hby d5_1) rfl (l' := #[rv ob, iv g, rv tx, iv 0, iv 4, iv 0, u_, u_, u_, u_, u_, u_]) rfl k) ?_
      refine own_s s₁ (mkF m 4 #[rv ob, iv g, rv tx, iv 0, iv 4, iv 0, u_, u_, u_, u_, u_, u_] [.int 0]) (fun t k => XS.iconst X0.here hx rfl (hb hby d5_3) k) ?_
      refine own_s s₁ (mkF m 6 #[rv ob, iv g, rv tx, iv 0, iv 4, iv 0, iv 0, u_, u_, u_, u_, u_] []) (fun t k => XS.istore X0.here hx rfl (hb hby d5_4) rfl (l' := #[rv ob, iv g, rv tx, iv 0, iv 4, iv 0, iv 0, u_, u_, u_, u_, u_]) rfl k) ?_
      refine own_s s₁ (mkF m 8 #[rv ob, iv g, rv tx, iv 0, iv 4, iv 0, iv 0, u_, u_, u_, u_, u_] [.int 0]) (fun t k => XS.iload X0.here hx rfl (hb hby d5_6) rfl k) ?_
      refine own_s s₁ (mkF m 10 #[rv ob, iv g, rv tx, iv 0, iv 4, iv 0, iv 0, u_, u_, u_, u_, u_] [.int 4, .int 0]) (fun t k => XS.iload X0.here hx rfl (hb hby d5_8) rfl k) ?_
      refine own_s s₁ (mkF m 13 #[rv ob, iv g, rv tx, iv 0, iv 4, iv 0, iv 0, u_, u_, u_, u_, u_] []) (fun t k => XS.icmpNo X0.here hx rfl (hb hby d5_10) rfl (tlt (by decide : ((0 : Int32) < (4 : Int32)))).2.1 k) ?_
      refine own_s s₁ (mkF m 14 #[rv ob, iv g, rv tx, iv 0, iv 4, iv 0, iv 0, u_, u_, u_, u_, u_] [.ref tx]) (fun t k => XS.aloadN X0.here hx rfl (hb hby d5_13) rfl rfl k) ?_
      refine own_s s₁ (mkF m 16 #[rv ob, iv g, rv tx, iv 0, iv 4, iv 0, iv 0, u_, u_, u_, u_, u_] [.int 0, .ref tx]) (fun t k => XS.iload X0.here hx rfl (hb hby d5_14) rfl k) ?_
      obtain ⟨cl101, Ar101, qa101, S101, M101, H101, U101⟩ := id Vx
      have hi101 := inb_of S101 (j := (0 : Int32)) ⟨by decide, by decide⟩
      have hat101 := H101.at hi101 (v := (.int sg)) rfl
      refine own_s s₁ (mkF m 17 #[rv ob, iv g, rv tx, iv 0, iv 4, iv 0, iv 0, u_, u_, u_, u_, u_] [.int sg]) (fun t k => X0.caload hx (j := (0 : Int32)) (v := (.int sg)) (by rw [e0]; exact Ar101.1) (State.isArrayOf_alike hZ.alike Ar101.2.1) Ar101.2.2 hi101 hat101 (g := (mkF m 16 #[rv ob, iv g, rv tx, iv 0, iv 4, iv 0, iv 0, u_, u_, u_, u_, u_] [.int 0, .ref tx])) rfl rfl (hb hby d5_16) t k) ?_
      refine own_s s₁ (mkF m 19 #[rv ob, iv g, rv tx, iv 0, iv 4, iv 0, iv 0, u_, u_, u_, u_, u_] [.int 45, .int sg]) (fun t k => XS.bipush X0.here hx rfl (hb hby d5_17) k) ?_
      refine own_s s₁ (mkF m 31 #[rv ob, iv g, rv tx, iv 0, iv 4, iv 0, iv 0, u_, u_, u_, u_, u_] []) (fun t k => XS.icmpYes X0.here hx rfl (pc0 := 19) (pc' := 31) rfl (hb hby d5_19) rfl (teq hsg).1 (by decide) (by decide) k) ?_
      refine own_s s₁ (mkF m 32 #[rv ob, iv g, rv tx, iv 0, iv 4, iv 0, iv 0, u_, u_, u_, u_, u_] [.ref tx]) (fun t k => XS.aloadN X0.here hx rfl (hb hby d5_31) rfl rfl k) ?_
      refine own_s s₁ (mkF m 34 #[rv ob, iv g, rv tx, iv 0, iv 4, iv 0, iv 0, u_, u_, u_, u_, u_] [.int 0, .ref tx]) (fun t k => XS.iload X0.here hx rfl (hb hby d5_32) rfl k) ?_
      obtain ⟨cl102, Ar102, qa102, S102, M102, H102, U102⟩ := id Vx
      have hi102 := inb_of S102 (j := (0 : Int32)) ⟨by decide, by decide⟩
      have hat102 := H102.at hi102 (v := (.int sg)) rfl
      refine own_s s₁ (mkF m 35 #[rv ob, iv g, rv tx, iv 0, iv 4, iv 0, iv 0, u_, u_, u_, u_, u_] [.int sg]) (fun t k => X0.caload hx (j := (0 : Int32)) (v := (.int sg)) (by rw [e0]; exact Ar102.1) (State.isArrayOf_alike hZ.alike Ar102.2.1) Ar102.2.2 hi102 hat102 (g := (mkF m 34 #[rv ob, iv g, rv tx, iv 0, iv 4, iv 0, iv 0, u_, u_, u_, u_, u_] [.int 0, .ref tx])) rfl rfl (hb hby d5_34) t k) ?_
      refine own_s s₁ (mkF m 37 #[rv ob, iv g, rv tx, iv 0, iv 4, iv 0, iv 0, u_, u_, u_, u_, u_] [.int 45, .int sg]) (fun t k => XS.bipush X0.here hx rfl (hb hby d5_35) k) ?_
      refine own_s s₁ (mkF m 40 #[rv ob, iv g, rv tx, iv 0, iv 4, iv 0, iv 0, u_, u_, u_, u_, u_] []) (fun t k => XS.icmpNo X0.here hx rfl (hb hby d5_37) rfl (teq hsg).2 k) ?_
      refine own_s s₁ (mkF m 41 #[rv ob, iv g, rv tx, iv 0, iv 4, iv 0, iv 0, u_, u_, u_, u_, u_] [.int 1]) (fun t k => XS.iconst X0.here hx rfl (hb hby d5_40) k) ?_
      refine own_s s₁ (mkF m 45 #[rv ob, iv g, rv tx, iv 0, iv 4, iv 0, iv 0, u_, u_, u_, u_, u_] [.int 1]) (fun t k => XS.goto X0.here hx rfl (pc0 := 41) (pc' := 45) rfl (hb hby d5_41) (by decide) (by decide) k) ?_
      refine own_s s₁ (mkF m 47 #[rv ob, iv g, rv tx, iv 0, iv 4, iv 0, iv 1, u_, u_, u_, u_, u_] []) (fun t k => XS.istore X0.here hx rfl (hb hby d5_45) rfl (l' := #[rv ob, iv g, rv tx, iv 0, iv 4, iv 0, iv 1, u_, u_, u_, u_, u_]) rfl k) ?_
      refine own_s s₁ (mkF m 50 #[rv ob, iv g, rv tx, iv 0, iv 4, iv 1, iv 1, u_, u_, u_, u_, u_] []) (fun t k => XS.iinc X0.here hx rfl (hb hby d5_47) rfl (l' := #[rv ob, iv g, rv tx, iv 0, iv 4, iv 1, iv 1, u_, u_, u_, u_, u_]) rfl k) ?_
      exact j50 _ hng.symm
    · subst hf0
      refine own_s s₁ (mkF m 1 #[rv ob, iv g, rv tx, iv 0, iv 4, u_, u_, u_, u_, u_, u_, u_] [.int 0]) (fun t k => XS.iloadN X0.here hx rfl (hb hby d5_0) rfl k) ?_
      refine own_s s₁ (mkF m 3 #[rv ob, iv g, rv tx, iv 0, iv 4, iv 0, u_, u_, u_, u_, u_, u_] []) (fun t k => XS.istore X0.here hx rfl (hb hby d5_1) rfl (l' := #[rv ob, iv g, rv tx, iv 0, iv 4, iv 0, u_, u_, u_, u_, u_, u_]) rfl k) ?_
      refine own_s s₁ (mkF m 4 #[rv ob, iv g, rv tx, iv 0, iv 4, iv 0, u_, u_, u_, u_, u_, u_] [.int 0]) (fun t k => XS.iconst X0.here hx rfl (hb hby d5_3) k) ?_
      refine own_s s₁ (mkF m 6 #[rv ob, iv g, rv tx, iv 0, iv 4, iv 0, iv 0, u_, u_, u_, u_, u_] []) (fun t k => XS.istore X0.here hx rfl (hb hby d5_4) rfl (l' := #[rv ob, iv g, rv tx, iv 0, iv 4, iv 0, iv 0, u_, u_, u_, u_, u_]) rfl k) ?_
      refine own_s s₁ (mkF m 8 #[rv ob, iv g, rv tx, iv 0, iv 4, iv 0, iv 0, u_, u_, u_, u_, u_] [.int 0]) (fun t k => XS.iload X0.here hx rfl (hb hby d5_6) rfl k) ?_
      refine own_s s₁ (mkF m 10 #[rv ob, iv g, rv tx, iv 0, iv 4, iv 0, iv 0, u_, u_, u_, u_, u_] [.int 4, .int 0]) (fun t k => XS.iload X0.here hx rfl (hb hby d5_8) rfl k) ?_
      refine own_s s₁ (mkF m 13 #[rv ob, iv g, rv tx, iv 0, iv 4, iv 0, iv 0, u_, u_, u_, u_, u_] []) (fun t k => XS.icmpNo X0.here hx rfl (hb hby d5_10) rfl (tlt (by decide : ((0 : Int32) < (4 : Int32)))).2.1 k) ?_
      refine own_s s₁ (mkF m 14 #[rv ob, iv g, rv tx, iv 0, iv 4, iv 0, iv 0, u_, u_, u_, u_, u_] [.ref tx]) (fun t k => XS.aloadN X0.here hx rfl (hb hby d5_13) rfl rfl k) ?_
      refine own_s s₁ (mkF m 16 #[rv ob, iv g, rv tx, iv 0, iv 4, iv 0, iv 0, u_, u_, u_, u_, u_] [.int 0, .ref tx]) (fun t k => XS.iload X0.here hx rfl (hb hby d5_14) rfl k) ?_
      obtain ⟨cl103, Ar103, qa103, S103, M103, H103, U103⟩ := id Vx
      have hi103 := inb_of S103 (j := (0 : Int32)) ⟨by decide, by decide⟩
      have hat103 := H103.at hi103 (v := (.int sg)) rfl
      refine own_s s₁ (mkF m 17 #[rv ob, iv g, rv tx, iv 0, iv 4, iv 0, iv 0, u_, u_, u_, u_, u_] [.int sg]) (fun t k => X0.caload hx (j := (0 : Int32)) (v := (.int sg)) (by rw [e0]; exact Ar103.1) (State.isArrayOf_alike hZ.alike Ar103.2.1) Ar103.2.2 hi103 hat103 (g := (mkF m 16 #[rv ob, iv g, rv tx, iv 0, iv 4, iv 0, iv 0, u_, u_, u_, u_, u_] [.int 0, .ref tx])) rfl rfl (hb hby d5_16) t k) ?_
      refine own_s s₁ (mkF m 19 #[rv ob, iv g, rv tx, iv 0, iv 4, iv 0, iv 0, u_, u_, u_, u_, u_] [.int 45, .int sg]) (fun t k => XS.bipush X0.here hx rfl (hb hby d5_17) k) ?_
      refine own_s s₁ (mkF m 22 #[rv ob, iv g, rv tx, iv 0, iv 4, iv 0, iv 0, u_, u_, u_, u_, u_] []) (fun t k => XS.icmpNo X0.here hx rfl (hb hby d5_19) rfl (feq (by rw [hsg]; decide)).1 k) ?_
      refine own_s s₁ (mkF m 23 #[rv ob, iv g, rv tx, iv 0, iv 4, iv 0, iv 0, u_, u_, u_, u_, u_] [.ref tx]) (fun t k => XS.aloadN X0.here hx rfl (hb hby d5_22) rfl rfl k) ?_
      refine own_s s₁ (mkF m 25 #[rv ob, iv g, rv tx, iv 0, iv 4, iv 0, iv 0, u_, u_, u_, u_, u_] [.int 0, .ref tx]) (fun t k => XS.iload X0.here hx rfl (hb hby d5_23) rfl k) ?_
      obtain ⟨cl104, Ar104, qa104, S104, M104, H104, U104⟩ := id Vx
      have hi104 := inb_of S104 (j := (0 : Int32)) ⟨by decide, by decide⟩
      have hat104 := H104.at hi104 (v := (.int sg)) rfl
      refine own_s s₁ (mkF m 26 #[rv ob, iv g, rv tx, iv 0, iv 4, iv 0, iv 0, u_, u_, u_, u_, u_] [.int sg]) (fun t k => X0.caload hx (j := (0 : Int32)) (v := (.int sg)) (by rw [e0]; exact Ar104.1) (State.isArrayOf_alike hZ.alike Ar104.2.1) Ar104.2.2 hi104 hat104 (g := (mkF m 25 #[rv ob, iv g, rv tx, iv 0, iv 4, iv 0, iv 0, u_, u_, u_, u_, u_] [.int 0, .ref tx])) rfl rfl (hb hby d5_25) t k) ?_
      refine own_s s₁ (mkF m 28 #[rv ob, iv g, rv tx, iv 0, iv 4, iv 0, iv 0, u_, u_, u_, u_, u_] [.int 43, .int sg]) (fun t k => XS.bipush X0.here hx rfl (hb hby d5_26) k) ?_
      refine own_s s₁ (mkF m 31 #[rv ob, iv g, rv tx, iv 0, iv 4, iv 0, iv 0, u_, u_, u_, u_, u_] []) (fun t k => XS.icmpNo X0.here hx rfl (hb hby d5_28) rfl (teq hsg).2 k) ?_
      refine own_s s₁ (mkF m 32 #[rv ob, iv g, rv tx, iv 0, iv 4, iv 0, iv 0, u_, u_, u_, u_, u_] [.ref tx]) (fun t k => XS.aloadN X0.here hx rfl (hb hby d5_31) rfl rfl k) ?_
      refine own_s s₁ (mkF m 34 #[rv ob, iv g, rv tx, iv 0, iv 4, iv 0, iv 0, u_, u_, u_, u_, u_] [.int 0, .ref tx]) (fun t k => XS.iload X0.here hx rfl (hb hby d5_32) rfl k) ?_
      obtain ⟨cl105, Ar105, qa105, S105, M105, H105, U105⟩ := id Vx
      have hi105 := inb_of S105 (j := (0 : Int32)) ⟨by decide, by decide⟩
      have hat105 := H105.at hi105 (v := (.int sg)) rfl
      refine own_s s₁ (mkF m 35 #[rv ob, iv g, rv tx, iv 0, iv 4, iv 0, iv 0, u_, u_, u_, u_, u_] [.int sg]) (fun t k => X0.caload hx (j := (0 : Int32)) (v := (.int sg)) (by rw [e0]; exact Ar105.1) (State.isArrayOf_alike hZ.alike Ar105.2.1) Ar105.2.2 hi105 hat105 (g := (mkF m 34 #[rv ob, iv g, rv tx, iv 0, iv 4, iv 0, iv 0, u_, u_, u_, u_, u_] [.int 0, .ref tx])) rfl rfl (hb hby d5_34) t k) ?_
      refine own_s s₁ (mkF m 37 #[rv ob, iv g, rv tx, iv 0, iv 4, iv 0, iv 0, u_, u_, u_, u_, u_] [.int 45, .int sg]) (fun t k => XS.bipush X0.here hx rfl (hb hby d5_35) k) ?_
      refine own_s s₁ (mkF m 44 #[rv ob, iv g, rv tx, iv 0, iv 4, iv 0, iv 0, u_, u_, u_, u_, u_] []) (fun t k => XS.icmpYes X0.here hx rfl (pc0 := 37) (pc' := 44) rfl (hb hby d5_37) rfl (feq (by rw [hsg]; decide)).2 (by decide) (by decide) k) ?_
      refine own_s s₁ (mkF m 45 #[rv ob, iv g, rv tx, iv 0, iv 4, iv 0, iv 0, u_, u_, u_, u_, u_] [.int 0]) (fun t k => XS.iconst X0.here hx rfl (hb hby d5_44) k) ?_
      refine own_s s₁ (mkF m 47 #[rv ob, iv g, rv tx, iv 0, iv 4, iv 0, iv 0, u_, u_, u_, u_, u_] []) (fun t k => XS.istore X0.here hx rfl (hb hby d5_45) rfl (l' := #[rv ob, iv g, rv tx, iv 0, iv 4, iv 0, iv 0, u_, u_, u_, u_, u_]) rfl k) ?_
      refine own_s s₁ (mkF m 50 #[rv ob, iv g, rv tx, iv 0, iv 4, iv 1, iv 0, u_, u_, u_, u_, u_] []) (fun t k => XS.iinc X0.here hx rfl (hb hby d5_47) rfl (l' := #[rv ob, iv g, rv tx, iv 0, iv 4, iv 1, iv 0, u_, u_, u_, u_, u_]) rfl k) ?_
      exact j50 _ hng.symm
    · subst hf0
      refine own_s s₁ (mkF m 1 #[rv ob, iv g, rv tx, iv 1, iv 4, u_, u_, u_, u_, u_, u_, u_] [.int 1]) (fun t k => XS.iloadN X0.here hx rfl (hb hby d5_0) rfl k) ?_
      refine own_s s₁ (mkF m 3 #[rv ob, iv g, rv tx, iv 1, iv 4, iv 1, u_, u_, u_, u_, u_, u_] []) (fun t k => XS.istore X0.here hx rfl (hb hby d5_1) rfl (l' := #[rv ob, iv g, rv tx, iv 1, iv 4, iv 1, u_, u_, u_, u_, u_, u_]) rfl k) ?_
      refine own_s s₁ (mkF m 4 #[rv ob, iv g, rv tx, iv 1, iv 4, iv 1, u_, u_, u_, u_, u_, u_] [.int 0]) (fun t k => XS.iconst X0.here hx rfl (hb hby d5_3) k) ?_
      refine own_s s₁ (mkF m 6 #[rv ob, iv g, rv tx, iv 1, iv 4, iv 1, iv 0, u_, u_, u_, u_, u_] []) (fun t k => XS.istore X0.here hx rfl (hb hby d5_4) rfl (l' := #[rv ob, iv g, rv tx, iv 1, iv 4, iv 1, iv 0, u_, u_, u_, u_, u_]) rfl k) ?_
      refine own_s s₁ (mkF m 8 #[rv ob, iv g, rv tx, iv 1, iv 4, iv 1, iv 0, u_, u_, u_, u_, u_] [.int 1]) (fun t k => XS.iload X0.here hx rfl (hb hby d5_6) rfl k) ?_
      refine own_s s₁ (mkF m 10 #[rv ob, iv g, rv tx, iv 1, iv 4, iv 1, iv 0, u_, u_, u_, u_, u_] [.int 4, .int 1]) (fun t k => XS.iload X0.here hx rfl (hb hby d5_8) rfl k) ?_
      refine own_s s₁ (mkF m 13 #[rv ob, iv g, rv tx, iv 1, iv 4, iv 1, iv 0, u_, u_, u_, u_, u_] []) (fun t k => XS.icmpNo X0.here hx rfl (hb hby d5_10) rfl (tlt (by decide : ((1 : Int32) < (4 : Int32)))).2.1 k) ?_
      refine own_s s₁ (mkF m 14 #[rv ob, iv g, rv tx, iv 1, iv 4, iv 1, iv 0, u_, u_, u_, u_, u_] [.ref tx]) (fun t k => XS.aloadN X0.here hx rfl (hb hby d5_13) rfl rfl k) ?_
      refine own_s s₁ (mkF m 16 #[rv ob, iv g, rv tx, iv 1, iv 4, iv 1, iv 0, u_, u_, u_, u_, u_] [.int 1, .ref tx]) (fun t k => XS.iload X0.here hx rfl (hb hby d5_14) rfl k) ?_
      obtain ⟨cl106, Ar106, qa106, S106, M106, H106, U106⟩ := id Vx
      have hi106 := inb_of S106 (j := (1 : Int32)) ⟨by decide, by decide⟩
      have hat106 := H106.at hi106 (v := (.int y1)) rfl
      refine own_s s₁ (mkF m 17 #[rv ob, iv g, rv tx, iv 1, iv 4, iv 1, iv 0, u_, u_, u_, u_, u_] [.int y1]) (fun t k => X0.caload hx (j := (1 : Int32)) (v := (.int y1)) (by rw [e0]; exact Ar106.1) (State.isArrayOf_alike hZ.alike Ar106.2.1) Ar106.2.2 hi106 hat106 (g := (mkF m 16 #[rv ob, iv g, rv tx, iv 1, iv 4, iv 1, iv 0, u_, u_, u_, u_, u_] [.int 1, .ref tx])) rfl rfl (hb hby d5_16) t k) ?_
      refine own_s s₁ (mkF m 19 #[rv ob, iv g, rv tx, iv 1, iv 4, iv 1, iv 0, u_, u_, u_, u_, u_] [.int 45, .int y1]) (fun t k => XS.bipush X0.here hx rfl (hb hby d5_17) k) ?_
      refine own_s s₁ (mkF m 22 #[rv ob, iv g, rv tx, iv 1, iv 4, iv 1, iv 0, u_, u_, u_, u_, u_] []) (fun t k => XS.icmpNo X0.here hx rfl (hb hby d5_19) rfl (feq (own_dne hd1 (by decide))).1 k) ?_
      refine own_s s₁ (mkF m 23 #[rv ob, iv g, rv tx, iv 1, iv 4, iv 1, iv 0, u_, u_, u_, u_, u_] [.ref tx]) (fun t k => XS.aloadN X0.here hx rfl (hb hby d5_22) rfl rfl k) ?_
      refine own_s s₁ (mkF m 25 #[rv ob, iv g, rv tx, iv 1, iv 4, iv 1, iv 0, u_, u_, u_, u_, u_] [.int 1, .ref tx]) (fun t k => XS.iload X0.here hx rfl (hb hby d5_23) rfl k) ?_
      obtain ⟨cl107, Ar107, qa107, S107, M107, H107, U107⟩ := id Vx
      have hi107 := inb_of S107 (j := (1 : Int32)) ⟨by decide, by decide⟩
      have hat107 := H107.at hi107 (v := (.int y1)) rfl
      refine own_s s₁ (mkF m 26 #[rv ob, iv g, rv tx, iv 1, iv 4, iv 1, iv 0, u_, u_, u_, u_, u_] [.int y1]) (fun t k => X0.caload hx (j := (1 : Int32)) (v := (.int y1)) (by rw [e0]; exact Ar107.1) (State.isArrayOf_alike hZ.alike Ar107.2.1) Ar107.2.2 hi107 hat107 (g := (mkF m 25 #[rv ob, iv g, rv tx, iv 1, iv 4, iv 1, iv 0, u_, u_, u_, u_, u_] [.int 1, .ref tx])) rfl rfl (hb hby d5_25) t k) ?_
      refine own_s s₁ (mkF m 28 #[rv ob, iv g, rv tx, iv 1, iv 4, iv 1, iv 0, u_, u_, u_, u_, u_] [.int 43, .int y1]) (fun t k => XS.bipush X0.here hx rfl (hb hby d5_26) k) ?_
      refine own_s s₁ (mkF m 50 #[rv ob, iv g, rv tx, iv 1, iv 4, iv 1, iv 0, u_, u_, u_, u_, u_] []) (fun t k => XS.icmpYes X0.here hx rfl (pc0 := 28) (pc' := 50) rfl (hb hby d5_28) rfl (feq (own_dne hd1 (by decide))).2 (by decide) (by decide) k) ?_
      exact j50 _ hng.symm
def Q_add2 (Z : State) (ob : Addr) (ar : Addr) (kr : ClassId) (cap : Int32) (S : Int32) (v0 : Int64) (v1 : Int64) (v2 : Int64) (v3 : Int64) (g : Int32) (tx : Addr) (kx : ClassId) (ff : Int32) (y1 : Int32) (y2 : Int32) (e1 : Int32) (e2 : Int32) (pw : Addr) (kp : ClassId) (h0 : Heap) (n0 : Nat) (v : Option Value) (h : Heap) (L : List Loc) : Prop := ∃ (b : Addr) (kb : ClassId), v = some (.int (1 : Int32)) ∧ Fr n0 L ∧ Keep h0 h [ob, ar] ∧ own_St Z n0 h ob b kb cap (own_mx S (own_vf ff)) (own_upd g (0 : Int32) (v0 * own_f S (own_vf ff)) ((own_u e1 e2) * own_p10 (own_mx S (own_vf ff) - (own_vf ff)))) (own_upd g (1 : Int32) (v1 * own_f S (own_vf ff)) ((own_u e1 e2) * own_p10 (own_mx S (own_vf ff) - (own_vf ff)))) (own_upd g (2 : Int32) (v2 * own_f S (own_vf ff)) ((own_u e1 e2) * own_p10 (own_mx S (own_vf ff) - (own_vf ff)))) (own_upd g (3 : Int32) (v3 * own_f S (own_vf ff)) ((own_u e1 e2) * own_p10 (own_mx S (own_vf ff) - (own_vf ff)))) ∧ (b = ar ∨ h0.size ≤ b)
theorem ef_rm_add2 (m : MethodId) (x0 : Addr) (x1 : Int32) (x2 : Addr) (x3 : Int32) (x4 : Int32) : entryFrame m #[(.ref x0), (.int x1), (.ref x2), (.int x3), (.int x4)] 12 = mkF m 0 #[.val (.ref x0), .val (.int x1), .val (.ref x2), .val (.int x3), .val (.int x4), .unset, .unset, .unset, .unset, .unset, .unset, .unset] [] := by first | (simp [entryFrame, mkF, argsToLocals, Value.category]; done) | rfl | (simp [entryFrame, mkF, argsToLocals, Value.category] <;> rfl)
set_option maxRecDepth 65536 in
set_option maxHeartbeats 40000000 in
theorem rm_add2 (l : Launch) (Z : State) (a0 : Array Value) (hw : ∀ d ∈ tables_1, d.before a0 Z = true) (ws : List Jvm.Cond) (ob : Addr) (ar : Addr) (kr : ClassId) (cap : Int32) (S : Int32) (v0 : Int64) (v1 : Int64) (v2 : Int64) (v3 : Int64) (g : Int32) (tx : Addr) (kx : ClassId) (ff : Int32) (y1 : Int32) (y2 : Int32) (e1 : Int32) (e2 : Int32) (pw : Addr) (kp : ClassId) (h0 : Heap) (n0 : Nat) (Z0 : n0 ≤ h0.size) (F_0 : own_St Z n0 h0 ob ar kr cap S v0 v1 v2 v3) (F_1 : Arv Z h0 tx kx .char (3 : Int32) [(.int (46 : Int32)), (.int y1), (.int y2)] (.int (0 : Int32))) (n_ob_tx : ob ≠ tx) (n_ar_tx : ar ≠ tx) (O0 : Old Z n0 h0) (hff : ff = 0 ∨ ff = 1) (hcap : own_cap cap) (hg : own_in g cap) (hS : own_sh S) (hd1 : own_dg y1 e1) (hd2 : own_dg y2 e2) (hv0 : own_sm v0) (hv1 : own_sm v1) (hv2 : own_sm v2) (hv3 : own_sm v3) (S_p : Sta Z Z.heap "com/example/viewlattice/viewlattice/engine/DecimalSums" "POWERS_OF_TEN" "[J" (.ref pw)) (V_p : Arv Z Z.heap pw kp .long (19 : Int32) own_pw (.long (0 : Int64))) :
    MetFree l (⟨"com/example/viewlattice/viewlattice/engine/DecimalSums", "add", "(I[CII)Z"⟩ : MethodName) (head1 (Jvm.Cond.code (⟨"com/example/viewlattice/viewlattice/engine/DecimalSums", "add", "(I[CII)Z"⟩ : MethodName) prog_40_method_11_code 12 (some (.boolean)) :: ws) ({ frames := 4, cells := 1, slots := 4, locals := 71 } : Room)) (fun a U => a = #[(.ref ob), (.int g), (.ref tx), (.int (own_fr2 ff)), (.int (3 : Int32))] ∧ Z.Warmed39 U.vm ∧ U.heap = h0) (fun _ _ _ _ _ => True) (fun _ U o U' => ∃ v L, o = .returned v ∧ (Q_add2 Z ob ar kr cap S v0 v1 v2 v3 g tx kx ff y1 y2 e1 e2 pw kp h0 n0) v U'.heap L ∧ FrameEnd U o U' L ({ frames := 4, cells := 1, slots := 4, locals := 71 } : Room).cells ({ frames := 4, cells := 1, slots := 4, locals := 71 } : Room).slots) := by
  refine MetFree.of_bodySF (plainFor_of_name pn_1) hisR ?_
  intro p e s m args below meth c s₁ Bd hml0 hP hK
  obtain ⟨rfl, hZ, hh⟩ := hP
  have hx := Bd.exec
  have hby := Bd.bytes
  have hW := fun i d (h : tables_1[i]? = some d) => hw d (List.mem_of_getElem? h)
  have hlk : meth.locks = false := BodyLoose.notSynchronized Bd
  have hml : c.maxLocals = 12 := hml0
  have hown : s.vm.findClass "com/example/viewlattice/viewlattice/engine/DecimalSums" = some m.cls := findClass_of_methodNamed Bd.named
  have hnm := (name_of_methodNamed Bd.named Bd.method).1
  have X0 : Stand p l e ({ frames := 4, cells := 1, slots := 4, locals := 71 } : Room) s m #[(.ref ob), (.int g), (.ref tx), (.int (own_fr2 ff)), (.int (3 : Int32))] below meth c s₁ [] 0 0 := Stand.of_body Bd
  have e0 : s₁.heap = h0 := by rw [← hh, Bd.state]; rfl
  have N0 := Fr.nil n0
  show own_Go p e below s (Q_add2 Z ob ar kr cap S v0 v1 v2 v3 g tx kx ff y1 y2 e1 e2 pw kp h0 n0) ({ frames := 4, cells := 1, slots := 4, locals := 71 } : Room).cells ({ frames := 4, cells := 1, slots := 4, locals := 71 } : Room).slots s₁ (entryFrame m #[(.ref ob), (.int g), (.ref tx), (.int (own_fr2 ff)), (.int (3 : Int32))] 12)
  refine own_cast (g' := (mkF m 0 #[rv ob, iv g, rv tx, iv (own_fr2 ff), iv 3, u_, u_, u_, u_, u_, u_, u_] [])) (ef_rm_add2 m ob g tx (own_fr2 ff) (3 : Int32)) ?_
  have K0 : Keep h0 h0 [ob, ar] := Keep.refl _ _
  rcases hff with rfl | rfl
  · refine own_cast (g' := (mkF m 0 #[rv ob, iv g, rv tx, iv 1, iv 3, u_, u_, u_, u_, u_, u_, u_] [])) rfl ?_
    refine own_s s₁ (mkF m 1 #[rv ob, iv g, rv tx, iv 1, iv 3, u_, u_, u_, u_, u_, u_, u_] [.int 1]) (fun t k => XS.iloadN X0.here hx rfl (hb hby d5_0) rfl k) ?_
    refine own_s s₁ (mkF m 3 #[rv ob, iv g, rv tx, iv 1, iv 3, iv 1, u_, u_, u_, u_, u_, u_] []) (fun t k => XS.istore X0.here hx rfl (hb hby d5_1) rfl (l' := #[rv ob, iv g, rv tx, iv 1, iv 3, iv 1, u_, u_, u_, u_, u_, u_]) rfl k) ?_
    refine own_s s₁ (mkF m 4 #[rv ob, iv g, rv tx, iv 1, iv 3, iv 1, u_, u_, u_, u_, u_, u_] [.int 0]) (fun t k => XS.iconst X0.here hx rfl (hb hby d5_3) k) ?_
    refine own_s s₁ (mkF m 6 #[rv ob, iv g, rv tx, iv 1, iv 3, iv 1, iv 0, u_, u_, u_, u_, u_] []) (fun t k => XS.istore X0.here hx rfl (hb hby d5_4) rfl (l' := #[rv ob, iv g, rv tx, iv 1, iv 3, iv 1, iv 0, u_, u_, u_, u_, u_]) rfl k) ?_
    refine own_s s₁ (mkF m 8 #[rv ob, iv g, rv tx, iv 1, iv 3, iv 1, iv 0, u_, u_, u_, u_, u_] [.int 1]) (fun t k => XS.iload X0.here hx rfl (hb hby d5_6) rfl k) ?_
    refine own_s s₁ (mkF m 10 #[rv ob, iv g, rv tx, iv 1, iv 3, iv 1, iv 0, u_, u_, u_, u_, u_] [.int 3, .int 1]) (fun t k => XS.iload X0.here hx rfl (hb hby d5_8) rfl k) ?_
    refine own_s s₁ (mkF m 13 #[rv ob, iv g, rv tx, iv 1, iv 3, iv 1, iv 0, u_, u_, u_, u_, u_] []) (fun t k => XS.icmpNo X0.here hx rfl (hb hby d5_10) rfl (tlt (by decide : ((1 : Int32) < (3 : Int32)))).2.1 k) ?_
    refine own_s s₁ (mkF m 14 #[rv ob, iv g, rv tx, iv 1, iv 3, iv 1, iv 0, u_, u_, u_, u_, u_] [.ref tx]) (fun t k => XS.aloadN X0.here hx rfl (hb hby d5_13) rfl rfl k) ?_
    refine own_s s₁ (mkF m 16 #[rv ob, iv g, rv tx, iv 1, iv 3, iv 1, iv 0, u_, u_, u_, u_, u_] [.int 1, .ref tx]) (fun t k => XS.iload X0.here hx rfl (hb hby d5_14) rfl k) ?_
    obtain ⟨cl1, Ar1, qa1, S1, M1, H1, U1⟩ := id F_1
    have hi1 := inb_of S1 (j := (1 : Int32)) ⟨by decide, by decide⟩
    have hat1 := H1.at hi1 (v := (.int y1)) rfl
    refine own_s s₁ (mkF m 17 #[rv ob, iv g, rv tx, iv 1, iv 3, iv 1, iv 0, u_, u_, u_, u_, u_] [.int y1]) (fun t k => X0.caload hx (j := (1 : Int32)) (v := (.int y1)) (by rw [e0]; exact Ar1.1) (State.isArrayOf_alike hZ.alike Ar1.2.1) Ar1.2.2 hi1 hat1 (g := (mkF m 16 #[rv ob, iv g, rv tx, iv 1, iv 3, iv 1, iv 0, u_, u_, u_, u_, u_] [.int 1, .ref tx])) rfl rfl (hb hby d5_16) t k) ?_
    refine own_s s₁ (mkF m 19 #[rv ob, iv g, rv tx, iv 1, iv 3, iv 1, iv 0, u_, u_, u_, u_, u_] [.int 45, .int y1]) (fun t k => XS.bipush X0.here hx rfl (hb hby d5_17) k) ?_
    refine own_s s₁ (mkF m 22 #[rv ob, iv g, rv tx, iv 1, iv 3, iv 1, iv 0, u_, u_, u_, u_, u_] []) (fun t k => XS.icmpNo X0.here hx rfl (hb hby d5_19) rfl (feq (own_dne hd1 (by decide))).1 k) ?_
    refine own_s s₁ (mkF m 23 #[rv ob, iv g, rv tx, iv 1, iv 3, iv 1, iv 0, u_, u_, u_, u_, u_] [.ref tx]) (fun t k => XS.aloadN X0.here hx rfl (hb hby d5_22) rfl rfl k) ?_
    refine own_s s₁ (mkF m 25 #[rv ob, iv g, rv tx, iv 1, iv 3, iv 1, iv 0, u_, u_, u_, u_, u_] [.int 1, .ref tx]) (fun t k => XS.iload X0.here hx rfl (hb hby d5_23) rfl k) ?_
    obtain ⟨cl2, Ar2, qa2, S2, M2, H2, U2⟩ := id F_1
    have hi2 := inb_of S2 (j := (1 : Int32)) ⟨by decide, by decide⟩
    have hat2 := H2.at hi2 (v := (.int y1)) rfl
    refine own_s s₁ (mkF m 26 #[rv ob, iv g, rv tx, iv 1, iv 3, iv 1, iv 0, u_, u_, u_, u_, u_] [.int y1]) (fun t k => X0.caload hx (j := (1 : Int32)) (v := (.int y1)) (by rw [e0]; exact Ar2.1) (State.isArrayOf_alike hZ.alike Ar2.2.1) Ar2.2.2 hi2 hat2 (g := (mkF m 25 #[rv ob, iv g, rv tx, iv 1, iv 3, iv 1, iv 0, u_, u_, u_, u_, u_] [.int 1, .ref tx])) rfl rfl (hb hby d5_25) t k) ?_
    refine own_s s₁ (mkF m 28 #[rv ob, iv g, rv tx, iv 1, iv 3, iv 1, iv 0, u_, u_, u_, u_, u_] [.int 43, .int y1]) (fun t k => XS.bipush X0.here hx rfl (hb hby d5_26) k) ?_
    refine own_s s₁ (mkF m 50 #[rv ob, iv g, rv tx, iv 1, iv 3, iv 1, iv 0, u_, u_, u_, u_, u_] []) (fun t k => XS.icmpYes X0.here hx rfl (pc0 := 28) (pc' := 50) rfl (hb hby d5_28) rfl (feq (own_dne hd1 (by decide))).2 (by decide) (by decide) k) ?_
    refine own_s s₁ (mkF m 51 #[rv ob, iv g, rv tx, iv 1, iv 3, iv 1, iv 0, u_, u_, u_, u_, u_] [.long 0]) (fun t k => XS.lconst X0.here hx rfl (hb hby d5_50) k) ?_
    refine own_s s₁ (mkF m 53 #[rv ob, iv g, rv tx, iv 1, iv 3, iv 1, iv 0, own_j 0, s_, u_, u_, u_] []) (fun t k => XS.lstore X0.here hx rfl (hb hby d5_51) rfl (l' := #[rv ob, iv g, rv tx, iv 1, iv 3, iv 1, iv 0, own_j 0, s_, u_, u_, u_]) rfl k) ?_
    refine own_s s₁ (mkF m 54 #[rv ob, iv g, rv tx, iv 1, iv 3, iv 1, iv 0, own_j 0, s_, u_, u_, u_] [.int 0]) (fun t k => XS.iconst X0.here hx rfl (hb hby d5_53) k) ?_
    refine own_s s₁ (mkF m 56 #[rv ob, iv g, rv tx, iv 1, iv 3, iv 1, iv 0, own_j 0, s_, iv 0, u_, u_] []) (fun t k => XS.istore X0.here hx rfl (hb hby d5_54) rfl (l' := #[rv ob, iv g, rv tx, iv 1, iv 3, iv 1, iv 0, own_j 0, s_, iv 0, u_, u_]) rfl k) ?_
    refine own_s s₁ (mkF m 57 #[rv ob, iv g, rv tx, iv 1, iv 3, iv 1, iv 0, own_j 0, s_, iv 0, u_, u_] [.int (-1)]) (fun t k => XS.iconst X0.here hx rfl (hb hby d5_56) k) ?_
    refine own_s s₁ (mkF m 59 #[rv ob, iv g, rv tx, iv 1, iv 3, iv 1, iv 0, own_j 0, s_, iv 0, iv (-1), u_] []) (fun t k => XS.istore X0.here hx rfl (hb hby d5_57) rfl (l' := #[rv ob, iv g, rv tx, iv 1, iv 3, iv 1, iv 0, own_j 0, s_, iv 0, iv (-1), u_]) rfl k) ?_
    refine own_s s₁ (mkF m 61 #[rv ob, iv g, rv tx, iv 1, iv 3, iv 1, iv 0, own_j 0, s_, iv 0, iv (-1), u_] [.int 1]) (fun t k => XS.iload X0.here hx rfl (hb hby d5_59) rfl k) ?_
    refine own_s s₁ (mkF m 63 #[rv ob, iv g, rv tx, iv 1, iv 3, iv 1, iv 0, own_j 0, s_, iv 0, iv (-1), u_] [.int 3, .int 1]) (fun t k => XS.iload X0.here hx rfl (hb hby d5_61) rfl k) ?_
    refine own_s s₁ (mkF m 66 #[rv ob, iv g, rv tx, iv 1, iv 3, iv 1, iv 0, own_j 0, s_, iv 0, iv (-1), u_] []) (fun t k => XS.icmpNo X0.here hx rfl (hb hby d5_63) rfl (tlt (by decide : ((1 : Int32) < (3 : Int32)))).2.1 k) ?_
    refine own_s s₁ (mkF m 67 #[rv ob, iv g, rv tx, iv 1, iv 3, iv 1, iv 0, own_j 0, s_, iv 0, iv (-1), u_] [.ref tx]) (fun t k => XS.aloadN X0.here hx rfl (hb hby d5_66) rfl rfl k) ?_
    refine own_s s₁ (mkF m 69 #[rv ob, iv g, rv tx, iv 1, iv 3, iv 1, iv 0, own_j 0, s_, iv 0, iv (-1), u_] [.int 1, .ref tx]) (fun t k => XS.iload X0.here hx rfl (hb hby d5_67) rfl k) ?_
    obtain ⟨cl3, Ar3, qa3, S3, M3, H3, U3⟩ := id F_1
    have hi3 := inb_of S3 (j := (1 : Int32)) ⟨by decide, by decide⟩
    have hat3 := H3.at hi3 (v := (.int y1)) rfl
    refine own_s s₁ (mkF m 70 #[rv ob, iv g, rv tx, iv 1, iv 3, iv 1, iv 0, own_j 0, s_, iv 0, iv (-1), u_] [.int y1]) (fun t k => X0.caload hx (j := (1 : Int32)) (v := (.int y1)) (by rw [e0]; exact Ar3.1) (State.isArrayOf_alike hZ.alike Ar3.2.1) Ar3.2.2 hi3 hat3 (g := (mkF m 69 #[rv ob, iv g, rv tx, iv 1, iv 3, iv 1, iv 0, own_j 0, s_, iv 0, iv (-1), u_] [.int 1, .ref tx])) rfl rfl (hb hby d5_69) t k) ?_
    refine own_s s₁ (mkF m 72 #[rv ob, iv g, rv tx, iv 1, iv 3, iv 1, iv 0, own_j 0, s_, iv 0, iv (-1), iv y1] []) (fun t k => XS.istore X0.here hx rfl (hb hby d5_70) rfl (l' := #[rv ob, iv g, rv tx, iv 1, iv 3, iv 1, iv 0, own_j 0, s_, iv 0, iv (-1), iv y1]) rfl k) ?_
    refine own_s s₁ (mkF m 74 #[rv ob, iv g, rv tx, iv 1, iv 3, iv 1, iv 0, own_j 0, s_, iv 0, iv (-1), iv y1] [.int y1]) (fun t k => XS.iload X0.here hx rfl (hb hby d5_72) rfl k) ?_
    refine own_s s₁ (mkF m 76 #[rv ob, iv g, rv tx, iv 1, iv 3, iv 1, iv 0, own_j 0, s_, iv 0, iv (-1), iv y1] [.int 46, .int y1]) (fun t k => XS.bipush X0.here hx rfl (hb hby d5_74) k) ?_
    refine own_s s₁ (mkF m 90 #[rv ob, iv g, rv tx, iv 1, iv 3, iv 1, iv 0, own_j 0, s_, iv 0, iv (-1), iv y1] []) (fun t k => XS.icmpYes X0.here hx rfl (pc0 := 76) (pc' := 90) rfl (hb hby d5_76) rfl (feq (own_dne hd1 (by decide))).2 (by decide) (by decide) k) ?_
    refine own_s s₁ (mkF m 92 #[rv ob, iv g, rv tx, iv 1, iv 3, iv 1, iv 0, own_j 0, s_, iv 0, iv (-1), iv y1] [.int y1]) (fun t k => XS.iload X0.here hx rfl (hb hby d5_90) rfl k) ?_
    refine own_s s₁ (mkF m 94 #[rv ob, iv g, rv tx, iv 1, iv 3, iv 1, iv 0, own_j 0, s_, iv 0, iv (-1), iv y1] [.int 48, .int y1]) (fun t k => XS.bipush X0.here hx rfl (hb hby d5_92) k) ?_
    refine own_s s₁ (mkF m 97 #[rv ob, iv g, rv tx, iv 1, iv 3, iv 1, iv 0, own_j 0, s_, iv 0, iv (-1), iv y1] []) (fun t k => XS.icmpNo X0.here hx rfl (hb hby d5_94) rfl (flt (own_d48 hd1)).1 k) ?_
    refine own_s s₁ (mkF m 99 #[rv ob, iv g, rv tx, iv 1, iv 3, iv 1, iv 0, own_j 0, s_, iv 0, iv (-1), iv y1] [.int y1]) (fun t k => XS.iload X0.here hx rfl (hb hby d5_97) rfl k) ?_
    refine own_s s₁ (mkF m 101 #[rv ob, iv g, rv tx, iv 1, iv 3, iv 1, iv 0, own_j 0, s_, iv 0, iv (-1), iv y1] [.int 57, .int y1]) (fun t k => XS.bipush X0.here hx rfl (hb hby d5_99) k) ?_
    refine own_s s₁ (mkF m 104 #[rv ob, iv g, rv tx, iv 1, iv 3, iv 1, iv 0, own_j 0, s_, iv 0, iv (-1), iv y1] []) (fun t k => XS.icmpNo X0.here hx rfl (hb hby d5_101) rfl (flt (own_d57 hd1)).2.2.1 k) ?_
    refine own_s s₁ (mkF m 106 #[rv ob, iv g, rv tx, iv 1, iv 3, iv 1, iv 0, own_j 0, s_, iv 0, iv (-1), iv y1] [.int 0]) (fun t k => XS.iload X0.here hx rfl (hb hby d5_104) rfl k) ?_
    refine own_s s₁ (mkF m 108 #[rv ob, iv g, rv tx, iv 1, iv 3, iv 1, iv 0, own_j 0, s_, iv 0, iv (-1), iv y1] [.int 18, .int 0]) (fun t k => XS.bipush X0.here hx rfl (hb hby d5_106) k) ?_
    refine own_s s₁ (mkF m 111 #[rv ob, iv g, rv tx, iv 1, iv 3, iv 1, iv 0, own_j 0, s_, iv 0, iv (-1), iv y1] []) (fun t k => XS.icmpNo X0.here hx rfl (hb hby d5_108) rfl (tlt (by decide : ((0 : Int32) < (18 : Int32)))).2.1 k) ?_
    refine own_s s₁ (mkF m 114 #[rv ob, iv g, rv tx, iv 1, iv 3, iv 1, iv 0, own_j 0, s_, iv 0, iv (-1), iv y1] [.long 10]) (X0.ldc2Long hx hown (mvT hZ (hW 30 _ rfl)) (g := (mkF m 111 #[rv ob, iv g, rv tx, iv 1, iv 3, iv 1, iv 0, own_j 0, s_, iv 0, iv (-1), iv y1] [])) rfl (hb hby d5_111)) ?_
    refine own_s s₁ (mkF m 116 #[rv ob, iv g, rv tx, iv 1, iv 3, iv 1, iv 0, own_j 0, s_, iv 0, iv (-1), iv y1] [.long 0, .long 10]) (fun t k => XS.lload X0.here hx rfl (hb hby d5_114) rfl k) ?_
    refine own_s s₁ (mkF m 117 #[rv ob, iv g, rv tx, iv 1, iv 3, iv 1, iv 0, own_j 0, s_, iv 0, iv (-1), iv y1] [.long 0]) (fun t k => XS.lmul X0.here hx rfl (hb hby d5_116) rfl k) ?_
    refine own_s s₁ (mkF m 119 #[rv ob, iv g, rv tx, iv 1, iv 3, iv 1, iv 0, own_j 0, s_, iv 0, iv (-1), iv y1] [.int y1, .long 0]) (fun t k => XS.iload X0.here hx rfl (hb hby d5_117) rfl k) ?_
    refine own_s s₁ (mkF m 121 #[rv ob, iv g, rv tx, iv 1, iv 3, iv 1, iv 0, own_j 0, s_, iv 0, iv (-1), iv y1] [.int 48, .int y1, .long 0]) (fun t k => XS.bipush X0.here hx rfl (hb hby d5_119) k) ?_
    refine own_s s₁ (mkF m 122 #[rv ob, iv g, rv tx, iv 1, iv 3, iv 1, iv 0, own_j 0, s_, iv 0, iv (-1), iv y1] [.int (y1 - (48 : Int32)), .long 0]) (fun t k => XS.isub X0.here hx rfl (hb hby d5_121) rfl k) ?_
    refine own_s s₁ (mkF m 123 #[rv ob, iv g, rv tx, iv 1, iv 3, iv 1, iv 0, own_j 0, s_, iv 0, iv (-1), iv y1] [.long ((y1 - (48 : Int32)).toInt64), .long 0]) (fun t k => XS.i2l X0.here hx rfl (hb hby d5_122) rfl k) ?_
    refine own_s s₁ (mkF m 124 #[rv ob, iv g, rv tx, iv 1, iv 3, iv 1, iv 0, own_j 0, s_, iv 0, iv (-1), iv y1] [.long ((0 : Int64) + ((y1 - (48 : Int32)).toInt64))]) (fun t k => XS.ladd X0.here hx rfl (hb hby d5_123) rfl k) ?_
    refine own_s s₁ (mkF m 129 #[rv ob, iv g, rv tx, iv 1, iv 3, iv 1, iv 0, own_j 0, s_, iv 0, iv (-1), iv y1] [.long ((0 : Int64) + ((y1 - (48 : Int32)).toInt64))]) (fun t k => XS.goto X0.here hx rfl (pc0 := 124) (pc' := 129) rfl (hb hby d5_124) (by decide) (by decide) k) ?_
    generalize hd_uu1 : ((0 : Int64) + ((y1 - (48 : Int32)).toInt64)) = uu1
    refine own_s s₁ (mkF m 131 #[rv ob, iv g, rv tx, iv 1, iv 3, iv 1, iv 0, own_j uu1, s_, iv 0, iv (-1), iv y1] []) (fun t k => XS.lstore X0.here hx rfl (hb hby d5_129) rfl (l' := #[rv ob, iv g, rv tx, iv 1, iv 3, iv 1, iv 0, own_j uu1, s_, iv 0, iv (-1), iv y1]) rfl k) ?_
    refine own_s s₁ (mkF m 134 #[rv ob, iv g, rv tx, iv 1, iv 3, iv 1, iv 0, own_j uu1, s_, iv 1, iv (-1), iv y1] []) (fun t k => XS.iinc X0.here hx rfl (hb hby d5_131) rfl (l' := #[rv ob, iv g, rv tx, iv 1, iv 3, iv 1, iv 0, own_j uu1, s_, iv 1, iv (-1), iv y1]) rfl k) ?_
    refine own_s s₁ (mkF m 136 #[rv ob, iv g, rv tx, iv 1, iv 3, iv 1, iv 0, own_j uu1, s_, iv 1, iv (-1), iv y1] [.int (-1)]) (fun t k => XS.iload X0.here hx rfl (hb hby d5_134) rfl k) ?_
    refine own_s s₁ (mkF m 147 #[rv ob, iv g, rv tx, iv 1, iv 3, iv 1, iv 0, own_j uu1, s_, iv 1, iv (-1), iv y1] []) (fun t k => XS.ifYes X0.here hx rfl (pc0 := 136) (pc' := 147) rfl (hb hby d5_136) rfl ((if0 _ _).trans (tlt (by decide : (((-1) : Int32) < (0 : Int32)))).1) (by decide) (by decide) k) ?_
    refine own_s s₁ (mkF m 150 #[rv ob, iv g, rv tx, iv 1, iv 3, iv 2, iv 0, own_j uu1, s_, iv 1, iv (-1), iv y1] []) (fun t k => XS.iinc X0.here hx rfl (hb hby d5_147) rfl (l' := #[rv ob, iv g, rv tx, iv 1, iv 3, iv 2, iv 0, own_j uu1, s_, iv 1, iv (-1), iv y1]) rfl k) ?_
    refine own_s s₁ (mkF m 59 #[rv ob, iv g, rv tx, iv 1, iv 3, iv 2, iv 0, own_j uu1, s_, iv 1, iv (-1), iv y1] []) (fun t k => XS.goto X0.here hx rfl (pc0 := 150) (pc' := 59) rfl (hb hby d5_150) (by decide) (by decide) k) ?_
    refine own_s s₁ (mkF m 61 #[rv ob, iv g, rv tx, iv 1, iv 3, iv 2, iv 0, own_j uu1, s_, iv 1, iv (-1), iv y1] [.int 2]) (fun t k => XS.iload X0.here hx rfl (hb hby d5_59) rfl k) ?_
    refine own_s s₁ (mkF m 63 #[rv ob, iv g, rv tx, iv 1, iv 3, iv 2, iv 0, own_j uu1, s_, iv 1, iv (-1), iv y1] [.int 3, .int 2]) (fun t k => XS.iload X0.here hx rfl (hb hby d5_61) rfl k) ?_
    refine own_s s₁ (mkF m 66 #[rv ob, iv g, rv tx, iv 1, iv 3, iv 2, iv 0, own_j uu1, s_, iv 1, iv (-1), iv y1] []) (fun t k => XS.icmpNo X0.here hx rfl (hb hby d5_63) rfl (tlt (by decide : ((2 : Int32) < (3 : Int32)))).2.1 k) ?_
    refine own_s s₁ (mkF m 67 #[rv ob, iv g, rv tx, iv 1, iv 3, iv 2, iv 0, own_j uu1, s_, iv 1, iv (-1), iv y1] [.ref tx]) (fun t k => XS.aloadN X0.here hx rfl (hb hby d5_66) rfl rfl k) ?_
    refine own_s s₁ (mkF m 69 #[rv ob, iv g, rv tx, iv 1, iv 3, iv 2, iv 0, own_j uu1, s_, iv 1, iv (-1), iv y1] [.int 2, .ref tx]) (fun t k => XS.iload X0.here hx rfl (hb hby d5_67) rfl k) ?_
    obtain ⟨cl4, Ar4, qa4, S4, M4, H4, U4⟩ := id F_1
    have hi4 := inb_of S4 (j := (2 : Int32)) ⟨by decide, by decide⟩
    have hat4 := H4.at hi4 (v := (.int y2)) rfl
    refine own_s s₁ (mkF m 70 #[rv ob, iv g, rv tx, iv 1, iv 3, iv 2, iv 0, own_j uu1, s_, iv 1, iv (-1), iv y1] [.int y2]) (fun t k => X0.caload hx (j := (2 : Int32)) (v := (.int y2)) (by rw [e0]; exact Ar4.1) (State.isArrayOf_alike hZ.alike Ar4.2.1) Ar4.2.2 hi4 hat4 (g := (mkF m 69 #[rv ob, iv g, rv tx, iv 1, iv 3, iv 2, iv 0, own_j uu1, s_, iv 1, iv (-1), iv y1] [.int 2, .ref tx])) rfl rfl (hb hby d5_69) t k) ?_
    refine own_s s₁ (mkF m 72 #[rv ob, iv g, rv tx, iv 1, iv 3, iv 2, iv 0, own_j uu1, s_, iv 1, iv (-1), iv y2] []) (fun t k => XS.istore X0.here hx rfl (hb hby d5_70) rfl (l' := #[rv ob, iv g, rv tx, iv 1, iv 3, iv 2, iv 0, own_j uu1, s_, iv 1, iv (-1), iv y2]) rfl k) ?_
    refine own_s s₁ (mkF m 74 #[rv ob, iv g, rv tx, iv 1, iv 3, iv 2, iv 0, own_j uu1, s_, iv 1, iv (-1), iv y2] [.int y2]) (fun t k => XS.iload X0.here hx rfl (hb hby d5_72) rfl k) ?_
    refine own_s s₁ (mkF m 76 #[rv ob, iv g, rv tx, iv 1, iv 3, iv 2, iv 0, own_j uu1, s_, iv 1, iv (-1), iv y2] [.int 46, .int y2]) (fun t k => XS.bipush X0.here hx rfl (hb hby d5_74) k) ?_
    refine own_s s₁ (mkF m 90 #[rv ob, iv g, rv tx, iv 1, iv 3, iv 2, iv 0, own_j uu1, s_, iv 1, iv (-1), iv y2] []) (fun t k => XS.icmpYes X0.here hx rfl (pc0 := 76) (pc' := 90) rfl (hb hby d5_76) rfl (feq (own_dne hd2 (by decide))).2 (by decide) (by decide) k) ?_
    refine own_s s₁ (mkF m 92 #[rv ob, iv g, rv tx, iv 1, iv 3, iv 2, iv 0, own_j uu1, s_, iv 1, iv (-1), iv y2] [.int y2]) (fun t k => XS.iload X0.here hx rfl (hb hby d5_90) rfl k) ?_
    refine own_s s₁ (mkF m 94 #[rv ob, iv g, rv tx, iv 1, iv 3, iv 2, iv 0, own_j uu1, s_, iv 1, iv (-1), iv y2] [.int 48, .int y2]) (fun t k => XS.bipush X0.here hx rfl (hb hby d5_92) k) ?_
    refine own_s s₁ (mkF m 97 #[rv ob, iv g, rv tx, iv 1, iv 3, iv 2, iv 0, own_j uu1, s_, iv 1, iv (-1), iv y2] []) (fun t k => XS.icmpNo X0.here hx rfl (hb hby d5_94) rfl (flt (own_d48 hd2)).1 k) ?_
    refine own_s s₁ (mkF m 99 #[rv ob, iv g, rv tx, iv 1, iv 3, iv 2, iv 0, own_j uu1, s_, iv 1, iv (-1), iv y2] [.int y2]) (fun t k => XS.iload X0.here hx rfl (hb hby d5_97) rfl k) ?_
    refine own_s s₁ (mkF m 101 #[rv ob, iv g, rv tx, iv 1, iv 3, iv 2, iv 0, own_j uu1, s_, iv 1, iv (-1), iv y2] [.int 57, .int y2]) (fun t k => XS.bipush X0.here hx rfl (hb hby d5_99) k) ?_
    refine own_s s₁ (mkF m 104 #[rv ob, iv g, rv tx, iv 1, iv 3, iv 2, iv 0, own_j uu1, s_, iv 1, iv (-1), iv y2] []) (fun t k => XS.icmpNo X0.here hx rfl (hb hby d5_101) rfl (flt (own_d57 hd2)).2.2.1 k) ?_
    refine own_s s₁ (mkF m 106 #[rv ob, iv g, rv tx, iv 1, iv 3, iv 2, iv 0, own_j uu1, s_, iv 1, iv (-1), iv y2] [.int 1]) (fun t k => XS.iload X0.here hx rfl (hb hby d5_104) rfl k) ?_
    refine own_s s₁ (mkF m 108 #[rv ob, iv g, rv tx, iv 1, iv 3, iv 2, iv 0, own_j uu1, s_, iv 1, iv (-1), iv y2] [.int 18, .int 1]) (fun t k => XS.bipush X0.here hx rfl (hb hby d5_106) k) ?_
    refine own_s s₁ (mkF m 111 #[rv ob, iv g, rv tx, iv 1, iv 3, iv 2, iv 0, own_j uu1, s_, iv 1, iv (-1), iv y2] []) (fun t k => XS.icmpNo X0.here hx rfl (hb hby d5_108) rfl (tlt (by decide : ((1 : Int32) < (18 : Int32)))).2.1 k) ?_
    refine own_s s₁ (mkF m 114 #[rv ob, iv g, rv tx, iv 1, iv 3, iv 2, iv 0, own_j uu1, s_, iv 1, iv (-1), iv y2] [.long 10]) (X0.ldc2Long hx hown (mvT hZ (hW 30 _ rfl)) (g := (mkF m 111 #[rv ob, iv g, rv tx, iv 1, iv 3, iv 2, iv 0, own_j uu1, s_, iv 1, iv (-1), iv y2] [])) rfl (hb hby d5_111)) ?_
    refine own_s s₁ (mkF m 116 #[rv ob, iv g, rv tx, iv 1, iv 3, iv 2, iv 0, own_j uu1, s_, iv 1, iv (-1), iv y2] [.long uu1, .long 10]) (fun t k => XS.lload X0.here hx rfl (hb hby d5_114) rfl k) ?_
    refine own_s s₁ (mkF m 117 #[rv ob, iv g, rv tx, iv 1, iv 3, iv 2, iv 0, own_j uu1, s_, iv 1, iv (-1), iv y2] [.long ((10 : Int64) * uu1)]) (fun t k => XS.lmul X0.here hx rfl (hb hby d5_116) rfl k) ?_
    refine own_s s₁ (mkF m 119 #[rv ob, iv g, rv tx, iv 1, iv 3, iv 2, iv 0, own_j uu1, s_, iv 1, iv (-1), iv y2] [.int y2, .long ((10 : Int64) * uu1)]) (fun t k => XS.iload X0.here hx rfl (hb hby d5_117) rfl k) ?_
    refine own_s s₁ (mkF m 121 #[rv ob, iv g, rv tx, iv 1, iv 3, iv 2, iv 0, own_j uu1, s_, iv 1, iv (-1), iv y2] [.int 48, .int y2, .long ((10 : Int64) * uu1)]) (fun t k => XS.bipush X0.here hx rfl (hb hby d5_119) k) ?_
    refine own_s s₁ (mkF m 122 #[rv ob, iv g, rv tx, iv 1, iv 3, iv 2, iv 0, own_j uu1, s_, iv 1, iv (-1), iv y2] [.int (y2 - (48 : Int32)), .long ((10 : Int64) * uu1)]) (fun t k => XS.isub X0.here hx rfl (hb hby d5_121) rfl k) ?_
    refine own_s s₁ (mkF m 123 #[rv ob, iv g, rv tx, iv 1, iv 3, iv 2, iv 0, own_j uu1, s_, iv 1, iv (-1), iv y2] [.long ((y2 - (48 : Int32)).toInt64), .long ((10 : Int64) * uu1)]) (fun t k => XS.i2l X0.here hx rfl (hb hby d5_122) rfl k) ?_
    refine own_s s₁ (mkF m 124 #[rv ob, iv g, rv tx, iv 1, iv 3, iv 2, iv 0, own_j uu1, s_, iv 1, iv (-1), iv y2] [.long (((10 : Int64) * uu1) + ((y2 - (48 : Int32)).toInt64))]) (fun t k => XS.ladd X0.here hx rfl (hb hby d5_123) rfl k) ?_
    refine own_s s₁ (mkF m 129 #[rv ob, iv g, rv tx, iv 1, iv 3, iv 2, iv 0, own_j uu1, s_, iv 1, iv (-1), iv y2] [.long (((10 : Int64) * uu1) + ((y2 - (48 : Int32)).toInt64))]) (fun t k => XS.goto X0.here hx rfl (pc0 := 124) (pc' := 129) rfl (hb hby d5_124) (by decide) (by decide) k) ?_
    generalize hd_uu2 : (((10 : Int64) * uu1) + ((y2 - (48 : Int32)).toInt64)) = uu2
    refine own_s s₁ (mkF m 131 #[rv ob, iv g, rv tx, iv 1, iv 3, iv 2, iv 0, own_j uu2, s_, iv 1, iv (-1), iv y2] []) (fun t k => XS.lstore X0.here hx rfl (hb hby d5_129) rfl (l' := #[rv ob, iv g, rv tx, iv 1, iv 3, iv 2, iv 0, own_j uu2, s_, iv 1, iv (-1), iv y2]) rfl k) ?_
    refine own_s s₁ (mkF m 134 #[rv ob, iv g, rv tx, iv 1, iv 3, iv 2, iv 0, own_j uu2, s_, iv 2, iv (-1), iv y2] []) (fun t k => XS.iinc X0.here hx rfl (hb hby d5_131) rfl (l' := #[rv ob, iv g, rv tx, iv 1, iv 3, iv 2, iv 0, own_j uu2, s_, iv 2, iv (-1), iv y2]) rfl k) ?_
    refine own_s s₁ (mkF m 136 #[rv ob, iv g, rv tx, iv 1, iv 3, iv 2, iv 0, own_j uu2, s_, iv 2, iv (-1), iv y2] [.int (-1)]) (fun t k => XS.iload X0.here hx rfl (hb hby d5_134) rfl k) ?_
    refine own_s s₁ (mkF m 147 #[rv ob, iv g, rv tx, iv 1, iv 3, iv 2, iv 0, own_j uu2, s_, iv 2, iv (-1), iv y2] []) (fun t k => XS.ifYes X0.here hx rfl (pc0 := 136) (pc' := 147) rfl (hb hby d5_136) rfl ((if0 _ _).trans (tlt (by decide : (((-1) : Int32) < (0 : Int32)))).1) (by decide) (by decide) k) ?_
    refine own_s s₁ (mkF m 150 #[rv ob, iv g, rv tx, iv 1, iv 3, iv 3, iv 0, own_j uu2, s_, iv 2, iv (-1), iv y2] []) (fun t k => XS.iinc X0.here hx rfl (hb hby d5_147) rfl (l' := #[rv ob, iv g, rv tx, iv 1, iv 3, iv 3, iv 0, own_j uu2, s_, iv 2, iv (-1), iv y2]) rfl k) ?_
    refine own_s s₁ (mkF m 59 #[rv ob, iv g, rv tx, iv 1, iv 3, iv 3, iv 0, own_j uu2, s_, iv 2, iv (-1), iv y2] []) (fun t k => XS.goto X0.here hx rfl (pc0 := 150) (pc' := 59) rfl (hb hby d5_150) (by decide) (by decide) k) ?_
    refine own_s s₁ (mkF m 61 #[rv ob, iv g, rv tx, iv 1, iv 3, iv 3, iv 0, own_j uu2, s_, iv 2, iv (-1), iv y2] [.int 3]) (fun t k => XS.iload X0.here hx rfl (hb hby d5_59) rfl k) ?_
    refine own_s s₁ (mkF m 63 #[rv ob, iv g, rv tx, iv 1, iv 3, iv 3, iv 0, own_j uu2, s_, iv 2, iv (-1), iv y2] [.int 3, .int 3]) (fun t k => XS.iload X0.here hx rfl (hb hby d5_61) rfl k) ?_
    refine own_s s₁ (mkF m 153 #[rv ob, iv g, rv tx, iv 1, iv 3, iv 3, iv 0, own_j uu2, s_, iv 2, iv (-1), iv y2] []) (fun t k => XS.icmpYes X0.here hx rfl (pc0 := 63) (pc' := 153) rfl (hb hby d5_63) rfl (flt (by decide : ¬ ((3 : Int32) < (3 : Int32)))).2.1 (by decide) (by decide) k) ?_
    have huu : uu2 = own_u e1 e2 := by rw [← hd_uu2, ← hd_uu1, own_dsub hd1, own_dsub hd2, Int64.zero_add]; rfl
    refine own_s s₁ (mkF m 155 #[rv ob, iv g, rv tx, iv 1, iv 3, iv 3, iv 0, own_j uu2, s_, iv 2, iv (-1), iv y2] [.int 2]) (fun t k => XS.iload X0.here hx rfl (hb hby d5_153) rfl k) ?_
    refine own_s s₁ (mkF m 160 #[rv ob, iv g, rv tx, iv 1, iv 3, iv 3, iv 0, own_j uu2, s_, iv 2, iv (-1), iv y2] []) (fun t k => XS.ifYes X0.here hx rfl (pc0 := 155) (pc' := 160) rfl (hb hby d5_155) rfl ((if0 _ _).trans (feq (by decide : ¬ ((2 : Int32) = (0 : Int32)))).2) (by decide) (by decide) k) ?_
    refine own_s s₁ (mkF m 162 #[rv ob, iv g, rv tx, iv 1, iv 3, iv 3, iv 0, own_j uu2, s_, iv 2, iv (-1), iv y2] [.int (-1)]) (fun t k => XS.iload X0.here hx rfl (hb hby d5_160) rfl k) ?_
    refine own_s s₁ (mkF m 163 #[rv ob, iv g, rv tx, iv 1, iv 3, iv 3, iv 0, own_j uu2, s_, iv 2, iv (-1), iv y2] [.int 0, .int (-1)]) (fun t k => XS.iconst X0.here hx rfl (hb hby d5_162) k) ?_
    obtain ⟨_, _, ⟨T7, L7, k7, n7⟩, -, X7, ⟨Lc7, hQ7, lq7, yq7, zq7⟩, st7⟩ := Jvm.LawKit.callS X0 hx (y := (⟨"java/lang/Math", "max", "(II)I"⟩ : MethodName)) hown (mvT hZ (hW 31 _ rfl)) (mvT hZ (hW 32 _ rfl)) (mvT hZ (hW 33 _ rfl)) (mvT hZ (hW 34 _ rfl)) (by decide) (backOf (W := 0) (rm_maxlm1 l Z a0 hw []  h0 n0 Z0 ) hZ (hW 34 _ rfl) (hW 33 _ rfl) (by decide) (by decide)) (g := (mkF m 163 #[rv ob, iv g, rv tx, iv 1, iv 3, iv 3, iv 0, own_j uu2, s_, iv 2, iv (-1), iv y2] [.int 0, .int (-1)])) rfl (by rw [hml]; rfl) (argsL := [(.int ((-1) : Int32)), (.int (0 : Int32))]) (rest := []) (lenOf pd_3 rfl) rfl (by show 2 * 0 + _ ≤ _; exact Nat.le_of_eq rfl) (hb hby d5_163) (fun _ _ => ⟨rfl, e0, (by decide : 0 + 0 ≤ _), (by decide : 0 + 0 ≤ _)⟩)
    dsimp only [Pt.U, Pt.locs, Pt.cells, Pt.slots] at X7 lq7 yq7 zq7 st7 hQ7
    subst lq7 yq7 zq7
    obtain ⟨rfl, Nq7, eq6⟩ := hQ7
    have N7 := Fr.app N0 Nq7
    refine own_s T7 (mkF m 166 #[rv ob, iv g, rv tx, iv 1, iv 3, iv 3, iv 0, own_j uu2, s_, iv 2, iv (-1), iv y2] [.int 0]) st7 ?_
    refine own_s T7 (mkF m 168 #[rv ob, iv g, rv tx, iv 1, iv 3, iv 3, iv 0, own_j uu2, s_, iv 2, iv 0, iv y2] []) (fun t k => XS.istore X7.here hx rfl (hb hby d5_166) rfl (l' := #[rv ob, iv g, rv tx, iv 1, iv 3, iv 3, iv 0, own_j uu2, s_, iv 2, iv 0, iv y2]) rfl k) ?_
    refine own_s T7 (mkF m 170 #[rv ob, iv g, rv tx, iv 1, iv 3, iv 3, iv 0, own_j uu2, s_, iv 2, iv 0, iv y2] [.int 2]) (fun t k => XS.iload X7.here hx rfl (hb hby d5_168) rfl k) ?_
    refine own_s T7 (mkF m 172 #[rv ob, iv g, rv tx, iv 1, iv 3, iv 3, iv 0, own_j uu2, s_, iv 2, iv 0, iv y2] [.int 18, .int 2]) (fun t k => XS.bipush X7.here hx rfl (hb hby d5_170) k) ?_
    refine own_s T7 (mkF m 201 #[rv ob, iv g, rv tx, iv 1, iv 3, iv 3, iv 0, own_j uu2, s_, iv 2, iv 0, iv y2] []) (fun t k => XS.icmpYes X7.here hx rfl (pc0 := 172) (pc' := 201) rfl (hb hby d5_172) rfl (flt (by decide : ¬ ((18 : Int32) < (2 : Int32)))).2.2.2 (by decide) (by decide) k) ?_
    refine own_s T7 (mkF m 202 #[rv ob, iv g, rv tx, iv 1, iv 3, iv 3, iv 0, own_j uu2, s_, iv 2, iv 0, iv y2] [.ref ob]) (fun t k => XS.aloadN X7.here hx rfl (hb hby d5_201) rfl rfl k) ?_
    refine own_s T7 (mkF m 203 #[rv ob, iv g, rv tx, iv 1, iv 3, iv 3, iv 0, own_j uu2, s_, iv 2, iv 0, iv y2] [.int g, .ref ob]) (fun t k => XS.iloadN X7.here hx rfl (hb hby d5_202) rfl k) ?_
    refine own_s T7 (mkF m 205 #[rv ob, iv g, rv tx, iv 1, iv 3, iv 3, iv 0, own_j uu2, s_, iv 2, iv 0, iv y2] [.int 0, .int g, .ref ob]) (fun t k => XS.iload X7.here hx rfl (hb hby d5_203) rfl k) ?_
    refine own_s T7 (mkF m 214 #[rv ob, iv g, rv tx, iv 1, iv 3, iv 3, iv 0, own_j uu2, s_, iv 2, iv 0, iv y2] [.int g, .ref ob]) (fun t k => XS.ifYes X7.here hx rfl (pc0 := 205) (pc' := 214) rfl (hb hby d5_205) rfl ((if0 _ _).trans (teq (by decide : ((0 : Int32) = (0 : Int32)))).1) (by decide) (by decide) k) ?_
    refine own_s T7 (mkF m 216 #[rv ob, iv g, rv tx, iv 1, iv 3, iv 3, iv 0, own_j uu2, s_, iv 2, iv 0, iv y2] [.long uu2, .int g, .ref ob]) (fun t k => XS.lload X7.here hx rfl (hb hby d5_214) rfl k) ?_
    refine own_s T7 (mkF m 218 #[rv ob, iv g, rv tx, iv 1, iv 3, iv 3, iv 0, own_j uu2, s_, iv 2, iv 0, iv y2] [.int 0, .long uu2, .int g, .ref ob]) (fun t k => XS.iload X7.here hx rfl (hb hby d5_216) rfl k) ?_
    obtain ⟨cq12, q12a, q12b⟩ := F_0.1.cell
    obtain ⟨_, _, ⟨T11, L11, k11, n11⟩, -, X11, ⟨Lc11, hQ11, lq11, yq11, zq11⟩, st11⟩ := own_privH X7 hx (y := (⟨"com/example/viewlattice/viewlattice/engine/DecimalSums", "addUnscaled", "(IJI)V"⟩ : MethodName)) hown (mvT hZ (hW 35 _ rfl)) (mvT hZ (hW 36 _ rfl)) (mvT hZ (hW 3 _ rfl)) (Cond.privateMethod_at (args := #[]) (mvP hZ (hW 37 _ rfl))) (mvT hZ (hW 38 _ rfl)) (by decide) (backOfWith (W := 0) (rm_au l Z a0 hw [] ob ar kr cap S v0 v1 v2 v3 g uu2 (0 : Int32) pw kp h0 n0 Z0 F_0 O0 hcap hg (own_hs1 hS (Or.inl rfl)) (own_hs2 hS (Or.inl rfl)) (by rw [huu]; exact own_usm hd1 hd2) hv0 hv1 hv2 hv3 S_p V_p) hZ (hW 38 _ rfl) (hW 4 _ rfl) (by decide) (by decide)) (g := (mkF m 218 #[rv ob, iv g, rv tx, iv 1, iv 3, iv 3, iv 0, own_j uu2, s_, iv 2, iv 0, iv y2] [.int 0, .long uu2, .int g, .ref ob])) rfl (by rw [hml]; rfl) (Steps.refl _) (a := ob) (cell := cq12) (by rw [eq6]; exact q12a) q12b (argsL := [(.int g), (.long uu2), (.int (0 : Int32))]) (rest := []) (lenOf pd_4 rfl) rfl (by show 2 * 0 + _ ≤ _; exact Nat.le_of_eq rfl) (hb hby d5_218) (fun _ _ => ⟨rfl, eq6, (by decide : 0 + 1 ≤ _), (by decide : 0 + 4 ≤ _)⟩)
    dsimp only [Pt.U, Pt.locs, Pt.cells, Pt.slots] at X11 lq11 yq11 zq11 st11 hQ11
    subst lq11 yq11 zq11
    obtain ⟨b_8, kb_8, rfl, Nq11, K9, g10, pz9⟩ := hQ11
    have N11 := Fr.app N7 Nq11
    have g13 : Arv Z T11.heap tx kx .char (3 : Int32) [(.int (46 : Int32)), (.int y1), (.int y2)] (.int (0 : Int32)) := F_1.keep K9 (ninS (Ne.symm n_ob_tx) (ninS (Ne.symm n_ar_tx) nin0))
    have Z9 : n0 ≤ T11.heap.size := (Nat.le_trans Z0 K9.1)
    have O9 : Old Z n0 T11.heap := O0.keep K9 (allS (P := fun x => n0 ≤ x) F_0.2.2.2.2.2.1 (allS (P := fun x => n0 ≤ x) F_0.2.2.2.2.2.2 all0))
    have K14 : Keep h0 T11.heap [ob, ar] := K0.trans K9 (allS (P := fun x => x ∈ [ob, ar] ∨ h0.size ≤ x) (Or.inl (List.mem_of_getElem? (i := 0) rfl)) (allS (P := fun x => x ∈ [ob, ar] ∨ h0.size ≤ x) (Or.inl (List.mem_of_getElem? (i := 1) rfl)) all0))
    have nb9_2 : tx ≠ b_8 := fun z => pz9.elim (fun y => (Ne.symm n_ar_tx) (z.trans y)) (fun y => Nat.ne_of_lt (Nat.lt_of_lt_of_le F_1.lt y) z)
    refine own_tr (T' := T11) (g' := (mkF m 221 #[rv ob, iv g, rv tx, iv 1, iv 3, iv 3, iv 0, own_j uu2, s_, iv 2, iv 0, iv y2] [])) st11 ?_
    refine own_s T11 (mkF m 222 #[rv ob, iv g, rv tx, iv 1, iv 3, iv 3, iv 0, own_j uu2, s_, iv 2, iv 0, iv y2] [.int 1]) (fun t k => XS.iconst X11.here hx rfl (hb hby d5_221) k) ?_
    refine own_rN X11 hx hlk Bd.returns (by simp) (hb hby d5_222) ?_ (by decide) (by decide)
    exact ⟨b_8, kb_8, rfl, N11, K14, (by rw [← huu]; exact g10), pz9⟩
  · refine own_cast (g' := (mkF m 0 #[rv ob, iv g, rv tx, iv 0, iv 3, u_, u_, u_, u_, u_, u_, u_] [])) rfl ?_
    refine own_s s₁ (mkF m 1 #[rv ob, iv g, rv tx, iv 0, iv 3, u_, u_, u_, u_, u_, u_, u_] [.int 0]) (fun t k => XS.iloadN X0.here hx rfl (hb hby d5_0) rfl k) ?_
    refine own_s s₁ (mkF m 3 #[rv ob, iv g, rv tx, iv 0, iv 3, iv 0, u_, u_, u_, u_, u_, u_] []) (fun t k => XS.istore X0.here hx rfl (hb hby d5_1) rfl (l' := #[rv ob, iv g, rv tx, iv 0, iv 3, iv 0, u_, u_, u_, u_, u_, u_]) rfl k) ?_
    refine own_s s₁ (mkF m 4 #[rv ob, iv g, rv tx, iv 0, iv 3, iv 0, u_, u_, u_, u_, u_, u_] [.int 0]) (fun t k => XS.iconst X0.here hx rfl (hb hby d5_3) k) ?_
    refine own_s s₁ (mkF m 6 #[rv ob, iv g, rv tx, iv 0, iv 3, iv 0, iv 0, u_, u_, u_, u_, u_] []) (fun t k => XS.istore X0.here hx rfl (hb hby d5_4) rfl (l' := #[rv ob, iv g, rv tx, iv 0, iv 3, iv 0, iv 0, u_, u_, u_, u_, u_]) rfl k) ?_
    refine own_s s₁ (mkF m 8 #[rv ob, iv g, rv tx, iv 0, iv 3, iv 0, iv 0, u_, u_, u_, u_, u_] [.int 0]) (fun t k => XS.iload X0.here hx rfl (hb hby d5_6) rfl k) ?_
    refine own_s s₁ (mkF m 10 #[rv ob, iv g, rv tx, iv 0, iv 3, iv 0, iv 0, u_, u_, u_, u_, u_] [.int 3, .int 0]) (fun t k => XS.iload X0.here hx rfl (hb hby d5_8) rfl k) ?_
    refine own_s s₁ (mkF m 13 #[rv ob, iv g, rv tx, iv 0, iv 3, iv 0, iv 0, u_, u_, u_, u_, u_] []) (fun t k => XS.icmpNo X0.here hx rfl (hb hby d5_10) rfl (tlt (by decide : ((0 : Int32) < (3 : Int32)))).2.1 k) ?_
    refine own_s s₁ (mkF m 14 #[rv ob, iv g, rv tx, iv 0, iv 3, iv 0, iv 0, u_, u_, u_, u_, u_] [.ref tx]) (fun t k => XS.aloadN X0.here hx rfl (hb hby d5_13) rfl rfl k) ?_
    refine own_s s₁ (mkF m 16 #[rv ob, iv g, rv tx, iv 0, iv 3, iv 0, iv 0, u_, u_, u_, u_, u_] [.int 0, .ref tx]) (fun t k => XS.iload X0.here hx rfl (hb hby d5_14) rfl k) ?_
    obtain ⟨cl15, Ar15, qa15, S15, M15, H15, U15⟩ := id F_1
    have hi15 := inb_of S15 (j := (0 : Int32)) ⟨by decide, by decide⟩
    have hat15 := H15.at hi15 (v := (.int (46 : Int32))) rfl
    refine own_s s₁ (mkF m 17 #[rv ob, iv g, rv tx, iv 0, iv 3, iv 0, iv 0, u_, u_, u_, u_, u_] [.int 46]) (fun t k => X0.caload hx (j := (0 : Int32)) (v := (.int (46 : Int32))) (by rw [e0]; exact Ar15.1) (State.isArrayOf_alike hZ.alike Ar15.2.1) Ar15.2.2 hi15 hat15 (g := (mkF m 16 #[rv ob, iv g, rv tx, iv 0, iv 3, iv 0, iv 0, u_, u_, u_, u_, u_] [.int 0, .ref tx])) rfl rfl (hb hby d5_16) t k) ?_
    refine own_s s₁ (mkF m 19 #[rv ob, iv g, rv tx, iv 0, iv 3, iv 0, iv 0, u_, u_, u_, u_, u_] [.int 45, .int 46]) (fun t k => XS.bipush X0.here hx rfl (hb hby d5_17) k) ?_
    refine own_s s₁ (mkF m 22 #[rv ob, iv g, rv tx, iv 0, iv 3, iv 0, iv 0, u_, u_, u_, u_, u_] []) (fun t k => XS.icmpNo X0.here hx rfl (hb hby d5_19) rfl (feq (by decide : ¬ ((46 : Int32) = (45 : Int32)))).1 k) ?_
    refine own_s s₁ (mkF m 23 #[rv ob, iv g, rv tx, iv 0, iv 3, iv 0, iv 0, u_, u_, u_, u_, u_] [.ref tx]) (fun t k => XS.aloadN X0.here hx rfl (hb hby d5_22) rfl rfl k) ?_
    refine own_s s₁ (mkF m 25 #[rv ob, iv g, rv tx, iv 0, iv 3, iv 0, iv 0, u_, u_, u_, u_, u_] [.int 0, .ref tx]) (fun t k => XS.iload X0.here hx rfl (hb hby d5_23) rfl k) ?_
    obtain ⟨cl16, Ar16, qa16, S16, M16, H16, U16⟩ := id F_1
    have hi16 := inb_of S16 (j := (0 : Int32)) ⟨by decide, by decide⟩
    have hat16 := H16.at hi16 (v := (.int (46 : Int32))) rfl
    refine own_s s₁ (mkF m 26 #[rv ob, iv g, rv tx, iv 0, iv 3, iv 0, iv 0, u_, u_, u_, u_, u_] [.int 46]) (fun t k => X0.caload hx (j := (0 : Int32)) (v := (.int (46 : Int32))) (by rw [e0]; exact Ar16.1) (State.isArrayOf_alike hZ.alike Ar16.2.1) Ar16.2.2 hi16 hat16 (g := (mkF m 25 #[rv ob, iv g, rv tx, iv 0, iv 3, iv 0, iv 0, u_, u_, u_, u_, u_] [.int 0, .ref tx])) rfl rfl (hb hby d5_25) t k) ?_
    refine own_s s₁ (mkF m 28 #[rv ob, iv g, rv tx, iv 0, iv 3, iv 0, iv 0, u_, u_, u_, u_, u_] [.int 43, .int 46]) (fun t k => XS.bipush X0.here hx rfl (hb hby d5_26) k) ?_
    refine own_s s₁ (mkF m 50 #[rv ob, iv g, rv tx, iv 0, iv 3, iv 0, iv 0, u_, u_, u_, u_, u_] []) (fun t k => XS.icmpYes X0.here hx rfl (pc0 := 28) (pc' := 50) rfl (hb hby d5_28) rfl (feq (by decide : ¬ ((46 : Int32) = (43 : Int32)))).2 (by decide) (by decide) k) ?_
    refine own_s s₁ (mkF m 51 #[rv ob, iv g, rv tx, iv 0, iv 3, iv 0, iv 0, u_, u_, u_, u_, u_] [.long 0]) (fun t k => XS.lconst X0.here hx rfl (hb hby d5_50) k) ?_
    refine own_s s₁ (mkF m 53 #[rv ob, iv g, rv tx, iv 0, iv 3, iv 0, iv 0, own_j 0, s_, u_, u_, u_] []) (fun t k => XS.lstore X0.here hx rfl (hb hby d5_51) rfl (l' := #[rv ob, iv g, rv tx, iv 0, iv 3, iv 0, iv 0, own_j 0, s_, u_, u_, u_]) rfl k) ?_
    refine own_s s₁ (mkF m 54 #[rv ob, iv g, rv tx, iv 0, iv 3, iv 0, iv 0, own_j 0, s_, u_, u_, u_] [.int 0]) (fun t k => XS.iconst X0.here hx rfl (hb hby d5_53) k) ?_
    refine own_s s₁ (mkF m 56 #[rv ob, iv g, rv tx, iv 0, iv 3, iv 0, iv 0, own_j 0, s_, iv 0, u_, u_] []) (fun t k => XS.istore X0.here hx rfl (hb hby d5_54) rfl (l' := #[rv ob, iv g, rv tx, iv 0, iv 3, iv 0, iv 0, own_j 0, s_, iv 0, u_, u_]) rfl k) ?_
    refine own_s s₁ (mkF m 57 #[rv ob, iv g, rv tx, iv 0, iv 3, iv 0, iv 0, own_j 0, s_, iv 0, u_, u_] [.int (-1)]) (fun t k => XS.iconst X0.here hx rfl (hb hby d5_56) k) ?_
    refine own_s s₁ (mkF m 59 #[rv ob, iv g, rv tx, iv 0, iv 3, iv 0, iv 0, own_j 0, s_, iv 0, iv (-1), u_] []) (fun t k => XS.istore X0.here hx rfl (hb hby d5_57) rfl (l' := #[rv ob, iv g, rv tx, iv 0, iv 3, iv 0, iv 0, own_j 0, s_, iv 0, iv (-1), u_]) rfl k) ?_
    refine own_s s₁ (mkF m 61 #[rv ob, iv g, rv tx, iv 0, iv 3, iv 0, iv 0, own_j 0, s_, iv 0, iv (-1), u_] [.int 0]) (fun t k => XS.iload X0.here hx rfl (hb hby d5_59) rfl k) ?_
    refine own_s s₁ (mkF m 63 #[rv ob, iv g, rv tx, iv 0, iv 3, iv 0, iv 0, own_j 0, s_, iv 0, iv (-1), u_] [.int 3, .int 0]) (fun t k => XS.iload X0.here hx rfl (hb hby d5_61) rfl k) ?_
    refine own_s s₁ (mkF m 66 #[rv ob, iv g, rv tx, iv 0, iv 3, iv 0, iv 0, own_j 0, s_, iv 0, iv (-1), u_] []) (fun t k => XS.icmpNo X0.here hx rfl (hb hby d5_63) rfl (tlt (by decide : ((0 : Int32) < (3 : Int32)))).2.1 k) ?_
    refine own_s s₁ (mkF m 67 #[rv ob, iv g, rv tx, iv 0, iv 3, iv 0, iv 0, own_j 0, s_, iv 0, iv (-1), u_] [.ref tx]) (fun t k => XS.aloadN X0.here hx rfl (hb hby d5_66) rfl rfl k) ?_
    refine own_s s₁ (mkF m 69 #[rv ob, iv g, rv tx, iv 0, iv 3, iv 0, iv 0, own_j 0, s_, iv 0, iv (-1), u_] [.int 0, .ref tx]) (fun t k => XS.iload X0.here hx rfl (hb hby d5_67) rfl k) ?_
    obtain ⟨cl17, Ar17, qa17, S17, M17, H17, U17⟩ := id F_1
    have hi17 := inb_of S17 (j := (0 : Int32)) ⟨by decide, by decide⟩
    have hat17 := H17.at hi17 (v := (.int (46 : Int32))) rfl
    refine own_s s₁ (mkF m 70 #[rv ob, iv g, rv tx, iv 0, iv 3, iv 0, iv 0, own_j 0, s_, iv 0, iv (-1), u_] [.int 46]) (fun t k => X0.caload hx (j := (0 : Int32)) (v := (.int (46 : Int32))) (by rw [e0]; exact Ar17.1) (State.isArrayOf_alike hZ.alike Ar17.2.1) Ar17.2.2 hi17 hat17 (g := (mkF m 69 #[rv ob, iv g, rv tx, iv 0, iv 3, iv 0, iv 0, own_j 0, s_, iv 0, iv (-1), u_] [.int 0, .ref tx])) rfl rfl (hb hby d5_69) t k) ?_
    refine own_s s₁ (mkF m 72 #[rv ob, iv g, rv tx, iv 0, iv 3, iv 0, iv 0, own_j 0, s_, iv 0, iv (-1), iv 46] []) (fun t k => XS.istore X0.here hx rfl (hb hby d5_70) rfl (l' := #[rv ob, iv g, rv tx, iv 0, iv 3, iv 0, iv 0, own_j 0, s_, iv 0, iv (-1), iv 46]) rfl k) ?_
    refine own_s s₁ (mkF m 74 #[rv ob, iv g, rv tx, iv 0, iv 3, iv 0, iv 0, own_j 0, s_, iv 0, iv (-1), iv 46] [.int 46]) (fun t k => XS.iload X0.here hx rfl (hb hby d5_72) rfl k) ?_
    refine own_s s₁ (mkF m 76 #[rv ob, iv g, rv tx, iv 0, iv 3, iv 0, iv 0, own_j 0, s_, iv 0, iv (-1), iv 46] [.int 46, .int 46]) (fun t k => XS.bipush X0.here hx rfl (hb hby d5_74) k) ?_
    refine own_s s₁ (mkF m 79 #[rv ob, iv g, rv tx, iv 0, iv 3, iv 0, iv 0, own_j 0, s_, iv 0, iv (-1), iv 46] []) (fun t k => XS.icmpNo X0.here hx rfl (hb hby d5_76) rfl (teq (by decide : ((46 : Int32) = (46 : Int32)))).2 k) ?_
    refine own_s s₁ (mkF m 81 #[rv ob, iv g, rv tx, iv 0, iv 3, iv 0, iv 0, own_j 0, s_, iv 0, iv (-1), iv 46] [.int (-1)]) (fun t k => XS.iload X0.here hx rfl (hb hby d5_79) rfl k) ?_
    refine own_s s₁ (mkF m 84 #[rv ob, iv g, rv tx, iv 0, iv 3, iv 0, iv 0, own_j 0, s_, iv 0, iv (-1), iv 46] []) (fun t k => XS.ifNo X0.here hx rfl (hb hby d5_81) rfl ((if0 _ _).trans (tlt (by decide : (((-1) : Int32) < (0 : Int32)))).2.1) k) ?_
    refine own_s s₁ (mkF m 85 #[rv ob, iv g, rv tx, iv 0, iv 3, iv 0, iv 0, own_j 0, s_, iv 0, iv (-1), iv 46] [.int 0]) (fun t k => XS.iconst X0.here hx rfl (hb hby d5_84) k) ?_
    refine own_s s₁ (mkF m 87 #[rv ob, iv g, rv tx, iv 0, iv 3, iv 0, iv 0, own_j 0, s_, iv 0, iv 0, iv 46] []) (fun t k => XS.istore X0.here hx rfl (hb hby d5_85) rfl (l' := #[rv ob, iv g, rv tx, iv 0, iv 3, iv 0, iv 0, own_j 0, s_, iv 0, iv 0, iv 46]) rfl k) ?_
    refine own_s s₁ (mkF m 147 #[rv ob, iv g, rv tx, iv 0, iv 3, iv 0, iv 0, own_j 0, s_, iv 0, iv 0, iv 46] []) (fun t k => XS.goto X0.here hx rfl (pc0 := 87) (pc' := 147) rfl (hb hby d5_87) (by decide) (by decide) k) ?_
    refine own_s s₁ (mkF m 150 #[rv ob, iv g, rv tx, iv 0, iv 3, iv 1, iv 0, own_j 0, s_, iv 0, iv 0, iv 46] []) (fun t k => XS.iinc X0.here hx rfl (hb hby d5_147) rfl (l' := #[rv ob, iv g, rv tx, iv 0, iv 3, iv 1, iv 0, own_j 0, s_, iv 0, iv 0, iv 46]) rfl k) ?_
    refine own_s s₁ (mkF m 59 #[rv ob, iv g, rv tx, iv 0, iv 3, iv 1, iv 0, own_j 0, s_, iv 0, iv 0, iv 46] []) (fun t k => XS.goto X0.here hx rfl (pc0 := 150) (pc' := 59) rfl (hb hby d5_150) (by decide) (by decide) k) ?_
    refine own_s s₁ (mkF m 61 #[rv ob, iv g, rv tx, iv 0, iv 3, iv 1, iv 0, own_j 0, s_, iv 0, iv 0, iv 46] [.int 1]) (fun t k => XS.iload X0.here hx rfl (hb hby d5_59) rfl k) ?_
    refine own_s s₁ (mkF m 63 #[rv ob, iv g, rv tx, iv 0, iv 3, iv 1, iv 0, own_j 0, s_, iv 0, iv 0, iv 46] [.int 3, .int 1]) (fun t k => XS.iload X0.here hx rfl (hb hby d5_61) rfl k) ?_
    refine own_s s₁ (mkF m 66 #[rv ob, iv g, rv tx, iv 0, iv 3, iv 1, iv 0, own_j 0, s_, iv 0, iv 0, iv 46] []) (fun t k => XS.icmpNo X0.here hx rfl (hb hby d5_63) rfl (tlt (by decide : ((1 : Int32) < (3 : Int32)))).2.1 k) ?_
    refine own_s s₁ (mkF m 67 #[rv ob, iv g, rv tx, iv 0, iv 3, iv 1, iv 0, own_j 0, s_, iv 0, iv 0, iv 46] [.ref tx]) (fun t k => XS.aloadN X0.here hx rfl (hb hby d5_66) rfl rfl k) ?_
    refine own_s s₁ (mkF m 69 #[rv ob, iv g, rv tx, iv 0, iv 3, iv 1, iv 0, own_j 0, s_, iv 0, iv 0, iv 46] [.int 1, .ref tx]) (fun t k => XS.iload X0.here hx rfl (hb hby d5_67) rfl k) ?_
    obtain ⟨cl18, Ar18, qa18, S18, M18, H18, U18⟩ := id F_1
    have hi18 := inb_of S18 (j := (1 : Int32)) ⟨by decide, by decide⟩
    have hat18 := H18.at hi18 (v := (.int y1)) rfl
    refine own_s s₁ (mkF m 70 #[rv ob, iv g, rv tx, iv 0, iv 3, iv 1, iv 0, own_j 0, s_, iv 0, iv 0, iv 46] [.int y1]) (fun t k => X0.caload hx (j := (1 : Int32)) (v := (.int y1)) (by rw [e0]; exact Ar18.1) (State.isArrayOf_alike hZ.alike Ar18.2.1) Ar18.2.2 hi18 hat18 (g := (mkF m 69 #[rv ob, iv g, rv tx, iv 0, iv 3, iv 1, iv 0, own_j 0, s_, iv 0, iv 0, iv 46] [.int 1, .ref tx])) rfl rfl (hb hby d5_69) t k) ?_
    refine own_s s₁ (mkF m 72 #[rv ob, iv g, rv tx, iv 0, iv 3, iv 1, iv 0, own_j 0, s_, iv 0, iv 0, iv y1] []) (fun t k => XS.istore X0.here hx rfl (hb hby d5_70) rfl (l' := #[rv ob, iv g, rv tx, iv 0, iv 3, iv 1, iv 0, own_j 0, s_, iv 0, iv 0, iv y1]) rfl k) ?_
    refine own_s s₁ (mkF m 74 #[rv ob, iv g, rv tx, iv 0, iv 3, iv 1, iv 0, own_j 0, s_, iv 0, iv 0, iv y1] [.int y1]) (fun t k => XS.iload X0.here hx rfl (hb hby d5_72) rfl k) ?_
    refine own_s s₁ (mkF m 76 #[rv ob, iv g, rv tx, iv 0, iv 3, iv 1, iv 0, own_j 0, s_, iv 0, iv 0, iv y1] [.int 46, .int y1]) (fun t k => XS.bipush X0.here hx rfl (hb hby d5_74) k) ?_
    refine own_s s₁ (mkF m 90 #[rv ob, iv g, rv tx, iv 0, iv 3, iv 1, iv 0, own_j 0, s_, iv 0, iv 0, iv y1] []) (fun t k => XS.icmpYes X0.here hx rfl (pc0 := 76) (pc' := 90) rfl (hb hby d5_76) rfl (feq (own_dne hd1 (by decide))).2 (by decide) (by decide) k) ?_
    refine own_s s₁ (mkF m 92 #[rv ob, iv g, rv tx, iv 0, iv 3, iv 1, iv 0, own_j 0, s_, iv 0, iv 0, iv y1] [.int y1]) (fun t k => XS.iload X0.here hx rfl (hb hby d5_90) rfl k) ?_
    refine own_s s₁ (mkF m 94 #[rv ob, iv g, rv tx, iv 0, iv 3, iv 1, iv 0, own_j 0, s_, iv 0, iv 0, iv y1] [.int 48, .int y1]) (fun t k => XS.bipush X0.here hx rfl (hb hby d5_92) k) ?_
    refine own_s s₁ (mkF m 97 #[rv ob, iv g, rv tx, iv 0, iv 3, iv 1, iv 0, own_j 0, s_, iv 0, iv 0, iv y1] []) (fun t k => XS.icmpNo X0.here hx rfl (hb hby d5_94) rfl (flt (own_d48 hd1)).1 k) ?_
    refine own_s s₁ (mkF m 99 #[rv ob, iv g, rv tx, iv 0, iv 3, iv 1, iv 0, own_j 0, s_, iv 0, iv 0, iv y1] [.int y1]) (fun t k => XS.iload X0.here hx rfl (hb hby d5_97) rfl k) ?_
    refine own_s s₁ (mkF m 101 #[rv ob, iv g, rv tx, iv 0, iv 3, iv 1, iv 0, own_j 0, s_, iv 0, iv 0, iv y1] [.int 57, .int y1]) (fun t k => XS.bipush X0.here hx rfl (hb hby d5_99) k) ?_
    refine own_s s₁ (mkF m 104 #[rv ob, iv g, rv tx, iv 0, iv 3, iv 1, iv 0, own_j 0, s_, iv 0, iv 0, iv y1] []) (fun t k => XS.icmpNo X0.here hx rfl (hb hby d5_101) rfl (flt (own_d57 hd1)).2.2.1 k) ?_
    refine own_s s₁ (mkF m 106 #[rv ob, iv g, rv tx, iv 0, iv 3, iv 1, iv 0, own_j 0, s_, iv 0, iv 0, iv y1] [.int 0]) (fun t k => XS.iload X0.here hx rfl (hb hby d5_104) rfl k) ?_
    refine own_s s₁ (mkF m 108 #[rv ob, iv g, rv tx, iv 0, iv 3, iv 1, iv 0, own_j 0, s_, iv 0, iv 0, iv y1] [.int 18, .int 0]) (fun t k => XS.bipush X0.here hx rfl (hb hby d5_106) k) ?_
    refine own_s s₁ (mkF m 111 #[rv ob, iv g, rv tx, iv 0, iv 3, iv 1, iv 0, own_j 0, s_, iv 0, iv 0, iv y1] []) (fun t k => XS.icmpNo X0.here hx rfl (hb hby d5_108) rfl (tlt (by decide : ((0 : Int32) < (18 : Int32)))).2.1 k) ?_
    refine own_s s₁ (mkF m 114 #[rv ob, iv g, rv tx, iv 0, iv 3, iv 1, iv 0, own_j 0, s_, iv 0, iv 0, iv y1] [.long 10]) (X0.ldc2Long hx hown (mvT hZ (hW 30 _ rfl)) (g := (mkF m 111 #[rv ob, iv g, rv tx, iv 0, iv 3, iv 1, iv 0, own_j 0, s_, iv 0, iv 0, iv y1] [])) rfl (hb hby d5_111)) ?_
    refine own_s s₁ (mkF m 116 #[rv ob, iv g, rv tx, iv 0, iv 3, iv 1, iv 0, own_j 0, s_, iv 0, iv 0, iv y1] [.long 0, .long 10]) (fun t k => XS.lload X0.here hx rfl (hb hby d5_114) rfl k) ?_
    refine own_s s₁ (mkF m 117 #[rv ob, iv g, rv tx, iv 0, iv 3, iv 1, iv 0, own_j 0, s_, iv 0, iv 0, iv y1] [.long 0]) (fun t k => XS.lmul X0.here hx rfl (hb hby d5_116) rfl k) ?_
    refine own_s s₁ (mkF m 119 #[rv ob, iv g, rv tx, iv 0, iv 3, iv 1, iv 0, own_j 0, s_, iv 0, iv 0, iv y1] [.int y1, .long 0]) (fun t k => XS.iload X0.here hx rfl (hb hby d5_117) rfl k) ?_
    refine own_s s₁ (mkF m 121 #[rv ob, iv g, rv tx, iv 0, iv 3, iv 1, iv 0, own_j 0, s_, iv 0, iv 0, iv y1] [.int 48, .int y1, .long 0]) (fun t k => XS.bipush X0.here hx rfl (hb hby d5_119) k) ?_
    refine own_s s₁ (mkF m 122 #[rv ob, iv g, rv tx, iv 0, iv 3, iv 1, iv 0, own_j 0, s_, iv 0, iv 0, iv y1] [.int (y1 - (48 : Int32)), .long 0]) (fun t k => XS.isub X0.here hx rfl (hb hby d5_121) rfl k) ?_
    refine own_s s₁ (mkF m 123 #[rv ob, iv g, rv tx, iv 0, iv 3, iv 1, iv 0, own_j 0, s_, iv 0, iv 0, iv y1] [.long ((y1 - (48 : Int32)).toInt64), .long 0]) (fun t k => XS.i2l X0.here hx rfl (hb hby d5_122) rfl k) ?_
    refine own_s s₁ (mkF m 124 #[rv ob, iv g, rv tx, iv 0, iv 3, iv 1, iv 0, own_j 0, s_, iv 0, iv 0, iv y1] [.long ((0 : Int64) + ((y1 - (48 : Int32)).toInt64))]) (fun t k => XS.ladd X0.here hx rfl (hb hby d5_123) rfl k) ?_
    refine own_s s₁ (mkF m 129 #[rv ob, iv g, rv tx, iv 0, iv 3, iv 1, iv 0, own_j 0, s_, iv 0, iv 0, iv y1] [.long ((0 : Int64) + ((y1 - (48 : Int32)).toInt64))]) (fun t k => XS.goto X0.here hx rfl (pc0 := 124) (pc' := 129) rfl (hb hby d5_124) (by decide) (by decide) k) ?_
    generalize hd_uu1 : ((0 : Int64) + ((y1 - (48 : Int32)).toInt64)) = uu1
    refine own_s s₁ (mkF m 131 #[rv ob, iv g, rv tx, iv 0, iv 3, iv 1, iv 0, own_j uu1, s_, iv 0, iv 0, iv y1] []) (fun t k => XS.lstore X0.here hx rfl (hb hby d5_129) rfl (l' := #[rv ob, iv g, rv tx, iv 0, iv 3, iv 1, iv 0, own_j uu1, s_, iv 0, iv 0, iv y1]) rfl k) ?_
    refine own_s s₁ (mkF m 134 #[rv ob, iv g, rv tx, iv 0, iv 3, iv 1, iv 0, own_j uu1, s_, iv 1, iv 0, iv y1] []) (fun t k => XS.iinc X0.here hx rfl (hb hby d5_131) rfl (l' := #[rv ob, iv g, rv tx, iv 0, iv 3, iv 1, iv 0, own_j uu1, s_, iv 1, iv 0, iv y1]) rfl k) ?_
    refine own_s s₁ (mkF m 136 #[rv ob, iv g, rv tx, iv 0, iv 3, iv 1, iv 0, own_j uu1, s_, iv 1, iv 0, iv y1] [.int 0]) (fun t k => XS.iload X0.here hx rfl (hb hby d5_134) rfl k) ?_
    refine own_s s₁ (mkF m 139 #[rv ob, iv g, rv tx, iv 0, iv 3, iv 1, iv 0, own_j uu1, s_, iv 1, iv 0, iv y1] []) (fun t k => XS.ifNo X0.here hx rfl (hb hby d5_136) rfl ((if0 _ _).trans (flt (by decide : ¬ ((0 : Int32) < (0 : Int32)))).1) k) ?_
    refine own_s s₁ (mkF m 142 #[rv ob, iv g, rv tx, iv 0, iv 3, iv 1, iv 0, own_j uu1, s_, iv 1, iv 1, iv y1] []) (fun t k => XS.iinc X0.here hx rfl (hb hby d5_139) rfl (l' := #[rv ob, iv g, rv tx, iv 0, iv 3, iv 1, iv 0, own_j uu1, s_, iv 1, iv 1, iv y1]) rfl k) ?_
    refine own_s s₁ (mkF m 147 #[rv ob, iv g, rv tx, iv 0, iv 3, iv 1, iv 0, own_j uu1, s_, iv 1, iv 1, iv y1] []) (fun t k => XS.goto X0.here hx rfl (pc0 := 142) (pc' := 147) rfl (hb hby d5_142) (by decide) (by decide) k) ?_
    refine own_s s₁ (mkF m 150 #[rv ob, iv g, rv tx, iv 0, iv 3, iv 2, iv 0, own_j uu1, s_, iv 1, iv 1, iv y1] []) (fun t k => XS.iinc X0.here hx rfl (hb hby d5_147) rfl (l' := #[rv ob, iv g, rv tx, iv 0, iv 3, iv 2, iv 0, own_j uu1, s_, iv 1, iv 1, iv y1]) rfl k) ?_
    refine own_s s₁ (mkF m 59 #[rv ob, iv g, rv tx, iv 0, iv 3, iv 2, iv 0, own_j uu1, s_, iv 1, iv 1, iv y1] []) (fun t k => XS.goto X0.here hx rfl (pc0 := 150) (pc' := 59) rfl (hb hby d5_150) (by decide) (by decide) k) ?_
    refine own_s s₁ (mkF m 61 #[rv ob, iv g, rv tx, iv 0, iv 3, iv 2, iv 0, own_j uu1, s_, iv 1, iv 1, iv y1] [.int 2]) (fun t k => XS.iload X0.here hx rfl (hb hby d5_59) rfl k) ?_
    refine own_s s₁ (mkF m 63 #[rv ob, iv g, rv tx, iv 0, iv 3, iv 2, iv 0, own_j uu1, s_, iv 1, iv 1, iv y1] [.int 3, .int 2]) (fun t k => XS.iload X0.here hx rfl (hb hby d5_61) rfl k) ?_
    refine own_s s₁ (mkF m 66 #[rv ob, iv g, rv tx, iv 0, iv 3, iv 2, iv 0, own_j uu1, s_, iv 1, iv 1, iv y1] []) (fun t k => XS.icmpNo X0.here hx rfl (hb hby d5_63) rfl (tlt (by decide : ((2 : Int32) < (3 : Int32)))).2.1 k) ?_
    refine own_s s₁ (mkF m 67 #[rv ob, iv g, rv tx, iv 0, iv 3, iv 2, iv 0, own_j uu1, s_, iv 1, iv 1, iv y1] [.ref tx]) (fun t k => XS.aloadN X0.here hx rfl (hb hby d5_66) rfl rfl k) ?_
    refine own_s s₁ (mkF m 69 #[rv ob, iv g, rv tx, iv 0, iv 3, iv 2, iv 0, own_j uu1, s_, iv 1, iv 1, iv y1] [.int 2, .ref tx]) (fun t k => XS.iload X0.here hx rfl (hb hby d5_67) rfl k) ?_
    obtain ⟨cl19, Ar19, qa19, S19, M19, H19, U19⟩ := id F_1
    have hi19 := inb_of S19 (j := (2 : Int32)) ⟨by decide, by decide⟩
    have hat19 := H19.at hi19 (v := (.int y2)) rfl
    refine own_s s₁ (mkF m 70 #[rv ob, iv g, rv tx, iv 0, iv 3, iv 2, iv 0, own_j uu1, s_, iv 1, iv 1, iv y1] [.int y2]) (fun t k => X0.caload hx (j := (2 : Int32)) (v := (.int y2)) (by rw [e0]; exact Ar19.1) (State.isArrayOf_alike hZ.alike Ar19.2.1) Ar19.2.2 hi19 hat19 (g := (mkF m 69 #[rv ob, iv g, rv tx, iv 0, iv 3, iv 2, iv 0, own_j uu1, s_, iv 1, iv 1, iv y1] [.int 2, .ref tx])) rfl rfl (hb hby d5_69) t k) ?_
    refine own_s s₁ (mkF m 72 #[rv ob, iv g, rv tx, iv 0, iv 3, iv 2, iv 0, own_j uu1, s_, iv 1, iv 1, iv y2] []) (fun t k => XS.istore X0.here hx rfl (hb hby d5_70) rfl (l' := #[rv ob, iv g, rv tx, iv 0, iv 3, iv 2, iv 0, own_j uu1, s_, iv 1, iv 1, iv y2]) rfl k) ?_
    refine own_s s₁ (mkF m 74 #[rv ob, iv g, rv tx, iv 0, iv 3, iv 2, iv 0, own_j uu1, s_, iv 1, iv 1, iv y2] [.int y2]) (fun t k => XS.iload X0.here hx rfl (hb hby d5_72) rfl k) ?_
    refine own_s s₁ (mkF m 76 #[rv ob, iv g, rv tx, iv 0, iv 3, iv 2, iv 0, own_j uu1, s_, iv 1, iv 1, iv y2] [.int 46, .int y2]) (fun t k => XS.bipush X0.here hx rfl (hb hby d5_74) k) ?_
    refine own_s s₁ (mkF m 90 #[rv ob, iv g, rv tx, iv 0, iv 3, iv 2, iv 0, own_j uu1, s_, iv 1, iv 1, iv y2] []) (fun t k => XS.icmpYes X0.here hx rfl (pc0 := 76) (pc' := 90) rfl (hb hby d5_76) rfl (feq (own_dne hd2 (by decide))).2 (by decide) (by decide) k) ?_
    refine own_s s₁ (mkF m 92 #[rv ob, iv g, rv tx, iv 0, iv 3, iv 2, iv 0, own_j uu1, s_, iv 1, iv 1, iv y2] [.int y2]) (fun t k => XS.iload X0.here hx rfl (hb hby d5_90) rfl k) ?_
    refine own_s s₁ (mkF m 94 #[rv ob, iv g, rv tx, iv 0, iv 3, iv 2, iv 0, own_j uu1, s_, iv 1, iv 1, iv y2] [.int 48, .int y2]) (fun t k => XS.bipush X0.here hx rfl (hb hby d5_92) k) ?_
    refine own_s s₁ (mkF m 97 #[rv ob, iv g, rv tx, iv 0, iv 3, iv 2, iv 0, own_j uu1, s_, iv 1, iv 1, iv y2] []) (fun t k => XS.icmpNo X0.here hx rfl (hb hby d5_94) rfl (flt (own_d48 hd2)).1 k) ?_
    refine own_s s₁ (mkF m 99 #[rv ob, iv g, rv tx, iv 0, iv 3, iv 2, iv 0, own_j uu1, s_, iv 1, iv 1, iv y2] [.int y2]) (fun t k => XS.iload X0.here hx rfl (hb hby d5_97) rfl k) ?_
    refine own_s s₁ (mkF m 101 #[rv ob, iv g, rv tx, iv 0, iv 3, iv 2, iv 0, own_j uu1, s_, iv 1, iv 1, iv y2] [.int 57, .int y2]) (fun t k => XS.bipush X0.here hx rfl (hb hby d5_99) k) ?_
    refine own_s s₁ (mkF m 104 #[rv ob, iv g, rv tx, iv 0, iv 3, iv 2, iv 0, own_j uu1, s_, iv 1, iv 1, iv y2] []) (fun t k => XS.icmpNo X0.here hx rfl (hb hby d5_101) rfl (flt (own_d57 hd2)).2.2.1 k) ?_
    refine own_s s₁ (mkF m 106 #[rv ob, iv g, rv tx, iv 0, iv 3, iv 2, iv 0, own_j uu1, s_, iv 1, iv 1, iv y2] [.int 1]) (fun t k => XS.iload X0.here hx rfl (hb hby d5_104) rfl k) ?_
    refine own_s s₁ (mkF m 108 #[rv ob, iv g, rv tx, iv 0, iv 3, iv 2, iv 0, own_j uu1, s_, iv 1, iv 1, iv y2] [.int 18, .int 1]) (fun t k => XS.bipush X0.here hx rfl (hb hby d5_106) k) ?_
    refine own_s s₁ (mkF m 111 #[rv ob, iv g, rv tx, iv 0, iv 3, iv 2, iv 0, own_j uu1, s_, iv 1, iv 1, iv y2] []) (fun t k => XS.icmpNo X0.here hx rfl (hb hby d5_108) rfl (tlt (by decide : ((1 : Int32) < (18 : Int32)))).2.1 k) ?_
    refine own_s s₁ (mkF m 114 #[rv ob, iv g, rv tx, iv 0, iv 3, iv 2, iv 0, own_j uu1, s_, iv 1, iv 1, iv y2] [.long 10]) (X0.ldc2Long hx hown (mvT hZ (hW 30 _ rfl)) (g := (mkF m 111 #[rv ob, iv g, rv tx, iv 0, iv 3, iv 2, iv 0, own_j uu1, s_, iv 1, iv 1, iv y2] [])) rfl (hb hby d5_111)) ?_
    refine own_s s₁ (mkF m 116 #[rv ob, iv g, rv tx, iv 0, iv 3, iv 2, iv 0, own_j uu1, s_, iv 1, iv 1, iv y2] [.long uu1, .long 10]) (fun t k => XS.lload X0.here hx rfl (hb hby d5_114) rfl k) ?_
    refine own_s s₁ (mkF m 117 #[rv ob, iv g, rv tx, iv 0, iv 3, iv 2, iv 0, own_j uu1, s_, iv 1, iv 1, iv y2] [.long ((10 : Int64) * uu1)]) (fun t k => XS.lmul X0.here hx rfl (hb hby d5_116) rfl k) ?_
    refine own_s s₁ (mkF m 119 #[rv ob, iv g, rv tx, iv 0, iv 3, iv 2, iv 0, own_j uu1, s_, iv 1, iv 1, iv y2] [.int y2, .long ((10 : Int64) * uu1)]) (fun t k => XS.iload X0.here hx rfl (hb hby d5_117) rfl k) ?_
    refine own_s s₁ (mkF m 121 #[rv ob, iv g, rv tx, iv 0, iv 3, iv 2, iv 0, own_j uu1, s_, iv 1, iv 1, iv y2] [.int 48, .int y2, .long ((10 : Int64) * uu1)]) (fun t k => XS.bipush X0.here hx rfl (hb hby d5_119) k) ?_
    refine own_s s₁ (mkF m 122 #[rv ob, iv g, rv tx, iv 0, iv 3, iv 2, iv 0, own_j uu1, s_, iv 1, iv 1, iv y2] [.int (y2 - (48 : Int32)), .long ((10 : Int64) * uu1)]) (fun t k => XS.isub X0.here hx rfl (hb hby d5_121) rfl k) ?_
    refine own_s s₁ (mkF m 123 #[rv ob, iv g, rv tx, iv 0, iv 3, iv 2, iv 0, own_j uu1, s_, iv 1, iv 1, iv y2] [.long ((y2 - (48 : Int32)).toInt64), .long ((10 : Int64) * uu1)]) (fun t k => XS.i2l X0.here hx rfl (hb hby d5_122) rfl k) ?_
    refine own_s s₁ (mkF m 124 #[rv ob, iv g, rv tx, iv 0, iv 3, iv 2, iv 0, own_j uu1, s_, iv 1, iv 1, iv y2] [.long (((10 : Int64) * uu1) + ((y2 - (48 : Int32)).toInt64))]) (fun t k => XS.ladd X0.here hx rfl (hb hby d5_123) rfl k) ?_
    refine own_s s₁ (mkF m 129 #[rv ob, iv g, rv tx, iv 0, iv 3, iv 2, iv 0, own_j uu1, s_, iv 1, iv 1, iv y2] [.long (((10 : Int64) * uu1) + ((y2 - (48 : Int32)).toInt64))]) (fun t k => XS.goto X0.here hx rfl (pc0 := 124) (pc' := 129) rfl (hb hby d5_124) (by decide) (by decide) k) ?_
    generalize hd_uu2 : (((10 : Int64) * uu1) + ((y2 - (48 : Int32)).toInt64)) = uu2
    refine own_s s₁ (mkF m 131 #[rv ob, iv g, rv tx, iv 0, iv 3, iv 2, iv 0, own_j uu2, s_, iv 1, iv 1, iv y2] []) (fun t k => XS.lstore X0.here hx rfl (hb hby d5_129) rfl (l' := #[rv ob, iv g, rv tx, iv 0, iv 3, iv 2, iv 0, own_j uu2, s_, iv 1, iv 1, iv y2]) rfl k) ?_
    refine own_s s₁ (mkF m 134 #[rv ob, iv g, rv tx, iv 0, iv 3, iv 2, iv 0, own_j uu2, s_, iv 2, iv 1, iv y2] []) (fun t k => XS.iinc X0.here hx rfl (hb hby d5_131) rfl (l' := #[rv ob, iv g, rv tx, iv 0, iv 3, iv 2, iv 0, own_j uu2, s_, iv 2, iv 1, iv y2]) rfl k) ?_
    refine own_s s₁ (mkF m 136 #[rv ob, iv g, rv tx, iv 0, iv 3, iv 2, iv 0, own_j uu2, s_, iv 2, iv 1, iv y2] [.int 1]) (fun t k => XS.iload X0.here hx rfl (hb hby d5_134) rfl k) ?_
    refine own_s s₁ (mkF m 139 #[rv ob, iv g, rv tx, iv 0, iv 3, iv 2, iv 0, own_j uu2, s_, iv 2, iv 1, iv y2] []) (fun t k => XS.ifNo X0.here hx rfl (hb hby d5_136) rfl ((if0 _ _).trans (flt (by decide : ¬ ((1 : Int32) < (0 : Int32)))).1) k) ?_
    refine own_s s₁ (mkF m 142 #[rv ob, iv g, rv tx, iv 0, iv 3, iv 2, iv 0, own_j uu2, s_, iv 2, iv 2, iv y2] []) (fun t k => XS.iinc X0.here hx rfl (hb hby d5_139) rfl (l' := #[rv ob, iv g, rv tx, iv 0, iv 3, iv 2, iv 0, own_j uu2, s_, iv 2, iv 2, iv y2]) rfl k) ?_
    refine own_s s₁ (mkF m 147 #[rv ob, iv g, rv tx, iv 0, iv 3, iv 2, iv 0, own_j uu2, s_, iv 2, iv 2, iv y2] []) (fun t k => XS.goto X0.here hx rfl (pc0 := 142) (pc' := 147) rfl (hb hby d5_142) (by decide) (by decide) k) ?_
    refine own_s s₁ (mkF m 150 #[rv ob, iv g, rv tx, iv 0, iv 3, iv 3, iv 0, own_j uu2, s_, iv 2, iv 2, iv y2] []) (fun t k => XS.iinc X0.here hx rfl (hb hby d5_147) rfl (l' := #[rv ob, iv g, rv tx, iv 0, iv 3, iv 3, iv 0, own_j uu2, s_, iv 2, iv 2, iv y2]) rfl k) ?_
    refine own_s s₁ (mkF m 59 #[rv ob, iv g, rv tx, iv 0, iv 3, iv 3, iv 0, own_j uu2, s_, iv 2, iv 2, iv y2] []) (fun t k => XS.goto X0.here hx rfl (pc0 := 150) (pc' := 59) rfl (hb hby d5_150) (by decide) (by decide) k) ?_
    refine own_s s₁ (mkF m 61 #[rv ob, iv g, rv tx, iv 0, iv 3, iv 3, iv 0, own_j uu2, s_, iv 2, iv 2, iv y2] [.int 3]) (fun t k => XS.iload X0.here hx rfl (hb hby d5_59) rfl k) ?_
    refine own_s s₁ (mkF m 63 #[rv ob, iv g, rv tx, iv 0, iv 3, iv 3, iv 0, own_j uu2, s_, iv 2, iv 2, iv y2] [.int 3, .int 3]) (fun t k => XS.iload X0.here hx rfl (hb hby d5_61) rfl k) ?_
    refine own_s s₁ (mkF m 153 #[rv ob, iv g, rv tx, iv 0, iv 3, iv 3, iv 0, own_j uu2, s_, iv 2, iv 2, iv y2] []) (fun t k => XS.icmpYes X0.here hx rfl (pc0 := 63) (pc' := 153) rfl (hb hby d5_63) rfl (flt (by decide : ¬ ((3 : Int32) < (3 : Int32)))).2.1 (by decide) (by decide) k) ?_
    have huu : uu2 = own_u e1 e2 := by rw [← hd_uu2, ← hd_uu1, own_dsub hd1, own_dsub hd2, Int64.zero_add]; rfl
    refine own_s s₁ (mkF m 155 #[rv ob, iv g, rv tx, iv 0, iv 3, iv 3, iv 0, own_j uu2, s_, iv 2, iv 2, iv y2] [.int 2]) (fun t k => XS.iload X0.here hx rfl (hb hby d5_153) rfl k) ?_
    refine own_s s₁ (mkF m 160 #[rv ob, iv g, rv tx, iv 0, iv 3, iv 3, iv 0, own_j uu2, s_, iv 2, iv 2, iv y2] []) (fun t k => XS.ifYes X0.here hx rfl (pc0 := 155) (pc' := 160) rfl (hb hby d5_155) rfl ((if0 _ _).trans (feq (by decide : ¬ ((2 : Int32) = (0 : Int32)))).2) (by decide) (by decide) k) ?_
    refine own_s s₁ (mkF m 162 #[rv ob, iv g, rv tx, iv 0, iv 3, iv 3, iv 0, own_j uu2, s_, iv 2, iv 2, iv y2] [.int 2]) (fun t k => XS.iload X0.here hx rfl (hb hby d5_160) rfl k) ?_
    refine own_s s₁ (mkF m 163 #[rv ob, iv g, rv tx, iv 0, iv 3, iv 3, iv 0, own_j uu2, s_, iv 2, iv 2, iv y2] [.int 0, .int 2]) (fun t k => XS.iconst X0.here hx rfl (hb hby d5_162) k) ?_
    obtain ⟨_, _, ⟨T22, L22, k22, n22⟩, -, X22, ⟨Lc22, hQ22, lq22, yq22, zq22⟩, st22⟩ := Jvm.LawKit.callS X0 hx (y := (⟨"java/lang/Math", "max", "(II)I"⟩ : MethodName)) hown (mvT hZ (hW 31 _ rfl)) (mvT hZ (hW 32 _ rfl)) (mvT hZ (hW 33 _ rfl)) (mvT hZ (hW 34 _ rfl)) (by decide) (backOf (W := 0) (rm_maxl2 l Z a0 hw []  h0 n0 Z0 ) hZ (hW 34 _ rfl) (hW 33 _ rfl) (by decide) (by decide)) (g := (mkF m 163 #[rv ob, iv g, rv tx, iv 0, iv 3, iv 3, iv 0, own_j uu2, s_, iv 2, iv 2, iv y2] [.int 0, .int 2])) rfl (by rw [hml]; rfl) (argsL := [(.int (2 : Int32)), (.int (0 : Int32))]) (rest := []) (lenOf pd_3 rfl) rfl (by show 2 * 0 + _ ≤ _; exact Nat.le_of_eq rfl) (hb hby d5_163) (fun _ _ => ⟨rfl, e0, (by decide : 0 + 0 ≤ _), (by decide : 0 + 0 ≤ _)⟩)
    dsimp only [Pt.U, Pt.locs, Pt.cells, Pt.slots] at X22 lq22 yq22 zq22 st22 hQ22
    subst lq22 yq22 zq22
    obtain ⟨rfl, Nq22, eq21⟩ := hQ22
    have N22 := Fr.app N0 Nq22
    refine own_s T22 (mkF m 166 #[rv ob, iv g, rv tx, iv 0, iv 3, iv 3, iv 0, own_j uu2, s_, iv 2, iv 2, iv y2] [.int 2]) st22 ?_
    refine own_s T22 (mkF m 168 #[rv ob, iv g, rv tx, iv 0, iv 3, iv 3, iv 0, own_j uu2, s_, iv 2, iv 2, iv y2] []) (fun t k => XS.istore X22.here hx rfl (hb hby d5_166) rfl (l' := #[rv ob, iv g, rv tx, iv 0, iv 3, iv 3, iv 0, own_j uu2, s_, iv 2, iv 2, iv y2]) rfl k) ?_
    refine own_s T22 (mkF m 170 #[rv ob, iv g, rv tx, iv 0, iv 3, iv 3, iv 0, own_j uu2, s_, iv 2, iv 2, iv y2] [.int 2]) (fun t k => XS.iload X22.here hx rfl (hb hby d5_168) rfl k) ?_
    refine own_s T22 (mkF m 172 #[rv ob, iv g, rv tx, iv 0, iv 3, iv 3, iv 0, own_j uu2, s_, iv 2, iv 2, iv y2] [.int 18, .int 2]) (fun t k => XS.bipush X22.here hx rfl (hb hby d5_170) k) ?_
    refine own_s T22 (mkF m 201 #[rv ob, iv g, rv tx, iv 0, iv 3, iv 3, iv 0, own_j uu2, s_, iv 2, iv 2, iv y2] []) (fun t k => XS.icmpYes X22.here hx rfl (pc0 := 172) (pc' := 201) rfl (hb hby d5_172) rfl (flt (by decide : ¬ ((18 : Int32) < (2 : Int32)))).2.2.2 (by decide) (by decide) k) ?_
    refine own_s T22 (mkF m 202 #[rv ob, iv g, rv tx, iv 0, iv 3, iv 3, iv 0, own_j uu2, s_, iv 2, iv 2, iv y2] [.ref ob]) (fun t k => XS.aloadN X22.here hx rfl (hb hby d5_201) rfl rfl k) ?_
    refine own_s T22 (mkF m 203 #[rv ob, iv g, rv tx, iv 0, iv 3, iv 3, iv 0, own_j uu2, s_, iv 2, iv 2, iv y2] [.int g, .ref ob]) (fun t k => XS.iloadN X22.here hx rfl (hb hby d5_202) rfl k) ?_
    refine own_s T22 (mkF m 205 #[rv ob, iv g, rv tx, iv 0, iv 3, iv 3, iv 0, own_j uu2, s_, iv 2, iv 2, iv y2] [.int 0, .int g, .ref ob]) (fun t k => XS.iload X22.here hx rfl (hb hby d5_203) rfl k) ?_
    refine own_s T22 (mkF m 214 #[rv ob, iv g, rv tx, iv 0, iv 3, iv 3, iv 0, own_j uu2, s_, iv 2, iv 2, iv y2] [.int g, .ref ob]) (fun t k => XS.ifYes X22.here hx rfl (pc0 := 205) (pc' := 214) rfl (hb hby d5_205) rfl ((if0 _ _).trans (teq (by decide : ((0 : Int32) = (0 : Int32)))).1) (by decide) (by decide) k) ?_
    refine own_s T22 (mkF m 216 #[rv ob, iv g, rv tx, iv 0, iv 3, iv 3, iv 0, own_j uu2, s_, iv 2, iv 2, iv y2] [.long uu2, .int g, .ref ob]) (fun t k => XS.lload X22.here hx rfl (hb hby d5_214) rfl k) ?_
    refine own_s T22 (mkF m 218 #[rv ob, iv g, rv tx, iv 0, iv 3, iv 3, iv 0, own_j uu2, s_, iv 2, iv 2, iv y2] [.int 2, .long uu2, .int g, .ref ob]) (fun t k => XS.iload X22.here hx rfl (hb hby d5_216) rfl k) ?_
    obtain ⟨cq27, q27a, q27b⟩ := F_0.1.cell
    obtain ⟨_, _, ⟨T26, L26, k26, n26⟩, -, X26, ⟨Lc26, hQ26, lq26, yq26, zq26⟩, st26⟩ := own_privH X22 hx (y := (⟨"com/example/viewlattice/viewlattice/engine/DecimalSums", "addUnscaled", "(IJI)V"⟩ : MethodName)) hown (mvT hZ (hW 35 _ rfl)) (mvT hZ (hW 36 _ rfl)) (mvT hZ (hW 3 _ rfl)) (Cond.privateMethod_at (args := #[]) (mvP hZ (hW 37 _ rfl))) (mvT hZ (hW 38 _ rfl)) (by decide) (backOfWith (W := 0) (rm_au l Z a0 hw [] ob ar kr cap S v0 v1 v2 v3 g uu2 (2 : Int32) pw kp h0 n0 Z0 F_0 O0 hcap hg (own_hs1 hS (Or.inr (Or.inr rfl))) (own_hs2 hS (Or.inr (Or.inr rfl))) (by rw [huu]; exact own_usm hd1 hd2) hv0 hv1 hv2 hv3 S_p V_p) hZ (hW 38 _ rfl) (hW 4 _ rfl) (by decide) (by decide)) (g := (mkF m 218 #[rv ob, iv g, rv tx, iv 0, iv 3, iv 3, iv 0, own_j uu2, s_, iv 2, iv 2, iv y2] [.int 2, .long uu2, .int g, .ref ob])) rfl (by rw [hml]; rfl) (Steps.refl _) (a := ob) (cell := cq27) (by rw [eq21]; exact q27a) q27b (argsL := [(.int g), (.long uu2), (.int (2 : Int32))]) (rest := []) (lenOf pd_4 rfl) rfl (by show 2 * 0 + _ ≤ _; exact Nat.le_of_eq rfl) (hb hby d5_218) (fun _ _ => ⟨rfl, eq21, (by decide : 0 + 1 ≤ _), (by decide : 0 + 4 ≤ _)⟩)
    dsimp only [Pt.U, Pt.locs, Pt.cells, Pt.slots] at X26 lq26 yq26 zq26 st26 hQ26
    subst lq26 yq26 zq26
    obtain ⟨b_23, kb_23, rfl, Nq26, K24, g25, pz24⟩ := hQ26
    have N26 := Fr.app N22 Nq26
    have g28 : Arv Z T26.heap tx kx .char (3 : Int32) [(.int (46 : Int32)), (.int y1), (.int y2)] (.int (0 : Int32)) := F_1.keep K24 (ninS (Ne.symm n_ob_tx) (ninS (Ne.symm n_ar_tx) nin0))
    have Z24 : n0 ≤ T26.heap.size := (Nat.le_trans Z0 K24.1)
    have O24 : Old Z n0 T26.heap := O0.keep K24 (allS (P := fun x => n0 ≤ x) F_0.2.2.2.2.2.1 (allS (P := fun x => n0 ≤ x) F_0.2.2.2.2.2.2 all0))
    have K29 : Keep h0 T26.heap [ob, ar] := K0.trans K24 (allS (P := fun x => x ∈ [ob, ar] ∨ h0.size ≤ x) (Or.inl (List.mem_of_getElem? (i := 0) rfl)) (allS (P := fun x => x ∈ [ob, ar] ∨ h0.size ≤ x) (Or.inl (List.mem_of_getElem? (i := 1) rfl)) all0))
    have nb24_2 : tx ≠ b_23 := fun z => pz24.elim (fun y => (Ne.symm n_ar_tx) (z.trans y)) (fun y => Nat.ne_of_lt (Nat.lt_of_lt_of_le F_1.lt y) z)
    refine own_tr (T' := T26) (g' := (mkF m 221 #[rv ob, iv g, rv tx, iv 0, iv 3, iv 3, iv 0, own_j uu2, s_, iv 2, iv 2, iv y2] [])) st26 ?_
    refine own_s T26 (mkF m 222 #[rv ob, iv g, rv tx, iv 0, iv 3, iv 3, iv 0, own_j uu2, s_, iv 2, iv 2, iv y2] [.int 1]) (fun t k => XS.iconst X26.here hx rfl (hb hby d5_221) k) ?_
    refine own_rN X26 hx hlk Bd.returns (by simp) (hb hby d5_222) ?_ (by decide) (by decide)
    exact ⟨b_23, kb_23, rfl, N26, K29, (by rw [← huu]; exact g25), pz24⟩
theorem own_and3 (x : Int32) : own_sh (x &&& (3 : Int32)) := by
  have h : (x &&& (3 : Int32)).toInt = x.toInt % 2 ^ 2 := Jvm.Kit.i32_mask x 3 (k := 2) (by decide) (by decide)
  unfold own_sh
  simp only [← Int32.toInt_inj, h]
  have z0 : (0 : Int32).toInt = 0 := by decide
  have z1 : (1 : Int32).toInt = 1 := by decide
  have z2 : (2 : Int32).toInt = 2 := by decide
  have z3 : (3 : Int32).toInt = 3 := by decide
  rw [z0, z1, z2, z3]
  omega
theorem own_capof (x : Int32) : own_cap ((x &&& (3 : Int32)) + (1 : Int32)) := by
  rcases own_and3 x with q | q | q | q <;> rw [q]
  · exact Or.inl rfl
  · exact Or.inr (Or.inl rfl)
  · exact Or.inr (Or.inr (Or.inl rfl))
  · exact Or.inr (Or.inr (Or.inr rfl))
theorem own_capne {c : Int32} (h : own_cap c) : c ≠ 0 := by rcases h with rfl | rfl | rfl | rfl <;> decide
theorem own_mask0 (x : Int32) : 0 ≤ (x &&& (2147483647 : Int32)).toInt := by
  have h : (x &&& (2147483647 : Int32)).toInt = x.toInt % 2 ^ 31 := Jvm.Kit.i32_mask x 2147483647 (k := 31) (by decide) (by decide)
  rw [h]
  omega
theorem own_shr0 (x : Int32) : 0 ≤ ((x.toUInt32 >>> (8 : UInt32)).toInt32).toInt := by
  have e : (x.toUInt32 >>> (8 : UInt32)).toNat < 2 ^ 24 := by
    rw [UInt32.toNat_shiftRight]
    show x.toUInt32.toNat >>> 8 < 2 ^ 24
    have := x.toUInt32.toNat_lt
    rw [Nat.shiftRight_eq_div_pow]
    omega
  have a1 : ((x.toUInt32 >>> (8 : UInt32)).toInt32).toInt = (x.toUInt32 >>> (8 : UInt32)).toBitVec.toInt := rfl
  have a2 : (x.toUInt32 >>> (8 : UInt32)).toNat = (x.toUInt32 >>> (8 : UInt32)).toBitVec.toNat := rfl
  rw [a1, BitVec.toInt_eq_toNat_cond]
  rw [a2] at e
  split <;> omega
theorem own_rin {x b : Int32} (h : 0 ≤ x.toInt) (hb : 0 < b.toInt) : own_in (x % b) b := by
  have z0 : (0 : Int32).toInt = 0 := by decide
  unfold own_in
  rw [Int32.lt_iff_toInt_lt, Int32.lt_iff_toInt_lt, Jvm.Kit.i32_rem_nonneg h, z0]
  have h1 := Int.emod_nonneg x.toInt (show b.toInt ≠ 0 by omega)
  have h2 := Int.emod_lt_of_pos x.toInt hb
  omega
theorem own_cap0 {c : Int32} (h : own_cap c) : 0 < c.toInt := by rcases h with rfl | rfl | rfl | rfl <;> decide
theorem own_chr {d : Int32} (h : own_in d 10) : own_dg (nar .char ((((48 : Int32) + d).toUInt32.toUInt16.toUInt32.toInt32))) d := by
  have h' := h
  obtain ⟨h1, h2⟩ := h
  have z0 : (0 : Int32).toInt = 0 := by decide
  have z10 : (10 : Int32).toInt = 10 := by decide
  rw [Int32.lt_iff_toInt_lt, z0] at h1
  rw [Int32.lt_iff_toInt_lt, z10] at h2
  refine ⟨?_, h'.1, h'.2⟩
  have q : d.toInt = 0 ∨ d.toInt = 1 ∨ d.toInt = 2 ∨ d.toInt = 3 ∨ d.toInt = 4 ∨ d.toInt = 5 ∨ d.toInt = 6 ∨ d.toInt = 7 ∨ d.toInt = 8 ∨ d.toInt = 9 := by omega
  have w : d = 0 ∨ d = 1 ∨ d = 2 ∨ d = 3 ∨ d = 4 ∨ d = 5 ∨ d = 6 ∨ d = 7 ∨ d = 8 ∨ d = 9 := by
    simp only [← Int32.toInt_inj]
    exact q
  rcases w with rfl | rfl | rfl | rfl | rfl | rfl | rfl | rfl | rfl | rfl <;> decide
theorem own_shmx {S kk : Int32} (hS : own_sh S) (hk : own_sh kk) : own_sh (own_mx S (own_vk kk)) := by
  rcases hS with rfl | rfl | rfl | rfl <;> rcases hk with rfl | rfl | rfl | rfl <;> first | exact Or.inl (by decide) | exact Or.inr (Or.inl (by decide)) | exact Or.inr (Or.inr (Or.inl (by decide))) | exact Or.inr (Or.inr (Or.inr (by decide)))
theorem own_shdf {S kk : Int32} (hS : own_sh S) (hk : own_sh kk) : own_sh (own_mx S (own_vk kk) - own_vk kk) := by
  rcases hS with rfl | rfl | rfl | rfl <;> rcases hk with rfl | rfl | rfl | rfl <;> first | exact Or.inl (by decide) | exact Or.inr (Or.inl (by decide)) | exact Or.inr (Or.inr (Or.inl (by decide))) | exact Or.inr (Or.inr (Or.inr (by decide)))
theorem own_pp {S kk ff : Int32} (hS : own_sh S) (hk : own_sh kk) (hf : ff = 0 ∨ ff = 1) : own_p10 (own_mx S (own_vk kk) - own_vk kk) * own_f (own_mx S (own_vk kk)) (own_vf ff) = own_p10 (own_mx (own_mx S (own_vk kk)) (own_vf ff) - own_vk kk) := by
  rcases hS with rfl | rfl | rfl | rfl <;> rcases hk with rfl | rfl | rfl | rfl <;> rcases hf with rfl | rfl <;> decide
theorem own_v1 {g i ng d1 d2 y1 y2 S kk : Int32} {F : Int64} (h1 : own_dg y1 d1) (h2 : own_dg y2 d2) (hn : ng = 0 ∨ ng = 1) (hS : own_sh S) (hk : own_sh kk) : own_sm (own_upd g i (0 * F) (own_sv ng (own_u d1 d2) * own_p10 (own_mx S (own_vk kk) - own_vk kk))) := by
  have a := own_dgi h1
  have b := own_dgi h2
  have e : (own_p10 (own_mx S (own_vk kk) - own_vk kk)).toInt = 1 ∨ (own_p10 (own_mx S (own_vk kk) - own_vk kk)).toInt = 10 ∨ (own_p10 (own_mx S (own_vk kk) - own_vk kk)).toInt = 100 ∨ (own_p10 (own_mx S (own_vk kk) - own_vk kk)).toInt = 1000 := by
    rcases own_shdf hS hk with q | q | q | q <;> rw [q] <;> decide
  have u := own_uI h1 h2
  have x : -99 ≤ (own_sv ng (own_u d1 d2)).toInt ∧ (own_sv ng (own_u d1 d2)).toInt ≤ 99 := by
    unfold own_sv
    split
    · rw [u]; omega
    · rw [Jvm.Kit.i64_neg (by rw [u]; omega), u]; omega
  generalize own_p10 (own_mx S (own_vk kk) - own_vk kk) = P at *
  generalize own_sv ng (own_u d1 d2) = X at *
  have m : (X * P).toInt = X.toInt * P.toInt := Jvm.Kit.i64_mul (by rcases e with e | e | e | e <;> rw [e] <;> omega) (by rcases e with e | e | e | e <;> rw [e] <;> omega)
  unfold own_upd
  rw [Int64.zero_mul, Int64.zero_add]
  split
  · unfold own_sm
    rw [m]
    rcases e with e | e | e | e <;> rw [e] <;> omega
  · exact ⟨by decide, by decide⟩
theorem own_z0 (a b : Prop) [Decidable a] [Decidable b] : (0 : Int64) = (if a then (0 : Int64) else 0) + (if b then (0 : Int64) else 0) := by
  rw [ite_self, ite_self]; rfl
theorem own_fin {g gg i : Int32} {X F1 P1 F2 P2 D2 : Int64} (hP : P1 * F2 = P2) : own_upd gg i (own_upd g i (0 * F1) (X * P1) * F2) D2 = (if i = g then X * P2 else 0) + (if i = gg then D2 else 0) := by
  subst hP
  unfold own_upd
  rw [Int64.zero_mul, Int64.zero_add]
  by_cases a : i = g
  · rw [if_pos a, if_pos a.symm, Int64.mul_assoc]
    by_cases b : i = gg
    · rw [if_pos b, if_pos b.symm]
    · have b' : ¬ gg = i := fun q => b q.symm
      rw [if_neg b, if_neg b', Int64.add_zero]
  · have a' : ¬ g = i := fun q => a q.symm
    rw [if_neg a, if_neg a', Int64.zero_mul, Int64.zero_add]
    by_cases b : i = gg
    · rw [if_pos b, if_pos b.symm, Int64.zero_add]
    · have b' : ¬ gg = i := fun q => b q.symm
      rw [if_neg b, if_neg b']
      rfl
theorem own_eqL {args : Array Value} {s : State} {t : Term} {k : Int64} (h : (Cond.eq t (.long k)).value args s none s [] = some true) : t.eval args s none [] s = some (.long k) := by
  obtain ⟨x, y, h1, h2, k1, k2⟩ := cmp_v (Or.inl h)
  have : y = .long k := (Option.some.inj h2).symm
  subst this
  obtain ⟨z, rfl⟩ := k2
  have g := eq_L h1 h2
  rw [g] at h
  have : z = k := by simpa using h
  rw [h1, this]
theorem own_eqI {args : Array Value} {s : State} {t : Term} {k : Int32} (h : (Cond.eq t (.int k)).value args s none s [] = some true) : t.eval args s none [] s = some (.int k) := by
  obtain ⟨x, y, h1, h2, k1, k2⟩ := cmp_v (Or.inl h)
  have : y = .int k := (Option.some.inj h2).symm
  subst this
  obtain ⟨z, rfl⟩ := k2
  have g := Cond.eq_ints h1 h2
  rw [g] at h
  have : z = k := by simpa using h
  rw [h1, this]

def Q_law (n0 : Nat) (v : Option Value) (h : Heap) (L : List Loc) : Prop := v = some (.int 1) ∧ Fr n0 L
theorem ef_rm_law (m : MethodId) (x0 : Int32) (x1 : Int32) (x2 : Int32) (x3 : Int32) (x4 : Int32) (x5 : Int32) : entryFrame m #[(.int x0), (.int x1), (.int x2), (.int x3), (.int x4), (.int x5)] maxLocals = mkF m 0 #[.val (.int x0), .val (.int x1), .val (.int x2), .val (.int x3), .val (.int x4), .val (.int x5), .unset, .unset, .unset, .unset, .unset, .unset, .unset, .unset, .unset, .unset, .unset, .unset, .unset, .unset, .unset, .unset, .unset, .unset, .unset, .unset, .unset, .unset, .unset, .unset, .unset, .unset, .unset, .unset, .unset, .unset, .unset, .unset, .unset, .unset, .unset, .unset, .unset, .unset] [] := by first | (simp [entryFrame, mkF, argsToLocals, Value.category, maxLocals]; done) | rfl | (simp [entryFrame, mkF, argsToLocals, Value.category, maxLocals] <;> rfl)
theorem pd_5 : parseMethodDescriptor "(II)V" = some ⟨[.int, .int], none⟩ := by decide +kernel
theorem pd_6 : parseMethodDescriptor "()[J" = some ⟨[], some (.array .long)⟩ := by decide +kernel
theorem pd_7 : parseMethodDescriptor "([JIIIIJJ)Z" = some ⟨[.array .long, .int, .int, .int, .int, .long, .long], some (.boolean)⟩ := by decide +kernel
theorem pd_8 : parseMethodDescriptor "(I[CII)Z" = some ⟨[.int, .array .char, .int, .int], some (.boolean)⟩ := by decide +kernel
theorem pd_9 : parseMethodDescriptor "(I)J" = some ⟨[.int], some (.long)⟩ := by decide +kernel
theorem pd_10 : parseMethodDescriptor "()I" = some ⟨[], some (.int)⟩ := by decide +kernel
set_option maxRecDepth 65536 in
set_option maxHeartbeats 40000000 in
theorem rm_law (l : Launch) (Z : State) (a0 : Array Value) (hw : ∀ d ∈ tables_1, d.before a0 Z = true) (ws : List Jvm.Cond) (p0 : Int32) (p1 : Int32) (p2 : Int32) (p3 : Int32) (p4 : Int32) (p5 : Int32) (pw : Addr) (kp : ClassId) (h0 : Heap) (n0 : Nat) (Z0 : n0 ≤ h0.size) (O0 : Old Z n0 h0) (S_p : Sta Z Z.heap "com/example/viewlattice/viewlattice/engine/DecimalSums" "POWERS_OF_TEN" "[J" (.ref pw)) (V_p : Arv Z Z.heap pw kp .long (19 : Int32) own_pw (.long (0 : Int64))) :
    MetFree l x (head1 (Jvm.Cond.code x code maxLocals ret :: ws) room_1) (fun a U => a = #[(.int p0), (.int p1), (.int p2), (.int p3), (.int p4), (.int p5)] ∧ Z.Warmed39 U.vm ∧ U.heap = h0) (fun _ _ _ _ _ => True) (fun _ U o U' => ∃ v L, o = .returned v ∧ (Q_law n0) v U'.heap L ∧ FrameEnd U o U' L 24 128) := by
  refine MetFree.of_bodySF (plainFor_of_name pn_0) hisR ?_
  intro p e s m args below meth c s₁ Bd hml0 hP hK
  obtain ⟨rfl, hZ, hh⟩ := hP
  have hx := Bd.exec
  have hby := Bd.bytes
  have hW := fun i d (h : tables_1[i]? = some d) => hw d (List.mem_of_getElem? h)
  have hlk : meth.locks = false := BodyLoose.notSynchronized Bd
  have hml : c.maxLocals = 44 := hml0
  have hown : s.vm.findClass "com/example/viewlattice/viewlattice/engine/DecimalSumsGetUnscaledLongsPinLaw" = some m.cls := findClass_of_methodNamed Bd.named
  have hnm := (name_of_methodNamed Bd.named Bd.method).1
  have X0 : Stand p l e room_1 s m #[(.int p0), (.int p1), (.int p2), (.int p3), (.int p4), (.int p5)] below meth c s₁ [] 0 0 := Stand.of_body Bd
  have e0 : s₁.heap = h0 := by rw [← hh, Bd.state]; rfl
  have N0 := Fr.nil n0
  show own_Go p e below s (Q_law n0) 24 128 s₁ (entryFrame m #[(.int p0), (.int p1), (.int p2), (.int p3), (.int p4), (.int p5)] maxLocals)
  refine own_cast (g' := (mkF m 0 #[iv p0, iv p1, iv p2, iv p3, iv p4, iv p5, u_, u_, u_, u_, u_, u_, u_, u_, u_, u_, u_, u_, u_, u_, u_, u_, u_, u_, u_, u_, u_, u_, u_, u_, u_, u_, u_, u_, u_, u_, u_, u_, u_, u_, u_, u_, u_, u_] [])) (ef_rm_law m p0 p1 p2 p3 p4 p5) ?_
  refine own_s s₁ (mkF m 1 #[iv p0, iv p1, iv p2, iv p3, iv p4, iv p5, u_, u_, u_, u_, u_, u_, u_, u_, u_, u_, u_, u_, u_, u_, u_, u_, u_, u_, u_, u_, u_, u_, u_, u_, u_, u_, u_, u_, u_, u_, u_, u_, u_, u_, u_, u_, u_, u_] [.int p0]) (fun t k => XS.iloadN X0.here hx rfl (hb hby at_0) rfl k) ?_
  refine own_s s₁ (mkF m 2 #[iv p0, iv p1, iv p2, iv p3, iv p4, iv p5, u_, u_, u_, u_, u_, u_, u_, u_, u_, u_, u_, u_, u_, u_, u_, u_, u_, u_, u_, u_, u_, u_, u_, u_, u_, u_, u_, u_, u_, u_, u_, u_, u_, u_, u_, u_, u_, u_] [.int 3, .int p0]) (fun t k => XS.iconst X0.here hx rfl (hb hby at_1) k) ?_
  refine own_s s₁ (mkF m 3 #[iv p0, iv p1, iv p2, iv p3, iv p4, iv p5, u_, u_, u_, u_, u_, u_, u_, u_, u_, u_, u_, u_, u_, u_, u_, u_, u_, u_, u_, u_, u_, u_, u_, u_, u_, u_, u_, u_, u_, u_, u_, u_, u_, u_, u_, u_, u_, u_] [.int (p0 &&& (3 : Int32))]) (fun t k => XS.iand X0.here hx rfl (hb hby at_2) rfl k) ?_
  refine own_s s₁ (mkF m 4 #[iv p0, iv p1, iv p2, iv p3, iv p4, iv p5, u_, u_, u_, u_, u_, u_, u_, u_, u_, u_, u_, u_, u_, u_, u_, u_, u_, u_, u_, u_, u_, u_, u_, u_, u_, u_, u_, u_, u_, u_, u_, u_, u_, u_, u_, u_, u_, u_] [.int 1, .int (p0 &&& (3 : Int32))]) (fun t k => XS.iconst X0.here hx rfl (hb hby at_3) k) ?_
  refine own_s s₁ (mkF m 5 #[iv p0, iv p1, iv p2, iv p3, iv p4, iv p5, u_, u_, u_, u_, u_, u_, u_, u_, u_, u_, u_, u_, u_, u_, u_, u_, u_, u_, u_, u_, u_, u_, u_, u_, u_, u_, u_, u_, u_, u_, u_, u_, u_, u_, u_, u_, u_, u_] [.int ((p0 &&& (3 : Int32)) + (1 : Int32))]) (fun t k => XS.iadd X0.here hx rfl (hb hby at_4) rfl k) ?_
  generalize hd_cap : ((p0 &&& (3 : Int32)) + (1 : Int32)) = cap
  refine own_s s₁ (mkF m 7 #[iv p0, iv p1, iv p2, iv p3, iv p4, iv p5, iv cap, u_, u_, u_, u_, u_, u_, u_, u_, u_, u_, u_, u_, u_, u_, u_, u_, u_, u_, u_, u_, u_, u_, u_, u_, u_, u_, u_, u_, u_, u_, u_, u_, u_, u_, u_, u_, u_] []) (fun t k => XS.istore X0.here hx rfl (hb hby at_5) rfl (l' := #[iv p0, iv p1, iv p2, iv p3, iv p4, iv p5, iv cap, u_, u_, u_, u_, u_, u_, u_, u_, u_, u_, u_, u_, u_, u_, u_, u_, u_, u_, u_, u_, u_, u_, u_, u_, u_, u_, u_, u_, u_, u_, u_, u_, u_, u_, u_, u_, u_]) rfl k) ?_
  have hcap : own_cap cap := by rw [← hd_cap]; exact own_capof p0
  refine own_s s₁ (mkF m 8 #[iv p0, iv p1, iv p2, iv p3, iv p4, iv p5, iv cap, u_, u_, u_, u_, u_, u_, u_, u_, u_, u_, u_, u_, u_, u_, u_, u_, u_, u_, u_, u_, u_, u_, u_, u_, u_, u_, u_, u_, u_, u_, u_, u_, u_, u_, u_, u_, u_] [.int p1]) (fun t k => XS.iloadN X0.here hx rfl (hb hby at_7) rfl k) ?_
  refine own_s s₁ (mkF m 9 #[iv p0, iv p1, iv p2, iv p3, iv p4, iv p5, iv cap, u_, u_, u_, u_, u_, u_, u_, u_, u_, u_, u_, u_, u_, u_, u_, u_, u_, u_, u_, u_, u_, u_, u_, u_, u_, u_, u_, u_, u_, u_, u_, u_, u_, u_, u_, u_, u_] [.int 3, .int p1]) (fun t k => XS.iconst X0.here hx rfl (hb hby at_8) k) ?_
  refine own_s s₁ (mkF m 10 #[iv p0, iv p1, iv p2, iv p3, iv p4, iv p5, iv cap, u_, u_, u_, u_, u_, u_, u_, u_, u_, u_, u_, u_, u_, u_, u_, u_, u_, u_, u_, u_, u_, u_, u_, u_, u_, u_, u_, u_, u_, u_, u_, u_, u_, u_, u_, u_, u_] [.int (p1 &&& (3 : Int32))]) (fun t k => XS.iand X0.here hx rfl (hb hby at_9) rfl k) ?_
  generalize hd_S0 : (p1 &&& (3 : Int32)) = S0
  refine own_s s₁ (mkF m 12 #[iv p0, iv p1, iv p2, iv p3, iv p4, iv p5, iv cap, iv S0, u_, u_, u_, u_, u_, u_, u_, u_, u_, u_, u_, u_, u_, u_, u_, u_, u_, u_, u_, u_, u_, u_, u_, u_, u_, u_, u_, u_, u_, u_, u_, u_, u_, u_, u_, u_] []) (fun t k => XS.istore X0.here hx rfl (hb hby at_10) rfl (l' := #[iv p0, iv p1, iv p2, iv p3, iv p4, iv p5, iv cap, iv S0, u_, u_, u_, u_, u_, u_, u_, u_, u_, u_, u_, u_, u_, u_, u_, u_, u_, u_, u_, u_, u_, u_, u_, u_, u_, u_, u_, u_, u_, u_, u_, u_, u_, u_, u_, u_]) rfl k) ?_
  refine own_s s₁ (mkF m 13 #[iv p0, iv p1, iv p2, iv p3, iv p4, iv p5, iv cap, iv S0, u_, u_, u_, u_, u_, u_, u_, u_, u_, u_, u_, u_, u_, u_, u_, u_, u_, u_, u_, u_, u_, u_, u_, u_, u_, u_, u_, u_, u_, u_, u_, u_, u_, u_, u_, u_] [.int p2]) (fun t k => XS.iloadN X0.here hx rfl (hb hby at_12) rfl k) ?_
  refine own_s s₁ (mkF m 15 #[iv p0, iv p1, iv p2, iv p3, iv p4, iv p5, iv cap, iv S0, u_, u_, u_, u_, u_, u_, u_, u_, u_, u_, u_, u_, u_, u_, u_, u_, u_, u_, u_, u_, u_, u_, u_, u_, u_, u_, u_, u_, u_, u_, u_, u_, u_, u_, u_, u_] [.int 2147483647, .int p2]) (X0.ldcInt hx hown (mvT hZ (hW 0 _ rfl)) (g := (mkF m 13 #[iv p0, iv p1, iv p2, iv p3, iv p4, iv p5, iv cap, iv S0, u_, u_, u_, u_, u_, u_, u_, u_, u_, u_, u_, u_, u_, u_, u_, u_, u_, u_, u_, u_, u_, u_, u_, u_, u_, u_, u_, u_, u_, u_, u_, u_, u_, u_, u_, u_] [.int p2])) rfl (hb hby at_13)) ?_
  refine own_s s₁ (mkF m 16 #[iv p0, iv p1, iv p2, iv p3, iv p4, iv p5, iv cap, iv S0, u_, u_, u_, u_, u_, u_, u_, u_, u_, u_, u_, u_, u_, u_, u_, u_, u_, u_, u_, u_, u_, u_, u_, u_, u_, u_, u_, u_, u_, u_, u_, u_, u_, u_, u_, u_] [.int (p2 &&& (2147483647 : Int32))]) (fun t k => XS.iand X0.here hx rfl (hb hby at_15) rfl k) ?_
  refine own_s s₁ (mkF m 18 #[iv p0, iv p1, iv p2, iv p3, iv p4, iv p5, iv cap, iv S0, u_, u_, u_, u_, u_, u_, u_, u_, u_, u_, u_, u_, u_, u_, u_, u_, u_, u_, u_, u_, u_, u_, u_, u_, u_, u_, u_, u_, u_, u_, u_, u_, u_, u_, u_, u_] [.int cap, .int (p2 &&& (2147483647 : Int32))]) (fun t k => XS.iload X0.here hx rfl (hb hby at_16) rfl k) ?_
  refine own_s s₁ (mkF m 19 #[iv p0, iv p1, iv p2, iv p3, iv p4, iv p5, iv cap, iv S0, u_, u_, u_, u_, u_, u_, u_, u_, u_, u_, u_, u_, u_, u_, u_, u_, u_, u_, u_, u_, u_, u_, u_, u_, u_, u_, u_, u_, u_, u_, u_, u_, u_, u_, u_, u_] [.int ((p2 &&& (2147483647 : Int32)) % cap)]) (fun t k => iremM (g := (mkF m 18 #[iv p0, iv p1, iv p2, iv p3, iv p4, iv p5, iv cap, iv S0, u_, u_, u_, u_, u_, u_, u_, u_, u_, u_, u_, u_, u_, u_, u_, u_, u_, u_, u_, u_, u_, u_, u_, u_, u_, u_, u_, u_, u_, u_, u_, u_, u_, u_, u_, u_] [.int cap, .int (p2 &&& (2147483647 : Int32))])) X0 hx rfl (hb hby at_18) rfl (own_capne hcap) k) ?_
  generalize hd_g : ((p2 &&& (2147483647 : Int32)) % cap) = g
  refine own_s s₁ (mkF m 21 #[iv p0, iv p1, iv p2, iv p3, iv p4, iv p5, iv cap, iv S0, iv g, u_, u_, u_, u_, u_, u_, u_, u_, u_, u_, u_, u_, u_, u_, u_, u_, u_, u_, u_, u_, u_, u_, u_, u_, u_, u_, u_, u_, u_, u_, u_, u_, u_, u_, u_] []) (fun t k => XS.istore X0.here hx rfl (hb hby at_19) rfl (l' := #[iv p0, iv p1, iv p2, iv p3, iv p4, iv p5, iv cap, iv S0, iv g, u_, u_, u_, u_, u_, u_, u_, u_, u_, u_, u_, u_, u_, u_, u_, u_, u_, u_, u_, u_, u_, u_, u_, u_, u_, u_, u_, u_, u_, u_, u_, u_, u_, u_, u_]) rfl k) ?_
  refine own_s s₁ (mkF m 22 #[iv p0, iv p1, iv p2, iv p3, iv p4, iv p5, iv cap, iv S0, iv g, u_, u_, u_, u_, u_, u_, u_, u_, u_, u_, u_, u_, u_, u_, u_, u_, u_, u_, u_, u_, u_, u_, u_, u_, u_, u_, u_, u_, u_, u_, u_, u_, u_, u_, u_] [.int p2]) (fun t k => XS.iloadN X0.here hx rfl (hb hby at_21) rfl k) ?_
  refine own_s s₁ (mkF m 24 #[iv p0, iv p1, iv p2, iv p3, iv p4, iv p5, iv cap, iv S0, iv g, u_, u_, u_, u_, u_, u_, u_, u_, u_, u_, u_, u_, u_, u_, u_, u_, u_, u_, u_, u_, u_, u_, u_, u_, u_, u_, u_, u_, u_, u_, u_, u_, u_, u_, u_] [.int 8, .int p2]) (fun t k => XS.bipush X0.here hx rfl (hb hby at_22) k) ?_
  refine own_s s₁ (mkF m 25 #[iv p0, iv p1, iv p2, iv p3, iv p4, iv p5, iv cap, iv S0, iv g, u_, u_, u_, u_, u_, u_, u_, u_, u_, u_, u_, u_, u_, u_, u_, u_, u_, u_, u_, u_, u_, u_, u_, u_, u_, u_, u_, u_, u_, u_, u_, u_, u_, u_, u_] [.int ((p2.toUInt32 >>> (8 : UInt32)).toInt32)]) (fun t k => XS.iushr X0.here hx rfl (hb hby at_24) rfl k) ?_
  refine own_s s₁ (mkF m 27 #[iv p0, iv p1, iv p2, iv p3, iv p4, iv p5, iv cap, iv S0, iv g, u_, u_, u_, u_, u_, u_, u_, u_, u_, u_, u_, u_, u_, u_, u_, u_, u_, u_, u_, u_, u_, u_, u_, u_, u_, u_, u_, u_, u_, u_, u_, u_, u_, u_, u_] [.int cap, .int ((p2.toUInt32 >>> (8 : UInt32)).toInt32)]) (fun t k => XS.iload X0.here hx rfl (hb hby at_25) rfl k) ?_
  refine own_s s₁ (mkF m 28 #[iv p0, iv p1, iv p2, iv p3, iv p4, iv p5, iv cap, iv S0, iv g, u_, u_, u_, u_, u_, u_, u_, u_, u_, u_, u_, u_, u_, u_, u_, u_, u_, u_, u_, u_, u_, u_, u_, u_, u_, u_, u_, u_, u_, u_, u_, u_, u_, u_, u_] [.int (((p2.toUInt32 >>> (8 : UInt32)).toInt32) % cap)]) (fun t k => iremM (g := (mkF m 27 #[iv p0, iv p1, iv p2, iv p3, iv p4, iv p5, iv cap, iv S0, iv g, u_, u_, u_, u_, u_, u_, u_, u_, u_, u_, u_, u_, u_, u_, u_, u_, u_, u_, u_, u_, u_, u_, u_, u_, u_, u_, u_, u_, u_, u_, u_, u_, u_, u_, u_] [.int cap, .int ((p2.toUInt32 >>> (8 : UInt32)).toInt32)])) X0 hx rfl (hb hby at_27) rfl (own_capne hcap) k) ?_
  generalize hd_gg : (((p2.toUInt32 >>> (8 : UInt32)).toInt32) % cap) = gg
  refine own_s s₁ (mkF m 30 #[iv p0, iv p1, iv p2, iv p3, iv p4, iv p5, iv cap, iv S0, iv g, iv gg, u_, u_, u_, u_, u_, u_, u_, u_, u_, u_, u_, u_, u_, u_, u_, u_, u_, u_, u_, u_, u_, u_, u_, u_, u_, u_, u_, u_, u_, u_, u_, u_, u_, u_] []) (fun t k => XS.istore X0.here hx rfl (hb hby at_28) rfl (l' := #[iv p0, iv p1, iv p2, iv p3, iv p4, iv p5, iv cap, iv S0, iv g, iv gg, u_, u_, u_, u_, u_, u_, u_, u_, u_, u_, u_, u_, u_, u_, u_, u_, u_, u_, u_, u_, u_, u_, u_, u_, u_, u_, u_, u_, u_, u_, u_, u_, u_, u_]) rfl k) ?_
  refine own_s s₁ (mkF m 31 #[iv p0, iv p1, iv p2, iv p3, iv p4, iv p5, iv cap, iv S0, iv g, iv gg, u_, u_, u_, u_, u_, u_, u_, u_, u_, u_, u_, u_, u_, u_, u_, u_, u_, u_, u_, u_, u_, u_, u_, u_, u_, u_, u_, u_, u_, u_, u_, u_, u_, u_] [.int p3]) (fun t k => XS.iloadN X0.here hx rfl (hb hby at_30) rfl k) ?_
  refine own_s s₁ (mkF m 33 #[iv p0, iv p1, iv p2, iv p3, iv p4, iv p5, iv cap, iv S0, iv g, iv gg, u_, u_, u_, u_, u_, u_, u_, u_, u_, u_, u_, u_, u_, u_, u_, u_, u_, u_, u_, u_, u_, u_, u_, u_, u_, u_, u_, u_, u_, u_, u_, u_, u_, u_] [.int 2147483647, .int p3]) (X0.ldcInt hx hown (mvT hZ (hW 0 _ rfl)) (g := (mkF m 31 #[iv p0, iv p1, iv p2, iv p3, iv p4, iv p5, iv cap, iv S0, iv g, iv gg, u_, u_, u_, u_, u_, u_, u_, u_, u_, u_, u_, u_, u_, u_, u_, u_, u_, u_, u_, u_, u_, u_, u_, u_, u_, u_, u_, u_, u_, u_, u_, u_, u_, u_] [.int p3])) rfl (hb hby at_31)) ?_
  refine own_s s₁ (mkF m 34 #[iv p0, iv p1, iv p2, iv p3, iv p4, iv p5, iv cap, iv S0, iv g, iv gg, u_, u_, u_, u_, u_, u_, u_, u_, u_, u_, u_, u_, u_, u_, u_, u_, u_, u_, u_, u_, u_, u_, u_, u_, u_, u_, u_, u_, u_, u_, u_, u_, u_, u_] [.int (p3 &&& (2147483647 : Int32))]) (fun t k => XS.iand X0.here hx rfl (hb hby at_33) rfl k) ?_
  refine own_s s₁ (mkF m 36 #[iv p0, iv p1, iv p2, iv p3, iv p4, iv p5, iv cap, iv S0, iv g, iv gg, u_, u_, u_, u_, u_, u_, u_, u_, u_, u_, u_, u_, u_, u_, u_, u_, u_, u_, u_, u_, u_, u_, u_, u_, u_, u_, u_, u_, u_, u_, u_, u_, u_, u_] [.int 10, .int (p3 &&& (2147483647 : Int32))]) (fun t k => XS.bipush X0.here hx rfl (hb hby at_34) k) ?_
  refine own_s s₁ (mkF m 37 #[iv p0, iv p1, iv p2, iv p3, iv p4, iv p5, iv cap, iv S0, iv g, iv gg, u_, u_, u_, u_, u_, u_, u_, u_, u_, u_, u_, u_, u_, u_, u_, u_, u_, u_, u_, u_, u_, u_, u_, u_, u_, u_, u_, u_, u_, u_, u_, u_, u_, u_] [.int ((p3 &&& (2147483647 : Int32)) % (10 : Int32))]) (fun t k => iremM (g := (mkF m 36 #[iv p0, iv p1, iv p2, iv p3, iv p4, iv p5, iv cap, iv S0, iv g, iv gg, u_, u_, u_, u_, u_, u_, u_, u_, u_, u_, u_, u_, u_, u_, u_, u_, u_, u_, u_, u_, u_, u_, u_, u_, u_, u_, u_, u_, u_, u_, u_, u_, u_, u_] [.int 10, .int (p3 &&& (2147483647 : Int32))])) X0 hx rfl (hb hby at_36) rfl (by decide) k) ?_
  generalize hd_d1 : ((p3 &&& (2147483647 : Int32)) % (10 : Int32)) = d1
  refine own_s s₁ (mkF m 39 #[iv p0, iv p1, iv p2, iv p3, iv p4, iv p5, iv cap, iv S0, iv g, iv gg, iv d1, u_, u_, u_, u_, u_, u_, u_, u_, u_, u_, u_, u_, u_, u_, u_, u_, u_, u_, u_, u_, u_, u_, u_, u_, u_, u_, u_, u_, u_, u_, u_, u_, u_] []) (fun t k => XS.istore X0.here hx rfl (hb hby at_37) rfl (l' := #[iv p0, iv p1, iv p2, iv p3, iv p4, iv p5, iv cap, iv S0, iv g, iv gg, iv d1, u_, u_, u_, u_, u_, u_, u_, u_, u_, u_, u_, u_, u_, u_, u_, u_, u_, u_, u_, u_, u_, u_, u_, u_, u_, u_, u_, u_, u_, u_, u_, u_, u_]) rfl k) ?_
  refine own_s s₁ (mkF m 41 #[iv p0, iv p1, iv p2, iv p3, iv p4, iv p5, iv cap, iv S0, iv g, iv gg, iv d1, u_, u_, u_, u_, u_, u_, u_, u_, u_, u_, u_, u_, u_, u_, u_, u_, u_, u_, u_, u_, u_, u_, u_, u_, u_, u_, u_, u_, u_, u_, u_, u_, u_] [.int p4]) (fun t k => XS.iload X0.here hx rfl (hb hby at_39) rfl k) ?_
  refine own_s s₁ (mkF m 43 #[iv p0, iv p1, iv p2, iv p3, iv p4, iv p5, iv cap, iv S0, iv g, iv gg, iv d1, u_, u_, u_, u_, u_, u_, u_, u_, u_, u_, u_, u_, u_, u_, u_, u_, u_, u_, u_, u_, u_, u_, u_, u_, u_, u_, u_, u_, u_, u_, u_, u_, u_] [.int 2147483647, .int p4]) (X0.ldcInt hx hown (mvT hZ (hW 0 _ rfl)) (g := (mkF m 41 #[iv p0, iv p1, iv p2, iv p3, iv p4, iv p5, iv cap, iv S0, iv g, iv gg, iv d1, u_, u_, u_, u_, u_, u_, u_, u_, u_, u_, u_, u_, u_, u_, u_, u_, u_, u_, u_, u_, u_, u_, u_, u_, u_, u_, u_, u_, u_, u_, u_, u_, u_] [.int p4])) rfl (hb hby at_41)) ?_
  refine own_s s₁ (mkF m 44 #[iv p0, iv p1, iv p2, iv p3, iv p4, iv p5, iv cap, iv S0, iv g, iv gg, iv d1, u_, u_, u_, u_, u_, u_, u_, u_, u_, u_, u_, u_, u_, u_, u_, u_, u_, u_, u_, u_, u_, u_, u_, u_, u_, u_, u_, u_, u_, u_, u_, u_, u_] [.int (p4 &&& (2147483647 : Int32))]) (fun t k => XS.iand X0.here hx rfl (hb hby at_43) rfl k) ?_
  refine own_s s₁ (mkF m 46 #[iv p0, iv p1, iv p2, iv p3, iv p4, iv p5, iv cap, iv S0, iv g, iv gg, iv d1, u_, u_, u_, u_, u_, u_, u_, u_, u_, u_, u_, u_, u_, u_, u_, u_, u_, u_, u_, u_, u_, u_, u_, u_, u_, u_, u_, u_, u_, u_, u_, u_, u_] [.int 10, .int (p4 &&& (2147483647 : Int32))]) (fun t k => XS.bipush X0.here hx rfl (hb hby at_44) k) ?_
  refine own_s s₁ (mkF m 47 #[iv p0, iv p1, iv p2, iv p3, iv p4, iv p5, iv cap, iv S0, iv g, iv gg, iv d1, u_, u_, u_, u_, u_, u_, u_, u_, u_, u_, u_, u_, u_, u_, u_, u_, u_, u_, u_, u_, u_, u_, u_, u_, u_, u_, u_, u_, u_, u_, u_, u_, u_] [.int ((p4 &&& (2147483647 : Int32)) % (10 : Int32))]) (fun t k => iremM (g := (mkF m 46 #[iv p0, iv p1, iv p2, iv p3, iv p4, iv p5, iv cap, iv S0, iv g, iv gg, iv d1, u_, u_, u_, u_, u_, u_, u_, u_, u_, u_, u_, u_, u_, u_, u_, u_, u_, u_, u_, u_, u_, u_, u_, u_, u_, u_, u_, u_, u_, u_, u_, u_, u_] [.int 10, .int (p4 &&& (2147483647 : Int32))])) X0 hx rfl (hb hby at_46) rfl (by decide) k) ?_
  generalize hd_d2 : ((p4 &&& (2147483647 : Int32)) % (10 : Int32)) = d2
  refine own_s s₁ (mkF m 49 #[iv p0, iv p1, iv p2, iv p3, iv p4, iv p5, iv cap, iv S0, iv g, iv gg, iv d1, iv d2, u_, u_, u_, u_, u_, u_, u_, u_, u_, u_, u_, u_, u_, u_, u_, u_, u_, u_, u_, u_, u_, u_, u_, u_, u_, u_, u_, u_, u_, u_, u_, u_] []) (fun t k => XS.istore X0.here hx rfl (hb hby at_47) rfl (l' := #[iv p0, iv p1, iv p2, iv p3, iv p4, iv p5, iv cap, iv S0, iv g, iv gg, iv d1, iv d2, u_, u_, u_, u_, u_, u_, u_, u_, u_, u_, u_, u_, u_, u_, u_, u_, u_, u_, u_, u_, u_, u_, u_, u_, u_, u_, u_, u_, u_, u_, u_, u_]) rfl k) ?_
  refine own_s s₁ (mkF m 50 #[iv p0, iv p1, iv p2, iv p3, iv p4, iv p5, iv cap, iv S0, iv g, iv gg, iv d1, iv d2, u_, u_, u_, u_, u_, u_, u_, u_, u_, u_, u_, u_, u_, u_, u_, u_, u_, u_, u_, u_, u_, u_, u_, u_, u_, u_, u_, u_, u_, u_, u_, u_] [.int p3]) (fun t k => XS.iloadN X0.here hx rfl (hb hby at_49) rfl k) ?_
  refine own_s s₁ (mkF m 52 #[iv p0, iv p1, iv p2, iv p3, iv p4, iv p5, iv cap, iv S0, iv g, iv gg, iv d1, iv d2, u_, u_, u_, u_, u_, u_, u_, u_, u_, u_, u_, u_, u_, u_, u_, u_, u_, u_, u_, u_, u_, u_, u_, u_, u_, u_, u_, u_, u_, u_, u_, u_] [.int 8, .int p3]) (fun t k => XS.bipush X0.here hx rfl (hb hby at_50) k) ?_
  refine own_s s₁ (mkF m 53 #[iv p0, iv p1, iv p2, iv p3, iv p4, iv p5, iv cap, iv S0, iv g, iv gg, iv d1, iv d2, u_, u_, u_, u_, u_, u_, u_, u_, u_, u_, u_, u_, u_, u_, u_, u_, u_, u_, u_, u_, u_, u_, u_, u_, u_, u_, u_, u_, u_, u_, u_, u_] [.int ((p3.toUInt32 >>> (8 : UInt32)).toInt32)]) (fun t k => XS.iushr X0.here hx rfl (hb hby at_52) rfl k) ?_
  refine own_s s₁ (mkF m 55 #[iv p0, iv p1, iv p2, iv p3, iv p4, iv p5, iv cap, iv S0, iv g, iv gg, iv d1, iv d2, u_, u_, u_, u_, u_, u_, u_, u_, u_, u_, u_, u_, u_, u_, u_, u_, u_, u_, u_, u_, u_, u_, u_, u_, u_, u_, u_, u_, u_, u_, u_, u_] [.int 10, .int ((p3.toUInt32 >>> (8 : UInt32)).toInt32)]) (fun t k => XS.bipush X0.here hx rfl (hb hby at_53) k) ?_
  refine own_s s₁ (mkF m 56 #[iv p0, iv p1, iv p2, iv p3, iv p4, iv p5, iv cap, iv S0, iv g, iv gg, iv d1, iv d2, u_, u_, u_, u_, u_, u_, u_, u_, u_, u_, u_, u_, u_, u_, u_, u_, u_, u_, u_, u_, u_, u_, u_, u_, u_, u_, u_, u_, u_, u_, u_, u_] [.int (((p3.toUInt32 >>> (8 : UInt32)).toInt32) % (10 : Int32))]) (fun t k => iremM (g := (mkF m 55 #[iv p0, iv p1, iv p2, iv p3, iv p4, iv p5, iv cap, iv S0, iv g, iv gg, iv d1, iv d2, u_, u_, u_, u_, u_, u_, u_, u_, u_, u_, u_, u_, u_, u_, u_, u_, u_, u_, u_, u_, u_, u_, u_, u_, u_, u_, u_, u_, u_, u_, u_, u_] [.int 10, .int ((p3.toUInt32 >>> (8 : UInt32)).toInt32)])) X0 hx rfl (hb hby at_55) rfl (by decide) k) ?_
  generalize hd_m1 : (((p3.toUInt32 >>> (8 : UInt32)).toInt32) % (10 : Int32)) = m1
  refine own_s s₁ (mkF m 58 #[iv p0, iv p1, iv p2, iv p3, iv p4, iv p5, iv cap, iv S0, iv g, iv gg, iv d1, iv d2, iv m1, u_, u_, u_, u_, u_, u_, u_, u_, u_, u_, u_, u_, u_, u_, u_, u_, u_, u_, u_, u_, u_, u_, u_, u_, u_, u_, u_, u_, u_, u_, u_] []) (fun t k => XS.istore X0.here hx rfl (hb hby at_56) rfl (l' := #[iv p0, iv p1, iv p2, iv p3, iv p4, iv p5, iv cap, iv S0, iv g, iv gg, iv d1, iv d2, iv m1, u_, u_, u_, u_, u_, u_, u_, u_, u_, u_, u_, u_, u_, u_, u_, u_, u_, u_, u_, u_, u_, u_, u_, u_, u_, u_, u_, u_, u_, u_, u_]) rfl k) ?_
  refine own_s s₁ (mkF m 60 #[iv p0, iv p1, iv p2, iv p3, iv p4, iv p5, iv cap, iv S0, iv g, iv gg, iv d1, iv d2, iv m1, u_, u_, u_, u_, u_, u_, u_, u_, u_, u_, u_, u_, u_, u_, u_, u_, u_, u_, u_, u_, u_, u_, u_, u_, u_, u_, u_, u_, u_, u_, u_] [.int p4]) (fun t k => XS.iload X0.here hx rfl (hb hby at_58) rfl k) ?_
  refine own_s s₁ (mkF m 62 #[iv p0, iv p1, iv p2, iv p3, iv p4, iv p5, iv cap, iv S0, iv g, iv gg, iv d1, iv d2, iv m1, u_, u_, u_, u_, u_, u_, u_, u_, u_, u_, u_, u_, u_, u_, u_, u_, u_, u_, u_, u_, u_, u_, u_, u_, u_, u_, u_, u_, u_, u_, u_] [.int 8, .int p4]) (fun t k => XS.bipush X0.here hx rfl (hb hby at_60) k) ?_
  refine own_s s₁ (mkF m 63 #[iv p0, iv p1, iv p2, iv p3, iv p4, iv p5, iv cap, iv S0, iv g, iv gg, iv d1, iv d2, iv m1, u_, u_, u_, u_, u_, u_, u_, u_, u_, u_, u_, u_, u_, u_, u_, u_, u_, u_, u_, u_, u_, u_, u_, u_, u_, u_, u_, u_, u_, u_, u_] [.int ((p4.toUInt32 >>> (8 : UInt32)).toInt32)]) (fun t k => XS.iushr X0.here hx rfl (hb hby at_62) rfl k) ?_
  refine own_s s₁ (mkF m 65 #[iv p0, iv p1, iv p2, iv p3, iv p4, iv p5, iv cap, iv S0, iv g, iv gg, iv d1, iv d2, iv m1, u_, u_, u_, u_, u_, u_, u_, u_, u_, u_, u_, u_, u_, u_, u_, u_, u_, u_, u_, u_, u_, u_, u_, u_, u_, u_, u_, u_, u_, u_, u_] [.int 10, .int ((p4.toUInt32 >>> (8 : UInt32)).toInt32)]) (fun t k => XS.bipush X0.here hx rfl (hb hby at_63) k) ?_
  refine own_s s₁ (mkF m 66 #[iv p0, iv p1, iv p2, iv p3, iv p4, iv p5, iv cap, iv S0, iv g, iv gg, iv d1, iv d2, iv m1, u_, u_, u_, u_, u_, u_, u_, u_, u_, u_, u_, u_, u_, u_, u_, u_, u_, u_, u_, u_, u_, u_, u_, u_, u_, u_, u_, u_, u_, u_, u_] [.int (((p4.toUInt32 >>> (8 : UInt32)).toInt32) % (10 : Int32))]) (fun t k => iremM (g := (mkF m 65 #[iv p0, iv p1, iv p2, iv p3, iv p4, iv p5, iv cap, iv S0, iv g, iv gg, iv d1, iv d2, iv m1, u_, u_, u_, u_, u_, u_, u_, u_, u_, u_, u_, u_, u_, u_, u_, u_, u_, u_, u_, u_, u_, u_, u_, u_, u_, u_, u_, u_, u_, u_, u_] [.int 10, .int ((p4.toUInt32 >>> (8 : UInt32)).toInt32)])) X0 hx rfl (hb hby at_65) rfl (by decide) k) ?_
  generalize hd_m2 : (((p4.toUInt32 >>> (8 : UInt32)).toInt32) % (10 : Int32)) = m2
  refine own_s s₁ (mkF m 68 #[iv p0, iv p1, iv p2, iv p3, iv p4, iv p5, iv cap, iv S0, iv g, iv gg, iv d1, iv d2, iv m1, iv m2, u_, u_, u_, u_, u_, u_, u_, u_, u_, u_, u_, u_, u_, u_, u_, u_, u_, u_, u_, u_, u_, u_, u_, u_, u_, u_, u_, u_, u_, u_] []) (fun t k => XS.istore X0.here hx rfl (hb hby at_66) rfl (l' := #[iv p0, iv p1, iv p2, iv p3, iv p4, iv p5, iv cap, iv S0, iv g, iv gg, iv d1, iv d2, iv m1, iv m2, u_, u_, u_, u_, u_, u_, u_, u_, u_, u_, u_, u_, u_, u_, u_, u_, u_, u_, u_, u_, u_, u_, u_, u_, u_, u_, u_, u_, u_, u_]) rfl k) ?_
  have hS0 : own_sh S0 := by rw [← hd_S0]; exact own_and3 p1
  have hg : own_in g cap := by rw [← hd_g]; exact own_rin (own_mask0 p2) (own_cap0 hcap)
  have hgg : own_in gg cap := by rw [← hd_gg]; exact own_rin (own_shr0 p2) (own_cap0 hcap)
  have hr1 : own_in d1 10 := by rw [← hd_d1]; exact own_rin (own_mask0 p3) (by decide)
  have hr2 : own_in d2 10 := by rw [← hd_d2]; exact own_rin (own_mask0 p4) (by decide)
  have hm1 : own_in m1 10 := by rw [← hd_m1]; exact own_rin (own_shr0 p3) (by decide)
  have hm2 : own_in m2 10 := by rw [← hd_m2]; exact own_rin (own_shr0 p4) (by decide)
  clear hd_S0 hd_g hd_gg hd_d1 hd_d2 hd_m1 hd_m2 hd_cap
  refine own_s s₁ (mkF m 70 #[iv p0, iv p1, iv p2, iv p3, iv p4, iv p5, iv cap, iv S0, iv g, iv gg, iv d1, iv d2, iv m1, iv m2, u_, u_, u_, u_, u_, u_, u_, u_, u_, u_, u_, u_, u_, u_, u_, u_, u_, u_, u_, u_, u_, u_, u_, u_, u_, u_, u_, u_, u_, u_] [.int p5]) (fun t k => XS.iload X0.here hx rfl (hb hby at_68) rfl k) ?_
  refine own_s s₁ (mkF m 71 #[iv p0, iv p1, iv p2, iv p3, iv p4, iv p5, iv cap, iv S0, iv g, iv gg, iv d1, iv d2, iv m1, iv m2, u_, u_, u_, u_, u_, u_, u_, u_, u_, u_, u_, u_, u_, u_, u_, u_, u_, u_, u_, u_, u_, u_, u_, u_, u_, u_, u_, u_, u_, u_] [.int 1, .int p5]) (fun t k => XS.iconst X0.here hx rfl (hb hby at_70) k) ?_
  refine own_s s₁ (mkF m 72 #[iv p0, iv p1, iv p2, iv p3, iv p4, iv p5, iv cap, iv S0, iv g, iv gg, iv d1, iv d2, iv m1, iv m2, u_, u_, u_, u_, u_, u_, u_, u_, u_, u_, u_, u_, u_, u_, u_, u_, u_, u_, u_, u_, u_, u_, u_, u_, u_, u_, u_, u_, u_, u_] [.int (p5 &&& (1 : Int32))]) (fun t k => XS.iand X0.here hx rfl (hb hby at_71) rfl k) ?_
  have j80 : ∀ (bS : Int32), own_Go p e below s (Q_law n0) 24 128 s₁ (mkF m 80 #[iv p0, iv p1, iv p2, iv p3, iv p4, iv p5, iv cap, iv S0, iv g, iv gg, iv d1, iv d2, iv m1, iv m2, u_, u_, u_, u_, u_, u_, u_, u_, u_, u_, u_, u_, u_, u_, u_, u_, u_, u_, u_, u_, u_, u_, u_, u_, u_, u_, u_, u_, u_, u_] [.int bS]) := by
    intro bS
    refine own_s s₁ (mkF m 82 #[iv p0, iv p1, iv p2, iv p3, iv p4, iv p5, iv cap, iv S0, iv g, iv gg, iv d1, iv d2, iv m1, iv m2, iv bS, u_, u_, u_, u_, u_, u_, u_, u_, u_, u_, u_, u_, u_, u_, u_, u_, u_, u_, u_, u_, u_, u_, u_, u_, u_, u_, u_, u_, u_] []) (fun t k => XS.istore X0.here hx rfl (hb hby at_80) rfl (l' := #[iv p0, iv p1, iv p2, iv p3, iv p4, iv p5, iv cap, iv S0, iv g, iv gg, iv d1, iv d2, iv m1, iv m2, iv bS, u_, u_, u_, u_, u_, u_, u_, u_, u_, u_, u_, u_, u_, u_, u_, u_, u_, u_, u_, u_, u_, u_, u_, u_, u_, u_, u_, u_, u_]) rfl k) ?_
    refine own_s s₁ (mkF m 84 #[iv p0, iv p1, iv p2, iv p3, iv p4, iv p5, iv cap, iv S0, iv g, iv gg, iv d1, iv d2, iv m1, iv m2, iv bS, u_, u_, u_, u_, u_, u_, u_, u_, u_, u_, u_, u_, u_, u_, u_, u_, u_, u_, u_, u_, u_, u_, u_, u_, u_, u_, u_, u_, u_] [.int p5]) (fun t k => XS.iload X0.here hx rfl (hb hby at_82) rfl k) ?_
    refine own_s s₁ (mkF m 85 #[iv p0, iv p1, iv p2, iv p3, iv p4, iv p5, iv cap, iv S0, iv g, iv gg, iv d1, iv d2, iv m1, iv m2, iv bS, u_, u_, u_, u_, u_, u_, u_, u_, u_, u_, u_, u_, u_, u_, u_, u_, u_, u_, u_, u_, u_, u_, u_, u_, u_, u_, u_, u_, u_] [.int 2, .int p5]) (fun t k => XS.iconst X0.here hx rfl (hb hby at_84) k) ?_
    refine own_s s₁ (mkF m 86 #[iv p0, iv p1, iv p2, iv p3, iv p4, iv p5, iv cap, iv S0, iv g, iv gg, iv d1, iv d2, iv m1, iv m2, iv bS, u_, u_, u_, u_, u_, u_, u_, u_, u_, u_, u_, u_, u_, u_, u_, u_, u_, u_, u_, u_, u_, u_, u_, u_, u_, u_, u_, u_, u_] [.int (p5 &&& (2 : Int32))]) (fun t k => XS.iand X0.here hx rfl (hb hby at_85) rfl k) ?_
    have j94 : ∀ (bM : Int32), own_Go p e below s (Q_law n0) 24 128 s₁ (mkF m 94 #[iv p0, iv p1, iv p2, iv p3, iv p4, iv p5, iv cap, iv S0, iv g, iv gg, iv d1, iv d2, iv m1, iv m2, iv bS, u_, u_, u_, u_, u_, u_, u_, u_, u_, u_, u_, u_, u_, u_, u_, u_, u_, u_, u_, u_, u_, u_, u_, u_, u_, u_, u_, u_, u_] [.int bM]) := by
      intro bM
      refine own_s s₁ (mkF m 96 #[iv p0, iv p1, iv p2, iv p3, iv p4, iv p5, iv cap, iv S0, iv g, iv gg, iv d1, iv d2, iv m1, iv m2, iv bS, iv bM, u_, u_, u_, u_, u_, u_, u_, u_, u_, u_, u_, u_, u_, u_, u_, u_, u_, u_, u_, u_, u_, u_, u_, u_, u_, u_, u_, u_] []) (fun t k => XS.istore X0.here hx rfl (hb hby at_94) rfl (l' := #[iv p0, iv p1, iv p2, iv p3, iv p4, iv p5, iv cap, iv S0, iv g, iv gg, iv d1, iv d2, iv m1, iv m2, iv bS, iv bM, u_, u_, u_, u_, u_, u_, u_, u_, u_, u_, u_, u_, u_, u_, u_, u_, u_, u_, u_, u_, u_, u_, u_, u_, u_, u_, u_, u_]) rfl k) ?_
      refine own_s s₁ (mkF m 98 #[iv p0, iv p1, iv p2, iv p3, iv p4, iv p5, iv cap, iv S0, iv g, iv gg, iv d1, iv d2, iv m1, iv m2, iv bS, iv bM, u_, u_, u_, u_, u_, u_, u_, u_, u_, u_, u_, u_, u_, u_, u_, u_, u_, u_, u_, u_, u_, u_, u_, u_, u_, u_, u_, u_] [.int bS]) (fun t k => XS.iload X0.here hx rfl (hb hby at_96) rfl k) ?_
      have j111 : ∀ (ng : Int32), ((ng = 1 ∧ ¬ bS = 0 ∧ ¬ bM = 0) ∨ (ng = 0 ∧ (bS = 0 ∨ bM = 0))) → own_Go p e below s (Q_law n0) 24 128 s₁ (mkF m 111 #[iv p0, iv p1, iv p2, iv p3, iv p4, iv p5, iv cap, iv S0, iv g, iv gg, iv d1, iv d2, iv m1, iv m2, iv bS, iv bM, u_, u_, u_, u_, u_, u_, u_, u_, u_, u_, u_, u_, u_, u_, u_, u_, u_, u_, u_, u_, u_, u_, u_, u_, u_, u_, u_, u_] [.int ng]) := by
        intro ng hng
        refine own_s s₁ (mkF m 113 #[iv p0, iv p1, iv p2, iv p3, iv p4, iv p5, iv cap, iv S0, iv g, iv gg, iv d1, iv d2, iv m1, iv m2, iv bS, iv bM, iv ng, u_, u_, u_, u_, u_, u_, u_, u_, u_, u_, u_, u_, u_, u_, u_, u_, u_, u_, u_, u_, u_, u_, u_, u_, u_, u_, u_] []) (fun t k => XS.istore X0.here hx rfl (hb hby at_111) rfl (l' := #[iv p0, iv p1, iv p2, iv p3, iv p4, iv p5, iv cap, iv S0, iv g, iv gg, iv d1, iv d2, iv m1, iv m2, iv bS, iv bM, iv ng, u_, u_, u_, u_, u_, u_, u_, u_, u_, u_, u_, u_, u_, u_, u_, u_, u_, u_, u_, u_, u_, u_, u_, u_, u_, u_, u_]) rfl k) ?_
        have hng01 : ng = 0 ∨ ng = 1 := hng.elim (fun q => Or.inr q.1) (fun q => Or.inl q.1)
        refine own_s s₁ (mkF m 115 #[iv p0, iv p1, iv p2, iv p3, iv p4, iv p5, iv cap, iv S0, iv g, iv gg, iv d1, iv d2, iv m1, iv m2, iv bS, iv bM, iv ng, u_, u_, u_, u_, u_, u_, u_, u_, u_, u_, u_, u_, u_, u_, u_, u_, u_, u_, u_, u_, u_, u_, u_, u_, u_, u_, u_] [.int p5]) (fun t k => XS.iload X0.here hx rfl (hb hby at_113) rfl k) ?_
        refine own_s s₁ (mkF m 116 #[iv p0, iv p1, iv p2, iv p3, iv p4, iv p5, iv cap, iv S0, iv g, iv gg, iv d1, iv d2, iv m1, iv m2, iv bS, iv bM, iv ng, u_, u_, u_, u_, u_, u_, u_, u_, u_, u_, u_, u_, u_, u_, u_, u_, u_, u_, u_, u_, u_, u_, u_, u_, u_, u_, u_] [.int 2, .int p5]) (fun t k => XS.iconst X0.here hx rfl (hb hby at_115) k) ?_
        refine own_s s₁ (mkF m 117 #[iv p0, iv p1, iv p2, iv p3, iv p4, iv p5, iv cap, iv S0, iv g, iv gg, iv d1, iv d2, iv m1, iv m2, iv bS, iv bM, iv ng, u_, u_, u_, u_, u_, u_, u_, u_, u_, u_, u_, u_, u_, u_, u_, u_, u_, u_, u_, u_, u_, u_, u_, u_, u_, u_, u_] [.int ((p5.toUInt32 >>> (2 : UInt32)).toInt32)]) (fun t k => XS.iushr X0.here hx rfl (hb hby at_116) rfl k) ?_
        refine own_s s₁ (mkF m 118 #[iv p0, iv p1, iv p2, iv p3, iv p4, iv p5, iv cap, iv S0, iv g, iv gg, iv d1, iv d2, iv m1, iv m2, iv bS, iv bM, iv ng, u_, u_, u_, u_, u_, u_, u_, u_, u_, u_, u_, u_, u_, u_, u_, u_, u_, u_, u_, u_, u_, u_, u_, u_, u_, u_, u_] [.int 3, .int ((p5.toUInt32 >>> (2 : UInt32)).toInt32)]) (fun t k => XS.iconst X0.here hx rfl (hb hby at_117) k) ?_
        refine own_s s₁ (mkF m 119 #[iv p0, iv p1, iv p2, iv p3, iv p4, iv p5, iv cap, iv S0, iv g, iv gg, iv d1, iv d2, iv m1, iv m2, iv bS, iv bM, iv ng, u_, u_, u_, u_, u_, u_, u_, u_, u_, u_, u_, u_, u_, u_, u_, u_, u_, u_, u_, u_, u_, u_, u_, u_, u_, u_, u_] [.int (((p5.toUInt32 >>> (2 : UInt32)).toInt32) &&& (3 : Int32))]) (fun t k => XS.iand X0.here hx rfl (hb hby at_118) rfl k) ?_
        generalize hd_kk : (((p5.toUInt32 >>> (2 : UInt32)).toInt32) &&& (3 : Int32)) = kk
        refine own_s s₁ (mkF m 121 #[iv p0, iv p1, iv p2, iv p3, iv p4, iv p5, iv cap, iv S0, iv g, iv gg, iv d1, iv d2, iv m1, iv m2, iv bS, iv bM, iv ng, iv kk, u_, u_, u_, u_, u_, u_, u_, u_, u_, u_, u_, u_, u_, u_, u_, u_, u_, u_, u_, u_, u_, u_, u_, u_, u_, u_] []) (fun t k => XS.istore X0.here hx rfl (hb hby at_119) rfl (l' := #[iv p0, iv p1, iv p2, iv p3, iv p4, iv p5, iv cap, iv S0, iv g, iv gg, iv d1, iv d2, iv m1, iv m2, iv bS, iv bM, iv ng, iv kk, u_, u_, u_, u_, u_, u_, u_, u_, u_, u_, u_, u_, u_, u_, u_, u_, u_, u_, u_, u_, u_, u_, u_, u_, u_, u_]) rfl k) ?_
        have hkk : own_sh kk := by rw [← hd_kk]; exact own_and3 _
        clear hd_kk
        refine own_s s₁ (mkF m 123 #[iv p0, iv p1, iv p2, iv p3, iv p4, iv p5, iv cap, iv S0, iv g, iv gg, iv d1, iv d2, iv m1, iv m2, iv bS, iv bM, iv ng, iv kk, u_, u_, u_, u_, u_, u_, u_, u_, u_, u_, u_, u_, u_, u_, u_, u_, u_, u_, u_, u_, u_, u_, u_, u_, u_, u_] [.int p5]) (fun t k => XS.iload X0.here hx rfl (hb hby at_121) rfl k) ?_
        refine own_s s₁ (mkF m 125 #[iv p0, iv p1, iv p2, iv p3, iv p4, iv p5, iv cap, iv S0, iv g, iv gg, iv d1, iv d2, iv m1, iv m2, iv bS, iv bM, iv ng, iv kk, u_, u_, u_, u_, u_, u_, u_, u_, u_, u_, u_, u_, u_, u_, u_, u_, u_, u_, u_, u_, u_, u_, u_, u_, u_, u_] [.int 16, .int p5]) (fun t k => XS.bipush X0.here hx rfl (hb hby at_123) k) ?_
        refine own_s s₁ (mkF m 126 #[iv p0, iv p1, iv p2, iv p3, iv p4, iv p5, iv cap, iv S0, iv g, iv gg, iv d1, iv d2, iv m1, iv m2, iv bS, iv bM, iv ng, iv kk, u_, u_, u_, u_, u_, u_, u_, u_, u_, u_, u_, u_, u_, u_, u_, u_, u_, u_, u_, u_, u_, u_, u_, u_, u_, u_] [.int (p5 &&& (16 : Int32))]) (fun t k => XS.iand X0.here hx rfl (hb hby at_125) rfl k) ?_
        have j134 : ∀ (ff : Int32), (ff = 0 ∨ ff = 1) → own_Go p e below s (Q_law n0) 24 128 s₁ (mkF m 134 #[iv p0, iv p1, iv p2, iv p3, iv p4, iv p5, iv cap, iv S0, iv g, iv gg, iv d1, iv d2, iv m1, iv m2, iv bS, iv bM, iv ng, iv kk, u_, u_, u_, u_, u_, u_, u_, u_, u_, u_, u_, u_, u_, u_, u_, u_, u_, u_, u_, u_, u_, u_, u_, u_, u_, u_] [.int ff]) := by
          intro ff hff
          refine own_s s₁ (mkF m 136 #[iv p0, iv p1, iv p2, iv p3, iv p4, iv p5, iv cap, iv S0, iv g, iv gg, iv d1, iv d2, iv m1, iv m2, iv bS, iv bM, iv ng, iv kk, iv ff, u_, u_, u_, u_, u_, u_, u_, u_, u_, u_, u_, u_, u_, u_, u_, u_, u_, u_, u_, u_, u_, u_, u_, u_, u_] []) (fun t k => XS.istore X0.here hx rfl (hb hby at_134) rfl (l' := #[iv p0, iv p1, iv p2, iv p3, iv p4, iv p5, iv cap, iv S0, iv g, iv gg, iv d1, iv d2, iv m1, iv m2, iv bS, iv bM, iv ng, iv kk, iv ff, u_, u_, u_, u_, u_, u_, u_, u_, u_, u_, u_, u_, u_, u_, u_, u_, u_, u_, u_, u_, u_, u_, u_, u_, u_]) rfl k) ?_
          refine own_s s₁ (mkF m 138 #[iv p0, iv p1, iv p2, iv p3, iv p4, iv p5, iv cap, iv S0, iv g, iv gg, iv d1, iv d2, iv m1, iv m2, iv bS, iv bM, iv ng, iv kk, iv ff, u_, u_, u_, u_, u_, u_, u_, u_, u_, u_, u_, u_, u_, u_, u_, u_, u_, u_, u_, u_, u_, u_, u_, u_, u_] [.int 48]) (fun t k => XS.bipush X0.here hx rfl (hb hby at_136) k) ?_
          refine own_s s₁ (mkF m 140 #[iv p0, iv p1, iv p2, iv p3, iv p4, iv p5, iv cap, iv S0, iv g, iv gg, iv d1, iv d2, iv m1, iv m2, iv bS, iv bM, iv ng, iv kk, iv ff, u_, u_, u_, u_, u_, u_, u_, u_, u_, u_, u_, u_, u_, u_, u_, u_, u_, u_, u_, u_, u_, u_, u_, u_, u_] [.int d1, .int 48]) (fun t k => XS.iload X0.here hx rfl (hb hby at_138) rfl k) ?_
          refine own_s s₁ (mkF m 141 #[iv p0, iv p1, iv p2, iv p3, iv p4, iv p5, iv cap, iv S0, iv g, iv gg, iv d1, iv d2, iv m1, iv m2, iv bS, iv bM, iv ng, iv kk, iv ff, u_, u_, u_, u_, u_, u_, u_, u_, u_, u_, u_, u_, u_, u_, u_, u_, u_, u_, u_, u_, u_, u_, u_, u_, u_] [.int ((48 : Int32) + d1)]) (fun t k => XS.iadd X0.here hx rfl (hb hby at_140) rfl k) ?_
          refine own_s s₁ (mkF m 142 #[iv p0, iv p1, iv p2, iv p3, iv p4, iv p5, iv cap, iv S0, iv g, iv gg, iv d1, iv d2, iv m1, iv m2, iv bS, iv bM, iv ng, iv kk, iv ff, u_, u_, u_, u_, u_, u_, u_, u_, u_, u_, u_, u_, u_, u_, u_, u_, u_, u_, u_, u_, u_, u_, u_, u_, u_] [.int (((48 : Int32) + d1).toUInt32.toUInt16.toUInt32.toInt32)]) (fun t k => XS.i2c X0.here hx rfl (hb hby at_141) rfl k) ?_
          generalize hd_ch1 : (((48 : Int32) + d1).toUInt32.toUInt16.toUInt32.toInt32) = ch1
          refine own_s s₁ (mkF m 144 #[iv p0, iv p1, iv p2, iv p3, iv p4, iv p5, iv cap, iv S0, iv g, iv gg, iv d1, iv d2, iv m1, iv m2, iv bS, iv bM, iv ng, iv kk, iv ff, iv ch1, u_, u_, u_, u_, u_, u_, u_, u_, u_, u_, u_, u_, u_, u_, u_, u_, u_, u_, u_, u_, u_, u_, u_, u_] []) (fun t k => XS.istore X0.here hx rfl (hb hby at_142) rfl (l' := #[iv p0, iv p1, iv p2, iv p3, iv p4, iv p5, iv cap, iv S0, iv g, iv gg, iv d1, iv d2, iv m1, iv m2, iv bS, iv bM, iv ng, iv kk, iv ff, iv ch1, u_, u_, u_, u_, u_, u_, u_, u_, u_, u_, u_, u_, u_, u_, u_, u_, u_, u_, u_, u_, u_, u_, u_, u_]) rfl k) ?_
          refine own_s s₁ (mkF m 146 #[iv p0, iv p1, iv p2, iv p3, iv p4, iv p5, iv cap, iv S0, iv g, iv gg, iv d1, iv d2, iv m1, iv m2, iv bS, iv bM, iv ng, iv kk, iv ff, iv ch1, u_, u_, u_, u_, u_, u_, u_, u_, u_, u_, u_, u_, u_, u_, u_, u_, u_, u_, u_, u_, u_, u_, u_, u_] [.int 48]) (fun t k => XS.bipush X0.here hx rfl (hb hby at_144) k) ?_
          refine own_s s₁ (mkF m 148 #[iv p0, iv p1, iv p2, iv p3, iv p4, iv p5, iv cap, iv S0, iv g, iv gg, iv d1, iv d2, iv m1, iv m2, iv bS, iv bM, iv ng, iv kk, iv ff, iv ch1, u_, u_, u_, u_, u_, u_, u_, u_, u_, u_, u_, u_, u_, u_, u_, u_, u_, u_, u_, u_, u_, u_, u_, u_] [.int d2, .int 48]) (fun t k => XS.iload X0.here hx rfl (hb hby at_146) rfl k) ?_
          refine own_s s₁ (mkF m 149 #[iv p0, iv p1, iv p2, iv p3, iv p4, iv p5, iv cap, iv S0, iv g, iv gg, iv d1, iv d2, iv m1, iv m2, iv bS, iv bM, iv ng, iv kk, iv ff, iv ch1, u_, u_, u_, u_, u_, u_, u_, u_, u_, u_, u_, u_, u_, u_, u_, u_, u_, u_, u_, u_, u_, u_, u_, u_] [.int ((48 : Int32) + d2)]) (fun t k => XS.iadd X0.here hx rfl (hb hby at_148) rfl k) ?_
          refine own_s s₁ (mkF m 150 #[iv p0, iv p1, iv p2, iv p3, iv p4, iv p5, iv cap, iv S0, iv g, iv gg, iv d1, iv d2, iv m1, iv m2, iv bS, iv bM, iv ng, iv kk, iv ff, iv ch1, u_, u_, u_, u_, u_, u_, u_, u_, u_, u_, u_, u_, u_, u_, u_, u_, u_, u_, u_, u_, u_, u_, u_, u_] [.int (((48 : Int32) + d2).toUInt32.toUInt16.toUInt32.toInt32)]) (fun t k => XS.i2c X0.here hx rfl (hb hby at_149) rfl k) ?_
          generalize hd_ch2 : (((48 : Int32) + d2).toUInt32.toUInt16.toUInt32.toInt32) = ch2
          refine own_s s₁ (mkF m 152 #[iv p0, iv p1, iv p2, iv p3, iv p4, iv p5, iv cap, iv S0, iv g, iv gg, iv d1, iv d2, iv m1, iv m2, iv bS, iv bM, iv ng, iv kk, iv ff, iv ch1, iv ch2, u_, u_, u_, u_, u_, u_, u_, u_, u_, u_, u_, u_, u_, u_, u_, u_, u_, u_, u_, u_, u_, u_, u_] []) (fun t k => XS.istore X0.here hx rfl (hb hby at_150) rfl (l' := #[iv p0, iv p1, iv p2, iv p3, iv p4, iv p5, iv cap, iv S0, iv g, iv gg, iv d1, iv d2, iv m1, iv m2, iv bS, iv bM, iv ng, iv kk, iv ff, iv ch1, iv ch2, u_, u_, u_, u_, u_, u_, u_, u_, u_, u_, u_, u_, u_, u_, u_, u_, u_, u_, u_, u_, u_, u_, u_]) rfl k) ?_
          have hy1 : own_dg (nar .char ch1) d1 := by rw [← hd_ch1]; exact own_chr hr1
          have hy2 : own_dg (nar .char ch2) d2 := by rw [← hd_ch2]; exact own_chr hr2
          clear hd_ch1 hd_ch2
          refine own_s s₁ (mkF m 153 #[iv p0, iv p1, iv p2, iv p3, iv p4, iv p5, iv cap, iv S0, iv g, iv gg, iv d1, iv d2, iv m1, iv m2, iv bS, iv bM, iv ng, iv kk, iv ff, iv ch1, iv ch2, u_, u_, u_, u_, u_, u_, u_, u_, u_, u_, u_, u_, u_, u_, u_, u_, u_, u_, u_, u_, u_, u_, u_] [.int 4]) (fun t k => XS.iconst X0.here hx rfl (hb hby at_152) k) ?_
          obtain ⟨T1, h1, k1, X1, e1, E1, A1, st1⟩ := newP X0 hx hZ (hW 1 _ rfl) e0 (g := (mkF m 153 #[iv p0, iv p1, iv p2, iv p3, iv p4, iv p5, iv cap, iv S0, iv g, iv gg, iv d1, iv d2, iv m1, iv m2, iv bS, iv bM, iv ng, iv kk, iv ff, iv ch1, iv ch2, u_, u_, u_, u_, u_, u_, u_, u_, u_, u_, u_, u_, u_, u_, u_, u_, u_, u_, u_, u_, u_, u_, u_] [.int 4])) rfl (hb hby at_153) rfl (by decide) (cap := 4) (by decide) (by decide) (by decide : 0 + 1 ≤ _) (by decide : 0 + 4 ≤ _)
          obtain ⟨ad1, g_ad1⟩ : ∃ z, z = h0.size := ⟨_, rfl⟩
          rw [← g_ad1] at A1 st1
          have o1 : n0 ≤ ad1 := (Nat.le_trans Z0 (Nat.le_of_eq g_ad1.symm))
          have Z1 : n0 ≤ h1.size := (Nat.le_trans Z0 E1.1)
          have O1 : Old Z n0 h1 := O0.ext E1
          have V1 : Arv Z h1 ad1 k1 .char (4 : Int32) [(.int (0 : Int32)), (.int (0 : Int32)), (.int (0 : Int32)), (.int (0 : Int32))] (.int (0 : Int32)) := (Arv.new A1 (by decide)).pad (pad_rep [] (.int (0 : Int32)) 4)
          refine own_s T1 (mkF m 155 #[iv p0, iv p1, iv p2, iv p3, iv p4, iv p5, iv cap, iv S0, iv g, iv gg, iv d1, iv d2, iv m1, iv m2, iv bS, iv bM, iv ng, iv kk, iv ff, iv ch1, iv ch2, u_, u_, u_, u_, u_, u_, u_, u_, u_, u_, u_, u_, u_, u_, u_, u_, u_, u_, u_, u_, u_, u_, u_] [.ref ad1]) st1 ?_
          refine own_s T1 (mkF m 157 #[iv p0, iv p1, iv p2, iv p3, iv p4, iv p5, iv cap, iv S0, iv g, iv gg, iv d1, iv d2, iv m1, iv m2, iv bS, iv bM, iv ng, iv kk, iv ff, iv ch1, iv ch2, rv ad1, u_, u_, u_, u_, u_, u_, u_, u_, u_, u_, u_, u_, u_, u_, u_, u_, u_, u_, u_, u_, u_, u_] []) (fun t k => XS.astore X1.here hx rfl (hb hby at_155) rfl rfl (l' := #[iv p0, iv p1, iv p2, iv p3, iv p4, iv p5, iv cap, iv S0, iv g, iv gg, iv d1, iv d2, iv m1, iv m2, iv bS, iv bM, iv ng, iv kk, iv ff, iv ch1, iv ch2, rv ad1, u_, u_, u_, u_, u_, u_, u_, u_, u_, u_, u_, u_, u_, u_, u_, u_, u_, u_, u_, u_, u_, u_]) rfl k) ?_
          refine own_s T1 (mkF m 159 #[iv p0, iv p1, iv p2, iv p3, iv p4, iv p5, iv cap, iv S0, iv g, iv gg, iv d1, iv d2, iv m1, iv m2, iv bS, iv bM, iv ng, iv kk, iv ff, iv ch1, iv ch2, rv ad1, u_, u_, u_, u_, u_, u_, u_, u_, u_, u_, u_, u_, u_, u_, u_, u_, u_, u_, u_, u_, u_, u_] [.ref ad1]) (fun t k => XS.aload X1.here hx rfl (hb hby at_157) rfl rfl k) ?_
          refine own_s T1 (mkF m 160 #[iv p0, iv p1, iv p2, iv p3, iv p4, iv p5, iv cap, iv S0, iv g, iv gg, iv d1, iv d2, iv m1, iv m2, iv bS, iv bM, iv ng, iv kk, iv ff, iv ch1, iv ch2, rv ad1, u_, u_, u_, u_, u_, u_, u_, u_, u_, u_, u_, u_, u_, u_, u_, u_, u_, u_, u_, u_, u_, u_] [.int 0, .ref ad1]) (fun t k => XS.iconst X1.here hx rfl (hb hby at_159) k) ?_
          refine own_s T1 (mkF m 162 #[iv p0, iv p1, iv p2, iv p3, iv p4, iv p5, iv cap, iv S0, iv g, iv gg, iv d1, iv d2, iv m1, iv m2, iv bS, iv bM, iv ng, iv kk, iv ff, iv ch1, iv ch2, rv ad1, u_, u_, u_, u_, u_, u_, u_, u_, u_, u_, u_, u_, u_, u_, u_, u_, u_, u_, u_, u_, u_, u_] [.int bM, .int 0, .ref ad1]) (fun t k => XS.iload X1.here hx rfl (hb hby at_160) rfl k) ?_
          have j172 : ∀ (sg0 : Int32), ((sg0 = 45 ∧ ¬ bM = 0) ∨ (sg0 = 43 ∧ bM = 0)) → own_Go p e below s (Q_law n0) 24 128 T1 (mkF m 172 #[iv p0, iv p1, iv p2, iv p3, iv p4, iv p5, iv cap, iv S0, iv g, iv gg, iv d1, iv d2, iv m1, iv m2, iv bS, iv bM, iv ng, iv kk, iv ff, iv ch1, iv ch2, rv ad1, u_, u_, u_, u_, u_, u_, u_, u_, u_, u_, u_, u_, u_, u_, u_, u_, u_, u_, u_, u_, u_, u_] [.int sg0, .int 0, .ref ad1]) := by
            intro sg0 hs0
            obtain ⟨cl2, Ar2, qa2, S2, M2, H2, U2⟩ := id V1
            obtain ⟨T2, h2, X2, e2, W2, st2⟩ := stC X1 hx hZ e1 Ar2 (j := (0 : Int32)) (inb_of S2 ⟨by decide, by decide⟩) (g := (mkF m 172 #[iv p0, iv p1, iv p2, iv p3, iv p4, iv p5, iv cap, iv S0, iv g, iv gg, iv d1, iv d2, iv m1, iv m2, iv bS, iv bM, iv ng, iv kk, iv ff, iv ch1, iv ch2, rv ad1, u_, u_, u_, u_, u_, u_, u_, u_, u_, u_, u_, u_, u_, u_, u_, u_, u_, u_, u_, u_, u_, u_] [.int sg0, .int 0, .ref ad1])) rfl rfl (hb hby at_172)
            have g3 : Arv Z h2 ad1 k1 .char (4 : Int32) [(.int (nar .char sg0)), (.int (0 : Int32)), (.int (0 : Int32)), (.int (0 : Int32))] (.int (0 : Int32)) := Arv.set Ar2 qa2 S2 M2 H2 U2 (fits_nar_char _) W2 0 rfl (Nat.le_of_ble_eq_true rfl)
            have N2 := Fr.snoc X2 N0 o1
            have Z2 : n0 ≤ h2.size := (Nat.le_trans Z1 (Nat.le_of_eq W2.size.symm))
            have O2 : Old Z n0 h2 := O1.wr W2 o1
            refine own_s T2 (mkF m 173 #[iv p0, iv p1, iv p2, iv p3, iv p4, iv p5, iv cap, iv S0, iv g, iv gg, iv d1, iv d2, iv m1, iv m2, iv bS, iv bM, iv ng, iv kk, iv ff, iv ch1, iv ch2, rv ad1, u_, u_, u_, u_, u_, u_, u_, u_, u_, u_, u_, u_, u_, u_, u_, u_, u_, u_, u_, u_, u_, u_] []) st2 ?_
            refine own_s T2 (mkF m 175 #[iv p0, iv p1, iv p2, iv p3, iv p4, iv p5, iv cap, iv S0, iv g, iv gg, iv d1, iv d2, iv m1, iv m2, iv bS, iv bM, iv ng, iv kk, iv ff, iv ch1, iv ch2, rv ad1, u_, u_, u_, u_, u_, u_, u_, u_, u_, u_, u_, u_, u_, u_, u_, u_, u_, u_, u_, u_, u_, u_] [.int kk]) (fun t k => XS.iload X2.here hx rfl (hb hby at_173) rfl k) ?_
            have hsg0 : ((nar .char sg0 = 45 ∧ ¬ bM = 0) ∨ (nar .char sg0 = 43 ∧ bM = 0)) := by
              rcases hs0 with ⟨rfl, q⟩ | ⟨rfl, q⟩
              · exact Or.inl ⟨by decide, q⟩
              · exact Or.inr ⟨by decide, q⟩
            have j295 : ∀ (sg : Int32) (y1 : Int32) (y2 : Int32) (TH295 : State) (hH295 : Heap) (lH295 : List Loc) (_ : Stand p l e room_1 s m #[(.int p0), (.int p1), (.int p2), (.int p3), (.int p4), (.int p5)] below meth c TH295 lH295 1 4) (_ : TH295.heap = hH295) (_ : Fr n0 lH295) (_ : n0 ≤ hH295.size) (_ : Old Z n0 hH295) (_ : Arv Z hH295 ad1 k1 .char (4 : Int32) (own_cs kk sg y1 y2) (.int (0 : Int32))) , ((sg = 45 ∧ ¬ bM = 0) ∨ (sg = 43 ∧ bM = 0)) → own_dg y1 d1 → own_dg y2 d2 → own_Go p e below s (Q_law n0) 24 128 TH295 (mkF m 295 #[iv p0, iv p1, iv p2, iv p3, iv p4, iv p5, iv cap, iv S0, iv g, iv gg, iv d1, iv d2, iv m1, iv m2, iv bS, iv bM, iv ng, iv kk, iv ff, iv ch1, iv ch2, rv ad1, iv (own_to kk), iv (own_vk kk), u_, u_, u_, u_, u_, u_, u_, u_, u_, u_, u_, u_, u_, u_, u_, u_, u_, u_, u_, u_] []) := by
              intro sg y1 y2 TH295 hH295 lH295 XH295 eH295 NH295 ZH295 OH295 f0H295 hsg hd1 hd2
              refine own_s TH295 (mkF m 297 #[iv p0, iv p1, iv p2, iv p3, iv p4, iv p5, iv cap, iv S0, iv g, iv gg, iv d1, iv d2, iv m1, iv m2, iv bS, iv bM, iv ng, iv kk, iv ff, iv ch1, iv ch2, rv ad1, iv (own_to kk), iv (own_vk kk), u_, u_, u_, u_, u_, u_, u_, u_, u_, u_, u_, u_, u_, u_, u_, u_, u_, u_, u_, u_] [.int bS]) (fun t k => XS.iload XH295.here hx rfl (hb hby at_295) rfl k) ?_
              have j305 : ∀ (fr1 : Int32), ((fr1 = 0 ∧ ¬ bS = 0) ∨ (fr1 = 1 ∧ bS = 0)) → own_Go p e below s (Q_law n0) 24 128 TH295 (mkF m 305 #[iv p0, iv p1, iv p2, iv p3, iv p4, iv p5, iv cap, iv S0, iv g, iv gg, iv d1, iv d2, iv m1, iv m2, iv bS, iv bM, iv ng, iv kk, iv ff, iv ch1, iv ch2, rv ad1, iv (own_to kk), iv (own_vk kk), u_, u_, u_, u_, u_, u_, u_, u_, u_, u_, u_, u_, u_, u_, u_, u_, u_, u_, u_, u_] [.int fr1]) := by
                intro fr1 hfr1
                refine own_s TH295 (mkF m 307 #[iv p0, iv p1, iv p2, iv p3, iv p4, iv p5, iv cap, iv S0, iv g, iv gg, iv d1, iv d2, iv m1, iv m2, iv bS, iv bM, iv ng, iv kk, iv ff, iv ch1, iv ch2, rv ad1, iv (own_to kk), iv (own_vk kk), iv fr1, u_, u_, u_, u_, u_, u_, u_, u_, u_, u_, u_, u_, u_, u_, u_, u_, u_, u_, u_] []) (fun t k => XS.istore XH295.here hx rfl (hb hby at_305) rfl (l' := #[iv p0, iv p1, iv p2, iv p3, iv p4, iv p5, iv cap, iv S0, iv g, iv gg, iv d1, iv d2, iv m1, iv m2, iv bS, iv bM, iv ng, iv kk, iv ff, iv ch1, iv ch2, rv ad1, iv (own_to kk), iv (own_vk kk), iv fr1, u_, u_, u_, u_, u_, u_, u_, u_, u_, u_, u_, u_, u_, u_, u_, u_, u_, u_, u_]) rfl k) ?_
                refine own_s TH295 (mkF m 308 #[iv p0, iv p1, iv p2, iv p3, iv p4, iv p5, iv cap, iv S0, iv g, iv gg, iv d1, iv d2, iv m1, iv m2, iv bS, iv bM, iv ng, iv kk, iv ff, iv ch1, iv ch2, rv ad1, iv (own_to kk), iv (own_vk kk), iv fr1, u_, u_, u_, u_, u_, u_, u_, u_, u_, u_, u_, u_, u_, u_, u_, u_, u_, u_, u_] [.int 3]) (fun t k => XS.iconst XH295.here hx rfl (hb hby at_307) k) ?_
                obtain ⟨T4, h4, k4, X4, e4, E4, A4, st4⟩ := newP XH295 hx hZ (hW 1 _ rfl) eH295 (g := (mkF m 308 #[iv p0, iv p1, iv p2, iv p3, iv p4, iv p5, iv cap, iv S0, iv g, iv gg, iv d1, iv d2, iv m1, iv m2, iv bS, iv bM, iv ng, iv kk, iv ff, iv ch1, iv ch2, rv ad1, iv (own_to kk), iv (own_vk kk), iv fr1, u_, u_, u_, u_, u_, u_, u_, u_, u_, u_, u_, u_, u_, u_, u_, u_, u_, u_, u_] [.int 3])) rfl (hb hby at_308) rfl (by decide) (cap := 3) (by decide) (by decide) (by decide : 1 + 1 ≤ _) (by decide : 4 + 3 ≤ _)
                obtain ⟨ad4, g_ad4⟩ : ∃ z, z = hH295.size := ⟨_, rfl⟩
                rw [← g_ad4] at A4 st4
                have g5 : Arv Z h4 ad1 k1 .char (4 : Int32) (own_cs kk sg y1 y2) (.int (0 : Int32)) := f0H295.ext E4
                have ne4_1 : ad1 ≠ ad4 := Nat.ne_of_lt (by rw [g_ad4]; exact f0H295.lt)
                have o4 : n0 ≤ ad4 := (Nat.le_trans ZH295 (Nat.le_of_eq g_ad4.symm))
                have Z4 : n0 ≤ h4.size := (Nat.le_trans ZH295 E4.1)
                have O4 : Old Z n0 h4 := OH295.ext E4
                have V4 : Arv Z h4 ad4 k4 .char (3 : Int32) [(.int (0 : Int32)), (.int (0 : Int32)), (.int (0 : Int32))] (.int (0 : Int32)) := (Arv.new A4 (by decide)).pad (pad_rep [] (.int (0 : Int32)) 3)
                refine own_s T4 (mkF m 310 #[iv p0, iv p1, iv p2, iv p3, iv p4, iv p5, iv cap, iv S0, iv g, iv gg, iv d1, iv d2, iv m1, iv m2, iv bS, iv bM, iv ng, iv kk, iv ff, iv ch1, iv ch2, rv ad1, iv (own_to kk), iv (own_vk kk), iv fr1, u_, u_, u_, u_, u_, u_, u_, u_, u_, u_, u_, u_, u_, u_, u_, u_, u_, u_, u_] [.ref ad4]) st4 ?_
                refine own_s T4 (mkF m 312 #[iv p0, iv p1, iv p2, iv p3, iv p4, iv p5, iv cap, iv S0, iv g, iv gg, iv d1, iv d2, iv m1, iv m2, iv bS, iv bM, iv ng, iv kk, iv ff, iv ch1, iv ch2, rv ad1, iv (own_to kk), iv (own_vk kk), iv fr1, rv ad4, u_, u_, u_, u_, u_, u_, u_, u_, u_, u_, u_, u_, u_, u_, u_, u_, u_, u_] []) (fun t k => XS.astore X4.here hx rfl (hb hby at_310) rfl rfl (l' := #[iv p0, iv p1, iv p2, iv p3, iv p4, iv p5, iv cap, iv S0, iv g, iv gg, iv d1, iv d2, iv m1, iv m2, iv bS, iv bM, iv ng, iv kk, iv ff, iv ch1, iv ch2, rv ad1, iv (own_to kk), iv (own_vk kk), iv fr1, rv ad4, u_, u_, u_, u_, u_, u_, u_, u_, u_, u_, u_, u_, u_, u_, u_, u_, u_, u_]) rfl k) ?_
                refine own_s T4 (mkF m 314 #[iv p0, iv p1, iv p2, iv p3, iv p4, iv p5, iv cap, iv S0, iv g, iv gg, iv d1, iv d2, iv m1, iv m2, iv bS, iv bM, iv ng, iv kk, iv ff, iv ch1, iv ch2, rv ad1, iv (own_to kk), iv (own_vk kk), iv fr1, rv ad4, u_, u_, u_, u_, u_, u_, u_, u_, u_, u_, u_, u_, u_, u_, u_, u_, u_, u_] [.ref ad4]) (fun t k => XS.aload X4.here hx rfl (hb hby at_312) rfl rfl k) ?_
                refine own_s T4 (mkF m 315 #[iv p0, iv p1, iv p2, iv p3, iv p4, iv p5, iv cap, iv S0, iv g, iv gg, iv d1, iv d2, iv m1, iv m2, iv bS, iv bM, iv ng, iv kk, iv ff, iv ch1, iv ch2, rv ad1, iv (own_to kk), iv (own_vk kk), iv fr1, rv ad4, u_, u_, u_, u_, u_, u_, u_, u_, u_, u_, u_, u_, u_, u_, u_, u_, u_, u_] [.int 0, .ref ad4]) (fun t k => XS.iconst X4.here hx rfl (hb hby at_314) k) ?_
                refine own_s T4 (mkF m 317 #[iv p0, iv p1, iv p2, iv p3, iv p4, iv p5, iv cap, iv S0, iv g, iv gg, iv d1, iv d2, iv m1, iv m2, iv bS, iv bM, iv ng, iv kk, iv ff, iv ch1, iv ch2, rv ad1, iv (own_to kk), iv (own_vk kk), iv fr1, rv ad4, u_, u_, u_, u_, u_, u_, u_, u_, u_, u_, u_, u_, u_, u_, u_, u_, u_, u_] [.int 46, .int 0, .ref ad4]) (fun t k => XS.bipush X4.here hx rfl (hb hby at_315) k) ?_
                obtain ⟨cl6, Ar6, qa6, S6, M6, H6, U6⟩ := id V4
                obtain ⟨T6, h6, X6, e6, W6, st6⟩ := stC X4 hx hZ e4 Ar6 (j := (0 : Int32)) (inb_of S6 ⟨by decide, by decide⟩) (g := (mkF m 317 #[iv p0, iv p1, iv p2, iv p3, iv p4, iv p5, iv cap, iv S0, iv g, iv gg, iv d1, iv d2, iv m1, iv m2, iv bS, iv bM, iv ng, iv kk, iv ff, iv ch1, iv ch2, rv ad1, iv (own_to kk), iv (own_vk kk), iv fr1, rv ad4, u_, u_, u_, u_, u_, u_, u_, u_, u_, u_, u_, u_, u_, u_, u_, u_, u_, u_] [.int 46, .int 0, .ref ad4])) rfl rfl (hb hby at_317)
                have g7 : Arv Z h6 ad1 k1 .char (4 : Int32) (own_cs kk sg y1 y2) (.int (0 : Int32)) := g5.other W6 ne4_1
                have g8 : Arv Z h6 ad4 k4 .char (3 : Int32) [(.int (nar .char (46 : Int32))), (.int (0 : Int32)), (.int (0 : Int32))] (.int (0 : Int32)) := Arv.set Ar6 qa6 S6 M6 H6 U6 (fits_nar_char _) W6 0 rfl (Nat.le_of_ble_eq_true rfl)
                have N6 := Fr.snoc X6 NH295 o4
                have Z6 : n0 ≤ h6.size := (Nat.le_trans Z4 (Nat.le_of_eq W6.size.symm))
                have O6 : Old Z n0 h6 := O4.wr W6 o4
                refine own_s T6 (mkF m 318 #[iv p0, iv p1, iv p2, iv p3, iv p4, iv p5, iv cap, iv S0, iv g, iv gg, iv d1, iv d2, iv m1, iv m2, iv bS, iv bM, iv ng, iv kk, iv ff, iv ch1, iv ch2, rv ad1, iv (own_to kk), iv (own_vk kk), iv fr1, rv ad4, u_, u_, u_, u_, u_, u_, u_, u_, u_, u_, u_, u_, u_, u_, u_, u_, u_, u_] []) st6 ?_
                refine own_s T6 (mkF m 320 #[iv p0, iv p1, iv p2, iv p3, iv p4, iv p5, iv cap, iv S0, iv g, iv gg, iv d1, iv d2, iv m1, iv m2, iv bS, iv bM, iv ng, iv kk, iv ff, iv ch1, iv ch2, rv ad1, iv (own_to kk), iv (own_vk kk), iv fr1, rv ad4, u_, u_, u_, u_, u_, u_, u_, u_, u_, u_, u_, u_, u_, u_, u_, u_, u_, u_] [.ref ad4]) (fun t k => XS.aload X6.here hx rfl (hb hby at_318) rfl rfl k) ?_
                refine own_s T6 (mkF m 321 #[iv p0, iv p1, iv p2, iv p3, iv p4, iv p5, iv cap, iv S0, iv g, iv gg, iv d1, iv d2, iv m1, iv m2, iv bS, iv bM, iv ng, iv kk, iv ff, iv ch1, iv ch2, rv ad1, iv (own_to kk), iv (own_vk kk), iv fr1, rv ad4, u_, u_, u_, u_, u_, u_, u_, u_, u_, u_, u_, u_, u_, u_, u_, u_, u_, u_] [.int 1, .ref ad4]) (fun t k => XS.iconst X6.here hx rfl (hb hby at_320) k) ?_
                refine own_s T6 (mkF m 323 #[iv p0, iv p1, iv p2, iv p3, iv p4, iv p5, iv cap, iv S0, iv g, iv gg, iv d1, iv d2, iv m1, iv m2, iv bS, iv bM, iv ng, iv kk, iv ff, iv ch1, iv ch2, rv ad1, iv (own_to kk), iv (own_vk kk), iv fr1, rv ad4, u_, u_, u_, u_, u_, u_, u_, u_, u_, u_, u_, u_, u_, u_, u_, u_, u_, u_] [.int 48, .int 1, .ref ad4]) (fun t k => XS.bipush X6.here hx rfl (hb hby at_321) k) ?_
                refine own_s T6 (mkF m 325 #[iv p0, iv p1, iv p2, iv p3, iv p4, iv p5, iv cap, iv S0, iv g, iv gg, iv d1, iv d2, iv m1, iv m2, iv bS, iv bM, iv ng, iv kk, iv ff, iv ch1, iv ch2, rv ad1, iv (own_to kk), iv (own_vk kk), iv fr1, rv ad4, u_, u_, u_, u_, u_, u_, u_, u_, u_, u_, u_, u_, u_, u_, u_, u_, u_, u_] [.int m1, .int 48, .int 1, .ref ad4]) (fun t k => XS.iload X6.here hx rfl (hb hby at_323) rfl k) ?_
                refine own_s T6 (mkF m 326 #[iv p0, iv p1, iv p2, iv p3, iv p4, iv p5, iv cap, iv S0, iv g, iv gg, iv d1, iv d2, iv m1, iv m2, iv bS, iv bM, iv ng, iv kk, iv ff, iv ch1, iv ch2, rv ad1, iv (own_to kk), iv (own_vk kk), iv fr1, rv ad4, u_, u_, u_, u_, u_, u_, u_, u_, u_, u_, u_, u_, u_, u_, u_, u_, u_, u_] [.int ((48 : Int32) + m1), .int 1, .ref ad4]) (fun t k => XS.iadd X6.here hx rfl (hb hby at_325) rfl k) ?_
                refine own_s T6 (mkF m 327 #[iv p0, iv p1, iv p2, iv p3, iv p4, iv p5, iv cap, iv S0, iv g, iv gg, iv d1, iv d2, iv m1, iv m2, iv bS, iv bM, iv ng, iv kk, iv ff, iv ch1, iv ch2, rv ad1, iv (own_to kk), iv (own_vk kk), iv fr1, rv ad4, u_, u_, u_, u_, u_, u_, u_, u_, u_, u_, u_, u_, u_, u_, u_, u_, u_, u_] [.int (((48 : Int32) + m1).toUInt32.toUInt16.toUInt32.toInt32), .int 1, .ref ad4]) (fun t k => XS.i2c X6.here hx rfl (hb hby at_326) rfl k) ?_
                obtain ⟨cl9, Ar9, qa9, S9, M9, H9, U9⟩ := id g8
                obtain ⟨T9, h9, X9, e9, W9, st9⟩ := stC X6 hx hZ e6 Ar9 (j := (1 : Int32)) (inb_of S9 ⟨by decide, by decide⟩) (g := (mkF m 327 #[iv p0, iv p1, iv p2, iv p3, iv p4, iv p5, iv cap, iv S0, iv g, iv gg, iv d1, iv d2, iv m1, iv m2, iv bS, iv bM, iv ng, iv kk, iv ff, iv ch1, iv ch2, rv ad1, iv (own_to kk), iv (own_vk kk), iv fr1, rv ad4, u_, u_, u_, u_, u_, u_, u_, u_, u_, u_, u_, u_, u_, u_, u_, u_, u_, u_] [.int (((48 : Int32) + m1).toUInt32.toUInt16.toUInt32.toInt32), .int 1, .ref ad4])) rfl rfl (hb hby at_327)
                have g10 : Arv Z h9 ad1 k1 .char (4 : Int32) (own_cs kk sg y1 y2) (.int (0 : Int32)) := g7.other W9 ne4_1
                have g11 : Arv Z h9 ad4 k4 .char (3 : Int32) [(.int (nar .char (46 : Int32))), (.int (nar .char (((48 : Int32) + m1).toUInt32.toUInt16.toUInt32.toInt32))), (.int (0 : Int32))] (.int (0 : Int32)) := Arv.set Ar9 qa9 S9 M9 H9 U9 (fits_nar_char _) W9 1 rfl (Nat.le_of_ble_eq_true rfl)
                have N9 := Fr.snoc X9 N6 o4
                have Z9 : n0 ≤ h9.size := (Nat.le_trans Z6 (Nat.le_of_eq W9.size.symm))
                have O9 : Old Z n0 h9 := O6.wr W9 o4
                refine own_s T9 (mkF m 328 #[iv p0, iv p1, iv p2, iv p3, iv p4, iv p5, iv cap, iv S0, iv g, iv gg, iv d1, iv d2, iv m1, iv m2, iv bS, iv bM, iv ng, iv kk, iv ff, iv ch1, iv ch2, rv ad1, iv (own_to kk), iv (own_vk kk), iv fr1, rv ad4, u_, u_, u_, u_, u_, u_, u_, u_, u_, u_, u_, u_, u_, u_, u_, u_, u_, u_] []) st9 ?_
                refine own_s T9 (mkF m 330 #[iv p0, iv p1, iv p2, iv p3, iv p4, iv p5, iv cap, iv S0, iv g, iv gg, iv d1, iv d2, iv m1, iv m2, iv bS, iv bM, iv ng, iv kk, iv ff, iv ch1, iv ch2, rv ad1, iv (own_to kk), iv (own_vk kk), iv fr1, rv ad4, u_, u_, u_, u_, u_, u_, u_, u_, u_, u_, u_, u_, u_, u_, u_, u_, u_, u_] [.ref ad4]) (fun t k => XS.aload X9.here hx rfl (hb hby at_328) rfl rfl k) ?_
                refine own_s T9 (mkF m 331 #[iv p0, iv p1, iv p2, iv p3, iv p4, iv p5, iv cap, iv S0, iv g, iv gg, iv d1, iv d2, iv m1, iv m2, iv bS, iv bM, iv ng, iv kk, iv ff, iv ch1, iv ch2, rv ad1, iv (own_to kk), iv (own_vk kk), iv fr1, rv ad4, u_, u_, u_, u_, u_, u_, u_, u_, u_, u_, u_, u_, u_, u_, u_, u_, u_, u_] [.int 2, .ref ad4]) (fun t k => XS.iconst X9.here hx rfl (hb hby at_330) k) ?_
                refine own_s T9 (mkF m 333 #[iv p0, iv p1, iv p2, iv p3, iv p4, iv p5, iv cap, iv S0, iv g, iv gg, iv d1, iv d2, iv m1, iv m2, iv bS, iv bM, iv ng, iv kk, iv ff, iv ch1, iv ch2, rv ad1, iv (own_to kk), iv (own_vk kk), iv fr1, rv ad4, u_, u_, u_, u_, u_, u_, u_, u_, u_, u_, u_, u_, u_, u_, u_, u_, u_, u_] [.int 48, .int 2, .ref ad4]) (fun t k => XS.bipush X9.here hx rfl (hb hby at_331) k) ?_
                refine own_s T9 (mkF m 335 #[iv p0, iv p1, iv p2, iv p3, iv p4, iv p5, iv cap, iv S0, iv g, iv gg, iv d1, iv d2, iv m1, iv m2, iv bS, iv bM, iv ng, iv kk, iv ff, iv ch1, iv ch2, rv ad1, iv (own_to kk), iv (own_vk kk), iv fr1, rv ad4, u_, u_, u_, u_, u_, u_, u_, u_, u_, u_, u_, u_, u_, u_, u_, u_, u_, u_] [.int m2, .int 48, .int 2, .ref ad4]) (fun t k => XS.iload X9.here hx rfl (hb hby at_333) rfl k) ?_
                refine own_s T9 (mkF m 336 #[iv p0, iv p1, iv p2, iv p3, iv p4, iv p5, iv cap, iv S0, iv g, iv gg, iv d1, iv d2, iv m1, iv m2, iv bS, iv bM, iv ng, iv kk, iv ff, iv ch1, iv ch2, rv ad1, iv (own_to kk), iv (own_vk kk), iv fr1, rv ad4, u_, u_, u_, u_, u_, u_, u_, u_, u_, u_, u_, u_, u_, u_, u_, u_, u_, u_] [.int ((48 : Int32) + m2), .int 2, .ref ad4]) (fun t k => XS.iadd X9.here hx rfl (hb hby at_335) rfl k) ?_
                refine own_s T9 (mkF m 337 #[iv p0, iv p1, iv p2, iv p3, iv p4, iv p5, iv cap, iv S0, iv g, iv gg, iv d1, iv d2, iv m1, iv m2, iv bS, iv bM, iv ng, iv kk, iv ff, iv ch1, iv ch2, rv ad1, iv (own_to kk), iv (own_vk kk), iv fr1, rv ad4, u_, u_, u_, u_, u_, u_, u_, u_, u_, u_, u_, u_, u_, u_, u_, u_, u_, u_] [.int (((48 : Int32) + m2).toUInt32.toUInt16.toUInt32.toInt32), .int 2, .ref ad4]) (fun t k => XS.i2c X9.here hx rfl (hb hby at_336) rfl k) ?_
                obtain ⟨cl12, Ar12, qa12, S12, M12, H12, U12⟩ := id g11
                obtain ⟨T12, h12, X12, e12, W12, st12⟩ := stC X9 hx hZ e9 Ar12 (j := (2 : Int32)) (inb_of S12 ⟨by decide, by decide⟩) (g := (mkF m 337 #[iv p0, iv p1, iv p2, iv p3, iv p4, iv p5, iv cap, iv S0, iv g, iv gg, iv d1, iv d2, iv m1, iv m2, iv bS, iv bM, iv ng, iv kk, iv ff, iv ch1, iv ch2, rv ad1, iv (own_to kk), iv (own_vk kk), iv fr1, rv ad4, u_, u_, u_, u_, u_, u_, u_, u_, u_, u_, u_, u_, u_, u_, u_, u_, u_, u_] [.int (((48 : Int32) + m2).toUInt32.toUInt16.toUInt32.toInt32), .int 2, .ref ad4])) rfl rfl (hb hby at_337)
                have g13 : Arv Z h12 ad1 k1 .char (4 : Int32) (own_cs kk sg y1 y2) (.int (0 : Int32)) := g10.other W12 ne4_1
                have g14 : Arv Z h12 ad4 k4 .char (3 : Int32) [(.int (nar .char (46 : Int32))), (.int (nar .char (((48 : Int32) + m1).toUInt32.toUInt16.toUInt32.toInt32))), (.int (nar .char (((48 : Int32) + m2).toUInt32.toUInt16.toUInt32.toInt32)))] (.int (0 : Int32)) := Arv.set Ar12 qa12 S12 M12 H12 U12 (fits_nar_char _) W12 2 rfl (Nat.le_of_ble_eq_true rfl)
                have N12 := Fr.snoc X12 N9 o4
                have Z12 : n0 ≤ h12.size := (Nat.le_trans Z9 (Nat.le_of_eq W12.size.symm))
                have O12 : Old Z n0 h12 := O9.wr W12 o4
                refine own_s T12 (mkF m 338 #[iv p0, iv p1, iv p2, iv p3, iv p4, iv p5, iv cap, iv S0, iv g, iv gg, iv d1, iv d2, iv m1, iv m2, iv bS, iv bM, iv ng, iv kk, iv ff, iv ch1, iv ch2, rv ad1, iv (own_to kk), iv (own_vk kk), iv fr1, rv ad4, u_, u_, u_, u_, u_, u_, u_, u_, u_, u_, u_, u_, u_, u_, u_, u_, u_, u_] []) st12 ?_
                refine own_s T12 (mkF m 340 #[iv p0, iv p1, iv p2, iv p3, iv p4, iv p5, iv cap, iv S0, iv g, iv gg, iv d1, iv d2, iv m1, iv m2, iv bS, iv bM, iv ng, iv kk, iv ff, iv ch1, iv ch2, rv ad1, iv (own_to kk), iv (own_vk kk), iv fr1, rv ad4, u_, u_, u_, u_, u_, u_, u_, u_, u_, u_, u_, u_, u_, u_, u_, u_, u_, u_] [.int ff]) (fun t k => XS.iload X12.here hx rfl (hb hby at_338) rfl k) ?_
                have j348 : own_Go p e below s (Q_law n0) 24 128 T12 (mkF m 348 #[iv p0, iv p1, iv p2, iv p3, iv p4, iv p5, iv cap, iv S0, iv g, iv gg, iv d1, iv d2, iv m1, iv m2, iv bS, iv bM, iv ng, iv kk, iv ff, iv ch1, iv ch2, rv ad1, iv (own_to kk), iv (own_vk kk), iv fr1, rv ad4, u_, u_, u_, u_, u_, u_, u_, u_, u_, u_, u_, u_, u_, u_, u_, u_, u_, u_] [.int (own_fr2 ff)]) := by
                  refine own_s T12 (mkF m 350 #[iv p0, iv p1, iv p2, iv p3, iv p4, iv p5, iv cap, iv S0, iv g, iv gg, iv d1, iv d2, iv m1, iv m2, iv bS, iv bM, iv ng, iv kk, iv ff, iv ch1, iv ch2, rv ad1, iv (own_to kk), iv (own_vk kk), iv fr1, rv ad4, iv (own_fr2 ff), u_, u_, u_, u_, u_, u_, u_, u_, u_, u_, u_, u_, u_, u_, u_, u_, u_] []) (fun t k => XS.istore X12.here hx rfl (hb hby at_348) rfl (l' := #[iv p0, iv p1, iv p2, iv p3, iv p4, iv p5, iv cap, iv S0, iv g, iv gg, iv d1, iv d2, iv m1, iv m2, iv bS, iv bM, iv ng, iv kk, iv ff, iv ch1, iv ch2, rv ad1, iv (own_to kk), iv (own_vk kk), iv fr1, rv ad4, iv (own_fr2 ff), u_, u_, u_, u_, u_, u_, u_, u_, u_, u_, u_, u_, u_, u_, u_, u_, u_]) rfl k) ?_
                  refine own_s T12 (mkF m 352 #[iv p0, iv p1, iv p2, iv p3, iv p4, iv p5, iv cap, iv S0, iv g, iv gg, iv d1, iv d2, iv m1, iv m2, iv bS, iv bM, iv ng, iv kk, iv ff, iv ch1, iv ch2, rv ad1, iv (own_to kk), iv (own_vk kk), iv fr1, rv ad4, iv (own_fr2 ff), u_, u_, u_, u_, u_, u_, u_, u_, u_, u_, u_, u_, u_, u_, u_, u_, u_] [.int ff]) (fun t k => XS.iload X12.here hx rfl (hb hby at_350) rfl k) ?_
                  have j360 : own_Go p e below s (Q_law n0) 24 128 T12 (mkF m 360 #[iv p0, iv p1, iv p2, iv p3, iv p4, iv p5, iv cap, iv S0, iv g, iv gg, iv d1, iv d2, iv m1, iv m2, iv bS, iv bM, iv ng, iv kk, iv ff, iv ch1, iv ch2, rv ad1, iv (own_to kk), iv (own_vk kk), iv fr1, rv ad4, iv (own_fr2 ff), u_, u_, u_, u_, u_, u_, u_, u_, u_, u_, u_, u_, u_, u_, u_, u_, u_] [.int (own_vf ff)]) := by
                    refine own_s T12 (mkF m 362 #[iv p0, iv p1, iv p2, iv p3, iv p4, iv p5, iv cap, iv S0, iv g, iv gg, iv d1, iv d2, iv m1, iv m2, iv bS, iv bM, iv ng, iv kk, iv ff, iv ch1, iv ch2, rv ad1, iv (own_to kk), iv (own_vk kk), iv fr1, rv ad4, iv (own_fr2 ff), iv (own_vf ff), u_, u_, u_, u_, u_, u_, u_, u_, u_, u_, u_, u_, u_, u_, u_, u_] []) (fun t k => XS.istore X12.here hx rfl (hb hby at_360) rfl (l' := #[iv p0, iv p1, iv p2, iv p3, iv p4, iv p5, iv cap, iv S0, iv g, iv gg, iv d1, iv d2, iv m1, iv m2, iv bS, iv bM, iv ng, iv kk, iv ff, iv ch1, iv ch2, rv ad1, iv (own_to kk), iv (own_vk kk), iv fr1, rv ad4, iv (own_fr2 ff), iv (own_vf ff), u_, u_, u_, u_, u_, u_, u_, u_, u_, u_, u_, u_, u_, u_, u_, u_]) rfl k) ?_
                    obtain ⟨T15, h15, X15, e15, E15, A15, D15, -, st15⟩ := newO X12 hx hZ hown (hW 2 _ rfl) (hW 3 _ rfl) (hW 4 _ rfl) e12 (g := (mkF m 362 #[iv p0, iv p1, iv p2, iv p3, iv p4, iv p5, iv cap, iv S0, iv g, iv gg, iv d1, iv d2, iv m1, iv m2, iv bS, iv bM, iv ng, iv kk, iv ff, iv ch1, iv ch2, rv ad1, iv (own_to kk), iv (own_vk kk), iv fr1, rv ad4, iv (own_fr2 ff), iv (own_vf ff), u_, u_, u_, u_, u_, u_, u_, u_, u_, u_, u_, u_, u_, u_, u_, u_] [])) rfl (hb hby at_362) (by decide : 2 + 1 ≤ _) (by decide : 7 + 3 ≤ _)
                    obtain ⟨ad15, g_ad15⟩ : ∃ z, z = h12.size := ⟨_, rfl⟩
                    rw [← g_ad15] at A15 D15 st15
                    have g16 : Arv Z h15 ad1 k1 .char (4 : Int32) (own_cs kk sg y1 y2) (.int (0 : Int32)) := g13.ext E15
                    have g17 : Arv Z h15 ad4 k4 .char (3 : Int32) [(.int (nar .char (46 : Int32))), (.int (nar .char (((48 : Int32) + m1).toUInt32.toUInt16.toUInt32.toInt32))), (.int (nar .char (((48 : Int32) + m2).toUInt32.toUInt16.toUInt32.toInt32)))] (.int (0 : Int32)) := g14.ext E15
                    have ne15_1 : ad1 ≠ ad15 := Nat.ne_of_lt (by rw [g_ad15]; exact g13.lt)
                    have ne15_2 : ad4 ≠ ad15 := Nat.ne_of_lt (by rw [g_ad15]; exact g14.lt)
                    have o15 : n0 ≤ ad15 := (Nat.le_trans Z12 (Nat.le_of_eq g_ad15.symm))
                    have Z15 : n0 ≤ h15.size := (Nat.le_trans Z12 E15.1)
                    have O15 : Old Z n0 h15 := O12.ext E15
                    have g18 : Fld Z h15 ad15 "com/example/viewlattice/viewlattice/engine/DecimalSums" "small" "[J" .null := D15 (Or.inl (hW 13 _ rfl)) (ty := .array .long) (by decide)
                    have g19 : Fld Z h15 ad15 "com/example/viewlattice/viewlattice/engine/DecimalSums" "scale" "I" (.int (0 : Int32)) := D15 (Or.inl (hW 15 _ rfl)) (ty := .int) (by decide)
                    have g20 : Fld Z h15 ad15 "com/example/viewlattice/viewlattice/engine/DecimalSums" "big" "[Ljava/math/BigInteger;" .null := D15 (Or.inl (hW 67 _ rfl)) (ty := .array (.object "java/math/BigInteger")) (by decide)
                    refine own_s T15 (mkF m 365 #[iv p0, iv p1, iv p2, iv p3, iv p4, iv p5, iv cap, iv S0, iv g, iv gg, iv d1, iv d2, iv m1, iv m2, iv bS, iv bM, iv ng, iv kk, iv ff, iv ch1, iv ch2, rv ad1, iv (own_to kk), iv (own_vk kk), iv fr1, rv ad4, iv (own_fr2 ff), iv (own_vf ff), u_, u_, u_, u_, u_, u_, u_, u_, u_, u_, u_, u_, u_, u_, u_, u_] [.ref ad15]) st15 ?_
                    refine own_s T15 (mkF m 366 #[iv p0, iv p1, iv p2, iv p3, iv p4, iv p5, iv cap, iv S0, iv g, iv gg, iv d1, iv d2, iv m1, iv m2, iv bS, iv bM, iv ng, iv kk, iv ff, iv ch1, iv ch2, rv ad1, iv (own_to kk), iv (own_vk kk), iv fr1, rv ad4, iv (own_fr2 ff), iv (own_vf ff), u_, u_, u_, u_, u_, u_, u_, u_, u_, u_, u_, u_, u_, u_, u_, u_] [.ref ad15, .ref ad15]) (fun t k => XS.dup X15.here hx rfl (hb hby at_365) rfl rfl k) ?_
                    refine own_s T15 (mkF m 368 #[iv p0, iv p1, iv p2, iv p3, iv p4, iv p5, iv cap, iv S0, iv g, iv gg, iv d1, iv d2, iv m1, iv m2, iv bS, iv bM, iv ng, iv kk, iv ff, iv ch1, iv ch2, rv ad1, iv (own_to kk), iv (own_vk kk), iv fr1, rv ad4, iv (own_fr2 ff), iv (own_vf ff), u_, u_, u_, u_, u_, u_, u_, u_, u_, u_, u_, u_, u_, u_, u_, u_] [.int cap, .ref ad15, .ref ad15]) (fun t k => XS.iload X15.here hx rfl (hb hby at_366) rfl k) ?_
                    refine own_s T15 (mkF m 370 #[iv p0, iv p1, iv p2, iv p3, iv p4, iv p5, iv cap, iv S0, iv g, iv gg, iv d1, iv d2, iv m1, iv m2, iv bS, iv bM, iv ng, iv kk, iv ff, iv ch1, iv ch2, rv ad1, iv (own_to kk), iv (own_vk kk), iv fr1, rv ad4, iv (own_fr2 ff), iv (own_vf ff), u_, u_, u_, u_, u_, u_, u_, u_, u_, u_, u_, u_, u_, u_, u_, u_] [.int S0, .int cap, .ref ad15, .ref ad15]) (fun t k => XS.iload X15.here hx rfl (hb hby at_368) rfl k) ?_
                    obtain ⟨_, _, ⟨T24, L24, k24, n24⟩, -, X24, ⟨Lc24, hQ24, lq24, yq24, zq24⟩, st24⟩ := X15.specialBack hx (y := (⟨"com/example/viewlattice/viewlattice/engine/DecimalSums", "<init>", "(II)V"⟩ : MethodName)) rfl hown (mvT hZ (hW 5 _ rfl)) (mvT hZ (hW 6 _ rfl)) (mvT hZ (hW 7 _ rfl)) (by decide) (backOf (W := 1) (rm_dsi l Z a0 hw [] ad15 cap S0 .null (.int (0 : Int32)) h15 n0 Z15 A15 g18 g19 o15 hcap) hZ (hW 7 _ rfl) (hW 4 _ rfl) (by decide) (by decide)) (g := (mkF m 370 #[iv p0, iv p1, iv p2, iv p3, iv p4, iv p5, iv cap, iv S0, iv g, iv gg, iv d1, iv d2, iv m1, iv m2, iv bS, iv bM, iv ng, iv kk, iv ff, iv ch1, iv ch2, rv ad1, iv (own_to kk), iv (own_vk kk), iv fr1, rv ad4, iv (own_fr2 ff), iv (own_vf ff), u_, u_, u_, u_, u_, u_, u_, u_, u_, u_, u_, u_, u_, u_, u_, u_] [.int S0, .int cap, .ref ad15, .ref ad15])) rfl (by rw [hml]; rfl) (Steps.refl _) (a := ad15) (argsL := [(.int cap), (.int S0)]) (rest := [(.ref ad15)]) (lenOf pd_5 rfl) rfl (by show 2 * 0 + _ ≤ _; exact Nat.le_of_eq rfl) (hb hby at_370) (fun _ _ => ⟨rfl, e15, (by decide : 3 + 1 ≤ _), (by decide : 10 + 4 ≤ _)⟩)
                    dsimp only [Pt.U, Pt.locs, Pt.cells, Pt.slots] at X24 lq24 yq24 zq24 st24 hQ24
                    subst lq24 yq24 zq24
                    obtain ⟨b_21, kb_21, rfl, Nq24, K22, fz_b_21, nz_ad15_b_21, g23⟩ := hQ24
                    have N24 := Fr.app N12 Nq24
                    have oz_b_21 : n0 ≤ b_21 := Nat.le_trans Z15 fz_b_21
                    have nz_ad1_b_21 : ad1 ≠ b_21 := Nat.ne_of_lt (Nat.lt_of_lt_of_le g16.lt fz_b_21)
                    have nz_ad4_b_21 : ad4 ≠ b_21 := Nat.ne_of_lt (Nat.lt_of_lt_of_le g17.lt fz_b_21)
                    have nz_ad15_b_21 : ad15 ≠ b_21 := Nat.ne_of_lt (Nat.lt_of_lt_of_le A15.lt fz_b_21)
                    have g25 : Arv Z T24.heap ad1 k1 .char (4 : Int32) (own_cs kk sg y1 y2) (.int (0 : Int32)) := g16.keep K22 (ninS ne15_1 nin0)
                    have g26 : Arv Z T24.heap ad4 k4 .char (3 : Int32) [(.int (nar .char (46 : Int32))), (.int (nar .char (((48 : Int32) + m1).toUInt32.toUInt16.toUInt32.toInt32))), (.int (nar .char (((48 : Int32) + m2).toUInt32.toUInt16.toUInt32.toInt32)))] (.int (0 : Int32)) := g17.keep K22 (ninS ne15_2 nin0)
                    have g27 : Exa Z T24.heap ad15 "com/example/viewlattice/viewlattice/engine/DecimalSums" := A15.keep K22
                    have Z22 : n0 ≤ T24.heap.size := (Nat.le_trans Z15 K22.1)
                    have O22 : Old Z n0 T24.heap := O15.keep K22 (allS (P := fun x => n0 ≤ x) o15 all0)
                    refine own_tr (T' := T24) (g' := (mkF m 373 #[iv p0, iv p1, iv p2, iv p3, iv p4, iv p5, iv cap, iv S0, iv g, iv gg, iv d1, iv d2, iv m1, iv m2, iv bS, iv bM, iv ng, iv kk, iv ff, iv ch1, iv ch2, rv ad1, iv (own_to kk), iv (own_vk kk), iv fr1, rv ad4, iv (own_fr2 ff), iv (own_vf ff), u_, u_, u_, u_, u_, u_, u_, u_, u_, u_, u_, u_, u_, u_, u_, u_] [.ref ad15])) st24 ?_
                    refine own_s T24 (mkF m 375 #[iv p0, iv p1, iv p2, iv p3, iv p4, iv p5, iv cap, iv S0, iv g, iv gg, iv d1, iv d2, iv m1, iv m2, iv bS, iv bM, iv ng, iv kk, iv ff, iv ch1, iv ch2, rv ad1, iv (own_to kk), iv (own_vk kk), iv fr1, rv ad4, iv (own_fr2 ff), iv (own_vf ff), rv ad15, u_, u_, u_, u_, u_, u_, u_, u_, u_, u_, u_, u_, u_, u_, u_] []) (fun t k => XS.astore X24.here hx rfl (hb hby at_373) rfl rfl (l' := #[iv p0, iv p1, iv p2, iv p3, iv p4, iv p5, iv cap, iv S0, iv g, iv gg, iv d1, iv d2, iv m1, iv m2, iv bS, iv bM, iv ng, iv kk, iv ff, iv ch1, iv ch2, rv ad1, iv (own_to kk), iv (own_vk kk), iv fr1, rv ad4, iv (own_fr2 ff), iv (own_vf ff), rv ad15, u_, u_, u_, u_, u_, u_, u_, u_, u_, u_, u_, u_, u_, u_, u_]) rfl k) ?_
                    refine own_s T24 (mkF m 377 #[iv p0, iv p1, iv p2, iv p3, iv p4, iv p5, iv cap, iv S0, iv g, iv gg, iv d1, iv d2, iv m1, iv m2, iv bS, iv bM, iv ng, iv kk, iv ff, iv ch1, iv ch2, rv ad1, iv (own_to kk), iv (own_vk kk), iv fr1, rv ad4, iv (own_fr2 ff), iv (own_vf ff), rv ad15, u_, u_, u_, u_, u_, u_, u_, u_, u_, u_, u_, u_, u_, u_, u_] [.ref ad15]) (fun t k => XS.aload X24.here hx rfl (hb hby at_375) rfl rfl k) ?_
                    obtain ⟨cq31, kq31, q31a, q31b, q31c⟩ := isOf hZ rfl g27
                    obtain ⟨_, _, ⟨T30, L30, k30, n30⟩, -, X30, ⟨Lc30, hQ30, lq30, yq30, zq30⟩, st30⟩ := X24.virtualBack hx (y := (⟨"com/example/viewlattice/viewlattice/engine/DecimalSums", "getUnscaledLongs", "()[J"⟩ : MethodName)) (z := (⟨"com/example/viewlattice/viewlattice/engine/DecimalSums", "getUnscaledLongs", "()[J"⟩ : MethodName)) hown (mvT hZ (hW 16 _ rfl)) (mvT hZ (hW 17 _ rfl)) (notFace_of_selects (args := #[]) (mvT hZ (hW 19 _ rfl))) (mvT hZ (hW 19 _ rfl)) (mvT hZ (hW 18 _ rfl)) (by decide) (backOf (W := 0) (rm_gul l Z a0 hw [] ad15 b_21 kb_21 cap S0 (0 : Int64) (0 : Int64) (0 : Int64) (0 : Int64) T24.heap n0 Z22 g23) hZ (hW 20 _ rfl) (hW 4 _ rfl) (by decide) (by decide)) q31a q31c (g := (mkF m 377 #[iv p0, iv p1, iv p2, iv p3, iv p4, iv p5, iv cap, iv S0, iv g, iv gg, iv d1, iv d2, iv m1, iv m2, iv bS, iv bM, iv ng, iv kk, iv ff, iv ch1, iv ch2, rv ad1, iv (own_to kk), iv (own_vk kk), iv fr1, rv ad4, iv (own_fr2 ff), iv (own_vf ff), rv ad15, u_, u_, u_, u_, u_, u_, u_, u_, u_, u_, u_, u_, u_, u_, u_] [.ref ad15])) rfl (by rw [hml]; rfl) (Steps.refl _) (argsL := []) (rest := []) (lenOf pd_6 rfl) rfl (by show 2 * 0 + _ ≤ _; exact Nat.le_of_eq rfl) (hb hby at_377) (fun _ _ => ⟨rfl, rfl, (by decide : 4 + 0 ≤ _), (by decide : 14 + 0 ≤ _)⟩)
                    dsimp only [Pt.U, Pt.locs, Pt.cells, Pt.slots] at X30 lq30 yq30 zq30 st30 hQ30
                    subst lq30 yq30 zq30
                    obtain ⟨rfl, Nq30, eq29⟩ := hQ30
                    have N30 := Fr.app N24 Nq30
                    refine own_tr (T' := T30) (g' := (mkF m 380 #[iv p0, iv p1, iv p2, iv p3, iv p4, iv p5, iv cap, iv S0, iv g, iv gg, iv d1, iv d2, iv m1, iv m2, iv bS, iv bM, iv ng, iv kk, iv ff, iv ch1, iv ch2, rv ad1, iv (own_to kk), iv (own_vk kk), iv fr1, rv ad4, iv (own_fr2 ff), iv (own_vf ff), rv ad15, u_, u_, u_, u_, u_, u_, u_, u_, u_, u_, u_, u_, u_, u_, u_] [.ref b_21])) st30 ?_
                    refine own_s T30 (mkF m 382 #[iv p0, iv p1, iv p2, iv p3, iv p4, iv p5, iv cap, iv S0, iv g, iv gg, iv d1, iv d2, iv m1, iv m2, iv bS, iv bM, iv ng, iv kk, iv ff, iv ch1, iv ch2, rv ad1, iv (own_to kk), iv (own_vk kk), iv fr1, rv ad4, iv (own_fr2 ff), iv (own_vf ff), rv ad15, rv b_21, u_, u_, u_, u_, u_, u_, u_, u_, u_, u_, u_, u_, u_, u_] []) (fun t k => XS.astore X30.here hx rfl (hb hby at_380) rfl rfl (l' := #[iv p0, iv p1, iv p2, iv p3, iv p4, iv p5, iv cap, iv S0, iv g, iv gg, iv d1, iv d2, iv m1, iv m2, iv bS, iv bM, iv ng, iv kk, iv ff, iv ch1, iv ch2, rv ad1, iv (own_to kk), iv (own_vk kk), iv fr1, rv ad4, iv (own_fr2 ff), iv (own_vf ff), rv ad15, rv b_21, u_, u_, u_, u_, u_, u_, u_, u_, u_, u_, u_, u_, u_, u_]) rfl k) ?_
                    refine own_s T30 (mkF m 384 #[iv p0, iv p1, iv p2, iv p3, iv p4, iv p5, iv cap, iv S0, iv g, iv gg, iv d1, iv d2, iv m1, iv m2, iv bS, iv bM, iv ng, iv kk, iv ff, iv ch1, iv ch2, rv ad1, iv (own_to kk), iv (own_vk kk), iv fr1, rv ad4, iv (own_fr2 ff), iv (own_vf ff), rv ad15, rv b_21, u_, u_, u_, u_, u_, u_, u_, u_, u_, u_, u_, u_, u_, u_] [.ref b_21]) (fun t k => XS.aload X30.here hx rfl (hb hby at_382) rfl rfl k) ?_
                    obtain ⟨cl32, Ar32, qa32, S32, M32, H32, U32⟩ := id g23.2.2.2.1
                    have ln32 := len_of S32 M32
                    refine own_s T30 (mkF m 385 #[iv p0, iv p1, iv p2, iv p3, iv p4, iv p5, iv cap, iv S0, iv g, iv gg, iv d1, iv d2, iv m1, iv m2, iv bS, iv bM, iv ng, iv kk, iv ff, iv ch1, iv ch2, rv ad1, iv (own_to kk), iv (own_vk kk), iv fr1, rv ad4, iv (own_fr2 ff), iv (own_vf ff), rv ad15, rv b_21, u_, u_, u_, u_, u_, u_, u_, u_, u_, u_, u_, u_, u_, u_] [.int cap]) (fun t k => X30.arraylength hx (cell := cl32) (by rw [eq29]; exact Ar32.1) (State.isArrayOf_alike hZ.alike Ar32.2.1) (g := (mkF m 384 #[iv p0, iv p1, iv p2, iv p3, iv p4, iv p5, iv cap, iv S0, iv g, iv gg, iv d1, iv d2, iv m1, iv m2, iv bS, iv bM, iv ng, iv kk, iv ff, iv ch1, iv ch2, rv ad1, iv (own_to kk), iv (own_vk kk), iv fr1, rv ad4, iv (own_fr2 ff), iv (own_vf ff), rv ad15, rv b_21, u_, u_, u_, u_, u_, u_, u_, u_, u_, u_, u_, u_, u_, u_] [.ref b_21])) rfl rfl (hb hby at_384) t (by rw [ln32]; exact k)) ?_
                    refine own_s T30 (mkF m 387 #[iv p0, iv p1, iv p2, iv p3, iv p4, iv p5, iv cap, iv S0, iv g, iv gg, iv d1, iv d2, iv m1, iv m2, iv bS, iv bM, iv ng, iv kk, iv ff, iv ch1, iv ch2, rv ad1, iv (own_to kk), iv (own_vk kk), iv fr1, rv ad4, iv (own_fr2 ff), iv (own_vf ff), rv ad15, rv b_21, u_, u_, u_, u_, u_, u_, u_, u_, u_, u_, u_, u_, u_, u_] [.int cap, .int cap]) (fun t k => XS.iload X30.here hx rfl (hb hby at_385) rfl k) ?_
                    refine own_s T30 (mkF m 390 #[iv p0, iv p1, iv p2, iv p3, iv p4, iv p5, iv cap, iv S0, iv g, iv gg, iv d1, iv d2, iv m1, iv m2, iv bS, iv bM, iv ng, iv kk, iv ff, iv ch1, iv ch2, rv ad1, iv (own_to kk), iv (own_vk kk), iv fr1, rv ad4, iv (own_fr2 ff), iv (own_vf ff), rv ad15, rv b_21, u_, u_, u_, u_, u_, u_, u_, u_, u_, u_, u_, u_, u_, u_] []) (fun t k => XS.icmpNo X30.here hx rfl (hb hby at_387) rfl (teq rfl).2 k) ?_
                    refine own_s T30 (mkF m 392 #[iv p0, iv p1, iv p2, iv p3, iv p4, iv p5, iv cap, iv S0, iv g, iv gg, iv d1, iv d2, iv m1, iv m2, iv bS, iv bM, iv ng, iv kk, iv ff, iv ch1, iv ch2, rv ad1, iv (own_to kk), iv (own_vk kk), iv fr1, rv ad4, iv (own_fr2 ff), iv (own_vf ff), rv ad15, rv b_21, u_, u_, u_, u_, u_, u_, u_, u_, u_, u_, u_, u_, u_, u_] [.ref b_21]) (fun t k => XS.aload X30.here hx rfl (hb hby at_390) rfl rfl k) ?_
                    refine own_s T30 (mkF m 393 #[iv p0, iv p1, iv p2, iv p3, iv p4, iv p5, iv cap, iv S0, iv g, iv gg, iv d1, iv d2, iv m1, iv m2, iv bS, iv bM, iv ng, iv kk, iv ff, iv ch1, iv ch2, rv ad1, iv (own_to kk), iv (own_vk kk), iv fr1, rv ad4, iv (own_fr2 ff), iv (own_vf ff), rv ad15, rv b_21, u_, u_, u_, u_, u_, u_, u_, u_, u_, u_, u_, u_, u_, u_] [.int 0, .ref b_21]) (fun t k => XS.iconst X30.here hx rfl (hb hby at_392) k) ?_
                    refine own_s T30 (mkF m 395 #[iv p0, iv p1, iv p2, iv p3, iv p4, iv p5, iv cap, iv S0, iv g, iv gg, iv d1, iv d2, iv m1, iv m2, iv bS, iv bM, iv ng, iv kk, iv ff, iv ch1, iv ch2, rv ad1, iv (own_to kk), iv (own_vk kk), iv fr1, rv ad4, iv (own_fr2 ff), iv (own_vf ff), rv ad15, rv b_21, u_, u_, u_, u_, u_, u_, u_, u_, u_, u_, u_, u_, u_, u_] [.int cap, .int 0, .ref b_21]) (fun t k => XS.iload X30.here hx rfl (hb hby at_393) rfl k) ?_
                    refine own_s T30 (mkF m 397 #[iv p0, iv p1, iv p2, iv p3, iv p4, iv p5, iv cap, iv S0, iv g, iv gg, iv d1, iv d2, iv m1, iv m2, iv bS, iv bM, iv ng, iv kk, iv ff, iv ch1, iv ch2, rv ad1, iv (own_to kk), iv (own_vk kk), iv fr1, rv ad4, iv (own_fr2 ff), iv (own_vf ff), rv ad15, rv b_21, u_, u_, u_, u_, u_, u_, u_, u_, u_, u_, u_, u_, u_, u_] [.int g, .int cap, .int 0, .ref b_21]) (fun t k => XS.iload X30.here hx rfl (hb hby at_395) rfl k) ?_
                    refine own_s T30 (mkF m 399 #[iv p0, iv p1, iv p2, iv p3, iv p4, iv p5, iv cap, iv S0, iv g, iv gg, iv d1, iv d2, iv m1, iv m2, iv bS, iv bM, iv ng, iv kk, iv ff, iv ch1, iv ch2, rv ad1, iv (own_to kk), iv (own_vk kk), iv fr1, rv ad4, iv (own_fr2 ff), iv (own_vf ff), rv ad15, rv b_21, u_, u_, u_, u_, u_, u_, u_, u_, u_, u_, u_, u_, u_, u_] [.int gg, .int g, .int cap, .int 0, .ref b_21]) (fun t k => XS.iload X30.here hx rfl (hb hby at_397) rfl k) ?_
                    refine own_s T30 (mkF m 400 #[iv p0, iv p1, iv p2, iv p3, iv p4, iv p5, iv cap, iv S0, iv g, iv gg, iv d1, iv d2, iv m1, iv m2, iv bS, iv bM, iv ng, iv kk, iv ff, iv ch1, iv ch2, rv ad1, iv (own_to kk), iv (own_vk kk), iv fr1, rv ad4, iv (own_fr2 ff), iv (own_vf ff), rv ad15, rv b_21, u_, u_, u_, u_, u_, u_, u_, u_, u_, u_, u_, u_, u_, u_] [.long 0, .int gg, .int g, .int cap, .int 0, .ref b_21]) (fun t k => XS.lconst X30.here hx rfl (hb hby at_399) k) ?_
                    refine own_s T30 (mkF m 401 #[iv p0, iv p1, iv p2, iv p3, iv p4, iv p5, iv cap, iv S0, iv g, iv gg, iv d1, iv d2, iv m1, iv m2, iv bS, iv bM, iv ng, iv kk, iv ff, iv ch1, iv ch2, rv ad1, iv (own_to kk), iv (own_vk kk), iv fr1, rv ad4, iv (own_fr2 ff), iv (own_vf ff), rv ad15, rv b_21, u_, u_, u_, u_, u_, u_, u_, u_, u_, u_, u_, u_, u_, u_] [.long 0, .long 0, .int gg, .int g, .int cap, .int 0, .ref b_21]) (fun t k => XS.lconst X30.here hx rfl (hb hby at_400) k) ?_
                    obtain ⟨_, _, ⟨T35, L35, k35, n35⟩, -, X35, ⟨Lc35, hQ35, lq35, yq35, zq35⟩, st35⟩ := Jvm.LawKit.callS X30 hx (y := (⟨"com/example/viewlattice/viewlattice/engine/DecimalSumsGetUnscaledLongsPinLaw", "cell", "([JIIIIJJ)Z"⟩ : MethodName)) hown (mvT hZ (hW 21 _ rfl)) (mvT hZ (hW 22 _ rfl)) (mvT hZ (hW 23 _ rfl)) (mvT hZ (hW 24 _ rfl)) (by decide) (backOf (W := 0) (rm_cel0 l Z a0 hw [] b_21 kb_21 cap g gg (0 : Int64) (0 : Int64) (0 : Int64) (0 : Int64) (0 : Int64) (0 : Int64) T24.heap n0 Z22 g23.2.2.2.1 hcap (fun _ => own_z0 _ _)) hZ (hW 24 _ rfl) (hW 23 _ rfl) (by decide) (by decide)) (g := (mkF m 401 #[iv p0, iv p1, iv p2, iv p3, iv p4, iv p5, iv cap, iv S0, iv g, iv gg, iv d1, iv d2, iv m1, iv m2, iv bS, iv bM, iv ng, iv kk, iv ff, iv ch1, iv ch2, rv ad1, iv (own_to kk), iv (own_vk kk), iv fr1, rv ad4, iv (own_fr2 ff), iv (own_vf ff), rv ad15, rv b_21, u_, u_, u_, u_, u_, u_, u_, u_, u_, u_, u_, u_, u_, u_] [.long 0, .long 0, .int gg, .int g, .int cap, .int 0, .ref b_21])) rfl (by rw [hml]; rfl) (argsL := [(.ref b_21), (.int (0 : Int32)), (.int cap), (.int g), (.int gg), (.long (0 : Int64)), (.long (0 : Int64))]) (rest := []) (lenOf pd_7 rfl) rfl (by show 2 * 0 + _ ≤ _; exact Nat.le_of_eq rfl) (hb hby at_401) (fun _ _ => ⟨rfl, eq29, (by decide : 4 + 0 ≤ _), (by decide : 14 + 0 ≤ _)⟩)
                    dsimp only [Pt.U, Pt.locs, Pt.cells, Pt.slots] at X35 lq35 yq35 zq35 st35 hQ35
                    subst lq35 yq35 zq35
                    obtain ⟨rfl, Nq35, eq34⟩ := hQ35
                    have N35 := Fr.app N30 Nq35
                    refine own_s T35 (mkF m 404 #[iv p0, iv p1, iv p2, iv p3, iv p4, iv p5, iv cap, iv S0, iv g, iv gg, iv d1, iv d2, iv m1, iv m2, iv bS, iv bM, iv ng, iv kk, iv ff, iv ch1, iv ch2, rv ad1, iv (own_to kk), iv (own_vk kk), iv fr1, rv ad4, iv (own_fr2 ff), iv (own_vf ff), rv ad15, rv b_21, u_, u_, u_, u_, u_, u_, u_, u_, u_, u_, u_, u_, u_, u_] [.int 1]) st35 ?_
                    refine own_s T35 (mkF m 407 #[iv p0, iv p1, iv p2, iv p3, iv p4, iv p5, iv cap, iv S0, iv g, iv gg, iv d1, iv d2, iv m1, iv m2, iv bS, iv bM, iv ng, iv kk, iv ff, iv ch1, iv ch2, rv ad1, iv (own_to kk), iv (own_vk kk), iv fr1, rv ad4, iv (own_fr2 ff), iv (own_vf ff), rv ad15, rv b_21, u_, u_, u_, u_, u_, u_, u_, u_, u_, u_, u_, u_, u_, u_] []) (fun t k => XS.ifNo X35.here hx rfl (hb hby at_404) rfl ((if0 _ _).trans (feq (by decide : ¬ ((1 : Int32) = (0 : Int32)))).1) k) ?_
                    refine own_s T35 (mkF m 409 #[iv p0, iv p1, iv p2, iv p3, iv p4, iv p5, iv cap, iv S0, iv g, iv gg, iv d1, iv d2, iv m1, iv m2, iv bS, iv bM, iv ng, iv kk, iv ff, iv ch1, iv ch2, rv ad1, iv (own_to kk), iv (own_vk kk), iv fr1, rv ad4, iv (own_fr2 ff), iv (own_vf ff), rv ad15, rv b_21, u_, u_, u_, u_, u_, u_, u_, u_, u_, u_, u_, u_, u_, u_] [.ref b_21]) (fun t k => XS.aload X35.here hx rfl (hb hby at_407) rfl rfl k) ?_
                    refine own_s T35 (mkF m 410 #[iv p0, iv p1, iv p2, iv p3, iv p4, iv p5, iv cap, iv S0, iv g, iv gg, iv d1, iv d2, iv m1, iv m2, iv bS, iv bM, iv ng, iv kk, iv ff, iv ch1, iv ch2, rv ad1, iv (own_to kk), iv (own_vk kk), iv fr1, rv ad4, iv (own_fr2 ff), iv (own_vf ff), rv ad15, rv b_21, u_, u_, u_, u_, u_, u_, u_, u_, u_, u_, u_, u_, u_, u_] [.int 1, .ref b_21]) (fun t k => XS.iconst X35.here hx rfl (hb hby at_409) k) ?_
                    refine own_s T35 (mkF m 412 #[iv p0, iv p1, iv p2, iv p3, iv p4, iv p5, iv cap, iv S0, iv g, iv gg, iv d1, iv d2, iv m1, iv m2, iv bS, iv bM, iv ng, iv kk, iv ff, iv ch1, iv ch2, rv ad1, iv (own_to kk), iv (own_vk kk), iv fr1, rv ad4, iv (own_fr2 ff), iv (own_vf ff), rv ad15, rv b_21, u_, u_, u_, u_, u_, u_, u_, u_, u_, u_, u_, u_, u_, u_] [.int cap, .int 1, .ref b_21]) (fun t k => XS.iload X35.here hx rfl (hb hby at_410) rfl k) ?_
                    refine own_s T35 (mkF m 414 #[iv p0, iv p1, iv p2, iv p3, iv p4, iv p5, iv cap, iv S0, iv g, iv gg, iv d1, iv d2, iv m1, iv m2, iv bS, iv bM, iv ng, iv kk, iv ff, iv ch1, iv ch2, rv ad1, iv (own_to kk), iv (own_vk kk), iv fr1, rv ad4, iv (own_fr2 ff), iv (own_vf ff), rv ad15, rv b_21, u_, u_, u_, u_, u_, u_, u_, u_, u_, u_, u_, u_, u_, u_] [.int g, .int cap, .int 1, .ref b_21]) (fun t k => XS.iload X35.here hx rfl (hb hby at_412) rfl k) ?_
                    refine own_s T35 (mkF m 416 #[iv p0, iv p1, iv p2, iv p3, iv p4, iv p5, iv cap, iv S0, iv g, iv gg, iv d1, iv d2, iv m1, iv m2, iv bS, iv bM, iv ng, iv kk, iv ff, iv ch1, iv ch2, rv ad1, iv (own_to kk), iv (own_vk kk), iv fr1, rv ad4, iv (own_fr2 ff), iv (own_vf ff), rv ad15, rv b_21, u_, u_, u_, u_, u_, u_, u_, u_, u_, u_, u_, u_, u_, u_] [.int gg, .int g, .int cap, .int 1, .ref b_21]) (fun t k => XS.iload X35.here hx rfl (hb hby at_414) rfl k) ?_
                    refine own_s T35 (mkF m 417 #[iv p0, iv p1, iv p2, iv p3, iv p4, iv p5, iv cap, iv S0, iv g, iv gg, iv d1, iv d2, iv m1, iv m2, iv bS, iv bM, iv ng, iv kk, iv ff, iv ch1, iv ch2, rv ad1, iv (own_to kk), iv (own_vk kk), iv fr1, rv ad4, iv (own_fr2 ff), iv (own_vf ff), rv ad15, rv b_21, u_, u_, u_, u_, u_, u_, u_, u_, u_, u_, u_, u_, u_, u_] [.long 0, .int gg, .int g, .int cap, .int 1, .ref b_21]) (fun t k => XS.lconst X35.here hx rfl (hb hby at_416) k) ?_
                    refine own_s T35 (mkF m 418 #[iv p0, iv p1, iv p2, iv p3, iv p4, iv p5, iv cap, iv S0, iv g, iv gg, iv d1, iv d2, iv m1, iv m2, iv bS, iv bM, iv ng, iv kk, iv ff, iv ch1, iv ch2, rv ad1, iv (own_to kk), iv (own_vk kk), iv fr1, rv ad4, iv (own_fr2 ff), iv (own_vf ff), rv ad15, rv b_21, u_, u_, u_, u_, u_, u_, u_, u_, u_, u_, u_, u_, u_, u_] [.long 0, .long 0, .int gg, .int g, .int cap, .int 1, .ref b_21]) (fun t k => XS.lconst X35.here hx rfl (hb hby at_417) k) ?_
                    obtain ⟨_, _, ⟨T38, L38, k38, n38⟩, -, X38, ⟨Lc38, hQ38, lq38, yq38, zq38⟩, st38⟩ := Jvm.LawKit.callS X35 hx (y := (⟨"com/example/viewlattice/viewlattice/engine/DecimalSumsGetUnscaledLongsPinLaw", "cell", "([JIIIIJJ)Z"⟩ : MethodName)) hown (mvT hZ (hW 21 _ rfl)) (mvT hZ (hW 22 _ rfl)) (mvT hZ (hW 23 _ rfl)) (mvT hZ (hW 24 _ rfl)) (by decide) (backOf (W := 0) (rm_cel1 l Z a0 hw [] b_21 kb_21 cap g gg (0 : Int64) (0 : Int64) (0 : Int64) (0 : Int64) (0 : Int64) (0 : Int64) T24.heap n0 Z22 g23.2.2.2.1 hcap (fun _ => own_z0 _ _)) hZ (hW 24 _ rfl) (hW 23 _ rfl) (by decide) (by decide)) (g := (mkF m 418 #[iv p0, iv p1, iv p2, iv p3, iv p4, iv p5, iv cap, iv S0, iv g, iv gg, iv d1, iv d2, iv m1, iv m2, iv bS, iv bM, iv ng, iv kk, iv ff, iv ch1, iv ch2, rv ad1, iv (own_to kk), iv (own_vk kk), iv fr1, rv ad4, iv (own_fr2 ff), iv (own_vf ff), rv ad15, rv b_21, u_, u_, u_, u_, u_, u_, u_, u_, u_, u_, u_, u_, u_, u_] [.long 0, .long 0, .int gg, .int g, .int cap, .int 1, .ref b_21])) rfl (by rw [hml]; rfl) (argsL := [(.ref b_21), (.int (1 : Int32)), (.int cap), (.int g), (.int gg), (.long (0 : Int64)), (.long (0 : Int64))]) (rest := []) (lenOf pd_7 rfl) rfl (by show 2 * 0 + _ ≤ _; exact Nat.le_of_eq rfl) (hb hby at_418) (fun _ _ => ⟨rfl, eq34, (by decide : 4 + 0 ≤ _), (by decide : 14 + 0 ≤ _)⟩)
                    dsimp only [Pt.U, Pt.locs, Pt.cells, Pt.slots] at X38 lq38 yq38 zq38 st38 hQ38
                    subst lq38 yq38 zq38
                    obtain ⟨rfl, Nq38, eq37⟩ := hQ38
                    have N38 := Fr.app N35 Nq38
                    refine own_s T38 (mkF m 421 #[iv p0, iv p1, iv p2, iv p3, iv p4, iv p5, iv cap, iv S0, iv g, iv gg, iv d1, iv d2, iv m1, iv m2, iv bS, iv bM, iv ng, iv kk, iv ff, iv ch1, iv ch2, rv ad1, iv (own_to kk), iv (own_vk kk), iv fr1, rv ad4, iv (own_fr2 ff), iv (own_vf ff), rv ad15, rv b_21, u_, u_, u_, u_, u_, u_, u_, u_, u_, u_, u_, u_, u_, u_] [.int 1]) st38 ?_
                    refine own_s T38 (mkF m 424 #[iv p0, iv p1, iv p2, iv p3, iv p4, iv p5, iv cap, iv S0, iv g, iv gg, iv d1, iv d2, iv m1, iv m2, iv bS, iv bM, iv ng, iv kk, iv ff, iv ch1, iv ch2, rv ad1, iv (own_to kk), iv (own_vk kk), iv fr1, rv ad4, iv (own_fr2 ff), iv (own_vf ff), rv ad15, rv b_21, u_, u_, u_, u_, u_, u_, u_, u_, u_, u_, u_, u_, u_, u_] []) (fun t k => XS.ifNo X38.here hx rfl (hb hby at_421) rfl ((if0 _ _).trans (feq (by decide : ¬ ((1 : Int32) = (0 : Int32)))).1) k) ?_
                    refine own_s T38 (mkF m 426 #[iv p0, iv p1, iv p2, iv p3, iv p4, iv p5, iv cap, iv S0, iv g, iv gg, iv d1, iv d2, iv m1, iv m2, iv bS, iv bM, iv ng, iv kk, iv ff, iv ch1, iv ch2, rv ad1, iv (own_to kk), iv (own_vk kk), iv fr1, rv ad4, iv (own_fr2 ff), iv (own_vf ff), rv ad15, rv b_21, u_, u_, u_, u_, u_, u_, u_, u_, u_, u_, u_, u_, u_, u_] [.ref b_21]) (fun t k => XS.aload X38.here hx rfl (hb hby at_424) rfl rfl k) ?_
                    refine own_s T38 (mkF m 427 #[iv p0, iv p1, iv p2, iv p3, iv p4, iv p5, iv cap, iv S0, iv g, iv gg, iv d1, iv d2, iv m1, iv m2, iv bS, iv bM, iv ng, iv kk, iv ff, iv ch1, iv ch2, rv ad1, iv (own_to kk), iv (own_vk kk), iv fr1, rv ad4, iv (own_fr2 ff), iv (own_vf ff), rv ad15, rv b_21, u_, u_, u_, u_, u_, u_, u_, u_, u_, u_, u_, u_, u_, u_] [.int 2, .ref b_21]) (fun t k => XS.iconst X38.here hx rfl (hb hby at_426) k) ?_
                    refine own_s T38 (mkF m 429 #[iv p0, iv p1, iv p2, iv p3, iv p4, iv p5, iv cap, iv S0, iv g, iv gg, iv d1, iv d2, iv m1, iv m2, iv bS, iv bM, iv ng, iv kk, iv ff, iv ch1, iv ch2, rv ad1, iv (own_to kk), iv (own_vk kk), iv fr1, rv ad4, iv (own_fr2 ff), iv (own_vf ff), rv ad15, rv b_21, u_, u_, u_, u_, u_, u_, u_, u_, u_, u_, u_, u_, u_, u_] [.int cap, .int 2, .ref b_21]) (fun t k => XS.iload X38.here hx rfl (hb hby at_427) rfl k) ?_
                    refine own_s T38 (mkF m 431 #[iv p0, iv p1, iv p2, iv p3, iv p4, iv p5, iv cap, iv S0, iv g, iv gg, iv d1, iv d2, iv m1, iv m2, iv bS, iv bM, iv ng, iv kk, iv ff, iv ch1, iv ch2, rv ad1, iv (own_to kk), iv (own_vk kk), iv fr1, rv ad4, iv (own_fr2 ff), iv (own_vf ff), rv ad15, rv b_21, u_, u_, u_, u_, u_, u_, u_, u_, u_, u_, u_, u_, u_, u_] [.int g, .int cap, .int 2, .ref b_21]) (fun t k => XS.iload X38.here hx rfl (hb hby at_429) rfl k) ?_
                    refine own_s T38 (mkF m 433 #[iv p0, iv p1, iv p2, iv p3, iv p4, iv p5, iv cap, iv S0, iv g, iv gg, iv d1, iv d2, iv m1, iv m2, iv bS, iv bM, iv ng, iv kk, iv ff, iv ch1, iv ch2, rv ad1, iv (own_to kk), iv (own_vk kk), iv fr1, rv ad4, iv (own_fr2 ff), iv (own_vf ff), rv ad15, rv b_21, u_, u_, u_, u_, u_, u_, u_, u_, u_, u_, u_, u_, u_, u_] [.int gg, .int g, .int cap, .int 2, .ref b_21]) (fun t k => XS.iload X38.here hx rfl (hb hby at_431) rfl k) ?_
                    refine own_s T38 (mkF m 434 #[iv p0, iv p1, iv p2, iv p3, iv p4, iv p5, iv cap, iv S0, iv g, iv gg, iv d1, iv d2, iv m1, iv m2, iv bS, iv bM, iv ng, iv kk, iv ff, iv ch1, iv ch2, rv ad1, iv (own_to kk), iv (own_vk kk), iv fr1, rv ad4, iv (own_fr2 ff), iv (own_vf ff), rv ad15, rv b_21, u_, u_, u_, u_, u_, u_, u_, u_, u_, u_, u_, u_, u_, u_] [.long 0, .int gg, .int g, .int cap, .int 2, .ref b_21]) (fun t k => XS.lconst X38.here hx rfl (hb hby at_433) k) ?_
                    refine own_s T38 (mkF m 435 #[iv p0, iv p1, iv p2, iv p3, iv p4, iv p5, iv cap, iv S0, iv g, iv gg, iv d1, iv d2, iv m1, iv m2, iv bS, iv bM, iv ng, iv kk, iv ff, iv ch1, iv ch2, rv ad1, iv (own_to kk), iv (own_vk kk), iv fr1, rv ad4, iv (own_fr2 ff), iv (own_vf ff), rv ad15, rv b_21, u_, u_, u_, u_, u_, u_, u_, u_, u_, u_, u_, u_, u_, u_] [.long 0, .long 0, .int gg, .int g, .int cap, .int 2, .ref b_21]) (fun t k => XS.lconst X38.here hx rfl (hb hby at_434) k) ?_
                    obtain ⟨_, _, ⟨T41, L41, k41, n41⟩, -, X41, ⟨Lc41, hQ41, lq41, yq41, zq41⟩, st41⟩ := Jvm.LawKit.callS X38 hx (y := (⟨"com/example/viewlattice/viewlattice/engine/DecimalSumsGetUnscaledLongsPinLaw", "cell", "([JIIIIJJ)Z"⟩ : MethodName)) hown (mvT hZ (hW 21 _ rfl)) (mvT hZ (hW 22 _ rfl)) (mvT hZ (hW 23 _ rfl)) (mvT hZ (hW 24 _ rfl)) (by decide) (backOf (W := 0) (rm_cel2 l Z a0 hw [] b_21 kb_21 cap g gg (0 : Int64) (0 : Int64) (0 : Int64) (0 : Int64) (0 : Int64) (0 : Int64) T24.heap n0 Z22 g23.2.2.2.1 hcap (fun _ => own_z0 _ _)) hZ (hW 24 _ rfl) (hW 23 _ rfl) (by decide) (by decide)) (g := (mkF m 435 #[iv p0, iv p1, iv p2, iv p3, iv p4, iv p5, iv cap, iv S0, iv g, iv gg, iv d1, iv d2, iv m1, iv m2, iv bS, iv bM, iv ng, iv kk, iv ff, iv ch1, iv ch2, rv ad1, iv (own_to kk), iv (own_vk kk), iv fr1, rv ad4, iv (own_fr2 ff), iv (own_vf ff), rv ad15, rv b_21, u_, u_, u_, u_, u_, u_, u_, u_, u_, u_, u_, u_, u_, u_] [.long 0, .long 0, .int gg, .int g, .int cap, .int 2, .ref b_21])) rfl (by rw [hml]; rfl) (argsL := [(.ref b_21), (.int (2 : Int32)), (.int cap), (.int g), (.int gg), (.long (0 : Int64)), (.long (0 : Int64))]) (rest := []) (lenOf pd_7 rfl) rfl (by show 2 * 0 + _ ≤ _; exact Nat.le_of_eq rfl) (hb hby at_435) (fun _ _ => ⟨rfl, eq37, (by decide : 4 + 0 ≤ _), (by decide : 14 + 0 ≤ _)⟩)
                    dsimp only [Pt.U, Pt.locs, Pt.cells, Pt.slots] at X41 lq41 yq41 zq41 st41 hQ41
                    subst lq41 yq41 zq41
                    obtain ⟨rfl, Nq41, eq40⟩ := hQ41
                    have N41 := Fr.app N38 Nq41
                    refine own_s T41 (mkF m 438 #[iv p0, iv p1, iv p2, iv p3, iv p4, iv p5, iv cap, iv S0, iv g, iv gg, iv d1, iv d2, iv m1, iv m2, iv bS, iv bM, iv ng, iv kk, iv ff, iv ch1, iv ch2, rv ad1, iv (own_to kk), iv (own_vk kk), iv fr1, rv ad4, iv (own_fr2 ff), iv (own_vf ff), rv ad15, rv b_21, u_, u_, u_, u_, u_, u_, u_, u_, u_, u_, u_, u_, u_, u_] [.int 1]) st41 ?_
                    refine own_s T41 (mkF m 441 #[iv p0, iv p1, iv p2, iv p3, iv p4, iv p5, iv cap, iv S0, iv g, iv gg, iv d1, iv d2, iv m1, iv m2, iv bS, iv bM, iv ng, iv kk, iv ff, iv ch1, iv ch2, rv ad1, iv (own_to kk), iv (own_vk kk), iv fr1, rv ad4, iv (own_fr2 ff), iv (own_vf ff), rv ad15, rv b_21, u_, u_, u_, u_, u_, u_, u_, u_, u_, u_, u_, u_, u_, u_] []) (fun t k => XS.ifNo X41.here hx rfl (hb hby at_438) rfl ((if0 _ _).trans (feq (by decide : ¬ ((1 : Int32) = (0 : Int32)))).1) k) ?_
                    refine own_s T41 (mkF m 443 #[iv p0, iv p1, iv p2, iv p3, iv p4, iv p5, iv cap, iv S0, iv g, iv gg, iv d1, iv d2, iv m1, iv m2, iv bS, iv bM, iv ng, iv kk, iv ff, iv ch1, iv ch2, rv ad1, iv (own_to kk), iv (own_vk kk), iv fr1, rv ad4, iv (own_fr2 ff), iv (own_vf ff), rv ad15, rv b_21, u_, u_, u_, u_, u_, u_, u_, u_, u_, u_, u_, u_, u_, u_] [.ref b_21]) (fun t k => XS.aload X41.here hx rfl (hb hby at_441) rfl rfl k) ?_
                    refine own_s T41 (mkF m 444 #[iv p0, iv p1, iv p2, iv p3, iv p4, iv p5, iv cap, iv S0, iv g, iv gg, iv d1, iv d2, iv m1, iv m2, iv bS, iv bM, iv ng, iv kk, iv ff, iv ch1, iv ch2, rv ad1, iv (own_to kk), iv (own_vk kk), iv fr1, rv ad4, iv (own_fr2 ff), iv (own_vf ff), rv ad15, rv b_21, u_, u_, u_, u_, u_, u_, u_, u_, u_, u_, u_, u_, u_, u_] [.int 3, .ref b_21]) (fun t k => XS.iconst X41.here hx rfl (hb hby at_443) k) ?_
                    refine own_s T41 (mkF m 446 #[iv p0, iv p1, iv p2, iv p3, iv p4, iv p5, iv cap, iv S0, iv g, iv gg, iv d1, iv d2, iv m1, iv m2, iv bS, iv bM, iv ng, iv kk, iv ff, iv ch1, iv ch2, rv ad1, iv (own_to kk), iv (own_vk kk), iv fr1, rv ad4, iv (own_fr2 ff), iv (own_vf ff), rv ad15, rv b_21, u_, u_, u_, u_, u_, u_, u_, u_, u_, u_, u_, u_, u_, u_] [.int cap, .int 3, .ref b_21]) (fun t k => XS.iload X41.here hx rfl (hb hby at_444) rfl k) ?_
                    refine own_s T41 (mkF m 448 #[iv p0, iv p1, iv p2, iv p3, iv p4, iv p5, iv cap, iv S0, iv g, iv gg, iv d1, iv d2, iv m1, iv m2, iv bS, iv bM, iv ng, iv kk, iv ff, iv ch1, iv ch2, rv ad1, iv (own_to kk), iv (own_vk kk), iv fr1, rv ad4, iv (own_fr2 ff), iv (own_vf ff), rv ad15, rv b_21, u_, u_, u_, u_, u_, u_, u_, u_, u_, u_, u_, u_, u_, u_] [.int g, .int cap, .int 3, .ref b_21]) (fun t k => XS.iload X41.here hx rfl (hb hby at_446) rfl k) ?_
                    refine own_s T41 (mkF m 450 #[iv p0, iv p1, iv p2, iv p3, iv p4, iv p5, iv cap, iv S0, iv g, iv gg, iv d1, iv d2, iv m1, iv m2, iv bS, iv bM, iv ng, iv kk, iv ff, iv ch1, iv ch2, rv ad1, iv (own_to kk), iv (own_vk kk), iv fr1, rv ad4, iv (own_fr2 ff), iv (own_vf ff), rv ad15, rv b_21, u_, u_, u_, u_, u_, u_, u_, u_, u_, u_, u_, u_, u_, u_] [.int gg, .int g, .int cap, .int 3, .ref b_21]) (fun t k => XS.iload X41.here hx rfl (hb hby at_448) rfl k) ?_
                    refine own_s T41 (mkF m 451 #[iv p0, iv p1, iv p2, iv p3, iv p4, iv p5, iv cap, iv S0, iv g, iv gg, iv d1, iv d2, iv m1, iv m2, iv bS, iv bM, iv ng, iv kk, iv ff, iv ch1, iv ch2, rv ad1, iv (own_to kk), iv (own_vk kk), iv fr1, rv ad4, iv (own_fr2 ff), iv (own_vf ff), rv ad15, rv b_21, u_, u_, u_, u_, u_, u_, u_, u_, u_, u_, u_, u_, u_, u_] [.long 0, .int gg, .int g, .int cap, .int 3, .ref b_21]) (fun t k => XS.lconst X41.here hx rfl (hb hby at_450) k) ?_
                    refine own_s T41 (mkF m 452 #[iv p0, iv p1, iv p2, iv p3, iv p4, iv p5, iv cap, iv S0, iv g, iv gg, iv d1, iv d2, iv m1, iv m2, iv bS, iv bM, iv ng, iv kk, iv ff, iv ch1, iv ch2, rv ad1, iv (own_to kk), iv (own_vk kk), iv fr1, rv ad4, iv (own_fr2 ff), iv (own_vf ff), rv ad15, rv b_21, u_, u_, u_, u_, u_, u_, u_, u_, u_, u_, u_, u_, u_, u_] [.long 0, .long 0, .int gg, .int g, .int cap, .int 3, .ref b_21]) (fun t k => XS.lconst X41.here hx rfl (hb hby at_451) k) ?_
                    obtain ⟨_, _, ⟨T44, L44, k44, n44⟩, -, X44, ⟨Lc44, hQ44, lq44, yq44, zq44⟩, st44⟩ := Jvm.LawKit.callS X41 hx (y := (⟨"com/example/viewlattice/viewlattice/engine/DecimalSumsGetUnscaledLongsPinLaw", "cell", "([JIIIIJJ)Z"⟩ : MethodName)) hown (mvT hZ (hW 21 _ rfl)) (mvT hZ (hW 22 _ rfl)) (mvT hZ (hW 23 _ rfl)) (mvT hZ (hW 24 _ rfl)) (by decide) (backOf (W := 0) (rm_cel3 l Z a0 hw [] b_21 kb_21 cap g gg (0 : Int64) (0 : Int64) (0 : Int64) (0 : Int64) (0 : Int64) (0 : Int64) T24.heap n0 Z22 g23.2.2.2.1 hcap (fun _ => own_z0 _ _)) hZ (hW 24 _ rfl) (hW 23 _ rfl) (by decide) (by decide)) (g := (mkF m 452 #[iv p0, iv p1, iv p2, iv p3, iv p4, iv p5, iv cap, iv S0, iv g, iv gg, iv d1, iv d2, iv m1, iv m2, iv bS, iv bM, iv ng, iv kk, iv ff, iv ch1, iv ch2, rv ad1, iv (own_to kk), iv (own_vk kk), iv fr1, rv ad4, iv (own_fr2 ff), iv (own_vf ff), rv ad15, rv b_21, u_, u_, u_, u_, u_, u_, u_, u_, u_, u_, u_, u_, u_, u_] [.long 0, .long 0, .int gg, .int g, .int cap, .int 3, .ref b_21])) rfl (by rw [hml]; rfl) (argsL := [(.ref b_21), (.int (3 : Int32)), (.int cap), (.int g), (.int gg), (.long (0 : Int64)), (.long (0 : Int64))]) (rest := []) (lenOf pd_7 rfl) rfl (by show 2 * 0 + _ ≤ _; exact Nat.le_of_eq rfl) (hb hby at_452) (fun _ _ => ⟨rfl, eq40, (by decide : 4 + 0 ≤ _), (by decide : 14 + 0 ≤ _)⟩)
                    dsimp only [Pt.U, Pt.locs, Pt.cells, Pt.slots] at X44 lq44 yq44 zq44 st44 hQ44
                    subst lq44 yq44 zq44
                    obtain ⟨rfl, Nq44, eq43⟩ := hQ44
                    have N44 := Fr.app N41 Nq44
                    refine own_s T44 (mkF m 455 #[iv p0, iv p1, iv p2, iv p3, iv p4, iv p5, iv cap, iv S0, iv g, iv gg, iv d1, iv d2, iv m1, iv m2, iv bS, iv bM, iv ng, iv kk, iv ff, iv ch1, iv ch2, rv ad1, iv (own_to kk), iv (own_vk kk), iv fr1, rv ad4, iv (own_fr2 ff), iv (own_vf ff), rv ad15, rv b_21, u_, u_, u_, u_, u_, u_, u_, u_, u_, u_, u_, u_, u_, u_] [.int 1]) st44 ?_
                    refine own_s T44 (mkF m 458 #[iv p0, iv p1, iv p2, iv p3, iv p4, iv p5, iv cap, iv S0, iv g, iv gg, iv d1, iv d2, iv m1, iv m2, iv bS, iv bM, iv ng, iv kk, iv ff, iv ch1, iv ch2, rv ad1, iv (own_to kk), iv (own_vk kk), iv fr1, rv ad4, iv (own_fr2 ff), iv (own_vf ff), rv ad15, rv b_21, u_, u_, u_, u_, u_, u_, u_, u_, u_, u_, u_, u_, u_, u_] []) (fun t k => XS.ifNo X44.here hx rfl (hb hby at_455) rfl ((if0 _ _).trans (feq (by decide : ¬ ((1 : Int32) = (0 : Int32)))).1) k) ?_
                    refine own_s T44 (mkF m 459 #[iv p0, iv p1, iv p2, iv p3, iv p4, iv p5, iv cap, iv S0, iv g, iv gg, iv d1, iv d2, iv m1, iv m2, iv bS, iv bM, iv ng, iv kk, iv ff, iv ch1, iv ch2, rv ad1, iv (own_to kk), iv (own_vk kk), iv fr1, rv ad4, iv (own_fr2 ff), iv (own_vf ff), rv ad15, rv b_21, u_, u_, u_, u_, u_, u_, u_, u_, u_, u_, u_, u_, u_, u_] [.int 1]) (fun t k => XS.iconst X44.here hx rfl (hb hby at_458) k) ?_
                    refine own_s T44 (mkF m 463 #[iv p0, iv p1, iv p2, iv p3, iv p4, iv p5, iv cap, iv S0, iv g, iv gg, iv d1, iv d2, iv m1, iv m2, iv bS, iv bM, iv ng, iv kk, iv ff, iv ch1, iv ch2, rv ad1, iv (own_to kk), iv (own_vk kk), iv fr1, rv ad4, iv (own_fr2 ff), iv (own_vf ff), rv ad15, rv b_21, u_, u_, u_, u_, u_, u_, u_, u_, u_, u_, u_, u_, u_, u_] [.int 1]) (fun t k => XS.goto X44.here hx rfl (pc0 := 459) (pc' := 463) rfl (hb hby at_459) (by decide) (by decide) k) ?_
                    refine own_s T44 (mkF m 465 #[iv p0, iv p1, iv p2, iv p3, iv p4, iv p5, iv cap, iv S0, iv g, iv gg, iv d1, iv d2, iv m1, iv m2, iv bS, iv bM, iv ng, iv kk, iv ff, iv ch1, iv ch2, rv ad1, iv (own_to kk), iv (own_vk kk), iv fr1, rv ad4, iv (own_fr2 ff), iv (own_vf ff), rv ad15, rv b_21, iv 1, u_, u_, u_, u_, u_, u_, u_, u_, u_, u_, u_, u_, u_] []) (fun t k => XS.istore X44.here hx rfl (hb hby at_463) rfl (l' := #[iv p0, iv p1, iv p2, iv p3, iv p4, iv p5, iv cap, iv S0, iv g, iv gg, iv d1, iv d2, iv m1, iv m2, iv bS, iv bM, iv ng, iv kk, iv ff, iv ch1, iv ch2, rv ad1, iv (own_to kk), iv (own_vk kk), iv fr1, rv ad4, iv (own_fr2 ff), iv (own_vf ff), rv ad15, rv b_21, iv 1, u_, u_, u_, u_, u_, u_, u_, u_, u_, u_, u_, u_, u_]) rfl k) ?_
                    refine own_s T44 (mkF m 467 #[iv p0, iv p1, iv p2, iv p3, iv p4, iv p5, iv cap, iv S0, iv g, iv gg, iv d1, iv d2, iv m1, iv m2, iv bS, iv bM, iv ng, iv kk, iv ff, iv ch1, iv ch2, rv ad1, iv (own_to kk), iv (own_vk kk), iv fr1, rv ad4, iv (own_fr2 ff), iv (own_vf ff), rv ad15, rv b_21, iv 1, u_, u_, u_, u_, u_, u_, u_, u_, u_, u_, u_, u_, u_] [.ref ad15]) (fun t k => XS.aload X44.here hx rfl (hb hby at_465) rfl rfl k) ?_
                    refine own_s T44 (mkF m 469 #[iv p0, iv p1, iv p2, iv p3, iv p4, iv p5, iv cap, iv S0, iv g, iv gg, iv d1, iv d2, iv m1, iv m2, iv bS, iv bM, iv ng, iv kk, iv ff, iv ch1, iv ch2, rv ad1, iv (own_to kk), iv (own_vk kk), iv fr1, rv ad4, iv (own_fr2 ff), iv (own_vf ff), rv ad15, rv b_21, iv 1, u_, u_, u_, u_, u_, u_, u_, u_, u_, u_, u_, u_, u_] [.int g, .ref ad15]) (fun t k => XS.iload X44.here hx rfl (hb hby at_467) rfl k) ?_
                    refine own_s T44 (mkF m 471 #[iv p0, iv p1, iv p2, iv p3, iv p4, iv p5, iv cap, iv S0, iv g, iv gg, iv d1, iv d2, iv m1, iv m2, iv bS, iv bM, iv ng, iv kk, iv ff, iv ch1, iv ch2, rv ad1, iv (own_to kk), iv (own_vk kk), iv fr1, rv ad4, iv (own_fr2 ff), iv (own_vf ff), rv ad15, rv b_21, iv 1, u_, u_, u_, u_, u_, u_, u_, u_, u_, u_, u_, u_, u_] [.ref ad1, .int g, .ref ad15]) (fun t k => XS.aload X44.here hx rfl (hb hby at_469) rfl rfl k) ?_
                    refine own_s T44 (mkF m 473 #[iv p0, iv p1, iv p2, iv p3, iv p4, iv p5, iv cap, iv S0, iv g, iv gg, iv d1, iv d2, iv m1, iv m2, iv bS, iv bM, iv ng, iv kk, iv ff, iv ch1, iv ch2, rv ad1, iv (own_to kk), iv (own_vk kk), iv fr1, rv ad4, iv (own_fr2 ff), iv (own_vf ff), rv ad15, rv b_21, iv 1, u_, u_, u_, u_, u_, u_, u_, u_, u_, u_, u_, u_, u_] [.int fr1, .ref ad1, .int g, .ref ad15]) (fun t k => XS.iload X44.here hx rfl (hb hby at_471) rfl k) ?_
                    refine own_s T44 (mkF m 475 #[iv p0, iv p1, iv p2, iv p3, iv p4, iv p5, iv cap, iv S0, iv g, iv gg, iv d1, iv d2, iv m1, iv m2, iv bS, iv bM, iv ng, iv kk, iv ff, iv ch1, iv ch2, rv ad1, iv (own_to kk), iv (own_vk kk), iv fr1, rv ad4, iv (own_fr2 ff), iv (own_vf ff), rv ad15, rv b_21, iv 1, u_, u_, u_, u_, u_, u_, u_, u_, u_, u_, u_, u_, u_] [.int (own_to kk), .int fr1, .ref ad1, .int g, .ref ad15]) (fun t k => XS.iload X44.here hx rfl (hb hby at_473) rfl k) ?_
                    have hfr : (fr1 = 0 ∧ sg = 45 ∧ ng = 1) ∨ (fr1 = 0 ∧ sg = 43 ∧ ng = 0) ∨ (fr1 = 1 ∧ ng = 0) := by
                      rcases hfr1 with ⟨qa, qb⟩ | ⟨qa, qb⟩
                      · rcases hsg with ⟨qc, qd⟩ | ⟨qc, qd⟩
                        · exact Or.inl ⟨qa, qc, (hng.resolve_right (fun q => q.2.elim qb qd)).1⟩
                        · exact Or.inr (Or.inl ⟨qa, qc, (hng.resolve_left (fun q => q.2.2 qd)).1⟩)
                      · exact Or.inr (Or.inr ⟨qa, (hng.resolve_left (fun q => q.2.1 qb)).1⟩)
                    obtain ⟨cq49, kq49, q49a, q49b, q49c⟩ := isOf hZ eq43 g27
                    obtain ⟨_, _, ⟨T48, L48, k48, n48⟩, -, X48, ⟨Lc48, hQ48, lq48, yq48, zq48⟩, st48⟩ := X44.virtualBack hx (y := (⟨"com/example/viewlattice/viewlattice/engine/DecimalSums", "add", "(I[CII)Z"⟩ : MethodName)) (z := (⟨"com/example/viewlattice/viewlattice/engine/DecimalSums", "add", "(I[CII)Z"⟩ : MethodName)) hown (mvT hZ (hW 25 _ rfl)) (mvT hZ (hW 26 _ rfl)) (notFace_of_selects (args := #[]) (mvT hZ (hW 28 _ rfl))) (mvT hZ (hW 28 _ rfl)) (mvT hZ (hW 27 _ rfl)) (by decide) (backOf (W := 0) (rm_add1 l Z a0 hw [] ad15 b_21 kb_21 cap S0 (0 : Int64) (0 : Int64) (0 : Int64) (0 : Int64) g ad1 k1 fr1 kk sg y1 y2 d1 d2 ng pw kp T24.heap n0 Z22 g23 g25 (Ne.symm ne15_1) (Ne.symm nz_ad1_b_21) O22 hkk hfr hcap hg hS0 hd1 hd2 ⟨by decide, by decide⟩ ⟨by decide, by decide⟩ ⟨by decide, by decide⟩ ⟨by decide, by decide⟩ S_p V_p) hZ (hW 29 _ rfl) (hW 4 _ rfl) (by decide) (by decide)) q49a q49c (g := (mkF m 475 #[iv p0, iv p1, iv p2, iv p3, iv p4, iv p5, iv cap, iv S0, iv g, iv gg, iv d1, iv d2, iv m1, iv m2, iv bS, iv bM, iv ng, iv kk, iv ff, iv ch1, iv ch2, rv ad1, iv (own_to kk), iv (own_vk kk), iv fr1, rv ad4, iv (own_fr2 ff), iv (own_vf ff), rv ad15, rv b_21, iv 1, u_, u_, u_, u_, u_, u_, u_, u_, u_, u_, u_, u_, u_] [.int (own_to kk), .int fr1, .ref ad1, .int g, .ref ad15])) rfl (by rw [hml]; rfl) (Steps.refl _) (argsL := [(.int g), (.ref ad1), (.int fr1), (.int (own_to kk))]) (rest := []) (lenOf pd_8 rfl) rfl (by show 2 * 0 + _ ≤ _; exact Nat.le_of_eq rfl) (hb hby at_475) (fun _ _ => ⟨rfl, eq43, (by decide : 4 + 1 ≤ _), (by decide : 14 + 4 ≤ _)⟩)
                    dsimp only [Pt.U, Pt.locs, Pt.cells, Pt.slots] at X48 lq48 yq48 zq48 st48 hQ48
                    subst lq48 yq48 zq48
                    obtain ⟨b_45, kb_45, rfl, Nq48, K46, g47, pz46⟩ := hQ48
                    have N48 := Fr.app N44 Nq48
                    have g50 : Arv Z T48.heap ad1 k1 .char (4 : Int32) (own_cs kk sg y1 y2) (.int (0 : Int32)) := g25.keep K46 (ninS ne15_1 (ninS nz_ad1_b_21 nin0))
                    have g51 : Arv Z T48.heap ad4 k4 .char (3 : Int32) [(.int (nar .char (46 : Int32))), (.int (nar .char (((48 : Int32) + m1).toUInt32.toUInt16.toUInt32.toInt32))), (.int (nar .char (((48 : Int32) + m2).toUInt32.toUInt16.toUInt32.toInt32)))] (.int (0 : Int32)) := g26.keep K46 (ninS ne15_2 (ninS nz_ad4_b_21 nin0))
                    have g52 : Exa Z T48.heap ad15 "com/example/viewlattice/viewlattice/engine/DecimalSums" := g27.keep K46
                    have Z46 : n0 ≤ T48.heap.size := (Nat.le_trans Z22 K46.1)
                    have O46 : Old Z n0 T48.heap := O22.keep K46 (allS (P := fun x => n0 ≤ x) g23.2.2.2.2.2.1 (allS (P := fun x => n0 ≤ x) g23.2.2.2.2.2.2 all0))
                    have nb46_1 : ad1 ≠ b_45 := fun z => pz46.elim (fun y => nz_ad1_b_21 (z.trans y)) (fun y => Nat.ne_of_lt (Nat.lt_of_lt_of_le g25.lt y) z)
                    have nb46_2 : ad4 ≠ b_45 := fun z => pz46.elim (fun y => nz_ad4_b_21 (z.trans y)) (fun y => Nat.ne_of_lt (Nat.lt_of_lt_of_le g26.lt y) z)
                    refine own_tr (T' := T48) (g' := (mkF m 478 #[iv p0, iv p1, iv p2, iv p3, iv p4, iv p5, iv cap, iv S0, iv g, iv gg, iv d1, iv d2, iv m1, iv m2, iv bS, iv bM, iv ng, iv kk, iv ff, iv ch1, iv ch2, rv ad1, iv (own_to kk), iv (own_vk kk), iv fr1, rv ad4, iv (own_fr2 ff), iv (own_vf ff), rv ad15, rv b_21, iv 1, u_, u_, u_, u_, u_, u_, u_, u_, u_, u_, u_, u_, u_] [.int 1])) st48 ?_
                    refine own_s T48 (mkF m 480 #[iv p0, iv p1, iv p2, iv p3, iv p4, iv p5, iv cap, iv S0, iv g, iv gg, iv d1, iv d2, iv m1, iv m2, iv bS, iv bM, iv ng, iv kk, iv ff, iv ch1, iv ch2, rv ad1, iv (own_to kk), iv (own_vk kk), iv fr1, rv ad4, iv (own_fr2 ff), iv (own_vf ff), rv ad15, rv b_21, iv 1, iv 1, u_, u_, u_, u_, u_, u_, u_, u_, u_, u_, u_, u_] []) (fun t k => XS.istore X48.here hx rfl (hb hby at_478) rfl (l' := #[iv p0, iv p1, iv p2, iv p3, iv p4, iv p5, iv cap, iv S0, iv g, iv gg, iv d1, iv d2, iv m1, iv m2, iv bS, iv bM, iv ng, iv kk, iv ff, iv ch1, iv ch2, rv ad1, iv (own_to kk), iv (own_vk kk), iv fr1, rv ad4, iv (own_fr2 ff), iv (own_vf ff), rv ad15, rv b_21, iv 1, iv 1, u_, u_, u_, u_, u_, u_, u_, u_, u_, u_, u_, u_]) rfl k) ?_
                    refine own_s T48 (mkF m 482 #[iv p0, iv p1, iv p2, iv p3, iv p4, iv p5, iv cap, iv S0, iv g, iv gg, iv d1, iv d2, iv m1, iv m2, iv bS, iv bM, iv ng, iv kk, iv ff, iv ch1, iv ch2, rv ad1, iv (own_to kk), iv (own_vk kk), iv fr1, rv ad4, iv (own_fr2 ff), iv (own_vf ff), rv ad15, rv b_21, iv 1, iv 1, u_, u_, u_, u_, u_, u_, u_, u_, u_, u_, u_, u_] [.ref ad15]) (fun t k => XS.aload X48.here hx rfl (hb hby at_480) rfl rfl k) ?_
                    refine own_s T48 (mkF m 484 #[iv p0, iv p1, iv p2, iv p3, iv p4, iv p5, iv cap, iv S0, iv g, iv gg, iv d1, iv d2, iv m1, iv m2, iv bS, iv bM, iv ng, iv kk, iv ff, iv ch1, iv ch2, rv ad1, iv (own_to kk), iv (own_vk kk), iv fr1, rv ad4, iv (own_fr2 ff), iv (own_vf ff), rv ad15, rv b_21, iv 1, iv 1, u_, u_, u_, u_, u_, u_, u_, u_, u_, u_, u_, u_] [.int gg, .ref ad15]) (fun t k => XS.iload X48.here hx rfl (hb hby at_482) rfl k) ?_
                    refine own_s T48 (mkF m 486 #[iv p0, iv p1, iv p2, iv p3, iv p4, iv p5, iv cap, iv S0, iv g, iv gg, iv d1, iv d2, iv m1, iv m2, iv bS, iv bM, iv ng, iv kk, iv ff, iv ch1, iv ch2, rv ad1, iv (own_to kk), iv (own_vk kk), iv fr1, rv ad4, iv (own_fr2 ff), iv (own_vf ff), rv ad15, rv b_21, iv 1, iv 1, u_, u_, u_, u_, u_, u_, u_, u_, u_, u_, u_, u_] [.ref ad4, .int gg, .ref ad15]) (fun t k => XS.aload X48.here hx rfl (hb hby at_484) rfl rfl k) ?_
                    refine own_s T48 (mkF m 488 #[iv p0, iv p1, iv p2, iv p3, iv p4, iv p5, iv cap, iv S0, iv g, iv gg, iv d1, iv d2, iv m1, iv m2, iv bS, iv bM, iv ng, iv kk, iv ff, iv ch1, iv ch2, rv ad1, iv (own_to kk), iv (own_vk kk), iv fr1, rv ad4, iv (own_fr2 ff), iv (own_vf ff), rv ad15, rv b_21, iv 1, iv 1, u_, u_, u_, u_, u_, u_, u_, u_, u_, u_, u_, u_] [.int (own_fr2 ff), .ref ad4, .int gg, .ref ad15]) (fun t k => XS.iload X48.here hx rfl (hb hby at_486) rfl k) ?_
                    refine own_s T48 (mkF m 489 #[iv p0, iv p1, iv p2, iv p3, iv p4, iv p5, iv cap, iv S0, iv g, iv gg, iv d1, iv d2, iv m1, iv m2, iv bS, iv bM, iv ng, iv kk, iv ff, iv ch1, iv ch2, rv ad1, iv (own_to kk), iv (own_vk kk), iv fr1, rv ad4, iv (own_fr2 ff), iv (own_vf ff), rv ad15, rv b_21, iv 1, iv 1, u_, u_, u_, u_, u_, u_, u_, u_, u_, u_, u_, u_] [.int 3, .int (own_fr2 ff), .ref ad4, .int gg, .ref ad15]) (fun t k => XS.iconst X48.here hx rfl (hb hby at_488) k) ?_
                    obtain ⟨cq57, kq57, q57a, q57b, q57c⟩ := isOf hZ rfl g52
                    obtain ⟨_, _, ⟨T56, L56, k56, n56⟩, -, X56, ⟨Lc56, hQ56, lq56, yq56, zq56⟩, st56⟩ := X48.virtualBack hx (y := (⟨"com/example/viewlattice/viewlattice/engine/DecimalSums", "add", "(I[CII)Z"⟩ : MethodName)) (z := (⟨"com/example/viewlattice/viewlattice/engine/DecimalSums", "add", "(I[CII)Z"⟩ : MethodName)) hown (mvT hZ (hW 25 _ rfl)) (mvT hZ (hW 26 _ rfl)) (notFace_of_selects (args := #[]) (mvT hZ (hW 28 _ rfl))) (mvT hZ (hW 28 _ rfl)) (mvT hZ (hW 27 _ rfl)) (by decide) (backOf (W := 0) (rm_add2 l Z a0 hw [] ad15 b_45 kb_45 cap (own_mx S0 (own_vk kk)) (own_upd g (0 : Int32) ((0 : Int64) * own_f S0 (own_vk kk)) ((own_sv ng (own_u d1 d2)) * own_p10 (own_mx S0 (own_vk kk) - (own_vk kk)))) (own_upd g (1 : Int32) ((0 : Int64) * own_f S0 (own_vk kk)) ((own_sv ng (own_u d1 d2)) * own_p10 (own_mx S0 (own_vk kk) - (own_vk kk)))) (own_upd g (2 : Int32) ((0 : Int64) * own_f S0 (own_vk kk)) ((own_sv ng (own_u d1 d2)) * own_p10 (own_mx S0 (own_vk kk) - (own_vk kk)))) (own_upd g (3 : Int32) ((0 : Int64) * own_f S0 (own_vk kk)) ((own_sv ng (own_u d1 d2)) * own_p10 (own_mx S0 (own_vk kk) - (own_vk kk)))) gg ad4 k4 ff (nar .char (((48 : Int32) + m1).toUInt32.toUInt16.toUInt32.toInt32)) (nar .char (((48 : Int32) + m2).toUInt32.toUInt16.toUInt32.toInt32)) m1 m2 pw kp T48.heap n0 Z46 g47 g51 (Ne.symm ne15_2) (Ne.symm nb46_2) O46 hff hcap hgg (own_shmx hS0 hkk) (own_chr hm1) (own_chr hm2) (own_v1 hd1 hd2 hng01 hS0 hkk) (own_v1 hd1 hd2 hng01 hS0 hkk) (own_v1 hd1 hd2 hng01 hS0 hkk) (own_v1 hd1 hd2 hng01 hS0 hkk) S_p V_p) hZ (hW 29 _ rfl) (hW 4 _ rfl) (by decide) (by decide)) q57a q57c (g := (mkF m 489 #[iv p0, iv p1, iv p2, iv p3, iv p4, iv p5, iv cap, iv S0, iv g, iv gg, iv d1, iv d2, iv m1, iv m2, iv bS, iv bM, iv ng, iv kk, iv ff, iv ch1, iv ch2, rv ad1, iv (own_to kk), iv (own_vk kk), iv fr1, rv ad4, iv (own_fr2 ff), iv (own_vf ff), rv ad15, rv b_21, iv 1, iv 1, u_, u_, u_, u_, u_, u_, u_, u_, u_, u_, u_, u_] [.int 3, .int (own_fr2 ff), .ref ad4, .int gg, .ref ad15])) rfl (by rw [hml]; rfl) (Steps.refl _) (argsL := [(.int gg), (.ref ad4), (.int (own_fr2 ff)), (.int (3 : Int32))]) (rest := []) (lenOf pd_8 rfl) rfl (by show 2 * 0 + _ ≤ _; exact Nat.le_of_eq rfl) (hb hby at_489) (fun _ _ => ⟨rfl, rfl, (by decide : 5 + 1 ≤ _), (by decide : 18 + 4 ≤ _)⟩)
                    dsimp only [Pt.U, Pt.locs, Pt.cells, Pt.slots] at X56 lq56 yq56 zq56 st56 hQ56
                    subst lq56 yq56 zq56
                    obtain ⟨b_53, kb_53, rfl, Nq56, K54, g55, pz54⟩ := hQ56
                    have N56 := Fr.app N48 Nq56
                    have g58 : Arv Z T56.heap ad1 k1 .char (4 : Int32) (own_cs kk sg y1 y2) (.int (0 : Int32)) := g50.keep K54 (ninS ne15_1 (ninS nb46_1 nin0))
                    have g59 : Arv Z T56.heap ad4 k4 .char (3 : Int32) [(.int (nar .char (46 : Int32))), (.int (nar .char (((48 : Int32) + m1).toUInt32.toUInt16.toUInt32.toInt32))), (.int (nar .char (((48 : Int32) + m2).toUInt32.toUInt16.toUInt32.toInt32)))] (.int (0 : Int32)) := g51.keep K54 (ninS ne15_2 (ninS nb46_2 nin0))
                    have g60 : Exa Z T56.heap ad15 "com/example/viewlattice/viewlattice/engine/DecimalSums" := g52.keep K54
                    have Z54 : n0 ≤ T56.heap.size := (Nat.le_trans Z46 K54.1)
                    have O54 : Old Z n0 T56.heap := O46.keep K54 (allS (P := fun x => n0 ≤ x) g47.2.2.2.2.2.1 (allS (P := fun x => n0 ≤ x) g47.2.2.2.2.2.2 all0))
                    have nb54_1 : ad1 ≠ b_53 := fun z => pz54.elim (fun y => nb46_1 (z.trans y)) (fun y => Nat.ne_of_lt (Nat.lt_of_lt_of_le g50.lt y) z)
                    have nb54_2 : ad4 ≠ b_53 := fun z => pz54.elim (fun y => nb46_2 (z.trans y)) (fun y => Nat.ne_of_lt (Nat.lt_of_lt_of_le g51.lt y) z)
                    refine own_tr (T' := T56) (g' := (mkF m 492 #[iv p0, iv p1, iv p2, iv p3, iv p4, iv p5, iv cap, iv S0, iv g, iv gg, iv d1, iv d2, iv m1, iv m2, iv bS, iv bM, iv ng, iv kk, iv ff, iv ch1, iv ch2, rv ad1, iv (own_to kk), iv (own_vk kk), iv fr1, rv ad4, iv (own_fr2 ff), iv (own_vf ff), rv ad15, rv b_21, iv 1, iv 1, u_, u_, u_, u_, u_, u_, u_, u_, u_, u_, u_, u_] [.int 1])) st56 ?_
                    refine own_s T56 (mkF m 494 #[iv p0, iv p1, iv p2, iv p3, iv p4, iv p5, iv cap, iv S0, iv g, iv gg, iv d1, iv d2, iv m1, iv m2, iv bS, iv bM, iv ng, iv kk, iv ff, iv ch1, iv ch2, rv ad1, iv (own_to kk), iv (own_vk kk), iv fr1, rv ad4, iv (own_fr2 ff), iv (own_vf ff), rv ad15, rv b_21, iv 1, iv 1, iv 1, u_, u_, u_, u_, u_, u_, u_, u_, u_, u_, u_] []) (fun t k => XS.istore X56.here hx rfl (hb hby at_492) rfl (l' := #[iv p0, iv p1, iv p2, iv p3, iv p4, iv p5, iv cap, iv S0, iv g, iv gg, iv d1, iv d2, iv m1, iv m2, iv bS, iv bM, iv ng, iv kk, iv ff, iv ch1, iv ch2, rv ad1, iv (own_to kk), iv (own_vk kk), iv fr1, rv ad4, iv (own_fr2 ff), iv (own_vf ff), rv ad15, rv b_21, iv 1, iv 1, iv 1, u_, u_, u_, u_, u_, u_, u_, u_, u_, u_, u_]) rfl k) ?_
                    refine own_s T56 (mkF m 497 #[iv p0, iv p1, iv p2, iv p3, iv p4, iv p5, iv cap, iv S0, iv g, iv gg, iv d1, iv d2, iv m1, iv m2, iv bS, iv bM, iv ng, iv kk, iv ff, iv ch1, iv ch2, rv ad1, iv (own_to kk), iv (own_vk kk), iv fr1, rv ad4, iv (own_fr2 ff), iv (own_vf ff), rv ad15, rv b_21, iv 1, iv 1, iv 1, u_, u_, u_, u_, u_, u_, u_, u_, u_, u_, u_] [.long 10]) (X56.ldc2Long hx hown (mvT hZ (hW 54 _ rfl)) (g := (mkF m 494 #[iv p0, iv p1, iv p2, iv p3, iv p4, iv p5, iv cap, iv S0, iv g, iv gg, iv d1, iv d2, iv m1, iv m2, iv bS, iv bM, iv ng, iv kk, iv ff, iv ch1, iv ch2, rv ad1, iv (own_to kk), iv (own_vk kk), iv fr1, rv ad4, iv (own_fr2 ff), iv (own_vf ff), rv ad15, rv b_21, iv 1, iv 1, iv 1, u_, u_, u_, u_, u_, u_, u_, u_, u_, u_, u_] [])) rfl (hb hby at_494)) ?_
                    refine own_s T56 (mkF m 499 #[iv p0, iv p1, iv p2, iv p3, iv p4, iv p5, iv cap, iv S0, iv g, iv gg, iv d1, iv d2, iv m1, iv m2, iv bS, iv bM, iv ng, iv kk, iv ff, iv ch1, iv ch2, rv ad1, iv (own_to kk), iv (own_vk kk), iv fr1, rv ad4, iv (own_fr2 ff), iv (own_vf ff), rv ad15, rv b_21, iv 1, iv 1, iv 1, u_, u_, u_, u_, u_, u_, u_, u_, u_, u_, u_] [.int d1, .long 10]) (fun t k => XS.iload X56.here hx rfl (hb hby at_497) rfl k) ?_
                    refine own_s T56 (mkF m 500 #[iv p0, iv p1, iv p2, iv p3, iv p4, iv p5, iv cap, iv S0, iv g, iv gg, iv d1, iv d2, iv m1, iv m2, iv bS, iv bM, iv ng, iv kk, iv ff, iv ch1, iv ch2, rv ad1, iv (own_to kk), iv (own_vk kk), iv fr1, rv ad4, iv (own_fr2 ff), iv (own_vf ff), rv ad15, rv b_21, iv 1, iv 1, iv 1, u_, u_, u_, u_, u_, u_, u_, u_, u_, u_, u_] [.long (d1.toInt64), .long 10]) (fun t k => XS.i2l X56.here hx rfl (hb hby at_499) rfl k) ?_
                    refine own_s T56 (mkF m 501 #[iv p0, iv p1, iv p2, iv p3, iv p4, iv p5, iv cap, iv S0, iv g, iv gg, iv d1, iv d2, iv m1, iv m2, iv bS, iv bM, iv ng, iv kk, iv ff, iv ch1, iv ch2, rv ad1, iv (own_to kk), iv (own_vk kk), iv fr1, rv ad4, iv (own_fr2 ff), iv (own_vf ff), rv ad15, rv b_21, iv 1, iv 1, iv 1, u_, u_, u_, u_, u_, u_, u_, u_, u_, u_, u_] [.long ((10 : Int64) * (d1.toInt64))]) (fun t k => XS.lmul X56.here hx rfl (hb hby at_500) rfl k) ?_
                    refine own_s T56 (mkF m 503 #[iv p0, iv p1, iv p2, iv p3, iv p4, iv p5, iv cap, iv S0, iv g, iv gg, iv d1, iv d2, iv m1, iv m2, iv bS, iv bM, iv ng, iv kk, iv ff, iv ch1, iv ch2, rv ad1, iv (own_to kk), iv (own_vk kk), iv fr1, rv ad4, iv (own_fr2 ff), iv (own_vf ff), rv ad15, rv b_21, iv 1, iv 1, iv 1, u_, u_, u_, u_, u_, u_, u_, u_, u_, u_, u_] [.int d2, .long ((10 : Int64) * (d1.toInt64))]) (fun t k => XS.iload X56.here hx rfl (hb hby at_501) rfl k) ?_
                    refine own_s T56 (mkF m 504 #[iv p0, iv p1, iv p2, iv p3, iv p4, iv p5, iv cap, iv S0, iv g, iv gg, iv d1, iv d2, iv m1, iv m2, iv bS, iv bM, iv ng, iv kk, iv ff, iv ch1, iv ch2, rv ad1, iv (own_to kk), iv (own_vk kk), iv fr1, rv ad4, iv (own_fr2 ff), iv (own_vf ff), rv ad15, rv b_21, iv 1, iv 1, iv 1, u_, u_, u_, u_, u_, u_, u_, u_, u_, u_, u_] [.long (d2.toInt64), .long ((10 : Int64) * (d1.toInt64))]) (fun t k => XS.i2l X56.here hx rfl (hb hby at_503) rfl k) ?_
                    refine own_s T56 (mkF m 505 #[iv p0, iv p1, iv p2, iv p3, iv p4, iv p5, iv cap, iv S0, iv g, iv gg, iv d1, iv d2, iv m1, iv m2, iv bS, iv bM, iv ng, iv kk, iv ff, iv ch1, iv ch2, rv ad1, iv (own_to kk), iv (own_vk kk), iv fr1, rv ad4, iv (own_fr2 ff), iv (own_vf ff), rv ad15, rv b_21, iv 1, iv 1, iv 1, u_, u_, u_, u_, u_, u_, u_, u_, u_, u_, u_] [.long (((10 : Int64) * (d1.toInt64)) + (d2.toInt64))]) (fun t k => XS.ladd X56.here hx rfl (hb hby at_504) rfl k) ?_
                    refine own_cast (g' := (mkF m 505 #[iv p0, iv p1, iv p2, iv p3, iv p4, iv p5, iv cap, iv S0, iv g, iv gg, iv d1, iv d2, iv m1, iv m2, iv bS, iv bM, iv ng, iv kk, iv ff, iv ch1, iv ch2, rv ad1, iv (own_to kk), iv (own_vk kk), iv fr1, rv ad4, iv (own_fr2 ff), iv (own_vf ff), rv ad15, rv b_21, iv 1, iv 1, iv 1, u_, u_, u_, u_, u_, u_, u_, u_, u_, u_, u_] [.long (own_u d1 d2)])) rfl ?_
                    refine own_s T56 (mkF m 507 #[iv p0, iv p1, iv p2, iv p3, iv p4, iv p5, iv cap, iv S0, iv g, iv gg, iv d1, iv d2, iv m1, iv m2, iv bS, iv bM, iv ng, iv kk, iv ff, iv ch1, iv ch2, rv ad1, iv (own_to kk), iv (own_vk kk), iv fr1, rv ad4, iv (own_fr2 ff), iv (own_vf ff), rv ad15, rv b_21, iv 1, iv 1, iv 1, own_j (own_u d1 d2), s_, u_, u_, u_, u_, u_, u_, u_, u_, u_] []) (fun t k => XS.lstore X56.here hx rfl (hb hby at_505) rfl (l' := #[iv p0, iv p1, iv p2, iv p3, iv p4, iv p5, iv cap, iv S0, iv g, iv gg, iv d1, iv d2, iv m1, iv m2, iv bS, iv bM, iv ng, iv kk, iv ff, iv ch1, iv ch2, rv ad1, iv (own_to kk), iv (own_vk kk), iv fr1, rv ad4, iv (own_fr2 ff), iv (own_vf ff), rv ad15, rv b_21, iv 1, iv 1, iv 1, own_j (own_u d1 d2), s_, u_, u_, u_, u_, u_, u_, u_, u_, u_]) rfl k) ?_
                    refine own_s T56 (mkF m 509 #[iv p0, iv p1, iv p2, iv p3, iv p4, iv p5, iv cap, iv S0, iv g, iv gg, iv d1, iv d2, iv m1, iv m2, iv bS, iv bM, iv ng, iv kk, iv ff, iv ch1, iv ch2, rv ad1, iv (own_to kk), iv (own_vk kk), iv fr1, rv ad4, iv (own_fr2 ff), iv (own_vf ff), rv ad15, rv b_21, iv 1, iv 1, iv 1, own_j (own_u d1 d2), s_, u_, u_, u_, u_, u_, u_, u_, u_, u_] [.int ng]) (fun t k => XS.iload X56.here hx rfl (hb hby at_507) rfl k) ?_
                    have j520 : own_Go p e below s (Q_law n0) 24 128 T56 (mkF m 520 #[iv p0, iv p1, iv p2, iv p3, iv p4, iv p5, iv cap, iv S0, iv g, iv gg, iv d1, iv d2, iv m1, iv m2, iv bS, iv bM, iv ng, iv kk, iv ff, iv ch1, iv ch2, rv ad1, iv (own_to kk), iv (own_vk kk), iv fr1, rv ad4, iv (own_fr2 ff), iv (own_vf ff), rv ad15, rv b_21, iv 1, iv 1, iv 1, own_j (own_u d1 d2), s_, u_, u_, u_, u_, u_, u_, u_, u_, u_] [.long (own_sv ng (own_u d1 d2))]) := by
                      refine own_s T56 (mkF m 522 #[iv p0, iv p1, iv p2, iv p3, iv p4, iv p5, iv cap, iv S0, iv g, iv gg, iv d1, iv d2, iv m1, iv m2, iv bS, iv bM, iv ng, iv kk, iv ff, iv ch1, iv ch2, rv ad1, iv (own_to kk), iv (own_vk kk), iv fr1, rv ad4, iv (own_fr2 ff), iv (own_vf ff), rv ad15, rv b_21, iv 1, iv 1, iv 1, own_j (own_u d1 d2), s_, own_j (own_sv ng (own_u d1 d2)), s_, u_, u_, u_, u_, u_, u_, u_] []) (fun t k => XS.lstore X56.here hx rfl (hb hby at_520) rfl (l' := #[iv p0, iv p1, iv p2, iv p3, iv p4, iv p5, iv cap, iv S0, iv g, iv gg, iv d1, iv d2, iv m1, iv m2, iv bS, iv bM, iv ng, iv kk, iv ff, iv ch1, iv ch2, rv ad1, iv (own_to kk), iv (own_vk kk), iv fr1, rv ad4, iv (own_fr2 ff), iv (own_vf ff), rv ad15, rv b_21, iv 1, iv 1, iv 1, own_j (own_u d1 d2), s_, own_j (own_sv ng (own_u d1 d2)), s_, u_, u_, u_, u_, u_, u_, u_]) rfl k) ?_
                      refine own_s T56 (mkF m 524 #[iv p0, iv p1, iv p2, iv p3, iv p4, iv p5, iv cap, iv S0, iv g, iv gg, iv d1, iv d2, iv m1, iv m2, iv bS, iv bM, iv ng, iv kk, iv ff, iv ch1, iv ch2, rv ad1, iv (own_to kk), iv (own_vk kk), iv fr1, rv ad4, iv (own_fr2 ff), iv (own_vf ff), rv ad15, rv b_21, iv 1, iv 1, iv 1, own_j (own_u d1 d2), s_, own_j (own_sv ng (own_u d1 d2)), s_, u_, u_, u_, u_, u_, u_, u_] [.int S0]) (fun t k => XS.iload X56.here hx rfl (hb hby at_522) rfl k) ?_
                      refine own_s T56 (mkF m 526 #[iv p0, iv p1, iv p2, iv p3, iv p4, iv p5, iv cap, iv S0, iv g, iv gg, iv d1, iv d2, iv m1, iv m2, iv bS, iv bM, iv ng, iv kk, iv ff, iv ch1, iv ch2, rv ad1, iv (own_to kk), iv (own_vk kk), iv fr1, rv ad4, iv (own_fr2 ff), iv (own_vf ff), rv ad15, rv b_21, iv 1, iv 1, iv 1, own_j (own_u d1 d2), s_, own_j (own_sv ng (own_u d1 d2)), s_, u_, u_, u_, u_, u_, u_, u_] [.int (own_vk kk), .int S0]) (fun t k => XS.iload X56.here hx rfl (hb hby at_524) rfl k) ?_
                      obtain ⟨_, _, ⟨T63, L63, k63, n63⟩, -, X63, ⟨Lc63, hQ63, lq63, yq63, zq63⟩, st63⟩ := Jvm.LawKit.callS X56 hx (y := (⟨"java/lang/Math", "max", "(II)I"⟩ : MethodName)) hown (mvT hZ (hW 55 _ rfl)) (mvT hZ (hW 32 _ rfl)) (mvT hZ (hW 33 _ rfl)) (mvT hZ (hW 34 _ rfl)) (by decide) (backOf (W := 0) (rm_max l Z a0 hw [] S0 (own_vk kk) T56.heap n0 Z54 ) hZ (hW 34 _ rfl) (hW 33 _ rfl) (by decide) (by decide)) (g := (mkF m 526 #[iv p0, iv p1, iv p2, iv p3, iv p4, iv p5, iv cap, iv S0, iv g, iv gg, iv d1, iv d2, iv m1, iv m2, iv bS, iv bM, iv ng, iv kk, iv ff, iv ch1, iv ch2, rv ad1, iv (own_to kk), iv (own_vk kk), iv fr1, rv ad4, iv (own_fr2 ff), iv (own_vf ff), rv ad15, rv b_21, iv 1, iv 1, iv 1, own_j (own_u d1 d2), s_, own_j (own_sv ng (own_u d1 d2)), s_, u_, u_, u_, u_, u_, u_, u_] [.int (own_vk kk), .int S0])) rfl (by rw [hml]; rfl) (argsL := [(.int S0), (.int (own_vk kk))]) (rest := []) (lenOf pd_3 rfl) rfl (by show 2 * 0 + _ ≤ _; exact Nat.le_of_eq rfl) (hb hby at_526) (fun _ _ => ⟨rfl, rfl, (by decide : 6 + 0 ≤ _), (by decide : 22 + 0 ≤ _)⟩)
                      dsimp only [Pt.U, Pt.locs, Pt.cells, Pt.slots] at X63 lq63 yq63 zq63 st63 hQ63
                      subst lq63 yq63 zq63
                      obtain ⟨rfl, Nq63, eq62⟩ := hQ63
                      have N63 := Fr.app N56 Nq63
                      refine own_s T63 (mkF m 529 #[iv p0, iv p1, iv p2, iv p3, iv p4, iv p5, iv cap, iv S0, iv g, iv gg, iv d1, iv d2, iv m1, iv m2, iv bS, iv bM, iv ng, iv kk, iv ff, iv ch1, iv ch2, rv ad1, iv (own_to kk), iv (own_vk kk), iv fr1, rv ad4, iv (own_fr2 ff), iv (own_vf ff), rv ad15, rv b_21, iv 1, iv 1, iv 1, own_j (own_u d1 d2), s_, own_j (own_sv ng (own_u d1 d2)), s_, u_, u_, u_, u_, u_, u_, u_] [.int (own_mx S0 (own_vk kk))]) st63 ?_
                      refine own_s T63 (mkF m 531 #[iv p0, iv p1, iv p2, iv p3, iv p4, iv p5, iv cap, iv S0, iv g, iv gg, iv d1, iv d2, iv m1, iv m2, iv bS, iv bM, iv ng, iv kk, iv ff, iv ch1, iv ch2, rv ad1, iv (own_to kk), iv (own_vk kk), iv fr1, rv ad4, iv (own_fr2 ff), iv (own_vf ff), rv ad15, rv b_21, iv 1, iv 1, iv 1, own_j (own_u d1 d2), s_, own_j (own_sv ng (own_u d1 d2)), s_, iv (own_mx S0 (own_vk kk)), u_, u_, u_, u_, u_, u_] []) (fun t k => XS.istore X63.here hx rfl (hb hby at_529) rfl (l' := #[iv p0, iv p1, iv p2, iv p3, iv p4, iv p5, iv cap, iv S0, iv g, iv gg, iv d1, iv d2, iv m1, iv m2, iv bS, iv bM, iv ng, iv kk, iv ff, iv ch1, iv ch2, rv ad1, iv (own_to kk), iv (own_vk kk), iv fr1, rv ad4, iv (own_fr2 ff), iv (own_vf ff), rv ad15, rv b_21, iv 1, iv 1, iv 1, own_j (own_u d1 d2), s_, own_j (own_sv ng (own_u d1 d2)), s_, iv (own_mx S0 (own_vk kk)), u_, u_, u_, u_, u_, u_]) rfl k) ?_
                      refine own_s T63 (mkF m 533 #[iv p0, iv p1, iv p2, iv p3, iv p4, iv p5, iv cap, iv S0, iv g, iv gg, iv d1, iv d2, iv m1, iv m2, iv bS, iv bM, iv ng, iv kk, iv ff, iv ch1, iv ch2, rv ad1, iv (own_to kk), iv (own_vk kk), iv fr1, rv ad4, iv (own_fr2 ff), iv (own_vf ff), rv ad15, rv b_21, iv 1, iv 1, iv 1, own_j (own_u d1 d2), s_, own_j (own_sv ng (own_u d1 d2)), s_, iv (own_mx S0 (own_vk kk)), u_, u_, u_, u_, u_, u_] [.int (own_mx S0 (own_vk kk))]) (fun t k => XS.iload X63.here hx rfl (hb hby at_531) rfl k) ?_
                      refine own_s T63 (mkF m 535 #[iv p0, iv p1, iv p2, iv p3, iv p4, iv p5, iv cap, iv S0, iv g, iv gg, iv d1, iv d2, iv m1, iv m2, iv bS, iv bM, iv ng, iv kk, iv ff, iv ch1, iv ch2, rv ad1, iv (own_to kk), iv (own_vk kk), iv fr1, rv ad4, iv (own_fr2 ff), iv (own_vf ff), rv ad15, rv b_21, iv 1, iv 1, iv 1, own_j (own_u d1 d2), s_, own_j (own_sv ng (own_u d1 d2)), s_, iv (own_mx S0 (own_vk kk)), u_, u_, u_, u_, u_, u_] [.int (own_vf ff), .int (own_mx S0 (own_vk kk))]) (fun t k => XS.iload X63.here hx rfl (hb hby at_533) rfl k) ?_
                      obtain ⟨_, _, ⟨T66, L66, k66, n66⟩, -, X66, ⟨Lc66, hQ66, lq66, yq66, zq66⟩, st66⟩ := Jvm.LawKit.callS X63 hx (y := (⟨"java/lang/Math", "max", "(II)I"⟩ : MethodName)) hown (mvT hZ (hW 55 _ rfl)) (mvT hZ (hW 32 _ rfl)) (mvT hZ (hW 33 _ rfl)) (mvT hZ (hW 34 _ rfl)) (by decide) (backOf (W := 0) (rm_max l Z a0 hw [] (own_mx S0 (own_vk kk)) (own_vf ff) T56.heap n0 Z54 ) hZ (hW 34 _ rfl) (hW 33 _ rfl) (by decide) (by decide)) (g := (mkF m 535 #[iv p0, iv p1, iv p2, iv p3, iv p4, iv p5, iv cap, iv S0, iv g, iv gg, iv d1, iv d2, iv m1, iv m2, iv bS, iv bM, iv ng, iv kk, iv ff, iv ch1, iv ch2, rv ad1, iv (own_to kk), iv (own_vk kk), iv fr1, rv ad4, iv (own_fr2 ff), iv (own_vf ff), rv ad15, rv b_21, iv 1, iv 1, iv 1, own_j (own_u d1 d2), s_, own_j (own_sv ng (own_u d1 d2)), s_, iv (own_mx S0 (own_vk kk)), u_, u_, u_, u_, u_, u_] [.int (own_vf ff), .int (own_mx S0 (own_vk kk))])) rfl (by rw [hml]; rfl) (argsL := [(.int (own_mx S0 (own_vk kk))), (.int (own_vf ff))]) (rest := []) (lenOf pd_3 rfl) rfl (by show 2 * 0 + _ ≤ _; exact Nat.le_of_eq rfl) (hb hby at_535) (fun _ _ => ⟨rfl, eq62, (by decide : 6 + 0 ≤ _), (by decide : 22 + 0 ≤ _)⟩)
                      dsimp only [Pt.U, Pt.locs, Pt.cells, Pt.slots] at X66 lq66 yq66 zq66 st66 hQ66
                      subst lq66 yq66 zq66
                      obtain ⟨rfl, Nq66, eq65⟩ := hQ66
                      have N66 := Fr.app N63 Nq66
                      refine own_s T66 (mkF m 538 #[iv p0, iv p1, iv p2, iv p3, iv p4, iv p5, iv cap, iv S0, iv g, iv gg, iv d1, iv d2, iv m1, iv m2, iv bS, iv bM, iv ng, iv kk, iv ff, iv ch1, iv ch2, rv ad1, iv (own_to kk), iv (own_vk kk), iv fr1, rv ad4, iv (own_fr2 ff), iv (own_vf ff), rv ad15, rv b_21, iv 1, iv 1, iv 1, own_j (own_u d1 d2), s_, own_j (own_sv ng (own_u d1 d2)), s_, iv (own_mx S0 (own_vk kk)), u_, u_, u_, u_, u_, u_] [.int (own_mx (own_mx S0 (own_vk kk)) (own_vf ff))]) st66 ?_
                      refine own_s T66 (mkF m 540 #[iv p0, iv p1, iv p2, iv p3, iv p4, iv p5, iv cap, iv S0, iv g, iv gg, iv d1, iv d2, iv m1, iv m2, iv bS, iv bM, iv ng, iv kk, iv ff, iv ch1, iv ch2, rv ad1, iv (own_to kk), iv (own_vk kk), iv fr1, rv ad4, iv (own_fr2 ff), iv (own_vf ff), rv ad15, rv b_21, iv 1, iv 1, iv 1, own_j (own_u d1 d2), s_, own_j (own_sv ng (own_u d1 d2)), s_, iv (own_mx S0 (own_vk kk)), iv (own_mx (own_mx S0 (own_vk kk)) (own_vf ff)), u_, u_, u_, u_, u_] []) (fun t k => XS.istore X66.here hx rfl (hb hby at_538) rfl (l' := #[iv p0, iv p1, iv p2, iv p3, iv p4, iv p5, iv cap, iv S0, iv g, iv gg, iv d1, iv d2, iv m1, iv m2, iv bS, iv bM, iv ng, iv kk, iv ff, iv ch1, iv ch2, rv ad1, iv (own_to kk), iv (own_vk kk), iv fr1, rv ad4, iv (own_fr2 ff), iv (own_vf ff), rv ad15, rv b_21, iv 1, iv 1, iv 1, own_j (own_u d1 d2), s_, own_j (own_sv ng (own_u d1 d2)), s_, iv (own_mx S0 (own_vk kk)), iv (own_mx (own_mx S0 (own_vk kk)) (own_vf ff)), u_, u_, u_, u_, u_]) rfl k) ?_
                      refine own_s T66 (mkF m 542 #[iv p0, iv p1, iv p2, iv p3, iv p4, iv p5, iv cap, iv S0, iv g, iv gg, iv d1, iv d2, iv m1, iv m2, iv bS, iv bM, iv ng, iv kk, iv ff, iv ch1, iv ch2, rv ad1, iv (own_to kk), iv (own_vk kk), iv fr1, rv ad4, iv (own_fr2 ff), iv (own_vf ff), rv ad15, rv b_21, iv 1, iv 1, iv 1, own_j (own_u d1 d2), s_, own_j (own_sv ng (own_u d1 d2)), s_, iv (own_mx S0 (own_vk kk)), iv (own_mx (own_mx S0 (own_vk kk)) (own_vf ff)), u_, u_, u_, u_, u_] [.long (own_sv ng (own_u d1 d2))]) (fun t k => XS.lload X66.here hx rfl (hb hby at_540) rfl k) ?_
                      refine own_s T66 (mkF m 544 #[iv p0, iv p1, iv p2, iv p3, iv p4, iv p5, iv cap, iv S0, iv g, iv gg, iv d1, iv d2, iv m1, iv m2, iv bS, iv bM, iv ng, iv kk, iv ff, iv ch1, iv ch2, rv ad1, iv (own_to kk), iv (own_vk kk), iv fr1, rv ad4, iv (own_fr2 ff), iv (own_vf ff), rv ad15, rv b_21, iv 1, iv 1, iv 1, own_j (own_u d1 d2), s_, own_j (own_sv ng (own_u d1 d2)), s_, iv (own_mx S0 (own_vk kk)), iv (own_mx (own_mx S0 (own_vk kk)) (own_vf ff)), u_, u_, u_, u_, u_] [.int (own_mx (own_mx S0 (own_vk kk)) (own_vf ff)), .long (own_sv ng (own_u d1 d2))]) (fun t k => XS.iload X66.here hx rfl (hb hby at_542) rfl k) ?_
                      refine own_s T66 (mkF m 546 #[iv p0, iv p1, iv p2, iv p3, iv p4, iv p5, iv cap, iv S0, iv g, iv gg, iv d1, iv d2, iv m1, iv m2, iv bS, iv bM, iv ng, iv kk, iv ff, iv ch1, iv ch2, rv ad1, iv (own_to kk), iv (own_vk kk), iv fr1, rv ad4, iv (own_fr2 ff), iv (own_vf ff), rv ad15, rv b_21, iv 1, iv 1, iv 1, own_j (own_u d1 d2), s_, own_j (own_sv ng (own_u d1 d2)), s_, iv (own_mx S0 (own_vk kk)), iv (own_mx (own_mx S0 (own_vk kk)) (own_vf ff)), u_, u_, u_, u_, u_] [.int (own_vk kk), .int (own_mx (own_mx S0 (own_vk kk)) (own_vf ff)), .long (own_sv ng (own_u d1 d2))]) (fun t k => XS.iload X66.here hx rfl (hb hby at_544) rfl k) ?_
                      refine own_s T66 (mkF m 547 #[iv p0, iv p1, iv p2, iv p3, iv p4, iv p5, iv cap, iv S0, iv g, iv gg, iv d1, iv d2, iv m1, iv m2, iv bS, iv bM, iv ng, iv kk, iv ff, iv ch1, iv ch2, rv ad1, iv (own_to kk), iv (own_vk kk), iv fr1, rv ad4, iv (own_fr2 ff), iv (own_vf ff), rv ad15, rv b_21, iv 1, iv 1, iv 1, own_j (own_u d1 d2), s_, own_j (own_sv ng (own_u d1 d2)), s_, iv (own_mx S0 (own_vk kk)), iv (own_mx (own_mx S0 (own_vk kk)) (own_vf ff)), u_, u_, u_, u_, u_] [.int ((own_mx (own_mx S0 (own_vk kk)) (own_vf ff)) - (own_vk kk)), .long (own_sv ng (own_u d1 d2))]) (fun t k => XS.isub X66.here hx rfl (hb hby at_546) rfl k) ?_
                      obtain ⟨_, _, ⟨T69, L69, k69, n69⟩, -, X69, ⟨Lc69, hQ69, lq69, yq69, zq69⟩, st69⟩ := Jvm.LawKit.callS X66 hx (y := (⟨"com/example/viewlattice/viewlattice/engine/DecimalSumsGetUnscaledLongsPinLaw", "pow10", "(I)J"⟩ : MethodName)) hown (mvT hZ (hW 56 _ rfl)) (mvT hZ (hW 57 _ rfl)) (mvT hZ (hW 23 _ rfl)) (mvT hZ (hW 58 _ rfl)) (by decide) (backOf (W := 2) (rm_p10 l Z a0 hw [] ((own_mx (own_mx S0 (own_vk kk)) (own_vf ff)) - (own_vk kk)) T56.heap n0 Z54 ) hZ (hW 58 _ rfl) (hW 23 _ rfl) (by decide) (by decide)) (g := (mkF m 547 #[iv p0, iv p1, iv p2, iv p3, iv p4, iv p5, iv cap, iv S0, iv g, iv gg, iv d1, iv d2, iv m1, iv m2, iv bS, iv bM, iv ng, iv kk, iv ff, iv ch1, iv ch2, rv ad1, iv (own_to kk), iv (own_vk kk), iv fr1, rv ad4, iv (own_fr2 ff), iv (own_vf ff), rv ad15, rv b_21, iv 1, iv 1, iv 1, own_j (own_u d1 d2), s_, own_j (own_sv ng (own_u d1 d2)), s_, iv (own_mx S0 (own_vk kk)), iv (own_mx (own_mx S0 (own_vk kk)) (own_vf ff)), u_, u_, u_, u_, u_] [.int ((own_mx (own_mx S0 (own_vk kk)) (own_vf ff)) - (own_vk kk)), .long (own_sv ng (own_u d1 d2))])) rfl (by rw [hml]; rfl) (argsL := [(.int ((own_mx (own_mx S0 (own_vk kk)) (own_vf ff)) - (own_vk kk)))]) (rest := [(.long (own_sv ng (own_u d1 d2)))]) (lenOf pd_9 rfl) rfl (by show 2 * 0 + _ ≤ _; exact Nat.le_of_eq rfl) (hb hby at_547) (fun _ _ => ⟨rfl, eq65, (by decide : 6 + 0 ≤ _), (by decide : 22 + 0 ≤ _)⟩)
                      dsimp only [Pt.U, Pt.locs, Pt.cells, Pt.slots] at X69 lq69 yq69 zq69 st69 hQ69
                      subst lq69 yq69 zq69
                      obtain ⟨rfl, Nq69, eq68⟩ := hQ69
                      have N69 := Fr.app N66 Nq69
                      refine own_s T69 (mkF m 550 #[iv p0, iv p1, iv p2, iv p3, iv p4, iv p5, iv cap, iv S0, iv g, iv gg, iv d1, iv d2, iv m1, iv m2, iv bS, iv bM, iv ng, iv kk, iv ff, iv ch1, iv ch2, rv ad1, iv (own_to kk), iv (own_vk kk), iv fr1, rv ad4, iv (own_fr2 ff), iv (own_vf ff), rv ad15, rv b_21, iv 1, iv 1, iv 1, own_j (own_u d1 d2), s_, own_j (own_sv ng (own_u d1 d2)), s_, iv (own_mx S0 (own_vk kk)), iv (own_mx (own_mx S0 (own_vk kk)) (own_vf ff)), u_, u_, u_, u_, u_] [.long (own_p10 ((own_mx (own_mx S0 (own_vk kk)) (own_vf ff)) - (own_vk kk))), .long (own_sv ng (own_u d1 d2))]) st69 ?_
                      refine own_s T69 (mkF m 551 #[iv p0, iv p1, iv p2, iv p3, iv p4, iv p5, iv cap, iv S0, iv g, iv gg, iv d1, iv d2, iv m1, iv m2, iv bS, iv bM, iv ng, iv kk, iv ff, iv ch1, iv ch2, rv ad1, iv (own_to kk), iv (own_vk kk), iv fr1, rv ad4, iv (own_fr2 ff), iv (own_vf ff), rv ad15, rv b_21, iv 1, iv 1, iv 1, own_j (own_u d1 d2), s_, own_j (own_sv ng (own_u d1 d2)), s_, iv (own_mx S0 (own_vk kk)), iv (own_mx (own_mx S0 (own_vk kk)) (own_vf ff)), u_, u_, u_, u_, u_] [.long ((own_sv ng (own_u d1 d2)) * (own_p10 ((own_mx (own_mx S0 (own_vk kk)) (own_vf ff)) - (own_vk kk))))]) (fun t k => XS.lmul X69.here hx rfl (hb hby at_550) rfl k) ?_
                      refine own_s T69 (mkF m 553 #[iv p0, iv p1, iv p2, iv p3, iv p4, iv p5, iv cap, iv S0, iv g, iv gg, iv d1, iv d2, iv m1, iv m2, iv bS, iv bM, iv ng, iv kk, iv ff, iv ch1, iv ch2, rv ad1, iv (own_to kk), iv (own_vk kk), iv fr1, rv ad4, iv (own_fr2 ff), iv (own_vf ff), rv ad15, rv b_21, iv 1, iv 1, iv 1, own_j (own_u d1 d2), s_, own_j (own_sv ng (own_u d1 d2)), s_, iv (own_mx S0 (own_vk kk)), iv (own_mx (own_mx S0 (own_vk kk)) (own_vf ff)), own_j ((own_sv ng (own_u d1 d2)) * (own_p10 ((own_mx (own_mx S0 (own_vk kk)) (own_vf ff)) - (own_vk kk)))), s_, u_, u_, u_] []) (fun t k => XS.lstore X69.here hx rfl (hb hby at_551) rfl (l' := #[iv p0, iv p1, iv p2, iv p3, iv p4, iv p5, iv cap, iv S0, iv g, iv gg, iv d1, iv d2, iv m1, iv m2, iv bS, iv bM, iv ng, iv kk, iv ff, iv ch1, iv ch2, rv ad1, iv (own_to kk), iv (own_vk kk), iv fr1, rv ad4, iv (own_fr2 ff), iv (own_vf ff), rv ad15, rv b_21, iv 1, iv 1, iv 1, own_j (own_u d1 d2), s_, own_j (own_sv ng (own_u d1 d2)), s_, iv (own_mx S0 (own_vk kk)), iv (own_mx (own_mx S0 (own_vk kk)) (own_vf ff)), own_j ((own_sv ng (own_u d1 d2)) * (own_p10 ((own_mx (own_mx S0 (own_vk kk)) (own_vf ff)) - (own_vk kk)))), s_, u_, u_, u_]) rfl k) ?_
                      refine own_s T69 (mkF m 556 #[iv p0, iv p1, iv p2, iv p3, iv p4, iv p5, iv cap, iv S0, iv g, iv gg, iv d1, iv d2, iv m1, iv m2, iv bS, iv bM, iv ng, iv kk, iv ff, iv ch1, iv ch2, rv ad1, iv (own_to kk), iv (own_vk kk), iv fr1, rv ad4, iv (own_fr2 ff), iv (own_vf ff), rv ad15, rv b_21, iv 1, iv 1, iv 1, own_j (own_u d1 d2), s_, own_j (own_sv ng (own_u d1 d2)), s_, iv (own_mx S0 (own_vk kk)), iv (own_mx (own_mx S0 (own_vk kk)) (own_vf ff)), own_j ((own_sv ng (own_u d1 d2)) * (own_p10 ((own_mx (own_mx S0 (own_vk kk)) (own_vf ff)) - (own_vk kk)))), s_, u_, u_, u_] [.long 10]) (X69.ldc2Long hx hown (mvT hZ (hW 54 _ rfl)) (g := (mkF m 553 #[iv p0, iv p1, iv p2, iv p3, iv p4, iv p5, iv cap, iv S0, iv g, iv gg, iv d1, iv d2, iv m1, iv m2, iv bS, iv bM, iv ng, iv kk, iv ff, iv ch1, iv ch2, rv ad1, iv (own_to kk), iv (own_vk kk), iv fr1, rv ad4, iv (own_fr2 ff), iv (own_vf ff), rv ad15, rv b_21, iv 1, iv 1, iv 1, own_j (own_u d1 d2), s_, own_j (own_sv ng (own_u d1 d2)), s_, iv (own_mx S0 (own_vk kk)), iv (own_mx (own_mx S0 (own_vk kk)) (own_vf ff)), own_j ((own_sv ng (own_u d1 d2)) * (own_p10 ((own_mx (own_mx S0 (own_vk kk)) (own_vf ff)) - (own_vk kk)))), s_, u_, u_, u_] [])) rfl (hb hby at_553)) ?_
                      refine own_s T69 (mkF m 558 #[iv p0, iv p1, iv p2, iv p3, iv p4, iv p5, iv cap, iv S0, iv g, iv gg, iv d1, iv d2, iv m1, iv m2, iv bS, iv bM, iv ng, iv kk, iv ff, iv ch1, iv ch2, rv ad1, iv (own_to kk), iv (own_vk kk), iv fr1, rv ad4, iv (own_fr2 ff), iv (own_vf ff), rv ad15, rv b_21, iv 1, iv 1, iv 1, own_j (own_u d1 d2), s_, own_j (own_sv ng (own_u d1 d2)), s_, iv (own_mx S0 (own_vk kk)), iv (own_mx (own_mx S0 (own_vk kk)) (own_vf ff)), own_j ((own_sv ng (own_u d1 d2)) * (own_p10 ((own_mx (own_mx S0 (own_vk kk)) (own_vf ff)) - (own_vk kk)))), s_, u_, u_, u_] [.int m1, .long 10]) (fun t k => XS.iload X69.here hx rfl (hb hby at_556) rfl k) ?_
                      refine own_s T69 (mkF m 559 #[iv p0, iv p1, iv p2, iv p3, iv p4, iv p5, iv cap, iv S0, iv g, iv gg, iv d1, iv d2, iv m1, iv m2, iv bS, iv bM, iv ng, iv kk, iv ff, iv ch1, iv ch2, rv ad1, iv (own_to kk), iv (own_vk kk), iv fr1, rv ad4, iv (own_fr2 ff), iv (own_vf ff), rv ad15, rv b_21, iv 1, iv 1, iv 1, own_j (own_u d1 d2), s_, own_j (own_sv ng (own_u d1 d2)), s_, iv (own_mx S0 (own_vk kk)), iv (own_mx (own_mx S0 (own_vk kk)) (own_vf ff)), own_j ((own_sv ng (own_u d1 d2)) * (own_p10 ((own_mx (own_mx S0 (own_vk kk)) (own_vf ff)) - (own_vk kk)))), s_, u_, u_, u_] [.long (m1.toInt64), .long 10]) (fun t k => XS.i2l X69.here hx rfl (hb hby at_558) rfl k) ?_
                      refine own_s T69 (mkF m 560 #[iv p0, iv p1, iv p2, iv p3, iv p4, iv p5, iv cap, iv S0, iv g, iv gg, iv d1, iv d2, iv m1, iv m2, iv bS, iv bM, iv ng, iv kk, iv ff, iv ch1, iv ch2, rv ad1, iv (own_to kk), iv (own_vk kk), iv fr1, rv ad4, iv (own_fr2 ff), iv (own_vf ff), rv ad15, rv b_21, iv 1, iv 1, iv 1, own_j (own_u d1 d2), s_, own_j (own_sv ng (own_u d1 d2)), s_, iv (own_mx S0 (own_vk kk)), iv (own_mx (own_mx S0 (own_vk kk)) (own_vf ff)), own_j ((own_sv ng (own_u d1 d2)) * (own_p10 ((own_mx (own_mx S0 (own_vk kk)) (own_vf ff)) - (own_vk kk)))), s_, u_, u_, u_] [.long ((10 : Int64) * (m1.toInt64))]) (fun t k => XS.lmul X69.here hx rfl (hb hby at_559) rfl k) ?_
                      refine own_s T69 (mkF m 562 #[iv p0, iv p1, iv p2, iv p3, iv p4, iv p5, iv cap, iv S0, iv g, iv gg, iv d1, iv d2, iv m1, iv m2, iv bS, iv bM, iv ng, iv kk, iv ff, iv ch1, iv ch2, rv ad1, iv (own_to kk), iv (own_vk kk), iv fr1, rv ad4, iv (own_fr2 ff), iv (own_vf ff), rv ad15, rv b_21, iv 1, iv 1, iv 1, own_j (own_u d1 d2), s_, own_j (own_sv ng (own_u d1 d2)), s_, iv (own_mx S0 (own_vk kk)), iv (own_mx (own_mx S0 (own_vk kk)) (own_vf ff)), own_j ((own_sv ng (own_u d1 d2)) * (own_p10 ((own_mx (own_mx S0 (own_vk kk)) (own_vf ff)) - (own_vk kk)))), s_, u_, u_, u_] [.int m2, .long ((10 : Int64) * (m1.toInt64))]) (fun t k => XS.iload X69.here hx rfl (hb hby at_560) rfl k) ?_
                      refine own_s T69 (mkF m 563 #[iv p0, iv p1, iv p2, iv p3, iv p4, iv p5, iv cap, iv S0, iv g, iv gg, iv d1, iv d2, iv m1, iv m2, iv bS, iv bM, iv ng, iv kk, iv ff, iv ch1, iv ch2, rv ad1, iv (own_to kk), iv (own_vk kk), iv fr1, rv ad4, iv (own_fr2 ff), iv (own_vf ff), rv ad15, rv b_21, iv 1, iv 1, iv 1, own_j (own_u d1 d2), s_, own_j (own_sv ng (own_u d1 d2)), s_, iv (own_mx S0 (own_vk kk)), iv (own_mx (own_mx S0 (own_vk kk)) (own_vf ff)), own_j ((own_sv ng (own_u d1 d2)) * (own_p10 ((own_mx (own_mx S0 (own_vk kk)) (own_vf ff)) - (own_vk kk)))), s_, u_, u_, u_] [.long (m2.toInt64), .long ((10 : Int64) * (m1.toInt64))]) (fun t k => XS.i2l X69.here hx rfl (hb hby at_562) rfl k) ?_
                      refine own_s T69 (mkF m 564 #[iv p0, iv p1, iv p2, iv p3, iv p4, iv p5, iv cap, iv S0, iv g, iv gg, iv d1, iv d2, iv m1, iv m2, iv bS, iv bM, iv ng, iv kk, iv ff, iv ch1, iv ch2, rv ad1, iv (own_to kk), iv (own_vk kk), iv fr1, rv ad4, iv (own_fr2 ff), iv (own_vf ff), rv ad15, rv b_21, iv 1, iv 1, iv 1, own_j (own_u d1 d2), s_, own_j (own_sv ng (own_u d1 d2)), s_, iv (own_mx S0 (own_vk kk)), iv (own_mx (own_mx S0 (own_vk kk)) (own_vf ff)), own_j ((own_sv ng (own_u d1 d2)) * (own_p10 ((own_mx (own_mx S0 (own_vk kk)) (own_vf ff)) - (own_vk kk)))), s_, u_, u_, u_] [.long (((10 : Int64) * (m1.toInt64)) + (m2.toInt64))]) (fun t k => XS.ladd X69.here hx rfl (hb hby at_563) rfl k) ?_
                      refine own_cast (g' := (mkF m 564 #[iv p0, iv p1, iv p2, iv p3, iv p4, iv p5, iv cap, iv S0, iv g, iv gg, iv d1, iv d2, iv m1, iv m2, iv bS, iv bM, iv ng, iv kk, iv ff, iv ch1, iv ch2, rv ad1, iv (own_to kk), iv (own_vk kk), iv fr1, rv ad4, iv (own_fr2 ff), iv (own_vf ff), rv ad15, rv b_21, iv 1, iv 1, iv 1, own_j (own_u d1 d2), s_, own_j (own_sv ng (own_u d1 d2)), s_, iv (own_mx S0 (own_vk kk)), iv (own_mx (own_mx S0 (own_vk kk)) (own_vf ff)), own_j ((own_sv ng (own_u d1 d2)) * (own_p10 ((own_mx (own_mx S0 (own_vk kk)) (own_vf ff)) - (own_vk kk)))), s_, u_, u_, u_] [.long (own_u m1 m2)])) rfl ?_
                      refine own_s T69 (mkF m 566 #[iv p0, iv p1, iv p2, iv p3, iv p4, iv p5, iv cap, iv S0, iv g, iv gg, iv d1, iv d2, iv m1, iv m2, iv bS, iv bM, iv ng, iv kk, iv ff, iv ch1, iv ch2, rv ad1, iv (own_to kk), iv (own_vk kk), iv fr1, rv ad4, iv (own_fr2 ff), iv (own_vf ff), rv ad15, rv b_21, iv 1, iv 1, iv 1, own_j (own_u d1 d2), s_, own_j (own_sv ng (own_u d1 d2)), s_, iv (own_mx S0 (own_vk kk)), iv (own_mx (own_mx S0 (own_vk kk)) (own_vf ff)), own_j ((own_sv ng (own_u d1 d2)) * (own_p10 ((own_mx (own_mx S0 (own_vk kk)) (own_vf ff)) - (own_vk kk)))), s_, u_, u_, u_] [.int (own_mx (own_mx S0 (own_vk kk)) (own_vf ff)), .long (own_u m1 m2)]) (fun t k => XS.iload X69.here hx rfl (hb hby at_564) rfl k) ?_
                      refine own_s T69 (mkF m 568 #[iv p0, iv p1, iv p2, iv p3, iv p4, iv p5, iv cap, iv S0, iv g, iv gg, iv d1, iv d2, iv m1, iv m2, iv bS, iv bM, iv ng, iv kk, iv ff, iv ch1, iv ch2, rv ad1, iv (own_to kk), iv (own_vk kk), iv fr1, rv ad4, iv (own_fr2 ff), iv (own_vf ff), rv ad15, rv b_21, iv 1, iv 1, iv 1, own_j (own_u d1 d2), s_, own_j (own_sv ng (own_u d1 d2)), s_, iv (own_mx S0 (own_vk kk)), iv (own_mx (own_mx S0 (own_vk kk)) (own_vf ff)), own_j ((own_sv ng (own_u d1 d2)) * (own_p10 ((own_mx (own_mx S0 (own_vk kk)) (own_vf ff)) - (own_vk kk)))), s_, u_, u_, u_] [.int (own_vf ff), .int (own_mx (own_mx S0 (own_vk kk)) (own_vf ff)), .long (own_u m1 m2)]) (fun t k => XS.iload X69.here hx rfl (hb hby at_566) rfl k) ?_
                      refine own_s T69 (mkF m 569 #[iv p0, iv p1, iv p2, iv p3, iv p4, iv p5, iv cap, iv S0, iv g, iv gg, iv d1, iv d2, iv m1, iv m2, iv bS, iv bM, iv ng, iv kk, iv ff, iv ch1, iv ch2, rv ad1, iv (own_to kk), iv (own_vk kk), iv fr1, rv ad4, iv (own_fr2 ff), iv (own_vf ff), rv ad15, rv b_21, iv 1, iv 1, iv 1, own_j (own_u d1 d2), s_, own_j (own_sv ng (own_u d1 d2)), s_, iv (own_mx S0 (own_vk kk)), iv (own_mx (own_mx S0 (own_vk kk)) (own_vf ff)), own_j ((own_sv ng (own_u d1 d2)) * (own_p10 ((own_mx (own_mx S0 (own_vk kk)) (own_vf ff)) - (own_vk kk)))), s_, u_, u_, u_] [.int ((own_mx (own_mx S0 (own_vk kk)) (own_vf ff)) - (own_vf ff)), .long (own_u m1 m2)]) (fun t k => XS.isub X69.here hx rfl (hb hby at_568) rfl k) ?_
                      obtain ⟨_, _, ⟨T72, L72, k72, n72⟩, -, X72, ⟨Lc72, hQ72, lq72, yq72, zq72⟩, st72⟩ := Jvm.LawKit.callS X69 hx (y := (⟨"com/example/viewlattice/viewlattice/engine/DecimalSumsGetUnscaledLongsPinLaw", "pow10", "(I)J"⟩ : MethodName)) hown (mvT hZ (hW 56 _ rfl)) (mvT hZ (hW 57 _ rfl)) (mvT hZ (hW 23 _ rfl)) (mvT hZ (hW 58 _ rfl)) (by decide) (backOf (W := 2) (rm_p10 l Z a0 hw [] ((own_mx (own_mx S0 (own_vk kk)) (own_vf ff)) - (own_vf ff)) T56.heap n0 Z54 ) hZ (hW 58 _ rfl) (hW 23 _ rfl) (by decide) (by decide)) (g := (mkF m 569 #[iv p0, iv p1, iv p2, iv p3, iv p4, iv p5, iv cap, iv S0, iv g, iv gg, iv d1, iv d2, iv m1, iv m2, iv bS, iv bM, iv ng, iv kk, iv ff, iv ch1, iv ch2, rv ad1, iv (own_to kk), iv (own_vk kk), iv fr1, rv ad4, iv (own_fr2 ff), iv (own_vf ff), rv ad15, rv b_21, iv 1, iv 1, iv 1, own_j (own_u d1 d2), s_, own_j (own_sv ng (own_u d1 d2)), s_, iv (own_mx S0 (own_vk kk)), iv (own_mx (own_mx S0 (own_vk kk)) (own_vf ff)), own_j ((own_sv ng (own_u d1 d2)) * (own_p10 ((own_mx (own_mx S0 (own_vk kk)) (own_vf ff)) - (own_vk kk)))), s_, u_, u_, u_] [.int ((own_mx (own_mx S0 (own_vk kk)) (own_vf ff)) - (own_vf ff)), .long (own_u m1 m2)])) rfl (by rw [hml]; rfl) (argsL := [(.int ((own_mx (own_mx S0 (own_vk kk)) (own_vf ff)) - (own_vf ff)))]) (rest := [(.long (own_u m1 m2))]) (lenOf pd_9 rfl) rfl (by show 2 * 0 + _ ≤ _; exact Nat.le_of_eq rfl) (hb hby at_569) (fun _ _ => ⟨rfl, eq68, (by decide : 6 + 0 ≤ _), (by decide : 22 + 0 ≤ _)⟩)
                      dsimp only [Pt.U, Pt.locs, Pt.cells, Pt.slots] at X72 lq72 yq72 zq72 st72 hQ72
                      subst lq72 yq72 zq72
                      obtain ⟨rfl, Nq72, eq71⟩ := hQ72
                      have N72 := Fr.app N69 Nq72
                      refine own_s T72 (mkF m 572 #[iv p0, iv p1, iv p2, iv p3, iv p4, iv p5, iv cap, iv S0, iv g, iv gg, iv d1, iv d2, iv m1, iv m2, iv bS, iv bM, iv ng, iv kk, iv ff, iv ch1, iv ch2, rv ad1, iv (own_to kk), iv (own_vk kk), iv fr1, rv ad4, iv (own_fr2 ff), iv (own_vf ff), rv ad15, rv b_21, iv 1, iv 1, iv 1, own_j (own_u d1 d2), s_, own_j (own_sv ng (own_u d1 d2)), s_, iv (own_mx S0 (own_vk kk)), iv (own_mx (own_mx S0 (own_vk kk)) (own_vf ff)), own_j ((own_sv ng (own_u d1 d2)) * (own_p10 ((own_mx (own_mx S0 (own_vk kk)) (own_vf ff)) - (own_vk kk)))), s_, u_, u_, u_] [.long (own_p10 ((own_mx (own_mx S0 (own_vk kk)) (own_vf ff)) - (own_vf ff))), .long (own_u m1 m2)]) st72 ?_
                      refine own_s T72 (mkF m 573 #[iv p0, iv p1, iv p2, iv p3, iv p4, iv p5, iv cap, iv S0, iv g, iv gg, iv d1, iv d2, iv m1, iv m2, iv bS, iv bM, iv ng, iv kk, iv ff, iv ch1, iv ch2, rv ad1, iv (own_to kk), iv (own_vk kk), iv fr1, rv ad4, iv (own_fr2 ff), iv (own_vf ff), rv ad15, rv b_21, iv 1, iv 1, iv 1, own_j (own_u d1 d2), s_, own_j (own_sv ng (own_u d1 d2)), s_, iv (own_mx S0 (own_vk kk)), iv (own_mx (own_mx S0 (own_vk kk)) (own_vf ff)), own_j ((own_sv ng (own_u d1 d2)) * (own_p10 ((own_mx (own_mx S0 (own_vk kk)) (own_vf ff)) - (own_vk kk)))), s_, u_, u_, u_] [.long ((own_u m1 m2) * (own_p10 ((own_mx (own_mx S0 (own_vk kk)) (own_vf ff)) - (own_vf ff))))]) (fun t k => XS.lmul X72.here hx rfl (hb hby at_572) rfl k) ?_
                      refine own_s T72 (mkF m 575 #[iv p0, iv p1, iv p2, iv p3, iv p4, iv p5, iv cap, iv S0, iv g, iv gg, iv d1, iv d2, iv m1, iv m2, iv bS, iv bM, iv ng, iv kk, iv ff, iv ch1, iv ch2, rv ad1, iv (own_to kk), iv (own_vk kk), iv fr1, rv ad4, iv (own_fr2 ff), iv (own_vf ff), rv ad15, rv b_21, iv 1, iv 1, iv 1, own_j (own_u d1 d2), s_, own_j (own_sv ng (own_u d1 d2)), s_, iv (own_mx S0 (own_vk kk)), iv (own_mx (own_mx S0 (own_vk kk)) (own_vf ff)), own_j ((own_sv ng (own_u d1 d2)) * (own_p10 ((own_mx (own_mx S0 (own_vk kk)) (own_vf ff)) - (own_vk kk)))), s_, own_j ((own_u m1 m2) * (own_p10 ((own_mx (own_mx S0 (own_vk kk)) (own_vf ff)) - (own_vf ff)))), s_, u_] []) (fun t k => XS.lstore X72.here hx rfl (hb hby at_573) rfl (l' := #[iv p0, iv p1, iv p2, iv p3, iv p4, iv p5, iv cap, iv S0, iv g, iv gg, iv d1, iv d2, iv m1, iv m2, iv bS, iv bM, iv ng, iv kk, iv ff, iv ch1, iv ch2, rv ad1, iv (own_to kk), iv (own_vk kk), iv fr1, rv ad4, iv (own_fr2 ff), iv (own_vf ff), rv ad15, rv b_21, iv 1, iv 1, iv 1, own_j (own_u d1 d2), s_, own_j (own_sv ng (own_u d1 d2)), s_, iv (own_mx S0 (own_vk kk)), iv (own_mx (own_mx S0 (own_vk kk)) (own_vf ff)), own_j ((own_sv ng (own_u d1 d2)) * (own_p10 ((own_mx (own_mx S0 (own_vk kk)) (own_vf ff)) - (own_vk kk)))), s_, own_j ((own_u m1 m2) * (own_p10 ((own_mx (own_mx S0 (own_vk kk)) (own_vf ff)) - (own_vf ff)))), s_, u_]) rfl k) ?_
                      refine own_s T72 (mkF m 577 #[iv p0, iv p1, iv p2, iv p3, iv p4, iv p5, iv cap, iv S0, iv g, iv gg, iv d1, iv d2, iv m1, iv m2, iv bS, iv bM, iv ng, iv kk, iv ff, iv ch1, iv ch2, rv ad1, iv (own_to kk), iv (own_vk kk), iv fr1, rv ad4, iv (own_fr2 ff), iv (own_vf ff), rv ad15, rv b_21, iv 1, iv 1, iv 1, own_j (own_u d1 d2), s_, own_j (own_sv ng (own_u d1 d2)), s_, iv (own_mx S0 (own_vk kk)), iv (own_mx (own_mx S0 (own_vk kk)) (own_vf ff)), own_j ((own_sv ng (own_u d1 d2)) * (own_p10 ((own_mx (own_mx S0 (own_vk kk)) (own_vf ff)) - (own_vk kk)))), s_, own_j ((own_u m1 m2) * (own_p10 ((own_mx (own_mx S0 (own_vk kk)) (own_vf ff)) - (own_vf ff)))), s_, u_] [.ref ad15]) (fun t k => XS.aload X72.here hx rfl (hb hby at_575) rfl rfl k) ?_
                      obtain ⟨cq76, kq76, q76a, q76b, q76c⟩ := isOf hZ eq71 g60
                      obtain ⟨_, _, ⟨T75, L75, k75, n75⟩, -, X75, ⟨Lc75, hQ75, lq75, yq75, zq75⟩, st75⟩ := X72.virtualBack hx (y := (⟨"com/example/viewlattice/viewlattice/engine/DecimalSums", "getUnscaledLongs", "()[J"⟩ : MethodName)) (z := (⟨"com/example/viewlattice/viewlattice/engine/DecimalSums", "getUnscaledLongs", "()[J"⟩ : MethodName)) hown (mvT hZ (hW 16 _ rfl)) (mvT hZ (hW 17 _ rfl)) (notFace_of_selects (args := #[]) (mvT hZ (hW 19 _ rfl))) (mvT hZ (hW 19 _ rfl)) (mvT hZ (hW 18 _ rfl)) (by decide) (backOf (W := 0) (rm_gul l Z a0 hw [] ad15 b_53 kb_53 cap (own_mx (own_mx S0 (own_vk kk)) (own_vf ff)) (own_upd gg (0 : Int32) ((own_upd g (0 : Int32) ((0 : Int64) * own_f S0 (own_vk kk)) ((own_sv ng (own_u d1 d2)) * own_p10 (own_mx S0 (own_vk kk) - (own_vk kk)))) * own_f (own_mx S0 (own_vk kk)) (own_vf ff)) ((own_u m1 m2) * own_p10 (own_mx (own_mx S0 (own_vk kk)) (own_vf ff) - (own_vf ff)))) (own_upd gg (1 : Int32) ((own_upd g (1 : Int32) ((0 : Int64) * own_f S0 (own_vk kk)) ((own_sv ng (own_u d1 d2)) * own_p10 (own_mx S0 (own_vk kk) - (own_vk kk)))) * own_f (own_mx S0 (own_vk kk)) (own_vf ff)) ((own_u m1 m2) * own_p10 (own_mx (own_mx S0 (own_vk kk)) (own_vf ff) - (own_vf ff)))) (own_upd gg (2 : Int32) ((own_upd g (2 : Int32) ((0 : Int64) * own_f S0 (own_vk kk)) ((own_sv ng (own_u d1 d2)) * own_p10 (own_mx S0 (own_vk kk) - (own_vk kk)))) * own_f (own_mx S0 (own_vk kk)) (own_vf ff)) ((own_u m1 m2) * own_p10 (own_mx (own_mx S0 (own_vk kk)) (own_vf ff) - (own_vf ff)))) (own_upd gg (3 : Int32) ((own_upd g (3 : Int32) ((0 : Int64) * own_f S0 (own_vk kk)) ((own_sv ng (own_u d1 d2)) * own_p10 (own_mx S0 (own_vk kk) - (own_vk kk)))) * own_f (own_mx S0 (own_vk kk)) (own_vf ff)) ((own_u m1 m2) * own_p10 (own_mx (own_mx S0 (own_vk kk)) (own_vf ff) - (own_vf ff)))) T56.heap n0 Z54 g55) hZ (hW 20 _ rfl) (hW 4 _ rfl) (by decide) (by decide)) q76a q76c (g := (mkF m 577 #[iv p0, iv p1, iv p2, iv p3, iv p4, iv p5, iv cap, iv S0, iv g, iv gg, iv d1, iv d2, iv m1, iv m2, iv bS, iv bM, iv ng, iv kk, iv ff, iv ch1, iv ch2, rv ad1, iv (own_to kk), iv (own_vk kk), iv fr1, rv ad4, iv (own_fr2 ff), iv (own_vf ff), rv ad15, rv b_21, iv 1, iv 1, iv 1, own_j (own_u d1 d2), s_, own_j (own_sv ng (own_u d1 d2)), s_, iv (own_mx S0 (own_vk kk)), iv (own_mx (own_mx S0 (own_vk kk)) (own_vf ff)), own_j ((own_sv ng (own_u d1 d2)) * (own_p10 ((own_mx (own_mx S0 (own_vk kk)) (own_vf ff)) - (own_vk kk)))), s_, own_j ((own_u m1 m2) * (own_p10 ((own_mx (own_mx S0 (own_vk kk)) (own_vf ff)) - (own_vf ff)))), s_, u_] [.ref ad15])) rfl (by rw [hml]; rfl) (Steps.refl _) (argsL := []) (rest := []) (lenOf pd_6 rfl) rfl (by show 2 * 0 + _ ≤ _; exact Nat.le_of_eq rfl) (hb hby at_577) (fun _ _ => ⟨rfl, eq71, (by decide : 6 + 0 ≤ _), (by decide : 22 + 0 ≤ _)⟩)
                      dsimp only [Pt.U, Pt.locs, Pt.cells, Pt.slots] at X75 lq75 yq75 zq75 st75 hQ75
                      subst lq75 yq75 zq75
                      obtain ⟨rfl, Nq75, eq74⟩ := hQ75
                      have N75 := Fr.app N72 Nq75
                      refine own_tr (T' := T75) (g' := (mkF m 580 #[iv p0, iv p1, iv p2, iv p3, iv p4, iv p5, iv cap, iv S0, iv g, iv gg, iv d1, iv d2, iv m1, iv m2, iv bS, iv bM, iv ng, iv kk, iv ff, iv ch1, iv ch2, rv ad1, iv (own_to kk), iv (own_vk kk), iv fr1, rv ad4, iv (own_fr2 ff), iv (own_vf ff), rv ad15, rv b_21, iv 1, iv 1, iv 1, own_j (own_u d1 d2), s_, own_j (own_sv ng (own_u d1 d2)), s_, iv (own_mx S0 (own_vk kk)), iv (own_mx (own_mx S0 (own_vk kk)) (own_vf ff)), own_j ((own_sv ng (own_u d1 d2)) * (own_p10 ((own_mx (own_mx S0 (own_vk kk)) (own_vf ff)) - (own_vk kk)))), s_, own_j ((own_u m1 m2) * (own_p10 ((own_mx (own_mx S0 (own_vk kk)) (own_vf ff)) - (own_vf ff)))), s_, u_] [.ref b_53])) st75 ?_
                      refine own_s T75 (mkF m 582 #[iv p0, iv p1, iv p2, iv p3, iv p4, iv p5, iv cap, iv S0, iv g, iv gg, iv d1, iv d2, iv m1, iv m2, iv bS, iv bM, iv ng, iv kk, iv ff, iv ch1, iv ch2, rv ad1, iv (own_to kk), iv (own_vk kk), iv fr1, rv ad4, iv (own_fr2 ff), iv (own_vf ff), rv ad15, rv b_21, iv 1, iv 1, iv 1, own_j (own_u d1 d2), s_, own_j (own_sv ng (own_u d1 d2)), s_, iv (own_mx S0 (own_vk kk)), iv (own_mx (own_mx S0 (own_vk kk)) (own_vf ff)), own_j ((own_sv ng (own_u d1 d2)) * (own_p10 ((own_mx (own_mx S0 (own_vk kk)) (own_vf ff)) - (own_vk kk)))), s_, own_j ((own_u m1 m2) * (own_p10 ((own_mx (own_mx S0 (own_vk kk)) (own_vf ff)) - (own_vf ff)))), s_, rv b_53] []) (fun t k => XS.astore X75.here hx rfl (hb hby at_580) rfl rfl (l' := #[iv p0, iv p1, iv p2, iv p3, iv p4, iv p5, iv cap, iv S0, iv g, iv gg, iv d1, iv d2, iv m1, iv m2, iv bS, iv bM, iv ng, iv kk, iv ff, iv ch1, iv ch2, rv ad1, iv (own_to kk), iv (own_vk kk), iv fr1, rv ad4, iv (own_fr2 ff), iv (own_vf ff), rv ad15, rv b_21, iv 1, iv 1, iv 1, own_j (own_u d1 d2), s_, own_j (own_sv ng (own_u d1 d2)), s_, iv (own_mx S0 (own_vk kk)), iv (own_mx (own_mx S0 (own_vk kk)) (own_vf ff)), own_j ((own_sv ng (own_u d1 d2)) * (own_p10 ((own_mx (own_mx S0 (own_vk kk)) (own_vf ff)) - (own_vk kk)))), s_, own_j ((own_u m1 m2) * (own_p10 ((own_mx (own_mx S0 (own_vk kk)) (own_vf ff)) - (own_vf ff)))), s_, rv b_53]) rfl k) ?_
                      refine own_s T75 (mkF m 584 #[iv p0, iv p1, iv p2, iv p3, iv p4, iv p5, iv cap, iv S0, iv g, iv gg, iv d1, iv d2, iv m1, iv m2, iv bS, iv bM, iv ng, iv kk, iv ff, iv ch1, iv ch2, rv ad1, iv (own_to kk), iv (own_vk kk), iv fr1, rv ad4, iv (own_fr2 ff), iv (own_vf ff), rv ad15, rv b_21, iv 1, iv 1, iv 1, own_j (own_u d1 d2), s_, own_j (own_sv ng (own_u d1 d2)), s_, iv (own_mx S0 (own_vk kk)), iv (own_mx (own_mx S0 (own_vk kk)) (own_vf ff)), own_j ((own_sv ng (own_u d1 d2)) * (own_p10 ((own_mx (own_mx S0 (own_vk kk)) (own_vf ff)) - (own_vk kk)))), s_, own_j ((own_u m1 m2) * (own_p10 ((own_mx (own_mx S0 (own_vk kk)) (own_vf ff)) - (own_vf ff)))), s_, rv b_53] [.int 1]) (fun t k => XS.iload X75.here hx rfl (hb hby at_582) rfl k) ?_
                      refine own_s T75 (mkF m 587 #[iv p0, iv p1, iv p2, iv p3, iv p4, iv p5, iv cap, iv S0, iv g, iv gg, iv d1, iv d2, iv m1, iv m2, iv bS, iv bM, iv ng, iv kk, iv ff, iv ch1, iv ch2, rv ad1, iv (own_to kk), iv (own_vk kk), iv fr1, rv ad4, iv (own_fr2 ff), iv (own_vf ff), rv ad15, rv b_21, iv 1, iv 1, iv 1, own_j (own_u d1 d2), s_, own_j (own_sv ng (own_u d1 d2)), s_, iv (own_mx S0 (own_vk kk)), iv (own_mx (own_mx S0 (own_vk kk)) (own_vf ff)), own_j ((own_sv ng (own_u d1 d2)) * (own_p10 ((own_mx (own_mx S0 (own_vk kk)) (own_vf ff)) - (own_vk kk)))), s_, own_j ((own_u m1 m2) * (own_p10 ((own_mx (own_mx S0 (own_vk kk)) (own_vf ff)) - (own_vf ff)))), s_, rv b_53] []) (fun t k => XS.ifNo X75.here hx rfl (hb hby at_584) rfl ((if0 _ _).trans (feq (by decide : ¬ ((1 : Int32) = (0 : Int32)))).1) k) ?_
                      refine own_s T75 (mkF m 589 #[iv p0, iv p1, iv p2, iv p3, iv p4, iv p5, iv cap, iv S0, iv g, iv gg, iv d1, iv d2, iv m1, iv m2, iv bS, iv bM, iv ng, iv kk, iv ff, iv ch1, iv ch2, rv ad1, iv (own_to kk), iv (own_vk kk), iv fr1, rv ad4, iv (own_fr2 ff), iv (own_vf ff), rv ad15, rv b_21, iv 1, iv 1, iv 1, own_j (own_u d1 d2), s_, own_j (own_sv ng (own_u d1 d2)), s_, iv (own_mx S0 (own_vk kk)), iv (own_mx (own_mx S0 (own_vk kk)) (own_vf ff)), own_j ((own_sv ng (own_u d1 d2)) * (own_p10 ((own_mx (own_mx S0 (own_vk kk)) (own_vf ff)) - (own_vk kk)))), s_, own_j ((own_u m1 m2) * (own_p10 ((own_mx (own_mx S0 (own_vk kk)) (own_vf ff)) - (own_vf ff)))), s_, rv b_53] [.int 1]) (fun t k => XS.iload X75.here hx rfl (hb hby at_587) rfl k) ?_
                      refine own_s T75 (mkF m 592 #[iv p0, iv p1, iv p2, iv p3, iv p4, iv p5, iv cap, iv S0, iv g, iv gg, iv d1, iv d2, iv m1, iv m2, iv bS, iv bM, iv ng, iv kk, iv ff, iv ch1, iv ch2, rv ad1, iv (own_to kk), iv (own_vk kk), iv fr1, rv ad4, iv (own_fr2 ff), iv (own_vf ff), rv ad15, rv b_21, iv 1, iv 1, iv 1, own_j (own_u d1 d2), s_, own_j (own_sv ng (own_u d1 d2)), s_, iv (own_mx S0 (own_vk kk)), iv (own_mx (own_mx S0 (own_vk kk)) (own_vf ff)), own_j ((own_sv ng (own_u d1 d2)) * (own_p10 ((own_mx (own_mx S0 (own_vk kk)) (own_vf ff)) - (own_vk kk)))), s_, own_j ((own_u m1 m2) * (own_p10 ((own_mx (own_mx S0 (own_vk kk)) (own_vf ff)) - (own_vf ff)))), s_, rv b_53] []) (fun t k => XS.ifNo X75.here hx rfl (hb hby at_589) rfl ((if0 _ _).trans (feq (by decide : ¬ ((1 : Int32) = (0 : Int32)))).1) k) ?_
                      refine own_s T75 (mkF m 594 #[iv p0, iv p1, iv p2, iv p3, iv p4, iv p5, iv cap, iv S0, iv g, iv gg, iv d1, iv d2, iv m1, iv m2, iv bS, iv bM, iv ng, iv kk, iv ff, iv ch1, iv ch2, rv ad1, iv (own_to kk), iv (own_vk kk), iv fr1, rv ad4, iv (own_fr2 ff), iv (own_vf ff), rv ad15, rv b_21, iv 1, iv 1, iv 1, own_j (own_u d1 d2), s_, own_j (own_sv ng (own_u d1 d2)), s_, iv (own_mx S0 (own_vk kk)), iv (own_mx (own_mx S0 (own_vk kk)) (own_vf ff)), own_j ((own_sv ng (own_u d1 d2)) * (own_p10 ((own_mx (own_mx S0 (own_vk kk)) (own_vf ff)) - (own_vk kk)))), s_, own_j ((own_u m1 m2) * (own_p10 ((own_mx (own_mx S0 (own_vk kk)) (own_vf ff)) - (own_vf ff)))), s_, rv b_53] [.int 1]) (fun t k => XS.iload X75.here hx rfl (hb hby at_592) rfl k) ?_
                      refine own_s T75 (mkF m 597 #[iv p0, iv p1, iv p2, iv p3, iv p4, iv p5, iv cap, iv S0, iv g, iv gg, iv d1, iv d2, iv m1, iv m2, iv bS, iv bM, iv ng, iv kk, iv ff, iv ch1, iv ch2, rv ad1, iv (own_to kk), iv (own_vk kk), iv fr1, rv ad4, iv (own_fr2 ff), iv (own_vf ff), rv ad15, rv b_21, iv 1, iv 1, iv 1, own_j (own_u d1 d2), s_, own_j (own_sv ng (own_u d1 d2)), s_, iv (own_mx S0 (own_vk kk)), iv (own_mx (own_mx S0 (own_vk kk)) (own_vf ff)), own_j ((own_sv ng (own_u d1 d2)) * (own_p10 ((own_mx (own_mx S0 (own_vk kk)) (own_vf ff)) - (own_vk kk)))), s_, own_j ((own_u m1 m2) * (own_p10 ((own_mx (own_mx S0 (own_vk kk)) (own_vf ff)) - (own_vf ff)))), s_, rv b_53] []) (fun t k => XS.ifNo X75.here hx rfl (hb hby at_594) rfl ((if0 _ _).trans (feq (by decide : ¬ ((1 : Int32) = (0 : Int32)))).1) k) ?_
                      refine own_s T75 (mkF m 599 #[iv p0, iv p1, iv p2, iv p3, iv p4, iv p5, iv cap, iv S0, iv g, iv gg, iv d1, iv d2, iv m1, iv m2, iv bS, iv bM, iv ng, iv kk, iv ff, iv ch1, iv ch2, rv ad1, iv (own_to kk), iv (own_vk kk), iv fr1, rv ad4, iv (own_fr2 ff), iv (own_vf ff), rv ad15, rv b_21, iv 1, iv 1, iv 1, own_j (own_u d1 d2), s_, own_j (own_sv ng (own_u d1 d2)), s_, iv (own_mx S0 (own_vk kk)), iv (own_mx (own_mx S0 (own_vk kk)) (own_vf ff)), own_j ((own_sv ng (own_u d1 d2)) * (own_p10 ((own_mx (own_mx S0 (own_vk kk)) (own_vf ff)) - (own_vk kk)))), s_, own_j ((own_u m1 m2) * (own_p10 ((own_mx (own_mx S0 (own_vk kk)) (own_vf ff)) - (own_vf ff)))), s_, rv b_53] [.ref ad15]) (fun t k => XS.aload X75.here hx rfl (hb hby at_597) rfl rfl k) ?_
                      obtain ⟨cq80, kq80, q80a, q80b, q80c⟩ := isOf hZ eq74 g60
                      obtain ⟨_, _, ⟨T79, L79, k79, n79⟩, -, X79, ⟨Lc79, hQ79, lq79, yq79, zq79⟩, st79⟩ := X75.virtualBack hx (y := (⟨"com/example/viewlattice/viewlattice/engine/DecimalSums", "getScale", "()I"⟩ : MethodName)) (z := (⟨"com/example/viewlattice/viewlattice/engine/DecimalSums", "getScale", "()I"⟩ : MethodName)) hown (mvT hZ (hW 60 _ rfl)) (mvT hZ (hW 61 _ rfl)) (notFace_of_selects (args := #[]) (mvT hZ (hW 63 _ rfl))) (mvT hZ (hW 63 _ rfl)) (mvT hZ (hW 62 _ rfl)) (by decide) (backOf (W := 0) (rm_gsc l Z a0 hw [] ad15 b_53 kb_53 cap (own_mx (own_mx S0 (own_vk kk)) (own_vf ff)) (own_upd gg (0 : Int32) ((own_upd g (0 : Int32) ((0 : Int64) * own_f S0 (own_vk kk)) ((own_sv ng (own_u d1 d2)) * own_p10 (own_mx S0 (own_vk kk) - (own_vk kk)))) * own_f (own_mx S0 (own_vk kk)) (own_vf ff)) ((own_u m1 m2) * own_p10 (own_mx (own_mx S0 (own_vk kk)) (own_vf ff) - (own_vf ff)))) (own_upd gg (1 : Int32) ((own_upd g (1 : Int32) ((0 : Int64) * own_f S0 (own_vk kk)) ((own_sv ng (own_u d1 d2)) * own_p10 (own_mx S0 (own_vk kk) - (own_vk kk)))) * own_f (own_mx S0 (own_vk kk)) (own_vf ff)) ((own_u m1 m2) * own_p10 (own_mx (own_mx S0 (own_vk kk)) (own_vf ff) - (own_vf ff)))) (own_upd gg (2 : Int32) ((own_upd g (2 : Int32) ((0 : Int64) * own_f S0 (own_vk kk)) ((own_sv ng (own_u d1 d2)) * own_p10 (own_mx S0 (own_vk kk) - (own_vk kk)))) * own_f (own_mx S0 (own_vk kk)) (own_vf ff)) ((own_u m1 m2) * own_p10 (own_mx (own_mx S0 (own_vk kk)) (own_vf ff) - (own_vf ff)))) (own_upd gg (3 : Int32) ((own_upd g (3 : Int32) ((0 : Int64) * own_f S0 (own_vk kk)) ((own_sv ng (own_u d1 d2)) * own_p10 (own_mx S0 (own_vk kk) - (own_vk kk)))) * own_f (own_mx S0 (own_vk kk)) (own_vf ff)) ((own_u m1 m2) * own_p10 (own_mx (own_mx S0 (own_vk kk)) (own_vf ff) - (own_vf ff)))) T56.heap n0 Z54 g55) hZ (hW 64 _ rfl) (hW 4 _ rfl) (by decide) (by decide)) q80a q80c (g := (mkF m 599 #[iv p0, iv p1, iv p2, iv p3, iv p4, iv p5, iv cap, iv S0, iv g, iv gg, iv d1, iv d2, iv m1, iv m2, iv bS, iv bM, iv ng, iv kk, iv ff, iv ch1, iv ch2, rv ad1, iv (own_to kk), iv (own_vk kk), iv fr1, rv ad4, iv (own_fr2 ff), iv (own_vf ff), rv ad15, rv b_21, iv 1, iv 1, iv 1, own_j (own_u d1 d2), s_, own_j (own_sv ng (own_u d1 d2)), s_, iv (own_mx S0 (own_vk kk)), iv (own_mx (own_mx S0 (own_vk kk)) (own_vf ff)), own_j ((own_sv ng (own_u d1 d2)) * (own_p10 ((own_mx (own_mx S0 (own_vk kk)) (own_vf ff)) - (own_vk kk)))), s_, own_j ((own_u m1 m2) * (own_p10 ((own_mx (own_mx S0 (own_vk kk)) (own_vf ff)) - (own_vf ff)))), s_, rv b_53] [.ref ad15])) rfl (by rw [hml]; rfl) (Steps.refl _) (argsL := []) (rest := []) (lenOf pd_10 rfl) rfl (by show 2 * 0 + _ ≤ _; exact Nat.le_of_eq rfl) (hb hby at_599) (fun _ _ => ⟨rfl, eq74, (by decide : 6 + 0 ≤ _), (by decide : 22 + 0 ≤ _)⟩)
                      dsimp only [Pt.U, Pt.locs, Pt.cells, Pt.slots] at X79 lq79 yq79 zq79 st79 hQ79
                      subst lq79 yq79 zq79
                      obtain ⟨rfl, Nq79, eq78⟩ := hQ79
                      have N79 := Fr.app N75 Nq79
                      refine own_tr (T' := T79) (g' := (mkF m 602 #[iv p0, iv p1, iv p2, iv p3, iv p4, iv p5, iv cap, iv S0, iv g, iv gg, iv d1, iv d2, iv m1, iv m2, iv bS, iv bM, iv ng, iv kk, iv ff, iv ch1, iv ch2, rv ad1, iv (own_to kk), iv (own_vk kk), iv fr1, rv ad4, iv (own_fr2 ff), iv (own_vf ff), rv ad15, rv b_21, iv 1, iv 1, iv 1, own_j (own_u d1 d2), s_, own_j (own_sv ng (own_u d1 d2)), s_, iv (own_mx S0 (own_vk kk)), iv (own_mx (own_mx S0 (own_vk kk)) (own_vf ff)), own_j ((own_sv ng (own_u d1 d2)) * (own_p10 ((own_mx (own_mx S0 (own_vk kk)) (own_vf ff)) - (own_vk kk)))), s_, own_j ((own_u m1 m2) * (own_p10 ((own_mx (own_mx S0 (own_vk kk)) (own_vf ff)) - (own_vf ff)))), s_, rv b_53] [.int (own_mx (own_mx S0 (own_vk kk)) (own_vf ff))])) st79 ?_
                      refine own_s T79 (mkF m 604 #[iv p0, iv p1, iv p2, iv p3, iv p4, iv p5, iv cap, iv S0, iv g, iv gg, iv d1, iv d2, iv m1, iv m2, iv bS, iv bM, iv ng, iv kk, iv ff, iv ch1, iv ch2, rv ad1, iv (own_to kk), iv (own_vk kk), iv fr1, rv ad4, iv (own_fr2 ff), iv (own_vf ff), rv ad15, rv b_21, iv 1, iv 1, iv 1, own_j (own_u d1 d2), s_, own_j (own_sv ng (own_u d1 d2)), s_, iv (own_mx S0 (own_vk kk)), iv (own_mx (own_mx S0 (own_vk kk)) (own_vf ff)), own_j ((own_sv ng (own_u d1 d2)) * (own_p10 ((own_mx (own_mx S0 (own_vk kk)) (own_vf ff)) - (own_vk kk)))), s_, own_j ((own_u m1 m2) * (own_p10 ((own_mx (own_mx S0 (own_vk kk)) (own_vf ff)) - (own_vf ff)))), s_, rv b_53] [.int (own_mx (own_mx S0 (own_vk kk)) (own_vf ff)), .int (own_mx (own_mx S0 (own_vk kk)) (own_vf ff))]) (fun t k => XS.iload X79.here hx rfl (hb hby at_602) rfl k) ?_
                      refine own_s T79 (mkF m 607 #[iv p0, iv p1, iv p2, iv p3, iv p4, iv p5, iv cap, iv S0, iv g, iv gg, iv d1, iv d2, iv m1, iv m2, iv bS, iv bM, iv ng, iv kk, iv ff, iv ch1, iv ch2, rv ad1, iv (own_to kk), iv (own_vk kk), iv fr1, rv ad4, iv (own_fr2 ff), iv (own_vf ff), rv ad15, rv b_21, iv 1, iv 1, iv 1, own_j (own_u d1 d2), s_, own_j (own_sv ng (own_u d1 d2)), s_, iv (own_mx S0 (own_vk kk)), iv (own_mx (own_mx S0 (own_vk kk)) (own_vf ff)), own_j ((own_sv ng (own_u d1 d2)) * (own_p10 ((own_mx (own_mx S0 (own_vk kk)) (own_vf ff)) - (own_vk kk)))), s_, own_j ((own_u m1 m2) * (own_p10 ((own_mx (own_mx S0 (own_vk kk)) (own_vf ff)) - (own_vf ff)))), s_, rv b_53] []) (fun t k => XS.icmpNo X79.here hx rfl (hb hby at_604) rfl (teq rfl).2 k) ?_
                      refine own_s T79 (mkF m 609 #[iv p0, iv p1, iv p2, iv p3, iv p4, iv p5, iv cap, iv S0, iv g, iv gg, iv d1, iv d2, iv m1, iv m2, iv bS, iv bM, iv ng, iv kk, iv ff, iv ch1, iv ch2, rv ad1, iv (own_to kk), iv (own_vk kk), iv fr1, rv ad4, iv (own_fr2 ff), iv (own_vf ff), rv ad15, rv b_21, iv 1, iv 1, iv 1, own_j (own_u d1 d2), s_, own_j (own_sv ng (own_u d1 d2)), s_, iv (own_mx S0 (own_vk kk)), iv (own_mx (own_mx S0 (own_vk kk)) (own_vf ff)), own_j ((own_sv ng (own_u d1 d2)) * (own_p10 ((own_mx (own_mx S0 (own_vk kk)) (own_vf ff)) - (own_vk kk)))), s_, own_j ((own_u m1 m2) * (own_p10 ((own_mx (own_mx S0 (own_vk kk)) (own_vf ff)) - (own_vf ff)))), s_, rv b_53] [.ref b_53]) (fun t k => XS.aload X79.here hx rfl (hb hby at_607) rfl rfl k) ?_
                      obtain ⟨cl81, Ar81, qa81, S81, M81, H81, U81⟩ := id g55.2.2.2.1
                      have ln81 := len_of S81 M81
                      refine own_s T79 (mkF m 610 #[iv p0, iv p1, iv p2, iv p3, iv p4, iv p5, iv cap, iv S0, iv g, iv gg, iv d1, iv d2, iv m1, iv m2, iv bS, iv bM, iv ng, iv kk, iv ff, iv ch1, iv ch2, rv ad1, iv (own_to kk), iv (own_vk kk), iv fr1, rv ad4, iv (own_fr2 ff), iv (own_vf ff), rv ad15, rv b_21, iv 1, iv 1, iv 1, own_j (own_u d1 d2), s_, own_j (own_sv ng (own_u d1 d2)), s_, iv (own_mx S0 (own_vk kk)), iv (own_mx (own_mx S0 (own_vk kk)) (own_vf ff)), own_j ((own_sv ng (own_u d1 d2)) * (own_p10 ((own_mx (own_mx S0 (own_vk kk)) (own_vf ff)) - (own_vk kk)))), s_, own_j ((own_u m1 m2) * (own_p10 ((own_mx (own_mx S0 (own_vk kk)) (own_vf ff)) - (own_vf ff)))), s_, rv b_53] [.int cap]) (fun t k => X79.arraylength hx (cell := cl81) (by rw [eq78]; exact Ar81.1) (State.isArrayOf_alike hZ.alike Ar81.2.1) (g := (mkF m 609 #[iv p0, iv p1, iv p2, iv p3, iv p4, iv p5, iv cap, iv S0, iv g, iv gg, iv d1, iv d2, iv m1, iv m2, iv bS, iv bM, iv ng, iv kk, iv ff, iv ch1, iv ch2, rv ad1, iv (own_to kk), iv (own_vk kk), iv fr1, rv ad4, iv (own_fr2 ff), iv (own_vf ff), rv ad15, rv b_21, iv 1, iv 1, iv 1, own_j (own_u d1 d2), s_, own_j (own_sv ng (own_u d1 d2)), s_, iv (own_mx S0 (own_vk kk)), iv (own_mx (own_mx S0 (own_vk kk)) (own_vf ff)), own_j ((own_sv ng (own_u d1 d2)) * (own_p10 ((own_mx (own_mx S0 (own_vk kk)) (own_vf ff)) - (own_vk kk)))), s_, own_j ((own_u m1 m2) * (own_p10 ((own_mx (own_mx S0 (own_vk kk)) (own_vf ff)) - (own_vf ff)))), s_, rv b_53] [.ref b_53])) rfl rfl (hb hby at_609) t (by rw [ln81]; exact k)) ?_
                      refine own_s T79 (mkF m 612 #[iv p0, iv p1, iv p2, iv p3, iv p4, iv p5, iv cap, iv S0, iv g, iv gg, iv d1, iv d2, iv m1, iv m2, iv bS, iv bM, iv ng, iv kk, iv ff, iv ch1, iv ch2, rv ad1, iv (own_to kk), iv (own_vk kk), iv fr1, rv ad4, iv (own_fr2 ff), iv (own_vf ff), rv ad15, rv b_21, iv 1, iv 1, iv 1, own_j (own_u d1 d2), s_, own_j (own_sv ng (own_u d1 d2)), s_, iv (own_mx S0 (own_vk kk)), iv (own_mx (own_mx S0 (own_vk kk)) (own_vf ff)), own_j ((own_sv ng (own_u d1 d2)) * (own_p10 ((own_mx (own_mx S0 (own_vk kk)) (own_vf ff)) - (own_vk kk)))), s_, own_j ((own_u m1 m2) * (own_p10 ((own_mx (own_mx S0 (own_vk kk)) (own_vf ff)) - (own_vf ff)))), s_, rv b_53] [.int cap, .int cap]) (fun t k => XS.iload X79.here hx rfl (hb hby at_610) rfl k) ?_
                      refine own_s T79 (mkF m 615 #[iv p0, iv p1, iv p2, iv p3, iv p4, iv p5, iv cap, iv S0, iv g, iv gg, iv d1, iv d2, iv m1, iv m2, iv bS, iv bM, iv ng, iv kk, iv ff, iv ch1, iv ch2, rv ad1, iv (own_to kk), iv (own_vk kk), iv fr1, rv ad4, iv (own_fr2 ff), iv (own_vf ff), rv ad15, rv b_21, iv 1, iv 1, iv 1, own_j (own_u d1 d2), s_, own_j (own_sv ng (own_u d1 d2)), s_, iv (own_mx S0 (own_vk kk)), iv (own_mx (own_mx S0 (own_vk kk)) (own_vf ff)), own_j ((own_sv ng (own_u d1 d2)) * (own_p10 ((own_mx (own_mx S0 (own_vk kk)) (own_vf ff)) - (own_vk kk)))), s_, own_j ((own_u m1 m2) * (own_p10 ((own_mx (own_mx S0 (own_vk kk)) (own_vf ff)) - (own_vf ff)))), s_, rv b_53] []) (fun t k => XS.icmpNo X79.here hx rfl (hb hby at_612) rfl (teq rfl).2 k) ?_
                      refine own_s T79 (mkF m 617 #[iv p0, iv p1, iv p2, iv p3, iv p4, iv p5, iv cap, iv S0, iv g, iv gg, iv d1, iv d2, iv m1, iv m2, iv bS, iv bM, iv ng, iv kk, iv ff, iv ch1, iv ch2, rv ad1, iv (own_to kk), iv (own_vk kk), iv fr1, rv ad4, iv (own_fr2 ff), iv (own_vf ff), rv ad15, rv b_21, iv 1, iv 1, iv 1, own_j (own_u d1 d2), s_, own_j (own_sv ng (own_u d1 d2)), s_, iv (own_mx S0 (own_vk kk)), iv (own_mx (own_mx S0 (own_vk kk)) (own_vf ff)), own_j ((own_sv ng (own_u d1 d2)) * (own_p10 ((own_mx (own_mx S0 (own_vk kk)) (own_vf ff)) - (own_vk kk)))), s_, own_j ((own_u m1 m2) * (own_p10 ((own_mx (own_mx S0 (own_vk kk)) (own_vf ff)) - (own_vf ff)))), s_, rv b_53] [.ref b_53]) (fun t k => XS.aload X79.here hx rfl (hb hby at_615) rfl rfl k) ?_
                      refine own_s T79 (mkF m 618 #[iv p0, iv p1, iv p2, iv p3, iv p4, iv p5, iv cap, iv S0, iv g, iv gg, iv d1, iv d2, iv m1, iv m2, iv bS, iv bM, iv ng, iv kk, iv ff, iv ch1, iv ch2, rv ad1, iv (own_to kk), iv (own_vk kk), iv fr1, rv ad4, iv (own_fr2 ff), iv (own_vf ff), rv ad15, rv b_21, iv 1, iv 1, iv 1, own_j (own_u d1 d2), s_, own_j (own_sv ng (own_u d1 d2)), s_, iv (own_mx S0 (own_vk kk)), iv (own_mx (own_mx S0 (own_vk kk)) (own_vf ff)), own_j ((own_sv ng (own_u d1 d2)) * (own_p10 ((own_mx (own_mx S0 (own_vk kk)) (own_vf ff)) - (own_vk kk)))), s_, own_j ((own_u m1 m2) * (own_p10 ((own_mx (own_mx S0 (own_vk kk)) (own_vf ff)) - (own_vf ff)))), s_, rv b_53] [.int 0, .ref b_53]) (fun t k => XS.iconst X79.here hx rfl (hb hby at_617) k) ?_
                      refine own_s T79 (mkF m 620 #[iv p0, iv p1, iv p2, iv p3, iv p4, iv p5, iv cap, iv S0, iv g, iv gg, iv d1, iv d2, iv m1, iv m2, iv bS, iv bM, iv ng, iv kk, iv ff, iv ch1, iv ch2, rv ad1, iv (own_to kk), iv (own_vk kk), iv fr1, rv ad4, iv (own_fr2 ff), iv (own_vf ff), rv ad15, rv b_21, iv 1, iv 1, iv 1, own_j (own_u d1 d2), s_, own_j (own_sv ng (own_u d1 d2)), s_, iv (own_mx S0 (own_vk kk)), iv (own_mx (own_mx S0 (own_vk kk)) (own_vf ff)), own_j ((own_sv ng (own_u d1 d2)) * (own_p10 ((own_mx (own_mx S0 (own_vk kk)) (own_vf ff)) - (own_vk kk)))), s_, own_j ((own_u m1 m2) * (own_p10 ((own_mx (own_mx S0 (own_vk kk)) (own_vf ff)) - (own_vf ff)))), s_, rv b_53] [.int cap, .int 0, .ref b_53]) (fun t k => XS.iload X79.here hx rfl (hb hby at_618) rfl k) ?_
                      refine own_s T79 (mkF m 622 #[iv p0, iv p1, iv p2, iv p3, iv p4, iv p5, iv cap, iv S0, iv g, iv gg, iv d1, iv d2, iv m1, iv m2, iv bS, iv bM, iv ng, iv kk, iv ff, iv ch1, iv ch2, rv ad1, iv (own_to kk), iv (own_vk kk), iv fr1, rv ad4, iv (own_fr2 ff), iv (own_vf ff), rv ad15, rv b_21, iv 1, iv 1, iv 1, own_j (own_u d1 d2), s_, own_j (own_sv ng (own_u d1 d2)), s_, iv (own_mx S0 (own_vk kk)), iv (own_mx (own_mx S0 (own_vk kk)) (own_vf ff)), own_j ((own_sv ng (own_u d1 d2)) * (own_p10 ((own_mx (own_mx S0 (own_vk kk)) (own_vf ff)) - (own_vk kk)))), s_, own_j ((own_u m1 m2) * (own_p10 ((own_mx (own_mx S0 (own_vk kk)) (own_vf ff)) - (own_vf ff)))), s_, rv b_53] [.int g, .int cap, .int 0, .ref b_53]) (fun t k => XS.iload X79.here hx rfl (hb hby at_620) rfl k) ?_
                      refine own_s T79 (mkF m 624 #[iv p0, iv p1, iv p2, iv p3, iv p4, iv p5, iv cap, iv S0, iv g, iv gg, iv d1, iv d2, iv m1, iv m2, iv bS, iv bM, iv ng, iv kk, iv ff, iv ch1, iv ch2, rv ad1, iv (own_to kk), iv (own_vk kk), iv fr1, rv ad4, iv (own_fr2 ff), iv (own_vf ff), rv ad15, rv b_21, iv 1, iv 1, iv 1, own_j (own_u d1 d2), s_, own_j (own_sv ng (own_u d1 d2)), s_, iv (own_mx S0 (own_vk kk)), iv (own_mx (own_mx S0 (own_vk kk)) (own_vf ff)), own_j ((own_sv ng (own_u d1 d2)) * (own_p10 ((own_mx (own_mx S0 (own_vk kk)) (own_vf ff)) - (own_vk kk)))), s_, own_j ((own_u m1 m2) * (own_p10 ((own_mx (own_mx S0 (own_vk kk)) (own_vf ff)) - (own_vf ff)))), s_, rv b_53] [.int gg, .int g, .int cap, .int 0, .ref b_53]) (fun t k => XS.iload X79.here hx rfl (hb hby at_622) rfl k) ?_
                      refine own_s T79 (mkF m 626 #[iv p0, iv p1, iv p2, iv p3, iv p4, iv p5, iv cap, iv S0, iv g, iv gg, iv d1, iv d2, iv m1, iv m2, iv bS, iv bM, iv ng, iv kk, iv ff, iv ch1, iv ch2, rv ad1, iv (own_to kk), iv (own_vk kk), iv fr1, rv ad4, iv (own_fr2 ff), iv (own_vf ff), rv ad15, rv b_21, iv 1, iv 1, iv 1, own_j (own_u d1 d2), s_, own_j (own_sv ng (own_u d1 d2)), s_, iv (own_mx S0 (own_vk kk)), iv (own_mx (own_mx S0 (own_vk kk)) (own_vf ff)), own_j ((own_sv ng (own_u d1 d2)) * (own_p10 ((own_mx (own_mx S0 (own_vk kk)) (own_vf ff)) - (own_vk kk)))), s_, own_j ((own_u m1 m2) * (own_p10 ((own_mx (own_mx S0 (own_vk kk)) (own_vf ff)) - (own_vf ff)))), s_, rv b_53] [.long ((own_sv ng (own_u d1 d2)) * (own_p10 ((own_mx (own_mx S0 (own_vk kk)) (own_vf ff)) - (own_vk kk)))), .int gg, .int g, .int cap, .int 0, .ref b_53]) (fun t k => XS.lload X79.here hx rfl (hb hby at_624) rfl k) ?_
                      refine own_s T79 (mkF m 628 #[iv p0, iv p1, iv p2, iv p3, iv p4, iv p5, iv cap, iv S0, iv g, iv gg, iv d1, iv d2, iv m1, iv m2, iv bS, iv bM, iv ng, iv kk, iv ff, iv ch1, iv ch2, rv ad1, iv (own_to kk), iv (own_vk kk), iv fr1, rv ad4, iv (own_fr2 ff), iv (own_vf ff), rv ad15, rv b_21, iv 1, iv 1, iv 1, own_j (own_u d1 d2), s_, own_j (own_sv ng (own_u d1 d2)), s_, iv (own_mx S0 (own_vk kk)), iv (own_mx (own_mx S0 (own_vk kk)) (own_vf ff)), own_j ((own_sv ng (own_u d1 d2)) * (own_p10 ((own_mx (own_mx S0 (own_vk kk)) (own_vf ff)) - (own_vk kk)))), s_, own_j ((own_u m1 m2) * (own_p10 ((own_mx (own_mx S0 (own_vk kk)) (own_vf ff)) - (own_vf ff)))), s_, rv b_53] [.long ((own_u m1 m2) * (own_p10 ((own_mx (own_mx S0 (own_vk kk)) (own_vf ff)) - (own_vf ff)))), .long ((own_sv ng (own_u d1 d2)) * (own_p10 ((own_mx (own_mx S0 (own_vk kk)) (own_vf ff)) - (own_vk kk)))), .int gg, .int g, .int cap, .int 0, .ref b_53]) (fun t k => XS.lload X79.here hx rfl (hb hby at_626) rfl k) ?_
                      obtain ⟨_, _, ⟨T84, L84, k84, n84⟩, -, X84, ⟨Lc84, hQ84, lq84, yq84, zq84⟩, st84⟩ := Jvm.LawKit.callS X79 hx (y := (⟨"com/example/viewlattice/viewlattice/engine/DecimalSumsGetUnscaledLongsPinLaw", "cell", "([JIIIIJJ)Z"⟩ : MethodName)) hown (mvT hZ (hW 21 _ rfl)) (mvT hZ (hW 22 _ rfl)) (mvT hZ (hW 23 _ rfl)) (mvT hZ (hW 24 _ rfl)) (by decide) (backOf (W := 0) (rm_cel0 l Z a0 hw [] b_53 kb_53 cap g gg ((own_sv ng (own_u d1 d2)) * (own_p10 ((own_mx (own_mx S0 (own_vk kk)) (own_vf ff)) - (own_vk kk)))) ((own_u m1 m2) * (own_p10 ((own_mx (own_mx S0 (own_vk kk)) (own_vf ff)) - (own_vf ff)))) (own_upd gg (0 : Int32) ((own_upd g (0 : Int32) ((0 : Int64) * own_f S0 (own_vk kk)) ((own_sv ng (own_u d1 d2)) * own_p10 (own_mx S0 (own_vk kk) - (own_vk kk)))) * own_f (own_mx S0 (own_vk kk)) (own_vf ff)) ((own_u m1 m2) * own_p10 (own_mx (own_mx S0 (own_vk kk)) (own_vf ff) - (own_vf ff)))) (own_upd gg (1 : Int32) ((own_upd g (1 : Int32) ((0 : Int64) * own_f S0 (own_vk kk)) ((own_sv ng (own_u d1 d2)) * own_p10 (own_mx S0 (own_vk kk) - (own_vk kk)))) * own_f (own_mx S0 (own_vk kk)) (own_vf ff)) ((own_u m1 m2) * own_p10 (own_mx (own_mx S0 (own_vk kk)) (own_vf ff) - (own_vf ff)))) (own_upd gg (2 : Int32) ((own_upd g (2 : Int32) ((0 : Int64) * own_f S0 (own_vk kk)) ((own_sv ng (own_u d1 d2)) * own_p10 (own_mx S0 (own_vk kk) - (own_vk kk)))) * own_f (own_mx S0 (own_vk kk)) (own_vf ff)) ((own_u m1 m2) * own_p10 (own_mx (own_mx S0 (own_vk kk)) (own_vf ff) - (own_vf ff)))) (own_upd gg (3 : Int32) ((own_upd g (3 : Int32) ((0 : Int64) * own_f S0 (own_vk kk)) ((own_sv ng (own_u d1 d2)) * own_p10 (own_mx S0 (own_vk kk) - (own_vk kk)))) * own_f (own_mx S0 (own_vk kk)) (own_vf ff)) ((own_u m1 m2) * own_p10 (own_mx (own_mx S0 (own_vk kk)) (own_vf ff) - (own_vf ff)))) T56.heap n0 Z54 g55.2.2.2.1 hcap (fun _ => own_fin (own_pp hS0 hkk hff))) hZ (hW 24 _ rfl) (hW 23 _ rfl) (by decide) (by decide)) (g := (mkF m 628 #[iv p0, iv p1, iv p2, iv p3, iv p4, iv p5, iv cap, iv S0, iv g, iv gg, iv d1, iv d2, iv m1, iv m2, iv bS, iv bM, iv ng, iv kk, iv ff, iv ch1, iv ch2, rv ad1, iv (own_to kk), iv (own_vk kk), iv fr1, rv ad4, iv (own_fr2 ff), iv (own_vf ff), rv ad15, rv b_21, iv 1, iv 1, iv 1, own_j (own_u d1 d2), s_, own_j (own_sv ng (own_u d1 d2)), s_, iv (own_mx S0 (own_vk kk)), iv (own_mx (own_mx S0 (own_vk kk)) (own_vf ff)), own_j ((own_sv ng (own_u d1 d2)) * (own_p10 ((own_mx (own_mx S0 (own_vk kk)) (own_vf ff)) - (own_vk kk)))), s_, own_j ((own_u m1 m2) * (own_p10 ((own_mx (own_mx S0 (own_vk kk)) (own_vf ff)) - (own_vf ff)))), s_, rv b_53] [.long ((own_u m1 m2) * (own_p10 ((own_mx (own_mx S0 (own_vk kk)) (own_vf ff)) - (own_vf ff)))), .long ((own_sv ng (own_u d1 d2)) * (own_p10 ((own_mx (own_mx S0 (own_vk kk)) (own_vf ff)) - (own_vk kk)))), .int gg, .int g, .int cap, .int 0, .ref b_53])) rfl (by rw [hml]; rfl) (argsL := [(.ref b_53), (.int (0 : Int32)), (.int cap), (.int g), (.int gg), (.long ((own_sv ng (own_u d1 d2)) * (own_p10 ((own_mx (own_mx S0 (own_vk kk)) (own_vf ff)) - (own_vk kk))))), (.long ((own_u m1 m2) * (own_p10 ((own_mx (own_mx S0 (own_vk kk)) (own_vf ff)) - (own_vf ff)))))]) (rest := []) (lenOf pd_7 rfl) rfl (by show 2 * 0 + _ ≤ _; exact Nat.le_of_eq rfl) (hb hby at_628) (fun _ _ => ⟨rfl, eq78, (by decide : 6 + 0 ≤ _), (by decide : 22 + 0 ≤ _)⟩)
                      dsimp only [Pt.U, Pt.locs, Pt.cells, Pt.slots] at X84 lq84 yq84 zq84 st84 hQ84
                      subst lq84 yq84 zq84
                      obtain ⟨rfl, Nq84, eq83⟩ := hQ84
                      have N84 := Fr.app N79 Nq84
                      refine own_s T84 (mkF m 631 #[iv p0, iv p1, iv p2, iv p3, iv p4, iv p5, iv cap, iv S0, iv g, iv gg, iv d1, iv d2, iv m1, iv m2, iv bS, iv bM, iv ng, iv kk, iv ff, iv ch1, iv ch2, rv ad1, iv (own_to kk), iv (own_vk kk), iv fr1, rv ad4, iv (own_fr2 ff), iv (own_vf ff), rv ad15, rv b_21, iv 1, iv 1, iv 1, own_j (own_u d1 d2), s_, own_j (own_sv ng (own_u d1 d2)), s_, iv (own_mx S0 (own_vk kk)), iv (own_mx (own_mx S0 (own_vk kk)) (own_vf ff)), own_j ((own_sv ng (own_u d1 d2)) * (own_p10 ((own_mx (own_mx S0 (own_vk kk)) (own_vf ff)) - (own_vk kk)))), s_, own_j ((own_u m1 m2) * (own_p10 ((own_mx (own_mx S0 (own_vk kk)) (own_vf ff)) - (own_vf ff)))), s_, rv b_53] [.int 1]) st84 ?_
                      refine own_s T84 (mkF m 634 #[iv p0, iv p1, iv p2, iv p3, iv p4, iv p5, iv cap, iv S0, iv g, iv gg, iv d1, iv d2, iv m1, iv m2, iv bS, iv bM, iv ng, iv kk, iv ff, iv ch1, iv ch2, rv ad1, iv (own_to kk), iv (own_vk kk), iv fr1, rv ad4, iv (own_fr2 ff), iv (own_vf ff), rv ad15, rv b_21, iv 1, iv 1, iv 1, own_j (own_u d1 d2), s_, own_j (own_sv ng (own_u d1 d2)), s_, iv (own_mx S0 (own_vk kk)), iv (own_mx (own_mx S0 (own_vk kk)) (own_vf ff)), own_j ((own_sv ng (own_u d1 d2)) * (own_p10 ((own_mx (own_mx S0 (own_vk kk)) (own_vf ff)) - (own_vk kk)))), s_, own_j ((own_u m1 m2) * (own_p10 ((own_mx (own_mx S0 (own_vk kk)) (own_vf ff)) - (own_vf ff)))), s_, rv b_53] []) (fun t k => XS.ifNo X84.here hx rfl (hb hby at_631) rfl ((if0 _ _).trans (feq (by decide : ¬ ((1 : Int32) = (0 : Int32)))).1) k) ?_
                      refine own_s T84 (mkF m 636 #[iv p0, iv p1, iv p2, iv p3, iv p4, iv p5, iv cap, iv S0, iv g, iv gg, iv d1, iv d2, iv m1, iv m2, iv bS, iv bM, iv ng, iv kk, iv ff, iv ch1, iv ch2, rv ad1, iv (own_to kk), iv (own_vk kk), iv fr1, rv ad4, iv (own_fr2 ff), iv (own_vf ff), rv ad15, rv b_21, iv 1, iv 1, iv 1, own_j (own_u d1 d2), s_, own_j (own_sv ng (own_u d1 d2)), s_, iv (own_mx S0 (own_vk kk)), iv (own_mx (own_mx S0 (own_vk kk)) (own_vf ff)), own_j ((own_sv ng (own_u d1 d2)) * (own_p10 ((own_mx (own_mx S0 (own_vk kk)) (own_vf ff)) - (own_vk kk)))), s_, own_j ((own_u m1 m2) * (own_p10 ((own_mx (own_mx S0 (own_vk kk)) (own_vf ff)) - (own_vf ff)))), s_, rv b_53] [.ref b_53]) (fun t k => XS.aload X84.here hx rfl (hb hby at_634) rfl rfl k) ?_
                      refine own_s T84 (mkF m 637 #[iv p0, iv p1, iv p2, iv p3, iv p4, iv p5, iv cap, iv S0, iv g, iv gg, iv d1, iv d2, iv m1, iv m2, iv bS, iv bM, iv ng, iv kk, iv ff, iv ch1, iv ch2, rv ad1, iv (own_to kk), iv (own_vk kk), iv fr1, rv ad4, iv (own_fr2 ff), iv (own_vf ff), rv ad15, rv b_21, iv 1, iv 1, iv 1, own_j (own_u d1 d2), s_, own_j (own_sv ng (own_u d1 d2)), s_, iv (own_mx S0 (own_vk kk)), iv (own_mx (own_mx S0 (own_vk kk)) (own_vf ff)), own_j ((own_sv ng (own_u d1 d2)) * (own_p10 ((own_mx (own_mx S0 (own_vk kk)) (own_vf ff)) - (own_vk kk)))), s_, own_j ((own_u m1 m2) * (own_p10 ((own_mx (own_mx S0 (own_vk kk)) (own_vf ff)) - (own_vf ff)))), s_, rv b_53] [.int 1, .ref b_53]) (fun t k => XS.iconst X84.here hx rfl (hb hby at_636) k) ?_
                      refine own_s T84 (mkF m 639 #[iv p0, iv p1, iv p2, iv p3, iv p4, iv p5, iv cap, iv S0, iv g, iv gg, iv d1, iv d2, iv m1, iv m2, iv bS, iv bM, iv ng, iv kk, iv ff, iv ch1, iv ch2, rv ad1, iv (own_to kk), iv (own_vk kk), iv fr1, rv ad4, iv (own_fr2 ff), iv (own_vf ff), rv ad15, rv b_21, iv 1, iv 1, iv 1, own_j (own_u d1 d2), s_, own_j (own_sv ng (own_u d1 d2)), s_, iv (own_mx S0 (own_vk kk)), iv (own_mx (own_mx S0 (own_vk kk)) (own_vf ff)), own_j ((own_sv ng (own_u d1 d2)) * (own_p10 ((own_mx (own_mx S0 (own_vk kk)) (own_vf ff)) - (own_vk kk)))), s_, own_j ((own_u m1 m2) * (own_p10 ((own_mx (own_mx S0 (own_vk kk)) (own_vf ff)) - (own_vf ff)))), s_, rv b_53] [.int cap, .int 1, .ref b_53]) (fun t k => XS.iload X84.here hx rfl (hb hby at_637) rfl k) ?_
                      refine own_s T84 (mkF m 641 #[iv p0, iv p1, iv p2, iv p3, iv p4, iv p5, iv cap, iv S0, iv g, iv gg, iv d1, iv d2, iv m1, iv m2, iv bS, iv bM, iv ng, iv kk, iv ff, iv ch1, iv ch2, rv ad1, iv (own_to kk), iv (own_vk kk), iv fr1, rv ad4, iv (own_fr2 ff), iv (own_vf ff), rv ad15, rv b_21, iv 1, iv 1, iv 1, own_j (own_u d1 d2), s_, own_j (own_sv ng (own_u d1 d2)), s_, iv (own_mx S0 (own_vk kk)), iv (own_mx (own_mx S0 (own_vk kk)) (own_vf ff)), own_j ((own_sv ng (own_u d1 d2)) * (own_p10 ((own_mx (own_mx S0 (own_vk kk)) (own_vf ff)) - (own_vk kk)))), s_, own_j ((own_u m1 m2) * (own_p10 ((own_mx (own_mx S0 (own_vk kk)) (own_vf ff)) - (own_vf ff)))), s_, rv b_53] [.int g, .int cap, .int 1, .ref b_53]) (fun t k => XS.iload X84.here hx rfl (hb hby at_639) rfl k) ?_
                      refine own_s T84 (mkF m 643 #[iv p0, iv p1, iv p2, iv p3, iv p4, iv p5, iv cap, iv S0, iv g, iv gg, iv d1, iv d2, iv m1, iv m2, iv bS, iv bM, iv ng, iv kk, iv ff, iv ch1, iv ch2, rv ad1, iv (own_to kk), iv (own_vk kk), iv fr1, rv ad4, iv (own_fr2 ff), iv (own_vf ff), rv ad15, rv b_21, iv 1, iv 1, iv 1, own_j (own_u d1 d2), s_, own_j (own_sv ng (own_u d1 d2)), s_, iv (own_mx S0 (own_vk kk)), iv (own_mx (own_mx S0 (own_vk kk)) (own_vf ff)), own_j ((own_sv ng (own_u d1 d2)) * (own_p10 ((own_mx (own_mx S0 (own_vk kk)) (own_vf ff)) - (own_vk kk)))), s_, own_j ((own_u m1 m2) * (own_p10 ((own_mx (own_mx S0 (own_vk kk)) (own_vf ff)) - (own_vf ff)))), s_, rv b_53] [.int gg, .int g, .int cap, .int 1, .ref b_53]) (fun t k => XS.iload X84.here hx rfl (hb hby at_641) rfl k) ?_
                      refine own_s T84 (mkF m 645 #[iv p0, iv p1, iv p2, iv p3, iv p4, iv p5, iv cap, iv S0, iv g, iv gg, iv d1, iv d2, iv m1, iv m2, iv bS, iv bM, iv ng, iv kk, iv ff, iv ch1, iv ch2, rv ad1, iv (own_to kk), iv (own_vk kk), iv fr1, rv ad4, iv (own_fr2 ff), iv (own_vf ff), rv ad15, rv b_21, iv 1, iv 1, iv 1, own_j (own_u d1 d2), s_, own_j (own_sv ng (own_u d1 d2)), s_, iv (own_mx S0 (own_vk kk)), iv (own_mx (own_mx S0 (own_vk kk)) (own_vf ff)), own_j ((own_sv ng (own_u d1 d2)) * (own_p10 ((own_mx (own_mx S0 (own_vk kk)) (own_vf ff)) - (own_vk kk)))), s_, own_j ((own_u m1 m2) * (own_p10 ((own_mx (own_mx S0 (own_vk kk)) (own_vf ff)) - (own_vf ff)))), s_, rv b_53] [.long ((own_sv ng (own_u d1 d2)) * (own_p10 ((own_mx (own_mx S0 (own_vk kk)) (own_vf ff)) - (own_vk kk)))), .int gg, .int g, .int cap, .int 1, .ref b_53]) (fun t k => XS.lload X84.here hx rfl (hb hby at_643) rfl k) ?_
                      refine own_s T84 (mkF m 647 #[iv p0, iv p1, iv p2, iv p3, iv p4, iv p5, iv cap, iv S0, iv g, iv gg, iv d1, iv d2, iv m1, iv m2, iv bS, iv bM, iv ng, iv kk, iv ff, iv ch1, iv ch2, rv ad1, iv (own_to kk), iv (own_vk kk), iv fr1, rv ad4, iv (own_fr2 ff), iv (own_vf ff), rv ad15, rv b_21, iv 1, iv 1, iv 1, own_j (own_u d1 d2), s_, own_j (own_sv ng (own_u d1 d2)), s_, iv (own_mx S0 (own_vk kk)), iv (own_mx (own_mx S0 (own_vk kk)) (own_vf ff)), own_j ((own_sv ng (own_u d1 d2)) * (own_p10 ((own_mx (own_mx S0 (own_vk kk)) (own_vf ff)) - (own_vk kk)))), s_, own_j ((own_u m1 m2) * (own_p10 ((own_mx (own_mx S0 (own_vk kk)) (own_vf ff)) - (own_vf ff)))), s_, rv b_53] [.long ((own_u m1 m2) * (own_p10 ((own_mx (own_mx S0 (own_vk kk)) (own_vf ff)) - (own_vf ff)))), .long ((own_sv ng (own_u d1 d2)) * (own_p10 ((own_mx (own_mx S0 (own_vk kk)) (own_vf ff)) - (own_vk kk)))), .int gg, .int g, .int cap, .int 1, .ref b_53]) (fun t k => XS.lload X84.here hx rfl (hb hby at_645) rfl k) ?_
                      obtain ⟨_, _, ⟨T87, L87, k87, n87⟩, -, X87, ⟨Lc87, hQ87, lq87, yq87, zq87⟩, st87⟩ := Jvm.LawKit.callS X84 hx (y := (⟨"com/example/viewlattice/viewlattice/engine/DecimalSumsGetUnscaledLongsPinLaw", "cell", "([JIIIIJJ)Z"⟩ : MethodName)) hown (mvT hZ (hW 21 _ rfl)) (mvT hZ (hW 22 _ rfl)) (mvT hZ (hW 23 _ rfl)) (mvT hZ (hW 24 _ rfl)) (by decide) (backOf (W := 0) (rm_cel1 l Z a0 hw [] b_53 kb_53 cap g gg ((own_sv ng (own_u d1 d2)) * (own_p10 ((own_mx (own_mx S0 (own_vk kk)) (own_vf ff)) - (own_vk kk)))) ((own_u m1 m2) * (own_p10 ((own_mx (own_mx S0 (own_vk kk)) (own_vf ff)) - (own_vf ff)))) (own_upd gg (0 : Int32) ((own_upd g (0 : Int32) ((0 : Int64) * own_f S0 (own_vk kk)) ((own_sv ng (own_u d1 d2)) * own_p10 (own_mx S0 (own_vk kk) - (own_vk kk)))) * own_f (own_mx S0 (own_vk kk)) (own_vf ff)) ((own_u m1 m2) * own_p10 (own_mx (own_mx S0 (own_vk kk)) (own_vf ff) - (own_vf ff)))) (own_upd gg (1 : Int32) ((own_upd g (1 : Int32) ((0 : Int64) * own_f S0 (own_vk kk)) ((own_sv ng (own_u d1 d2)) * own_p10 (own_mx S0 (own_vk kk) - (own_vk kk)))) * own_f (own_mx S0 (own_vk kk)) (own_vf ff)) ((own_u m1 m2) * own_p10 (own_mx (own_mx S0 (own_vk kk)) (own_vf ff) - (own_vf ff)))) (own_upd gg (2 : Int32) ((own_upd g (2 : Int32) ((0 : Int64) * own_f S0 (own_vk kk)) ((own_sv ng (own_u d1 d2)) * own_p10 (own_mx S0 (own_vk kk) - (own_vk kk)))) * own_f (own_mx S0 (own_vk kk)) (own_vf ff)) ((own_u m1 m2) * own_p10 (own_mx (own_mx S0 (own_vk kk)) (own_vf ff) - (own_vf ff)))) (own_upd gg (3 : Int32) ((own_upd g (3 : Int32) ((0 : Int64) * own_f S0 (own_vk kk)) ((own_sv ng (own_u d1 d2)) * own_p10 (own_mx S0 (own_vk kk) - (own_vk kk)))) * own_f (own_mx S0 (own_vk kk)) (own_vf ff)) ((own_u m1 m2) * own_p10 (own_mx (own_mx S0 (own_vk kk)) (own_vf ff) - (own_vf ff)))) T56.heap n0 Z54 g55.2.2.2.1 hcap (fun _ => own_fin (own_pp hS0 hkk hff))) hZ (hW 24 _ rfl) (hW 23 _ rfl) (by decide) (by decide)) (g := (mkF m 647 #[iv p0, iv p1, iv p2, iv p3, iv p4, iv p5, iv cap, iv S0, iv g, iv gg, iv d1, iv d2, iv m1, iv m2, iv bS, iv bM, iv ng, iv kk, iv ff, iv ch1, iv ch2, rv ad1, iv (own_to kk), iv (own_vk kk), iv fr1, rv ad4, iv (own_fr2 ff), iv (own_vf ff), rv ad15, rv b_21, iv 1, iv 1, iv 1, own_j (own_u d1 d2), s_, own_j (own_sv ng (own_u d1 d2)), s_, iv (own_mx S0 (own_vk kk)), iv (own_mx (own_mx S0 (own_vk kk)) (own_vf ff)), own_j ((own_sv ng (own_u d1 d2)) * (own_p10 ((own_mx (own_mx S0 (own_vk kk)) (own_vf ff)) - (own_vk kk)))), s_, own_j ((own_u m1 m2) * (own_p10 ((own_mx (own_mx S0 (own_vk kk)) (own_vf ff)) - (own_vf ff)))), s_, rv b_53] [.long ((own_u m1 m2) * (own_p10 ((own_mx (own_mx S0 (own_vk kk)) (own_vf ff)) - (own_vf ff)))), .long ((own_sv ng (own_u d1 d2)) * (own_p10 ((own_mx (own_mx S0 (own_vk kk)) (own_vf ff)) - (own_vk kk)))), .int gg, .int g, .int cap, .int 1, .ref b_53])) rfl (by rw [hml]; rfl) (argsL := [(.ref b_53), (.int (1 : Int32)), (.int cap), (.int g), (.int gg), (.long ((own_sv ng (own_u d1 d2)) * (own_p10 ((own_mx (own_mx S0 (own_vk kk)) (own_vf ff)) - (own_vk kk))))), (.long ((own_u m1 m2) * (own_p10 ((own_mx (own_mx S0 (own_vk kk)) (own_vf ff)) - (own_vf ff)))))]) (rest := []) (lenOf pd_7 rfl) rfl (by show 2 * 0 + _ ≤ _; exact Nat.le_of_eq rfl) (hb hby at_647) (fun _ _ => ⟨rfl, eq83, (by decide : 6 + 0 ≤ _), (by decide : 22 + 0 ≤ _)⟩)
                      dsimp only [Pt.U, Pt.locs, Pt.cells, Pt.slots] at X87 lq87 yq87 zq87 st87 hQ87
                      subst lq87 yq87 zq87
                      obtain ⟨rfl, Nq87, eq86⟩ := hQ87
                      have N87 := Fr.app N84 Nq87
                      refine own_s T87 (mkF m 650 #[iv p0, iv p1, iv p2, iv p3, iv p4, iv p5, iv cap, iv S0, iv g, iv gg, iv d1, iv d2, iv m1, iv m2, iv bS, iv bM, iv ng, iv kk, iv ff, iv ch1, iv ch2, rv ad1, iv (own_to kk), iv (own_vk kk), iv fr1, rv ad4, iv (own_fr2 ff), iv (own_vf ff), rv ad15, rv b_21, iv 1, iv 1, iv 1, own_j (own_u d1 d2), s_, own_j (own_sv ng (own_u d1 d2)), s_, iv (own_mx S0 (own_vk kk)), iv (own_mx (own_mx S0 (own_vk kk)) (own_vf ff)), own_j ((own_sv ng (own_u d1 d2)) * (own_p10 ((own_mx (own_mx S0 (own_vk kk)) (own_vf ff)) - (own_vk kk)))), s_, own_j ((own_u m1 m2) * (own_p10 ((own_mx (own_mx S0 (own_vk kk)) (own_vf ff)) - (own_vf ff)))), s_, rv b_53] [.int 1]) st87 ?_
                      refine own_s T87 (mkF m 653 #[iv p0, iv p1, iv p2, iv p3, iv p4, iv p5, iv cap, iv S0, iv g, iv gg, iv d1, iv d2, iv m1, iv m2, iv bS, iv bM, iv ng, iv kk, iv ff, iv ch1, iv ch2, rv ad1, iv (own_to kk), iv (own_vk kk), iv fr1, rv ad4, iv (own_fr2 ff), iv (own_vf ff), rv ad15, rv b_21, iv 1, iv 1, iv 1, own_j (own_u d1 d2), s_, own_j (own_sv ng (own_u d1 d2)), s_, iv (own_mx S0 (own_vk kk)), iv (own_mx (own_mx S0 (own_vk kk)) (own_vf ff)), own_j ((own_sv ng (own_u d1 d2)) * (own_p10 ((own_mx (own_mx S0 (own_vk kk)) (own_vf ff)) - (own_vk kk)))), s_, own_j ((own_u m1 m2) * (own_p10 ((own_mx (own_mx S0 (own_vk kk)) (own_vf ff)) - (own_vf ff)))), s_, rv b_53] []) (fun t k => XS.ifNo X87.here hx rfl (hb hby at_650) rfl ((if0 _ _).trans (feq (by decide : ¬ ((1 : Int32) = (0 : Int32)))).1) k) ?_
                      refine own_s T87 (mkF m 655 #[iv p0, iv p1, iv p2, iv p3, iv p4, iv p5, iv cap, iv S0, iv g, iv gg, iv d1, iv d2, iv m1, iv m2, iv bS, iv bM, iv ng, iv kk, iv ff, iv ch1, iv ch2, rv ad1, iv (own_to kk), iv (own_vk kk), iv fr1, rv ad4, iv (own_fr2 ff), iv (own_vf ff), rv ad15, rv b_21, iv 1, iv 1, iv 1, own_j (own_u d1 d2), s_, own_j (own_sv ng (own_u d1 d2)), s_, iv (own_mx S0 (own_vk kk)), iv (own_mx (own_mx S0 (own_vk kk)) (own_vf ff)), own_j ((own_sv ng (own_u d1 d2)) * (own_p10 ((own_mx (own_mx S0 (own_vk kk)) (own_vf ff)) - (own_vk kk)))), s_, own_j ((own_u m1 m2) * (own_p10 ((own_mx (own_mx S0 (own_vk kk)) (own_vf ff)) - (own_vf ff)))), s_, rv b_53] [.ref b_53]) (fun t k => XS.aload X87.here hx rfl (hb hby at_653) rfl rfl k) ?_
                      refine own_s T87 (mkF m 656 #[iv p0, iv p1, iv p2, iv p3, iv p4, iv p5, iv cap, iv S0, iv g, iv gg, iv d1, iv d2, iv m1, iv m2, iv bS, iv bM, iv ng, iv kk, iv ff, iv ch1, iv ch2, rv ad1, iv (own_to kk), iv (own_vk kk), iv fr1, rv ad4, iv (own_fr2 ff), iv (own_vf ff), rv ad15, rv b_21, iv 1, iv 1, iv 1, own_j (own_u d1 d2), s_, own_j (own_sv ng (own_u d1 d2)), s_, iv (own_mx S0 (own_vk kk)), iv (own_mx (own_mx S0 (own_vk kk)) (own_vf ff)), own_j ((own_sv ng (own_u d1 d2)) * (own_p10 ((own_mx (own_mx S0 (own_vk kk)) (own_vf ff)) - (own_vk kk)))), s_, own_j ((own_u m1 m2) * (own_p10 ((own_mx (own_mx S0 (own_vk kk)) (own_vf ff)) - (own_vf ff)))), s_, rv b_53] [.int 2, .ref b_53]) (fun t k => XS.iconst X87.here hx rfl (hb hby at_655) k) ?_
                      refine own_s T87 (mkF m 658 #[iv p0, iv p1, iv p2, iv p3, iv p4, iv p5, iv cap, iv S0, iv g, iv gg, iv d1, iv d2, iv m1, iv m2, iv bS, iv bM, iv ng, iv kk, iv ff, iv ch1, iv ch2, rv ad1, iv (own_to kk), iv (own_vk kk), iv fr1, rv ad4, iv (own_fr2 ff), iv (own_vf ff), rv ad15, rv b_21, iv 1, iv 1, iv 1, own_j (own_u d1 d2), s_, own_j (own_sv ng (own_u d1 d2)), s_, iv (own_mx S0 (own_vk kk)), iv (own_mx (own_mx S0 (own_vk kk)) (own_vf ff)), own_j ((own_sv ng (own_u d1 d2)) * (own_p10 ((own_mx (own_mx S0 (own_vk kk)) (own_vf ff)) - (own_vk kk)))), s_, own_j ((own_u m1 m2) * (own_p10 ((own_mx (own_mx S0 (own_vk kk)) (own_vf ff)) - (own_vf ff)))), s_, rv b_53] [.int cap, .int 2, .ref b_53]) (fun t k => XS.iload X87.here hx rfl (hb hby at_656) rfl k) ?_
                      refine own_s T87 (mkF m 660 #[iv p0, iv p1, iv p2, iv p3, iv p4, iv p5, iv cap, iv S0, iv g, iv gg, iv d1, iv d2, iv m1, iv m2, iv bS, iv bM, iv ng, iv kk, iv ff, iv ch1, iv ch2, rv ad1, iv (own_to kk), iv (own_vk kk), iv fr1, rv ad4, iv (own_fr2 ff), iv (own_vf ff), rv ad15, rv b_21, iv 1, iv 1, iv 1, own_j (own_u d1 d2), s_, own_j (own_sv ng (own_u d1 d2)), s_, iv (own_mx S0 (own_vk kk)), iv (own_mx (own_mx S0 (own_vk kk)) (own_vf ff)), own_j ((own_sv ng (own_u d1 d2)) * (own_p10 ((own_mx (own_mx S0 (own_vk kk)) (own_vf ff)) - (own_vk kk)))), s_, own_j ((own_u m1 m2) * (own_p10 ((own_mx (own_mx S0 (own_vk kk)) (own_vf ff)) - (own_vf ff)))), s_, rv b_53] [.int g, .int cap, .int 2, .ref b_53]) (fun t k => XS.iload X87.here hx rfl (hb hby at_658) rfl k) ?_
                      refine own_s T87 (mkF m 662 #[iv p0, iv p1, iv p2, iv p3, iv p4, iv p5, iv cap, iv S0, iv g, iv gg, iv d1, iv d2, iv m1, iv m2, iv bS, iv bM, iv ng, iv kk, iv ff, iv ch1, iv ch2, rv ad1, iv (own_to kk), iv (own_vk kk), iv fr1, rv ad4, iv (own_fr2 ff), iv (own_vf ff), rv ad15, rv b_21, iv 1, iv 1, iv 1, own_j (own_u d1 d2), s_, own_j (own_sv ng (own_u d1 d2)), s_, iv (own_mx S0 (own_vk kk)), iv (own_mx (own_mx S0 (own_vk kk)) (own_vf ff)), own_j ((own_sv ng (own_u d1 d2)) * (own_p10 ((own_mx (own_mx S0 (own_vk kk)) (own_vf ff)) - (own_vk kk)))), s_, own_j ((own_u m1 m2) * (own_p10 ((own_mx (own_mx S0 (own_vk kk)) (own_vf ff)) - (own_vf ff)))), s_, rv b_53] [.int gg, .int g, .int cap, .int 2, .ref b_53]) (fun t k => XS.iload X87.here hx rfl (hb hby at_660) rfl k) ?_
                      refine own_s T87 (mkF m 664 #[iv p0, iv p1, iv p2, iv p3, iv p4, iv p5, iv cap, iv S0, iv g, iv gg, iv d1, iv d2, iv m1, iv m2, iv bS, iv bM, iv ng, iv kk, iv ff, iv ch1, iv ch2, rv ad1, iv (own_to kk), iv (own_vk kk), iv fr1, rv ad4, iv (own_fr2 ff), iv (own_vf ff), rv ad15, rv b_21, iv 1, iv 1, iv 1, own_j (own_u d1 d2), s_, own_j (own_sv ng (own_u d1 d2)), s_, iv (own_mx S0 (own_vk kk)), iv (own_mx (own_mx S0 (own_vk kk)) (own_vf ff)), own_j ((own_sv ng (own_u d1 d2)) * (own_p10 ((own_mx (own_mx S0 (own_vk kk)) (own_vf ff)) - (own_vk kk)))), s_, own_j ((own_u m1 m2) * (own_p10 ((own_mx (own_mx S0 (own_vk kk)) (own_vf ff)) - (own_vf ff)))), s_, rv b_53] [.long ((own_sv ng (own_u d1 d2)) * (own_p10 ((own_mx (own_mx S0 (own_vk kk)) (own_vf ff)) - (own_vk kk)))), .int gg, .int g, .int cap, .int 2, .ref b_53]) (fun t k => XS.lload X87.here hx rfl (hb hby at_662) rfl k) ?_
                      refine own_s T87 (mkF m 666 #[iv p0, iv p1, iv p2, iv p3, iv p4, iv p5, iv cap, iv S0, iv g, iv gg, iv d1, iv d2, iv m1, iv m2, iv bS, iv bM, iv ng, iv kk, iv ff, iv ch1, iv ch2, rv ad1, iv (own_to kk), iv (own_vk kk), iv fr1, rv ad4, iv (own_fr2 ff), iv (own_vf ff), rv ad15, rv b_21, iv 1, iv 1, iv 1, own_j (own_u d1 d2), s_, own_j (own_sv ng (own_u d1 d2)), s_, iv (own_mx S0 (own_vk kk)), iv (own_mx (own_mx S0 (own_vk kk)) (own_vf ff)), own_j ((own_sv ng (own_u d1 d2)) * (own_p10 ((own_mx (own_mx S0 (own_vk kk)) (own_vf ff)) - (own_vk kk)))), s_, own_j ((own_u m1 m2) * (own_p10 ((own_mx (own_mx S0 (own_vk kk)) (own_vf ff)) - (own_vf ff)))), s_, rv b_53] [.long ((own_u m1 m2) * (own_p10 ((own_mx (own_mx S0 (own_vk kk)) (own_vf ff)) - (own_vf ff)))), .long ((own_sv ng (own_u d1 d2)) * (own_p10 ((own_mx (own_mx S0 (own_vk kk)) (own_vf ff)) - (own_vk kk)))), .int gg, .int g, .int cap, .int 2, .ref b_53]) (fun t k => XS.lload X87.here hx rfl (hb hby at_664) rfl k) ?_
                      obtain ⟨_, _, ⟨T90, L90, k90, n90⟩, -, X90, ⟨Lc90, hQ90, lq90, yq90, zq90⟩, st90⟩ := Jvm.LawKit.callS X87 hx (y := (⟨"com/example/viewlattice/viewlattice/engine/DecimalSumsGetUnscaledLongsPinLaw", "cell", "([JIIIIJJ)Z"⟩ : MethodName)) hown (mvT hZ (hW 21 _ rfl)) (mvT hZ (hW 22 _ rfl)) (mvT hZ (hW 23 _ rfl)) (mvT hZ (hW 24 _ rfl)) (by decide) (backOf (W := 0) (rm_cel2 l Z a0 hw [] b_53 kb_53 cap g gg ((own_sv ng (own_u d1 d2)) * (own_p10 ((own_mx (own_mx S0 (own_vk kk)) (own_vf ff)) - (own_vk kk)))) ((own_u m1 m2) * (own_p10 ((own_mx (own_mx S0 (own_vk kk)) (own_vf ff)) - (own_vf ff)))) (own_upd gg (0 : Int32) ((own_upd g (0 : Int32) ((0 : Int64) * own_f S0 (own_vk kk)) ((own_sv ng (own_u d1 d2)) * own_p10 (own_mx S0 (own_vk kk) - (own_vk kk)))) * own_f (own_mx S0 (own_vk kk)) (own_vf ff)) ((own_u m1 m2) * own_p10 (own_mx (own_mx S0 (own_vk kk)) (own_vf ff) - (own_vf ff)))) (own_upd gg (1 : Int32) ((own_upd g (1 : Int32) ((0 : Int64) * own_f S0 (own_vk kk)) ((own_sv ng (own_u d1 d2)) * own_p10 (own_mx S0 (own_vk kk) - (own_vk kk)))) * own_f (own_mx S0 (own_vk kk)) (own_vf ff)) ((own_u m1 m2) * own_p10 (own_mx (own_mx S0 (own_vk kk)) (own_vf ff) - (own_vf ff)))) (own_upd gg (2 : Int32) ((own_upd g (2 : Int32) ((0 : Int64) * own_f S0 (own_vk kk)) ((own_sv ng (own_u d1 d2)) * own_p10 (own_mx S0 (own_vk kk) - (own_vk kk)))) * own_f (own_mx S0 (own_vk kk)) (own_vf ff)) ((own_u m1 m2) * own_p10 (own_mx (own_mx S0 (own_vk kk)) (own_vf ff) - (own_vf ff)))) (own_upd gg (3 : Int32) ((own_upd g (3 : Int32) ((0 : Int64) * own_f S0 (own_vk kk)) ((own_sv ng (own_u d1 d2)) * own_p10 (own_mx S0 (own_vk kk) - (own_vk kk)))) * own_f (own_mx S0 (own_vk kk)) (own_vf ff)) ((own_u m1 m2) * own_p10 (own_mx (own_mx S0 (own_vk kk)) (own_vf ff) - (own_vf ff)))) T56.heap n0 Z54 g55.2.2.2.1 hcap (fun _ => own_fin (own_pp hS0 hkk hff))) hZ (hW 24 _ rfl) (hW 23 _ rfl) (by decide) (by decide)) (g := (mkF m 666 #[iv p0, iv p1, iv p2, iv p3, iv p4, iv p5, iv cap, iv S0, iv g, iv gg, iv d1, iv d2, iv m1, iv m2, iv bS, iv bM, iv ng, iv kk, iv ff, iv ch1, iv ch2, rv ad1, iv (own_to kk), iv (own_vk kk), iv fr1, rv ad4, iv (own_fr2 ff), iv (own_vf ff), rv ad15, rv b_21, iv 1, iv 1, iv 1, own_j (own_u d1 d2), s_, own_j (own_sv ng (own_u d1 d2)), s_, iv (own_mx S0 (own_vk kk)), iv (own_mx (own_mx S0 (own_vk kk)) (own_vf ff)), own_j ((own_sv ng (own_u d1 d2)) * (own_p10 ((own_mx (own_mx S0 (own_vk kk)) (own_vf ff)) - (own_vk kk)))), s_, own_j ((own_u m1 m2) * (own_p10 ((own_mx (own_mx S0 (own_vk kk)) (own_vf ff)) - (own_vf ff)))), s_, rv b_53] [.long ((own_u m1 m2) * (own_p10 ((own_mx (own_mx S0 (own_vk kk)) (own_vf ff)) - (own_vf ff)))), .long ((own_sv ng (own_u d1 d2)) * (own_p10 ((own_mx (own_mx S0 (own_vk kk)) (own_vf ff)) - (own_vk kk)))), .int gg, .int g, .int cap, .int 2, .ref b_53])) rfl (by rw [hml]; rfl) (argsL := [(.ref b_53), (.int (2 : Int32)), (.int cap), (.int g), (.int gg), (.long ((own_sv ng (own_u d1 d2)) * (own_p10 ((own_mx (own_mx S0 (own_vk kk)) (own_vf ff)) - (own_vk kk))))), (.long ((own_u m1 m2) * (own_p10 ((own_mx (own_mx S0 (own_vk kk)) (own_vf ff)) - (own_vf ff)))))]) (rest := []) (lenOf pd_7 rfl) rfl (by show 2 * 0 + _ ≤ _; exact Nat.le_of_eq rfl) (hb hby at_666) (fun _ _ => ⟨rfl, eq86, (by decide : 6 + 0 ≤ _), (by decide : 22 + 0 ≤ _)⟩)
                      dsimp only [Pt.U, Pt.locs, Pt.cells, Pt.slots] at X90 lq90 yq90 zq90 st90 hQ90
                      subst lq90 yq90 zq90
                      obtain ⟨rfl, Nq90, eq89⟩ := hQ90
                      have N90 := Fr.app N87 Nq90
                      refine own_s T90 (mkF m 669 #[iv p0, iv p1, iv p2, iv p3, iv p4, iv p5, iv cap, iv S0, iv g, iv gg, iv d1, iv d2, iv m1, iv m2, iv bS, iv bM, iv ng, iv kk, iv ff, iv ch1, iv ch2, rv ad1, iv (own_to kk), iv (own_vk kk), iv fr1, rv ad4, iv (own_fr2 ff), iv (own_vf ff), rv ad15, rv b_21, iv 1, iv 1, iv 1, own_j (own_u d1 d2), s_, own_j (own_sv ng (own_u d1 d2)), s_, iv (own_mx S0 (own_vk kk)), iv (own_mx (own_mx S0 (own_vk kk)) (own_vf ff)), own_j ((own_sv ng (own_u d1 d2)) * (own_p10 ((own_mx (own_mx S0 (own_vk kk)) (own_vf ff)) - (own_vk kk)))), s_, own_j ((own_u m1 m2) * (own_p10 ((own_mx (own_mx S0 (own_vk kk)) (own_vf ff)) - (own_vf ff)))), s_, rv b_53] [.int 1]) st90 ?_
                      refine own_s T90 (mkF m 672 #[iv p0, iv p1, iv p2, iv p3, iv p4, iv p5, iv cap, iv S0, iv g, iv gg, iv d1, iv d2, iv m1, iv m2, iv bS, iv bM, iv ng, iv kk, iv ff, iv ch1, iv ch2, rv ad1, iv (own_to kk), iv (own_vk kk), iv fr1, rv ad4, iv (own_fr2 ff), iv (own_vf ff), rv ad15, rv b_21, iv 1, iv 1, iv 1, own_j (own_u d1 d2), s_, own_j (own_sv ng (own_u d1 d2)), s_, iv (own_mx S0 (own_vk kk)), iv (own_mx (own_mx S0 (own_vk kk)) (own_vf ff)), own_j ((own_sv ng (own_u d1 d2)) * (own_p10 ((own_mx (own_mx S0 (own_vk kk)) (own_vf ff)) - (own_vk kk)))), s_, own_j ((own_u m1 m2) * (own_p10 ((own_mx (own_mx S0 (own_vk kk)) (own_vf ff)) - (own_vf ff)))), s_, rv b_53] []) (fun t k => XS.ifNo X90.here hx rfl (hb hby at_669) rfl ((if0 _ _).trans (feq (by decide : ¬ ((1 : Int32) = (0 : Int32)))).1) k) ?_
                      refine own_s T90 (mkF m 674 #[iv p0, iv p1, iv p2, iv p3, iv p4, iv p5, iv cap, iv S0, iv g, iv gg, iv d1, iv d2, iv m1, iv m2, iv bS, iv bM, iv ng, iv kk, iv ff, iv ch1, iv ch2, rv ad1, iv (own_to kk), iv (own_vk kk), iv fr1, rv ad4, iv (own_fr2 ff), iv (own_vf ff), rv ad15, rv b_21, iv 1, iv 1, iv 1, own_j (own_u d1 d2), s_, own_j (own_sv ng (own_u d1 d2)), s_, iv (own_mx S0 (own_vk kk)), iv (own_mx (own_mx S0 (own_vk kk)) (own_vf ff)), own_j ((own_sv ng (own_u d1 d2)) * (own_p10 ((own_mx (own_mx S0 (own_vk kk)) (own_vf ff)) - (own_vk kk)))), s_, own_j ((own_u m1 m2) * (own_p10 ((own_mx (own_mx S0 (own_vk kk)) (own_vf ff)) - (own_vf ff)))), s_, rv b_53] [.ref b_53]) (fun t k => XS.aload X90.here hx rfl (hb hby at_672) rfl rfl k) ?_
                      refine own_s T90 (mkF m 675 #[iv p0, iv p1, iv p2, iv p3, iv p4, iv p5, iv cap, iv S0, iv g, iv gg, iv d1, iv d2, iv m1, iv m2, iv bS, iv bM, iv ng, iv kk, iv ff, iv ch1, iv ch2, rv ad1, iv (own_to kk), iv (own_vk kk), iv fr1, rv ad4, iv (own_fr2 ff), iv (own_vf ff), rv ad15, rv b_21, iv 1, iv 1, iv 1, own_j (own_u d1 d2), s_, own_j (own_sv ng (own_u d1 d2)), s_, iv (own_mx S0 (own_vk kk)), iv (own_mx (own_mx S0 (own_vk kk)) (own_vf ff)), own_j ((own_sv ng (own_u d1 d2)) * (own_p10 ((own_mx (own_mx S0 (own_vk kk)) (own_vf ff)) - (own_vk kk)))), s_, own_j ((own_u m1 m2) * (own_p10 ((own_mx (own_mx S0 (own_vk kk)) (own_vf ff)) - (own_vf ff)))), s_, rv b_53] [.int 3, .ref b_53]) (fun t k => XS.iconst X90.here hx rfl (hb hby at_674) k) ?_
                      refine own_s T90 (mkF m 677 #[iv p0, iv p1, iv p2, iv p3, iv p4, iv p5, iv cap, iv S0, iv g, iv gg, iv d1, iv d2, iv m1, iv m2, iv bS, iv bM, iv ng, iv kk, iv ff, iv ch1, iv ch2, rv ad1, iv (own_to kk), iv (own_vk kk), iv fr1, rv ad4, iv (own_fr2 ff), iv (own_vf ff), rv ad15, rv b_21, iv 1, iv 1, iv 1, own_j (own_u d1 d2), s_, own_j (own_sv ng (own_u d1 d2)), s_, iv (own_mx S0 (own_vk kk)), iv (own_mx (own_mx S0 (own_vk kk)) (own_vf ff)), own_j ((own_sv ng (own_u d1 d2)) * (own_p10 ((own_mx (own_mx S0 (own_vk kk)) (own_vf ff)) - (own_vk kk)))), s_, own_j ((own_u m1 m2) * (own_p10 ((own_mx (own_mx S0 (own_vk kk)) (own_vf ff)) - (own_vf ff)))), s_, rv b_53] [.int cap, .int 3, .ref b_53]) (fun t k => XS.iload X90.here hx rfl (hb hby at_675) rfl k) ?_
                      refine own_s T90 (mkF m 679 #[iv p0, iv p1, iv p2, iv p3, iv p4, iv p5, iv cap, iv S0, iv g, iv gg, iv d1, iv d2, iv m1, iv m2, iv bS, iv bM, iv ng, iv kk, iv ff, iv ch1, iv ch2, rv ad1, iv (own_to kk), iv (own_vk kk), iv fr1, rv ad4, iv (own_fr2 ff), iv (own_vf ff), rv ad15, rv b_21, iv 1, iv 1, iv 1, own_j (own_u d1 d2), s_, own_j (own_sv ng (own_u d1 d2)), s_, iv (own_mx S0 (own_vk kk)), iv (own_mx (own_mx S0 (own_vk kk)) (own_vf ff)), own_j ((own_sv ng (own_u d1 d2)) * (own_p10 ((own_mx (own_mx S0 (own_vk kk)) (own_vf ff)) - (own_vk kk)))), s_, own_j ((own_u m1 m2) * (own_p10 ((own_mx (own_mx S0 (own_vk kk)) (own_vf ff)) - (own_vf ff)))), s_, rv b_53] [.int g, .int cap, .int 3, .ref b_53]) (fun t k => XS.iload X90.here hx rfl (hb hby at_677) rfl k) ?_
                      refine own_s T90 (mkF m 681 #[iv p0, iv p1, iv p2, iv p3, iv p4, iv p5, iv cap, iv S0, iv g, iv gg, iv d1, iv d2, iv m1, iv m2, iv bS, iv bM, iv ng, iv kk, iv ff, iv ch1, iv ch2, rv ad1, iv (own_to kk), iv (own_vk kk), iv fr1, rv ad4, iv (own_fr2 ff), iv (own_vf ff), rv ad15, rv b_21, iv 1, iv 1, iv 1, own_j (own_u d1 d2), s_, own_j (own_sv ng (own_u d1 d2)), s_, iv (own_mx S0 (own_vk kk)), iv (own_mx (own_mx S0 (own_vk kk)) (own_vf ff)), own_j ((own_sv ng (own_u d1 d2)) * (own_p10 ((own_mx (own_mx S0 (own_vk kk)) (own_vf ff)) - (own_vk kk)))), s_, own_j ((own_u m1 m2) * (own_p10 ((own_mx (own_mx S0 (own_vk kk)) (own_vf ff)) - (own_vf ff)))), s_, rv b_53] [.int gg, .int g, .int cap, .int 3, .ref b_53]) (fun t k => XS.iload X90.here hx rfl (hb hby at_679) rfl k) ?_
                      refine own_s T90 (mkF m 683 #[iv p0, iv p1, iv p2, iv p3, iv p4, iv p5, iv cap, iv S0, iv g, iv gg, iv d1, iv d2, iv m1, iv m2, iv bS, iv bM, iv ng, iv kk, iv ff, iv ch1, iv ch2, rv ad1, iv (own_to kk), iv (own_vk kk), iv fr1, rv ad4, iv (own_fr2 ff), iv (own_vf ff), rv ad15, rv b_21, iv 1, iv 1, iv 1, own_j (own_u d1 d2), s_, own_j (own_sv ng (own_u d1 d2)), s_, iv (own_mx S0 (own_vk kk)), iv (own_mx (own_mx S0 (own_vk kk)) (own_vf ff)), own_j ((own_sv ng (own_u d1 d2)) * (own_p10 ((own_mx (own_mx S0 (own_vk kk)) (own_vf ff)) - (own_vk kk)))), s_, own_j ((own_u m1 m2) * (own_p10 ((own_mx (own_mx S0 (own_vk kk)) (own_vf ff)) - (own_vf ff)))), s_, rv b_53] [.long ((own_sv ng (own_u d1 d2)) * (own_p10 ((own_mx (own_mx S0 (own_vk kk)) (own_vf ff)) - (own_vk kk)))), .int gg, .int g, .int cap, .int 3, .ref b_53]) (fun t k => XS.lload X90.here hx rfl (hb hby at_681) rfl k) ?_
                      refine own_s T90 (mkF m 685 #[iv p0, iv p1, iv p2, iv p3, iv p4, iv p5, iv cap, iv S0, iv g, iv gg, iv d1, iv d2, iv m1, iv m2, iv bS, iv bM, iv ng, iv kk, iv ff, iv ch1, iv ch2, rv ad1, iv (own_to kk), iv (own_vk kk), iv fr1, rv ad4, iv (own_fr2 ff), iv (own_vf ff), rv ad15, rv b_21, iv 1, iv 1, iv 1, own_j (own_u d1 d2), s_, own_j (own_sv ng (own_u d1 d2)), s_, iv (own_mx S0 (own_vk kk)), iv (own_mx (own_mx S0 (own_vk kk)) (own_vf ff)), own_j ((own_sv ng (own_u d1 d2)) * (own_p10 ((own_mx (own_mx S0 (own_vk kk)) (own_vf ff)) - (own_vk kk)))), s_, own_j ((own_u m1 m2) * (own_p10 ((own_mx (own_mx S0 (own_vk kk)) (own_vf ff)) - (own_vf ff)))), s_, rv b_53] [.long ((own_u m1 m2) * (own_p10 ((own_mx (own_mx S0 (own_vk kk)) (own_vf ff)) - (own_vf ff)))), .long ((own_sv ng (own_u d1 d2)) * (own_p10 ((own_mx (own_mx S0 (own_vk kk)) (own_vf ff)) - (own_vk kk)))), .int gg, .int g, .int cap, .int 3, .ref b_53]) (fun t k => XS.lload X90.here hx rfl (hb hby at_683) rfl k) ?_
                      obtain ⟨_, _, ⟨T93, L93, k93, n93⟩, -, X93, ⟨Lc93, hQ93, lq93, yq93, zq93⟩, st93⟩ := Jvm.LawKit.callS X90 hx (y := (⟨"com/example/viewlattice/viewlattice/engine/DecimalSumsGetUnscaledLongsPinLaw", "cell", "([JIIIIJJ)Z"⟩ : MethodName)) hown (mvT hZ (hW 21 _ rfl)) (mvT hZ (hW 22 _ rfl)) (mvT hZ (hW 23 _ rfl)) (mvT hZ (hW 24 _ rfl)) (by decide) (backOf (W := 0) (rm_cel3 l Z a0 hw [] b_53 kb_53 cap g gg ((own_sv ng (own_u d1 d2)) * (own_p10 ((own_mx (own_mx S0 (own_vk kk)) (own_vf ff)) - (own_vk kk)))) ((own_u m1 m2) * (own_p10 ((own_mx (own_mx S0 (own_vk kk)) (own_vf ff)) - (own_vf ff)))) (own_upd gg (0 : Int32) ((own_upd g (0 : Int32) ((0 : Int64) * own_f S0 (own_vk kk)) ((own_sv ng (own_u d1 d2)) * own_p10 (own_mx S0 (own_vk kk) - (own_vk kk)))) * own_f (own_mx S0 (own_vk kk)) (own_vf ff)) ((own_u m1 m2) * own_p10 (own_mx (own_mx S0 (own_vk kk)) (own_vf ff) - (own_vf ff)))) (own_upd gg (1 : Int32) ((own_upd g (1 : Int32) ((0 : Int64) * own_f S0 (own_vk kk)) ((own_sv ng (own_u d1 d2)) * own_p10 (own_mx S0 (own_vk kk) - (own_vk kk)))) * own_f (own_mx S0 (own_vk kk)) (own_vf ff)) ((own_u m1 m2) * own_p10 (own_mx (own_mx S0 (own_vk kk)) (own_vf ff) - (own_vf ff)))) (own_upd gg (2 : Int32) ((own_upd g (2 : Int32) ((0 : Int64) * own_f S0 (own_vk kk)) ((own_sv ng (own_u d1 d2)) * own_p10 (own_mx S0 (own_vk kk) - (own_vk kk)))) * own_f (own_mx S0 (own_vk kk)) (own_vf ff)) ((own_u m1 m2) * own_p10 (own_mx (own_mx S0 (own_vk kk)) (own_vf ff) - (own_vf ff)))) (own_upd gg (3 : Int32) ((own_upd g (3 : Int32) ((0 : Int64) * own_f S0 (own_vk kk)) ((own_sv ng (own_u d1 d2)) * own_p10 (own_mx S0 (own_vk kk) - (own_vk kk)))) * own_f (own_mx S0 (own_vk kk)) (own_vf ff)) ((own_u m1 m2) * own_p10 (own_mx (own_mx S0 (own_vk kk)) (own_vf ff) - (own_vf ff)))) T56.heap n0 Z54 g55.2.2.2.1 hcap (fun _ => own_fin (own_pp hS0 hkk hff))) hZ (hW 24 _ rfl) (hW 23 _ rfl) (by decide) (by decide)) (g := (mkF m 685 #[iv p0, iv p1, iv p2, iv p3, iv p4, iv p5, iv cap, iv S0, iv g, iv gg, iv d1, iv d2, iv m1, iv m2, iv bS, iv bM, iv ng, iv kk, iv ff, iv ch1, iv ch2, rv ad1, iv (own_to kk), iv (own_vk kk), iv fr1, rv ad4, iv (own_fr2 ff), iv (own_vf ff), rv ad15, rv b_21, iv 1, iv 1, iv 1, own_j (own_u d1 d2), s_, own_j (own_sv ng (own_u d1 d2)), s_, iv (own_mx S0 (own_vk kk)), iv (own_mx (own_mx S0 (own_vk kk)) (own_vf ff)), own_j ((own_sv ng (own_u d1 d2)) * (own_p10 ((own_mx (own_mx S0 (own_vk kk)) (own_vf ff)) - (own_vk kk)))), s_, own_j ((own_u m1 m2) * (own_p10 ((own_mx (own_mx S0 (own_vk kk)) (own_vf ff)) - (own_vf ff)))), s_, rv b_53] [.long ((own_u m1 m2) * (own_p10 ((own_mx (own_mx S0 (own_vk kk)) (own_vf ff)) - (own_vf ff)))), .long ((own_sv ng (own_u d1 d2)) * (own_p10 ((own_mx (own_mx S0 (own_vk kk)) (own_vf ff)) - (own_vk kk)))), .int gg, .int g, .int cap, .int 3, .ref b_53])) rfl (by rw [hml]; rfl) (argsL := [(.ref b_53), (.int (3 : Int32)), (.int cap), (.int g), (.int gg), (.long ((own_sv ng (own_u d1 d2)) * (own_p10 ((own_mx (own_mx S0 (own_vk kk)) (own_vf ff)) - (own_vk kk))))), (.long ((own_u m1 m2) * (own_p10 ((own_mx (own_mx S0 (own_vk kk)) (own_vf ff)) - (own_vf ff)))))]) (rest := []) (lenOf pd_7 rfl) rfl (by show 2 * 0 + _ ≤ _; exact Nat.le_of_eq rfl) (hb hby at_685) (fun _ _ => ⟨rfl, eq89, (by decide : 6 + 0 ≤ _), (by decide : 22 + 0 ≤ _)⟩)
                      dsimp only [Pt.U, Pt.locs, Pt.cells, Pt.slots] at X93 lq93 yq93 zq93 st93 hQ93
                      subst lq93 yq93 zq93
                      obtain ⟨rfl, Nq93, eq92⟩ := hQ93
                      have N93 := Fr.app N90 Nq93
                      refine own_s T93 (mkF m 688 #[iv p0, iv p1, iv p2, iv p3, iv p4, iv p5, iv cap, iv S0, iv g, iv gg, iv d1, iv d2, iv m1, iv m2, iv bS, iv bM, iv ng, iv kk, iv ff, iv ch1, iv ch2, rv ad1, iv (own_to kk), iv (own_vk kk), iv fr1, rv ad4, iv (own_fr2 ff), iv (own_vf ff), rv ad15, rv b_21, iv 1, iv 1, iv 1, own_j (own_u d1 d2), s_, own_j (own_sv ng (own_u d1 d2)), s_, iv (own_mx S0 (own_vk kk)), iv (own_mx (own_mx S0 (own_vk kk)) (own_vf ff)), own_j ((own_sv ng (own_u d1 d2)) * (own_p10 ((own_mx (own_mx S0 (own_vk kk)) (own_vf ff)) - (own_vk kk)))), s_, own_j ((own_u m1 m2) * (own_p10 ((own_mx (own_mx S0 (own_vk kk)) (own_vf ff)) - (own_vf ff)))), s_, rv b_53] [.int 1]) st93 ?_
                      refine own_s T93 (mkF m 691 #[iv p0, iv p1, iv p2, iv p3, iv p4, iv p5, iv cap, iv S0, iv g, iv gg, iv d1, iv d2, iv m1, iv m2, iv bS, iv bM, iv ng, iv kk, iv ff, iv ch1, iv ch2, rv ad1, iv (own_to kk), iv (own_vk kk), iv fr1, rv ad4, iv (own_fr2 ff), iv (own_vf ff), rv ad15, rv b_21, iv 1, iv 1, iv 1, own_j (own_u d1 d2), s_, own_j (own_sv ng (own_u d1 d2)), s_, iv (own_mx S0 (own_vk kk)), iv (own_mx (own_mx S0 (own_vk kk)) (own_vf ff)), own_j ((own_sv ng (own_u d1 d2)) * (own_p10 ((own_mx (own_mx S0 (own_vk kk)) (own_vf ff)) - (own_vk kk)))), s_, own_j ((own_u m1 m2) * (own_p10 ((own_mx (own_mx S0 (own_vk kk)) (own_vf ff)) - (own_vf ff)))), s_, rv b_53] []) (fun t k => XS.ifNo X93.here hx rfl (hb hby at_688) rfl ((if0 _ _).trans (feq (by decide : ¬ ((1 : Int32) = (0 : Int32)))).1) k) ?_
                      refine own_s T93 (mkF m 692 #[iv p0, iv p1, iv p2, iv p3, iv p4, iv p5, iv cap, iv S0, iv g, iv gg, iv d1, iv d2, iv m1, iv m2, iv bS, iv bM, iv ng, iv kk, iv ff, iv ch1, iv ch2, rv ad1, iv (own_to kk), iv (own_vk kk), iv fr1, rv ad4, iv (own_fr2 ff), iv (own_vf ff), rv ad15, rv b_21, iv 1, iv 1, iv 1, own_j (own_u d1 d2), s_, own_j (own_sv ng (own_u d1 d2)), s_, iv (own_mx S0 (own_vk kk)), iv (own_mx (own_mx S0 (own_vk kk)) (own_vf ff)), own_j ((own_sv ng (own_u d1 d2)) * (own_p10 ((own_mx (own_mx S0 (own_vk kk)) (own_vf ff)) - (own_vk kk)))), s_, own_j ((own_u m1 m2) * (own_p10 ((own_mx (own_mx S0 (own_vk kk)) (own_vf ff)) - (own_vf ff)))), s_, rv b_53] [.int 1]) (fun t k => XS.iconst X93.here hx rfl (hb hby at_691) k) ?_
                      refine own_s T93 (mkF m 696 #[iv p0, iv p1, iv p2, iv p3, iv p4, iv p5, iv cap, iv S0, iv g, iv gg, iv d1, iv d2, iv m1, iv m2, iv bS, iv bM, iv ng, iv kk, iv ff, iv ch1, iv ch2, rv ad1, iv (own_to kk), iv (own_vk kk), iv fr1, rv ad4, iv (own_fr2 ff), iv (own_vf ff), rv ad15, rv b_21, iv 1, iv 1, iv 1, own_j (own_u d1 d2), s_, own_j (own_sv ng (own_u d1 d2)), s_, iv (own_mx S0 (own_vk kk)), iv (own_mx (own_mx S0 (own_vk kk)) (own_vf ff)), own_j ((own_sv ng (own_u d1 d2)) * (own_p10 ((own_mx (own_mx S0 (own_vk kk)) (own_vf ff)) - (own_vk kk)))), s_, own_j ((own_u m1 m2) * (own_p10 ((own_mx (own_mx S0 (own_vk kk)) (own_vf ff)) - (own_vf ff)))), s_, rv b_53] [.int 1]) (fun t k => XS.goto X93.here hx rfl (pc0 := 692) (pc' := 696) rfl (hb hby at_692) (by decide) (by decide) k) ?_
                      refine own_rN X93 hx hlk Bd.returns (by simp) (hb hby at_696) ?_ (by decide) (by decide)
                      rw [eq92]
                      exact ⟨rfl, N93⟩
                    by_cases c509 : ng = (0 : Int32)
                    · refine own_s T56 (mkF m 518 #[iv p0, iv p1, iv p2, iv p3, iv p4, iv p5, iv cap, iv S0, iv g, iv gg, iv d1, iv d2, iv m1, iv m2, iv bS, iv bM, iv ng, iv kk, iv ff, iv ch1, iv ch2, rv ad1, iv (own_to kk), iv (own_vk kk), iv fr1, rv ad4, iv (own_fr2 ff), iv (own_vf ff), rv ad15, rv b_21, iv 1, iv 1, iv 1, own_j (own_u d1 d2), s_, u_, u_, u_, u_, u_, u_, u_, u_, u_] []) (fun t k => XS.ifYes X56.here hx rfl (pc0 := 509) (pc' := 518) rfl (hb hby at_509) rfl ((if0 _ _).trans (teq c509).1) (by decide) (by decide) k) ?_
                      refine own_s T56 (mkF m 520 #[iv p0, iv p1, iv p2, iv p3, iv p4, iv p5, iv cap, iv S0, iv g, iv gg, iv d1, iv d2, iv m1, iv m2, iv bS, iv bM, iv ng, iv kk, iv ff, iv ch1, iv ch2, rv ad1, iv (own_to kk), iv (own_vk kk), iv fr1, rv ad4, iv (own_fr2 ff), iv (own_vf ff), rv ad15, rv b_21, iv 1, iv 1, iv 1, own_j (own_u d1 d2), s_, u_, u_, u_, u_, u_, u_, u_, u_, u_] [.long (own_u d1 d2)]) (fun t k => XS.lload X56.here hx rfl (hb hby at_518) rfl k) ?_
                      subst c509
                      exact j520
                    · refine own_s T56 (mkF m 512 #[iv p0, iv p1, iv p2, iv p3, iv p4, iv p5, iv cap, iv S0, iv g, iv gg, iv d1, iv d2, iv m1, iv m2, iv bS, iv bM, iv ng, iv kk, iv ff, iv ch1, iv ch2, rv ad1, iv (own_to kk), iv (own_vk kk), iv fr1, rv ad4, iv (own_fr2 ff), iv (own_vf ff), rv ad15, rv b_21, iv 1, iv 1, iv 1, own_j (own_u d1 d2), s_, u_, u_, u_, u_, u_, u_, u_, u_, u_] []) (fun t k => XS.ifNo X56.here hx rfl (hb hby at_509) rfl ((if0 _ _).trans (feq c509).1) k) ?_
                      refine own_s T56 (mkF m 514 #[iv p0, iv p1, iv p2, iv p3, iv p4, iv p5, iv cap, iv S0, iv g, iv gg, iv d1, iv d2, iv m1, iv m2, iv bS, iv bM, iv ng, iv kk, iv ff, iv ch1, iv ch2, rv ad1, iv (own_to kk), iv (own_vk kk), iv fr1, rv ad4, iv (own_fr2 ff), iv (own_vf ff), rv ad15, rv b_21, iv 1, iv 1, iv 1, own_j (own_u d1 d2), s_, u_, u_, u_, u_, u_, u_, u_, u_, u_] [.long (own_u d1 d2)]) (fun t k => XS.lload X56.here hx rfl (hb hby at_512) rfl k) ?_
                      refine own_s T56 (mkF m 515 #[iv p0, iv p1, iv p2, iv p3, iv p4, iv p5, iv cap, iv S0, iv g, iv gg, iv d1, iv d2, iv m1, iv m2, iv bS, iv bM, iv ng, iv kk, iv ff, iv ch1, iv ch2, rv ad1, iv (own_to kk), iv (own_vk kk), iv fr1, rv ad4, iv (own_fr2 ff), iv (own_vf ff), rv ad15, rv b_21, iv 1, iv 1, iv 1, own_j (own_u d1 d2), s_, u_, u_, u_, u_, u_, u_, u_, u_, u_] [.long (-(own_u d1 d2))]) (fun t k => XS.lneg X56.here hx rfl (hb hby at_514) rfl k) ?_
                      refine own_s T56 (mkF m 520 #[iv p0, iv p1, iv p2, iv p3, iv p4, iv p5, iv cap, iv S0, iv g, iv gg, iv d1, iv d2, iv m1, iv m2, iv bS, iv bM, iv ng, iv kk, iv ff, iv ch1, iv ch2, rv ad1, iv (own_to kk), iv (own_vk kk), iv fr1, rv ad4, iv (own_fr2 ff), iv (own_vf ff), rv ad15, rv b_21, iv 1, iv 1, iv 1, own_j (own_u d1 d2), s_, u_, u_, u_, u_, u_, u_, u_, u_, u_] [.long (-(own_u d1 d2))]) (fun t k => XS.goto X56.here hx rfl (pc0 := 515) (pc' := 520) rfl (hb hby at_515) (by decide) (by decide) k) ?_
                      obtain rfl : ng = 1 := hng01.resolve_left c509
                      exact j520
                  by_cases c352 : ff = (0 : Int32)
                  · refine own_s T12 (mkF m 359 #[iv p0, iv p1, iv p2, iv p3, iv p4, iv p5, iv cap, iv S0, iv g, iv gg, iv d1, iv d2, iv m1, iv m2, iv bS, iv bM, iv ng, iv kk, iv ff, iv ch1, iv ch2, rv ad1, iv (own_to kk), iv (own_vk kk), iv fr1, rv ad4, iv (own_fr2 ff), u_, u_, u_, u_, u_, u_, u_, u_, u_, u_, u_, u_, u_, u_, u_, u_, u_] []) (fun t k => XS.ifYes X12.here hx rfl (pc0 := 352) (pc' := 359) rfl (hb hby at_352) rfl ((if0 _ _).trans (teq c352).1) (by decide) (by decide) k) ?_
                    refine own_s T12 (mkF m 360 #[iv p0, iv p1, iv p2, iv p3, iv p4, iv p5, iv cap, iv S0, iv g, iv gg, iv d1, iv d2, iv m1, iv m2, iv bS, iv bM, iv ng, iv kk, iv ff, iv ch1, iv ch2, rv ad1, iv (own_to kk), iv (own_vk kk), iv fr1, rv ad4, iv (own_fr2 ff), u_, u_, u_, u_, u_, u_, u_, u_, u_, u_, u_, u_, u_, u_, u_, u_, u_] [.int 0]) (fun t k => XS.iconst X12.here hx rfl (hb hby at_359) k) ?_
                    subst c352
                    exact j360
                  · refine own_s T12 (mkF m 355 #[iv p0, iv p1, iv p2, iv p3, iv p4, iv p5, iv cap, iv S0, iv g, iv gg, iv d1, iv d2, iv m1, iv m2, iv bS, iv bM, iv ng, iv kk, iv ff, iv ch1, iv ch2, rv ad1, iv (own_to kk), iv (own_vk kk), iv fr1, rv ad4, iv (own_fr2 ff), u_, u_, u_, u_, u_, u_, u_, u_, u_, u_, u_, u_, u_, u_, u_, u_, u_] []) (fun t k => XS.ifNo X12.here hx rfl (hb hby at_352) rfl ((if0 _ _).trans (feq c352).1) k) ?_
                    refine own_s T12 (mkF m 356 #[iv p0, iv p1, iv p2, iv p3, iv p4, iv p5, iv cap, iv S0, iv g, iv gg, iv d1, iv d2, iv m1, iv m2, iv bS, iv bM, iv ng, iv kk, iv ff, iv ch1, iv ch2, rv ad1, iv (own_to kk), iv (own_vk kk), iv fr1, rv ad4, iv (own_fr2 ff), u_, u_, u_, u_, u_, u_, u_, u_, u_, u_, u_, u_, u_, u_, u_, u_, u_] [.int 2]) (fun t k => XS.iconst X12.here hx rfl (hb hby at_355) k) ?_
                    refine own_s T12 (mkF m 360 #[iv p0, iv p1, iv p2, iv p3, iv p4, iv p5, iv cap, iv S0, iv g, iv gg, iv d1, iv d2, iv m1, iv m2, iv bS, iv bM, iv ng, iv kk, iv ff, iv ch1, iv ch2, rv ad1, iv (own_to kk), iv (own_vk kk), iv fr1, rv ad4, iv (own_fr2 ff), u_, u_, u_, u_, u_, u_, u_, u_, u_, u_, u_, u_, u_, u_, u_, u_, u_] [.int 2]) (fun t k => XS.goto X12.here hx rfl (pc0 := 356) (pc' := 360) rfl (hb hby at_356) (by decide) (by decide) k) ?_
                    obtain rfl : ff = 1 := hff.resolve_left c352
                    exact j360
                by_cases c340 : ff = (0 : Int32)
                · refine own_s T12 (mkF m 347 #[iv p0, iv p1, iv p2, iv p3, iv p4, iv p5, iv cap, iv S0, iv g, iv gg, iv d1, iv d2, iv m1, iv m2, iv bS, iv bM, iv ng, iv kk, iv ff, iv ch1, iv ch2, rv ad1, iv (own_to kk), iv (own_vk kk), iv fr1, rv ad4, u_, u_, u_, u_, u_, u_, u_, u_, u_, u_, u_, u_, u_, u_, u_, u_, u_, u_] []) (fun t k => XS.ifYes X12.here hx rfl (pc0 := 340) (pc' := 347) rfl (hb hby at_340) rfl ((if0 _ _).trans (teq c340).1) (by decide) (by decide) k) ?_
                  refine own_s T12 (mkF m 348 #[iv p0, iv p1, iv p2, iv p3, iv p4, iv p5, iv cap, iv S0, iv g, iv gg, iv d1, iv d2, iv m1, iv m2, iv bS, iv bM, iv ng, iv kk, iv ff, iv ch1, iv ch2, rv ad1, iv (own_to kk), iv (own_vk kk), iv fr1, rv ad4, u_, u_, u_, u_, u_, u_, u_, u_, u_, u_, u_, u_, u_, u_, u_, u_, u_, u_] [.int 1]) (fun t k => XS.iconst X12.here hx rfl (hb hby at_347) k) ?_
                  subst c340
                  exact j348
                · refine own_s T12 (mkF m 343 #[iv p0, iv p1, iv p2, iv p3, iv p4, iv p5, iv cap, iv S0, iv g, iv gg, iv d1, iv d2, iv m1, iv m2, iv bS, iv bM, iv ng, iv kk, iv ff, iv ch1, iv ch2, rv ad1, iv (own_to kk), iv (own_vk kk), iv fr1, rv ad4, u_, u_, u_, u_, u_, u_, u_, u_, u_, u_, u_, u_, u_, u_, u_, u_, u_, u_] []) (fun t k => XS.ifNo X12.here hx rfl (hb hby at_340) rfl ((if0 _ _).trans (feq c340).1) k) ?_
                  refine own_s T12 (mkF m 344 #[iv p0, iv p1, iv p2, iv p3, iv p4, iv p5, iv cap, iv S0, iv g, iv gg, iv d1, iv d2, iv m1, iv m2, iv bS, iv bM, iv ng, iv kk, iv ff, iv ch1, iv ch2, rv ad1, iv (own_to kk), iv (own_vk kk), iv fr1, rv ad4, u_, u_, u_, u_, u_, u_, u_, u_, u_, u_, u_, u_, u_, u_, u_, u_, u_, u_] [.int 0]) (fun t k => XS.iconst X12.here hx rfl (hb hby at_343) k) ?_
                  refine own_s T12 (mkF m 348 #[iv p0, iv p1, iv p2, iv p3, iv p4, iv p5, iv cap, iv S0, iv g, iv gg, iv d1, iv d2, iv m1, iv m2, iv bS, iv bM, iv ng, iv kk, iv ff, iv ch1, iv ch2, rv ad1, iv (own_to kk), iv (own_vk kk), iv fr1, rv ad4, u_, u_, u_, u_, u_, u_, u_, u_, u_, u_, u_, u_, u_, u_, u_, u_, u_, u_] [.int 0]) (fun t k => XS.goto X12.here hx rfl (pc0 := 344) (pc' := 348) rfl (hb hby at_344) (by decide) (by decide) k) ?_
                  obtain rfl : ff = 1 := hff.resolve_left c340
                  exact j348
              by_cases c297 : bS = (0 : Int32)
              · refine own_s TH295 (mkF m 304 #[iv p0, iv p1, iv p2, iv p3, iv p4, iv p5, iv cap, iv S0, iv g, iv gg, iv d1, iv d2, iv m1, iv m2, iv bS, iv bM, iv ng, iv kk, iv ff, iv ch1, iv ch2, rv ad1, iv (own_to kk), iv (own_vk kk), u_, u_, u_, u_, u_, u_, u_, u_, u_, u_, u_, u_, u_, u_, u_, u_, u_, u_, u_, u_] []) (fun t k => XS.ifYes XH295.here hx rfl (pc0 := 297) (pc' := 304) rfl (hb hby at_297) rfl ((if0 _ _).trans (teq c297).1) (by decide) (by decide) k) ?_
                refine own_s TH295 (mkF m 305 #[iv p0, iv p1, iv p2, iv p3, iv p4, iv p5, iv cap, iv S0, iv g, iv gg, iv d1, iv d2, iv m1, iv m2, iv bS, iv bM, iv ng, iv kk, iv ff, iv ch1, iv ch2, rv ad1, iv (own_to kk), iv (own_vk kk), u_, u_, u_, u_, u_, u_, u_, u_, u_, u_, u_, u_, u_, u_, u_, u_, u_, u_, u_, u_] [.int 1]) (fun t k => XS.iconst XH295.here hx rfl (hb hby at_304) k) ?_
                exact j305 _ (Or.inr ⟨rfl, c297⟩)
              · refine own_s TH295 (mkF m 300 #[iv p0, iv p1, iv p2, iv p3, iv p4, iv p5, iv cap, iv S0, iv g, iv gg, iv d1, iv d2, iv m1, iv m2, iv bS, iv bM, iv ng, iv kk, iv ff, iv ch1, iv ch2, rv ad1, iv (own_to kk), iv (own_vk kk), u_, u_, u_, u_, u_, u_, u_, u_, u_, u_, u_, u_, u_, u_, u_, u_, u_, u_, u_, u_] []) (fun t k => XS.ifNo XH295.here hx rfl (hb hby at_297) rfl ((if0 _ _).trans (feq c297).1) k) ?_
                refine own_s TH295 (mkF m 301 #[iv p0, iv p1, iv p2, iv p3, iv p4, iv p5, iv cap, iv S0, iv g, iv gg, iv d1, iv d2, iv m1, iv m2, iv bS, iv bM, iv ng, iv kk, iv ff, iv ch1, iv ch2, rv ad1, iv (own_to kk), iv (own_vk kk), u_, u_, u_, u_, u_, u_, u_, u_, u_, u_, u_, u_, u_, u_, u_, u_, u_, u_, u_, u_] [.int 0]) (fun t k => XS.iconst XH295.here hx rfl (hb hby at_300) k) ?_
                refine own_s TH295 (mkF m 305 #[iv p0, iv p1, iv p2, iv p3, iv p4, iv p5, iv cap, iv S0, iv g, iv gg, iv d1, iv d2, iv m1, iv m2, iv bS, iv bM, iv ng, iv kk, iv ff, iv ch1, iv ch2, rv ad1, iv (own_to kk), iv (own_vk kk), u_, u_, u_, u_, u_, u_, u_, u_, u_, u_, u_, u_, u_, u_, u_, u_, u_, u_, u_, u_] [.int 0]) (fun t k => XS.goto XH295.here hx rfl (pc0 := 301) (pc' := 305) rfl (hb hby at_301) (by decide) (by decide) k) ?_
                exact j305 _ (Or.inl ⟨rfl, c297⟩)
            by_cases c175 : kk = (0 : Int32)
            · refine own_s T2 (mkF m 178 #[iv p0, iv p1, iv p2, iv p3, iv p4, iv p5, iv cap, iv S0, iv g, iv gg, iv d1, iv d2, iv m1, iv m2, iv bS, iv bM, iv ng, iv kk, iv ff, iv ch1, iv ch2, rv ad1, u_, u_, u_, u_, u_, u_, u_, u_, u_, u_, u_, u_, u_, u_, u_, u_, u_, u_, u_, u_, u_, u_] []) (fun t k => XS.ifNo X2.here hx rfl (hb hby at_175) rfl ((if0 _ _).trans (teq c175).2) k) ?_
              refine own_s T2 (mkF m 180 #[iv p0, iv p1, iv p2, iv p3, iv p4, iv p5, iv cap, iv S0, iv g, iv gg, iv d1, iv d2, iv m1, iv m2, iv bS, iv bM, iv ng, iv kk, iv ff, iv ch1, iv ch2, rv ad1, u_, u_, u_, u_, u_, u_, u_, u_, u_, u_, u_, u_, u_, u_, u_, u_, u_, u_, u_, u_, u_, u_] [.ref ad1]) (fun t k => XS.aload X2.here hx rfl (hb hby at_178) rfl rfl k) ?_
              refine own_s T2 (mkF m 181 #[iv p0, iv p1, iv p2, iv p3, iv p4, iv p5, iv cap, iv S0, iv g, iv gg, iv d1, iv d2, iv m1, iv m2, iv bS, iv bM, iv ng, iv kk, iv ff, iv ch1, iv ch2, rv ad1, u_, u_, u_, u_, u_, u_, u_, u_, u_, u_, u_, u_, u_, u_, u_, u_, u_, u_, u_, u_, u_, u_] [.int 1, .ref ad1]) (fun t k => XS.iconst X2.here hx rfl (hb hby at_180) k) ?_
              refine own_s T2 (mkF m 183 #[iv p0, iv p1, iv p2, iv p3, iv p4, iv p5, iv cap, iv S0, iv g, iv gg, iv d1, iv d2, iv m1, iv m2, iv bS, iv bM, iv ng, iv kk, iv ff, iv ch1, iv ch2, rv ad1, u_, u_, u_, u_, u_, u_, u_, u_, u_, u_, u_, u_, u_, u_, u_, u_, u_, u_, u_, u_, u_, u_] [.int ch1, .int 1, .ref ad1]) (fun t k => XS.iload X2.here hx rfl (hb hby at_181) rfl k) ?_
              obtain ⟨cl94, Ar94, qa94, S94, M94, H94, U94⟩ := id g3
              obtain ⟨T94, h94, X94, e94, W94, st94⟩ := stC X2 hx hZ e2 Ar94 (j := (1 : Int32)) (inb_of S94 ⟨by decide, by decide⟩) (g := (mkF m 183 #[iv p0, iv p1, iv p2, iv p3, iv p4, iv p5, iv cap, iv S0, iv g, iv gg, iv d1, iv d2, iv m1, iv m2, iv bS, iv bM, iv ng, iv kk, iv ff, iv ch1, iv ch2, rv ad1, u_, u_, u_, u_, u_, u_, u_, u_, u_, u_, u_, u_, u_, u_, u_, u_, u_, u_, u_, u_, u_, u_] [.int ch1, .int 1, .ref ad1])) rfl rfl (hb hby at_183)
              have g95 : Arv Z h94 ad1 k1 .char (4 : Int32) [(.int (nar .char sg0)), (.int (nar .char ch1)), (.int (0 : Int32)), (.int (0 : Int32))] (.int (0 : Int32)) := Arv.set Ar94 qa94 S94 M94 H94 U94 (fits_nar_char _) W94 1 rfl (Nat.le_of_ble_eq_true rfl)
              have N94 := Fr.snoc X94 N2 o1
              have Z94 : n0 ≤ h94.size := (Nat.le_trans Z2 (Nat.le_of_eq W94.size.symm))
              have O94 : Old Z n0 h94 := O2.wr W94 o1
              refine own_s T94 (mkF m 184 #[iv p0, iv p1, iv p2, iv p3, iv p4, iv p5, iv cap, iv S0, iv g, iv gg, iv d1, iv d2, iv m1, iv m2, iv bS, iv bM, iv ng, iv kk, iv ff, iv ch1, iv ch2, rv ad1, u_, u_, u_, u_, u_, u_, u_, u_, u_, u_, u_, u_, u_, u_, u_, u_, u_, u_, u_, u_, u_, u_] []) st94 ?_
              refine own_s T94 (mkF m 186 #[iv p0, iv p1, iv p2, iv p3, iv p4, iv p5, iv cap, iv S0, iv g, iv gg, iv d1, iv d2, iv m1, iv m2, iv bS, iv bM, iv ng, iv kk, iv ff, iv ch1, iv ch2, rv ad1, u_, u_, u_, u_, u_, u_, u_, u_, u_, u_, u_, u_, u_, u_, u_, u_, u_, u_, u_, u_, u_, u_] [.ref ad1]) (fun t k => XS.aload X94.here hx rfl (hb hby at_184) rfl rfl k) ?_
              refine own_s T94 (mkF m 187 #[iv p0, iv p1, iv p2, iv p3, iv p4, iv p5, iv cap, iv S0, iv g, iv gg, iv d1, iv d2, iv m1, iv m2, iv bS, iv bM, iv ng, iv kk, iv ff, iv ch1, iv ch2, rv ad1, u_, u_, u_, u_, u_, u_, u_, u_, u_, u_, u_, u_, u_, u_, u_, u_, u_, u_, u_, u_, u_, u_] [.int 2, .ref ad1]) (fun t k => XS.iconst X94.here hx rfl (hb hby at_186) k) ?_
              refine own_s T94 (mkF m 189 #[iv p0, iv p1, iv p2, iv p3, iv p4, iv p5, iv cap, iv S0, iv g, iv gg, iv d1, iv d2, iv m1, iv m2, iv bS, iv bM, iv ng, iv kk, iv ff, iv ch1, iv ch2, rv ad1, u_, u_, u_, u_, u_, u_, u_, u_, u_, u_, u_, u_, u_, u_, u_, u_, u_, u_, u_, u_, u_, u_] [.int ch2, .int 2, .ref ad1]) (fun t k => XS.iload X94.here hx rfl (hb hby at_187) rfl k) ?_
              obtain ⟨cl96, Ar96, qa96, S96, M96, H96, U96⟩ := id g95
              obtain ⟨T96, h96, X96, e96, W96, st96⟩ := stC X94 hx hZ e94 Ar96 (j := (2 : Int32)) (inb_of S96 ⟨by decide, by decide⟩) (g := (mkF m 189 #[iv p0, iv p1, iv p2, iv p3, iv p4, iv p5, iv cap, iv S0, iv g, iv gg, iv d1, iv d2, iv m1, iv m2, iv bS, iv bM, iv ng, iv kk, iv ff, iv ch1, iv ch2, rv ad1, u_, u_, u_, u_, u_, u_, u_, u_, u_, u_, u_, u_, u_, u_, u_, u_, u_, u_, u_, u_, u_, u_] [.int ch2, .int 2, .ref ad1])) rfl rfl (hb hby at_189)
              have g97 : Arv Z h96 ad1 k1 .char (4 : Int32) [(.int (nar .char sg0)), (.int (nar .char ch1)), (.int (nar .char ch2)), (.int (0 : Int32))] (.int (0 : Int32)) := Arv.set Ar96 qa96 S96 M96 H96 U96 (fits_nar_char _) W96 2 rfl (Nat.le_of_ble_eq_true rfl)
              have N96 := Fr.snoc X96 N94 o1
              have Z96 : n0 ≤ h96.size := (Nat.le_trans Z94 (Nat.le_of_eq W96.size.symm))
              have O96 : Old Z n0 h96 := O94.wr W96 o1
              refine own_s T96 (mkF m 190 #[iv p0, iv p1, iv p2, iv p3, iv p4, iv p5, iv cap, iv S0, iv g, iv gg, iv d1, iv d2, iv m1, iv m2, iv bS, iv bM, iv ng, iv kk, iv ff, iv ch1, iv ch2, rv ad1, u_, u_, u_, u_, u_, u_, u_, u_, u_, u_, u_, u_, u_, u_, u_, u_, u_, u_, u_, u_, u_, u_] []) st96 ?_
              refine own_s T96 (mkF m 192 #[iv p0, iv p1, iv p2, iv p3, iv p4, iv p5, iv cap, iv S0, iv g, iv gg, iv d1, iv d2, iv m1, iv m2, iv bS, iv bM, iv ng, iv kk, iv ff, iv ch1, iv ch2, rv ad1, u_, u_, u_, u_, u_, u_, u_, u_, u_, u_, u_, u_, u_, u_, u_, u_, u_, u_, u_, u_, u_, u_] [.ref ad1]) (fun t k => XS.aload X96.here hx rfl (hb hby at_190) rfl rfl k) ?_
              refine own_s T96 (mkF m 193 #[iv p0, iv p1, iv p2, iv p3, iv p4, iv p5, iv cap, iv S0, iv g, iv gg, iv d1, iv d2, iv m1, iv m2, iv bS, iv bM, iv ng, iv kk, iv ff, iv ch1, iv ch2, rv ad1, u_, u_, u_, u_, u_, u_, u_, u_, u_, u_, u_, u_, u_, u_, u_, u_, u_, u_, u_, u_, u_, u_] [.int 3, .ref ad1]) (fun t k => XS.iconst X96.here hx rfl (hb hby at_192) k) ?_
              refine own_s T96 (mkF m 195 #[iv p0, iv p1, iv p2, iv p3, iv p4, iv p5, iv cap, iv S0, iv g, iv gg, iv d1, iv d2, iv m1, iv m2, iv bS, iv bM, iv ng, iv kk, iv ff, iv ch1, iv ch2, rv ad1, u_, u_, u_, u_, u_, u_, u_, u_, u_, u_, u_, u_, u_, u_, u_, u_, u_, u_, u_, u_, u_, u_] [.int 48, .int 3, .ref ad1]) (fun t k => XS.bipush X96.here hx rfl (hb hby at_193) k) ?_
              obtain ⟨cl98, Ar98, qa98, S98, M98, H98, U98⟩ := id g97
              obtain ⟨T98, h98, X98, e98, W98, st98⟩ := stC X96 hx hZ e96 Ar98 (j := (3 : Int32)) (inb_of S98 ⟨by decide, by decide⟩) (g := (mkF m 195 #[iv p0, iv p1, iv p2, iv p3, iv p4, iv p5, iv cap, iv S0, iv g, iv gg, iv d1, iv d2, iv m1, iv m2, iv bS, iv bM, iv ng, iv kk, iv ff, iv ch1, iv ch2, rv ad1, u_, u_, u_, u_, u_, u_, u_, u_, u_, u_, u_, u_, u_, u_, u_, u_, u_, u_, u_, u_, u_, u_] [.int 48, .int 3, .ref ad1])) rfl rfl (hb hby at_195)
              have g99 : Arv Z h98 ad1 k1 .char (4 : Int32) [(.int (nar .char sg0)), (.int (nar .char ch1)), (.int (nar .char ch2)), (.int (nar .char (48 : Int32)))] (.int (0 : Int32)) := Arv.set Ar98 qa98 S98 M98 H98 U98 (fits_nar_char _) W98 3 rfl (Nat.le_of_ble_eq_true rfl)
              have N98 := Fr.snoc X98 N96 o1
              have Z98 : n0 ≤ h98.size := (Nat.le_trans Z96 (Nat.le_of_eq W98.size.symm))
              have O98 : Old Z n0 h98 := O96.wr W98 o1
              refine own_s T98 (mkF m 196 #[iv p0, iv p1, iv p2, iv p3, iv p4, iv p5, iv cap, iv S0, iv g, iv gg, iv d1, iv d2, iv m1, iv m2, iv bS, iv bM, iv ng, iv kk, iv ff, iv ch1, iv ch2, rv ad1, u_, u_, u_, u_, u_, u_, u_, u_, u_, u_, u_, u_, u_, u_, u_, u_, u_, u_, u_, u_, u_, u_] []) st98 ?_
              refine own_s T98 (mkF m 197 #[iv p0, iv p1, iv p2, iv p3, iv p4, iv p5, iv cap, iv S0, iv g, iv gg, iv d1, iv d2, iv m1, iv m2, iv bS, iv bM, iv ng, iv kk, iv ff, iv ch1, iv ch2, rv ad1, u_, u_, u_, u_, u_, u_, u_, u_, u_, u_, u_, u_, u_, u_, u_, u_, u_, u_, u_, u_, u_, u_] [.int 3]) (fun t k => XS.iconst X98.here hx rfl (hb hby at_196) k) ?_
              refine own_s T98 (mkF m 199 #[iv p0, iv p1, iv p2, iv p3, iv p4, iv p5, iv cap, iv S0, iv g, iv gg, iv d1, iv d2, iv m1, iv m2, iv bS, iv bM, iv ng, iv kk, iv ff, iv ch1, iv ch2, rv ad1, iv 3, u_, u_, u_, u_, u_, u_, u_, u_, u_, u_, u_, u_, u_, u_, u_, u_, u_, u_, u_, u_, u_] []) (fun t k => XS.istore X98.here hx rfl (hb hby at_197) rfl (l' := #[iv p0, iv p1, iv p2, iv p3, iv p4, iv p5, iv cap, iv S0, iv g, iv gg, iv d1, iv d2, iv m1, iv m2, iv bS, iv bM, iv ng, iv kk, iv ff, iv ch1, iv ch2, rv ad1, iv 3, u_, u_, u_, u_, u_, u_, u_, u_, u_, u_, u_, u_, u_, u_, u_, u_, u_, u_, u_, u_, u_]) rfl k) ?_
              refine own_s T98 (mkF m 200 #[iv p0, iv p1, iv p2, iv p3, iv p4, iv p5, iv cap, iv S0, iv g, iv gg, iv d1, iv d2, iv m1, iv m2, iv bS, iv bM, iv ng, iv kk, iv ff, iv ch1, iv ch2, rv ad1, iv 3, u_, u_, u_, u_, u_, u_, u_, u_, u_, u_, u_, u_, u_, u_, u_, u_, u_, u_, u_, u_, u_] [.int 0]) (fun t k => XS.iconst X98.here hx rfl (hb hby at_199) k) ?_
              refine own_s T98 (mkF m 202 #[iv p0, iv p1, iv p2, iv p3, iv p4, iv p5, iv cap, iv S0, iv g, iv gg, iv d1, iv d2, iv m1, iv m2, iv bS, iv bM, iv ng, iv kk, iv ff, iv ch1, iv ch2, rv ad1, iv 3, iv 0, u_, u_, u_, u_, u_, u_, u_, u_, u_, u_, u_, u_, u_, u_, u_, u_, u_, u_, u_, u_] []) (fun t k => XS.istore X98.here hx rfl (hb hby at_200) rfl (l' := #[iv p0, iv p1, iv p2, iv p3, iv p4, iv p5, iv cap, iv S0, iv g, iv gg, iv d1, iv d2, iv m1, iv m2, iv bS, iv bM, iv ng, iv kk, iv ff, iv ch1, iv ch2, rv ad1, iv 3, iv 0, u_, u_, u_, u_, u_, u_, u_, u_, u_, u_, u_, u_, u_, u_, u_, u_, u_, u_, u_, u_]) rfl k) ?_
              refine own_s T98 (mkF m 295 #[iv p0, iv p1, iv p2, iv p3, iv p4, iv p5, iv cap, iv S0, iv g, iv gg, iv d1, iv d2, iv m1, iv m2, iv bS, iv bM, iv ng, iv kk, iv ff, iv ch1, iv ch2, rv ad1, iv 3, iv 0, u_, u_, u_, u_, u_, u_, u_, u_, u_, u_, u_, u_, u_, u_, u_, u_, u_, u_, u_, u_] []) (fun t k => XS.goto X98.here hx rfl (pc0 := 202) (pc' := 295) rfl (hb hby at_202) (by decide) (by decide) k) ?_
              subst c175
              exact j295 (nar .char sg0) (nar .char ch1) (nar .char ch2) T98 h98 _ X98 e98 N98 Z98 O98 g99 hsg0 hy1 hy2
            · refine own_s T2 (mkF m 205 #[iv p0, iv p1, iv p2, iv p3, iv p4, iv p5, iv cap, iv S0, iv g, iv gg, iv d1, iv d2, iv m1, iv m2, iv bS, iv bM, iv ng, iv kk, iv ff, iv ch1, iv ch2, rv ad1, u_, u_, u_, u_, u_, u_, u_, u_, u_, u_, u_, u_, u_, u_, u_, u_, u_, u_, u_, u_, u_, u_] []) (fun t k => XS.ifYes X2.here hx rfl (pc0 := 175) (pc' := 205) rfl (hb hby at_175) rfl ((if0 _ _).trans (feq c175).2) (by decide) (by decide) k) ?_
              refine own_s T2 (mkF m 207 #[iv p0, iv p1, iv p2, iv p3, iv p4, iv p5, iv cap, iv S0, iv g, iv gg, iv d1, iv d2, iv m1, iv m2, iv bS, iv bM, iv ng, iv kk, iv ff, iv ch1, iv ch2, rv ad1, u_, u_, u_, u_, u_, u_, u_, u_, u_, u_, u_, u_, u_, u_, u_, u_, u_, u_, u_, u_, u_, u_] [.int kk]) (fun t k => XS.iload X2.here hx rfl (hb hby at_205) rfl k) ?_
              refine own_s T2 (mkF m 208 #[iv p0, iv p1, iv p2, iv p3, iv p4, iv p5, iv cap, iv S0, iv g, iv gg, iv d1, iv d2, iv m1, iv m2, iv bS, iv bM, iv ng, iv kk, iv ff, iv ch1, iv ch2, rv ad1, u_, u_, u_, u_, u_, u_, u_, u_, u_, u_, u_, u_, u_, u_, u_, u_, u_, u_, u_, u_, u_, u_] [.int 1, .int kk]) (fun t k => XS.iconst X2.here hx rfl (hb hby at_207) k) ?_
              by_cases c208 : kk = (1 : Int32)
              · refine own_s T2 (mkF m 211 #[iv p0, iv p1, iv p2, iv p3, iv p4, iv p5, iv cap, iv S0, iv g, iv gg, iv d1, iv d2, iv m1, iv m2, iv bS, iv bM, iv ng, iv kk, iv ff, iv ch1, iv ch2, rv ad1, u_, u_, u_, u_, u_, u_, u_, u_, u_, u_, u_, u_, u_, u_, u_, u_, u_, u_, u_, u_, u_, u_] []) (fun t k => XS.icmpNo X2.here hx rfl (hb hby at_208) rfl (teq c208).2 k) ?_
                refine own_s T2 (mkF m 213 #[iv p0, iv p1, iv p2, iv p3, iv p4, iv p5, iv cap, iv S0, iv g, iv gg, iv d1, iv d2, iv m1, iv m2, iv bS, iv bM, iv ng, iv kk, iv ff, iv ch1, iv ch2, rv ad1, u_, u_, u_, u_, u_, u_, u_, u_, u_, u_, u_, u_, u_, u_, u_, u_, u_, u_, u_, u_, u_, u_] [.ref ad1]) (fun t k => XS.aload X2.here hx rfl (hb hby at_211) rfl rfl k) ?_
                refine own_s T2 (mkF m 214 #[iv p0, iv p1, iv p2, iv p3, iv p4, iv p5, iv cap, iv S0, iv g, iv gg, iv d1, iv d2, iv m1, iv m2, iv bS, iv bM, iv ng, iv kk, iv ff, iv ch1, iv ch2, rv ad1, u_, u_, u_, u_, u_, u_, u_, u_, u_, u_, u_, u_, u_, u_, u_, u_, u_, u_, u_, u_, u_, u_] [.int 1, .ref ad1]) (fun t k => XS.iconst X2.here hx rfl (hb hby at_213) k) ?_
                refine own_s T2 (mkF m 216 #[iv p0, iv p1, iv p2, iv p3, iv p4, iv p5, iv cap, iv S0, iv g, iv gg, iv d1, iv d2, iv m1, iv m2, iv bS, iv bM, iv ng, iv kk, iv ff, iv ch1, iv ch2, rv ad1, u_, u_, u_, u_, u_, u_, u_, u_, u_, u_, u_, u_, u_, u_, u_, u_, u_, u_, u_, u_, u_, u_] [.int ch1, .int 1, .ref ad1]) (fun t k => XS.iload X2.here hx rfl (hb hby at_214) rfl k) ?_
                obtain ⟨cl100, Ar100, qa100, S100, M100, H100, U100⟩ := id g3
                obtain ⟨T100, h100, X100, e100, W100, st100⟩ := stC X2 hx hZ e2 Ar100 (j := (1 : Int32)) (inb_of S100 ⟨by decide, by decide⟩) (g := (mkF m 216 #[iv p0, iv p1, iv p2, iv p3, iv p4, iv p5, iv cap, iv S0, iv g, iv gg, iv d1, iv d2, iv m1, iv m2, iv bS, iv bM, iv ng, iv kk, iv ff, iv ch1, iv ch2, rv ad1, u_, u_, u_, u_, u_, u_, u_, u_, u_, u_, u_, u_, u_, u_, u_, u_, u_, u_, u_, u_, u_, u_] [.int ch1, .int 1, .ref ad1])) rfl rfl (hb hby at_216)
                have g101 : Arv Z h100 ad1 k1 .char (4 : Int32) [(.int (nar .char sg0)), (.int (nar .char ch1)), (.int (0 : Int32)), (.int (0 : Int32))] (.int (0 : Int32)) := Arv.set Ar100 qa100 S100 M100 H100 U100 (fits_nar_char _) W100 1 rfl (Nat.le_of_ble_eq_true rfl)
                have N100 := Fr.snoc X100 N2 o1
                have Z100 : n0 ≤ h100.size := (Nat.le_trans Z2 (Nat.le_of_eq W100.size.symm))
                have O100 : Old Z n0 h100 := O2.wr W100 o1
                refine own_s T100 (mkF m 217 #[iv p0, iv p1, iv p2, iv p3, iv p4, iv p5, iv cap, iv S0, iv g, iv gg, iv d1, iv d2, iv m1, iv m2, iv bS, iv bM, iv ng, iv kk, iv ff, iv ch1, iv ch2, rv ad1, u_, u_, u_, u_, u_, u_, u_, u_, u_, u_, u_, u_, u_, u_, u_, u_, u_, u_, u_, u_, u_, u_] []) st100 ?_
                refine own_s T100 (mkF m 219 #[iv p0, iv p1, iv p2, iv p3, iv p4, iv p5, iv cap, iv S0, iv g, iv gg, iv d1, iv d2, iv m1, iv m2, iv bS, iv bM, iv ng, iv kk, iv ff, iv ch1, iv ch2, rv ad1, u_, u_, u_, u_, u_, u_, u_, u_, u_, u_, u_, u_, u_, u_, u_, u_, u_, u_, u_, u_, u_, u_] [.ref ad1]) (fun t k => XS.aload X100.here hx rfl (hb hby at_217) rfl rfl k) ?_
                refine own_s T100 (mkF m 220 #[iv p0, iv p1, iv p2, iv p3, iv p4, iv p5, iv cap, iv S0, iv g, iv gg, iv d1, iv d2, iv m1, iv m2, iv bS, iv bM, iv ng, iv kk, iv ff, iv ch1, iv ch2, rv ad1, u_, u_, u_, u_, u_, u_, u_, u_, u_, u_, u_, u_, u_, u_, u_, u_, u_, u_, u_, u_, u_, u_] [.int 2, .ref ad1]) (fun t k => XS.iconst X100.here hx rfl (hb hby at_219) k) ?_
                refine own_s T100 (mkF m 222 #[iv p0, iv p1, iv p2, iv p3, iv p4, iv p5, iv cap, iv S0, iv g, iv gg, iv d1, iv d2, iv m1, iv m2, iv bS, iv bM, iv ng, iv kk, iv ff, iv ch1, iv ch2, rv ad1, u_, u_, u_, u_, u_, u_, u_, u_, u_, u_, u_, u_, u_, u_, u_, u_, u_, u_, u_, u_, u_, u_] [.int 46, .int 2, .ref ad1]) (fun t k => XS.bipush X100.here hx rfl (hb hby at_220) k) ?_
                obtain ⟨cl102, Ar102, qa102, S102, M102, H102, U102⟩ := id g101
                obtain ⟨T102, h102, X102, e102, W102, st102⟩ := stC X100 hx hZ e100 Ar102 (j := (2 : Int32)) (inb_of S102 ⟨by decide, by decide⟩) (g := (mkF m 222 #[iv p0, iv p1, iv p2, iv p3, iv p4, iv p5, iv cap, iv S0, iv g, iv gg, iv d1, iv d2, iv m1, iv m2, iv bS, iv bM, iv ng, iv kk, iv ff, iv ch1, iv ch2, rv ad1, u_, u_, u_, u_, u_, u_, u_, u_, u_, u_, u_, u_, u_, u_, u_, u_, u_, u_, u_, u_, u_, u_] [.int 46, .int 2, .ref ad1])) rfl rfl (hb hby at_222)
                have g103 : Arv Z h102 ad1 k1 .char (4 : Int32) [(.int (nar .char sg0)), (.int (nar .char ch1)), (.int (nar .char (46 : Int32))), (.int (0 : Int32))] (.int (0 : Int32)) := Arv.set Ar102 qa102 S102 M102 H102 U102 (fits_nar_char _) W102 2 rfl (Nat.le_of_ble_eq_true rfl)
                have N102 := Fr.snoc X102 N100 o1
                have Z102 : n0 ≤ h102.size := (Nat.le_trans Z100 (Nat.le_of_eq W102.size.symm))
                have O102 : Old Z n0 h102 := O100.wr W102 o1
                refine own_s T102 (mkF m 223 #[iv p0, iv p1, iv p2, iv p3, iv p4, iv p5, iv cap, iv S0, iv g, iv gg, iv d1, iv d2, iv m1, iv m2, iv bS, iv bM, iv ng, iv kk, iv ff, iv ch1, iv ch2, rv ad1, u_, u_, u_, u_, u_, u_, u_, u_, u_, u_, u_, u_, u_, u_, u_, u_, u_, u_, u_, u_, u_, u_] []) st102 ?_
                refine own_s T102 (mkF m 225 #[iv p0, iv p1, iv p2, iv p3, iv p4, iv p5, iv cap, iv S0, iv g, iv gg, iv d1, iv d2, iv m1, iv m2, iv bS, iv bM, iv ng, iv kk, iv ff, iv ch1, iv ch2, rv ad1, u_, u_, u_, u_, u_, u_, u_, u_, u_, u_, u_, u_, u_, u_, u_, u_, u_, u_, u_, u_, u_, u_] [.ref ad1]) (fun t k => XS.aload X102.here hx rfl (hb hby at_223) rfl rfl k) ?_
                refine own_s T102 (mkF m 226 #[iv p0, iv p1, iv p2, iv p3, iv p4, iv p5, iv cap, iv S0, iv g, iv gg, iv d1, iv d2, iv m1, iv m2, iv bS, iv bM, iv ng, iv kk, iv ff, iv ch1, iv ch2, rv ad1, u_, u_, u_, u_, u_, u_, u_, u_, u_, u_, u_, u_, u_, u_, u_, u_, u_, u_, u_, u_, u_, u_] [.int 3, .ref ad1]) (fun t k => XS.iconst X102.here hx rfl (hb hby at_225) k) ?_
                refine own_s T102 (mkF m 228 #[iv p0, iv p1, iv p2, iv p3, iv p4, iv p5, iv cap, iv S0, iv g, iv gg, iv d1, iv d2, iv m1, iv m2, iv bS, iv bM, iv ng, iv kk, iv ff, iv ch1, iv ch2, rv ad1, u_, u_, u_, u_, u_, u_, u_, u_, u_, u_, u_, u_, u_, u_, u_, u_, u_, u_, u_, u_, u_, u_] [.int ch2, .int 3, .ref ad1]) (fun t k => XS.iload X102.here hx rfl (hb hby at_226) rfl k) ?_
                obtain ⟨cl104, Ar104, qa104, S104, M104, H104, U104⟩ := id g103
                obtain ⟨T104, h104, X104, e104, W104, st104⟩ := stC X102 hx hZ e102 Ar104 (j := (3 : Int32)) (inb_of S104 ⟨by decide, by decide⟩) (g := (mkF m 228 #[iv p0, iv p1, iv p2, iv p3, iv p4, iv p5, iv cap, iv S0, iv g, iv gg, iv d1, iv d2, iv m1, iv m2, iv bS, iv bM, iv ng, iv kk, iv ff, iv ch1, iv ch2, rv ad1, u_, u_, u_, u_, u_, u_, u_, u_, u_, u_, u_, u_, u_, u_, u_, u_, u_, u_, u_, u_, u_, u_] [.int ch2, .int 3, .ref ad1])) rfl rfl (hb hby at_228)
                have g105 : Arv Z h104 ad1 k1 .char (4 : Int32) [(.int (nar .char sg0)), (.int (nar .char ch1)), (.int (nar .char (46 : Int32))), (.int (nar .char ch2))] (.int (0 : Int32)) := Arv.set Ar104 qa104 S104 M104 H104 U104 (fits_nar_char _) W104 3 rfl (Nat.le_of_ble_eq_true rfl)
                have N104 := Fr.snoc X104 N102 o1
                have Z104 : n0 ≤ h104.size := (Nat.le_trans Z102 (Nat.le_of_eq W104.size.symm))
                have O104 : Old Z n0 h104 := O102.wr W104 o1
                refine own_s T104 (mkF m 229 #[iv p0, iv p1, iv p2, iv p3, iv p4, iv p5, iv cap, iv S0, iv g, iv gg, iv d1, iv d2, iv m1, iv m2, iv bS, iv bM, iv ng, iv kk, iv ff, iv ch1, iv ch2, rv ad1, u_, u_, u_, u_, u_, u_, u_, u_, u_, u_, u_, u_, u_, u_, u_, u_, u_, u_, u_, u_, u_, u_] []) st104 ?_
                refine own_s T104 (mkF m 230 #[iv p0, iv p1, iv p2, iv p3, iv p4, iv p5, iv cap, iv S0, iv g, iv gg, iv d1, iv d2, iv m1, iv m2, iv bS, iv bM, iv ng, iv kk, iv ff, iv ch1, iv ch2, rv ad1, u_, u_, u_, u_, u_, u_, u_, u_, u_, u_, u_, u_, u_, u_, u_, u_, u_, u_, u_, u_, u_, u_] [.int 4]) (fun t k => XS.iconst X104.here hx rfl (hb hby at_229) k) ?_
                refine own_s T104 (mkF m 232 #[iv p0, iv p1, iv p2, iv p3, iv p4, iv p5, iv cap, iv S0, iv g, iv gg, iv d1, iv d2, iv m1, iv m2, iv bS, iv bM, iv ng, iv kk, iv ff, iv ch1, iv ch2, rv ad1, iv 4, u_, u_, u_, u_, u_, u_, u_, u_, u_, u_, u_, u_, u_, u_, u_, u_, u_, u_, u_, u_, u_] []) (fun t k => XS.istore X104.here hx rfl (hb hby at_230) rfl (l' := #[iv p0, iv p1, iv p2, iv p3, iv p4, iv p5, iv cap, iv S0, iv g, iv gg, iv d1, iv d2, iv m1, iv m2, iv bS, iv bM, iv ng, iv kk, iv ff, iv ch1, iv ch2, rv ad1, iv 4, u_, u_, u_, u_, u_, u_, u_, u_, u_, u_, u_, u_, u_, u_, u_, u_, u_, u_, u_, u_, u_]) rfl k) ?_
                refine own_s T104 (mkF m 233 #[iv p0, iv p1, iv p2, iv p3, iv p4, iv p5, iv cap, iv S0, iv g, iv gg, iv d1, iv d2, iv m1, iv m2, iv bS, iv bM, iv ng, iv kk, iv ff, iv ch1, iv ch2, rv ad1, iv 4, u_, u_, u_, u_, u_, u_, u_, u_, u_, u_, u_, u_, u_, u_, u_, u_, u_, u_, u_, u_, u_] [.int 1]) (fun t k => XS.iconst X104.here hx rfl (hb hby at_232) k) ?_
                refine own_s T104 (mkF m 235 #[iv p0, iv p1, iv p2, iv p3, iv p4, iv p5, iv cap, iv S0, iv g, iv gg, iv d1, iv d2, iv m1, iv m2, iv bS, iv bM, iv ng, iv kk, iv ff, iv ch1, iv ch2, rv ad1, iv 4, iv 1, u_, u_, u_, u_, u_, u_, u_, u_, u_, u_, u_, u_, u_, u_, u_, u_, u_, u_, u_, u_] []) (fun t k => XS.istore X104.here hx rfl (hb hby at_233) rfl (l' := #[iv p0, iv p1, iv p2, iv p3, iv p4, iv p5, iv cap, iv S0, iv g, iv gg, iv d1, iv d2, iv m1, iv m2, iv bS, iv bM, iv ng, iv kk, iv ff, iv ch1, iv ch2, rv ad1, iv 4, iv 1, u_, u_, u_, u_, u_, u_, u_, u_, u_, u_, u_, u_, u_, u_, u_, u_, u_, u_, u_, u_]) rfl k) ?_
                refine own_s T104 (mkF m 295 #[iv p0, iv p1, iv p2, iv p3, iv p4, iv p5, iv cap, iv S0, iv g, iv gg, iv d1, iv d2, iv m1, iv m2, iv bS, iv bM, iv ng, iv kk, iv ff, iv ch1, iv ch2, rv ad1, iv 4, iv 1, u_, u_, u_, u_, u_, u_, u_, u_, u_, u_, u_, u_, u_, u_, u_, u_, u_, u_, u_, u_] []) (fun t k => XS.goto X104.here hx rfl (pc0 := 235) (pc' := 295) rfl (hb hby at_235) (by decide) (by decide) k) ?_
                subst c208
                exact j295 (nar .char sg0) (nar .char ch1) (nar .char ch2) T104 h104 _ X104 e104 N104 Z104 O104 g105 hsg0 hy1 hy2
              · refine own_s T2 (mkF m 238 #[iv p0, iv p1, iv p2, iv p3, iv p4, iv p5, iv cap, iv S0, iv g, iv gg, iv d1, iv d2, iv m1, iv m2, iv bS, iv bM, iv ng, iv kk, iv ff, iv ch1, iv ch2, rv ad1, u_, u_, u_, u_, u_, u_, u_, u_, u_, u_, u_, u_, u_, u_, u_, u_, u_, u_, u_, u_, u_, u_] []) (fun t k => XS.icmpYes X2.here hx rfl (pc0 := 208) (pc' := 238) rfl (hb hby at_208) rfl (feq c208).2 (by decide) (by decide) k) ?_
                refine own_s T2 (mkF m 240 #[iv p0, iv p1, iv p2, iv p3, iv p4, iv p5, iv cap, iv S0, iv g, iv gg, iv d1, iv d2, iv m1, iv m2, iv bS, iv bM, iv ng, iv kk, iv ff, iv ch1, iv ch2, rv ad1, u_, u_, u_, u_, u_, u_, u_, u_, u_, u_, u_, u_, u_, u_, u_, u_, u_, u_, u_, u_, u_, u_] [.int kk]) (fun t k => XS.iload X2.here hx rfl (hb hby at_238) rfl k) ?_
                refine own_s T2 (mkF m 241 #[iv p0, iv p1, iv p2, iv p3, iv p4, iv p5, iv cap, iv S0, iv g, iv gg, iv d1, iv d2, iv m1, iv m2, iv bS, iv bM, iv ng, iv kk, iv ff, iv ch1, iv ch2, rv ad1, u_, u_, u_, u_, u_, u_, u_, u_, u_, u_, u_, u_, u_, u_, u_, u_, u_, u_, u_, u_, u_, u_] [.int 2, .int kk]) (fun t k => XS.iconst X2.here hx rfl (hb hby at_240) k) ?_
                by_cases c241 : kk = (2 : Int32)
                · refine own_s T2 (mkF m 244 #[iv p0, iv p1, iv p2, iv p3, iv p4, iv p5, iv cap, iv S0, iv g, iv gg, iv d1, iv d2, iv m1, iv m2, iv bS, iv bM, iv ng, iv kk, iv ff, iv ch1, iv ch2, rv ad1, u_, u_, u_, u_, u_, u_, u_, u_, u_, u_, u_, u_, u_, u_, u_, u_, u_, u_, u_, u_, u_, u_] []) (fun t k => XS.icmpNo X2.here hx rfl (hb hby at_241) rfl (teq c241).2 k) ?_
                  refine own_s T2 (mkF m 246 #[iv p0, iv p1, iv p2, iv p3, iv p4, iv p5, iv cap, iv S0, iv g, iv gg, iv d1, iv d2, iv m1, iv m2, iv bS, iv bM, iv ng, iv kk, iv ff, iv ch1, iv ch2, rv ad1, u_, u_, u_, u_, u_, u_, u_, u_, u_, u_, u_, u_, u_, u_, u_, u_, u_, u_, u_, u_, u_, u_] [.ref ad1]) (fun t k => XS.aload X2.here hx rfl (hb hby at_244) rfl rfl k) ?_
                  refine own_s T2 (mkF m 247 #[iv p0, iv p1, iv p2, iv p3, iv p4, iv p5, iv cap, iv S0, iv g, iv gg, iv d1, iv d2, iv m1, iv m2, iv bS, iv bM, iv ng, iv kk, iv ff, iv ch1, iv ch2, rv ad1, u_, u_, u_, u_, u_, u_, u_, u_, u_, u_, u_, u_, u_, u_, u_, u_, u_, u_, u_, u_, u_, u_] [.int 1, .ref ad1]) (fun t k => XS.iconst X2.here hx rfl (hb hby at_246) k) ?_
                  refine own_s T2 (mkF m 249 #[iv p0, iv p1, iv p2, iv p3, iv p4, iv p5, iv cap, iv S0, iv g, iv gg, iv d1, iv d2, iv m1, iv m2, iv bS, iv bM, iv ng, iv kk, iv ff, iv ch1, iv ch2, rv ad1, u_, u_, u_, u_, u_, u_, u_, u_, u_, u_, u_, u_, u_, u_, u_, u_, u_, u_, u_, u_, u_, u_] [.int 46, .int 1, .ref ad1]) (fun t k => XS.bipush X2.here hx rfl (hb hby at_247) k) ?_
                  obtain ⟨cl106, Ar106, qa106, S106, M106, H106, U106⟩ := id g3
                  obtain ⟨T106, h106, X106, e106, W106, st106⟩ := stC X2 hx hZ e2 Ar106 (j := (1 : Int32)) (inb_of S106 ⟨by decide, by decide⟩) (g := (mkF m 249 #[iv p0, iv p1, iv p2, iv p3, iv p4, iv p5, iv cap, iv S0, iv g, iv gg, iv d1, iv d2, iv m1, iv m2, iv bS, iv bM, iv ng, iv kk, iv ff, iv ch1, iv ch2, rv ad1, u_, u_, u_, u_, u_, u_, u_, u_, u_, u_, u_, u_, u_, u_, u_, u_, u_, u_, u_, u_, u_, u_] [.int 46, .int 1, .ref ad1])) rfl rfl (hb hby at_249)
                  have g107 : Arv Z h106 ad1 k1 .char (4 : Int32) [(.int (nar .char sg0)), (.int (nar .char (46 : Int32))), (.int (0 : Int32)), (.int (0 : Int32))] (.int (0 : Int32)) := Arv.set Ar106 qa106 S106 M106 H106 U106 (fits_nar_char _) W106 1 rfl (Nat.le_of_ble_eq_true rfl)
                  have N106 := Fr.snoc X106 N2 o1
                  have Z106 : n0 ≤ h106.size := (Nat.le_trans Z2 (Nat.le_of_eq W106.size.symm))
                  have O106 : Old Z n0 h106 := O2.wr W106 o1
                  refine own_s T106 (mkF m 250 #[iv p0, iv p1, iv p2, iv p3, iv p4, iv p5, iv cap, iv S0, iv g, iv gg, iv d1, iv d2, iv m1, iv m2, iv bS, iv bM, iv ng, iv kk, iv ff, iv ch1, iv ch2, rv ad1, u_, u_, u_, u_, u_, u_, u_, u_, u_, u_, u_, u_, u_, u_, u_, u_, u_, u_, u_, u_, u_, u_] []) st106 ?_
                  refine own_s T106 (mkF m 252 #[iv p0, iv p1, iv p2, iv p3, iv p4, iv p5, iv cap, iv S0, iv g, iv gg, iv d1, iv d2, iv m1, iv m2, iv bS, iv bM, iv ng, iv kk, iv ff, iv ch1, iv ch2, rv ad1, u_, u_, u_, u_, u_, u_, u_, u_, u_, u_, u_, u_, u_, u_, u_, u_, u_, u_, u_, u_, u_, u_] [.ref ad1]) (fun t k => XS.aload X106.here hx rfl (hb hby at_250) rfl rfl k) ?_
                  refine own_s T106 (mkF m 253 #[iv p0, iv p1, iv p2, iv p3, iv p4, iv p5, iv cap, iv S0, iv g, iv gg, iv d1, iv d2, iv m1, iv m2, iv bS, iv bM, iv ng, iv kk, iv ff, iv ch1, iv ch2, rv ad1, u_, u_, u_, u_, u_, u_, u_, u_, u_, u_, u_, u_, u_, u_, u_, u_, u_, u_, u_, u_, u_, u_] [.int 2, .ref ad1]) (fun t k => XS.iconst X106.here hx rfl (hb hby at_252) k) ?_
                  refine own_s T106 (mkF m 255 #[iv p0, iv p1, iv p2, iv p3, iv p4, iv p5, iv cap, iv S0, iv g, iv gg, iv d1, iv d2, iv m1, iv m2, iv bS, iv bM, iv ng, iv kk, iv ff, iv ch1, iv ch2, rv ad1, u_, u_, u_, u_, u_, u_, u_, u_, u_, u_, u_, u_, u_, u_, u_, u_, u_, u_, u_, u_, u_, u_] [.int ch1, .int 2, .ref ad1]) (fun t k => XS.iload X106.here hx rfl (hb hby at_253) rfl k) ?_
                  obtain ⟨cl108, Ar108, qa108, S108, M108, H108, U108⟩ := id g107
                  obtain ⟨T108, h108, X108, e108, W108, st108⟩ := stC X106 hx hZ e106 Ar108 (j := (2 : Int32)) (inb_of S108 ⟨by decide, by decide⟩) (g := (mkF m 255 #[iv p0, iv p1, iv p2, iv p3, iv p4, iv p5, iv cap, iv S0, iv g, iv gg, iv d1, iv d2, iv m1, iv m2, iv bS, iv bM, iv ng, iv kk, iv ff, iv ch1, iv ch2, rv ad1, u_, u_, u_, u_, u_, u_, u_, u_, u_, u_, u_, u_, u_, u_, u_, u_, u_, u_, u_, u_, u_, u_] [.int ch1, .int 2, .ref ad1])) rfl rfl (hb hby at_255)
                  have g109 : Arv Z h108 ad1 k1 .char (4 : Int32) [(.int (nar .char sg0)), (.int (nar .char (46 : Int32))), (.int (nar .char ch1)), (.int (0 : Int32))] (.int (0 : Int32)) := Arv.set Ar108 qa108 S108 M108 H108 U108 (fits_nar_char _) W108 2 rfl (Nat.le_of_ble_eq_true rfl)
                  have N108 := Fr.snoc X108 N106 o1
                  have Z108 : n0 ≤ h108.size := (Nat.le_trans Z106 (Nat.le_of_eq W108.size.symm))
                  have O108 : Old Z n0 h108 := O106.wr W108 o1
                  refine own_s T108 (mkF m 256 #[iv p0, iv p1, iv p2, iv p3, iv p4, iv p5, iv cap, iv S0, iv g, iv gg, iv d1, iv d2, iv m1, iv m2, iv bS, iv bM, iv ng, iv kk, iv ff, iv ch1, iv ch2, rv ad1, u_, u_, u_, u_, u_, u_, u_, u_, u_, u_, u_, u_, u_, u_, u_, u_, u_, u_, u_, u_, u_, u_] []) st108 ?_
                  refine own_s T108 (mkF m 258 #[iv p0, iv p1, iv p2, iv p3, iv p4, iv p5, iv cap, iv S0, iv g, iv gg, iv d1, iv d2, iv m1, iv m2, iv bS, iv bM, iv ng, iv kk, iv ff, iv ch1, iv ch2, rv ad1, u_, u_, u_, u_, u_, u_, u_, u_, u_, u_, u_, u_, u_, u_, u_, u_, u_, u_, u_, u_, u_, u_] [.ref ad1]) (fun t k => XS.aload X108.here hx rfl (hb hby at_256) rfl rfl k) ?_
                  refine own_s T108 (mkF m 259 #[iv p0, iv p1, iv p2, iv p3, iv p4, iv p5, iv cap, iv S0, iv g, iv gg, iv d1, iv d2, iv m1, iv m2, iv bS, iv bM, iv ng, iv kk, iv ff, iv ch1, iv ch2, rv ad1, u_, u_, u_, u_, u_, u_, u_, u_, u_, u_, u_, u_, u_, u_, u_, u_, u_, u_, u_, u_, u_, u_] [.int 3, .ref ad1]) (fun t k => XS.iconst X108.here hx rfl (hb hby at_258) k) ?_
                  refine own_s T108 (mkF m 261 #[iv p0, iv p1, iv p2, iv p3, iv p4, iv p5, iv cap, iv S0, iv g, iv gg, iv d1, iv d2, iv m1, iv m2, iv bS, iv bM, iv ng, iv kk, iv ff, iv ch1, iv ch2, rv ad1, u_, u_, u_, u_, u_, u_, u_, u_, u_, u_, u_, u_, u_, u_, u_, u_, u_, u_, u_, u_, u_, u_] [.int ch2, .int 3, .ref ad1]) (fun t k => XS.iload X108.here hx rfl (hb hby at_259) rfl k) ?_
                  obtain ⟨cl110, Ar110, qa110, S110, M110, H110, U110⟩ := id g109
                  obtain ⟨T110, h110, X110, e110, W110, st110⟩ := stC X108 hx hZ e108 Ar110 (j := (3 : Int32)) (inb_of S110 ⟨by decide, by decide⟩) (g := (mkF m 261 #[iv p0, iv p1, iv p2, iv p3, iv p4, iv p5, iv cap, iv S0, iv g, iv gg, iv d1, iv d2, iv m1, iv m2, iv bS, iv bM, iv ng, iv kk, iv ff, iv ch1, iv ch2, rv ad1, u_, u_, u_, u_, u_, u_, u_, u_, u_, u_, u_, u_, u_, u_, u_, u_, u_, u_, u_, u_, u_, u_] [.int ch2, .int 3, .ref ad1])) rfl rfl (hb hby at_261)
                  have g111 : Arv Z h110 ad1 k1 .char (4 : Int32) [(.int (nar .char sg0)), (.int (nar .char (46 : Int32))), (.int (nar .char ch1)), (.int (nar .char ch2))] (.int (0 : Int32)) := Arv.set Ar110 qa110 S110 M110 H110 U110 (fits_nar_char _) W110 3 rfl (Nat.le_of_ble_eq_true rfl)
                  have N110 := Fr.snoc X110 N108 o1
                  have Z110 : n0 ≤ h110.size := (Nat.le_trans Z108 (Nat.le_of_eq W110.size.symm))
                  have O110 : Old Z n0 h110 := O108.wr W110 o1
                  refine own_s T110 (mkF m 262 #[iv p0, iv p1, iv p2, iv p3, iv p4, iv p5, iv cap, iv S0, iv g, iv gg, iv d1, iv d2, iv m1, iv m2, iv bS, iv bM, iv ng, iv kk, iv ff, iv ch1, iv ch2, rv ad1, u_, u_, u_, u_, u_, u_, u_, u_, u_, u_, u_, u_, u_, u_, u_, u_, u_, u_, u_, u_, u_, u_] []) st110 ?_
                  refine own_s T110 (mkF m 263 #[iv p0, iv p1, iv p2, iv p3, iv p4, iv p5, iv cap, iv S0, iv g, iv gg, iv d1, iv d2, iv m1, iv m2, iv bS, iv bM, iv ng, iv kk, iv ff, iv ch1, iv ch2, rv ad1, u_, u_, u_, u_, u_, u_, u_, u_, u_, u_, u_, u_, u_, u_, u_, u_, u_, u_, u_, u_, u_, u_] [.int 4]) (fun t k => XS.iconst X110.here hx rfl (hb hby at_262) k) ?_
                  refine own_s T110 (mkF m 265 #[iv p0, iv p1, iv p2, iv p3, iv p4, iv p5, iv cap, iv S0, iv g, iv gg, iv d1, iv d2, iv m1, iv m2, iv bS, iv bM, iv ng, iv kk, iv ff, iv ch1, iv ch2, rv ad1, iv 4, u_, u_, u_, u_, u_, u_, u_, u_, u_, u_, u_, u_, u_, u_, u_, u_, u_, u_, u_, u_, u_] []) (fun t k => XS.istore X110.here hx rfl (hb hby at_263) rfl (l' := #[iv p0, iv p1, iv p2, iv p3, iv p4, iv p5, iv cap, iv S0, iv g, iv gg, iv d1, iv d2, iv m1, iv m2, iv bS, iv bM, iv ng, iv kk, iv ff, iv ch1, iv ch2, rv ad1, iv 4, u_, u_, u_, u_, u_, u_, u_, u_, u_, u_, u_, u_, u_, u_, u_, u_, u_, u_, u_, u_, u_]) rfl k) ?_
                  refine own_s T110 (mkF m 266 #[iv p0, iv p1, iv p2, iv p3, iv p4, iv p5, iv cap, iv S0, iv g, iv gg, iv d1, iv d2, iv m1, iv m2, iv bS, iv bM, iv ng, iv kk, iv ff, iv ch1, iv ch2, rv ad1, iv 4, u_, u_, u_, u_, u_, u_, u_, u_, u_, u_, u_, u_, u_, u_, u_, u_, u_, u_, u_, u_, u_] [.int 2]) (fun t k => XS.iconst X110.here hx rfl (hb hby at_265) k) ?_
                  refine own_s T110 (mkF m 268 #[iv p0, iv p1, iv p2, iv p3, iv p4, iv p5, iv cap, iv S0, iv g, iv gg, iv d1, iv d2, iv m1, iv m2, iv bS, iv bM, iv ng, iv kk, iv ff, iv ch1, iv ch2, rv ad1, iv 4, iv 2, u_, u_, u_, u_, u_, u_, u_, u_, u_, u_, u_, u_, u_, u_, u_, u_, u_, u_, u_, u_] []) (fun t k => XS.istore X110.here hx rfl (hb hby at_266) rfl (l' := #[iv p0, iv p1, iv p2, iv p3, iv p4, iv p5, iv cap, iv S0, iv g, iv gg, iv d1, iv d2, iv m1, iv m2, iv bS, iv bM, iv ng, iv kk, iv ff, iv ch1, iv ch2, rv ad1, iv 4, iv 2, u_, u_, u_, u_, u_, u_, u_, u_, u_, u_, u_, u_, u_, u_, u_, u_, u_, u_, u_, u_]) rfl k) ?_
                  refine own_s T110 (mkF m 295 #[iv p0, iv p1, iv p2, iv p3, iv p4, iv p5, iv cap, iv S0, iv g, iv gg, iv d1, iv d2, iv m1, iv m2, iv bS, iv bM, iv ng, iv kk, iv ff, iv ch1, iv ch2, rv ad1, iv 4, iv 2, u_, u_, u_, u_, u_, u_, u_, u_, u_, u_, u_, u_, u_, u_, u_, u_, u_, u_, u_, u_] []) (fun t k => XS.goto X110.here hx rfl (pc0 := 268) (pc' := 295) rfl (hb hby at_268) (by decide) (by decide) k) ?_
                  subst c241
                  exact j295 (nar .char sg0) (nar .char ch1) (nar .char ch2) T110 h110 _ X110 e110 N110 Z110 O110 g111 hsg0 hy1 hy2
                · refine own_s T2 (mkF m 271 #[iv p0, iv p1, iv p2, iv p3, iv p4, iv p5, iv cap, iv S0, iv g, iv gg, iv d1, iv d2, iv m1, iv m2, iv bS, iv bM, iv ng, iv kk, iv ff, iv ch1, iv ch2, rv ad1, u_, u_, u_, u_, u_, u_, u_, u_, u_, u_, u_, u_, u_, u_, u_, u_, u_, u_, u_, u_, u_, u_] []) (fun t k => XS.icmpYes X2.here hx rfl (pc0 := 241) (pc' := 271) rfl (hb hby at_241) rfl (feq c241).2 (by decide) (by decide) k) ?_
                  refine own_s T2 (mkF m 273 #[iv p0, iv p1, iv p2, iv p3, iv p4, iv p5, iv cap, iv S0, iv g, iv gg, iv d1, iv d2, iv m1, iv m2, iv bS, iv bM, iv ng, iv kk, iv ff, iv ch1, iv ch2, rv ad1, u_, u_, u_, u_, u_, u_, u_, u_, u_, u_, u_, u_, u_, u_, u_, u_, u_, u_, u_, u_, u_, u_] [.ref ad1]) (fun t k => XS.aload X2.here hx rfl (hb hby at_271) rfl rfl k) ?_
                  refine own_s T2 (mkF m 274 #[iv p0, iv p1, iv p2, iv p3, iv p4, iv p5, iv cap, iv S0, iv g, iv gg, iv d1, iv d2, iv m1, iv m2, iv bS, iv bM, iv ng, iv kk, iv ff, iv ch1, iv ch2, rv ad1, u_, u_, u_, u_, u_, u_, u_, u_, u_, u_, u_, u_, u_, u_, u_, u_, u_, u_, u_, u_, u_, u_] [.int 1, .ref ad1]) (fun t k => XS.iconst X2.here hx rfl (hb hby at_273) k) ?_
                  refine own_s T2 (mkF m 276 #[iv p0, iv p1, iv p2, iv p3, iv p4, iv p5, iv cap, iv S0, iv g, iv gg, iv d1, iv d2, iv m1, iv m2, iv bS, iv bM, iv ng, iv kk, iv ff, iv ch1, iv ch2, rv ad1, u_, u_, u_, u_, u_, u_, u_, u_, u_, u_, u_, u_, u_, u_, u_, u_, u_, u_, u_, u_, u_, u_] [.int ch1, .int 1, .ref ad1]) (fun t k => XS.iload X2.here hx rfl (hb hby at_274) rfl k) ?_
                  obtain ⟨cl112, Ar112, qa112, S112, M112, H112, U112⟩ := id g3
                  obtain ⟨T112, h112, X112, e112, W112, st112⟩ := stC X2 hx hZ e2 Ar112 (j := (1 : Int32)) (inb_of S112 ⟨by decide, by decide⟩) (g := (mkF m 276 #[iv p0, iv p1, iv p2, iv p3, iv p4, iv p5, iv cap, iv S0, iv g, iv gg, iv d1, iv d2, iv m1, iv m2, iv bS, iv bM, iv ng, iv kk, iv ff, iv ch1, iv ch2, rv ad1, u_, u_, u_, u_, u_, u_, u_, u_, u_, u_, u_, u_, u_, u_, u_, u_, u_, u_, u_, u_, u_, u_] [.int ch1, .int 1, .ref ad1])) rfl rfl (hb hby at_276)
                  have g113 : Arv Z h112 ad1 k1 .char (4 : Int32) [(.int (nar .char sg0)), (.int (nar .char ch1)), (.int (0 : Int32)), (.int (0 : Int32))] (.int (0 : Int32)) := Arv.set Ar112 qa112 S112 M112 H112 U112 (fits_nar_char _) W112 1 rfl (Nat.le_of_ble_eq_true rfl)
                  have N112 := Fr.snoc X112 N2 o1
                  have Z112 : n0 ≤ h112.size := (Nat.le_trans Z2 (Nat.le_of_eq W112.size.symm))
                  have O112 : Old Z n0 h112 := O2.wr W112 o1
                  refine own_s T112 (mkF m 277 #[iv p0, iv p1, iv p2, iv p3, iv p4, iv p5, iv cap, iv S0, iv g, iv gg, iv d1, iv d2, iv m1, iv m2, iv bS, iv bM, iv ng, iv kk, iv ff, iv ch1, iv ch2, rv ad1, u_, u_, u_, u_, u_, u_, u_, u_, u_, u_, u_, u_, u_, u_, u_, u_, u_, u_, u_, u_, u_, u_] []) st112 ?_
                  refine own_s T112 (mkF m 279 #[iv p0, iv p1, iv p2, iv p3, iv p4, iv p5, iv cap, iv S0, iv g, iv gg, iv d1, iv d2, iv m1, iv m2, iv bS, iv bM, iv ng, iv kk, iv ff, iv ch1, iv ch2, rv ad1, u_, u_, u_, u_, u_, u_, u_, u_, u_, u_, u_, u_, u_, u_, u_, u_, u_, u_, u_, u_, u_, u_] [.ref ad1]) (fun t k => XS.aload X112.here hx rfl (hb hby at_277) rfl rfl k) ?_
                  refine own_s T112 (mkF m 280 #[iv p0, iv p1, iv p2, iv p3, iv p4, iv p5, iv cap, iv S0, iv g, iv gg, iv d1, iv d2, iv m1, iv m2, iv bS, iv bM, iv ng, iv kk, iv ff, iv ch1, iv ch2, rv ad1, u_, u_, u_, u_, u_, u_, u_, u_, u_, u_, u_, u_, u_, u_, u_, u_, u_, u_, u_, u_, u_, u_] [.int 2, .ref ad1]) (fun t k => XS.iconst X112.here hx rfl (hb hby at_279) k) ?_
                  refine own_s T112 (mkF m 282 #[iv p0, iv p1, iv p2, iv p3, iv p4, iv p5, iv cap, iv S0, iv g, iv gg, iv d1, iv d2, iv m1, iv m2, iv bS, iv bM, iv ng, iv kk, iv ff, iv ch1, iv ch2, rv ad1, u_, u_, u_, u_, u_, u_, u_, u_, u_, u_, u_, u_, u_, u_, u_, u_, u_, u_, u_, u_, u_, u_] [.int ch2, .int 2, .ref ad1]) (fun t k => XS.iload X112.here hx rfl (hb hby at_280) rfl k) ?_
                  obtain ⟨cl114, Ar114, qa114, S114, M114, H114, U114⟩ := id g113
                  obtain ⟨T114, h114, X114, e114, W114, st114⟩ := stC X112 hx hZ e112 Ar114 (j := (2 : Int32)) (inb_of S114 ⟨by decide, by decide⟩) (g := (mkF m 282 #[iv p0, iv p1, iv p2, iv p3, iv p4, iv p5, iv cap, iv S0, iv g, iv gg, iv d1, iv d2, iv m1, iv m2, iv bS, iv bM, iv ng, iv kk, iv ff, iv ch1, iv ch2, rv ad1, u_, u_, u_, u_, u_, u_, u_, u_, u_, u_, u_, u_, u_, u_, u_, u_, u_, u_, u_, u_, u_, u_] [.int ch2, .int 2, .ref ad1])) rfl rfl (hb hby at_282)
                  have g115 : Arv Z h114 ad1 k1 .char (4 : Int32) [(.int (nar .char sg0)), (.int (nar .char ch1)), (.int (nar .char ch2)), (.int (0 : Int32))] (.int (0 : Int32)) := Arv.set Ar114 qa114 S114 M114 H114 U114 (fits_nar_char _) W114 2 rfl (Nat.le_of_ble_eq_true rfl)
                  have N114 := Fr.snoc X114 N112 o1
                  have Z114 : n0 ≤ h114.size := (Nat.le_trans Z112 (Nat.le_of_eq W114.size.symm))
                  have O114 : Old Z n0 h114 := O112.wr W114 o1
                  refine own_s T114 (mkF m 283 #[iv p0, iv p1, iv p2, iv p3, iv p4, iv p5, iv cap, iv S0, iv g, iv gg, iv d1, iv d2, iv m1, iv m2, iv bS, iv bM, iv ng, iv kk, iv ff, iv ch1, iv ch2, rv ad1, u_, u_, u_, u_, u_, u_, u_, u_, u_, u_, u_, u_, u_, u_, u_, u_, u_, u_, u_, u_, u_, u_] []) st114 ?_
                  refine own_s T114 (mkF m 285 #[iv p0, iv p1, iv p2, iv p3, iv p4, iv p5, iv cap, iv S0, iv g, iv gg, iv d1, iv d2, iv m1, iv m2, iv bS, iv bM, iv ng, iv kk, iv ff, iv ch1, iv ch2, rv ad1, u_, u_, u_, u_, u_, u_, u_, u_, u_, u_, u_, u_, u_, u_, u_, u_, u_, u_, u_, u_, u_, u_] [.ref ad1]) (fun t k => XS.aload X114.here hx rfl (hb hby at_283) rfl rfl k) ?_
                  refine own_s T114 (mkF m 286 #[iv p0, iv p1, iv p2, iv p3, iv p4, iv p5, iv cap, iv S0, iv g, iv gg, iv d1, iv d2, iv m1, iv m2, iv bS, iv bM, iv ng, iv kk, iv ff, iv ch1, iv ch2, rv ad1, u_, u_, u_, u_, u_, u_, u_, u_, u_, u_, u_, u_, u_, u_, u_, u_, u_, u_, u_, u_, u_, u_] [.int 3, .ref ad1]) (fun t k => XS.iconst X114.here hx rfl (hb hby at_285) k) ?_
                  refine own_s T114 (mkF m 288 #[iv p0, iv p1, iv p2, iv p3, iv p4, iv p5, iv cap, iv S0, iv g, iv gg, iv d1, iv d2, iv m1, iv m2, iv bS, iv bM, iv ng, iv kk, iv ff, iv ch1, iv ch2, rv ad1, u_, u_, u_, u_, u_, u_, u_, u_, u_, u_, u_, u_, u_, u_, u_, u_, u_, u_, u_, u_, u_, u_] [.int 46, .int 3, .ref ad1]) (fun t k => XS.bipush X114.here hx rfl (hb hby at_286) k) ?_
                  obtain ⟨cl116, Ar116, qa116, S116, M116, H116, U116⟩ := id g115
                  obtain ⟨T116, h116, X116, e116, W116, st116⟩ := stC X114 hx hZ e114 Ar116 (j := (3 : Int32)) (inb_of S116 ⟨by decide, by decide⟩) (g := (mkF m 288 #[iv p0, iv p1, iv p2, iv p3, iv p4, iv p5, iv cap, iv S0, iv g, iv gg, iv d1, iv d2, iv m1, iv m2, iv bS, iv bM, iv ng, iv kk, iv ff, iv ch1, iv ch2, rv ad1, u_, u_, u_, u_, u_, u_, u_, u_, u_, u_, u_, u_, u_, u_, u_, u_, u_, u_, u_, u_, u_, u_] [.int 46, .int 3, .ref ad1])) rfl rfl (hb hby at_288)
                  have g117 : Arv Z h116 ad1 k1 .char (4 : Int32) [(.int (nar .char sg0)), (.int (nar .char ch1)), (.int (nar .char ch2)), (.int (nar .char (46 : Int32)))] (.int (0 : Int32)) := Arv.set Ar116 qa116 S116 M116 H116 U116 (fits_nar_char _) W116 3 rfl (Nat.le_of_ble_eq_true rfl)
                  have N116 := Fr.snoc X116 N114 o1
                  have Z116 : n0 ≤ h116.size := (Nat.le_trans Z114 (Nat.le_of_eq W116.size.symm))
                  have O116 : Old Z n0 h116 := O114.wr W116 o1
                  refine own_s T116 (mkF m 289 #[iv p0, iv p1, iv p2, iv p3, iv p4, iv p5, iv cap, iv S0, iv g, iv gg, iv d1, iv d2, iv m1, iv m2, iv bS, iv bM, iv ng, iv kk, iv ff, iv ch1, iv ch2, rv ad1, u_, u_, u_, u_, u_, u_, u_, u_, u_, u_, u_, u_, u_, u_, u_, u_, u_, u_, u_, u_, u_, u_] []) st116 ?_
                  refine own_s T116 (mkF m 290 #[iv p0, iv p1, iv p2, iv p3, iv p4, iv p5, iv cap, iv S0, iv g, iv gg, iv d1, iv d2, iv m1, iv m2, iv bS, iv bM, iv ng, iv kk, iv ff, iv ch1, iv ch2, rv ad1, u_, u_, u_, u_, u_, u_, u_, u_, u_, u_, u_, u_, u_, u_, u_, u_, u_, u_, u_, u_, u_, u_] [.int 4]) (fun t k => XS.iconst X116.here hx rfl (hb hby at_289) k) ?_
                  refine own_s T116 (mkF m 292 #[iv p0, iv p1, iv p2, iv p3, iv p4, iv p5, iv cap, iv S0, iv g, iv gg, iv d1, iv d2, iv m1, iv m2, iv bS, iv bM, iv ng, iv kk, iv ff, iv ch1, iv ch2, rv ad1, iv 4, u_, u_, u_, u_, u_, u_, u_, u_, u_, u_, u_, u_, u_, u_, u_, u_, u_, u_, u_, u_, u_] []) (fun t k => XS.istore X116.here hx rfl (hb hby at_290) rfl (l' := #[iv p0, iv p1, iv p2, iv p3, iv p4, iv p5, iv cap, iv S0, iv g, iv gg, iv d1, iv d2, iv m1, iv m2, iv bS, iv bM, iv ng, iv kk, iv ff, iv ch1, iv ch2, rv ad1, iv 4, u_, u_, u_, u_, u_, u_, u_, u_, u_, u_, u_, u_, u_, u_, u_, u_, u_, u_, u_, u_, u_]) rfl k) ?_
                  refine own_s T116 (mkF m 293 #[iv p0, iv p1, iv p2, iv p3, iv p4, iv p5, iv cap, iv S0, iv g, iv gg, iv d1, iv d2, iv m1, iv m2, iv bS, iv bM, iv ng, iv kk, iv ff, iv ch1, iv ch2, rv ad1, iv 4, u_, u_, u_, u_, u_, u_, u_, u_, u_, u_, u_, u_, u_, u_, u_, u_, u_, u_, u_, u_, u_] [.int 0]) (fun t k => XS.iconst X116.here hx rfl (hb hby at_292) k) ?_
                  refine own_s T116 (mkF m 295 #[iv p0, iv p1, iv p2, iv p3, iv p4, iv p5, iv cap, iv S0, iv g, iv gg, iv d1, iv d2, iv m1, iv m2, iv bS, iv bM, iv ng, iv kk, iv ff, iv ch1, iv ch2, rv ad1, iv 4, iv 0, u_, u_, u_, u_, u_, u_, u_, u_, u_, u_, u_, u_, u_, u_, u_, u_, u_, u_, u_, u_] []) (fun t k => XS.istore X116.here hx rfl (hb hby at_293) rfl (l' := #[iv p0, iv p1, iv p2, iv p3, iv p4, iv p5, iv cap, iv S0, iv g, iv gg, iv d1, iv d2, iv m1, iv m2, iv bS, iv bM, iv ng, iv kk, iv ff, iv ch1, iv ch2, rv ad1, iv 4, iv 0, u_, u_, u_, u_, u_, u_, u_, u_, u_, u_, u_, u_, u_, u_, u_, u_, u_, u_, u_, u_]) rfl k) ?_
                  obtain rfl : kk = 3 := by
                    rcases hkk with q | q | q | q
                    · exact absurd q c175
                    · exact absurd q c208
                    · exact absurd q c241
                    · exact q
                  exact j295 (nar .char sg0) (nar .char ch1) (nar .char ch2) T116 h116 _ X116 e116 N116 Z116 O116 g117 hsg0 hy1 hy2
          by_cases c162 : bM = (0 : Int32)
          · refine own_s T1 (mkF m 170 #[iv p0, iv p1, iv p2, iv p3, iv p4, iv p5, iv cap, iv S0, iv g, iv gg, iv d1, iv d2, iv m1, iv m2, iv bS, iv bM, iv ng, iv kk, iv ff, iv ch1, iv ch2, rv ad1, u_, u_, u_, u_, u_, u_, u_, u_, u_, u_, u_, u_, u_, u_, u_, u_, u_, u_, u_, u_, u_, u_] [.int 0, .ref ad1]) (fun t k => XS.ifYes X1.here hx rfl (pc0 := 162) (pc' := 170) rfl (hb hby at_162) rfl ((if0 _ _).trans (teq c162).1) (by decide) (by decide) k) ?_
            refine own_s T1 (mkF m 172 #[iv p0, iv p1, iv p2, iv p3, iv p4, iv p5, iv cap, iv S0, iv g, iv gg, iv d1, iv d2, iv m1, iv m2, iv bS, iv bM, iv ng, iv kk, iv ff, iv ch1, iv ch2, rv ad1, u_, u_, u_, u_, u_, u_, u_, u_, u_, u_, u_, u_, u_, u_, u_, u_, u_, u_, u_, u_, u_, u_] [.int 43, .int 0, .ref ad1]) (fun t k => XS.bipush X1.here hx rfl (hb hby at_170) k) ?_
            exact j172 _ (Or.inr ⟨rfl, c162⟩)
          · refine own_s T1 (mkF m 165 #[iv p0, iv p1, iv p2, iv p3, iv p4, iv p5, iv cap, iv S0, iv g, iv gg, iv d1, iv d2, iv m1, iv m2, iv bS, iv bM, iv ng, iv kk, iv ff, iv ch1, iv ch2, rv ad1, u_, u_, u_, u_, u_, u_, u_, u_, u_, u_, u_, u_, u_, u_, u_, u_, u_, u_, u_, u_, u_, u_] [.int 0, .ref ad1]) (fun t k => XS.ifNo X1.here hx rfl (hb hby at_162) rfl ((if0 _ _).trans (feq c162).1) k) ?_
            refine own_s T1 (mkF m 167 #[iv p0, iv p1, iv p2, iv p3, iv p4, iv p5, iv cap, iv S0, iv g, iv gg, iv d1, iv d2, iv m1, iv m2, iv bS, iv bM, iv ng, iv kk, iv ff, iv ch1, iv ch2, rv ad1, u_, u_, u_, u_, u_, u_, u_, u_, u_, u_, u_, u_, u_, u_, u_, u_, u_, u_, u_, u_, u_, u_] [.int 45, .int 0, .ref ad1]) (fun t k => XS.bipush X1.here hx rfl (hb hby at_165) k) ?_
            refine own_s T1 (mkF m 172 #[iv p0, iv p1, iv p2, iv p3, iv p4, iv p5, iv cap, iv S0, iv g, iv gg, iv d1, iv d2, iv m1, iv m2, iv bS, iv bM, iv ng, iv kk, iv ff, iv ch1, iv ch2, rv ad1, u_, u_, u_, u_, u_, u_, u_, u_, u_, u_, u_, u_, u_, u_, u_, u_, u_, u_, u_, u_, u_, u_] [.int 45, .int 0, .ref ad1]) (fun t k => XS.goto X1.here hx rfl (pc0 := 167) (pc' := 172) rfl (hb hby at_167) (by decide) (by decide) k) ?_
            exact j172 _ (Or.inl ⟨rfl, c162⟩)
        by_cases c126 : (p5 &&& (16 : Int32)) = (0 : Int32)
        · refine own_s s₁ (mkF m 133 #[iv p0, iv p1, iv p2, iv p3, iv p4, iv p5, iv cap, iv S0, iv g, iv gg, iv d1, iv d2, iv m1, iv m2, iv bS, iv bM, iv ng, iv kk, u_, u_, u_, u_, u_, u_, u_, u_, u_, u_, u_, u_, u_, u_, u_, u_, u_, u_, u_, u_, u_, u_, u_, u_, u_, u_] []) (fun t k => XS.ifYes X0.here hx rfl (pc0 := 126) (pc' := 133) rfl (hb hby at_126) rfl ((if0 _ _).trans (teq c126).1) (by decide) (by decide) k) ?_
          refine own_s s₁ (mkF m 134 #[iv p0, iv p1, iv p2, iv p3, iv p4, iv p5, iv cap, iv S0, iv g, iv gg, iv d1, iv d2, iv m1, iv m2, iv bS, iv bM, iv ng, iv kk, u_, u_, u_, u_, u_, u_, u_, u_, u_, u_, u_, u_, u_, u_, u_, u_, u_, u_, u_, u_, u_, u_, u_, u_, u_, u_] [.int 0]) (fun t k => XS.iconst X0.here hx rfl (hb hby at_133) k) ?_
          exact j134 _ (Or.inl rfl)
        · refine own_s s₁ (mkF m 129 #[iv p0, iv p1, iv p2, iv p3, iv p4, iv p5, iv cap, iv S0, iv g, iv gg, iv d1, iv d2, iv m1, iv m2, iv bS, iv bM, iv ng, iv kk, u_, u_, u_, u_, u_, u_, u_, u_, u_, u_, u_, u_, u_, u_, u_, u_, u_, u_, u_, u_, u_, u_, u_, u_, u_, u_] []) (fun t k => XS.ifNo X0.here hx rfl (hb hby at_126) rfl ((if0 _ _).trans (feq c126).1) k) ?_
          refine own_s s₁ (mkF m 130 #[iv p0, iv p1, iv p2, iv p3, iv p4, iv p5, iv cap, iv S0, iv g, iv gg, iv d1, iv d2, iv m1, iv m2, iv bS, iv bM, iv ng, iv kk, u_, u_, u_, u_, u_, u_, u_, u_, u_, u_, u_, u_, u_, u_, u_, u_, u_, u_, u_, u_, u_, u_, u_, u_, u_, u_] [.int 1]) (fun t k => XS.iconst X0.here hx rfl (hb hby at_129) k) ?_
          refine own_s s₁ (mkF m 134 #[iv p0, iv p1, iv p2, iv p3, iv p4, iv p5, iv cap, iv S0, iv g, iv gg, iv d1, iv d2, iv m1, iv m2, iv bS, iv bM, iv ng, iv kk, u_, u_, u_, u_, u_, u_, u_, u_, u_, u_, u_, u_, u_, u_, u_, u_, u_, u_, u_, u_, u_, u_, u_, u_, u_, u_] [.int 1]) (fun t k => XS.goto X0.here hx rfl (pc0 := 130) (pc' := 134) rfl (hb hby at_130) (by decide) (by decide) k) ?_
          exact j134 _ (Or.inr rfl)
      by_cases c98 : bS = (0 : Int32)
      · refine own_s s₁ (mkF m 110 #[iv p0, iv p1, iv p2, iv p3, iv p4, iv p5, iv cap, iv S0, iv g, iv gg, iv d1, iv d2, iv m1, iv m2, iv bS, iv bM, u_, u_, u_, u_, u_, u_, u_, u_, u_, u_, u_, u_, u_, u_, u_, u_, u_, u_, u_, u_, u_, u_, u_, u_, u_, u_, u_, u_] []) (fun t k => XS.ifYes X0.here hx rfl (pc0 := 98) (pc' := 110) rfl (hb hby at_98) rfl ((if0 _ _).trans (teq c98).1) (by decide) (by decide) k) ?_
        refine own_s s₁ (mkF m 111 #[iv p0, iv p1, iv p2, iv p3, iv p4, iv p5, iv cap, iv S0, iv g, iv gg, iv d1, iv d2, iv m1, iv m2, iv bS, iv bM, u_, u_, u_, u_, u_, u_, u_, u_, u_, u_, u_, u_, u_, u_, u_, u_, u_, u_, u_, u_, u_, u_, u_, u_, u_, u_, u_, u_] [.int 0]) (fun t k => XS.iconst X0.here hx rfl (hb hby at_110) k) ?_
        exact j111 _ (Or.inr ⟨rfl, Or.inl c98⟩)
      · refine own_s s₁ (mkF m 101 #[iv p0, iv p1, iv p2, iv p3, iv p4, iv p5, iv cap, iv S0, iv g, iv gg, iv d1, iv d2, iv m1, iv m2, iv bS, iv bM, u_, u_, u_, u_, u_, u_, u_, u_, u_, u_, u_, u_, u_, u_, u_, u_, u_, u_, u_, u_, u_, u_, u_, u_, u_, u_, u_, u_] []) (fun t k => XS.ifNo X0.here hx rfl (hb hby at_98) rfl ((if0 _ _).trans (feq c98).1) k) ?_
        refine own_s s₁ (mkF m 103 #[iv p0, iv p1, iv p2, iv p3, iv p4, iv p5, iv cap, iv S0, iv g, iv gg, iv d1, iv d2, iv m1, iv m2, iv bS, iv bM, u_, u_, u_, u_, u_, u_, u_, u_, u_, u_, u_, u_, u_, u_, u_, u_, u_, u_, u_, u_, u_, u_, u_, u_, u_, u_, u_, u_] [.int bM]) (fun t k => XS.iload X0.here hx rfl (hb hby at_101) rfl k) ?_
        by_cases c103 : bM = (0 : Int32)
        · refine own_s s₁ (mkF m 110 #[iv p0, iv p1, iv p2, iv p3, iv p4, iv p5, iv cap, iv S0, iv g, iv gg, iv d1, iv d2, iv m1, iv m2, iv bS, iv bM, u_, u_, u_, u_, u_, u_, u_, u_, u_, u_, u_, u_, u_, u_, u_, u_, u_, u_, u_, u_, u_, u_, u_, u_, u_, u_, u_, u_] []) (fun t k => XS.ifYes X0.here hx rfl (pc0 := 103) (pc' := 110) rfl (hb hby at_103) rfl ((if0 _ _).trans (teq c103).1) (by decide) (by decide) k) ?_
          refine own_s s₁ (mkF m 111 #[iv p0, iv p1, iv p2, iv p3, iv p4, iv p5, iv cap, iv S0, iv g, iv gg, iv d1, iv d2, iv m1, iv m2, iv bS, iv bM, u_, u_, u_, u_, u_, u_, u_, u_, u_, u_, u_, u_, u_, u_, u_, u_, u_, u_, u_, u_, u_, u_, u_, u_, u_, u_, u_, u_] [.int 0]) (fun t k => XS.iconst X0.here hx rfl (hb hby at_110) k) ?_
          exact j111 _ (Or.inr ⟨rfl, Or.inr c103⟩)
        · refine own_s s₁ (mkF m 106 #[iv p0, iv p1, iv p2, iv p3, iv p4, iv p5, iv cap, iv S0, iv g, iv gg, iv d1, iv d2, iv m1, iv m2, iv bS, iv bM, u_, u_, u_, u_, u_, u_, u_, u_, u_, u_, u_, u_, u_, u_, u_, u_, u_, u_, u_, u_, u_, u_, u_, u_, u_, u_, u_, u_] []) (fun t k => XS.ifNo X0.here hx rfl (hb hby at_103) rfl ((if0 _ _).trans (feq c103).1) k) ?_
          refine own_s s₁ (mkF m 107 #[iv p0, iv p1, iv p2, iv p3, iv p4, iv p5, iv cap, iv S0, iv g, iv gg, iv d1, iv d2, iv m1, iv m2, iv bS, iv bM, u_, u_, u_, u_, u_, u_, u_, u_, u_, u_, u_, u_, u_, u_, u_, u_, u_, u_, u_, u_, u_, u_, u_, u_, u_, u_, u_, u_] [.int 1]) (fun t k => XS.iconst X0.here hx rfl (hb hby at_106) k) ?_
          refine own_s s₁ (mkF m 111 #[iv p0, iv p1, iv p2, iv p3, iv p4, iv p5, iv cap, iv S0, iv g, iv gg, iv d1, iv d2, iv m1, iv m2, iv bS, iv bM, u_, u_, u_, u_, u_, u_, u_, u_, u_, u_, u_, u_, u_, u_, u_, u_, u_, u_, u_, u_, u_, u_, u_, u_, u_, u_, u_, u_] [.int 1]) (fun t k => XS.goto X0.here hx rfl (pc0 := 107) (pc' := 111) rfl (hb hby at_107) (by decide) (by decide) k) ?_
          exact j111 _ (Or.inl ⟨rfl, c98, c103⟩)
    by_cases c86 : (p5 &&& (2 : Int32)) = (0 : Int32)
    · refine own_s s₁ (mkF m 93 #[iv p0, iv p1, iv p2, iv p3, iv p4, iv p5, iv cap, iv S0, iv g, iv gg, iv d1, iv d2, iv m1, iv m2, iv bS, u_, u_, u_, u_, u_, u_, u_, u_, u_, u_, u_, u_, u_, u_, u_, u_, u_, u_, u_, u_, u_, u_, u_, u_, u_, u_, u_, u_, u_] []) (fun t k => XS.ifYes X0.here hx rfl (pc0 := 86) (pc' := 93) rfl (hb hby at_86) rfl ((if0 _ _).trans (teq c86).1) (by decide) (by decide) k) ?_
      refine own_s s₁ (mkF m 94 #[iv p0, iv p1, iv p2, iv p3, iv p4, iv p5, iv cap, iv S0, iv g, iv gg, iv d1, iv d2, iv m1, iv m2, iv bS, u_, u_, u_, u_, u_, u_, u_, u_, u_, u_, u_, u_, u_, u_, u_, u_, u_, u_, u_, u_, u_, u_, u_, u_, u_, u_, u_, u_, u_] [.int 0]) (fun t k => XS.iconst X0.here hx rfl (hb hby at_93) k) ?_
      exact j94 _
    · refine own_s s₁ (mkF m 89 #[iv p0, iv p1, iv p2, iv p3, iv p4, iv p5, iv cap, iv S0, iv g, iv gg, iv d1, iv d2, iv m1, iv m2, iv bS, u_, u_, u_, u_, u_, u_, u_, u_, u_, u_, u_, u_, u_, u_, u_, u_, u_, u_, u_, u_, u_, u_, u_, u_, u_, u_, u_, u_, u_] []) (fun t k => XS.ifNo X0.here hx rfl (hb hby at_86) rfl ((if0 _ _).trans (feq c86).1) k) ?_
      refine own_s s₁ (mkF m 90 #[iv p0, iv p1, iv p2, iv p3, iv p4, iv p5, iv cap, iv S0, iv g, iv gg, iv d1, iv d2, iv m1, iv m2, iv bS, u_, u_, u_, u_, u_, u_, u_, u_, u_, u_, u_, u_, u_, u_, u_, u_, u_, u_, u_, u_, u_, u_, u_, u_, u_, u_, u_, u_, u_] [.int 1]) (fun t k => XS.iconst X0.here hx rfl (hb hby at_89) k) ?_
      refine own_s s₁ (mkF m 94 #[iv p0, iv p1, iv p2, iv p3, iv p4, iv p5, iv cap, iv S0, iv g, iv gg, iv d1, iv d2, iv m1, iv m2, iv bS, u_, u_, u_, u_, u_, u_, u_, u_, u_, u_, u_, u_, u_, u_, u_, u_, u_, u_, u_, u_, u_, u_, u_, u_, u_, u_, u_, u_, u_] [.int 1]) (fun t k => XS.goto X0.here hx rfl (pc0 := 90) (pc' := 94) rfl (hb hby at_90) (by decide) (by decide) k) ?_
      exact j94 _
  by_cases c72 : (p5 &&& (1 : Int32)) = (0 : Int32)
  · refine own_s s₁ (mkF m 79 #[iv p0, iv p1, iv p2, iv p3, iv p4, iv p5, iv cap, iv S0, iv g, iv gg, iv d1, iv d2, iv m1, iv m2, u_, u_, u_, u_, u_, u_, u_, u_, u_, u_, u_, u_, u_, u_, u_, u_, u_, u_, u_, u_, u_, u_, u_, u_, u_, u_, u_, u_, u_, u_] []) (fun t k => XS.ifYes X0.here hx rfl (pc0 := 72) (pc' := 79) rfl (hb hby at_72) rfl ((if0 _ _).trans (teq c72).1) (by decide) (by decide) k) ?_
    refine own_s s₁ (mkF m 80 #[iv p0, iv p1, iv p2, iv p3, iv p4, iv p5, iv cap, iv S0, iv g, iv gg, iv d1, iv d2, iv m1, iv m2, u_, u_, u_, u_, u_, u_, u_, u_, u_, u_, u_, u_, u_, u_, u_, u_, u_, u_, u_, u_, u_, u_, u_, u_, u_, u_, u_, u_, u_, u_] [.int 0]) (fun t k => XS.iconst X0.here hx rfl (hb hby at_79) k) ?_
    exact j80 _
  · refine own_s s₁ (mkF m 75 #[iv p0, iv p1, iv p2, iv p3, iv p4, iv p5, iv cap, iv S0, iv g, iv gg, iv d1, iv d2, iv m1, iv m2, u_, u_, u_, u_, u_, u_, u_, u_, u_, u_, u_, u_, u_, u_, u_, u_, u_, u_, u_, u_, u_, u_, u_, u_, u_, u_, u_, u_, u_, u_] []) (fun t k => XS.ifNo X0.here hx rfl (hb hby at_72) rfl ((if0 _ _).trans (feq c72).1) k) ?_
    refine own_s s₁ (mkF m 76 #[iv p0, iv p1, iv p2, iv p3, iv p4, iv p5, iv cap, iv S0, iv g, iv gg, iv d1, iv d2, iv m1, iv m2, u_, u_, u_, u_, u_, u_, u_, u_, u_, u_, u_, u_, u_, u_, u_, u_, u_, u_, u_, u_, u_, u_, u_, u_, u_, u_, u_, u_, u_, u_] [.int 1]) (fun t k => XS.iconst X0.here hx rfl (hb hby at_75) k) ?_
    refine own_s s₁ (mkF m 80 #[iv p0, iv p1, iv p2, iv p3, iv p4, iv p5, iv cap, iv S0, iv g, iv gg, iv d1, iv d2, iv m1, iv m2, u_, u_, u_, u_, u_, u_, u_, u_, u_, u_, u_, u_, u_, u_, u_, u_, u_, u_, u_, u_, u_, u_, u_, u_, u_, u_, u_, u_, u_, u_] [.int 1]) (fun t k => XS.goto X0.here hx rfl (pc0 := 76) (pc' := 80) rfl (hb hby at_76) (by decide) (by decide) k) ?_
    exact j80 _
set_option maxRecDepth 65536 in
set_option maxHeartbeats 40000000 in
theorem comes_1 {Post : Tables → Env → Array Value → State → Outcome → State → Prop} (hpost : ∀ tb e args s v u, (limb_1_1.after args s (.returned v) u = true ∧ limb_1_2.after args s (.returned v) u = true ∧ True) → FrameEnd s (.returned v) u (Jvm.fieldLocs frame_1_writes args s ++ Jvm.arrayLocs frame_1_arrays args s ++ Jvm.staticLocs frame_1_statics s) 24 128 → Post tb e args s (.returned v) u) :
    ArmFor flags0 classFile x code maxLocals ret World_1 tables_1 room_1 Calls_1 rest_1 Pre_1 Post := by
  intro l hfl _ _ p e ha hc hk s m args below hf hA hF happ hP
  obtain ⟨hcalls, hrest, hpre⟩ := hP
  obtain ⟨-, -, -, hnamed, -, -, -, hat⟩ := (Spec.applies_iff hf).mp happ
  obtain ⟨hg, hn⟩ := and_e (Cond.before_iff.mp (show (Jvm.Cond.and given_1 narrow_1).before args s = true from hpre))
  obtain ⟨hc0, hg0⟩ := and_e hg
  obtain ⟨hc1, hg1⟩ := and_e hg0
  obtain ⟨hc2, hg2⟩ := and_e hg1
  obtain ⟨hc3, hg3⟩ := and_e hg2
  obtain ⟨hc4, hg4⟩ := and_e hg3
  obtain ⟨hc5, hg5⟩ := and_e hg4
  obtain ⟨w0, w1, w2, w3, w4, w5, rfl⟩ : ∃ w0 w1 w2 w3 w4 w5 : Value, args = #[w0, w1, w2, w3, w4, w5] := by
    have hs : args.size = 6 := by simpa [Cond.value, given_1] using hc0
    obtain ⟨L⟩ := args
    match L, hs with
    | [w0, w1, w2, w3, w4, w5], _ => exact ⟨w0, w1, w2, w3, w4, w5, rfl⟩
  have hw := fun d (hd : d ∈ tables_1) => atoms_spec (ws := Jvm.Cond.code x code maxLocals ret :: tables_1) hat d (List.mem_cons_of_mem _ hd)
  have hfit : Fit s := fun {y c} hc i hi => by
    obtain ⟨ha, rfl⟩ := Array.getElem?_eq_some_iff.mp hc
    have q := List.all_eq_true.mp ((Array.all_eq_true_iff_forall_mem.mp hF) _ (Array.getElem_mem ha)) i (List.mem_range.mpr hi)
    simpa [Array.getElem?_eq_getElem hi] using q
  obtain ⟨i0, ev0⟩ := is_v hc1
  obtain rfl : w0 = (.int i0) := Option.some.inj ev0
  obtain ⟨i1, ev1⟩ := is_v hc2
  obtain rfl : w1 = (.int i1) := Option.some.inj ev1
  obtain ⟨i2, ev2⟩ := is_v hc3
  obtain rfl : w2 = (.int i2) := Option.some.inj ev2
  obtain ⟨i3, ev3⟩ := is_v hc4
  obtain rfl : w3 = (.int i3) := Option.some.inj ev3
  obtain ⟨i4, ev4⟩ := is_v hc5
  obtain rfl : w4 = (.int i4) := Option.some.inj ev4
  obtain ⟨i5, ev5⟩ := is_v hg5
  obtain rfl : w5 = (.int i5) := Option.some.inj ev5
  obtain ⟨na0, nr0⟩ := and_e hn
  obtain ⟨na1, nr1⟩ := and_e nr0
  obtain ⟨ne0, nr2⟩ := and_e nr1
  obtain ⟨ne1, nr3⟩ := and_e nr2
  obtain ⟨ne2, nr4⟩ := and_e nr3
  obtain ⟨ne3, nr5⟩ := and_e nr4
  obtain ⟨ne4, nr6⟩ := and_e nr5
  obtain ⟨ne5, nr7⟩ := and_e nr6
  obtain ⟨ne6, nr8⟩ := and_e nr7
  obtain ⟨ne7, nr9⟩ := and_e nr8
  obtain ⟨ne8, nr10⟩ := and_e nr9
  obtain ⟨ne9, nr11⟩ := and_e nr10
  obtain ⟨ne10, nr12⟩ := and_e nr11
  obtain ⟨ne11, nr13⟩ := and_e nr12
  obtain ⟨ne12, nr14⟩ := and_e nr13
  obtain ⟨ne13, nr15⟩ := and_e nr14
  obtain ⟨ne14, nr16⟩ := and_e nr15
  obtain ⟨ne15, nr17⟩ := and_e nr16
  obtain ⟨ne16, nr18⟩ := and_e nr17
  obtain ⟨ne17, nr19⟩ := and_e nr18
  have ne18 := nr19
  obtain ⟨ar, evA⟩ := arr_v na0
  have S_p : Sta s s.heap "com/example/viewlattice/viewlattice/engine/DecimalSums" "POWERS_OF_TEN" "[J" (.ref ar) := Sta.start evA (Or.inr ⟨(hw _ (List.mem_of_getElem? (i := 4) rfl)), (hw _ (List.mem_of_getElem? (i := 44) rfl))⟩)
  obtain ⟨ca, Aa⟩ := Arr.start evA na0
  have ln := own_eqI na1
  obtain ⟨lx, ly, l1, l2, l3, l4⟩ := Jvm.Free.SB.Term.length_small ln
  obtain rfl : lx = ar := Value.ref.inj (Option.some.inj (l1.symm.trans evA))
  obtain rfl : ly = ca := Option.some.inj (l2.symm.trans (Arr.fin (Vm.Alike.refl _) Aa))
  have hL : HasL ly 0 own_pw := ⟨(elem_in (own_eqL ne0) evA rfl Aa.1).2, (elem_in (own_eqL ne1) evA rfl Aa.1).2, (elem_in (own_eqL ne2) evA rfl Aa.1).2, (elem_in (own_eqL ne3) evA rfl Aa.1).2, (elem_in (own_eqL ne4) evA rfl Aa.1).2, (elem_in (own_eqL ne5) evA rfl Aa.1).2, (elem_in (own_eqL ne6) evA rfl Aa.1).2, (elem_in (own_eqL ne7) evA rfl Aa.1).2, (elem_in (own_eqL ne8) evA rfl Aa.1).2, (elem_in (own_eqL ne9) evA rfl Aa.1).2, (elem_in (own_eqL ne10) evA rfl Aa.1).2, (elem_in (own_eqL ne11) evA rfl Aa.1).2, (elem_in (own_eqL ne12) evA rfl Aa.1).2, (elem_in (own_eqL ne13) evA rfl Aa.1).2, (elem_in (own_eqL ne14) evA rfl Aa.1).2, (elem_in (own_eqL ne15) evA rfl Aa.1).2, (elem_in (own_eqL ne16) evA rfl Aa.1).2, (elem_in (own_eqL ne17) evA rfl Aa.1).2, (elem_in (own_eqL ne18) evA rfl Aa.1).2, trivial⟩
  have V_p : Arv s s.heap lx ly.cls .long (19 : Int32) own_pw (.long (0 : Int64)) := Arv.start hfit Aa l4 (Value.int.inj l3).symm (by decide) rfl hL
  obtain ⟨n, o, h1, h2, h3, _, L, rfl, ⟨rfl, N⟩, hq⟩ := rm_law l s _ hw tables_1 i0 i1 i2 i3 i4 i5 lx ly.cls s.heap s.heap.size (Nat.le_refl _) (Old.start s) S_p V_p p e ha hc hk s m _ below hf ((Spec.applies_iff_loose hf).mp happ).1 ⟨rfl, State.Warmed39.refl s, rfl⟩ trivial
  refine ⟨n, _, h1, h2, h3, hpost _ _ _ _ _ _ ⟨Cond.after_iff.mpr rfl, Cond.after_iff.mpr (eq_i res_at (Term.int_eval (1)) rfl), trivial⟩ ⟨hq.1, hq.2.1, (hq.2.2.sift fun y hy => Or.inr (N y hy)).mono (by decide) (by decide)⟩⟩
theorem main_1_1 : Claimed_1_1 := comes_1 fun _ _ _ _ _ _ h hF => ⟨h.1, hF⟩
theorem main_1_2 : Claimed_1_2 := comes_1 fun _ _ _ _ _ _ h hF => ⟨h.2.1, hF⟩

end Jvm.Pilot.@@N@@
namespace Jvm.Pilot.@@N@@
open Jvm Jvm.ClassFile Sem Op Lib Jvm.Free Jvm.Stand Jvm.Pilot.@@N@@.Jvm.D
/-! MADE BY PROGRAM (witnessworld.py) out of the Statement's table words and the real class files: 14 classes; the members and pool entries that the words name. The judged class is class 1, her method 1. -/
namespace start1
open Jvm.ClassFile
def u (s : String) : CpInfo := .utf8 (stringToUtf16 s)
/-- a pool by its gaps: so many unusable entries, then the entry; so many at the end -/
def gap : Nat → List CpInfo → List CpInfo
  | 0, r => r
  | n + 1, r => .unusable :: gap n r
def poolList (es : List (Nat × CpInfo)) (last : Nat) : List CpInfo := es.foldr (fun e r => gap e.1 (e.2 :: r)) (gap last [])
def pool (es : List (Nat × CpInfo)) (last : Nat) : Array CpInfo := ⟨poolList es last⟩
def fileOf (pool : Array CpInfo) (this : Nat) (attrs : Array Attribute := #[]) (ms : Array MethodInfo := #[]) (fl : Nat := 33) (sup : Nat := 0) (ifs : Array Nat := #[]) (fds : Array FieldInfo := #[]) : ClassFile where
  minorVersion := 0
  majorVersion := 65
  constantPool := pool
  accessFlags := fl
  thisClass := this
  superClass := sup
  interfaces := ifs
  fields := fds
  methods := ms
  attributes := attrs
def plain (name : String) (sup : Option ClassId) : Class where
  name := name
  kind := .ordinary
  loader := none
  accessFlags := 33
  super := sup
  interfaces := #[]
  cf := none
  fields := #[]
  methods := #[]
  instanceTypes := #[]
  staticTypes := #[]
  resolved := #[]
  callSites := []
  init := .initialized
  statics := none
  mirror := none

def pool0 : Array CpInfo := pool [(5, u "<init>"), (0, u "()V"), (1, .class_ 10), (1, u "java/lang/Object")] 113

def k0c0 : Code := { maxStack := 0, maxLocals := 1, code := object_method_1_code, exceptionTable := #[], attributes := #[] }
def k0m0 : Method := { name := "<init>", desc := "()V", sig := { parameters := [], returnType := none }, accessFlags := 1, code := some k0c0 }
/-- java/lang/Object -/
def k0 : Class := { plain "java/lang/Object" none with
  accessFlags := 33
  interfaces := #[]
  cf := some (fileOf pool0 8 #[] #[{ accessFlags := 1, nameIndex := 5, descriptorIndex := 6, attributes := #[] }] 33 0 #[] #[])
  fields := #[]
  methods := #[k0m0]
  instanceTypes := #[]
  staticTypes := #[]
  resolved := Array.replicate 124 none
  statics := none }

def pool1 : Array CpInfo := pool [(2, .class_ 4), (1, u "java/lang/Object"), (0, u "<init>"), (0, u "()V"), (0, .integer 2147483647), (0, .class_ 9), (0, u "com/example/viewlattice/viewlattice/engine/DecimalSums"), (0, .methodref 8 11), (0, .nameAndType 5 12), (0, u "(II)V"), (0, .methodref 8 14), (0, .nameAndType 15 16), (0, u "getUnscaledLongs"), (0, u "()[J"), (0, .methodref 18 19), (0, .class_ 20), (0, .nameAndType 21 22), (0, u "com/example/viewlattice/viewlattice/engine/DecimalSumsGetUnscaledLongsPinLaw"), (0, u "cell"), (0, u "([JIIIIJJ)Z"), (0, .methodref 8 24), (0, .nameAndType 25 26), (0, u "add"), (0, u "(I[CII)Z"), (0, .long 10), (1, .methodref 30 31), (0, .class_ 32), (0, .nameAndType 33 34), (0, u "java/lang/Math"), (0, u "max"), (0, u "(II)I"), (0, .methodref 18 36), (0, .nameAndType 37 38), (0, u "pow10"), (0, u "(I)J"), (0, .methodref 8 40), (0, .nameAndType 41 42), (0, u "getScale"), (0, u "()I"), (0, .long 100), (1, .long 1000), (3, u "law"), (0, u "(IIIIII)Z")] 7

def k1m0 : Method := { name := "<init>", desc := "()V", sig := { parameters := [], returnType := none }, accessFlags := 1, code := none }
def k1c1 : Code := { maxStack := 9, maxLocals := 44, code := code, exceptionTable := #[], attributes := #[] }
def k1m1 : Method := { name := "law", desc := "(IIIIII)Z", sig := { parameters := [.int, .int, .int, .int, .int, .int], returnType := some .boolean }, accessFlags := 9, code := some k1c1 }
def k1c2 : Code := { maxStack := 4, maxLocals := 11, code := method_3_code, exceptionTable := #[], attributes := #[] }
def k1m2 : Method := { name := "cell", desc := "([JIIIIJJ)Z", sig := { parameters := [(.array .long), .int, .int, .int, .int, .long, .long], returnType := some .boolean }, accessFlags := 10, code := some k1c2 }
def k1c3 : Code := { maxStack := 2, maxLocals := 1, code := method_4_code, exceptionTable := #[], attributes := #[] }
def k1m3 : Method := { name := "pow10", desc := "(I)J", sig := { parameters := [.int], returnType := some .long }, accessFlags := 10, code := some k1c3 }
/-- com/example/viewlattice/viewlattice/engine/DecimalSumsGetUnscaledLongsPinLaw -/
def k1 : Class := { plain "com/example/viewlattice/viewlattice/engine/DecimalSumsGetUnscaledLongsPinLaw" (some 0) with
  accessFlags := 49
  interfaces := #[]
  cf := some (fileOf pool1 18 #[] #[{ accessFlags := 1, nameIndex := 5, descriptorIndex := 6, attributes := #[] }, { accessFlags := 9, nameIndex := 49, descriptorIndex := 50, attributes := #[] }, { accessFlags := 10, nameIndex := 21, descriptorIndex := 22, attributes := #[] }, { accessFlags := 10, nameIndex := 37, descriptorIndex := 38, attributes := #[] }] 49 2 #[] #[])
  fields := #[]
  methods := #[k1m0, k1m1, k1m2, k1m3]
  instanceTypes := #[]
  staticTypes := #[]
  resolved := Array.replicate 58 none
  statics := none }

def pool2 : Array CpInfo := pool [(1, .methodref 2 3), (0, .class_ 4), (0, .nameAndType 5 6), (0, u "java/lang/Object"), (0, u "<init>"), (0, u "()V"), (0, .fieldref 8 9), (0, .class_ 10), (0, .nameAndType 11 12), (0, u "com/example/viewlattice/viewlattice/engine/DecimalSums"), (0, u "small"), (0, u "[J"), (0, .fieldref 8 14), (0, .nameAndType 15 16), (0, u "scale"), (0, u "I"), (0, .fieldref 8 18), (0, .nameAndType 19 20), (0, u "big"), (0, u "[Ljava/math/BigInteger;"), (54, .long 10), (1, .methodref 78 79), (0, .class_ 80), (0, .nameAndType 81 82), (0, u "java/lang/Math"), (0, u "max"), (0, u "(II)I"), (9, u "addUnscaled"), (1, .methodref 8 95), (0, .nameAndType 92 96), (0, u "(IJI)V"), (2, .methodref 78 100), (0, .nameAndType 101 102), (0, u "addExact"), (0, u "(JJ)J"), (16, .methodref 8 120), (0, .nameAndType 121 122), (0, u "raiseScale"), (0, u "(I)V"), (0, .fieldref 8 124), (0, .nameAndType 125 12), (0, u "POWERS_OF_TEN"), (0, .methodref 78 127), (0, .nameAndType 128 102), (0, u "multiplyExact"), (12, u "add"), (0, u "LONG_DIGITS"), (2, u "(II)V"), (5, u "getScale"), (0, u "()I"), (2, u "getUnscaledLongs"), (0, u "()[J"), (7, u "(I[CII)Z")] 22

def k2c0 : Code := { maxStack := 2, maxLocals := 3, code := prog_40_method_1_code, exceptionTable := #[], attributes := #[] }
def k2m0 : Method := { name := "<init>", desc := "(II)V", sig := { parameters := [.int, .int], returnType := none }, accessFlags := 0, code := some k2c0 }
def k2c1 : Code := { maxStack := 1, maxLocals := 1, code := prog_40_method_3_code, exceptionTable := #[], attributes := #[] }
def k2m1 : Method := { name := "getScale", desc := "()I", sig := { parameters := [], returnType := some .int }, accessFlags := 0, code := some k2c1 }
def k2c2 : Code := { maxStack := 3, maxLocals := 1, code := prog_40_method_5_code, exceptionTable := #[], attributes := #[] }
def k2m2 : Method := { name := "getUnscaledLongs", desc := "()[J", sig := { parameters := [], returnType := some (.array .long) }, accessFlags := 0, code := some k2c2 }
def k2c3 : Code := { maxStack := 8, maxLocals := 12, code := prog_40_method_11_code, exceptionTable := #[], attributes := #[] }
def k2m3 : Method := { name := "add", desc := "(I[CII)Z", sig := { parameters := [.int, (.array .char), .int, .int], returnType := some .boolean }, accessFlags := 0, code := some k2c3 }
def k2c4 : Code := { maxStack := 6, maxLocals := 8, code := prog_40_method_14_code, exceptionTable := #[{ startPc := 31, endPc := 60, handlerPc := 61, catchType := 103 }], attributes := #[] }
def k2m4 : Method := { name := "addUnscaled", desc := "(IJI)V", sig := { parameters := [.int, .long, .int], returnType := none }, accessFlags := 2, code := some k2c4 }
def k2c5 : Code := { maxStack := 6, maxLocals := 5, code := prog_40_method_18_code, exceptionTable := #[{ startPc := 39, endPc := 87, handlerPc := 88, catchType := 103 }], attributes := #[] }
def k2m5 : Method := { name := "raiseScale", desc := "(I)V", sig := { parameters := [.int], returnType := none }, accessFlags := 2, code := some k2c5 }
/-- com/example/viewlattice/viewlattice/engine/DecimalSums -/
def k2 : Class := { plain "com/example/viewlattice/viewlattice/engine/DecimalSums" (some 0) with
  accessFlags := 48
  interfaces := #[]
  cf := some (fileOf pool2 8 #[] #[{ accessFlags := 0, nameIndex := 5, descriptorIndex := 145, attributes := #[] }, { accessFlags := 0, nameIndex := 151, descriptorIndex := 152, attributes := #[] }, { accessFlags := 0, nameIndex := 155, descriptorIndex := 156, attributes := #[] }, { accessFlags := 0, nameIndex := 141, descriptorIndex := 164, attributes := #[] }, { accessFlags := 2, nameIndex := 92, descriptorIndex := 96, attributes := #[] }, { accessFlags := 2, nameIndex := 121, descriptorIndex := 122, attributes := #[] }] 48 2 #[] #[{ accessFlags := 26, nameIndex := 125, descriptorIndex := 12, attributes := #[] }, { accessFlags := 26, nameIndex := 142, descriptorIndex := 16, attributes := #[] }, { accessFlags := 2, nameIndex := 15, descriptorIndex := 16, attributes := #[] }, { accessFlags := 2, nameIndex := 11, descriptorIndex := 12, attributes := #[] }, { accessFlags := 2, nameIndex := 19, descriptorIndex := 20, attributes := #[] }])
  fields := #[{ name := "POWERS_OF_TEN", type := (.array .long), accessFlags := 26, slot := 0, constantValue := 0 }, { name := "LONG_DIGITS", type := .int, accessFlags := 26, slot := 1, constantValue := 0 }, { name := "scale", type := .int, accessFlags := 2, slot := 0, constantValue := 0 }, { name := "small", type := (.array .long), accessFlags := 2, slot := 1, constantValue := 0 }, { name := "big", type := (.array (.object "java/math/BigInteger")), accessFlags := 2, slot := 2, constantValue := 0 }]
  methods := #[k2m0, k2m1, k2m2, k2m3, k2m4, k2m5]
  instanceTypes := #[.int, (.array .long), (.array (.object "java/math/BigInteger"))]
  staticTypes := #[(.array .long), .int]
  resolved := Array.replicate 187 none
  statics := some 0 }

def pool3 : Array CpInfo := pool [(1, .class_ 2), (0, u "java/lang/Math"), (1, .class_ 6), (1, u "java/lang/Object"), (0, u "<init>"), (0, u "()V"), (89, .class_ 100), (1, u "java/lang/Math$RandomNumberGeneratorHolder"), (19, u "multiplyExact"), (0, u "(JJ)J"), (0, .methodref 1 123), (0, .nameAndType 124 125), (0, u "abs"), (0, u "(J)J"), (46, u "negativeZeroFloatBits"), (0, u "J"), (2, u "negativeZeroDoubleBits"), (21, u "max"), (46, u "$assertionsDisabled"), (0, u "Z"), (88, u "(II)I"), (2, u "twoToTheDoubleScaleDown"), (0, u "D"), (4, u "twoToTheDoubleScaleUp"), (9, u "E"), (3, u "PI"), (2, u "TAU"), (2, u "DEGREES_TO_RADIANS"), (0, u "RADIANS_TO_DEGREES"), (27, u "addExact")] 66

def k3m0 : Method := { name := "<init>", desc := "()V", sig := { parameters := [], returnType := none }, accessFlags := 2, code := none }
def k3c1 : Code := { maxStack := 6, maxLocals := 6, code := jdk_29_method_25_code, exceptionTable := #[], attributes := #[] }
def k3m1 : Method := { name := "addExact", desc := "(JJ)J", sig := { parameters := [.long, .long], returnType := some .long }, accessFlags := 9, code := some k3c1 }
def k3c2 : Code := { maxStack := 4, maxLocals := 10, code := jdk_29_method_30_code, exceptionTable := #[], attributes := #[] }
def k3m2 : Method := { name := "multiplyExact", desc := "(JJ)J", sig := { parameters := [.long, .long], returnType := some .long }, accessFlags := 9, code := some k3c2 }
def k3c3 : Code := { maxStack := 4, maxLocals := 2, code := jdk_29_method_61_code, exceptionTable := #[], attributes := #[] }
def k3m3 : Method := { name := "abs", desc := "(J)J", sig := { parameters := [.long], returnType := some .long }, accessFlags := 9, code := some k3c3 }
def k3c4 : Code := { maxStack := 2, maxLocals := 2, code := jdk_29_method_65_code, exceptionTable := #[], attributes := #[] }
def k3m4 : Method := { name := "max", desc := "(II)I", sig := { parameters := [.int, .int], returnType := some .int }, accessFlags := 9, code := some k3c4 }
/-- java/lang/Math -/
def k3 : Class := { plain "java/lang/Math" (some 0) with
  accessFlags := 49
  interfaces := #[]
  cf := some (fileOf pool3 1 #[.nestMembers #[98]] #[{ accessFlags := 2, nameIndex := 7, descriptorIndex := 8, attributes := #[] }, { accessFlags := 9, nameIndex := 393, descriptorIndex := 121, attributes := #[] }, { accessFlags := 9, nameIndex := 120, descriptorIndex := 121, attributes := #[] }, { accessFlags := 9, nameIndex := 124, descriptorIndex := 125, attributes := #[] }, { accessFlags := 9, nameIndex := 198, descriptorIndex := 335, attributes := #[] }] 49 4 #[] #[{ accessFlags := 25, nameIndex := 354, descriptorIndex := 339, attributes := #[] }, { accessFlags := 25, nameIndex := 358, descriptorIndex := 339, attributes := #[] }, { accessFlags := 25, nameIndex := 361, descriptorIndex := 339, attributes := #[] }, { accessFlags := 26, nameIndex := 364, descriptorIndex := 339, attributes := #[] }, { accessFlags := 26, nameIndex := 365, descriptorIndex := 339, attributes := #[] }, { accessFlags := 26, nameIndex := 172, descriptorIndex := 173, attributes := #[] }, { accessFlags := 26, nameIndex := 176, descriptorIndex := 173, attributes := #[] }, { accessFlags := 8, nameIndex := 344, descriptorIndex := 339, attributes := #[] }, { accessFlags := 8, nameIndex := 338, descriptorIndex := 339, attributes := #[] }, { accessFlags := 4120, nameIndex := 245, descriptorIndex := 246, attributes := #[] }])
  fields := #[{ name := "E", type := .double, accessFlags := 25, slot := 0, constantValue := 0 }, { name := "PI", type := .double, accessFlags := 25, slot := 1, constantValue := 0 }, { name := "TAU", type := .double, accessFlags := 25, slot := 2, constantValue := 0 }, { name := "DEGREES_TO_RADIANS", type := .double, accessFlags := 26, slot := 3, constantValue := 0 }, { name := "RADIANS_TO_DEGREES", type := .double, accessFlags := 26, slot := 4, constantValue := 0 }, { name := "negativeZeroFloatBits", type := .long, accessFlags := 26, slot := 5, constantValue := 0 }, { name := "negativeZeroDoubleBits", type := .long, accessFlags := 26, slot := 6, constantValue := 0 }, { name := "twoToTheDoubleScaleUp", type := .double, accessFlags := 8, slot := 7, constantValue := 0 }, { name := "twoToTheDoubleScaleDown", type := .double, accessFlags := 8, slot := 8, constantValue := 0 }, { name := "$assertionsDisabled", type := .boolean, accessFlags := 4120, slot := 9, constantValue := 0 }]
  methods := #[k3m0, k3m1, k3m2, k3m3, k3m4]
  instanceTypes := #[]
  staticTypes := #[.double, .double, .double, .double, .double, .long, .long, .double, .double, .boolean]
  resolved := Array.replicate 460 none
  statics := none }

def pool4 : Array CpInfo := pool [(1, u "java/lang/Cloneable"), (0, .class_ 1), (0, u "java/lang/Object"), (0, .class_ 3)] 3

/-- java/lang/Cloneable -/
def k4 : Class := { plain "java/lang/Cloneable" (some 0) with
  accessFlags := 1537
  interfaces := #[]
  cf := some (fileOf pool4 2 #[] #[] 1537 4 #[] #[])
  fields := #[]
  methods := #[]
  instanceTypes := #[]
  staticTypes := #[]
  resolved := Array.replicate 8 none
  statics := none }

def pool5 : Array CpInfo := pool [(1, u "java/io/Serializable"), (0, .class_ 1), (0, u "java/lang/Object"), (0, .class_ 3)] 3

/-- java/io/Serializable -/
def k5 : Class := { plain "java/io/Serializable" (some 0) with
  accessFlags := 1537
  interfaces := #[]
  cf := some (fileOf pool5 2 #[] #[] 1537 4 #[] #[])
  fields := #[]
  methods := #[]
  instanceTypes := #[]
  staticTypes := #[]
  resolved := Array.replicate 8 none
  statics := none }

/-- the primitive byte -/
def k6 : Class := { plain "byte" none with kind := .primitive 'B', accessFlags := 0x411 }
/-- [B -/
def k7 : Class := { plain "[B" (some 0) with kind := .array 6 .byte, interfaces := #[4, 5], accessFlags := 1041 }

/-- the primitive char -/
def k8 : Class := { plain "char" none with kind := .primitive 'C', accessFlags := 0x411 }
/-- [C -/
def k9 : Class := { plain "[C" (some 0) with kind := .array 8 .char, interfaces := #[4, 5], accessFlags := 1041 }

/-- the primitive int -/
def k10 : Class := { plain "int" none with kind := .primitive 'I', accessFlags := 0x411 }
/-- [I -/
def k11 : Class := { plain "[I" (some 0) with kind := .array 10 .int, interfaces := #[4, 5], accessFlags := 1041 }

/-- the primitive long -/
def k12 : Class := { plain "long" none with kind := .primitive 'J', accessFlags := 0x411 }
/-- [J -/
def k13 : Class := { plain "[J" (some 0) with kind := .array 12 .long, interfaces := #[4, 5], accessFlags := 1041 }

def heap : Heap := #[{ cls := 2, slots := #[.ref 1, .int 0], vm := .statics 2 },
  { cls := 13, slots := #[.long 1, .long 10, .long 100, .long 1000, .long 10000, .long 100000, .long 1000000, .long 10000000, .long 100000000, .long 1000000000, .long 10000000000, .long 100000000000, .long 1000000000000, .long 10000000000000, .long 100000000000000, .long 1000000000000000, .long 10000000000000000, .long 100000000000000000, .long 1000000000000000000], vm := .none }]
def classes : Array Class := #[k0, k1, k2, k3, k4, k5, k6, k7, k8, k9, k10, k11, k12, k13]
def interned : List (Array UInt16 × Addr) := []
def slotsUsed : Nat := 21
def theMethod : MethodId := ⟨1, 1⟩
def args0 : Array Value := #[.int 2, .int 3, .int 4, .int 5, .int 6, .int 7]
def aboutOver (below : List Frame) : State where
  vm := { classes := classes, interned := interned.toArray }
  heap := heap
  slotsUsed := slotsUsed
  threads := #[{ frames := .invoking theMethod args0 :: below }]
def below0 : List Frame := [.native { method := ⟨0, 0⟩, args := #[] }]
def about1 : State := aboutOver below0
def p0 : Program := .bare "" "" ""
def e0 : Env := launch0.env 0 0 0
theorem w_frames : about1.frames = Frame.invoking theMethod args0 :: below0 := rfl
set_option maxRecDepth 65536 in
theorem w_args : argsFit about1.vm theMethod args0 = true := by decide +kernel
set_option maxRecDepth 65536 in
theorem w_heap : heapFits about1 = true := by decide +kernel
set_option maxRecDepth 65536 in
theorem w_runnable : about1.curStatus? = some .runnable := by decide +kernel
set_option maxRecDepth 65536 in
theorem w_alone : about1.alone = true := by decide +kernel
set_option maxRecDepth 65536 in
theorem w_named : about1.methodNamed? x = some theMethod := by decide +kernel
set_option maxRecDepth 65536 in
theorem w_hears : about1.hears theMethod below0 = true := by decide +kernel
set_option maxRecDepth 65536 in
theorem w_ripe : about1.ripe theMethod args0 below0 = true := by decide +kernel
theorem w_running : about1.status = .running := rfl
set_option maxRecDepth 65536 in
theorem w_room : about1.hasRoom e0.platform room_1 = true :=
  launch0.hasRoom_least _ room_1 (by decide +kernel) (by decide +kernel) (by decide +kernel) (by decide +kernel) (by decide +kernel) (by decide +kernel)
theorem allAtoms_all (ts : List Jvm.Cond) (a : Array Jvm.Value) (st : Jvm.State) : (allAtoms ts).before a st = ts.all (fun c => c.before a st) := by
  induction ts with
  | nil => rfl
  | cons c t ih =>
    show (Jvm.Cond.and c (allAtoms t)).before a st = _
    rw [Jvm.Cond.before_and, ih, List.all_cons]
def words1 : List Jvm.Cond := Jvm.Cond.code x code maxLocals ret :: tables_1
/-- a 'code' word, met by the world's own term for the bytes: nothing is compared byte by byte -/
theorem code_word {y : MethodName} {bytes : ByteArray} {mx : Nat} {rt : Option FieldType} {a : Array Value} {s : State} {m : MethodId} {meth : Method} {c : Code} (h1 : s.methodNamed? y = some m) (h2 : s.vm.method? m = some meth) (h3 : meth.code = some c) (h4 : c.code = bytes)
    (h5 : (c.maxLocals == mx && c.exceptionTable.isEmpty && decide (c.maxStack ≤ mostOperands) && decide (meth.sig.returnType = rt) && !meth.locks && decide (parseMethodDescriptor y.desc = some meth.sig)) = true) : (Jvm.Cond.code y bytes mx rt).before a s = true := by
  simp only [Bool.and_eq_true, beq_iff_eq, Bool.not_eq_true', decide_eq_true_eq] at h5
  obtain ⟨⟨⟨⟨⟨g1, g2⟩, g3⟩, g4⟩, g5⟩, g6⟩ := h5
  simp [Cond.before, Cond.holds, Cond.value, h1, h2, h3, h4, g1, g2, g3, g4, g5, g6]
def isCode : Jvm.Cond → Bool
  | .code _ _ _ _ => true
  | _ => false
theorem all_split {L : List Jvm.Cond} {P : Jvm.Cond → Bool} (h1 : L.all (fun c => isCode c || P c) = true) (h2 : ∀ c ∈ L.filter isCode, P c = true) : L.all P = true := by
  refine List.all_eq_true.mpr fun c hc => ?_
  have h := List.all_eq_true.mp h1 c hc
  rcases Bool.eq_false_or_eq_true (isCode c) with hi | hi
  · exact h2 c (List.mem_filter.mpr ⟨hc, hi⟩)
  · simpa [hi] using h
set_option maxRecDepth 65536 in
theorem w_c0 : (Jvm.Cond.code x code maxLocals ret).before args0 about1 = true := code_word (m := ⟨1, 1⟩) (meth := k1m1) (c := k1c1) (by decide +kernel) rfl rfl rfl (by decide +kernel)
set_option maxRecDepth 65536 in
theorem w_c1 : (Jvm.Cond.code ({ cls := "com/example/viewlattice/viewlattice/engine/DecimalSums", name := "<init>", desc := "(II)V" } : Jvm.MethodName) prog_40_method_1_code (3 : Nat) (Option.none : Option Jvm.ClassFile.FieldType)).before args0 about1 = true := code_word (m := ⟨2, 0⟩) (meth := k2m0) (c := k2c0) (by decide +kernel) rfl rfl rfl (by decide +kernel)
set_option maxRecDepth 65536 in
theorem w_c2 : (Jvm.Cond.code ({ cls := "java/lang/Object", name := "<init>", desc := "()V" } : Jvm.MethodName) object_method_1_code (1 : Nat) (Option.none : Option Jvm.ClassFile.FieldType)).before args0 about1 = true := code_word (m := ⟨0, 0⟩) (meth := k0m0) (c := k0c0) (by decide +kernel) rfl rfl rfl (by decide +kernel)
set_option maxRecDepth 65536 in
theorem w_c3 : (Jvm.Cond.code ({ cls := "com/example/viewlattice/viewlattice/engine/DecimalSums", name := "getUnscaledLongs", desc := "()[J" } : Jvm.MethodName) prog_40_method_5_code (1 : Nat) (Option.some (Jvm.ClassFile.FieldType.array Jvm.ClassFile.FieldType.long))).before args0 about1 = true := code_word (m := ⟨2, 2⟩) (meth := k2m2) (c := k2c2) (by decide +kernel) rfl rfl rfl (by decide +kernel)
set_option maxRecDepth 65536 in
theorem w_c4 : (Jvm.Cond.code ({ cls := "com/example/viewlattice/viewlattice/engine/DecimalSumsGetUnscaledLongsPinLaw", name := "cell", desc := "([JIIIIJJ)Z" } : Jvm.MethodName) method_3_code (11 : Nat) (Option.some Jvm.ClassFile.FieldType.boolean)).before args0 about1 = true := code_word (m := ⟨1, 2⟩) (meth := k1m2) (c := k1c2) (by decide +kernel) rfl rfl rfl (by decide +kernel)
set_option maxRecDepth 65536 in
theorem w_c5 : (Jvm.Cond.code ({ cls := "com/example/viewlattice/viewlattice/engine/DecimalSums", name := "add", desc := "(I[CII)Z" } : Jvm.MethodName) prog_40_method_11_code (12 : Nat) (Option.some Jvm.ClassFile.FieldType.boolean)).before args0 about1 = true := code_word (m := ⟨2, 3⟩) (meth := k2m3) (c := k2c3) (by decide +kernel) rfl rfl rfl (by decide +kernel)
set_option maxRecDepth 65536 in
theorem w_c6 : (Jvm.Cond.code ({ cls := "java/lang/Math", name := "max", desc := "(II)I" } : Jvm.MethodName) jdk_29_method_65_code (2 : Nat) (Option.some Jvm.ClassFile.FieldType.int)).before args0 about1 = true := code_word (m := ⟨3, 4⟩) (meth := k3m4) (c := k3c4) (by decide +kernel) rfl rfl rfl (by decide +kernel)
set_option maxRecDepth 65536 in
theorem w_c7 : (Jvm.Cond.code ({ cls := "java/lang/Math", name := "multiplyExact", desc := "(JJ)J" } : Jvm.MethodName) jdk_29_method_30_code (10 : Nat) (Option.some Jvm.ClassFile.FieldType.long)).before args0 about1 = true := code_word (m := ⟨3, 2⟩) (meth := k3m2) (c := k3c2) (by decide +kernel) rfl rfl rfl (by decide +kernel)
set_option maxRecDepth 65536 in
theorem w_c8 : (Jvm.Cond.code ({ cls := "java/lang/Math", name := "abs", desc := "(J)J" } : Jvm.MethodName) jdk_29_method_61_code (2 : Nat) (Option.some Jvm.ClassFile.FieldType.long)).before args0 about1 = true := code_word (m := ⟨3, 3⟩) (meth := k3m3) (c := k3c3) (by decide +kernel) rfl rfl rfl (by decide +kernel)
set_option maxRecDepth 65536 in
theorem w_c9 : (Jvm.Cond.code ({ cls := "java/lang/Math", name := "addExact", desc := "(JJ)J" } : Jvm.MethodName) jdk_29_method_25_code (6 : Nat) (Option.some Jvm.ClassFile.FieldType.long)).before args0 about1 = true := code_word (m := ⟨3, 1⟩) (meth := k3m1) (c := k3c1) (by decide +kernel) rfl rfl rfl (by decide +kernel)
set_option maxRecDepth 65536 in
theorem w_c10 : (Jvm.Cond.code ({ cls := "com/example/viewlattice/viewlattice/engine/DecimalSumsGetUnscaledLongsPinLaw", name := "pow10", desc := "(I)J" } : Jvm.MethodName) method_4_code (1 : Nat) (Option.some Jvm.ClassFile.FieldType.long)).before args0 about1 = true := code_word (m := ⟨1, 3⟩) (meth := k1m3) (c := k1c3) (by decide +kernel) rfl rfl rfl (by decide +kernel)
set_option maxRecDepth 65536 in
theorem w_c11 : (Jvm.Cond.code ({ cls := "com/example/viewlattice/viewlattice/engine/DecimalSums", name := "getScale", desc := "()I" } : Jvm.MethodName) prog_40_method_3_code (1 : Nat) (Option.some Jvm.ClassFile.FieldType.int)).before args0 about1 = true := code_word (m := ⟨2, 1⟩) (meth := k2m1) (c := k2c1) (by decide +kernel) rfl rfl rfl (by decide +kernel)
def codes1 : List Jvm.Cond := [Jvm.Cond.code x code maxLocals ret, Jvm.Cond.code ({ cls := "com/example/viewlattice/viewlattice/engine/DecimalSums", name := "<init>", desc := "(II)V" } : Jvm.MethodName) prog_40_method_1_code (3 : Nat) (Option.none : Option Jvm.ClassFile.FieldType), Jvm.Cond.code ({ cls := "java/lang/Object", name := "<init>", desc := "()V" } : Jvm.MethodName) object_method_1_code (1 : Nat) (Option.none : Option Jvm.ClassFile.FieldType), Jvm.Cond.code ({ cls := "com/example/viewlattice/viewlattice/engine/DecimalSums", name := "getUnscaledLongs", desc := "()[J" } : Jvm.MethodName) prog_40_method_5_code (1 : Nat) (Option.some (Jvm.ClassFile.FieldType.array Jvm.ClassFile.FieldType.long)), Jvm.Cond.code ({ cls := "com/example/viewlattice/viewlattice/engine/DecimalSumsGetUnscaledLongsPinLaw", name := "cell", desc := "([JIIIIJJ)Z" } : Jvm.MethodName) method_3_code (11 : Nat) (Option.some Jvm.ClassFile.FieldType.boolean), Jvm.Cond.code ({ cls := "com/example/viewlattice/viewlattice/engine/DecimalSums", name := "add", desc := "(I[CII)Z" } : Jvm.MethodName) prog_40_method_11_code (12 : Nat) (Option.some Jvm.ClassFile.FieldType.boolean), Jvm.Cond.code ({ cls := "java/lang/Math", name := "max", desc := "(II)I" } : Jvm.MethodName) jdk_29_method_65_code (2 : Nat) (Option.some Jvm.ClassFile.FieldType.int), Jvm.Cond.code ({ cls := "java/lang/Math", name := "multiplyExact", desc := "(JJ)J" } : Jvm.MethodName) jdk_29_method_30_code (10 : Nat) (Option.some Jvm.ClassFile.FieldType.long), Jvm.Cond.code ({ cls := "java/lang/Math", name := "abs", desc := "(J)J" } : Jvm.MethodName) jdk_29_method_61_code (2 : Nat) (Option.some Jvm.ClassFile.FieldType.long), Jvm.Cond.code ({ cls := "java/lang/Math", name := "addExact", desc := "(JJ)J" } : Jvm.MethodName) jdk_29_method_25_code (6 : Nat) (Option.some Jvm.ClassFile.FieldType.long), Jvm.Cond.code ({ cls := "com/example/viewlattice/viewlattice/engine/DecimalSumsGetUnscaledLongsPinLaw", name := "pow10", desc := "(I)J" } : Jvm.MethodName) method_4_code (1 : Nat) (Option.some Jvm.ClassFile.FieldType.long), Jvm.Cond.code ({ cls := "com/example/viewlattice/viewlattice/engine/DecimalSums", name := "getScale", desc := "()I" } : Jvm.MethodName) prog_40_method_3_code (1 : Nat) (Option.some Jvm.ClassFile.FieldType.int)]
set_option maxRecDepth 65536 in
theorem codes_eq : words1.filter isCode = codes1 := rfl
theorem w_codes : ∀ c ∈ words1.filter isCode, c.before args0 about1 = true := by
  rw [codes_eq]
  intro c hc
  simp only [codes1, List.mem_cons, List.not_mem_nil, or_false] at hc
  rcases hc with rfl | rfl | rfl | rfl | rfl | rfl | rfl | rfl | rfl | rfl | rfl | rfl
  · exact w_c0
  · exact w_c1
  · exact w_c2
  · exact w_c3
  · exact w_c4
  · exact w_c5
  · exact w_c6
  · exact w_c7
  · exact w_c8
  · exact w_c9
  · exact w_c10
  · exact w_c11
set_option maxRecDepth 65536 in
theorem w_t1 : (words1.take 24).all (fun c => isCode c || c.before args0 about1) = true := by decide +kernel
set_option maxRecDepth 65536 in
theorem w_t2 : ((words1.drop 24).take 24).all (fun c => isCode c || c.before args0 about1) = true := by decide +kernel
set_option maxRecDepth 65536 in
theorem w_t3 : ((words1.drop 24).drop 24).all (fun c => isCode c || c.before args0 about1) = true := by decide +kernel
theorem w_tables : (allAtoms (Jvm.Cond.code x code maxLocals ret :: tables_1)).before args0 about1 = true := by
  rw [allAtoms_all]
  show words1.all (fun c => c.before args0 about1) = true
  refine all_split ?_ w_codes
  rw [← List.take_append_drop 24 words1, List.all_append, w_t1, ← List.take_append_drop 24 (words1.drop 24), List.all_append, w_t2, w_t3]
  rfl
set_option maxRecDepth 65536 in
theorem w_case : (Jvm.Cond.and given_1 narrow_1).before args0 about1 = true := by decide +kernel
theorem w_applies : (headSpec (Jvm.Cond.code x code maxLocals ret :: tables_1) room_1).applies x e0.platform about1 = true :=
  (Spec.applies_iff w_frames).mpr ⟨w_running, w_runnable, w_alone, w_named, w_hears, w_ripe, w_room, w_tables⟩
set_option maxRecDepth 65536 in
theorem atStart : AtStart classFile x code maxLocals ret World_1 tables_1 room_1 Calls_1 rest_1 Pre_1 launch0 p0 e0 about1 theMethod args0 below0 :=
  ⟨lists_1, trivial, launch0.admits_env _ _ _, launch0.least_env, fairChoices_fair.cas, fairChoices_fair.clock, w_frames, w_args, w_heap, w_applies, trivial, trivial, w_case⟩
end start1
theorem witness_1 : WitnessClaimed_1 := ⟨start1.p0, start1.e0, start1.about1, start1.theMethod, start1.args0, start1.below0, start1.atStart⟩
end Jvm.Pilot.@@N@@
